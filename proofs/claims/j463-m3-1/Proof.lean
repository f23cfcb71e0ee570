import JvmDerived
import JvmDerived.Pilot.@@N@@Statement
import JvmDerived.Pilot.@@N@@Code
set_option linter.unusedVariables false
set_option linter.unusedSimpArgs false
namespace Jvm.Free.XS
/-- lcmp's int; iushr's int -/
def cmpL (x y : Int64) : Int32 := if x > y then 1 else if x = y then 0 else -1
def ushr (x y : Int32) : Int32 := (x.toUInt32 >>> (y &&& 31).toUInt32).toInt32
end Jvm.Free.XS
namespace Jvm.RoadKit
open Sem ClassFile Op Lib Jvm.Stand Jvm.Free Jvm.LawKit
section Going
variable {p : Program} {l : Launch} {e : Env} {R : Room} {s : State} {m : MethodId} {args : Array Value} {below : List Frame} {meth : Method} {c : Code} {T T' : State} {locs : List Loc} {cells slots : Nat} {K N : Nat} {Q : Option Value → Heap → List Loc → Prop} {F : Option Value → State → Prop} {g g' : JFrame} {Z : State} {a0 : Array Value} {h : Heap}
/-- from this frame the run comes to the method's return, with what F says of the value and the end -/
def Go (p : Program) (e : Env) (below : List Frame) (F : Option Value → State → Prop) (T : State) (g : JFrame) : Prop :=
  ∃ s₂ o, Steps p.tables e below (T.setTop g) s₂ ∧ s₂.status = .running ∧ Ended s₂ below o ∧ ∃ v, o = .returned v ∧ F v s₂
/-- what is said of an end: Q of the value, the heap and the places written; and the frame -/
def GoEnd (s : State) (K N : Nat) (Q : Option Value → Heap → List Loc → Prop) (v : Option Value) (t : State) : Prop := ∃ L, Q v t.heap L ∧ FrameEnd s (.returned v) t L K N
theorem Go.of (q : ∀ t, Steps p.tables e below (T'.setTop g') t → Steps p.tables e below (T.setTop g) t) (k : Go p e below F T' g') : Go p e below F T g := by
  obtain ⟨s₂, o, h1, r⟩ := k; exact ⟨s₂, o, q _ h1, r⟩
theorem Go.via (q : Steps p.tables e below (T.setTop g) (T'.setTop g')) (k : Go p e below F T' g') : Go p e below F T g := Go.of (fun _ r => q.trans r) k
theorem Go.cast (q : g = g') (k : Go p e below F T g') : Go p e below F T g := q ▸ k
/-- a body's contract out of its walk -/
theorem goBody {y : MethodName} {bytes : ByteArray} {maxL : Nat} {ret : Option FieldType} {ws : List Cond} {rm : Room} {as' : Array Value} (hp : plainFor y = true)
    (body : ∀ p e s m below meth c s₁, p.tables.exec = Jvm.exec → Z.Warmed39 s.vm → c.code = bytes → c.maxLocals = maxL → s.vm.findClass y.cls = some m.cls → meth.name = y.name → meth.sig.returnType = ret → meth.locks = false →
      Stand p l e rm s m as' below meth c s₁ [] 0 0 → s₁.heap = h → Go p e below (GoEnd s rm.cells rm.slots Q) s₁ (entryFrame m as' maxL)) :
    MetFree l y (head1 (Cond.code y bytes maxL ret :: ws) rm) (fun a U => a = as' ∧ Z.Warmed39 U.vm ∧ U.heap = h) (fun _ _ _ _ _ => True) (fun _ U o U' => ∃ v L, o = .returned v ∧ Q v U'.heap L ∧ FrameEnd U o U' L rm.cells rm.slots) := by
  refine MetFree.of_bodySF hp hisR ?_
  intro p e s m args below meth c s₁ Bd hml hP hK
  obtain ⟨rfl, hZ, hh⟩ := hP
  obtain ⟨s₂, o, h1, h2, h3, v, rfl, L, h4, h5⟩ := body p e s m below meth c s₁ Bd.exec hZ Bd.bytes hml (findClass_of_methodNamed Bd.named) (name_of_methodNamed Bd.named Bd.method).1 Bd.returns Bd.notSynchronized (Stand.of_body Bd) (by rw [← hh, Bd.state]; rfl)
  exact ⟨s₂, _, h1, h2, h3, v, L, rfl, h4, h5⟩
theorem Go.retI (X : Stand p l e R s m args below meth c T locs cells slots) (hx : p.tables.exec = Jvm.exec) (hlk : meth.locks = false) {pc : Nat} {Ls : Array Slot} {z : Int32} {rest : List Value} (hret : meth.sig.returnType = some .int) (hd : decode c.code pc = .ok (.ireturn, 1)) (hK : cells ≤ K) (hN : slots ≤ N) (hq : Q (some (.int z)) T.heap locs) : Go p e below (GoEnd s K N Q) T (mkF m pc Ls (.int z :: rest)) := by
  obtain ⟨fs, hr, hrun, hended, hW, hsame⟩ := X.leave (v := some (.int z)) (fun h => by rw [hret] at h; cases h) hlk
  exact ⟨_, _, retOut X hx (t := .int) (i := .ireturn) hret rfl (Or.inl ⟨rfl, Or.inl rfl, z, rfl⟩) hd hr, hrun, hended, _, rfl, _, hq, ⟨_, rfl⟩, hW, hsame.mono hK hN⟩
theorem Go.retN (X : Stand p l e R s m args below meth c T locs cells slots) (hx : p.tables.exec = Jvm.exec) (hlk : meth.locks = false) {pc : Nat} {Ls : Array Slot} {z : Int32} {t : FieldType} {rest : List Value} (hret : meth.sig.returnType = some t) (ht : t = .boolean ∨ t = .byte ∨ t = .char ∨ t = .short) (hd : decode c.code pc = .ok (.ireturn, 1)) (hK : cells ≤ K) (hN : slots ≤ N) (hq : Q (some (.int (nar t z))) T.heap locs) : Go p e below (GoEnd s K N Q) T (mkF m pc Ls (.int z :: rest)) := by
  obtain ⟨fs, hr, hrun, hended, hW, hsame⟩ := X.leave (v := some (.int (nar t z))) (fun h => by rw [hret] at h; cases h) hlk
  exact ⟨_, _, Jvm.RoadKit.retN X hx (t := t) hret ht hd hr, hrun, hended, _, rfl, _, hq, ⟨_, rfl⟩, hW, hsame.mono hK hN⟩
theorem Go.retJ (X : Stand p l e R s m args below meth c T locs cells slots) (hx : p.tables.exec = Jvm.exec) (hlk : meth.locks = false) {pc : Nat} {Ls : Array Slot} {z : Int64} {rest : List Value} (hret : meth.sig.returnType = some .long) (hd : decode c.code pc = .ok (.lreturn, 1)) (hK : cells ≤ K) (hN : slots ≤ N) (hq : Q (some (.long z)) T.heap locs) : Go p e below (GoEnd s K N Q) T (mkF m pc Ls (.long z :: rest)) := by
  obtain ⟨fs, hr, hrun, hended, hW, hsame⟩ := X.leave (v := some (.long z)) (fun h => by rw [hret] at h; cases h) hlk
  exact ⟨_, _, retOut X hx (t := .long) (i := .lreturn) hret rfl (Or.inr (Or.inl ⟨rfl, rfl, z, rfl⟩)) hd hr, hrun, hended, _, rfl, _, hq, ⟨_, rfl⟩, hW, hsame.mono hK hN⟩
theorem Go.retD (X : Stand p l e R s m args below meth c T locs cells slots) (hx : p.tables.exec = Jvm.exec) (hlk : meth.locks = false) {pc : Nat} {Ls : Array Slot} {z : UInt64} {rest : List Value} (hret : meth.sig.returnType = some .double) (hd : decode c.code pc = .ok (.dreturn, 1)) (hK : cells ≤ K) (hN : slots ≤ N) (hq : Q (some (.double z)) T.heap locs) : Go p e below (GoEnd s K N Q) T (mkF m pc Ls (.double z :: rest)) := by
  obtain ⟨fs, hr, hrun, hended, hW, hsame⟩ := X.leave (v := some (.double z)) (fun h => by rw [hret] at h; cases h) hlk
  exact ⟨_, _, retOut X hx (t := .double) (i := .dreturn) hret rfl (Or.inr (Or.inr (Or.inl ⟨rfl, rfl, z, rfl⟩))) hd hr, hrun, hended, _, rfl, _, hq, ⟨_, rfl⟩, hW, hsame.mono hK hN⟩
theorem Go.retA (X : Stand p l e R s m args below meth c T locs cells slots) (hx : p.tables.exec = Jvm.exec) (hlk : meth.locks = false) {pc : Nat} {Ls : Array Slot} {v : Value} {t : FieldType} {rest : List Value} (hret : meth.sig.returnType = some t) (ht : t.isReference = true) (hv : v.isRef = true) (hn : narrow t v = v) (hd : decode c.code pc = .ok (.areturn, 1)) (hK : cells ≤ K) (hN : slots ≤ N) (hq : Q (some v) T.heap locs) : Go p e below (GoEnd s K N Q) T (mkF m pc Ls (v :: rest)) := by
  obtain ⟨fs, hr, hrun, hended, hW, hsame⟩ := X.leave (v := some v) (fun h => by rw [hret] at h; cases h) hlk
  exact ⟨_, _, retOut X hx (t := t) (i := .areturn) hret hn (Or.inr (Or.inr (Or.inr (Or.inr ⟨rfl, ht, hv⟩)))) hd hr, hrun, hended, _, rfl, _, hq, ⟨_, rfl⟩, hW, hsame.mono hK hN⟩
theorem Go.retV (X : Stand p l e R s m args below meth c T locs cells slots) (hx : p.tables.exec = Jvm.exec) (hlk : meth.locks = false) {pc : Nat} {Ls : Array Slot} (hret : meth.sig.returnType = none) (hd : decode c.code pc = .ok (.return_, 1)) (hK : cells ≤ K) (hN : slots ≤ N) (hq : Q none T.heap locs) : Go p e below (GoEnd s K N Q) T (mkF m pc Ls []) := by
  obtain ⟨fs, hr, hrun, hended, hW, hsame⟩ := X.leave (v := none) (fun _ => rfl) hlk
  exact ⟨_, _, X.returnOut hx hret hd hr, hrun, hended, _, rfl, _, hq, ⟨_, rfl⟩, hW, hsame.mono hK hN⟩
/-- what a callee that writes and makes nothing leaves -/
def PQ (h : Heap) (r : Option Value) (v : Option Value) (h' : Heap) (L : List Loc) : Prop := v = r ∧ L = [] ∧ h' = h
/-- a contract in the form in which a call takes it -/
abbrev MetAt (l : Launch) (Z : State) (y : MethodName) (bytes : ByteArray) (maxL : Nat) (ret : Option FieldType) (rm : Room) (as' : Array Value) (h : Heap) (Q : Option Value → Heap → List Loc → Prop) : Prop :=
  MetFree l y (head1 [Cond.code y bytes maxL ret] rm) (fun a U => a = as' ∧ Z.Warmed39 U.vm ∧ U.heap = h) (fun _ _ _ _ _ => True) (fun _ U o U' => ∃ v L, o = .returned v ∧ Q v U'.heap L ∧ FrameEnd U o U' L rm.cells rm.slots)
variable {own : String} {index : Nat} {y z : MethodName} {bytes : ByteArray} {maxL W pc : Nat} {ret : Option FieldType} {rm : Room} {Qc : Option Value → Heap → List Loc → Prop} {argsL rest st : List Value} {Ls : Array Slot}
theorem Go.callS (X : Stand p l e R s m args below meth c T locs cells slots) (hx : p.tables.exec = Jvm.exec) (hZ : Z.Warmed39 s.vm) (hown : s.vm.findClass own = some m.cls)
    (wl : (Cond.methodLink own index y).before a0 Z = true) (ws : (Cond.static y).before a0 Z = true) (wz : (Cond.initialized y.cls).before a0 Z = true) (wc : (Cond.code y bytes maxL ret).before a0 Z = true)
    (hy : y.cls ≠ "java/lang/invoke/MethodHandle" ∧ y.cls ≠ "java/lang/invoke/VarHandle") (hM : MetAt l Z y bytes maxL ret rm argsL.toArray h Qc) (eT : T.heap = h) (hsize : Ls.size = c.maxLocals)
    (hlen : ∀ sig, parseMethodDescriptor y.desc = some sig → argsL.length = sig.parameters.length) (hd : decode c.code pc = .ok (.invokestatic index, 3)) (hst : st = argsL.reverse ++ rest)
    (hW : (rest.map fun v => v.category).sum ≤ W) (hf : rm.frames + 1 ≤ R.frames) (hl : W + (maxL + 11) + rm.locals ≤ R.locals) (hc : cells + rm.cells ≤ R.cells) (hs : slots + rm.slots ≤ R.slots)
    (k : ∀ v T' L', Stand p l e R s m args below meth c T' (locs ++ L') (cells + rm.cells) (slots + rm.slots) → Qc v T'.heap L' → Go p e below F T' (mkF m (pc + 3) Ls (v.toList ++ rest))) : Go p e below F T (mkF m pc Ls st) := by
  obtain ⟨v, vm₁, ⟨T', L', k', n'⟩, -, X', ⟨Lc, hQ, l1, y1, z1⟩, stp⟩ := Jvm.LawKit.callS X hx hown (mvT hZ wl) (mvT hZ ws) (mvT hZ wz) (mvT hZ wc) hy (backOf (W := W) hM hZ wc wz hf hl) (g := mkF m pc Ls st) rfl hsize hlen hst (by show 2 * 0 + _ ≤ _; omega) hd (fun _ _ => ⟨rfl, eT, hc, hs⟩)
  dsimp only [Pt.U, Pt.locs, Pt.cells, Pt.slots] at X' l1 y1 z1 stp hQ
  subst l1 y1 z1
  exact Go.of stp (k v T' Lc X' hQ)
theorem Go.callSP (X : Stand p l e R s m args below meth c T locs cells slots) (hx : p.tables.exec = Jvm.exec) (hZ : Z.Warmed39 s.vm) (hown : s.vm.findClass own = some m.cls)
    (wl : (Cond.methodLink own index y).before a0 Z = true) (ws : (Cond.static y).before a0 Z = true) (wz : (Cond.initialized y.cls).before a0 Z = true) (wc : (Cond.code y bytes maxL ret).before a0 Z = true)
    (hy : y.cls ≠ "java/lang/invoke/MethodHandle" ∧ y.cls ≠ "java/lang/invoke/VarHandle") {r : Option Value} {fr lo : Nat} (hM : MetAt l Z y bytes maxL ret { frames := fr, cells := 0, slots := 0, locals := lo } argsL.toArray h (PQ h r)) (eT : T.heap = h) (hsize : Ls.size = c.maxLocals)
    (hlen : ∀ sig, parseMethodDescriptor y.desc = some sig → argsL.length = sig.parameters.length) (hd : decode c.code pc = .ok (.invokestatic index, 3)) (hst : st = argsL.reverse ++ rest)
    (hW : (rest.map fun v => v.category).sum ≤ W) (hf : fr + 1 ≤ R.frames) (hl : W + (maxL + 11) + lo ≤ R.locals) (hc : cells ≤ R.cells) (hs : slots ≤ R.slots)
    (k : ∀ T', Stand p l e R s m args below meth c T' locs cells slots → T'.heap = h → Go p e below F T' (mkF m (pc + 3) Ls (r.toList ++ rest))) : Go p e below F T (mkF m pc Ls st) := by
  refine Go.callS X hx hZ hown wl ws wz wc hy hM eT hsize hlen hd hst hW hf hl hc hs fun v T' L' X' q => ?_
  obtain ⟨rfl, rfl, e'⟩ := q
  rw [List.append_nil] at X'
  exact k T' X' e'
theorem Go.callI (X : Stand p l e R s m args below meth c T locs cells slots) (hx : p.tables.exec = Jvm.exec) (hZ : Z.Warmed39 s.vm) (hy1 : y.name = "<init>") (hown : s.vm.findClass own = some m.cls)
    (wl : (Cond.methodLink own index y).before a0 Z = true) (wi : (Cond.instanceMethod y).before a0 Z = true) (wz : (Cond.initialized y.cls).before a0 Z = true) (wc : (Cond.code y bytes maxL none).before a0 Z = true)
    (hy : y.cls ≠ "java/lang/invoke/MethodHandle" ∧ y.cls ≠ "java/lang/invoke/VarHandle") {a : Addr} (hM : MetAt l Z y bytes maxL none rm (.ref a :: argsL).toArray h Qc) (eT : T.heap = h) (hsize : Ls.size = c.maxLocals)
    (hlen : ∀ sig, parseMethodDescriptor y.desc = some sig → argsL.length = sig.parameters.length) (hd : decode c.code pc = .ok (.invokespecial index, 3)) (hst : st = argsL.reverse ++ .ref a :: rest)
    (hW : (rest.map fun v => v.category).sum ≤ W) (hf : rm.frames + 1 ≤ R.frames) (hl : W + (maxL + 11) + rm.locals ≤ R.locals) (hc : cells + rm.cells ≤ R.cells) (hs : slots + rm.slots ≤ R.slots)
    (k : ∀ v T' L', Stand p l e R s m args below meth c T' (locs ++ L') (cells + rm.cells) (slots + rm.slots) → Qc v T'.heap L' → Go p e below F T' (mkF m (pc + 3) Ls (v.toList ++ rest))) : Go p e below F T (mkF m pc Ls st) := by
  obtain ⟨v, vm₁, ⟨T', L', k', n'⟩, -, X', ⟨Lc, hQ, l1, y1, z1⟩, stp⟩ := X.specialBack hx hy1 hown (mvT hZ wl) (mvT hZ wi) (mvT hZ wc) hy (backOf (W := W) hM hZ wc wz hf hl) (g := mkF m pc Ls st) rfl hsize (Steps.refl _) (a := a) hlen hst (by show 2 * 0 + _ ≤ _; omega) hd (fun _ _ => ⟨rfl, eT, hc, hs⟩)
  dsimp only [Pt.U, Pt.locs, Pt.cells, Pt.slots] at X' l1 y1 z1 stp hQ
  subst l1 y1 z1
  exact Go.via stp (k v T' Lc X' hQ)
theorem Go.callV (X : Stand p l e R s m args below meth c T locs cells slots) (hx : p.tables.exec = Jvm.exec) (hZ : Z.Warmed39 s.vm) (hown : s.vm.findClass own = some m.cls) {C : String}
    (wl : (Cond.methodLink own index y).before a0 Z = true) (wd : (Cond.declares y).before a0 Z = true) (hnf : NotFace s y) (wse : (Cond.selects C y z).before a0 Z = true) (wi : (Cond.instanceMethod z).before a0 Z = true) (wz : (Cond.initialized z.cls).before a0 Z = true) (wc : (Cond.code z bytes maxL ret).before a0 Z = true)
    (hy : y.cls ≠ "java/lang/invoke/MethodHandle" ∧ y.cls ≠ "java/lang/invoke/VarHandle") {a : Addr} (hM : MetAt l Z z bytes maxL ret rm (.ref a :: argsL).toArray h Qc) (eT : T.heap = h) (hE : Exa Z h a C) (hsize : Ls.size = c.maxLocals)
    (hlen : ∀ sig, parseMethodDescriptor y.desc = some sig → argsL.length = sig.parameters.length) (hd : decode c.code pc = .ok (.invokevirtual index, 3)) (hst : st = argsL.reverse ++ .ref a :: rest)
    (hW : (rest.map fun v => v.category).sum ≤ W) (hf : rm.frames + 1 ≤ R.frames) (hl : W + (maxL + 11) + rm.locals ≤ R.locals) (hc : cells + rm.cells ≤ R.cells) (hs : slots + rm.slots ≤ R.slots)
    (k : ∀ v T' L', Stand p l e R s m args below meth c T' (locs ++ L') (cells + rm.cells) (slots + rm.slots) → Qc v T'.heap L' → Go p e below F T' (mkF m (pc + 3) Ls (v.toList ++ rest))) : Go p e below F T (mkF m pc Ls st) := by
  obtain ⟨cq, kq, q1, q2, q3⟩ := isOf hZ eT hE
  obtain ⟨v, vm₁, ⟨T', L', k', n'⟩, -, X', ⟨Lc, hQ, l1, y1, z1⟩, stp⟩ := X.virtualBack hx (y := y) (z := z) hown (mvT hZ wl) (mvT hZ wd) hnf (mvT hZ wse) (mvT hZ wi) hy (backOf (W := W) hM hZ wc wz hf hl) q1 q3 (g := mkF m pc Ls st) rfl hsize (Steps.refl _) hlen hst (by show 2 * 0 + _ ≤ _; omega) hd (fun _ _ => ⟨rfl, eT, hc, hs⟩)
  dsimp only [Pt.U, Pt.locs, Pt.cells, Pt.slots] at X' l1 y1 z1 stp hQ
  subst l1 y1 z1
  exact Go.via stp (k v T' Lc X' hQ)
theorem Go.callVP (X : Stand p l e R s m args below meth c T locs cells slots) (hx : p.tables.exec = Jvm.exec) (hZ : Z.Warmed39 s.vm) (hown : s.vm.findClass own = some m.cls) {C : String}
    (wl : (Cond.methodLink own index y).before a0 Z = true) (wd : (Cond.declares y).before a0 Z = true) (hnf : NotFace s y) (wse : (Cond.selects C y z).before a0 Z = true) (wi : (Cond.instanceMethod z).before a0 Z = true) (wz : (Cond.initialized z.cls).before a0 Z = true) (wc : (Cond.code z bytes maxL ret).before a0 Z = true)
    (hy : y.cls ≠ "java/lang/invoke/MethodHandle" ∧ y.cls ≠ "java/lang/invoke/VarHandle") {a : Addr} {r : Option Value} {fr lo : Nat} (hM : MetAt l Z z bytes maxL ret { frames := fr, cells := 0, slots := 0, locals := lo } (.ref a :: argsL).toArray h (PQ h r)) (eT : T.heap = h) (hE : Exa Z h a C) (hsize : Ls.size = c.maxLocals)
    (hlen : ∀ sig, parseMethodDescriptor y.desc = some sig → argsL.length = sig.parameters.length) (hd : decode c.code pc = .ok (.invokevirtual index, 3)) (hst : st = argsL.reverse ++ .ref a :: rest)
    (hW : (rest.map fun v => v.category).sum ≤ W) (hf : fr + 1 ≤ R.frames) (hl : W + (maxL + 11) + lo ≤ R.locals) (hc : cells ≤ R.cells) (hs : slots ≤ R.slots)
    (k : ∀ T', Stand p l e R s m args below meth c T' locs cells slots → T'.heap = h → Go p e below F T' (mkF m (pc + 3) Ls (r.toList ++ rest))) : Go p e below F T (mkF m pc Ls st) := by
  refine Go.callV X hx hZ hown wl wd hnf wse wi wz wc hy hM eT hE hsize hlen hd hst hW hf hl hc hs fun v T' L' X' q => ?_
  obtain ⟨rfl, rfl, e'⟩ := q
  rw [List.append_nil] at X'
  exact k T' X' e'
theorem Go.callIP (X : Stand p l e R s m args below meth c T locs cells slots) (hx : p.tables.exec = Jvm.exec) (hZ : Z.Warmed39 s.vm) (hy1 : y.name = "<init>") (hown : s.vm.findClass own = some m.cls)
    (wl : (Cond.methodLink own index y).before a0 Z = true) (wi : (Cond.instanceMethod y).before a0 Z = true) (wz : (Cond.initialized y.cls).before a0 Z = true) (wc : (Cond.code y bytes maxL none).before a0 Z = true)
    (hy : y.cls ≠ "java/lang/invoke/MethodHandle" ∧ y.cls ≠ "java/lang/invoke/VarHandle") {a : Addr} {fr lo : Nat} (hM : MetAt l Z y bytes maxL none { frames := fr, cells := 0, slots := 0, locals := lo } (.ref a :: argsL).toArray h (PQ h none)) (eT : T.heap = h) (hsize : Ls.size = c.maxLocals)
    (hlen : ∀ sig, parseMethodDescriptor y.desc = some sig → argsL.length = sig.parameters.length) (hd : decode c.code pc = .ok (.invokespecial index, 3)) (hst : st = argsL.reverse ++ .ref a :: rest)
    (hW : (rest.map fun v => v.category).sum ≤ W) (hf : fr + 1 ≤ R.frames) (hl : W + (maxL + 11) + lo ≤ R.locals) (hc : cells ≤ R.cells) (hs : slots ≤ R.slots)
    (k : ∀ T', Stand p l e R s m args below meth c T' locs cells slots → T'.heap = h → Go p e below F T' (mkF m (pc + 3) Ls rest)) : Go p e below F T (mkF m pc Ls st) := by
  refine Go.callI X hx hZ hy1 hown wl wi wz wc hy hM eT hsize hlen hd hst hW hf hl hc hs fun v T' L' X' q => ?_
  obtain ⟨rfl, rfl, e'⟩ := q
  rw [List.append_nil] at X'
  exact k T' X' e'
end Going
end Jvm.RoadKit
namespace Jvm.RoadKit
open Sem ClassFile Op Lib Jvm.Stand Jvm.Free Jvm.LawKit
section Heaping
variable {p : Program} {l : Launch} {e : Env} {R : Room} {s : State} {m : MethodId} {args : Array Value} {below : List Frame} {meth : Method} {c : Code} {T : State} {locs : List Loc} {cells slots : Nat} {Fi : Option Value → State → Prop} {Z : State} {a0 : Array Value} {h : Heap} {a : Addr} {k : ClassId} {ty : FieldType} {z j x : Int32} {vs rest st : List Value} {dv v : Value} {pc : Nat} {Ls : Array Slot} {own C O n d host : String} {index nn : Nat}
theorem Arv.load (F : Arv Z h a k ty z vs dv) (hj : ¬ j < 0 ∧ j < z) : ∃ cl, Arr Z h a cl ty ∧ ¬ (j < 0 ∨ cl.slots.size ≤ j.toNatClampNeg) ∧ cl.slots[j.toNatClampNeg]? = some (vs.getD j.toNatClampNeg dv) := by
  obtain ⟨cl, A, -, S, -, H, -⟩ := F
  exact ⟨cl, A, inb_of S hj, H.at (inb_of S hj) rfl⟩
theorem Go.iaload (X : Stand p l e R s m args below meth c T locs cells slots) (hx : p.tables.exec = Jvm.exec) (hZ : Z.Warmed39 s.vm) (eT : T.heap = h) (F : Arv Z h a k .int z vs dv) (hj : ¬ j < 0 ∧ j < z) (hv : vs.getD j.toNatClampNeg dv = v) (hd : decode c.code pc = .ok (.iaload, 1)) (kk : Go p e below Fi T (mkF m (pc + 1) Ls (v :: rest))) : Go p e below Fi T (mkF m pc Ls (.int j :: .ref a :: rest)) := by
  obtain ⟨cl, A, i1, i2⟩ := F.load hj
  rw [hv] at i2
  exact Go.of (fun t q => X.iaload hx (by rw [eT]; exact A.1) (State.isArrayOf_alike hZ.alike A.2.1) A.2.2 i1 i2 (g := mkF m pc Ls (.int j :: .ref a :: rest)) rfl rfl hd t q) kk
theorem Go.laload (X : Stand p l e R s m args below meth c T locs cells slots) (hx : p.tables.exec = Jvm.exec) (hZ : Z.Warmed39 s.vm) (eT : T.heap = h) (F : Arv Z h a k .long z vs dv) (hj : ¬ j < 0 ∧ j < z) (hv : vs.getD j.toNatClampNeg dv = v) (hd : decode c.code pc = .ok (.laload, 1)) (kk : Go p e below Fi T (mkF m (pc + 1) Ls (v :: rest))) : Go p e below Fi T (mkF m pc Ls (.int j :: .ref a :: rest)) := by
  obtain ⟨cl, A, i1, i2⟩ := F.load hj
  rw [hv] at i2
  exact Go.of (fun t q => X.laload hx (by rw [eT]; exact A.1) (State.isArrayOf_alike hZ.alike A.2.1) A.2.2 i1 i2 (g := mkF m pc Ls (.int j :: .ref a :: rest)) rfl rfl hd t q) kk
theorem Go.baload (X : Stand p l e R s m args below meth c T locs cells slots) (hx : p.tables.exec = Jvm.exec) (hZ : Z.Warmed39 s.vm) (eT : T.heap = h) (F : Arv Z h a k .byte z vs dv) (hj : ¬ j < 0 ∧ j < z) (hv : vs.getD j.toNatClampNeg dv = v) (hd : decode c.code pc = .ok (.baload, 1)) (kk : Go p e below Fi T (mkF m (pc + 1) Ls (v :: rest))) : Go p e below Fi T (mkF m pc Ls (.int j :: .ref a :: rest)) := by
  obtain ⟨cl, A, i1, i2⟩ := F.load hj
  rw [hv] at i2
  exact Go.of (fun t q => X.baloadBytes hx (by rw [eT]; exact A.1) (State.isArrayOf_alike hZ.alike A.2.1) A.2.2 i1 i2 (g := mkF m pc Ls (.int j :: .ref a :: rest)) rfl rfl hd t q) kk
theorem Go.caload (X : Stand p l e R s m args below meth c T locs cells slots) (hx : p.tables.exec = Jvm.exec) (hZ : Z.Warmed39 s.vm) (eT : T.heap = h) (F : Arv Z h a k .char z vs dv) (hj : ¬ j < 0 ∧ j < z) (hv : vs.getD j.toNatClampNeg dv = v) (hd : decode c.code pc = .ok (.caload, 1)) (kk : Go p e below Fi T (mkF m (pc + 1) Ls (v :: rest))) : Go p e below Fi T (mkF m pc Ls (.int j :: .ref a :: rest)) := by
  obtain ⟨cl, A, i1, i2⟩ := F.load hj
  rw [hv] at i2
  exact Go.of (fun t q => X.caload hx (by rw [eT]; exact A.1) (State.isArrayOf_alike hZ.alike A.2.1) A.2.2 i1 i2 (g := mkF m pc Ls (.int j :: .ref a :: rest)) rfl rfl hd t q) kk
theorem Go.aaload (X : Stand p l e R s m args below meth c T locs cells slots) (hx : p.tables.exec = Jvm.exec) (hZ : Z.Warmed39 s.vm) (eT : T.heap = h) (F : Arv Z h a k ty z vs dv) (hty : ty.isReference = true) (hj : ¬ j < 0 ∧ j < z) (hv : vs.getD j.toNatClampNeg dv = v) (hd : decode c.code pc = .ok (.aaload, 1)) (kk : Go p e below Fi T (mkF m (pc + 1) Ls (v :: rest))) : Go p e below Fi T (mkF m pc Ls (.int j :: .ref a :: rest)) := by
  obtain ⟨cl, A, i1, i2⟩ := F.load hj
  rw [hv] at i2
  exact Go.of (fun t q => X.aaload hx (by rw [eT]; exact A.1) (State.isArrayOf_alike hZ.alike A.2.1) hty A.2.2 i1 i2 (g := mkF m pc Ls (.int j :: .ref a :: rest)) rfl rfl hd t q) kk
theorem Go.daload (X : Stand p l e R s m args below meth c T locs cells slots) (hx : p.tables.exec = Jvm.exec) (hZ : Z.Warmed39 s.vm) (eT : T.heap = h) (F : Arv Z h a k .double z vs dv) (hj : ¬ j < 0 ∧ j < z) (hv : vs.getD j.toNatClampNeg dv = v) (hd : decode c.code pc = .ok (.daload, 1)) (kk : Go p e below Fi T (mkF m (pc + 1) Ls (v :: rest))) : Go p e below Fi T (mkF m pc Ls (.int j :: .ref a :: rest)) := by
  obtain ⟨cl, A, i1, i2⟩ := F.load hj
  rw [hv] at i2
  exact Go.of (fun t q => X.daload hx (by rw [eT]; exact A.1) (State.isArrayOf_alike hZ.alike A.2.1) A.2.2 i1 i2 (g := mkF m pc Ls (.int j :: .ref a :: rest)) rfl rfl hd t q) kk
theorem Go.dastore {x : UInt64} (X : Stand p l e R s m args below meth c T locs cells slots) (hx : p.tables.exec = Jvm.exec) (hZ : Z.Warmed39 s.vm) (eT : T.heap = h) (F : Arv Z h a k .double z vs dv) (hj : ¬ j < 0 ∧ j < z) (i : Nat) (hji : j.toNatClampNeg = i) (hi : i < vs.length) (hd : decode c.code pc = .ok (.dastore, 1))
    (kk : ∀ T' h', Stand p l e R s m args below meth c T' (locs ++ [⟨a, i⟩]) cells slots → T'.heap = h' → Wr h h' a i (.double x) → Arv Z h' a k .double z (vs.set i (.double x)) dv → Go p e below Fi T' (mkF m (pc + 1) Ls rest)) : Go p e below Fi T (mkF m pc Ls (.double x :: .int j :: .ref a :: rest)) := by
  obtain ⟨cl, A, q, S, M, H, G⟩ := F
  subst hji
  obtain ⟨T', h', X', e', W', st⟩ := stD X hx hZ eT A (inb_of S hj) (g := mkF m pc Ls (.double x :: .int j :: .ref a :: rest)) rfl rfl hd
  exact Go.of st (kk T' h' X' e' W' (Arv.set A q S M H G rfl W' _ rfl hi))
theorem Go.len (X : Stand p l e R s m args below meth c T locs cells slots) (hx : p.tables.exec = Jvm.exec) (hZ : Z.Warmed39 s.vm) (eT : T.heap = h) (F : Arv Z h a k ty z vs dv) (hd : decode c.code pc = .ok (.arraylength, 1)) (kk : Go p e below Fi T (mkF m (pc + 1) Ls (.int z :: rest))) : Go p e below Fi T (mkF m pc Ls (.ref a :: rest)) := by
  obtain ⟨cl, A, -, S, M, -, -⟩ := F
  exact Go.of (fun t q => X.arraylength hx (a := a) (cell := cl) (ty := ty) (by rw [eT]; exact A.1) (State.isArrayOf_alike hZ.alike A.2.1) (g := mkF m pc Ls (.ref a :: rest)) rfl (rest := rest) rfl hd t (by rw [len_of S M]; exact q)) kk
theorem Go.iastore (X : Stand p l e R s m args below meth c T locs cells slots) (hx : p.tables.exec = Jvm.exec) (hZ : Z.Warmed39 s.vm) (eT : T.heap = h) (F : Arv Z h a k .int z vs dv) (hj : ¬ j < 0 ∧ j < z) (i : Nat) (hji : j.toNatClampNeg = i) (hi : i < vs.length) (hd : decode c.code pc = .ok (.iastore, 1))
    (kk : ∀ T' h', Stand p l e R s m args below meth c T' (locs ++ [⟨a, i⟩]) cells slots → T'.heap = h' → Wr h h' a i (.int x) → Arv Z h' a k .int z (vs.set i (.int x)) dv → Go p e below Fi T' (mkF m (pc + 1) Ls rest)) : Go p e below Fi T (mkF m pc Ls (.int x :: .int j :: .ref a :: rest)) := by
  obtain ⟨cl, A, q, S, M, H, G⟩ := F
  subst hji
  obtain ⟨T', h', X', e', W', st⟩ := stI X hx hZ eT A (inb_of S hj) (g := mkF m pc Ls (.int x :: .int j :: .ref a :: rest)) rfl rfl hd
  exact Go.of st (kk T' h' X' e' W' (Arv.set A q S M H G rfl W' _ rfl hi))
theorem Go.lastore {x : Int64} (X : Stand p l e R s m args below meth c T locs cells slots) (hx : p.tables.exec = Jvm.exec) (hZ : Z.Warmed39 s.vm) (eT : T.heap = h) (F : Arv Z h a k .long z vs dv) (hj : ¬ j < 0 ∧ j < z) (i : Nat) (hji : j.toNatClampNeg = i) (hi : i < vs.length) (hd : decode c.code pc = .ok (.lastore, 1))
    (kk : ∀ T' h', Stand p l e R s m args below meth c T' (locs ++ [⟨a, i⟩]) cells slots → T'.heap = h' → Wr h h' a i (.long x) → Arv Z h' a k .long z (vs.set i (.long x)) dv → Go p e below Fi T' (mkF m (pc + 1) Ls rest)) : Go p e below Fi T (mkF m pc Ls (.long x :: .int j :: .ref a :: rest)) := by
  obtain ⟨cl, A, q, S, M, H, G⟩ := F
  subst hji
  obtain ⟨T', h', X', e', W', st⟩ := stJ X hx hZ eT A (inb_of S hj) (g := mkF m pc Ls (.long x :: .int j :: .ref a :: rest)) rfl rfl hd
  exact Go.of st (kk T' h' X' e' W' (Arv.set A q S M H G rfl W' _ rfl hi))
theorem Go.bastore (X : Stand p l e R s m args below meth c T locs cells slots) (hx : p.tables.exec = Jvm.exec) (hZ : Z.Warmed39 s.vm) (eT : T.heap = h) (F : Arv Z h a k .byte z vs dv) (hj : ¬ j < 0 ∧ j < z) (i : Nat) (hji : j.toNatClampNeg = i) (hi : i < vs.length) (hd : decode c.code pc = .ok (.bastore, 1))
    (kk : ∀ T' h', Stand p l e R s m args below meth c T' (locs ++ [⟨a, i⟩]) cells slots → T'.heap = h' → Wr h h' a i (.int (nar .byte x)) → Arv Z h' a k .byte z (vs.set i (.int (nar .byte x))) dv → Go p e below Fi T' (mkF m (pc + 1) Ls rest)) : Go p e below Fi T (mkF m pc Ls (.int x :: .int j :: .ref a :: rest)) := by
  obtain ⟨cl, A, q, S, M, H, G⟩ := F
  subst hji
  obtain ⟨T', h', X', e', W', st⟩ := stB X hx hZ eT A (inb_of S hj) (g := mkF m pc Ls (.int x :: .int j :: .ref a :: rest)) rfl rfl hd
  exact Go.of st (kk T' h' X' e' W' (Arv.set A q S M H G (fits_nar_byte _) W' _ rfl hi))
theorem Go.castore (X : Stand p l e R s m args below meth c T locs cells slots) (hx : p.tables.exec = Jvm.exec) (hZ : Z.Warmed39 s.vm) (eT : T.heap = h) (F : Arv Z h a k .char z vs dv) (hj : ¬ j < 0 ∧ j < z) (i : Nat) (hji : j.toNatClampNeg = i) (hi : i < vs.length) (hd : decode c.code pc = .ok (.castore, 1))
    (kk : ∀ T' h', Stand p l e R s m args below meth c T' (locs ++ [⟨a, i⟩]) cells slots → T'.heap = h' → Wr h h' a i (.int (nar .char x)) → Arv Z h' a k .char z (vs.set i (.int (nar .char x))) dv → Go p e below Fi T' (mkF m (pc + 1) Ls rest)) : Go p e below Fi T (mkF m pc Ls (.int x :: .int j :: .ref a :: rest)) := by
  obtain ⟨cl, A, q, S, M, H, G⟩ := F
  subst hji
  obtain ⟨T', h', X', e', W', st⟩ := stC X hx hZ eT A (inb_of S hj) (g := mkF m pc Ls (.int x :: .int j :: .ref a :: rest)) rfl rfl hd
  exact Go.of st (kk T' h' X' e' W' (Arv.set A q S M H G (fits_nar_char _) W' _ rfl hi))
theorem Go.newarr (X : Stand p l e R s m args below meth c T locs cells slots) (hx : p.tables.exec = Jvm.exec) (hZ : Z.Warmed39 s.vm) {aty : ArrayType} (w : (Cond.arrayClass (newarray.typeOf aty)).before a0 Z = true) (eT : T.heap = h) (cap : Nat) (hn : ¬ z < 0) (hcap : z.toNatClampNeg = cap) (hb : cap * 8 ≤ 536870912) (hc : cells + 1 ≤ R.cells) (hl : slots + cap ≤ R.slots) (hd : decode c.code pc = .ok (.newarray aty, 2))
    (kk : ∀ T' h' b k, b = h.size → Stand p l e R s m args below meth c T' locs (cells + 1) (slots + cap) → T'.heap = h' → Ext h h' → Arv Z h' b k (newarray.typeOf aty) z (List.replicate cap (defaultValue (newarray.typeOf aty))) (defaultValue (newarray.typeOf aty)) → Go p e below Fi T' (mkF m (pc + 2) Ls (.ref b :: rest))) : Go p e below Fi T (mkF m pc Ls (.int z :: rest)) := by
  obtain ⟨T', h', kA, X', e', E', A', st⟩ := newP X hx hZ w eT (g := mkF m pc Ls (.int z :: rest)) rfl hd rfl hn (cap := cap) (Nat.le_of_eq hcap) hb hc hl
  exact Go.of st (kk T' h' _ kA rfl X' e' E' ((Arv.new A' hn).pad (pad_rep [] _ cap)))
theorem Go.newarrE (X : Stand p l e R s m args below meth c T locs cells slots) (hx : p.tables.exec = Jvm.exec) (hZ : Z.Warmed39 s.vm) {aty : ArrayType} {ad : String} (had : "[" ++ (newarray.typeOf aty).toString = ad) (w : (Cond.arrayClass (newarray.typeOf aty)).before a0 Z = true) (eT : T.heap = h) (cap : Nat) (hn : ¬ z < 0) (hcap : z.toNatClampNeg = cap) (hb : cap * 8 ≤ 536870912) (hc : cells + 1 ≤ R.cells) (hl : slots + cap ≤ R.slots) (hd : decode c.code pc = .ok (.newarray aty, 2))
    (kk : ∀ T' h' b k, b = h.size → Stand p l e R s m args below meth c T' locs (cells + 1) (slots + cap) → T'.heap = h' → Ext h h' → Arv Z h' b k (newarray.typeOf aty) z (List.replicate cap (defaultValue (newarray.typeOf aty))) (defaultValue (newarray.typeOf aty)) → Exa Z h' b ad → Go p e below Fi T' (mkF m (pc + 2) Ls (.ref b :: rest))) : Go p e below Fi T (mkF m pc Ls (.int z :: rest)) := by
  obtain ⟨T', h', kA, X', e', E', A', EA, st⟩ := newPE X hx hZ w eT (g := mkF m pc Ls (.int z :: rest)) rfl hd rfl hn (cap := cap) (Nat.le_of_eq hcap) hb hc hl had
  exact Go.of st (kk T' h' _ kA rfl X' e' E' ((Arv.new A' hn).pad (pad_rep [] _ cap)) EA)
theorem Go.clone (X : Stand p l e R s m args below meth c T locs cells slots) (hx : p.tables.exec = Jvm.exec) (hZ : Z.Warmed39 s.vm) {ad : String} (hown : s.vm.findClass own = some m.cls)
    (w1 : (Cond.methodLink own index ⟨ad, "clone", "()Ljava/lang/Object;"⟩).before a0 Z = true) (w2 : (Cond.sameMethod ad "java/lang/Object" "clone" "()Ljava/lang/Object;").before a0 Z = true) (w3 : (Cond.native ⟨"java/lang/Object", "clone", "()Ljava/lang/Object;"⟩).before a0 Z = true)
    (w4 : (Cond.instanceMethod ⟨"java/lang/Object", "clone", "()Ljava/lang/Object;"⟩).before a0 Z = true) (w5 : (Cond.selects ad ⟨ad, "clone", "()Ljava/lang/Object;"⟩ ⟨"java/lang/Object", "clone", "()Ljava/lang/Object;"⟩).before a0 Z = true) (w6 : (Cond.castable ad "java/lang/Cloneable").before a0 Z = true)
    (eT : T.heap = h) (F : Arv Z h a k ty z vs dv) (E : Exa Z h a ad) (hsize : Ls.size = c.maxLocals) (hd : decode c.code pc = .ok (.invokevirtual index, 3)) (hf : 1 ≤ R.frames) {W cap : Nat} (hW : (rest.map fun v => v.category).sum ≤ W) (hl : W + 14 ≤ R.locals) (hcap : z.toNatClampNeg ≤ cap) (hc : cells + 1 ≤ R.cells) (hsl : slots + cap ≤ R.slots)
    (kk : ∀ T' h' b, b = h.size → Stand p l e R s m args below meth c T' locs (cells + 1) (slots + cap) → T'.heap = h' → Ext h h' → Arv Z h' b k ty z vs dv → Exa Z h' b ad → Go p e below Fi T' (mkF m (pc + 3) Ls (.ref b :: rest))) : Go p e below Fi T (mkF m pc Ls (.ref a :: rest)) := by
  obtain ⟨cl, A, q1, S, q3, H, G⟩ := F
  have FC : FitC Z cl := fitC_of A fun i hi v hv => by rw [H i hi] at hv; cases hv; exact G i hi
  obtain ⟨T', h', X', e', ex, A', E', st⟩ := cloneA X hx hZ hown w1 w2 w3 w4 w5 w6 eT A E FC (g := mkF m pc Ls (.ref a :: rest)) rfl hsize rfl hd hf (by show 2 * 0 + _ ≤ W; omega) hl (by rw [S]; exact hcap) hc hsl
  exact Go.of st (kk T' h' _ rfl X' e' ex ⟨cloneOf cl, A', q1, S, q3, H, G⟩ E')
theorem Go.castTo (X : Stand p l e R s m args below meth c T locs cells slots) (hx : p.tables.exec = Jvm.exec) (hZ : Z.Warmed39 s.vm) (hown : s.vm.findClass own = some m.cls) {K : String} (w : (Cond.classLink own index K).before a0 Z = true) (eT : T.heap = h) (I : Ins Z h a K true) (hd : decode c.code pc = .ok (.checkcast index, 3))
    (kk : ∀ T', Stand p l e R s m args below meth c T' locs cells slots → T'.heap = h → Go p e below Fi T' (mkF m (pc + 3) Ls (.ref a :: rest))) : Go p e below Fi T (mkF m pc Ls (.ref a :: rest)) := by
  obtain ⟨T', X', e', st⟩ := castY X hx hZ hown w eT I (g := mkF m pc Ls (.ref a :: rest)) rfl rfl hd
  exact Go.of st (kk T' X' e')
theorem Go.new (X : Stand p l e R s m args below meth c T locs cells slots) (hx : p.tables.exec = Jvm.exec) (hZ : Z.Warmed39 s.vm) (hown : s.vm.findClass own = some m.cls) (w : (Cond.classLink own index C).before a0 Z = true) (wi : (Cond.instantiable C nn).before a0 Z = true) (wz : (Cond.initialized C).before a0 Z = true) (eT : T.heap = h) (hd : decode c.code pc = .ok (.new index, 3)) (hc : cells + 1 ≤ R.cells) (hl : slots + nn ≤ R.slots)
    (kk : ∀ T' h' b, b = h.size → Stand p l e R s m args below meth c T' locs (cells + 1) (slots + nn) → T'.heap = h' → Ext h h' → Exa Z h' b C → (∀ {O nm d : String} {ty : FieldType}, Laid Z a0 C O nm d → parseFieldDescriptor d = some ty → Fld Z h' b O nm d (defaultValue ty)) → Go p e below Fi T' (mkF m (pc + 3) Ls (.ref b :: st))) : Go p e below Fi T (mkF m pc Ls st) := by
  obtain ⟨T', h', X', e', E', A', D', -, stp⟩ := newO X hx hZ hown w wi wz eT (g := mkF m pc Ls st) rfl hd hc hl
  exact Go.of stp (kk T' h' _ rfl X' e' E' A' D')
theorem Go.getf (X : Stand p l e R s m args below meth c T locs cells slots) (hx : p.tables.exec = Jvm.exec) (hZ : Z.Warmed39 s.vm) (hown : s.vm.findClass own = some m.cls) {R0 : String} (w : (Cond.fieldLink own index R0 n d).before a0 Z = true) (via : Via Z R0 O n d) (eT : T.heap = h) (F : Fld Z h a O n d v) (hd : decode c.code pc = .ok (.getfield index, 3))
    (kk : ∀ T', Stand p l e R s m args below meth c T' locs cells slots → T'.heap = h → Go p e below Fi T' (mkF m (pc + 3) Ls (v :: rest))) : Go p e below Fi T (mkF m pc Ls (.ref a :: rest)) := by
  obtain ⟨T', X', e', st⟩ := getF X hx hZ hown (host := "") (Or.inl w) via eT F (g := mkF m pc Ls (.ref a :: rest)) rfl rfl hd
  exact Go.of st (kk T' X' e')
theorem Go.gets (X : Stand p l e R s m args below meth c T locs cells slots) (hx : p.tables.exec = Jvm.exec) (hZ : Z.Warmed39 s.vm) (hown : s.vm.findClass own = some m.cls) {R0 : String} (w : (Cond.fieldLink own index R0 n d).before a0 Z = true) (via : Via Z R0 O n d) (eT : T.heap = h) (F : Sta Z h O n d v) (hd : decode c.code pc = .ok (.getstatic index, 3))
    (kk : ∀ T', Stand p l e R s m args below meth c T' locs cells slots → T'.heap = h → Go p e below Fi T' (mkF m (pc + 3) Ls (v :: st))) : Go p e below Fi T (mkF m pc Ls st) := by
  obtain ⟨T', X', e', stp⟩ := getS2 X hx hZ hown (host := "") (Or.inl w) via eT F (g := mkF m pc Ls st) rfl hd
  exact Go.of stp (kk T' X' e')
theorem Go.putf (X : Stand p l e R s m args below meth c T locs cells slots) (hx : p.tables.exec = Jvm.exec) (hZ : Z.Warmed39 s.vm) (hown : s.vm.findClass own = some m.cls) {R0 : String} (w : (Cond.fieldLink own index R0 n d).before a0 Z = true) (via : Via Z R0 O n d) (eT : T.heap = h) {old : Value} (F : Fld Z h a O n d old) (E : Exa Z h a C) (L : (Cond.lays C O n d).before a0 Z = true ∨ ((Cond.laysFinal C O n d).before a0 Z = true ∧ own = O ∧ meth.name = "<init>")) (wi : (Cond.instantiable C nn).before a0 Z = true) (hty : parseFieldDescriptor d = some ty) {v' : Value} (hn : narrow ty v = v') (hf : fits ty v' = true) (hd : decode c.code pc = .ok (.putfield index, 3))
    (kk : ∀ T' h', Stand p l e R s m args below meth c T' (locs ++ [⟨a, slotOf Z O n d⟩]) cells slots → T'.heap = h' → Wr h h' a (slotOf Z O n d) v' → Fld Z h' a O n d v' → Exa Z h' a C → Go p e below Fi T' (mkF m (pc + 3) Ls rest)) : Go p e below Fi T (mkF m pc Ls (v :: .ref a :: rest)) := by
  obtain ⟨T', h', X', e', W', st⟩ := putFN X hx hZ hown w via eT F E L wi hty hn hf (g := mkF m pc Ls (v :: .ref a :: rest)) rfl rfl hd
  exact Go.of st (kk T' h' X' e' W' (F.same W') (E.wr W'))
theorem Go.initObj (X : Stand p l e R s m args below meth c T locs cells slots) (hx : p.tables.exec = Jvm.exec) (hZ : Z.Warmed39 s.vm) (hown : s.vm.findClass own = some m.cls) (w1 : (Cond.methodLink own index Lib.objectInit).before a0 Z = true) (w2 : (Cond.instanceMethod Lib.objectInit).before a0 Z = true) (w3 : (Cond.code Lib.objectInit ⟨#[0xb1]⟩ 1 none).before a0 Z = true) (eT : T.heap = h) (hsize : Ls.size = c.maxLocals) (hd : decode c.code pc = .ok (.invokespecial index, 3)) (hf : 1 ≤ R.frames) {W : Nat} (hW : (rest.map fun v => v.category).sum ≤ W) (hl : W + 12 ≤ R.locals)
    (kk : ∀ T', Stand p l e R s m args below meth c T' locs cells slots → T'.heap = h → Go p e below Fi T' (mkF m (pc + 3) Ls rest)) : Go p e below Fi T (mkF m pc Ls (.ref a :: rest)) := by
  obtain ⟨T', X', e', st⟩ := initO X hx hZ hown w1 w2 w3 eT (g := mkF m pc Ls (.ref a :: rest)) rfl hsize rfl hd hf (W := W) (by show 2 * 0 + _ ≤ _; omega) hl
  exact Go.of st (kk T' X' e')
end Heaping
end Jvm.RoadKit
namespace Jvm.RoadKit
open Sem ClassFile Op Lib Jvm.Stand Jvm.Free Jvm.LawKit
section Wide
variable {p : Program} {l : Launch} {e : Env} {R : Room} {s : State} {vm0 : Vm} {m : MethodId} {args : Array Value} {below : List Frame} {meth : Method} {c : Code} {T : State} {locs : List Loc} {cells slots : Nat} {K N k0 : Nat} {Q : Option Value → Heap → List Loc → Prop} {F : Option Value → State → Prop} {Z : State} {a0 : Array Value} {h : Heap}
/-- what is said of an end where Strings may have been interned -/
def GoEndW (s : State) (K N : Nat) (Q : Option Value → Heap → List Loc → Prop) (v : Option Value) (t : State) : Prop := ∃ L, Q v t.heap L ∧ ReturnedEndW s (.returned v) t L K N
abbrev MetAtW (l : Launch) (Z : State) (y : MethodName) (bytes : ByteArray) (maxL : Nat) (ret : Option FieldType) (rm : Room) (as' : Array Value) (h : Heap) (Q : Option Value → Heap → List Loc → Prop) : Prop :=
  MetFree l y (head1 [Cond.code y bytes maxL ret] rm) (fun a U => a = as' ∧ Z.Warmed39 U.vm ∧ U.heap = h) (fun _ _ _ _ _ => True) (fun _ U o U' => ∃ v L, o = .returned v ∧ Q v U'.heap L ∧ ReturnedEndW U o U' L rm.cells rm.slots)
theorem goBodyW {y : MethodName} {bytes : ByteArray} {maxL : Nat} {ret : Option FieldType} {ws : List Cond} {rm : Room} {as' : Array Value} (hp : plainFor y = true)
    (body : ∀ p e s m below meth c s₁, p.tables.exec = Jvm.exec → Z.Warmed39 s.vm → c.code = bytes → c.maxLocals = maxL → s.vm.findClass y.cls = some m.cls → meth.name = y.name → meth.sig.returnType = ret → meth.locks = false →
      Stand p l e rm (s.setVm s.vm) m as' below meth c s₁ [] 0 0 → s₁.heap = h → s.Since s.vm 0 → Go p e below (GoEndW s rm.cells rm.slots Q) s₁ (entryFrame m as' maxL)) :
    MetFree l y (head1 (Cond.code y bytes maxL ret :: ws) rm) (fun a U => a = as' ∧ Z.Warmed39 U.vm ∧ U.heap = h) (fun _ _ _ _ _ => True) (fun _ U o U' => ∃ v L, o = .returned v ∧ Q v U'.heap L ∧ ReturnedEndW U o U' L rm.cells rm.slots) := by
  refine MetFree.of_bodySF hp hisR ?_
  intro p e s m args below meth c s₁ Bd hml hP hK
  obtain ⟨rfl, hZ, hh⟩ := hP
  obtain ⟨s₂, o, h1, h2, h3, v, rfl, L, h4, h5⟩ := body p e s m below meth c s₁ Bd.exec hZ Bd.bytes hml (findClass_of_methodNamed Bd.named) (name_of_methodNamed Bd.named Bd.method).1 Bd.returns Bd.notSynchronized (Stand.of_body Bd) (by rw [← hh, Bd.state]; rfl) ((State.WarmedH.refl s).since 0)
  exact ⟨s₂, _, h1, h2, h3, v, L, rfl, h4, h5⟩
theorem endW_mono {s t : State} {o : Outcome} {L : List Loc} {k n k' n' : Nat} (hE : ReturnedEndW s o t L k n) (hk : k ≤ k') (hn : n ≤ n') : ReturnedEndW s o t L k' n' := ⟨hE.1, hE.2.1, hE.2.2.1, hE.2.2.2.mono hk hn⟩
theorem Go.retNW (X : Stand p l e R (s.setVm vm0) m args below meth c T locs cells slots) (hx : p.tables.exec = Jvm.exec) (hS : s.Since vm0 k0) (hk : k0 ≤ T.heap.size) (hlk : meth.locks = false) {pc : Nat} {Ls : Array Slot} {z : Int32} {t : FieldType} {rest : List Value} (hret : meth.sig.returnType = some t) (ht : t = .boolean ∨ t = .byte ∨ t = .char ∨ t = .short) (hd : decode c.code pc = .ok (.ireturn, 1)) (hK : cells ≤ K) (hN : slots ≤ N) (hq : Q (some (.int (nar t z))) T.heap locs) : Go p e below (GoEndW s K N Q) T (mkF m pc Ls (.int z :: rest)) := by
  obtain ⟨fs, hr, hrun, hended, hE⟩ := X.leaveW hS hk (v := some (.int (nar t z))) (fun h => by rw [hret] at h; cases h) hlk
  exact ⟨_, _, Jvm.RoadKit.retN X hx (t := t) hret ht hd hr, hrun, hended, _, rfl, _, hq, endW_mono hE hK hN⟩
theorem Go.retAW (X : Stand p l e R (s.setVm vm0) m args below meth c T locs cells slots) (hx : p.tables.exec = Jvm.exec) (hS : s.Since vm0 k0) (hk : k0 ≤ T.heap.size) (hlk : meth.locks = false) {pc : Nat} {Ls : Array Slot} {v : Value} {t : FieldType} {rest : List Value} (hret : meth.sig.returnType = some t) (ht : t.isReference = true) (hv : v.isRef = true) (hn : narrow t v = v) (hd : decode c.code pc = .ok (.areturn, 1)) (hK : cells ≤ K) (hN : slots ≤ N) (hq : Q (some v) T.heap locs) : Go p e below (GoEndW s K N Q) T (mkF m pc Ls (v :: rest)) := by
  obtain ⟨fs, hr, hrun, hended, hE⟩ := X.leaveW hS hk (v := some v) (fun h => by rw [hret] at h; cases h) hlk
  exact ⟨_, _, retOut X hx (t := t) (i := .areturn) hret hn (Or.inr (Or.inr (Or.inr (Or.inr ⟨rfl, ht, hv⟩)))) hd hr, hrun, hended, _, rfl, _, hq, endW_mono hE hK hN⟩
theorem Go.retVW (X : Stand p l e R (s.setVm vm0) m args below meth c T locs cells slots) (hx : p.tables.exec = Jvm.exec) (hS : s.Since vm0 k0) (hk : k0 ≤ T.heap.size) (hlk : meth.locks = false) {pc : Nat} {Ls : Array Slot} (hret : meth.sig.returnType = none) (hd : decode c.code pc = .ok (.return_, 1)) (hK : cells ≤ K) (hN : slots ≤ N) (hq : Q none T.heap locs) : Go p e below (GoEndW s K N Q) T (mkF m pc Ls []) := by
  obtain ⟨fs, hr, hrun, hended, hE⟩ := X.leaveW hS hk (v := none) (fun _ => rfl) hlk
  exact ⟨_, _, X.returnOut hx hret hd hr, hrun, hended, _, rfl, _, hq, endW_mono hE hK hN⟩
variable {own : String} {index : Nat} {y z : MethodName} {bytes : ByteArray} {maxL W pc : Nat} {ret : Option FieldType} {rm : Room} {Qc : Option Value → Heap → List Loc → Prop} {argsL rest st : List Value} {Ls : Array Slot}
theorem Go.ldcS (X : Stand p l e R (s.setVm vm0) m args below meth c T locs cells slots) (hx : p.tables.exec = Jvm.exec) (hZ : Z.Warmed39 vm0) (hown : vm0.findClass own = some m.cls) {text : String} (w : (Cond.stringLink own index text).before a0 Z = true) (wS : ∀ a ∈ Bundle.stringAtoms, a.before a0 Z = true) (eT : T.heap = h) (hS : s.Since vm0 k0) (hk : k0 ≤ h.size) (hd : decode c.code pc = .ok (.ldc index, 2)) (n : Nat) (hn : 4 * text.toList.length ≤ n) (hbig : n ≤ 536870912) (hc : cells + 2 ≤ R.cells) (hl : slots + (n + 4) ≤ R.slots)
    (kk : ∀ a T' h' k1, Stand p l e R (s.setVm T'.vm) m args below meth c T' locs (cells + 2) (slots + (n + 4)) → T'.heap = h' → Ext h h' → s.Since T'.vm k1 → k1 ≤ h'.size → Z.Warmed39 T'.vm → T'.vm.findClass own = some m.cls → Go p e below F T' (mkF m (pc + 2) Ls (.ref a :: st))) : Go p e below F T (mkF m pc Ls st) := by
  obtain ⟨a, T', h', k1, X', e', E', hS', hk', hZ', hown', stp⟩ := Jvm.RoadKit.ldcS X hx hZ hown w wS eT hS hk (g := mkF m pc Ls st) rfl hd hn hbig hc hl
  exact Go.of stp (kk a T' h' k1 X' e' E' hS' hk' hZ' hown')
theorem backOfW {len : Nat} {as' : Array Value} (hM : MetAtW l Z y bytes maxL ret rm as' h Qc) (hZ : Z.Warmed39 s.vm) (wc : (Cond.code y bytes maxL ret).before a0 Z = true) (wz : (Cond.initialized y.cls).before a0 Z = true) (hf : rm.frames + 1 ≤ R.frames) (hl : W + (maxL + 11) + rm.locals ≤ R.locals) :
    BackS l R p e below s args y len W (fun A a => a = as' ∧ A.U.heap = h ∧ A.cells + rm.cells ≤ R.cells ∧ A.slots + rm.slots ≤ R.slots)
      (fun A _ v B => ∃ L, Qc v B.U.heap L ∧ B.locs = A.locs ++ L ∧ B.cells = A.cells + rm.cells ∧ B.slots = A.slots + rm.slots) :=
  BackS.of_freeW (bytes := bytes) (maxL := maxL) (ret := ret) (E := fun _ _ o t L k n => k = rm.cells ∧ n = rm.slots ∧ ∃ v, o = .returned v ∧ Qc v t.heap L) hM hf hl
    (fun m meth c A a Y hp => have hU : Z.Warmed39 A.U.vm := wtrans hZ Y.warmed
      ⟨by show (Cond.and _ .tt).before a A.U = true; rw [Cond.before_and, mv hU wc]; rfl, mv hU wc, mv hU wz, hp.2.2.1, hp.2.2.2⟩)
    (fun m meth c A a g mk Y hp => ⟨hp.1, wtrans hZ Y.warmed, hp.2.1⟩) (fun _ _ _ _ _ _ _ _ _ => trivial)
    (fun _ _ _ _ ⟨v, L, h1, h2, h3⟩ => ⟨L, _, _, h3, rfl, rfl, v, h1, h2⟩)
    (fun m meth c A a g mk v t L k n Y hp _ _ ⟨e1, e2, v', e3, e4⟩ => by cases e3; subst e1 e2; exact ⟨L, e4, rfl, rfl, rfl⟩)
theorem Go.callIW (X : Stand p l e R (s.setVm vm0) m args below meth c T locs cells slots) (hx : p.tables.exec = Jvm.exec) (hZ : Z.Warmed39 vm0) (hy1 : y.name = "<init>") (hown : vm0.findClass own = some m.cls)
    (wl : (Cond.methodLink own index y).before a0 Z = true) (wi : (Cond.instanceMethod y).before a0 Z = true) (wz : (Cond.initialized y.cls).before a0 Z = true) (wc : (Cond.code y bytes maxL none).before a0 Z = true)
    (hy : y.cls ≠ "java/lang/invoke/MethodHandle" ∧ y.cls ≠ "java/lang/invoke/VarHandle") {a : Addr} (hM : MetAtW l Z y bytes maxL none rm (.ref a :: argsL).toArray h Qc) (eT : T.heap = h) (hS : s.Since vm0 k0) (hk : k0 ≤ h.size) (hsize : Ls.size = c.maxLocals)
    (hlen : ∀ sig, parseMethodDescriptor y.desc = some sig → argsL.length = sig.parameters.length) (hd : decode c.code pc = .ok (.invokespecial index, 3)) (hst : st = argsL.reverse ++ .ref a :: rest)
    (hW : (rest.map fun v => v.category).sum ≤ W) (hf : rm.frames + 1 ≤ R.frames) (hl : W + (maxL + 11) + rm.locals ≤ R.locals) (hc : cells + rm.cells ≤ R.cells) (hs : slots + rm.slots ≤ R.slots)
    (kk : ∀ v T' L', Stand p l e R (s.setVm T'.vm) m args below meth c T' (locs ++ L') (cells + rm.cells) (slots + rm.slots) → s.Since T'.vm T'.heap.size → Z.Warmed39 T'.vm → T'.vm.findClass own = some m.cls → Qc v T'.heap L' → Go p e below F T' (mkF m (pc + 3) Ls (v.toList ++ rest))) : Go p e below F T (mkF m pc Ls st) := by
  have hZ' : Z.Warmed39 (s.setVm vm0).vm := hZ
  obtain ⟨v, vm₁, ⟨T', L', k', n'⟩, -, X', hS', hgr, ⟨Lc, hQ, l1, y1, z1⟩, stp⟩ := X.specialBackS hx hy1 hown (mvT hZ' wl) (mvT hZ' wi) (mvT hZ' wc) hy (backOfW (W := W) hM hZ' wc wz hf hl) (g := mkF m pc Ls st) rfl hsize (Steps.refl _) (a := a) hlen hst (by show 2 * 0 + _ ≤ _; omega) hd (fun _ _ => ⟨rfl, eT, hc, hs⟩)
  dsimp only [Pt.U, Pt.locs, Pt.cells, Pt.slots] at X' l1 y1 z1 stp hQ hS' hgr
  subst l1 y1 z1
  exact Go.via stp (kk v T' Lc X' (hS.trans hS' (Nat.le_trans hk (by rw [← eT]; exact hgr))) (State.Warmed39.trans (t := s.setVm vm0) hZ' hS'.1) (by rw [hS'.1.alike.findClass]; exact hown) hQ)
theorem Go.callVW (X : Stand p l e R (s.setVm vm0) m args below meth c T locs cells slots) (hx : p.tables.exec = Jvm.exec) (hZ : Z.Warmed39 vm0) (hown : vm0.findClass own = some m.cls) {C : String}
    (wl : (Cond.methodLink own index y).before a0 Z = true) (wd : (Cond.declares y).before a0 Z = true) (hnf : NotFace (s.setVm vm0) y) (wse : (Cond.selects C y z).before a0 Z = true) (wi : (Cond.instanceMethod z).before a0 Z = true) (wz : (Cond.initialized z.cls).before a0 Z = true) (wc : (Cond.code z bytes maxL ret).before a0 Z = true)
    (hy : y.cls ≠ "java/lang/invoke/MethodHandle" ∧ y.cls ≠ "java/lang/invoke/VarHandle") {a : Addr} (hM : MetAtW l Z z bytes maxL ret rm (.ref a :: argsL).toArray h Qc) (eT : T.heap = h) (hE : Exa Z h a C) (hS : s.Since vm0 k0) (hk : k0 ≤ h.size) (hsize : Ls.size = c.maxLocals)
    (hlen : ∀ sig, parseMethodDescriptor y.desc = some sig → argsL.length = sig.parameters.length) (hd : decode c.code pc = .ok (.invokevirtual index, 3)) (hst : st = argsL.reverse ++ .ref a :: rest)
    (hW : (rest.map fun v => v.category).sum ≤ W) (hf : rm.frames + 1 ≤ R.frames) (hl : W + (maxL + 11) + rm.locals ≤ R.locals) (hc : cells + rm.cells ≤ R.cells) (hs : slots + rm.slots ≤ R.slots)
    (kk : ∀ v T' L', Stand p l e R (s.setVm T'.vm) m args below meth c T' (locs ++ L') (cells + rm.cells) (slots + rm.slots) → s.Since T'.vm T'.heap.size → Z.Warmed39 T'.vm → T'.vm.findClass own = some m.cls → Qc v T'.heap L' → Go p e below F T' (mkF m (pc + 3) Ls (v.toList ++ rest))) : Go p e below F T (mkF m pc Ls st) := by
  have hZ' : Z.Warmed39 (s.setVm vm0).vm := hZ
  obtain ⟨cq, kq, q1, q2, q3⟩ := isOf hZ' eT hE
  obtain ⟨v, vm₁, ⟨T', L', k', n'⟩, -, X', hS', hgr, ⟨Lc, hQ, l1, y1, z1⟩, stp⟩ := X.virtualBackS hx (y := y) (z := z) hown (mvT hZ' wl) (mvT hZ' wd) hnf (mvT hZ' wse) (mvT hZ' wi) hy (backOfW (W := W) hM hZ' wc wz hf hl) q1 q3 (g := mkF m pc Ls st) rfl hsize (Steps.refl _) hlen hst (by show 2 * 0 + _ ≤ _; omega) hd (fun _ _ => ⟨rfl, eT, hc, hs⟩)
  dsimp only [Pt.U, Pt.locs, Pt.cells, Pt.slots] at X' l1 y1 z1 stp hQ hS' hgr
  subst l1 y1 z1
  exact Go.via stp (kk v T' Lc X' (hS.trans hS' (Nat.le_trans hk (by rw [← eT]; exact hgr))) (State.Warmed39.trans (t := s.setVm vm0) hZ' hS'.1) (by rw [hS'.1.alike.findClass]; exact hown) hQ)
end Wide
end Jvm.RoadKit
namespace Jvm.RoadKit
open Sem ClassFile Op Lib Jvm.Stand Jvm.Free Jvm.LawKit
section HeldGo
variable {p : Program} {l : Launch} {e : Env} {R : Room} {s : State} {vm0 : Vm} {m : MethodId} {args : Array Value} {below : List Frame} {meth : Method} {c : Code} {T : State} {locs : List Loc} {cells slots : Nat} {K N k0 : Nat} {Q : Option Value → Heap → List Loc → Prop} {F : Option Value → State → Prop} {Z : State} {a0 : Array Value} {h hs : Heap} {EL : List (String × Nat)}
/-- what is said of an end where Strings may have been read -/
def GoEndH (Z : State) (EL : List (String × Nat)) (s : State) (K N : Nat) (Q : Option Value → Heap → List Loc → Prop) (v : Option Value) (t : State) : Prop := ∃ L, Q v t.heap L ∧ CHr Z EL s.vm s.heap t.vm t.heap ∧ ReturnedEndW s (.returned v) t L K N
abbrev MetAtH (l : Launch) (Z : State) (EL : List (String × Nat)) (y : MethodName) (bytes : ByteArray) (maxL : Nat) (ret : Option FieldType) (rm : Room) (as' : Array Value) (h : Heap) (Q : Option Value → Heap → List Loc → Prop) : Prop :=
  MetFree l y (head1 [Cond.code y bytes maxL ret] rm) (fun a U => a = as' ∧ Z.Warmed39 U.vm ∧ U.heap = h ∧ CHv Z EL U.vm h) (fun _ _ _ _ _ => True) (fun _ U o U' => ∃ v L, o = .returned v ∧ Q v U'.heap L ∧ CHr Z EL U.vm U.heap U'.vm U'.heap ∧ ReturnedEndW U o U' L rm.cells rm.slots)
theorem goBodyH {y : MethodName} {bytes : ByteArray} {maxL : Nat} {ret : Option FieldType} {ws : List Cond} {rm : Room} {as' : Array Value} (hp : plainFor y = true)
    (body : ∀ p e s m below meth c s₁, p.tables.exec = Jvm.exec → Z.Warmed39 s.vm → c.code = bytes → c.maxLocals = maxL → s.vm.findClass y.cls = some m.cls → meth.name = y.name → meth.sig.returnType = ret → meth.locks = false →
      Stand p l e rm (s.setVm s.vm) m as' below meth c s₁ [] 0 0 → s₁.heap = h → s.Since s.vm 0 → s.heap = h → CHr Z EL s.vm h s.vm h → Go p e below (GoEndH Z EL s rm.cells rm.slots Q) s₁ (entryFrame m as' maxL)) :
    MetFree l y (head1 (Cond.code y bytes maxL ret :: ws) rm) (fun a U => a = as' ∧ Z.Warmed39 U.vm ∧ U.heap = h ∧ CHv Z EL U.vm h) (fun _ _ _ _ _ => True) (fun _ U o U' => ∃ v L, o = .returned v ∧ Q v U'.heap L ∧ CHr Z EL U.vm U.heap U'.vm U'.heap ∧ ReturnedEndW U o U' L rm.cells rm.slots) := by
  refine MetFree.of_bodySF hp hisR ?_
  intro p e s m args below meth c s₁ Bd hml hP hK
  obtain ⟨rfl, hZ, hh, hC⟩ := hP
  obtain ⟨s₂, o, h1, h2, h3, v, rfl, L, h4, h5, h6⟩ := body p e s m below meth c s₁ Bd.exec hZ Bd.bytes hml (findClass_of_methodNamed Bd.named) (name_of_methodNamed Bd.named Bd.method).1 Bd.returns Bd.notSynchronized (Stand.of_body Bd) (by rw [← hh, Bd.state]; rfl) ((State.WarmedH.refl s).since 0) hh (CHr.refl hC)
  exact ⟨s₂, _, h1, h2, h3, v, L, rfl, h4, h5, h6⟩
theorem endCH (X : Stand p l e R (s.setVm vm0) m args below meth c T locs cells slots) (hZ : Z.Warmed39 vm0) (hEL : EW Z a0 EL) (hs0 : s.heap = hs) (eT : T.heap = h) (hC : CHr Z EL s.vm hs vm0 h) : CHr Z EL s.vm s.heap T.vm T.heap := by
  subst hs0 eT; exact hC.trans (CHv.at X hZ hEL hC.1)
theorem Go.retNH (X : Stand p l e R (s.setVm vm0) m args below meth c T locs cells slots) (hx : p.tables.exec = Jvm.exec) (hZ : Z.Warmed39 vm0) (hEL : EW Z a0 EL) (hs0 : s.heap = hs) (eT : T.heap = h) (hC : CHr Z EL s.vm hs vm0 h) (hS : s.Since vm0 k0) (hk : k0 ≤ T.heap.size) (hlk : meth.locks = false) {pc : Nat} {Ls : Array Slot} {z : Int32} {t : FieldType} {rest : List Value} (hret : meth.sig.returnType = some t) (ht : t = .boolean ∨ t = .byte ∨ t = .char ∨ t = .short) (hd : decode c.code pc = .ok (.ireturn, 1)) (hK : cells ≤ K) (hN : slots ≤ N) (hq : Q (some (.int (nar t z))) T.heap locs) : Go p e below (GoEndH Z EL s K N Q) T (mkF m pc Ls (.int z :: rest)) := by
  obtain ⟨fs, hr, hrun, hended, hE⟩ := X.leaveW hS hk (v := some (.int (nar t z))) (fun h => by rw [hret] at h; cases h) hlk
  exact ⟨_, _, Jvm.RoadKit.retN X hx (t := t) hret ht hd hr, hrun, hended, _, rfl, _, hq, endCH (T := T) X hZ hEL hs0 eT hC, endW_mono hE hK hN⟩
theorem Go.retAH (X : Stand p l e R (s.setVm vm0) m args below meth c T locs cells slots) (hx : p.tables.exec = Jvm.exec) (hZ : Z.Warmed39 vm0) (hEL : EW Z a0 EL) (hs0 : s.heap = hs) (eT : T.heap = h) (hC : CHr Z EL s.vm hs vm0 h) (hS : s.Since vm0 k0) (hk : k0 ≤ T.heap.size) (hlk : meth.locks = false) {pc : Nat} {Ls : Array Slot} {v : Value} {t : FieldType} {rest : List Value} (hret : meth.sig.returnType = some t) (ht : t.isReference = true) (hv : v.isRef = true) (hn : narrow t v = v) (hd : decode c.code pc = .ok (.areturn, 1)) (hK : cells ≤ K) (hN : slots ≤ N) (hq : Q (some v) T.heap locs) : Go p e below (GoEndH Z EL s K N Q) T (mkF m pc Ls (v :: rest)) := by
  obtain ⟨fs, hr, hrun, hended, hE⟩ := X.leaveW hS hk (v := some v) (fun h => by rw [hret] at h; cases h) hlk
  exact ⟨_, _, retOut X hx (t := t) (i := .areturn) hret hn (Or.inr (Or.inr (Or.inr (Or.inr ⟨rfl, ht, hv⟩)))) hd hr, hrun, hended, _, rfl, _, hq, endCH (T := T) X hZ hEL hs0 eT hC, endW_mono hE hK hN⟩
variable {own : String} {index : Nat} {y z : MethodName} {bytes : ByteArray} {maxL W pc : Nat} {ret : Option FieldType} {rm : Room} {Qc : Option Value → Heap → List Loc → Prop} {argsL rest st : List Value} {Ls : Array Slot}
theorem Go.ldcH (X : Stand p l e R (s.setVm vm0) m args below meth c T locs cells slots) (hx : p.tables.exec = Jvm.exec) (hZ : Z.Warmed39 vm0) (hown : vm0.findClass own = some m.cls) {text : String} (w : (Cond.stringLink own index text).before a0 Z = true) (wS : ∀ a ∈ Bundle.stringAtoms, a.before a0 Z = true) (eT : T.heap = h) (hS : s.Since vm0 k0) (hk : k0 ≤ h.size) (hEL : EW Z a0 EL) (hmem : (own, index) ∈ EL) (hC : CHr Z EL s.vm hs vm0 h) {vs : List Value} {z : Int32} (ht : (∀ c ∈ text.toList, c.toNat < 256) ∧ text.toList.map (fun c => Value.int (Jvm.Lit.byteI c.toNat.toUInt16)) = vs) (hz : ¬ z < 0) (hlz : z.toNatClampNeg = vs.length)
    (hd : decode c.code pc = .ok (.ldc index, 2)) (n : Nat) (hn : 4 * text.toList.length ≤ n) (hbig : n ≤ 536870912) (hc : cells + 2 ≤ R.cells) (hl : slots + (n + 4) ≤ R.slots)
    (kk : ∀ a T' h' k1 b k, Stand p l e R (s.setVm T'.vm) m args below meth c T' locs (cells + 2) (slots + (n + 4)) → T'.heap = h' → Ext h h' → s.Since T'.vm k1 → k1 ≤ h'.size → Z.Warmed39 T'.vm → T'.vm.findClass own = some m.cls → Exa Z h' a "java/lang/String" → Fld Z h' a "java/lang/String" "coder" "B" (.int 0) → Fld Z h' a "java/lang/String" "value" "[B" (.ref b) → Arv Z h' b k .byte z vs (.int 0) → CHr Z EL s.vm hs T'.vm h' → (∀ x, Safe Z EL T'.vm h' x → x ≠ a ∧ x ≠ b) → Go p e below F T' (mkF m (pc + 2) Ls (.ref a :: st))) : Go p e below F T (mkF m pc Ls st) := by
  obtain ⟨a, T', h', k1, b, k, X', e', E', hS', hk', hZ', hown', A, Cd, Vl, Ar, -, -, hC', -, hM, stp⟩ := ldcCH X hx hZ hown w wS eT hS hk hEL hmem hC.1 ht hz hlz (g := mkF m pc Ls st) rfl hd hn hbig hc hl
  exact Go.of stp (kk a T' h' k1 b k X' e' E' hS' hk' hZ' hown' A Cd Vl Ar (hC.trans hC') hM)
theorem Go.callVH (X : Stand p l e R (s.setVm vm0) m args below meth c T locs cells slots) (hx : p.tables.exec = Jvm.exec) (hZ : Z.Warmed39 vm0) (hown : vm0.findClass own = some m.cls) {C : String}
    (wl : (Cond.methodLink own index y).before a0 Z = true) (wd : (Cond.declares y).before a0 Z = true) (hnf : NotFace (s.setVm vm0) y) (wse : (Cond.selects C y z).before a0 Z = true) (wi : (Cond.instanceMethod z).before a0 Z = true) (wz : (Cond.initialized z.cls).before a0 Z = true) (wc : (Cond.code z bytes maxL ret).before a0 Z = true)
    (hy : y.cls ≠ "java/lang/invoke/MethodHandle" ∧ y.cls ≠ "java/lang/invoke/VarHandle") {a : Addr} (hM : MetAtH l Z EL z bytes maxL ret rm (.ref a :: argsL).toArray h Qc) (eT : T.heap = h) (hE : Exa Z h a C) (hS : s.Since vm0 k0) (hk : k0 ≤ h.size) (hEL : EW Z a0 EL) (hC : CHr Z EL s.vm hs vm0 h) (hsize : Ls.size = c.maxLocals)
    (hlen : ∀ sig, parseMethodDescriptor y.desc = some sig → argsL.length = sig.parameters.length) (hd : decode c.code pc = .ok (.invokevirtual index, 3)) (hst : st = argsL.reverse ++ .ref a :: rest)
    (hW : (rest.map fun v => v.category).sum ≤ W) (hf : rm.frames + 1 ≤ R.frames) (hl : W + (maxL + 11) + rm.locals ≤ R.locals) (hc : cells + rm.cells ≤ R.cells) (hs' : slots + rm.slots ≤ R.slots)
    (kk : ∀ v T' L', Stand p l e R (s.setVm T'.vm) m args below meth c T' (locs ++ L') (cells + rm.cells) (slots + rm.slots) → s.Since T'.vm T'.heap.size → Z.Warmed39 T'.vm → T'.vm.findClass own = some m.cls → CHr Z EL s.vm hs T'.vm T'.heap → Qc v T'.heap L' → Go p e below F T' (mkF m (pc + 3) Ls (v.toList ++ rest))) : Go p e below F T (mkF m pc Ls st) := by
  have hZ' : Z.Warmed39 (s.setVm vm0).vm := hZ
  obtain ⟨cq, kq, q1, q2, q3⟩ := isOf hZ' eT hE
  obtain ⟨v, vm₁, ⟨T', L', k', n'⟩, -, X', hS', hgr, ⟨Lc, hQ, l1, y1, z1, hC'⟩, stp⟩ := X.virtualBackS hx (y := y) (z := z) hown (mvT hZ' wl) (mvT hZ' wd) hnf (mvT hZ' wse) (mvT hZ' wi) hy (backOfSH (W := W) hM hZ wc wz hf hl hEL hC.1) q1 q3 (g := mkF m pc Ls st) rfl hsize (Steps.refl _) hlen hst (by show 2 * 0 + _ ≤ _; omega) hd (fun _ _ => ⟨rfl, eT, hc, hs'⟩)
  dsimp only [Pt.U, Pt.locs, Pt.cells, Pt.slots] at X' l1 y1 z1 stp hQ hS' hgr hC'
  subst l1 y1 z1
  exact Go.via stp (kk v T' Lc X' (hS.trans hS' (Nat.le_trans hk (by rw [← eT]; exact hgr))) (State.Warmed39.trans (t := s.setVm vm0) hZ' hS'.1) (by rw [hS'.1.alike.findClass]; exact hown) (hC.trans hC') hQ)
theorem Go.callFH (X : Stand p l e R (s.setVm vm0) m args below meth c T locs cells slots) (hx : p.tables.exec = Jvm.exec) (hZ : Z.Warmed39 vm0) (hown : vm0.findClass own = some m.cls) {C : String} {count : Nat}
    (wl : (Cond.methodLink own index y).before a0 Z = true) (wd : (Cond.declares y).before a0 Z = true) (wfa : (Cond.interfaceMethod y.cls y.cls y.name y.desc).before a0 Z = true) (hfa : ((Cond.interfaceMethod y.cls y.cls y.name y.desc).onTables && (Cond.interfaceMethod y.cls y.cls y.name y.desc).keepsFace) = true) (wse : (Cond.selects C y z).before a0 Z = true) (wi : (Cond.instanceMethod z).before a0 Z = true) (wp : (Cond.publicMethod z).before a0 Z = true) (wu : (Cond.unhidden C y.name y.desc).before a0 Z = true) (wca : (Cond.castable C y.cls).before a0 Z = true) (wz : (Cond.initialized z.cls).before a0 Z = true) (wc : (Cond.code z bytes maxL ret).before a0 Z = true)
    (hy : y.cls ≠ "java/lang/invoke/MethodHandle" ∧ y.cls ≠ "java/lang/invoke/VarHandle") {a : Addr} (hM : MetAtH l Z EL z bytes maxL ret rm (.ref a :: argsL).toArray h Qc) (eT : T.heap = h) (hE : Exa Z h a C) (hS : s.Since vm0 k0) (hk : k0 ≤ h.size) (hEL : EW Z a0 EL) (hC : CHr Z EL s.vm hs vm0 h) (hsize : Ls.size = c.maxLocals)
    (hlen : ∀ sig, parseMethodDescriptor y.desc = some sig → argsL.length = sig.parameters.length) (hd : decode c.code pc = .ok (.invokeinterface index count, 5)) (hst : st = argsL.reverse ++ .ref a :: rest)
    (hW : (rest.map fun v => v.category).sum ≤ W) (hf : rm.frames + 1 ≤ R.frames) (hl : W + (maxL + 11) + rm.locals ≤ R.locals) (hc : cells + rm.cells ≤ R.cells) (hs' : slots + rm.slots ≤ R.slots)
    (kk : ∀ v T' L', Stand p l e R (s.setVm T'.vm) m args below meth c T' (locs ++ L') (cells + rm.cells) (slots + rm.slots) → s.Since T'.vm T'.heap.size → Z.Warmed39 T'.vm → T'.vm.findClass own = some m.cls → CHr Z EL s.vm hs T'.vm T'.heap → Qc v T'.heap L' → Go p e below F T' (mkF m (pc + 5) Ls (v.toList ++ rest))) : Go p e below F T (mkF m pc Ls st) := by
  have hZ' : Z.Warmed39 (s.setVm vm0).vm := hZ
  obtain ⟨cq, kq, q1, q2, q3⟩ := isOf hZ' eT hE
  obtain ⟨v, vm₁, ⟨T', L', k', n'⟩, -, X', hS', hgr, ⟨Lc, hQ, l1, y1, z1, hC'⟩, stp⟩ := X.interfaceBackS hx (xi := y) (y := z) hown (mvT hZ' wl) (mvT hZ' wd) (mvT hZ' wfa hfa) (mvT hZ' wse) (mvT hZ' wi) (mvT hZ' wp) (mvT hZ' wu) (mvT hZ' wca) hy (backOfSH (W := W) hM hZ wc wz hf hl hEL hC.1) q1 q2 q3 (g := mkF m pc Ls st) rfl hsize (Steps.refl _) hlen hst (by show 2 * 0 + _ ≤ _; omega) hd (fun _ _ => ⟨rfl, eT, hc, hs'⟩)
  dsimp only [Pt.U, Pt.locs, Pt.cells, Pt.slots] at X' l1 y1 z1 stp hQ hS' hgr hC'
  subst l1 y1 z1
  exact Go.via stp (kk v T' Lc X' (hS.trans hS' (Nat.le_trans hk (by rw [← eT]; exact hgr))) (State.Warmed39.trans (t := s.setVm vm0) hZ' hS'.1) (by rw [hS'.1.alike.findClass]; exact hown) (hC.trans hC') hQ)
end HeldGo
section InstGo
variable {p : Program} {l : Launch} {e : Env} {R : Room} {s : State} {m : MethodId} {args : Array Value} {below : List Frame} {meth : Method} {c : Code} {T : State} {locs : List Loc} {cells slots : Nat} {F : Option Value → State → Prop} {Z : State} {a0 : Array Value} {h : Heap} {own : String} {index pc : Nat} {rest : List Value} {Ls : Array Slot} {a : Addr}
theorem Go.instOf (X : Stand p l e R s m args below meth c T locs cells slots) (hx : p.tables.exec = Jvm.exec) (hZ : Z.Warmed39 s.vm) (hown : s.vm.findClass own = some m.cls) {K : String} (w : (Cond.classLink own index K).before a0 Z = true) (eT : T.heap = h) (I : Ins Z h a K true) (hd : decode c.code pc = .ok (.instanceof index, 3))
    (kk : ∀ T', Stand p l e R s m args below meth c T' locs cells slots → T'.heap = h → Go p e below F T' (mkF m (pc + 3) Ls (.int 1 :: rest))) : Go p e below F T (mkF m pc Ls (.ref a :: rest)) := by
  obtain ⟨T', X', e', stp⟩ := instY X hx hZ hown w eT I (g := mkF m pc Ls (.ref a :: rest)) rfl rfl hd
  exact Go.of stp (kk T' X' e')
end InstGo
end Jvm.RoadKit
namespace Jvm.RoadKit
open Sem ClassFile Op Lib Jvm.Stand Jvm.Free Jvm.LawKit
section StrGo
variable {p : Program} {l : Launch} {e : Env} {R : Room} {s : State} {vm0 : Vm} {m : MethodId} {args : Array Value} {below : List Frame} {meth : Method} {c : Code} {T : State} {locs : List Loc} {cells slots : Nat} {K N k0 : Nat} {Q : Option Value → Heap → List Loc → Prop} {F : Option Value → State → Prop} {Z : State} {a0 : Array Value} {h hs : Heap} {EL : List (String × Nat)} {own : String} {index : Nat} {y z : MethodName} {bytes : ByteArray} {maxL W pc : Nat} {ret : Option FieldType} {rm : Room} {Qc : Option Value → Heap → List Loc → Prop} {argsL rest st : List Value} {Ls : Array Slot}
/-- a constructor by a Back of the kit's own text -/
theorem Go.callIB (X : Stand p l e R s m args below meth c T locs cells slots) (hx : p.tables.exec = Jvm.exec) (hZ : Z.Warmed39 s.vm) (hy1 : y.name = "<init>") (hown : s.vm.findClass own = some m.cls)
    (wl : (Cond.methodLink own index y).before a0 Z = true) (wi : (Cond.instanceMethod y).before a0 Z = true) (wc : (Cond.code y bytes maxL none).before a0 Z = true)
    (hy : y.cls ≠ "java/lang/invoke/MethodHandle" ∧ y.cls ≠ "java/lang/invoke/VarHandle") {a : Addr} {nc ns : Nat}
    (hB : Back l R p e below s args y 3 W (fun P a' => a' = (.ref a :: argsL).toArray ∧ P.U.heap = h ∧ P.cells + nc ≤ R.cells ∧ P.slots + ns ≤ R.slots) (fun P _ v B => ∃ L, Qc v B.U.heap L ∧ B.locs = P.locs ++ L ∧ B.cells = P.cells + nc ∧ B.slots = P.slots + ns)) (eT : T.heap = h) (hsize : Ls.size = c.maxLocals)
    (hlen : ∀ sig, parseMethodDescriptor y.desc = some sig → argsL.length = sig.parameters.length) (hd : decode c.code pc = .ok (.invokespecial index, 3)) (hst : st = argsL.reverse ++ .ref a :: rest)
    (hW : (rest.map fun v => v.category).sum ≤ W) (hc : cells + nc ≤ R.cells) (hs : slots + ns ≤ R.slots)
    (k : ∀ v T' L', Stand p l e R s m args below meth c T' (locs ++ L') (cells + nc) (slots + ns) → Qc v T'.heap L' → Go p e below F T' (mkF m (pc + 3) Ls (v.toList ++ rest))) : Go p e below F T (mkF m pc Ls st) := by
  obtain ⟨v, vm₁, ⟨T', L', k', n'⟩, -, X', ⟨Lc, hQ, l1, y1, z1⟩, stp⟩ := X.specialBack hx hy1 hown (mvT hZ wl) (mvT hZ wi) (mvT hZ wc) hy hB (g := mkF m pc Ls st) rfl hsize (Steps.refl _) (a := a) hlen hst (by show 2 * 0 + _ ≤ _; omega) hd (fun _ _ => ⟨rfl, eT, hc, hs⟩)
  dsimp only [Pt.U, Pt.locs, Pt.cells, Pt.slots] at X' l1 y1 z1 stp hQ
  subst l1 y1 z1
  exact Go.via stp (k v T' Lc X' hQ)
/-- a virtual call by a Back that writes nothing -/
theorem Go.callVB (X : Stand p l e R s m args below meth c T locs cells slots) (hx : p.tables.exec = Jvm.exec) (hZ : Z.Warmed39 s.vm) (hown : s.vm.findClass own = some m.cls) {C : String}
    (wl : (Cond.methodLink own index y).before a0 Z = true) (wd : (Cond.declares y).before a0 Z = true) (hnf : NotFace s y) (wse : (Cond.selects C y z).before a0 Z = true) (wi : (Cond.instanceMethod z).before a0 Z = true)
    (hy : y.cls ≠ "java/lang/invoke/MethodHandle" ∧ y.cls ≠ "java/lang/invoke/VarHandle") {a : Addr} {Qv : Option Value → Prop}
    (hB : Back l R p e below s args z 3 W (fun P a' => a' = (.ref a :: argsL).toArray ∧ P.U.heap = h ∧ P.cells + 0 ≤ R.cells ∧ P.slots + 0 ≤ R.slots) (fun P _ v B => ∃ L, (Qv v ∧ L = [] ∧ B.U.heap = h) ∧ B.locs = P.locs ++ L ∧ B.cells = P.cells + 0 ∧ B.slots = P.slots + 0)) (eT : T.heap = h) (hE : Exa Z h a C) (hsize : Ls.size = c.maxLocals)
    (hlen : ∀ sig, parseMethodDescriptor y.desc = some sig → argsL.length = sig.parameters.length) (hd : decode c.code pc = .ok (.invokevirtual index, 3)) (hst : st = argsL.reverse ++ .ref a :: rest)
    (hW : (rest.map fun v => v.category).sum ≤ W) (hc : cells ≤ R.cells) (hs : slots ≤ R.slots) (r : Value) (hr : ∀ v, Qv v → v = some r)
    (k : ∀ T', Stand p l e R s m args below meth c T' locs cells slots → T'.heap = h → Go p e below F T' (mkF m (pc + 3) Ls (r :: rest))) : Go p e below F T (mkF m pc Ls st) := by
  obtain ⟨cq, kq, q1, q2, q3⟩ := isOf hZ eT hE
  obtain ⟨v, vm₁, ⟨T', L', k', n'⟩, -, X', ⟨Lc, ⟨hv, rfl, e'⟩, l1, y1, z1⟩, stp⟩ := X.virtualBack hx (y := y) (z := z) hown (mvT hZ wl) (mvT hZ wd) hnf (mvT hZ wse) (mvT hZ wi) hy hB q1 q3 (g := mkF m pc Ls st) rfl hsize (Steps.refl _) hlen hst (by show 2 * 0 + _ ≤ _; omega) hd (fun _ _ => ⟨rfl, eT, hc, hs⟩)
  dsimp only [Pt.U, Pt.locs, Pt.cells, Pt.slots] at X' l1 y1 z1 stp e'
  subst l1 y1 z1
  rw [List.append_nil] at X'
  have := hr v hv
  subst this
  exact Go.via stp (k T' X' e')
/-- a contract of a callee that reads String constants and writes an object that is none of theirs -/
abbrev MetAtHS (l : Launch) (Z : State) (EL : List (String × Nat)) (y : MethodName) (bytes : ByteArray) (maxL : Nat) (ret : Option FieldType) (rm : Room) (as' : Array Value) (h : Heap) (o : Addr) (Q : Option Value → Heap → List Loc → Prop) : Prop :=
  MetFree l y (head1 [Cond.code y bytes maxL ret] rm) (fun a U => a = as' ∧ Z.Warmed39 U.vm ∧ U.heap = h ∧ CHv Z EL U.vm h ∧ Safe Z EL U.vm h o) (fun _ _ _ _ _ => True) (fun _ U o U' => ∃ v L, o = .returned v ∧ Q v U'.heap L ∧ CHr Z EL U.vm U.heap U'.vm U'.heap ∧ ReturnedEndW U o U' L rm.cells rm.slots)
theorem goBodyHS {y : MethodName} {bytes : ByteArray} {maxL : Nat} {ret : Option FieldType} {ws : List Cond} {rm : Room} {as' : Array Value} {ob : Addr} (hp : plainFor y = true)
    (body : ∀ p e s m below meth c s₁, p.tables.exec = Jvm.exec → Z.Warmed39 s.vm → c.code = bytes → c.maxLocals = maxL → s.vm.findClass y.cls = some m.cls → meth.name = y.name → meth.sig.returnType = ret → meth.locks = false →
      Stand p l e rm (s.setVm s.vm) m as' below meth c s₁ [] 0 0 → s₁.heap = h → s.Since s.vm 0 → s.heap = h → CHr Z EL s.vm h s.vm h → Safe Z EL s.vm h ob → Go p e below (GoEndH Z EL s rm.cells rm.slots Q) s₁ (entryFrame m as' maxL)) :
    MetFree l y (head1 (Cond.code y bytes maxL ret :: ws) rm) (fun a U => a = as' ∧ Z.Warmed39 U.vm ∧ U.heap = h ∧ CHv Z EL U.vm h ∧ Safe Z EL U.vm h ob) (fun _ _ _ _ _ => True) (fun _ U o U' => ∃ v L, o = .returned v ∧ Q v U'.heap L ∧ CHr Z EL U.vm U.heap U'.vm U'.heap ∧ ReturnedEndW U o U' L rm.cells rm.slots) := by
  refine MetFree.of_bodySF hp hisR ?_
  intro p e s m args below meth c s₁ Bd hml hP hK
  obtain ⟨rfl, hZ, hh, hC, hO⟩ := hP
  obtain ⟨s₂, o, h1, h2, h3, v, rfl, L, h4, h5, h6⟩ := body p e s m below meth c s₁ Bd.exec hZ Bd.bytes hml (findClass_of_methodNamed Bd.named) (name_of_methodNamed Bd.named Bd.method).1 Bd.returns Bd.notSynchronized (Stand.of_body Bd) (by rw [← hh, Bd.state]; rfl) ((State.WarmedH.refl s).since 0) hh (CHr.refl hC) hO
  exact ⟨s₂, _, h1, h2, h3, v, L, rfl, h4, h5, h6⟩
theorem own_backHS {len : Nat} {as' : Array Value} {ob : Addr} (hM : MetAtHS l Z EL y bytes maxL ret rm as' h ob Q)
    (hZ : Z.Warmed39 vm0) (wc : (Cond.code y bytes maxL ret).before a0 Z = true) (wz : (Cond.initialized y.cls).before a0 Z = true) (hf : rm.frames + 1 ≤ R.frames) (hl : W + (maxL + 11) + rm.locals ≤ R.locals) (hEL : EW Z a0 EL) (H : CHv Z EL vm0 h) (hob : ob < h.size) (hO : Safe Z EL vm0 h ob) :
    BackS l R p e below (s.setVm vm0) args y len W (fun A a => a = as' ∧ A.U.heap = h ∧ A.cells + rm.cells ≤ R.cells ∧ A.slots + rm.slots ≤ R.slots)
      (fun A _ v B => ∃ L, Q v B.U.heap L ∧ B.locs = A.locs ++ L ∧ B.cells = A.cells + rm.cells ∧ B.slots = A.slots + rm.slots ∧ CHr Z EL vm0 h B.U.vm B.U.heap) := by
  refine BackS.of_freeW (bytes := bytes) (maxL := maxL) (ret := ret) (E := fun _ first o t L k n => k = rm.cells ∧ n = rm.slots ∧ (∃ v, o = .returned v ∧ Q v t.heap L) ∧ CHr Z EL first.vm first.heap t.vm t.heap) hM hf hl ?_ ?_ (fun _ _ _ _ _ _ _ _ _ => trivial) ?_ ?_
  · intro m meth c A a Y hp
    have hU : Z.Warmed39 A.U.vm := wtrans (s := s.setVm vm0) hZ Y.warmed
    exact ⟨by show (Cond.and _ .tt).before a A.U = true; rw [Cond.before_and, mv hU wc]; rfl, mv hU wc, mv hU wz, hp.2.2.1, hp.2.2.2⟩
  · intro m meth c A a g mk Y hp
    have q := CHv.at Y hZ hEL H
    exact ⟨hp.1, wtrans (s := s.setVm vm0) hZ Y.warmed, hp.2.1, q.1, q.safe hob hO⟩
  · rintro _ _ _ _ ⟨v, L, h1, h2, h3, h4⟩
    exact ⟨L, _, _, h4, rfl, rfl, ⟨v, h1, h2⟩, h3⟩
  · rintro m meth c A a g mk v t L k n Y hp _ _ ⟨e1, e2, ⟨v', e3, e4⟩, e5⟩
    cases e3; subst e1 e2
    refine ⟨L, e4, rfl, rfl, rfl, (CHv.at Y hZ hEL H).trans ?_⟩
    rw [← hp.2.1]; exact e5
theorem Go.callIHS (X : Stand p l e R (s.setVm vm0) m args below meth c T locs cells slots) (hx : p.tables.exec = Jvm.exec) (hZ : Z.Warmed39 vm0) (hy1 : y.name = "<init>") (hown : vm0.findClass own = some m.cls)
    (wl : (Cond.methodLink own index y).before a0 Z = true) (wi : (Cond.instanceMethod y).before a0 Z = true) (wz : (Cond.initialized y.cls).before a0 Z = true) (wc : (Cond.code y bytes maxL none).before a0 Z = true)
    (hy : y.cls ≠ "java/lang/invoke/MethodHandle" ∧ y.cls ≠ "java/lang/invoke/VarHandle") {a : Addr} (hM : MetAtHS l Z EL y bytes maxL none rm (.ref a :: argsL).toArray h a Qc) (eT : T.heap = h) (hS : s.Since vm0 k0) (hk : k0 ≤ h.size) (hEL : EW Z a0 EL) (hC : CHr Z EL s.vm hs vm0 h) (hob : a < h.size) (hO : Safe Z EL vm0 h a) (hsize : Ls.size = c.maxLocals)
    (hlen : ∀ sig, parseMethodDescriptor y.desc = some sig → argsL.length = sig.parameters.length) (hd : decode c.code pc = .ok (.invokespecial index, 3)) (hst : st = argsL.reverse ++ .ref a :: rest)
    (hW : (rest.map fun v => v.category).sum ≤ W) (hf : rm.frames + 1 ≤ R.frames) (hl : W + (maxL + 11) + rm.locals ≤ R.locals) (hc : cells + rm.cells ≤ R.cells) (hs' : slots + rm.slots ≤ R.slots)
    (kk : ∀ v T' L', Stand p l e R (s.setVm T'.vm) m args below meth c T' (locs ++ L') (cells + rm.cells) (slots + rm.slots) → s.Since T'.vm T'.heap.size → Z.Warmed39 T'.vm → T'.vm.findClass own = some m.cls → CHr Z EL s.vm hs T'.vm T'.heap → Qc v T'.heap L' → Go p e below F T' (mkF m (pc + 3) Ls (v.toList ++ rest))) : Go p e below F T (mkF m pc Ls st) := by
  have hZ' : Z.Warmed39 (s.setVm vm0).vm := hZ
  obtain ⟨v, vm₁, ⟨T', L', k', n'⟩, -, X', hS', hgr, ⟨Lc, hQ, l1, y1, z1, hC'⟩, stp⟩ := X.specialBackS hx hy1 hown (mvT hZ' wl) (mvT hZ' wi) (mvT hZ' wc) hy (own_backHS (W := W) hM hZ wc wz hf hl hEL hC.1 hob hO) (g := mkF m pc Ls st) rfl hsize (Steps.refl _) (a := a) hlen hst (by show 2 * 0 + _ ≤ _; omega) hd (fun _ _ => ⟨rfl, eT, hc, hs'⟩)
  dsimp only [Pt.U, Pt.locs, Pt.cells, Pt.slots] at X' l1 y1 z1 stp hQ hS' hgr hC'
  subst l1 y1 z1
  exact Go.via stp (kk v T' Lc X' (hS.trans hS' (Nat.le_trans hk (by rw [← eT]; exact hgr))) (State.Warmed39.trans (t := s.setVm vm0) hZ' hS'.1) (by rw [hS'.1.alike.findClass]; exact hown) (hC.trans hC') hQ)
theorem Go.retVH (X : Stand p l e R (s.setVm vm0) m args below meth c T locs cells slots) (hx : p.tables.exec = Jvm.exec) (hZ : Z.Warmed39 vm0) (hEL : EW Z a0 EL) (hs0 : s.heap = hs) (eT : T.heap = h) (hC : CHr Z EL s.vm hs vm0 h) (hS : s.Since vm0 k0) (hk : k0 ≤ T.heap.size) (hlk : meth.locks = false) (hret : meth.sig.returnType = none) (hd : decode c.code pc = .ok (.return_, 1)) (hK : cells ≤ K) (hN : slots ≤ N) (hq : Q none T.heap locs) : Go p e below (GoEndH Z EL s K N Q) T (mkF m pc Ls []) := by
  obtain ⟨fs, hr, hrun, hended, hE⟩ := X.leaveW hS hk (v := none) (fun _ => rfl) hlk
  exact ⟨_, _, X.returnOut hx hret hd hr, hrun, hended, _, rfl, _, hq, endCH (T := T) X hZ hEL hs0 eT hC, endW_mono hE hK hN⟩
end StrGo
end Jvm.RoadKit
/- laws to paste: Road.backV, Road.eqW, Road.codOf (cut by pick.py; bodies as the Statement names them) -/
namespace Jvm.Pilot.@@N@@
namespace StrChars
open Jvm Sem ClassFile Op Lib Jvm.Stand Jvm.Free.XT Jvm.Free.ALB Jvm.Free.JM Jvm.Free
open Jvm.Lib.Cold (StaticIs)
/-- a char array whose places are chars -/
def Ch (a : Addr) (A : Cell) (U : State) : Prop := Arr .char a A U ∧ Typed .char A
theorem Ch.mv {a : Addr} {A : Cell} {U U' : State} (h : Ch a A U) (hal : U.vm.Alike U'.vm) (hh : U'.heap = U.heap) : Ch a A U' := ⟨h.1.mv hal hh, h.2⟩
theorem Ch.keep {a : Addr} {A : Cell} {U U' : State} (h : Ch a A U) (hal : U.vm.Alike U'.vm) (hk : U'.heap[a]? = some A) : Ch a A U' := ⟨h.1.keep hal hk, h.2⟩
/-- what place i of a char[]'s cell holds -/
def cv (A : Cell) (i : Nat) : Int32 := match A.slots[i]? with | some (.int x) => x | _ => 0
theorem Ch.get {a : Addr} {A : Cell} {U : State} (h : Ch a A U) {i : Nat} (hi : i < A.slots.size) : A.slots[i]? = some (.int (cv A i)) := by
  have e := Array.getElem?_eq_getElem hi
  have f := h.2 i _ e
  unfold cv; rw [e]
  generalize A.slots[i] = v at f
  cases v <;> simp [fits] at f ⊢
/-- the byte that i2b leaves of a char -/
def lo8 (x : Int32) : Int32 := x.toInt8.toInt32
theorem fits_lo8 (y : Int32) : fits .byte (.int (lo8 y)) = true := by
  have h1 := y.toInt8.le_toInt
  have h2 := y.toInt8.toInt_lt
  simp only [lo8, fits, Bool.and_eq_true, decide_eq_true_eq, Int32.le_iff_toInt_le, Int8.toInt_toInt32, show (-128 : Int32).toInt = -128 from by decide, show (127 : Int32).toInt = 127 from by decide]
  omega
/-- A' is A but that each place j of lo .. hi - 1 holds f j -/
def Laid (A A' : Cell) (lo hi : Nat) (f : Nat → Value) : Prop := A'.cls = A.cls ∧ A'.vm = A.vm ∧ A'.slots.size = A.slots.size ∧ ∀ i, A'.slots[i]? = if lo ≤ i ∧ i < hi then some (f i) else A.slots[i]?
theorem Laid.zero (A : Cell) (lo : Nat) (f : Nat → Value) : Laid A A lo (lo + 0) f := ⟨rfl, rfl, rfl, fun i => by rw [if_neg (by omega)]⟩
theorem Laid.step {A Ak : Cell} {lo k : Nat} {f : Nat → Value} {v : Value} (h : Laid A Ak lo k f) (hlo : lo ≤ k) (hk : k < Ak.slots.size) (hv : v = f k) : Laid A (Ak.setSlot k v) lo (k + 1) f := by
  refine ⟨h.1, h.2.1, by simpa [Cell.setSlot] using h.2.2.1, fun i => ?_⟩
  by_cases e : k = i
  · subst e; rw [Cell.slots_setSlot_self v hk, if_pos (by omega), hv]
  · rw [Cell.slots_setSlot_ne v e, h.2.2.2 i]
    by_cases q : lo ≤ i ∧ i < k
    · rw [if_pos q, if_pos (by omega)]
    · rw [if_neg q, if_neg (by omega)]
def U16 : String := "java/lang/StringUTF16"
namespace Cmp5
def yN : MethodName := ⟨"java/lang/StringUTF16", "compress", "([CI[BII)I"⟩
abbrev yB : ByteArray := jdk_52_method_21_code
theorem d0 : decode yB 0 = .ok (.iconst 0, 1) := by decide +kernel
theorem d1 : decode yB 1 = .ok (.istore 5, 2) := by decide +kernel
theorem d3 : decode yB 3 = .ok (.iload 5, 2) := by decide +kernel
theorem d5 : decode yB 5 = .ok (.iload 4, 2) := by decide +kernel
theorem d7 : decode yB 7 = .ok (.if_icmp (.ge) 37, 3) := by decide +kernel
theorem d10 : decode yB 10 = .ok (.aload_n 0, 1) := by decide +kernel
theorem d11 : decode yB 11 = .ok (.iload_n 1, 1) := by decide +kernel
theorem d12 : decode yB 12 = .ok (.caload, 1) := by decide +kernel
theorem d13 : decode yB 13 = .ok (.istore 6, 2) := by decide +kernel
theorem d15 : decode yB 15 = .ok (.iload 6, 2) := by decide +kernel
theorem d17 : decode yB 17 = .ok (.sipush 255, 3) := by decide +kernel
theorem d20 : decode yB 20 = .ok (.if_icmp (.le) 6, 3) := by decide +kernel
theorem d26 : decode yB 26 = .ok (.aload_n 2, 1) := by decide +kernel
theorem d27 : decode yB 27 = .ok (.iload_n 3, 1) := by decide +kernel
theorem d28 : decode yB 28 = .ok (.iload 6, 2) := by decide +kernel
theorem d30 : decode yB 30 = .ok (.i2b, 1) := by decide +kernel
theorem d31 : decode yB 31 = .ok (.bastore, 1) := by decide +kernel
theorem d32 : decode yB 32 = .ok (.iinc 1 1, 3) := by decide +kernel
theorem d35 : decode yB 35 = .ok (.iinc 3 1, 3) := by decide +kernel
theorem d38 : decode yB 38 = .ok (.iinc 5 1, 3) := by decide +kernel
theorem d41 : decode yB 41 = .ok (.goto (-38), 3) := by decide +kernel
theorem d44 : decode yB 44 = .ok (.iload 4, 2) := by decide +kernel
theorem d46 : decode yB 46 = .ok (.ireturn, 1) := by decide +kernel
def site : List Cond := []
def tab : Cond := tabOf yN yB 7 (some .int) site
def P (b : Addr) (A : Cell) (d : Addr) (B : Cell) (o q len : Nat) (args : Array Value) (s : State) : Prop := args = #[.ref b, .int (Int32.ofNat o), .ref d, .int (Int32.ofNat q), .int (Int32.ofNat len)] ∧ Ch b A s ∧ Arr .byte d B s ∧ b ≠ d ∧ o + len ≤ A.slots.size ∧ q + len ≤ B.slots.size ∧ ∀ i, i < len → ¬ 255 < cv A (o + i)
def E (b : Addr) (A : Cell) (d : Addr) (B : Cell) (o q len : Nat) (r : Option Value) (s u : State) : Prop := r = some (.int (Int32.ofNat len)) ∧ ∃ B', Put d B' s u ∧ Laid B B' q (q + len) (fun j => Value.int (lo8 (cv A (o + (j - q)))))
/-- no char of the range above 255: len; the places written hold each char's low byte -/
theorem law (l : Launch) (b : Addr) (A : Cell) (d : Addr) (B : Cell) (o q len : Nat) : Law l yN 5 5 0 0 yB 7 (some .int) site (P b A d B o q len) (E b A d B o q len) (copyLocs d q len) 0 0 := by
  refine Law.of_walk (plainFor_of_name (by decide +kernel)) (by decide +kernel) (by decide +kernel) (by decide) (fun _ _ h => by rw [h.1]; rfl) (fun _ U U' hal hh h => ⟨h.1, h.2.1.mv hal hh, h.2.2.1.mv hal hh, h.2.2.2⟩) (fun r U U' V V' h1 hal h2 h => ⟨h.1, h.2.elim fun B' q => ⟨B', q.1.mv h1 h2, q.2⟩⟩) ?_
  intro p e s m args below meth c s₁ X0 hexec hbytes hml hret hlk hnm hown hh0 W hP
  obtain ⟨rfl, hA, hB, hne, l1, l2, hp⟩ := hP
  have c1 : Steps p.tables e below (s₁.setTop (entryFrame m #[.ref b, .int (Int32.ofNat o), .ref d, .int (Int32.ofNat q), .int (Int32.ofNat len)] 7)) (s₁.setTop (mkF m 0 #[.val (.ref b), .val (.int (Int32.ofNat o)), .val (.ref d), .val (.int (Int32.ofNat q)), .val (.int (Int32.ofNat len)), .unset, .unset] [])) := entry rfl
  have hA0 := hA.1.mv X0.warmed.alike hh0
  have hB0 := hB.mv X0.warmed.alike hh0
  have a31 := hA.1.2.2.2
  have c2 : Steps p.tables e below (s₁.setTop (entryFrame m #[.ref b, .int (Int32.ofNat o), .ref d, .int (Int32.ofNat q), .int (Int32.ofNat len)] 7)) (s₁.setTop (mkF m 3 #[.val (.ref b), .val (.int (Int32.ofNat o)), .val (.ref d), .val (.int (Int32.ofNat q)), .val (.int (Int32.ofNat len)), .val (.int 0), .unset] [])) := c1.trans (by
    refine iconstV X0.here hexec rfl 0 (hb hbytes d0) (by decide) ?_
    refine XS.istore X0.here hexec rfl (hb hbytes d1) rfl rfl ?_
    exact Steps.refl _)
  have loop : ∀ (r i : Nat), i + r = len → ∀ (z : Slot), (z = .unset ∨ ∃ w, z = .val w ∧ w.category = 1) → ∀ (Tl : State) (Bk : Cell), Stand p l e { frames := 0, locals := 0, cells := 0, slots := 0 } s m #[.ref b, .int (Int32.ofNat o), .ref d, .int (Int32.ofNat q), .int (Int32.ofNat len)] below meth c Tl ([] ++ copyLocs d q i) 0 0 → Put d Bk s₁ Tl → Laid B Bk q (q + i) (fun j => Value.int (lo8 (cv A (o + (j - q))))) →
      Steps p.tables e below (s₁.setTop (entryFrame m #[.ref b, .int (Int32.ofNat o), .ref d, .int (Int32.ofNat q), .int (Int32.ofNat len)] 7)) (Tl.setTop (mkF m 3 #[.val (.ref b), .val (.int (Int32.ofNat (o + i))), .val (.ref d), .val (.int (Int32.ofNat (q + i))), .val (.int (Int32.ofNat len)), .val (.int (Int32.ofNat i)), z] [])) → ∃ (T' : State) (B' : Cell) (z' : Slot), Stand p l e { frames := 0, locals := 0, cells := 0, slots := 0 } s m #[.ref b, .int (Int32.ofNat o), .ref d, .int (Int32.ofNat q), .int (Int32.ofNat len)] below meth c T' ([] ++ copyLocs d q len) 0 0 ∧ Put d B' s₁ T' ∧ Laid B B' q (q + len) (fun j => Value.int (lo8 (cv A (o + (j - q))))) ∧
      Steps p.tables e below (s₁.setTop (entryFrame m #[.ref b, .int (Int32.ofNat o), .ref d, .int (Int32.ofNat q), .int (Int32.ofNat len)] 7)) (T'.setTop (mkF m 3 #[.val (.ref b), .val (.int (Int32.ofNat (o + len))), .val (.ref d), .val (.int (Int32.ofNat (q + len))), .val (.int (Int32.ofNat len)), .val (.int (Int32.ofNat len)), z'] [])) := by
    intro r
    induction r with
    | zero =>
      intro i hi z hz Tl Bk Xl pl fl cl
      have hil : i = len := by omega
      rw [hil] at Xl fl cl
      exact ⟨Tl, Bk, z, Xl, pl, fl, cl⟩
    | succ r ih =>
      intro i hi z hz Tl Bk Xl pl fl cl
      have all := X0.warmed.alike.symm.trans Xl.warmed.alike
      have hAl := hA0.keep all (pl.other hne hA0.1)
      have hBk := hB0.like all pl.1 fl.1 fl.2.1 fl.2.2.1
      have hlt : q + i < Bk.slots.size := by rw [fl.2.2.1]; omega
      have c3 : Steps p.tables e below (s₁.setTop (entryFrame m #[.ref b, .int (Int32.ofNat o), .ref d, .int (Int32.ofNat q), .int (Int32.ofNat len)] 7)) (Tl.setTop (mkF m 12 #[.val (.ref b), .val (.int (Int32.ofNat (o + i))), .val (.ref d), .val (.int (Int32.ofNat (q + i))), .val (.int (Int32.ofNat len)), .val (.int (Int32.ofNat i)), z] [.int (Int32.ofNat (o + i)), .ref b])) := cl.trans (by
        refine XS.iload Xl.here hexec rfl (hb hbytes d3) rfl ?_
        refine XS.iload Xl.here hexec rfl (hb hbytes d5) rfl ?_
        refine XS.icmpNo Xl.here hexec rfl (hb hbytes d7) rfl (ii_ge_f (lt32 (by omega) (by omega))) ?_
        refine XS.aloadN Xl.here hexec rfl (hb hbytes d10) rfl rfl ?_
        refine XS.iloadN Xl.here hexec rfl (hb hbytes d11) rfl ?_
        exact Steps.refl _)
      have c4 : Steps p.tables e below (s₁.setTop (entryFrame m #[.ref b, .int (Int32.ofNat o), .ref d, .int (Int32.ofNat q), .int (Int32.ofNat len)] 7)) (Tl.setTop (mkF m 13 #[.val (.ref b), .val (.int (Int32.ofNat (o + i))), .val (.ref d), .val (.int (Int32.ofNat (q + i))), .val (.int (Int32.ofNat len)), .val (.int (Int32.ofNat i)), z] [.int (cv A (o + i))])) := c3.trans (by
        refine Xl.aget hexec hAl rfl (hA.get (i := o + i) (by omega)) rfl rfl (hb hbytes d12) ?_
        exact Steps.refl _)
      have c5 : Steps p.tables e below (s₁.setTop (entryFrame m #[.ref b, .int (Int32.ofNat o), .ref d, .int (Int32.ofNat q), .int (Int32.ofNat len)] 7)) (Tl.setTop (mkF m 15 #[.val (.ref b), .val (.int (Int32.ofNat (o + i))), .val (.ref d), .val (.int (Int32.ofNat (q + i))), .val (.int (Int32.ofNat len)), .val (.int (Int32.ofNat i)), .val (.int (cv A (o + i)))] [])) := c4.trans (by
        refine XS.istoreS Xl.here hexec rfl (hb hbytes d13) rfl rfl hz ?_
        exact Steps.refl _)
      have c6 : Steps p.tables e below (s₁.setTop (entryFrame m #[.ref b, .int (Int32.ofNat o), .ref d, .int (Int32.ofNat q), .int (Int32.ofNat len)] 7)) (Tl.setTop (mkF m 31 #[.val (.ref b), .val (.int (Int32.ofNat (o + i))), .val (.ref d), .val (.int (Int32.ofNat (q + i))), .val (.int (Int32.ofNat len)), .val (.int (Int32.ofNat i)), .val (.int (cv A (o + i)))] [.int (lo8 (cv A (o + i))), .int (Int32.ofNat (q + i)), .ref d])) := c5.trans (by
        refine XS.iload Xl.here hexec rfl (hb hbytes d15) rfl ?_
        refine sipushV Xl.here hexec rfl 255 (hb hbytes d17) (by decide) ?_
        refine XS.icmpYes Xl.here hexec rfl (pc0 := 20) rfl (hb hbytes d20) rfl (ii_le_t (hp i (by omega))) (by decide) rfl ?_
        refine XS.aloadN Xl.here hexec rfl (hb hbytes d26) rfl rfl ?_
        refine XS.iloadN Xl.here hexec rfl (hb hbytes d27) rfl ?_
        refine XS.iload Xl.here hexec rfl (hb hbytes d28) rfl ?_
        refine i2b Xl.here hexec rfl (hb hbytes d30) rfl ?_
        exact Steps.refl _)
      obtain ⟨T7, X7, p7, st7⟩ := Xl.aput hexec hBk rfl hlt rfl (fits_lo8 (cv A (o + i))) (g := (mkF m 31 #[.val (.ref b), .val (.int (Int32.ofNat (o + i))), .val (.ref d), .val (.int (Int32.ofNat (q + i))), .val (.int (Int32.ofNat len)), .val (.int (Int32.ofNat i)), .val (.int (cv A (o + i)))] [.int (lo8 (cv A (o + i))), .int (Int32.ofNat (q + i)), .ref d])) rfl (rest := []) rfl (hb hbytes d31)
      have c8 : Steps p.tables e below (s₁.setTop (entryFrame m #[.ref b, .int (Int32.ofNat o), .ref d, .int (Int32.ofNat q), .int (Int32.ofNat len)] 7)) (T7.setTop (mkF m 32 #[.val (.ref b), .val (.int (Int32.ofNat (o + i))), .val (.ref d), .val (.int (Int32.ofNat (q + i))), .val (.int (Int32.ofNat len)), .val (.int (Int32.ofNat i)), .val (.int (cv A (o + i)))] [])) := c6.trans (st7 _ (Steps.refl _))
      have c9 : Steps p.tables e below (s₁.setTop (entryFrame m #[.ref b, .int (Int32.ofNat o), .ref d, .int (Int32.ofNat q), .int (Int32.ofNat len)] 7)) (T7.setTop (mkF m 3 #[.val (.ref b), .val (.int (Int32.ofNat (o + i) + 1)), .val (.ref d), .val (.int (Int32.ofNat (q + i) + 1)), .val (.int (Int32.ofNat len)), .val (.int (Int32.ofNat i + 1)), .val (.int (cv A (o + i)))] [])) := c8.trans (by
        refine iincV X7.here hexec rfl 1 (hb hbytes d32) (by decide) rfl rfl ?_
        refine iincV X7.here hexec rfl 1 (hb hbytes d35) (by decide) rfl rfl ?_
        refine iincV X7.here hexec rfl 1 (hb hbytes d38) (by decide) rfl rfl ?_
        refine XS.goto X7.here hexec rfl (pc0 := 41) rfl (hb hbytes d41) (by decide) rfl ?_
        exact Steps.refl _)
      have c10 : Steps p.tables e below (s₁.setTop (entryFrame m #[.ref b, .int (Int32.ofNat o), .ref d, .int (Int32.ofNat q), .int (Int32.ofNat len)] 7)) (T7.setTop (mkF m 3 #[.val (.ref b), .val (.int (Int32.ofNat (o + (i + 1)))), .val (.ref d), .val (.int (Int32.ofNat (q + (i + 1)))), .val (.int (Int32.ofNat len)), .val (.int (Int32.ofNat (i + 1))), .val (.int (cv A (o + i)))] [])) := by
        have := c9
        rw [succ32, succ32, succ32] at this
        exact this
      exact ih (i + 1) (by omega) _ (Or.inr ⟨_, rfl, rfl⟩) T7 _ (by rw [copyLocs_step, ← List.append_assoc]; exact X7) (pl.trans p7) (fl.step (by omega) hlt (by simp)) c10
  obtain ⟨T9, B9, z9, X9, p9, f9, g9⟩ := loop len 0 (by omega) .unset (Or.inl rfl) s₁ B (by simpa [copyLocs] using X0) ⟨hB0.1, fun _ _ => rfl, rfl⟩ (Laid.zero _ _ _) c2
  have c11 : Steps p.tables e below (s₁.setTop (entryFrame m #[.ref b, .int (Int32.ofNat o), .ref d, .int (Int32.ofNat q), .int (Int32.ofNat len)] 7)) (T9.setTop (mkF m 46 #[.val (.ref b), .val (.int (Int32.ofNat (o + len))), .val (.ref d), .val (.int (Int32.ofNat (q + len))), .val (.int (Int32.ofNat len)), .val (.int (Int32.ofNat len)), z9] [.int (Int32.ofNat len)])) := g9.trans (by
    refine XS.iload X9.here hexec rfl (hb hbytes d3) rfl ?_
    refine XS.iload X9.here hexec rfl (hb hbytes d5) rfl ?_
    refine XS.icmpYes X9.here hexec rfl (pc0 := 7) rfl (hb hbytes d7) rfl (ii_ge_t (nlt32 (by omega) (Nat.le_refl _))) (by decide) rfl ?_
    refine XS.iload X9.here hexec rfl (hb hbytes d44) rfl ?_
    exact Steps.refl _)
  exact ⟨T9, some (.int (Int32.ofNat len)), _, _, _, X9, by simp, rfl, rfl, (fun h => by cases h), ⟨rfl, B9, p9.from hh0, f9⟩, fun fs hl => c11.trans (X9.ireturnOut hexec hret rfl (Or.inl rfl) (hb hbytes d46) hl)⟩
end Cmp5
namespace Cmp3
def yN : MethodName := ⟨"java/lang/StringUTF16", "compress", "([CII)[B"⟩
abbrev yB : ByteArray := jdk_52_method_16_code
theorem d0 : decode yB 0 = .ok (.iload_n 2, 1) := by decide +kernel
theorem d1 : decode yB 1 = .ok (.newarray .byte, 2) := by decide +kernel
theorem d3 : decode yB 3 = .ok (.astore_n 3, 1) := by decide +kernel
theorem d4 : decode yB 4 = .ok (.aload_n 0, 1) := by decide +kernel
theorem d5 : decode yB 5 = .ok (.iload_n 1, 1) := by decide +kernel
theorem d6 : decode yB 6 = .ok (.aload_n 3, 1) := by decide +kernel
theorem d7 : decode yB 7 = .ok (.iconst 0, 1) := by decide +kernel
theorem d8 : decode yB 8 = .ok (.iload_n 2, 1) := by decide +kernel
theorem d9 : decode yB 9 = .ok (.invokestatic 115, 3) := by decide +kernel
theorem d12 : decode yB 12 = .ok (.istore 4, 2) := by decide +kernel
theorem d14 : decode yB 14 = .ok (.iload 4, 2) := by decide +kernel
theorem d16 : decode yB 16 = .ok (.iload_n 2, 1) := by decide +kernel
theorem d17 : decode yB 17 = .ok (.if_icmp (.eq) 40, 3) := by decide +kernel
theorem d57 : decode yB 57 = .ok (.aload_n 3, 1) := by decide +kernel
theorem d58 : decode yB 58 = .ok (.areturn, 1) := by decide +kernel
def site : List Cond := [.arrayClass .byte, Cmp5.tab] ++ staticW U16 115 Cmp5.yN
def tab : Cond := tabOf yN yB 6 (some (.array .byte)) site
def P (b : Addr) (A : Cell) (o len : Nat) (args : Array Value) (s : State) : Prop := args = #[.ref b, .int (Int32.ofNat o), .int (Int32.ofNat len)] ∧ Ch b A s ∧ o + len ≤ A.slots.size ∧ len ≤ 536870912 ∧ ∀ i, i < len → ¬ 255 < cv A (o + i)
def E (b : Addr) (A : Cell) (o len : Nat) (r : Option Value) (s u : State) : Prop := NewArr .byte "[B" len (fun j => .int (lo8 (cv A (o + j)))) r s u ∧ u.heap.size = s.heap.size + 1
/-- no char of the range above 255: a new byte[] of their low bytes -/
theorem law (l : Launch) (b : Addr) (A : Cell) (o len : Nat) : Law l yN 3 3 1 18 yB 6 (some (.array .byte)) site (P b A o len) (E b A o len) [] 1 len := by
  refine Law.of_walk (plainFor_of_name (by decide +kernel)) (by decide +kernel) (by decide +kernel) (by decide) (fun _ _ h => by rw [h.1]; rfl) (fun _ U U' hal hh h => ⟨h.1, h.2.1.mv hal hh, h.2.2⟩) (fun r U U' V V' h1 hal h2 h => ⟨NewArr.mv r U U' V V' h1 hal h2 h.1, by rw [h1, h2]; exact h.2⟩) ?_
  intro p e s m args below meth c s₁ X0 hexec hbytes hml hret hlk hnm hown hh0 W hP
  obtain ⟨rfl, hA, l1, l2, hp⟩ := hP
  have a31 := hA.1.2.2.2
  have c1 : Steps p.tables e below (s₁.setTop (entryFrame m #[.ref b, .int (Int32.ofNat o), .int (Int32.ofNat len)] 6)) (s₁.setTop (mkF m 0 #[.val (.ref b), .val (.int (Int32.ofNat o)), .val (.int (Int32.ofNat len)), .unset, .unset, .unset] [])) := entry rfl
  have c2 : Steps p.tables e below (s₁.setTop (entryFrame m #[.ref b, .int (Int32.ofNat o), .int (Int32.ofNat len)] 6)) (s₁.setTop (mkF m 1 #[.val (.ref b), .val (.int (Int32.ofNat o)), .val (.int (Int32.ofNat len)), .unset, .unset, .unset] [.int (Int32.ofNat len)])) := c1.trans (by
    refine XS.iloadN X0.here hexec rfl (hb hbytes d0) rfl ?_
    exact Steps.refl _)
  obtain ⟨T3, B3, X3, ba3, bs3, bv3, bh3, bf3, st3⟩ := X0.anew hexec (atype := .byte) (wk W (.arrayClass .byte)) rfl (by show len * 1 ≤ _; omega) (by omega) (g := (mkF m 1 #[.val (.ref b), .val (.int (Int32.ofNat o)), .val (.int (Int32.ofNat len)), .unset, .unset, .unset] [.int (Int32.ofNat len)])) rfl (hb hbytes d1) (rest := []) rfl (Nat.le_refl _) (by show 0 + len ≤ len; omega)
  rw [hh0] at ba3 st3
  have kp3 : XT.Kept s T3 := (XT.Kept.of_eq hh0).push bh3
  have hA3 := hA.keep X3.warmed.alike (kp3 _ _ hA.1.1)
  have hne : b ≠ s.heap.size := hA.1.ne
  have c4 : Steps p.tables e below (s₁.setTop (entryFrame m #[.ref b, .int (Int32.ofNat o), .int (Int32.ofNat len)] 6)) (T3.setTop (mkF m 3 #[.val (.ref b), .val (.int (Int32.ofNat o)), .val (.int (Int32.ofNat len)), .unset, .unset, .unset] [.ref s.heap.size])) := c2.trans (st3 _ (Steps.refl _))
  have c5 : Steps p.tables e below (s₁.setTop (entryFrame m #[.ref b, .int (Int32.ofNat o), .int (Int32.ofNat len)] 6)) (T3.setTop (mkF m 9 #[.val (.ref b), .val (.int (Int32.ofNat o)), .val (.int (Int32.ofNat len)), .val (.ref s.heap.size), .unset, .unset] [.int (Int32.ofNat len), .int 0, .ref s.heap.size, .int (Int32.ofNat o), .ref b])) := c4.trans (by
    refine XS.astoreN X3.here hexec rfl (hb hbytes d3) rfl rfl rfl ?_
    refine XS.aloadN X3.here hexec rfl (hb hbytes d4) rfl rfl ?_
    refine XS.iloadN X3.here hexec rfl (hb hbytes d5) rfl ?_
    refine XS.aloadN X3.here hexec rfl (hb hbytes d6) rfl rfl ?_
    refine iconstV X3.here hexec rfl 0 (hb hbytes d7) (by decide) ?_
    refine XS.iloadN X3.here hexec rfl (hb hbytes d8) rfl ?_
    exact Steps.refl _)
  obtain ⟨v6, T6, X6, E6, g6⟩ := X3.callS hexec (Cmp5.law l b A s.heap.size B3 o 0 len) hown (wks W (staticW U16 115 Cmp5.yN)) (wk W Cmp5.tab) (W := 0) (Nat.le_of_ble_eq_true rfl) (Nat.le_of_ble_eq_true rfl) (Nat.le_refl _) (by show 0 + len + 0 ≤ len; omega) (g := (mkF m 9 #[.val (.ref b), .val (.int (Int32.ofNat o)), .val (.int (Int32.ofNat len)), .val (.ref s.heap.size), .unset, .unset] [.int (Int32.ofNat len), .int (Int32.ofNat 0), .ref s.heap.size, .int (Int32.ofNat o), .ref b])) rfl (by rw [hml]; rfl) c5 (argsL := [.ref b, .int (Int32.ofNat o), .ref s.heap.size, .int (Int32.ofNat 0), .int (Int32.ofNat len)]) (rest := []) rfl rfl (by show 2 * 0 + 0 ≤ _; decide) (hb hbytes d9) (⟨rfl, hA3, ba3, hne, l1, by rw [bs3]; simp, hp⟩)
  obtain ⟨rfl, B6, p6, f6⟩ := E6
  have c7 : Steps p.tables e below (s₁.setTop (entryFrame m #[.ref b, .int (Int32.ofNat o), .int (Int32.ofNat len)] 6)) (T6.setTop (mkF m 12 #[.val (.ref b), .val (.int (Int32.ofNat o)), .val (.int (Int32.ofNat len)), .val (.ref s.heap.size), .unset, .unset] [.int (Int32.ofNat len)])) := g6
  have c8 : Steps p.tables e below (s₁.setTop (entryFrame m #[.ref b, .int (Int32.ofNat o), .int (Int32.ofNat len)] 6)) (T6.setTop (mkF m 58 #[.val (.ref b), .val (.int (Int32.ofNat o)), .val (.int (Int32.ofNat len)), .val (.ref s.heap.size), .val (.int (Int32.ofNat len)), .unset] [.ref s.heap.size])) := c7.trans (by
    refine XS.istore X6.here hexec rfl (hb hbytes d12) rfl rfl ?_
    refine XS.iload X6.here hexec rfl (hb hbytes d14) rfl ?_
    refine XS.iloadN X6.here hexec rfl (hb hbytes d16) rfl ?_
    refine XS.icmpYes X6.here hexec rfl (pc0 := 17) rfl (hb hbytes d17) rfl (ii_eq_t rfl) (by decide) rfl ?_
    refine XS.aloadN X6.here hexec rfl (hb hbytes d57) rfl rfl ?_
    exact Steps.refl _)
  have X8 := X6.wide (L' := []) (cells' := 1) (slots' := len) (fun x hx hlt => by
    simp only [List.nil_append, copyLocs, List.mem_map, List.mem_range] at hx
    obtain ⟨i, -, rfl⟩ := hx
    exact absurd hlt (Nat.lt_irrefl _)) (Nat.le_refl _) (by omega)
  exact ⟨T6, some (.ref s.heap.size), _, _, _, X8, rfl, rfl, rfl, (fun h => by cases h), ⟨⟨rfl, B6, ba3.like (X3.warmed.alike.symm.trans X6.warmed.alike) p6.1 f6.1 f6.2.1 f6.2.2.1, f6.2.1.trans bv3, by rw [X6.warmed.alike.findClass, f6.1]; exact bf3, by rw [f6.2.2.1, bs3]; simp, fun j hj => by rw [f6.2.2.2 j, if_pos (by omega)]; rfl, kp3.put p6 (Nat.le_refl _)⟩, by rw [p6.2.2, bh3, hh0]; simp⟩, fun fs hl => c8.trans (X8.areturnOut hexec rfl hret rfl (hb hbytes d58) hl)⟩
end Cmp3
namespace CodL
def yN : MethodName := ⟨"java/lang/StringUTF16", "coderFromArrayLen", "([BI)B"⟩
abbrev yB : ByteArray := jdk_52_method_15_code
theorem d0 : decode yB 0 = .ok (.iload_n 1, 1) := by decide +kernel
theorem d1 : decode yB 1 = .ok (.aload_n 0, 1) := by decide +kernel
theorem d2 : decode yB 2 = .ok (.arraylength, 1) := by decide +kernel
theorem d3 : decode yB 3 = .ok (.isub, 1) := by decide +kernel
theorem d4 : decode yB 4 = .ok (.bipush 31, 2) := by decide +kernel
theorem d6 : decode yB 6 = .ok (.iushr, 1) := by decide +kernel
theorem d7 : decode yB 7 = .ok (.i2b, 1) := by decide +kernel
theorem d8 : decode yB 8 = .ok (.ireturn, 1) := by decide +kernel
def site : List Cond := []
def tab : Cond := tabOf yN yB 2 (some .byte) site
def P (d : Addr) (B : Cell) (args : Array Value) (s : State) : Prop := args = #[.ref d, .int (Int32.ofNat B.slots.size)] ∧ Arr .byte d B s
def E (r : Option Value) (s u : State) : Prop := XT.PureE (some (.int 0)) r s u
/-- an array as long as the number of chars: LATIN1 -/
theorem law (l : Launch) (d : Addr) (B : Cell) : Law l yN 2 2 0 0 yB 2 (some .byte) site (P d B) E [] 0 0 := by
  refine Law.of_walk (plainFor_of_name (by decide +kernel)) (by decide +kernel) (by decide +kernel) (by decide) (fun _ _ h => by rw [h.1]; rfl) (fun _ U U' hal hh h => ⟨h.1, h.2.mv hal hh⟩) (fun r U U' V V' h1 hal h2 h => XT.PureE.mv r U U' V V' h1 hal h2 h) ?_
  intro p e s m args below meth c s₁ X0 hexec hbytes hml hret hlk hnm hown hh0 W hP
  obtain ⟨rfl, hB⟩ := hP
  have hB0 := hB.mv X0.warmed.alike hh0
  have c1 : Steps p.tables e below (s₁.setTop (entryFrame m #[.ref d, .int (Int32.ofNat B.slots.size)] 2)) (s₁.setTop (mkF m 0 #[.val (.ref d), .val (.int (Int32.ofNat B.slots.size))] [])) := entry rfl
  have c2 : Steps p.tables e below (s₁.setTop (entryFrame m #[.ref d, .int (Int32.ofNat B.slots.size)] 2)) (s₁.setTop (mkF m 2 #[.val (.ref d), .val (.int (Int32.ofNat B.slots.size))] [.ref d, .int (Int32.ofNat B.slots.size)])) := c1.trans (by
    refine XS.iloadN X0.here hexec rfl (hb hbytes d0) rfl ?_
    refine XS.aloadN X0.here hexec rfl (hb hbytes d1) rfl rfl ?_
    exact Steps.refl _)
  have c3 : Steps p.tables e below (s₁.setTop (entryFrame m #[.ref d, .int (Int32.ofNat B.slots.size)] 2)) (s₁.setTop (mkF m 8 #[.val (.ref d), .val (.int (Int32.ofNat B.slots.size))] [.int (lo8 (ushr (Int32.ofNat B.slots.size - Int32.ofNat B.slots.size) 31))])) := c2.trans (by
    refine X0.alen hexec hB0 rfl rfl (hb hbytes d2) ?_
    refine XS.isub X0.here hexec rfl (hb hbytes d3) rfl ?_
    refine bipushV X0.here hexec rfl 31 (hb hbytes d4) (by decide) ?_
    refine iushr X0.here hexec rfl (hb hbytes d6) rfl ?_
    refine i2b X0.here hexec rfl (hb hbytes d7) rfl ?_
    exact Steps.refl _)
  have e0 : lo8 (ushr (Int32.ofNat B.slots.size - Int32.ofNat B.slots.size) 31) = 0 := by rw [Int32.sub_self]; decide
  rw [e0] at c3
  exact ⟨s₁, some (.int 0), _, _, _, X0, rfl, rfl, rfl, (fun h => by cases h), ⟨rfl, hh0⟩, fun fs hl => c3.trans (X0.ireturnOut hexec hret rfl (Or.inr (Or.inr (Or.inl rfl))) (hb hbytes d8) hl)⟩
end CodL
/-- the String at a is Latin-1 over a new byte[] (the heap's one new cell): the low bytes of the len chars of A from o on; every cell but a is kept -/
def Got (a : Addr) (D : Cell) (fV fC : Field) (A : Cell) (o len : Nat) (r : Option Value) (s u : State) : Prop := r = none ∧ ∃ D' V : Cell, Blank "java/lang/String" a D' u ∧ Same D D' [fV.slot, fC.slot] ∧ D'.slots[fV.slot]? = some (.ref s.heap.size) ∧ D'.slots[fC.slot]? = some (.int 0) ∧ Arr .byte s.heap.size V u ∧ V.vm = .none ∧ u.vm.findClass "[B" = some V.cls ∧ V.slots.size = len ∧ (∀ j, j < len → V.slots[j]? = some (.int (lo8 (cv A (o + j))))) ∧ (∀ (y : Addr) (c : Cell), y ≠ a → s.heap[y]? = some c → u.heap[y]? = some c) ∧ u.heap.size = s.heap.size + 1
theorem Got.mv {a : Addr} {D A : Cell} {fV fC : Field} {o len : Nat} : ∀ r (U U' V V' : State), U'.heap = U.heap → V.vm.Alike V'.vm → V'.heap = V.heap → Got a D fV fC A o len r U V → Got a D fV fC A o len r U' V' :=
  fun r U U' V V' h1 hal h2 ⟨e0, D', X, a1, a2, a3, a4, a5, a6, a7, a8, a9, a10, a11⟩ => ⟨e0, D', X, a1.mv hal h2, a2, by rw [h1]; exact a3, a4, by rw [h1]; exact a5.mv hal h2, a6, by rw [hal.findClass]; exact a7, a8, a9, by rw [h1, h2]; exact a10, by rw [h1, h2]; exact a11⟩
namespace New4
def yN : MethodName := ⟨"java/lang/String", "<init>", "([CIILjava/lang/Void;)V"⟩
abbrev yB : ByteArray := jdk_42_method_149_code
theorem d0 : decode yB 0 = .ok (.aload_n 0, 1) := by decide +kernel
theorem d1 : decode yB 1 = .ok (.invokespecial 1, 3) := by decide +kernel
theorem d4 : decode yB 4 = .ok (.iload_n 3, 1) := by decide +kernel
theorem d5 : decode yB 5 = .ok (.ifCond (.ne) 22, 3) := by decide +kernel
theorem d27 : decode yB 27 = .ok (.getstatic 38, 3) := by decide +kernel
theorem d30 : decode yB 30 = .ok (.ifCond (.eq) 28, 3) := by decide +kernel
theorem d33 : decode yB 33 = .ok (.aload_n 1, 1) := by decide +kernel
theorem d34 : decode yB 34 = .ok (.iload_n 2, 1) := by decide +kernel
theorem d35 : decode yB 35 = .ok (.iload_n 3, 1) := by decide +kernel
theorem d36 : decode yB 36 = .ok (.invokestatic 177, 3) := by decide +kernel
theorem d39 : decode yB 39 = .ok (.astore 5, 2) := by decide +kernel
theorem d41 : decode yB 41 = .ok (.aload_n 0, 1) := by decide +kernel
theorem d42 : decode yB 42 = .ok (.aload 5, 2) := by decide +kernel
theorem d44 : decode yB 44 = .ok (.iload_n 3, 1) := by decide +kernel
theorem d45 : decode yB 45 = .ok (.invokestatic 47, 3) := by decide +kernel
theorem d48 : decode yB 48 = .ok (.putfield 15, 3) := by decide +kernel
theorem d51 : decode yB 51 = .ok (.aload_n 0, 1) := by decide +kernel
theorem d52 : decode yB 52 = .ok (.aload 5, 2) := by decide +kernel
theorem d54 : decode yB 54 = .ok (.putfield 9, 3) := by decide +kernel
theorem d57 : decode yB 57 = .ok (.return_, 1) := by decide +kernel
def site : List Cond := [.fieldLink "java/lang/String" 38 "java/lang/String" "COMPACT_STRINGS" "Z", Cmp3.tab, CodL.tab, .laysFinal "java/lang/String" "java/lang/String" "value" "[B", .fieldLink "java/lang/String" 9 "java/lang/String" "value" "[B", .laysFinal "java/lang/String" "java/lang/String" "coder" "B", .fieldLink "java/lang/String" 15 "java/lang/String" "coder" "B"] ++ objW "java/lang/String" 1 ++ staticW "java/lang/String" 177 Cmp3.yN ++ staticW "java/lang/String" 47 CodL.yN
def tab : Cond := tabOf yN yB 6 none site
def P (a : Addr) (D : Cell) (fV fC : Field) (b : Addr) (A : Cell) (z : Int32) (o len : Nat) (args : Array Value) (s : State) : Prop := args = #[.ref a, .ref b, .int (Int32.ofNat o), .int (Int32.ofNat len), .null] ∧ Blank "java/lang/String" a D s ∧ Found "java/lang/String" "value" "[B" fV s ∧ Found "java/lang/String" "coder" "B" fC s ∧ Ch b A s ∧ StaticIs s "java/lang/String" "COMPACT_STRINGS" "Z" (.int z) ∧ ¬ z = 0 ∧ 0 < len ∧ o + len ≤ A.slots.size ∧ len ≤ 536870912 ∧ ∀ i, i < len → ¬ 255 < cv A (o + i)
def E (a : Addr) (D : Cell) (fV fC : Field) (A : Cell) (o len : Nat) (r : Option Value) (s u : State) : Prop := Got a D fV fC A o len r s u
/-- len > 0, no char of the range above 255: a Latin-1 String of their low bytes -/
theorem law (l : Launch) (a : Addr) (D : Cell) (fV fC : Field) (b : Addr) (A : Cell) (z : Int32) (o len : Nat) : Law l yN 5 4 2 35 yB 6 none site (P a D fV fC b A z o len) (E a D fV fC A o len) [⟨a, fC.slot⟩, ⟨a, fV.slot⟩] 1 len := by
  refine Law.of_walk (plainFor_of_name (by decide +kernel)) (by decide +kernel) (by decide +kernel) (by decide) (fun _ _ h => by rw [h.1]; rfl) (fun _ U U' hal hh h => ⟨h.1, h.2.1.mv hal hh, h.2.2.1.al hal, h.2.2.2.1.al hal, h.2.2.2.2.1.mv hal hh, h.2.2.2.2.2.1.there hal hh, h.2.2.2.2.2.2⟩) (fun r U U' V V' h1 hal h2 h => Got.mv r U U' V V' h1 hal h2 h) ?_
  intro p e s m args below meth c s₁ X0 hexec hbytes hml hret hlk hnm hown hh0 W hP
  obtain ⟨rfl, hB, f1, f2, hA, s1, hz, l0, l1, l2, hp⟩ := hP
  have a31 := hA.1.2.2.2
  have c1 : Steps p.tables e below (s₁.setTop (entryFrame m #[.ref a, .ref b, .int (Int32.ofNat o), .int (Int32.ofNat len), .null] 6)) (s₁.setTop (mkF m 0 #[.val (.ref a), .val (.ref b), .val (.int (Int32.ofNat o)), .val (.int (Int32.ofNat len)), .val .null, .unset] [])) := entry rfl
  have c2 : Steps p.tables e below (s₁.setTop (entryFrame m #[.ref a, .ref b, .int (Int32.ofNat o), .int (Int32.ofNat len), .null] 6)) (s₁.setTop (mkF m 1 #[.val (.ref a), .val (.ref b), .val (.int (Int32.ofNat o)), .val (.int (Int32.ofNat len)), .val .null, .unset] [.ref a])) := c1.trans (by
    refine XS.aloadN X0.here hexec rfl (hb hbytes d0) rfl rfl ?_
    exact Steps.refl _)
  obtain ⟨T3, X3, q3, st3⟩ := X0.oinit hexec hown (wks W (objW "java/lang/String" 1)) (g := (mkF m 1 #[.val (.ref a), .val (.ref b), .val (.int (Int32.ofNat o)), .val (.int (Int32.ofNat len)), .val .null, .unset] [.ref a])) rfl (by rw [hml]; rfl) (rest := []) rfl (hb hbytes d1) (W := 0) (by show 2 * 0 + 0 ≤ _; decide) (Nat.le_of_ble_eq_true rfl) (Nat.le_of_ble_eq_true rfl)
  have hh3 := q3.trans hh0
  have c4 : Steps p.tables e below (s₁.setTop (entryFrame m #[.ref a, .ref b, .int (Int32.ofNat o), .int (Int32.ofNat len), .null] 6)) (T3.setTop (mkF m 27 #[.val (.ref a), .val (.ref b), .val (.int (Int32.ofNat o)), .val (.int (Int32.ofNat len)), .val .null, .unset] [])) := (c2.trans (st3 _ (Steps.refl _))).trans (by
    refine XS.iloadN X3.here hexec rfl (hb hbytes d4) rfl ?_
    refine XS.ifYes X3.here hexec rfl (pc0 := 5) rfl (hb hbytes d5) rfl (i0_ne_t (nz32 (by omega) l0)) (by decide) rfl ?_
    exact Steps.refl _)
  obtain ⟨T5, X5, q5, st5⟩ := X3.sget hexec hown (wk W (.fieldLink "java/lang/String" 38 "java/lang/String" "COMPACT_STRINGS" "Z")) s1 (fun _ _ h => by rw [hh3]; exact h) (g := (mkF m 27 #[.val (.ref a), .val (.ref b), .val (.int (Int32.ofNat o)), .val (.int (Int32.ofNat len)), .val .null, .unset] [])) rfl (hb hbytes d27)
  have hh5 := q5.trans hh3
  have c6 : Steps p.tables e below (s₁.setTop (entryFrame m #[.ref a, .ref b, .int (Int32.ofNat o), .int (Int32.ofNat len), .null] 6)) (T5.setTop (mkF m 30 #[.val (.ref a), .val (.ref b), .val (.int (Int32.ofNat o)), .val (.int (Int32.ofNat len)), .val .null, .unset] [.int z])) := c4.trans (st5 _ (Steps.refl _))
  have c7 : Steps p.tables e below (s₁.setTop (entryFrame m #[.ref a, .ref b, .int (Int32.ofNat o), .int (Int32.ofNat len), .null] 6)) (T5.setTop (mkF m 36 #[.val (.ref a), .val (.ref b), .val (.int (Int32.ofNat o)), .val (.int (Int32.ofNat len)), .val .null, .unset] [.int (Int32.ofNat len), .int (Int32.ofNat o), .ref b])) := c6.trans (by
    refine XS.ifNo X5.here hexec rfl (hb hbytes d30) rfl (i0_eq_f hz) ?_
    refine XS.aloadN X5.here hexec rfl (hb hbytes d33) rfl rfl ?_
    refine XS.iloadN X5.here hexec rfl (hb hbytes d34) rfl ?_
    refine XS.iloadN X5.here hexec rfl (hb hbytes d35) rfl ?_
    exact Steps.refl _)
  obtain ⟨v8, T8, X8, E8, g8⟩ := X5.callS hexec (Cmp3.law l b A o len) hown (wks W (staticW "java/lang/String" 177 Cmp3.yN)) (wk W Cmp3.tab) (W := 0) (Nat.le_of_ble_eq_true rfl) (Nat.le_of_ble_eq_true rfl) (Nat.le_refl _) (by show 0 + len ≤ len; omega) (g := (mkF m 36 #[.val (.ref a), .val (.ref b), .val (.int (Int32.ofNat o)), .val (.int (Int32.ofNat len)), .val .null, .unset] [.int (Int32.ofNat len), .int (Int32.ofNat o), .ref b])) rfl (by rw [hml]; rfl) c7 (argsL := [.ref b, .int (Int32.ofNat o), .int (Int32.ofNat len)]) (rest := []) rfl rfl (by show 2 * 0 + 0 ≤ _; decide) (hb hbytes d36) (⟨rfl, hA.mv X5.warmed.alike hh5, l1, l2, hp⟩)
  obtain ⟨e8, z8⟩ := E8
  obtain ⟨rfl, N, n1, n2, n3, n4, n5, n6⟩ := NewArr.mv _ T5 s _ _ hh5.symm (Vm.Alike.refl _) rfl e8
  rw [hh5] at z8
  have hB1 := hB.keep X8.warmed.alike (n6 _ _ hB.1)
  have hne : s.heap.size ≠ a := (Nat.ne_of_lt (Array.getElem?_eq_some_iff.mp hB.1).1).symm
  have c9 : Steps p.tables e below (s₁.setTop (entryFrame m #[.ref a, .ref b, .int (Int32.ofNat o), .int (Int32.ofNat len), .null] 6)) (T8.setTop (mkF m 39 #[.val (.ref a), .val (.ref b), .val (.int (Int32.ofNat o)), .val (.int (Int32.ofNat len)), .val .null, .unset] [.ref s.heap.size])) := g8
  have c10 : Steps p.tables e below (s₁.setTop (entryFrame m #[.ref a, .ref b, .int (Int32.ofNat o), .int (Int32.ofNat len), .null] 6)) (T8.setTop (mkF m 45 #[.val (.ref a), .val (.ref b), .val (.int (Int32.ofNat o)), .val (.int (Int32.ofNat len)), .val .null, .val (.ref s.heap.size)] [.int (Int32.ofNat N.slots.size), .ref s.heap.size, .ref a])) := by
    have hc : Steps p.tables e below (s₁.setTop (entryFrame m #[.ref a, .ref b, .int (Int32.ofNat o), .int (Int32.ofNat len), .null] 6)) (T8.setTop (mkF m 45 #[.val (.ref a), .val (.ref b), .val (.int (Int32.ofNat o)), .val (.int (Int32.ofNat len)), .val .null, .val (.ref s.heap.size)] [.int (Int32.ofNat len), .ref s.heap.size, .ref a])) := c9.trans (by
      refine XS.astore X8.here hexec rfl (hb hbytes d39) rfl rfl rfl ?_
      refine XS.aloadN X8.here hexec rfl (hb hbytes d41) rfl rfl ?_
      refine XS.aload X8.here hexec rfl (hb hbytes d42) rfl rfl ?_
      refine XS.iloadN X8.here hexec rfl (hb hbytes d44) rfl ?_
      exact Steps.refl _)
    rw [n4]; exact hc
  obtain ⟨v11, T11, X11, E11, g11⟩ := X8.callS hexec (CodL.law l s.heap.size N) hown (wks W (staticW "java/lang/String" 47 CodL.yN)) (wk W CodL.tab) (W := 1) (Nat.le_of_ble_eq_true rfl) (Nat.le_of_ble_eq_true rfl) (Nat.le_refl _) (by show 0 + len + 0 ≤ len; omega) (g := (mkF m 45 #[.val (.ref a), .val (.ref b), .val (.int (Int32.ofNat o)), .val (.int (Int32.ofNat len)), .val .null, .val (.ref s.heap.size)] [.int (Int32.ofNat N.slots.size), .ref s.heap.size, .ref a])) rfl (by rw [hml]; rfl) c10 (argsL := [.ref s.heap.size, .int (Int32.ofNat N.slots.size)]) (rest := [.ref a]) rfl rfl (by show 2 * 0 + (1 + 0) ≤ _; decide) (hb hbytes d45) (⟨rfl, n1⟩)
  obtain ⟨rfl, q11⟩ := E11
  have hB11 := hB1.mv (X8.warmed.alike.symm.trans X11.warmed.alike) q11
  have c12 : Steps p.tables e below (s₁.setTop (entryFrame m #[.ref a, .ref b, .int (Int32.ofNat o), .int (Int32.ofNat len), .null] 6)) (T11.setTop (mkF m 48 #[.val (.ref a), .val (.ref b), .val (.int (Int32.ofNat o)), .val (.int (Int32.ofNat len)), .val .null, .val (.ref s.heap.size)] [.int 0, .ref a])) := g11
  obtain ⟨T13, X13, p13, bl13, sl13, st13⟩ := X11.finit hexec hown (wk W (.fieldLink "java/lang/String" 15 "java/lang/String" "coder" "B")) (Or.inr ⟨_, (wk W (.laysFinal "java/lang/String" "java/lang/String" "coder" "B"))⟩) (Or.inl ⟨rfl, hnm⟩) f2 (Or.inl rfl) hB11 (t := .byte) (by decide +kernel) rfl (g := (mkF m 48 #[.val (.ref a), .val (.ref b), .val (.int (Int32.ofNat o)), .val (.int (Int32.ofNat len)), .val .null, .val (.ref s.heap.size)] [.int 0, .ref a])) rfl (rest := []) rfl (hb hbytes d48)
  have c14 : Steps p.tables e below (s₁.setTop (entryFrame m #[.ref a, .ref b, .int (Int32.ofNat o), .int (Int32.ofNat len), .null] 6)) (T13.setTop (mkF m 54 #[.val (.ref a), .val (.ref b), .val (.int (Int32.ofNat o)), .val (.int (Int32.ofNat len)), .val .null, .val (.ref s.heap.size)] [.ref s.heap.size, .ref a])) := (c12.trans (st13 _ (Steps.refl _))).trans (by
    refine XS.aloadN X13.here hexec rfl (hb hbytes d51) rfl rfl ?_
    refine XS.aload X13.here hexec rfl (hb hbytes d52) rfl rfl ?_
    exact Steps.refl _)
  obtain ⟨T15, X15, p15, bl15, sl15, st15⟩ := X13.finit hexec hown (wk W (.fieldLink "java/lang/String" 9 "java/lang/String" "value" "[B")) (Or.inr ⟨_, (wk W (.laysFinal "java/lang/String" "java/lang/String" "value" "[B"))⟩) (Or.inl ⟨rfl, hnm⟩) f1 (Or.inl rfl) bl13 (t := (.array .byte)) (by decide +kernel) rfl (g := (mkF m 54 #[.val (.ref a), .val (.ref b), .val (.int (Int32.ofNat o)), .val (.int (Int32.ofNat len)), .val .null, .val (.ref s.heap.size)] [.ref s.heap.size, .ref a])) rfl (rest := []) rfl (hb hbytes d54)
  have c16 : Steps p.tables e below (s₁.setTop (entryFrame m #[.ref a, .ref b, .int (Int32.ofNat o), .int (Int32.ofNat len), .null] 6)) (T15.setTop (mkF m 57 #[.val (.ref a), .val (.ref b), .val (.int (Int32.ofNat o)), .val (.int (Int32.ofNat len)), .val .null, .val (.ref s.heap.size)] [])) := c14.trans (st15 _ (Steps.refl _))
  have ap := apart (Or.inr ⟨_, (wk W (.laysFinal "java/lang/String" "java/lang/String" "value" "[B"))⟩) (Or.inr ⟨_, (wk W (.laysFinal "java/lang/String" "java/lang/String" "coder" "B"))⟩) f1 f2 (t₁ := .array .byte) (t₂ := .byte) (by decide +kernel) (by decide +kernel) (by decide)
  have al := X8.warmed.alike.symm.trans X15.warmed.alike
  have n7 : T11.heap[s.heap.size]? = some N := by rw [q11]; exact n1.1
  exact ⟨T15, none, _, _, _, X15, by simp, rfl, by omega, (fun _ => rfl), ⟨rfl, _, N, bl15, ((Same.refl D _).set _ (by simp)).set _ (by simp), sl15, (Cell.slots_setSlot_ne _ ap).trans sl13, n1.keep al (p15.other hne (p13.other hne n7)), n2, by rw [al.findClass]; exact n3, n4, n5, fun y c h1 h2 => p15.other h1 (p13.other h1 (by rw [q11]; exact n6 y c h2)), by rw [p15.2.2, p13.2.2, q11]; exact z8⟩, fun fs hl => c16.trans (X15.returnOut hexec hret (hb hbytes d57) hl)⟩
end New4
namespace New1
def yN : MethodName := ⟨"java/lang/String", "<init>", "([C)V"⟩
abbrev yB : ByteArray := jdk_42_method_3_code
theorem d0 : decode yB 0 = .ok (.aload_n 0, 1) := by decide +kernel
theorem d1 : decode yB 1 = .ok (.aload_n 1, 1) := by decide +kernel
theorem d2 : decode yB 2 = .ok (.iconst 0, 1) := by decide +kernel
theorem d3 : decode yB 3 = .ok (.aload_n 1, 1) := by decide +kernel
theorem d4 : decode yB 4 = .ok (.arraylength, 1) := by decide +kernel
theorem d5 : decode yB 5 = .ok (.aconst_null, 1) := by decide +kernel
theorem d6 : decode yB 6 = .ok (.invokespecial 27, 3) := by decide +kernel
theorem d9 : decode yB 9 = .ok (.return_, 1) := by decide +kernel
def site : List Cond := [New4.tab] ++ initW "java/lang/String" 27 New4.yN
def tab : Cond := tabOf yN yB 2 none site
def P (a : Addr) (D : Cell) (fV fC : Field) (b : Addr) (A : Cell) (z : Int32) (args : Array Value) (s : State) : Prop := args = #[.ref a, .ref b] ∧ Blank "java/lang/String" a D s ∧ Found "java/lang/String" "value" "[B" fV s ∧ Found "java/lang/String" "coder" "B" fC s ∧ Ch b A s ∧ StaticIs s "java/lang/String" "COMPACT_STRINGS" "Z" (.int z) ∧ ¬ z = 0 ∧ 0 < A.slots.size ∧ A.slots.size ≤ 536870912 ∧ ∀ i, i < A.slots.size → ¬ 255 < cv A i
def E (a : Addr) (D : Cell) (fV fC : Field) (A : Cell) (r : Option Value) (s u : State) : Prop := Got a D fV fC A 0 A.slots.size r s u
/-- new String(chars), not empty, no char above 255: a Latin-1 String of their low bytes -/
theorem law (l : Launch) (a : Addr) (D : Cell) (fV fC : Field) (b : Addr) (A : Cell) (z : Int32) : Law l yN 2 1 3 52 yB 2 none site (P a D fV fC b A z) (E a D fV fC A) [⟨a, fC.slot⟩, ⟨a, fV.slot⟩] 1 A.slots.size := by
  refine Law.of_walk (plainFor_of_name (by decide +kernel)) (by decide +kernel) (by decide +kernel) (by decide) (fun _ _ h => by rw [h.1]; rfl) (fun _ U U' hal hh h => ⟨h.1, h.2.1.mv hal hh, h.2.2.1.al hal, h.2.2.2.1.al hal, h.2.2.2.2.1.mv hal hh, h.2.2.2.2.2.1.there hal hh, h.2.2.2.2.2.2⟩) (fun r U U' V V' h1 hal h2 h => Got.mv r U U' V V' h1 hal h2 h) ?_
  intro p e s m args below meth c s₁ X0 hexec hbytes hml hret hlk hnm hown hh0 W hP
  obtain ⟨rfl, hB, f1, f2, hA, s1, hz, l0, l2, hp⟩ := hP
  have c1 : Steps p.tables e below (s₁.setTop (entryFrame m #[.ref a, .ref b] 2)) (s₁.setTop (mkF m 0 #[.val (.ref a), .val (.ref b)] [])) := entry rfl
  have c2 : Steps p.tables e below (s₁.setTop (entryFrame m #[.ref a, .ref b] 2)) (s₁.setTop (mkF m 6 #[.val (.ref a), .val (.ref b)] [.null, .int (Int32.ofNat A.slots.size), .int 0, .ref b, .ref a])) := c1.trans (by
    refine XS.aloadN X0.here hexec rfl (hb hbytes d0) rfl rfl ?_
    refine XS.aloadN X0.here hexec rfl (hb hbytes d1) rfl rfl ?_
    refine iconstV X0.here hexec rfl 0 (hb hbytes d2) (by decide) ?_
    refine XS.aloadN X0.here hexec rfl (hb hbytes d3) rfl rfl ?_
    refine X0.alen hexec (hA.1.mv X0.warmed.alike hh0) rfl rfl (hb hbytes d4) ?_
    refine XS.aconstNull X0.here hexec rfl (hb hbytes d5) ?_
    exact Steps.refl _)
  obtain ⟨v3, T3, X3, E3, g3⟩ := X0.callN hexec (New4.law l a D fV fC b A z 0 A.slots.size) rfl hown (wks W (initW "java/lang/String" 27 New4.yN)) (W New4.tab (by simp only [site, List.mem_cons, List.mem_append, true_or, or_true])) (W := 0) (Nat.le_of_ble_eq_true rfl) (Nat.le_of_ble_eq_true rfl) (Nat.le_refl _) (by show 0 + A.slots.size ≤ A.slots.size; omega) (g := (mkF m 6 #[.val (.ref a), .val (.ref b)] [.null, .int (Int32.ofNat A.slots.size), .int (Int32.ofNat 0), .ref b, .ref a])) rfl (by rw [hml]; rfl) c2 (argsL := [.ref b, .int (Int32.ofNat 0), .int (Int32.ofNat A.slots.size), .null]) (rest := []) rfl rfl (by show 2 * 0 + 0 ≤ _; decide) (hb hbytes d6) (⟨rfl, hB.mv X0.warmed.alike hh0, f1.al X0.warmed.alike, f2.al X0.warmed.alike, hA.mv X0.warmed.alike hh0, s1.there X0.warmed.alike hh0, hz, l0, by omega, l2, fun i hi => by rw [Nat.zero_add]; exact hp i hi⟩)
  have e0 := Got.mv _ s₁ s _ _ hh0.symm (Vm.Alike.refl _) rfl E3
  obtain rfl := e0.1
  have c4 : Steps p.tables e below (s₁.setTop (entryFrame m #[.ref a, .ref b] 2)) (T3.setTop (mkF m 9 #[.val (.ref a), .val (.ref b)] [])) := g3
  exact ⟨T3, none, _, _, _, X3, by simp, rfl, by omega, (fun _ => rfl), e0, fun fs hl => c4.trans (X3.returnOut hexec hret (hb hbytes d9) hl)⟩
theorem pays {l : Launch} {R : Room} {p : Program} {e : Env} {below : List Frame} {s : State} {sargs : Array Value} {len W : Nat} (a : Addr) (D : Cell) (fV fC : Field) (b : Addr) (A : Cell) (z : Int32) (htab : tab.before sargs s = true) (hfr : 4 ≤ R.frames) (hlo : W + 65 ≤ R.locals) :
    Back l R p e below s sargs yN len W (fun A₁ a₁ => A₁.cells + 1 ≤ R.cells ∧ A₁.slots + A.slots.size ≤ R.slots ∧ P a D fV fC b A z a₁ A₁.U) (fun A₁ _ v₁ B₁ => E a D fV fC A v₁ A₁.U B₁.U ∧ B₁.locs = A₁.locs ++ [⟨a, fC.slot⟩, ⟨a, fV.slot⟩] ∧ B₁.cells = A₁.cells + 1 ∧ B₁.slots = A₁.slots + A.slots.size) :=
  (law l a D fV fC b A z).pays htab hfr (by omega)
end New1
/-- the byte, read back as charAt reads it, is the char -/
theorem lo8_mask {x : Int32} (h0 : ¬ x < 0) (h1 : ¬ 255 < x) : lo8 x &&& 255 = x := by
  have t : ∀ k : Fin 256, lo8 (Int32.ofNat k.val) &&& 255 = Int32.ofNat k.val := by decide +kernel
  rw [Int32.lt_iff_toInt_lt] at h0 h1
  have e0 : (0 : Int32).toInt = 0 := rfl
  have e1 : (255 : Int32).toInt = 255 := rfl
  obtain ⟨k, hk⟩ : ∃ k : Nat, x.toInt = k := ⟨x.toInt.toNat, by omega⟩
  have hx : x = Int32.ofNat k := Int32.toInt_inj.mp (by rw [hk, Int32.toInt_ofNat_small (by omega)])
  rw [hx]
  exact t ⟨k, by omega⟩
end StrChars
namespace StrChars.Road
open Jvm Sem ClassFile Op Lib Jvm.Stand Jvm.Free Jvm.Free.XT
open Jvm.Lib.Cold (StaticIs)
abbrev ST : String := "java/lang/String"
/-- every table word that New1's law asks, flat -/
abbrev words : List Jvm.Cond := [.code New1.yN New1.yB 2 none, .initialized ST, .methodLink ST 27 New4.yN, .instanceMethod New4.yN,
  .code New4.yN New4.yB 6 none, .fieldLink ST 38 ST "COMPACT_STRINGS" "Z", .laysFinal ST ST "value" "[B", .fieldLink ST 9 ST "value" "[B", .laysFinal ST ST "coder" "B", .fieldLink ST 15 ST "coder" "B",
  .methodLink ST 1 Lib.objectInit, .instanceMethod Lib.objectInit, .code Lib.objectInit ⟨#[0xb1]⟩ 1 none, .methodLink ST 177 Cmp3.yN, .static Cmp3.yN, .methodLink ST 47 CodL.yN, .static CodL.yN,
  .code Cmp3.yN Cmp3.yB 6 (some (.array .byte)), .initialized U16, .arrayClass .byte, .methodLink U16 115 Cmp5.yN, .static Cmp5.yN, .code Cmp5.yN Cmp5.yB 7 (some .int), .code CodL.yN CodL.yB 2 (some .byte)]
theorem tab_of {a : Array Value} {s : State} (h : ∀ w ∈ words, w.before a s = true) : New1.tab.before a s = true := by
  have h5 : Cmp5.tab.before a s = true := unparts (wk h (.code Cmp5.yN Cmp5.yB 7 (some .int))) (wks h (.initialized Cmp5.yN.cls :: Cmp5.site))
  have hc : CodL.tab.before a s = true := unparts (wk h (.code CodL.yN CodL.yB 2 (some .byte))) (wks h (.initialized CodL.yN.cls :: CodL.site))
  have q5 : ∀ w ∈ Cmp5.tab :: words, w.before a s = true := fun w hw => (List.mem_cons.mp hw).elim (fun e => e ▸ h5) (h w)
  have h3 : Cmp3.tab.before a s = true := unparts (wk q5 (.code Cmp3.yN Cmp3.yB 6 (some (.array .byte)))) (wks q5 (.initialized Cmp3.yN.cls :: Cmp3.site))
  have q3 : ∀ w ∈ Cmp3.tab :: CodL.tab :: words, w.before a s = true := fun w hw => (List.mem_cons.mp hw).elim (fun e => e ▸ h3) fun hw => (List.mem_cons.mp hw).elim (fun e => e ▸ hc) (h w)
  have h4 : New4.tab.before a s = true := unparts (wk q3 (.code New4.yN New4.yB 6 none)) (wks q3 (.initialized New4.yN.cls :: New4.site))
  have q4 : ∀ w ∈ New4.tab :: words, w.before a s = true := fun w hw => (List.mem_cons.mp hw).elim (fun e => e ▸ h4) (h w)
  exact unparts (wk q4 (.code New1.yN New1.yB 2 none)) (wks q4 (.initialized New1.yN.cls :: New1.site))
/-- the words ride from the start Z to the walk's own state -/
theorem moved {Z s : State} {a0 args : Array Value} (hZ : Z.Warmed39 s.vm) (hw : ∀ d ∈ words, d.before a0 Z = true) : ∀ d ∈ words, d.before args s = true := fun d hd => by
  have q := hw d hd
  have t : ∀ d ∈ words, d = .arrayClass .byte ∨ (d.onTables && d.keepsFace) = true := by decide +kernel
  rcases t d hd with rfl | t
  · exact RoadKit.mvA hZ q
  · exact RoadKit.mv hZ q t
/-- WHAT COMES BACK, over the tables of the start Z: h the heap at the call, h' behind it -/
def Q (Z : State) (x : Addr) (A : Cell) (h : Heap) (v : Option Value) (h' : Heap) (L : List Loc) : Prop := v = none ∧ (∀ y ∈ L, y.base = x) ∧ RoadKit.Keep h h' [x] ∧ h'.size = h.size + 1 ∧ RoadKit.Exa Z h' x ST ∧ RoadKit.Fld Z h' x ST "value" "[B" (.ref h.size) ∧ RoadKit.Fld Z h' x ST "coder" "B" (.int 0) ∧
  (∃ V : Cell, RoadKit.Arr Z h' h.size V .byte ∧ V.vm = .none ∧ Z.vm.findClass "[B" = some V.cls ∧ V.slots.size = A.slots.size ∧ ∀ j, j < A.slots.size → V.slots[j]? = some (.int (lo8 (cv A j)))) ∧
  ∀ (O n d : String) (w : Value), RoadKit.Fld Z h x O n d w → RoadKit.slotOf Z O n d ≠ RoadKit.slotOf Z ST "value" "[B" → RoadKit.slotOf Z O n d ≠ RoadKit.slotOf Z ST "coder" "B" → RoadKit.Fld Z h' x O n d w
/-- **new String(chars) AT A CALL, IN THE ROAD'S FORM**: for specialBack behind newO: x the fresh String, b the char[] with the cell A -/
theorem back {p : Program} {l : Launch} {e : Env} {R : Room} {s : State} {args : Array Value} {below : List Frame} {len W : Nat} {Z : State} {a0 : Array Value} {h : Heap} (hZ : Z.Warmed39 s.vm) (hw : ∀ d ∈ words, d.before a0 Z = true) {kI : Nat} (wi : (Jvm.Cond.instantiable ST kI).before a0 Z = true)
    {x b : Addr} {A : Cell} {z : Int32} {v0 c0 : Value} (E : RoadKit.Exa Z h x ST) (V : RoadKit.Fld Z h x ST "value" "[B" v0) (C : RoadKit.Fld Z h x ST "coder" "B" c0) (K : RoadKit.Arr Z h b A .char) (hty : Typed .char A) (S : RoadKit.Sta Z h ST "COMPACT_STRINGS" "Z" (.int z)) (hz : ¬ z = 0)
    (l0 : 0 < A.slots.size) (l2 : A.slots.size ≤ 536870912) (hp : ∀ i, i < A.slots.size → ¬ 255 < cv A i) (hfr : 4 ≤ R.frames) (hlo : W + 65 ≤ R.locals) :
    Back l R p e below s args New1.yN len W (fun P a => a = #[.ref x, .ref b] ∧ P.U.heap = h ∧ P.cells + 1 ≤ R.cells ∧ P.slots + A.slots.size ≤ R.slots)
      (fun P _ v B => ∃ L, Q Z x A h v B.U.heap L ∧ B.locs = P.locs ++ L ∧ B.cells = P.cells + 1 ∧ B.slots = P.slots + A.slots.size) := by
  intro m meth c P g ig mk a X hg hsize hdg hW hn hp'
  obtain ⟨rfl, rfl, r1, r2⟩ := hp'
  have al : Z.vm.Alike P.U.vm := hZ.alike.trans X.warmed.alike
  obtain ⟨D, cfV, kV, iV, fV, hD, gV, stV, knV, obV, asV, slV⟩ := id V
  obtain ⟨D', cfC, kC, iC, fC, hD', gC, stC, -, -, asC, slC⟩ := id C
  cases hD.symm.trans hD'
  obtain ⟨D2, kD, e1, e2, e3, e4, e5⟩ := id E
  cases hD.symm.trans e1
  obtain ⟨c2, k2, i1, i2, i3, -⟩ := Cond.instantiable_spec wi
  cases e2.symm.trans i1
  cases e3.symm.trans i2
  obtain ⟨kU, u1, u2⟩ := al.2.2 _ _ e3
  have hB : Blank ST x D P.U := ⟨hD, ⟨knV, fun q hq => by rw [hq] at obV; cases obV⟩, by rw [al.findClass]; exact e2, kU, u1, by rw [u2]; exact i3, by rw [u2]; exact e5 i3⟩
  have F1 : Found ST "value" "[B" fV P.U := ⟨SBG.found_only al ⟨cfV, kV, iV, gV⟩, stV⟩
  have F2 : Found ST "coder" "B" fC P.U := ⟨SBG.found_only al ⟨cfC, kC, iC, gC⟩, stC⟩
  have hA : Ch b A P.U := ⟨⟨K.1, State.isArrayOf_alike al K.2.1, K.2.2, by omega⟩, hty⟩
  have hS : StaticIs P.U ST "COMPACT_STRINGS" "Z" (.int z) := by
    obtain ⟨cfS, iS, kS, fS, st, cS, t1, t2, t3, t4, t5, t6, t7⟩ := S
    exact StaticIs.there (s := { Z with heap := P.U.heap }) ⟨cfS, iS, kS, fS, st, cS, t1, t2, t3, t4, t5, (fun q => by rw [q] at t6; cases t6), t7⟩ al rfl
  obtain ⟨v, B, X', ⟨⟨hv, E', V', q1, q2, q3, q4, q5, q6, q7, q8, q9, q10, q11⟩, hl, hc, hs⟩, st⟩ := New1.pays x D fV fC b A z (tab_of (moved hZ hw)) hfr hlo m meth c P g ig mk _ X hg hsize hdg hW hn ⟨r1, r2, rfl, hB, F1, F2, hA, hS, hz, l0, l2, hp⟩
  have al' : Z.vm.Alike B.U.vm := hZ.alike.trans X'.warmed.alike
  have hsz : E'.slots.size = D.slots.size := by
    obtain ⟨-, -, -, kB, w1, w2, w3⟩ := q1
    obtain ⟨kB', y1, y2⟩ := al'.2.2 _ _ e3
    rw [q2.2.1] at w1
    cases w1.symm.trans y1
    rw [w3, e5 i3, y2]
  refine ⟨v, B, X', ⟨_, ⟨hv, ?_, ⟨by omega, fun y cy hy hn' => q10 y cy (by simpa using hn') hy, fun y cy hy => ?_⟩, q11, ⟨E', _, q1.1, by rw [q2.2.1]; exact e2, by rw [q2.2.1]; exact e3, by rw [q2.1]; exact obV, fun _ => by rw [hsz]; exact e5 i3⟩,
    ⟨E', cfV, kV, iV, fV, q1.1, gV, stV, by rw [q2.1]; exact knV, by rw [q2.1]; exact obV, by rw [q2.2.1]; exact asV, q3⟩, ⟨E', cfC, kC, iC, fC, q1.1, gC, stC, by rw [q2.1]; exact knV, by rw [q2.1]; exact obV, by rw [q2.2.1]; exact asC, q4⟩,
    ⟨V', ⟨q5.1, State.isArrayOf_alike al'.symm q5.2.1, q5.2.2.1⟩, q6, by rw [← al'.findClass]; exact q7, q8, fun j hj => by have := q9 j hj; rwa [Nat.zero_add] at this⟩, fun O n d w F n1 n2 => ?_⟩, hl, hc, hs⟩, st⟩
  · intro y hy
    simp only [List.mem_cons, List.not_mem_nil, or_false] at hy
    rcases hy with rfl | rfl <;> rfl
  · by_cases q : y = x
    · subst q
      cases hD.symm.trans hy
      exact ⟨E', q1.1, q2.2.1, q2.1, hsz⟩
    · exact ⟨cy, q10 y cy q hy, rfl, rfl, rfl⟩
  · obtain ⟨D3, cf, k, i, f, g1, g2, g3, g4, g5, g6, g7⟩ := F
    cases hD.symm.trans g1
    simp only [RoadKit.slotOf, g2, gV, gC, Option.map_some, Option.getD_some] at n1 n2
    exact ⟨E', cf, k, i, f, q1.1, g2, g3, by rw [q2.1]; exact g4, by rw [q2.1]; exact g5, by rw [q2.2.1]; exact g6, by rw [q2.2.2 f.slot (by simp [n1, n2])]; exact g7⟩
end StrChars.Road
namespace StrChars.Road
open Jvm Sem ClassFile Op Lib Jvm.Stand Jvm.Free Jvm.Free.XT
/-- WHAT COMES BACK, the byte[] as a list of values -/
def QA (Z : State) (x : Addr) (zn : Int32) (cs : List Int32) (h : Heap) (v : Option Value) (h' : Heap) (L : List Loc) : Prop := v = none ∧ (∀ y ∈ L, y.base = x) ∧ RoadKit.Keep h h' [x] ∧ h'.size = h.size + 1 ∧ RoadKit.Exa Z h' x ST ∧ RoadKit.Fld Z h' x ST "value" "[B" (.ref h.size) ∧ RoadKit.Fld Z h' x ST "coder" "B" (.int 0) ∧
  (∃ kb, Z.vm.findClass "[B" = some kb ∧ RoadKit.Arv Z h' h.size kb .byte zn (cs.map fun c => .int (lo8 c)) (.int 0)) ∧
  ∀ (O n d : String) (w : Value), RoadKit.Fld Z h x O n d w → RoadKit.slotOf Z O n d ≠ RoadKit.slotOf Z ST "value" "[B" → RoadKit.slotOf Z O n d ≠ RoadKit.slotOf Z ST "coder" "B" → RoadKit.Fld Z h' x O n d w
/-- **new String(chars) AT A CALL, THE ARRAYS AS LISTS**: the char[] at b holds cs, not empty, no char above 255 -/
theorem backArv {p : Program} {l : Launch} {e : Env} {R : Room} {s : State} {args : Array Value} {below : List Frame} {len W : Nat} {Z : State} {a0 : Array Value} {h : Heap} (hZ : Z.Warmed39 s.vm) (hw : ∀ d ∈ words, d.before a0 Z = true) {kI : Nat} (wi : (Jvm.Cond.instantiable ST kI).before a0 Z = true)
    {x b : Addr} {k : ClassId} {zn z : Int32} {cs : List Int32} {dv v0 c0 : Value} (E : RoadKit.Exa Z h x ST) (V : RoadKit.Fld Z h x ST "value" "[B" v0) (C : RoadKit.Fld Z h x ST "coder" "B" c0) (K : RoadKit.Arv Z h b k .char zn (cs.map Value.int) dv) (S : RoadKit.Sta Z h ST "COMPACT_STRINGS" "Z" (.int z)) (hz : ¬ z = 0)
    (hlen : zn.toNatClampNeg = cs.length) (h0 : 0 < cs.length) (hbig : cs.length ≤ 536870912) (hall : ∀ c ∈ cs, ¬ 255 < c) (hfr : 4 ≤ R.frames) (hlo : W + 65 ≤ R.locals) :
    Back l R p e below s args New1.yN len W (fun P a => a = #[.ref x, .ref b] ∧ P.U.heap = h ∧ P.cells + 1 ≤ R.cells ∧ P.slots + cs.length ≤ R.slots)
      (fun P _ v B => ∃ L, QA Z x zn cs h v B.U.heap L ∧ B.locs = P.locs ++ L ∧ B.cells = P.cells + 1 ∧ B.slots = P.slots + cs.length) := by
  obtain ⟨A, K1, K2, K3, K4, K5, K6⟩ := K
  have e : A.slots.size = cs.length := K3.trans hlen
  have hat : ∀ (i : Nat) (hi : i < cs.length), A.slots[i]? = some (.int cs[i]) := fun i hi => by rw [K5 i (by omega)]; simp [List.getD_eq_getElem?_getD, hi]
  have hcv : ∀ (i : Nat) (hi : i < cs.length), cv A i = cs[i] := fun i hi => by unfold cv; rw [hat i hi]
  have hty : Typed .char A := fun i v hv => by
    have hi : i < A.slots.size := (Array.getElem?_eq_some_iff.mp hv).1
    have q := K5 i hi
    rw [hv] at q
    rw [Option.some.inj q]
    exact K6 i hi
  refine Back.mono (back hZ hw wi E V C K1 hty S hz (by omega) (by omega) (fun i hi => by rw [hcv i (by omega)]; exact hall _ (List.getElem_mem _)) hfr hlo) (fun P a hp => ⟨hp.1, hp.2.1, hp.2.2.1, by rw [e]; exact hp.2.2.2⟩) (fun P a v B hp hq => ?_)
  obtain ⟨L, ⟨q1, q2, q3, q4, q5, q6, q7, ⟨V', v1, v2, v3, v4, v5⟩, q9⟩, hl, hc, hs⟩ := hq
  refine ⟨L, ⟨q1, q2, q3, q4, q5, q6, q7, ⟨V'.cls, v3, V', v1, rfl, by rw [v4, e, hlen], K4, fun i hi => ?_, fun i hi => ?_⟩, q9⟩, hl, hc, by rw [hs, e]⟩
  · have hi' : i < cs.length := by omega
    rw [v5 i (by omega), hcv i hi']; simp [List.getD_eq_getElem?_getD, hi']
  · have hi' : i < cs.length := by omega
    simp only [List.getD_eq_getElem?_getD, List.getElem?_map, List.getElem?_eq_getElem hi', Option.map_some, Option.getD_some]
    exact fits_lo8 _
end StrChars.Road
namespace StrChars.Road
open Jvm Sem ClassFile Op Lib Jvm.Stand Jvm.Free Jvm.Free.XT
/-- WHAT COMES BACK, in the writer's own shape -/
def QV (Z : State) (x : Addr) (N : Int32) (bs : List Int32) (h : Heap) (n0 : Nat) (v : Option Value) (h' : Heap) (L : List Loc) : Prop := v = none ∧ RoadKit.Fr n0 L ∧ RoadKit.Keep h h' [x] ∧ RoadKit.Exa Z h' x ST ∧ RoadKit.Fld Z h' x ST "coder" "B" (.int 0) ∧
  ∃ (t : Addr) (kb : ClassId), n0 ≤ t ∧ h.size ≤ t ∧ ¬ t = x ∧ RoadKit.Fld Z h' x ST "value" "[B" (.ref t) ∧ RoadKit.Arv Z h' t kb .byte N (bs.map Value.int) (.int 0)
/-- **new String(chars) AT A CALL, FOR THE WRITER**: a char[] of n known ints, each 0 to 255 -/
theorem backV {p : Program} {l : Launch} {e : Env} {R : Room} {s : State} {args : Array Value} {below : List Frame} {len W : Nat} {Z : State} {a0 : Array Value} {h : Heap} (hZ : Z.Warmed39 s.vm) (hw : ∀ d ∈ words, d.before a0 Z = true) {kI : Nat} (wi : (Jvm.Cond.instantiable ST kI).before a0 Z = true)
    {x b : Addr} {kC : ClassId} {cs bs : List Int32} {d v0 c0 : Value} {z N : Int32} {n n0 : Nat} (hx0 : n0 ≤ x) (hh0 : n0 ≤ h.size) (E : RoadKit.Exa Z h x ST) (V : RoadKit.Fld Z h x ST "value" "[B" v0) (C : RoadKit.Fld Z h x ST "coder" "B" c0) (K : RoadKit.Arv Z h b kC .char N (cs.map Value.int) d) (S : RoadKit.Sta Z h ST "COMPACT_STRINGS" "Z" (.int z)) (hz : ¬ z = 0)
    (hn : cs.length = n) (hN : N = Int32.ofNat n) (l0 : 0 < n) (l2 : n ≤ 4000) (hp : ∀ c ∈ cs, ¬ c < 0 ∧ ¬ (255 : Int32) < c) (hb : bs = cs.map (fun c => c.toInt8.toInt32)) (hfr : 4 ≤ R.frames) (hlo : W + 65 ≤ R.locals) :
    Back l R p e below s args (⟨"java/lang/String", "<init>", "([C)V"⟩ : MethodName) len W (fun P a => a = #[.ref x, .ref b] ∧ P.U.heap = h ∧ P.cells + 1 ≤ R.cells ∧ P.slots + n ≤ R.slots)
      (fun P _ v B => ∃ L, QV Z x N bs h n0 v B.U.heap L ∧ B.locs = P.locs ++ L ∧ B.cells = P.cells + 1 ∧ B.slots = P.slots + n) := by
  subst hn hN hb
  refine Back.mono (backArv hZ hw wi E V C K S hz (n32 (by omega)) l0 (by omega) (fun c hc => (hp c hc).2) hfr hlo) (fun P a hp => hp) (fun P a v B hp hq => ?_)
  obtain ⟨L, ⟨q1, q2, q3, q4, q5, q6, q7, ⟨kb, v1, v2⟩, q9⟩, hl, hc, hs⟩ := hq
  exact ⟨L, ⟨q1, fun y hy => by rw [q2 y hy]; exact hx0, q3, q5, q7, h.size, kb, hh0, Nat.le_refl _, Nat.ne_of_gt E.lt, q6, by rw [List.map_map]; exact v2⟩, hl, hc, hs⟩
end StrChars.Road
namespace StrChars
open Jvm Sem ClassFile Op Lib Jvm.Stand Jvm.Free.XT Jvm.Free.ALB Jvm.Free.JM Jvm.Free
open Jvm.Lib.Cold (StaticIs)
def hi8 (x : Int32) : Int32 := lo8 (x >>> ((8 : Int32) &&& 31))
/-- what StringUTF16.getChar makes of two bytes -/
def pairCh (u v : Int32) : Int32 := (((u &&& 255) <<< ((0 : Int32) &&& 31)) ||| ((v &&& 255) <<< ((8 : Int32) &&& 31))).toUInt32.toUInt16.toUInt32.toInt32
theorem lo8_and (x : Int32) : (lo8 x &&& 255).toBitVec.toNat = x.toBitVec.toNat % 256 := by
  have h : (lo8 x).toBitVec = (x.toBitVec.signExtend 8).signExtend 32 := by rw [lo8, Int8.toBitVec_toInt32, Int32.toBitVec_toInt8]
  rw [Int32.toBitVec_and, BitVec.toNat_and, h]
  have e : ((x.toBitVec.signExtend 8).signExtend 32).toNat % 256 = x.toBitVec.toNat % 256 := by
    rw [BitVec.toNat_signExtend]
    have hlt := x.toBitVec.isLt
    simp only [BitVec.toNat_setWidth, BitVec.toNat_signExtend]
    split <;> split <;> omega
  rw [← e]
  exact Nat.and_two_pow_sub_one_eq_mod _ 8
theorem pair_says {c : Int32} (h0 : ¬ c < 0) (h1 : ¬ 65535 < c) : pairCh (lo8 c) (hi8 c) = c := by
  rw [Int32.lt_iff_toInt_lt] at h0 h1
  have e0 : (0 : Int32).toInt = 0 := rfl
  have e1 : (65535 : Int32).toInt = 65535 := rfl
  have hc : c.toInt = c.toBitVec.toNat := by
    have := c.toBitVec.isLt
    have e : c.toInt = c.toBitVec.toInt := rfl
    rw [e] at h0 h1
    rw [e]
    rw [BitVec.toInt_eq_toNat_cond] at h0 h1 ⊢
    split at h0 <;> split <;> omega
  have hn : c.toBitVec.toNat < 65536 := by omega
  have a1 := lo8_and c
  have a2 : (hi8 c &&& 255).toBitVec.toNat = c.toBitVec.toNat / 256 := by
    rw [hi8, lo8_and]
    have e : ((8 : Int32) &&& 31) = 8 := by decide
    rw [e, Int32.toBitVec_shiftRight]
    have e2 : ((8 : Int32).toBitVec.smod 32) = 8#32 := by decide
    rw [e2, BitVec.sshiftRight_eq', BitVec.toNat_sshiftRight_of_msb_false (by rw [BitVec.msb_eq_false_iff_two_mul_lt]; omega)]
    show c.toBitVec.toNat >>> 8 % 256 = _
    rw [Nat.shiftRight_eq_div_pow]
    omega
  unfold pairCh
  apply Int32.toBitVec_inj.mp
  apply BitVec.eq_of_toNat_eq
  have f0 : ((0 : Int32) &&& 31) = 0 := by decide
  have f8 : ((8 : Int32) &&& 31) = 8 := by decide
  rw [f0, f8]
  have g : (((lo8 c &&& 255) <<< (0 : Int32)) ||| ((hi8 c &&& 255) <<< (8 : Int32))).toBitVec.toNat = c.toBitVec.toNat := by
    rw [Int32.toBitVec_or, Int32.toBitVec_shiftLeft, Int32.toBitVec_shiftLeft]
    have s0 : ((0 : Int32).toBitVec.smod 32) = 0#32 := by decide
    have s8 : ((8 : Int32).toBitVec.smod 32) = 8#32 := by decide
    rw [s0, s8, BitVec.toNat_or]
    simp only [BitVec.shiftLeft_eq', BitVec.toNat_shiftLeft, a1, a2]
    show (c.toBitVec.toNat % 256) <<< 0 % 2 ^ 32 ||| (c.toBitVec.toNat / 256) <<< 8 % 2 ^ 32 = _
    rw [Nat.shiftLeft_zero, Nat.mod_eq_of_lt (show c.toBitVec.toNat % 256 < 2 ^ 32 by omega), Nat.mod_eq_of_lt (show (c.toBitVec.toNat / 256) <<< 8 < 2 ^ 32 by rw [Nat.shiftLeft_eq]; omega), Nat.or_comm, ← Nat.shiftLeft_add_eq_or_of_lt (by omega), Nat.shiftLeft_eq]
    omega
  show BitVec.toNat (((((lo8 c &&& 255) <<< (0 : Int32)) ||| ((hi8 c &&& 255) <<< (8 : Int32))).toBitVec.setWidth 16).setWidth 32) = _
  rw [BitVec.toNat_setWidth, BitVec.toNat_setWidth, g]
  omega
end StrChars
namespace StrChars
open Jvm Sem ClassFile Op Lib Jvm.Stand Jvm.Free.XT Jvm.Free.ALB Jvm.Free.JM Jvm.Free
open Jvm.Lib.Cold (StaticIs)
/-- the array's cell V codes the n chars f 0 .. f (n - 1) by the coder cd, as the JDK does: coder 1 just where some char is above 255 -/
def Cod (cd : Int32) (n : Nat) (f : Nat → Int32) (V : Cell) : Prop := (cd = 0 ∧ V.slots.size = n ∧ ∀ j, j < n → V.slots[j]? = some (.int (lo8 (f j))) ∧ ¬ 255 < f j) ∨ (cd = 1 ∧ V.slots.size = 2 * n ∧ (∀ j, j < n → V.slots[2 * j]? = some (.int (lo8 (f j))) ∧ V.slots[2 * j + 1]? = some (.int (hi8 (f j)))) ∧ ∃ j, j < n ∧ 255 < f j)
/-- **x is a String of the n chars f 0 .. f (n - 1)**, Latin-1 or UTF-16; its array at t has the cell V -/
def Txt (x t : Addr) (V : Cell) (cd : Int32) (n : Nat) (f : Nat → Int32) (U : State) : Prop := Exact "java/lang/String" x U ∧ Has x "java/lang/String" "value" "[B" (.ref t) U ∧ Has x "java/lang/String" "coder" "B" (.int cd) U ∧ XT.Arr .byte t V U ∧ Cod cd n f V ∧ ∀ j, j < n → ¬ f j < 0 ∧ ¬ 65535 < f j
theorem Txt.mv {x t : Addr} {V : Cell} {cd : Int32} {n : Nat} {f : Nat → Int32} {U U' : State} (h : Txt x t V cd n f U) (hal : U.vm.Alike U'.vm) (hh : U'.heap = U.heap) : Txt x t V cd n f U' := ⟨h.1.mv hal hh, h.2.1.mv hal hh, h.2.2.1.mv hal hh, h.2.2.2.1.mv hal hh, h.2.2.2.2⟩
end StrChars
namespace StrChars.Road
open Jvm Sem ClassFile Op Lib Jvm.Stand Jvm.Free Jvm.Free.XT
open Jvm.Lib.Cold (StaticIs)
theorem consq {a : Array Value} {s : State} {c : Jvm.Cond} {L : List Jvm.Cond} (h0 : c.before a s = true) (h : ∀ w ∈ L, w.before a s = true) : ∀ w ∈ c :: L, w.before a s = true := fun w hw => (List.mem_cons.mp hw).elim (fun e => e ▸ h0) (h w)
/-- the bytes of the chars cs, low before high -/
def wideBytes : List Int32 → List Value
  | [] => []
  | c :: cs => .int (lo8 c) :: .int (hi8 c) :: wideBytes cs
theorem wide_lo (d : Value) : ∀ (cs : List Int32) (j : Nat), j < cs.length → (wideBytes cs).getD (2 * j) d = .int (lo8 (cs.getD j 0))
  | [], j, h => absurd h (Nat.not_lt_zero j)
  | c :: cs, 0, _ => rfl
  | c :: cs, j + 1, h => by
    have q := wide_lo d cs j (by simpa using h)
    rw [show 2 * (j + 1) = 2 * j + 1 + 1 from by omega]
    simpa [wideBytes] using q
theorem wide_hi (d : Value) : ∀ (cs : List Int32) (j : Nat), j < cs.length → (wideBytes cs).getD (2 * j + 1) d = .int (hi8 (cs.getD j 0))
  | [], j, h => absurd h (Nat.not_lt_zero j)
  | c :: cs, 0, _ => rfl
  | c :: cs, j + 1, h => by
    have q := wide_hi d cs j (by simpa using h)
    rw [show 2 * (j + 1) + 1 = 2 * j + 1 + 1 + 1 from by omega]
    simpa [wideBytes] using q
theorem low_at (d : Value) (cs : List Int32) (j : Nat) (h : j < cs.length) : (cs.map fun c => Value.int (lo8 c)).getD j d = .int (lo8 (cs.getD j 0)) := by
  simp [List.getD_eq_getElem?_getD, h]
/-- an array of N2 bytes vs codes the chars cs by the coder cd -/
def CodA (cs : List Int32) (cd N2 : Int32) (vs : List Value) : Prop := (cd = 0 ∧ N2 = Int32.ofNat cs.length ∧ vs = (cs.map fun c => Value.int (lo8 c)) ∧ ∀ c ∈ cs, ¬ 255 < c) ∨ (cd = 1 ∧ N2 = Int32.ofNat (2 * cs.length) ∧ vs = wideBytes cs ∧ ∃ c ∈ cs, 255 < c)
theorem CodA.cod {cs : List Int32} {cd N2 : Int32} {vs : List Value} {V : Cell} (h : CodA cs cd N2 vs) (hn : 2 * cs.length < 2 ^ 31) (hs : V.slots.size = N2.toNatClampNeg) (hv : RoadKit.Has V vs (.int 0)) : Cod cd cs.length (fun j => cs.getD j 0) V := by
  rcases h with ⟨rfl, rfl, rfl, h⟩ | ⟨rfl, rfl, rfl, c, hc, hw⟩
  · rw [n32 (by omega)] at hs
    exact Or.inl ⟨rfl, hs, fun j hj => ⟨by rw [hv j (by omega), low_at _ _ _ hj], by
      have e : cs.getD j 0 = cs[j] := by simp [List.getD_eq_getElem?_getD, hj]
      show ¬ 255 < cs.getD j 0
      rw [e]; exact h _ (List.getElem_mem _)⟩⟩
  · rw [n32 (by omega)] at hs
    obtain ⟨j, hj, rfl⟩ := List.getElem_of_mem hc
    exact Or.inr ⟨rfl, hs, fun j hj => ⟨by rw [hv _ (by omega), wide_lo _ _ _ hj], by rw [hv _ (by omega), wide_hi _ _ _ hj]⟩, j, hj, by
      have e : cs.getD j 0 = cs[j] := by simp [List.getD_eq_getElem?_getD, hj]
      show 255 < cs.getD j 0
      rw [e]; exact hw⟩
/-- an object of exactly java/lang/String, its two fields found: as the laws ask it -/
theorem strObj {Z U : State} {a0 : Array Value} {kI : Nat} (wi : (Jvm.Cond.instantiable ST kI).before a0 Z = true) (al : Z.vm.Alike U.vm) {x : Addr} {v0 c0 : Value} (E : RoadKit.Exa Z U.heap x ST) (V : RoadKit.Fld Z U.heap x ST "value" "[B" v0) (C : RoadKit.Fld Z U.heap x ST "coder" "B" c0) :
    ∃ (D : Cell) (fV fC : Field), Blank ST x D U ∧ Found ST "value" "[B" fV U ∧ Found ST "coder" "B" fC U ∧ D.slots[fV.slot]? = some v0 ∧ D.slots[fC.slot]? = some c0 ∧ RoadKit.slotOf Z ST "value" "[B" = fV.slot ∧ RoadKit.slotOf Z ST "coder" "B" = fC.slot := by
  obtain ⟨D, cfV, kV, iV, fV, hD, gV, stV, knV, obV, asV, slV⟩ := V
  obtain ⟨D', cfC, kC, iC, fC, hD', gC, stC, -, -, asC, slC⟩ := C
  cases hD.symm.trans hD'
  obtain ⟨D2, kD, e1, e2, e3, e4, e5⟩ := E
  cases hD.symm.trans e1
  obtain ⟨c2, k2, i1, i2, i3, -⟩ := Cond.instantiable_spec wi
  cases e2.symm.trans i1
  cases e3.symm.trans i2
  obtain ⟨kU, u1, u2⟩ := al.2.2 _ _ e3
  exact ⟨D, fV, fC, ⟨hD, ⟨knV, fun q hq => by rw [hq] at obV; cases obV⟩, by rw [al.findClass]; exact e2, kU, u1, by rw [u2]; exact i3, by rw [u2]; exact e5 i3⟩, ⟨SBG.found_only al ⟨cfV, kV, iV, gV⟩, stV⟩, ⟨SBG.found_only al ⟨cfC, kC, iC, gC⟩, stC⟩, slV, slC, by simp [RoadKit.slotOf, gV], by simp [RoadKit.slotOf, gC]⟩
theorem sta_is {Z U : State} (al : Z.vm.Alike U.vm) {C n d : String} {v : Value} (S : RoadKit.Sta Z U.heap C n d v) : StaticIs U C n d v := by
  obtain ⟨cfS, iS, kS, fS, st, cS, t1, t2, t3, t4, t5, t6, t7⟩ := S
  exact StaticIs.there (s := { Z with heap := U.heap }) ⟨cfS, iS, kS, fS, st, cS, t1, t2, t3, t4, t5, (fun q => by rw [q] at t6; cases t6), t7⟩ al rfl
end StrChars.Road
namespace StrChars
open Jvm Sem ClassFile Op Lib Jvm.Stand Jvm.Free.XT Jvm.Free.ALB Jvm.Free.JM Jvm.Free
open Jvm.Lib.Cold (StaticIs)
/-- what place i of a byte[]'s cell holds -/
def yv (A : Cell) (i : Nat) : Int32 := match A.slots[i]? with | some (.int x) => x | _ => 0
theorem yv_get {a : Addr} {A : Cell} {U : State} (h : XT.Arr .byte a A U) (ht : Typed .byte A) {i : Nat} (hi : i < A.slots.size) : A.slots[i]? = some (.int (yv A i)) := by
  have e := Array.getElem?_eq_getElem hi
  have f := ht i _ e
  unfold yv; rw [e]
  generalize A.slots[i] = v at f
  cases v <;> simp [fits] at f ⊢
/-- the two arrays are equal, place for place -/
def EqC (A B : Cell) : Prop := A.slots.size = B.slots.size ∧ ∀ i, i < A.slots.size → yv A i = yv B i
/-- a boolean that says whether p -/
def Says01 (q : Prop) (r : Option Value) (s u : State) : Prop := ∃ v : Int32, r = some (.int v) ∧ u.heap = s.heap ∧ ((v = 1 ∧ q) ∨ (v = 0 ∧ ¬ q))
theorem Says01.mv {q : Prop} : ∀ r (U U' V V' : State), U'.heap = U.heap → V.vm.Alike V'.vm → V'.heap = V.heap → Says01 q r U V → Says01 q r U' V' :=
  fun r U U' V V' h1 _ h2 ⟨v, a, b, c⟩ => ⟨v, a, by rw [h1, h2]; exact b, c⟩
namespace LEq
def yN : MethodName := ⟨"java/lang/StringLatin1", "equals", "([B[B)Z"⟩
abbrev yB : ByteArray := jdk_43_method_13_code
theorem d0 : decode yB 0 = .ok (.aload_n 0, 1) := by decide +kernel
theorem d1 : decode yB 1 = .ok (.arraylength, 1) := by decide +kernel
theorem d2 : decode yB 2 = .ok (.aload_n 1, 1) := by decide +kernel
theorem d3 : decode yB 3 = .ok (.arraylength, 1) := by decide +kernel
theorem d4 : decode yB 4 = .ok (.if_icmp (.ne) 30, 3) := by decide +kernel
theorem d7 : decode yB 7 = .ok (.iconst 0, 1) := by decide +kernel
theorem d8 : decode yB 8 = .ok (.istore_n 2, 1) := by decide +kernel
theorem d9 : decode yB 9 = .ok (.iload_n 2, 1) := by decide +kernel
theorem d10 : decode yB 10 = .ok (.aload_n 0, 1) := by decide +kernel
theorem d11 : decode yB 11 = .ok (.arraylength, 1) := by decide +kernel
theorem d12 : decode yB 12 = .ok (.if_icmp (.ge) 20, 3) := by decide +kernel
theorem d15 : decode yB 15 = .ok (.aload_n 0, 1) := by decide +kernel
theorem d16 : decode yB 16 = .ok (.iload_n 2, 1) := by decide +kernel
theorem d17 : decode yB 17 = .ok (.baload, 1) := by decide +kernel
theorem d18 : decode yB 18 = .ok (.aload_n 1, 1) := by decide +kernel
theorem d19 : decode yB 19 = .ok (.iload_n 2, 1) := by decide +kernel
theorem d20 : decode yB 20 = .ok (.baload, 1) := by decide +kernel
theorem d21 : decode yB 21 = .ok (.if_icmp (.eq) 5, 3) := by decide +kernel
theorem d24 : decode yB 24 = .ok (.iconst 0, 1) := by decide +kernel
theorem d25 : decode yB 25 = .ok (.ireturn, 1) := by decide +kernel
theorem d26 : decode yB 26 = .ok (.iinc 2 1, 3) := by decide +kernel
theorem d29 : decode yB 29 = .ok (.goto (-20), 3) := by decide +kernel
theorem d32 : decode yB 32 = .ok (.iconst 1, 1) := by decide +kernel
theorem d33 : decode yB 33 = .ok (.ireturn, 1) := by decide +kernel
theorem d34 : decode yB 34 = .ok (.iconst 0, 1) := by decide +kernel
theorem d35 : decode yB 35 = .ok (.ireturn, 1) := by decide +kernel
def site : List Cond := []
def tab : Cond := tabOf yN yB 3 (some .boolean) site
def P (a : Addr) (A : Cell) (b : Addr) (B : Cell) (args : Array Value) (s : State) : Prop := args = #[.ref a, .ref b] ∧ XT.Arr .byte a A s ∧ Typed .byte A ∧ XT.Arr .byte b B s ∧ Typed .byte B
/-- whether two byte[] are equal, place for place -/
theorem law (l : Launch) (a : Addr) (A : Cell) (b : Addr) (B : Cell) : Law l yN 2 2 0 0 yB 3 (some .boolean) site (P a A b B) (Says01 (EqC A B)) [] 0 0 := by
  refine Law.of_walk (plainFor_of_name (by decide +kernel)) (by decide +kernel) (by decide +kernel) (by decide) (fun _ _ h => by rw [h.1]; rfl) (fun _ U U' hal hh h => ⟨h.1, h.2.1.mv hal hh, h.2.2.1, h.2.2.2.1.mv hal hh, h.2.2.2.2⟩) (fun r U U' V V' h1 hal h2 h => Says01.mv r U U' V V' h1 hal h2 h) ?_
  intro p e s m args below meth c s₁ X0 hexec hbytes hml hret hlk hnm hown hh0 W hP
  obtain ⟨rfl, hA, tA, hB, tB⟩ := hP
  have a31 := hA.2.2.2
  have b31 := hB.2.2.2
  have hA0 := hA.mv X0.warmed.alike hh0
  have hB0 := hB.mv X0.warmed.alike hh0
  have c1 : Steps p.tables e below (s₁.setTop (entryFrame m #[.ref a, .ref b] 3)) (s₁.setTop (mkF m 0 #[.val (.ref a), .val (.ref b), .unset] [])) := entry rfl
  have c2 : Steps p.tables e below (s₁.setTop (entryFrame m #[.ref a, .ref b] 3)) (s₁.setTop (mkF m 4 #[.val (.ref a), .val (.ref b), .unset] [.int (Int32.ofNat B.slots.size), .int (Int32.ofNat A.slots.size)])) := c1.trans (by
    refine XS.aloadN X0.here hexec rfl (hb hbytes d0) rfl rfl ?_
    refine X0.alen hexec hA0 rfl rfl (hb hbytes d1) ?_
    refine XS.aloadN X0.here hexec rfl (hb hbytes d2) rfl rfl ?_
    refine X0.alen hexec hB0 rfl rfl (hb hbytes d3) ?_
    exact Steps.refl _)
  by_cases hs : A.slots.size = B.slots.size
  · have c3 : Steps p.tables e below (s₁.setTop (entryFrame m #[.ref a, .ref b] 3)) (s₁.setTop (mkF m 9 #[.val (.ref a), .val (.ref b), .val (.int 0)] [])) := c2.trans (by
      refine XS.icmpNo X0.here hexec rfl (hb hbytes d4) rfl (ii_ne_f (by rw [hs])) ?_
      refine iconstV X0.here hexec rfl 0 (hb hbytes d7) (by decide) ?_
      refine XS.istoreN X0.here hexec rfl (hb hbytes d8) rfl rfl ?_
      exact Steps.refl _)
    have loop : ∀ (r i : Nat), i + r = A.slots.size → (∀ j, j < i → yv A j = yv B j) → Steps p.tables e below (s₁.setTop (entryFrame m #[.ref a, .ref b] 3)) (s₁.setTop (mkF m 9 #[.val (.ref a), .val (.ref b), .val (.int (Int32.ofNat i))] [])) → ∃ (pc : Nat) (Ls : Array Slot) (v : Int32), (pc = 25 ∨ pc = 33) ∧ ((v = 1 ∧ EqC A B) ∨ (v = 0 ∧ ¬ EqC A B)) ∧ Steps p.tables e below (s₁.setTop (entryFrame m #[.ref a, .ref b] 3)) (s₁.setTop (mkF m pc Ls [.int v])) := by
      intro r
      induction r with
      | zero =>
        intro i hi he cl
        exact ⟨33, _, 1, Or.inr rfl, Or.inl ⟨rfl, hs, fun j hj => he j (by omega)⟩, cl.trans (by
          refine XS.iloadN X0.here hexec rfl (hb hbytes d9) rfl ?_
          refine XS.aloadN X0.here hexec rfl (hb hbytes d10) rfl rfl ?_
          refine X0.alen hexec hA0 rfl rfl (hb hbytes d11) ?_
          refine XS.icmpYes X0.here hexec rfl (pc0 := 12) rfl (hb hbytes d12) rfl (ii_ge_t (nlt32 (by omega) (by omega))) (by decide) rfl ?_
          refine iconstV X0.here hexec rfl 1 (hb hbytes d32) (by decide) ?_
          exact Steps.refl _)⟩
      | succ r ih =>
        intro i hi he cl
        have c4 : Steps p.tables e below (s₁.setTop (entryFrame m #[.ref a, .ref b] 3)) (s₁.setTop (mkF m 21 #[.val (.ref a), .val (.ref b), .val (.int (Int32.ofNat i))] [.int (yv B i), .int (yv A i)])) := cl.trans (by
          refine XS.iloadN X0.here hexec rfl (hb hbytes d9) rfl ?_
          refine XS.aloadN X0.here hexec rfl (hb hbytes d10) rfl rfl ?_
          refine X0.alen hexec hA0 rfl rfl (hb hbytes d11) ?_
          refine XS.icmpNo X0.here hexec rfl (hb hbytes d12) rfl (ii_ge_f (lt32 (by omega) (by omega))) ?_
          refine XS.aloadN X0.here hexec rfl (hb hbytes d15) rfl rfl ?_
          refine XS.iloadN X0.here hexec rfl (hb hbytes d16) rfl ?_
          refine X0.aget hexec hA0 rfl (yv_get hA tA (i := i) (by omega)) rfl rfl (hb hbytes d17) ?_
          refine XS.aloadN X0.here hexec rfl (hb hbytes d18) rfl rfl ?_
          refine XS.iloadN X0.here hexec rfl (hb hbytes d19) rfl ?_
          refine X0.aget hexec hB0 rfl (yv_get hB tB (i := i) (by omega)) rfl rfl (hb hbytes d20) ?_
          exact Steps.refl _)
        by_cases hv : yv A i = yv B i
        · have c5 : Steps p.tables e below (s₁.setTop (entryFrame m #[.ref a, .ref b] 3)) (s₁.setTop (mkF m 9 #[.val (.ref a), .val (.ref b), .val (.int (Int32.ofNat i + 1))] [])) := c4.trans (by
            refine XS.icmpYes X0.here hexec rfl (pc0 := 21) rfl (hb hbytes d21) rfl (ii_eq_t hv) (by decide) rfl ?_
            refine iincV X0.here hexec rfl 1 (hb hbytes d26) (by decide) rfl rfl ?_
            refine XS.goto X0.here hexec rfl (pc0 := 29) rfl (hb hbytes d29) (by decide) rfl ?_
            exact Steps.refl _)
          rw [succ32] at c5
          exact ih (i + 1) (by omega) (fun j hj => by
            by_cases e : j = i
            · rw [e]; exact hv
            · exact he j (by omega)) c5
        · exact ⟨25, _, 0, Or.inl rfl, Or.inr ⟨rfl, fun q => hv (q.2 i (by omega))⟩, c4.trans (by
            refine XS.icmpNo X0.here hexec rfl (hb hbytes d21) rfl (ii_eq_f hv) ?_
            refine iconstV X0.here hexec rfl 0 (hb hbytes d24) (by decide) ?_
            exact Steps.refl _)⟩
    obtain ⟨pc, Ls, v, hpc, hv, cz⟩ := loop A.slots.size 0 (by omega) (fun j hj => absurd hj (Nat.not_lt_zero j)) c3
    have nv : narrow .boolean (.int v) = .int v := by rcases hv with ⟨rfl, -⟩ | ⟨rfl, -⟩ <;> rfl
    rcases hpc with rfl | rfl
    · exact ⟨s₁, some (.int v), _, _, _, X0, rfl, rfl, rfl, (fun h => by cases h), ⟨v, rfl, hh0, hv⟩, fun fs hl => cz.trans (X0.ireturnOut hexec hret nv (Or.inr (Or.inl rfl)) (hb hbytes d25) hl)⟩
    · exact ⟨s₁, some (.int v), _, _, _, X0, rfl, rfl, rfl, (fun h => by cases h), ⟨v, rfl, hh0, hv⟩, fun fs hl => cz.trans (X0.ireturnOut hexec hret nv (Or.inr (Or.inl rfl)) (hb hbytes d33) hl)⟩
  · have c3 : Steps p.tables e below (s₁.setTop (entryFrame m #[.ref a, .ref b] 3)) (s₁.setTop (mkF m 35 #[.val (.ref a), .val (.ref b), .unset] [.int 0])) := c2.trans (by
      refine XS.icmpYes X0.here hexec rfl (pc0 := 4) rfl (hb hbytes d4) rfl (ii_ne_t (ne32 a31 b31 hs)) (by decide) rfl ?_
      refine iconstV X0.here hexec rfl 0 (hb hbytes d34) (by decide) ?_
      exact Steps.refl _)
    exact ⟨s₁, some (.int 0), _, _, _, X0, rfl, rfl, rfl, (fun h => by cases h), ⟨0, rfl, hh0, Or.inr ⟨rfl, fun q => hs q.1⟩⟩, fun fs hl => c3.trans (X0.ireturnOut hexec hret rfl (Or.inr (Or.inl rfl)) (hb hbytes d35) hl)⟩
end LEq
theorem Cod.ty {cd : Int32} {n : Nat} {f : Nat → Int32} {V : Cell} (h : Cod cd n f V) : Typed .byte V := fun i v hv => by
  have hi : i < V.slots.size := (Array.getElem?_eq_some_iff.mp hv).1
  rcases h with ⟨-, k1, k2⟩ | ⟨-, k1, k2, -⟩
  · rw [(k2 i (by omega)).1] at hv; cases hv; exact fits_lo8 _
  · rcases Nat.mod_two_eq_zero_or_one i with e | e
    · obtain ⟨j, rfl⟩ : ∃ j, i = 2 * j := ⟨i / 2, by omega⟩
      rw [(k2 j (by omega)).1] at hv; cases hv; exact fits_lo8 _
    · obtain ⟨j, rfl⟩ : ∃ j, i = 2 * j + 1 := ⟨i / 2, by omega⟩
      rw [(k2 j (by omega)).2] at hv; cases hv; exact fits_lo8 _
/-- the same text -/
def SameT (n : Nat) (f : Nat → Int32) (k : Nat) (g : Nat → Int32) : Prop := n = k ∧ ∀ j, j < n → f j = g j
theorem lo8_inj {x y : Int32} (h0 : ¬ x < 0) (h1 : ¬ 255 < x) (k0 : ¬ y < 0) (k1 : ¬ 255 < y) (h : lo8 x = lo8 y) : x = y := by
  rw [← lo8_mask h0 h1, ← lo8_mask k0 k1, h]
/-- arrays coded by one coder are equal just where the texts are -/
theorem Cod.eqv {cd : Int32} {n k : Nat} {f g : Nat → Int32} {V V' : Cell} (h : Cod cd n f V) (h' : Cod cd k g V') (hf : ∀ j, j < n → ¬ f j < 0 ∧ ¬ 65535 < f j) (hg : ∀ j, j < k → ¬ g j < 0 ∧ ¬ 65535 < g j) : EqC V V' ↔ SameT n f k g := by
  have yvv : ∀ {W : Cell} {i : Nat} {x : Int32}, W.slots[i]? = some (.int x) → yv W i = x := fun q => by unfold yv; rw [q]
  rcases h with ⟨rfl, k1, k2⟩ | ⟨rfl, k1, k2, -⟩
  · rcases h' with ⟨-, m1, m2⟩ | ⟨e, -⟩
    · constructor
      · rintro ⟨e1, e2⟩
        refine ⟨by omega, fun j hj => ?_⟩
        have q := e2 j (by omega)
        rw [yvv (k2 j hj).1, yvv (m2 j (by omega)).1] at q
        exact lo8_inj (hf j hj).1 (k2 j hj).2 (hg j (by omega)).1 (m2 j (by omega)).2 q
      · rintro ⟨rfl, e2⟩
        refine ⟨by omega, fun j hj => ?_⟩
        rw [yvv (k2 j (by omega)).1, yvv (m2 j (by omega)).1, e2 j (by omega)]
    · exact absurd e (by decide)
  · rcases h' with ⟨e, -⟩ | ⟨-, m1, m2, -⟩
    · exact absurd e (by decide)
    · constructor
      · rintro ⟨e1, e2⟩
        refine ⟨by omega, fun j hj => ?_⟩
        have q1 := e2 (2 * j) (by omega)
        have q2 := e2 (2 * j + 1) (by omega)
        rw [yvv (k2 j hj).1, yvv (m2 j (by omega)).1] at q1
        rw [yvv (k2 j hj).2, yvv (m2 j (by omega)).2] at q2
        rw [← pair_says (hf j hj).1 (hf j hj).2, ← pair_says (hg j (by omega)).1 (hg j (by omega)).2, q1, q2]
      · rintro ⟨rfl, e2⟩
        refine ⟨by omega, fun i hi => ?_⟩
        rcases Nat.mod_two_eq_zero_or_one i with e | e
        · obtain ⟨j, rfl⟩ : ∃ j, i = 2 * j := ⟨i / 2, by omega⟩
          rw [yvv (k2 j (by omega)).1, yvv (m2 j (by omega)).1, e2 j (by omega)]
        · obtain ⟨j, rfl⟩ : ∃ j, i = 2 * j + 1 := ⟨i / 2, by omega⟩
          rw [yvv (k2 j (by omega)).2, yvv (m2 j (by omega)).2, e2 j (by omega)]
/-- two codings differ: so do the texts -/
theorem Cod.dif {cd cd' : Int32} {n k : Nat} {f g : Nat → Int32} {V V' : Cell} (h : Cod cd n f V) (h' : Cod cd' k g V') (hne : ¬ cd = cd') : ¬ SameT n f k g := by
  rintro ⟨rfl, e⟩
  rcases h with ⟨rfl, -, k2⟩ | ⟨rfl, -, -, j, hj, hw⟩
  · rcases h' with ⟨rfl, -⟩ | ⟨-, -, -, j, hj, hw⟩
    · exact hne rfl
    · exact (k2 j hj).2 (by rw [e j hj]; exact hw)
  · rcases h' with ⟨-, -, m2⟩ | ⟨rfl, -⟩
    · exact (m2 j hj).2 (by rw [← e j hj]; exact hw)
    · exact hne rfl
/-- an object of exactly C is an instance of C -/
theorem cinst {p : Program} {l : Launch} {e : Env} {R : Room} {s : State} {m : MethodId} {args : Array Value} {below : List Frame} {meth : Method} {c : Code} {T : State} {locs : List Loc} {cells slots : Nat} (X : Stand p l e R s m args below meth c T locs cells slots) (hexec : p.tables.exec = Jvm.exec) {own C : String} {index : Nat} (hown : s.vm.findClass own = some m.cls) (hlink : (Cond.classLink own index C).before args s = true) {a : Addr} (hE : Exact C a T)
    {g : JFrame} (hg : g.method = m) {rest : List Value} (hstack : g.stack = .ref a :: rest) (hdg : decode c.code g.pc = .ok (.instanceof index, 3)) :
    ∃ T', Stand p l e R s m args below meth c T' locs cells slots ∧ T'.heap = T.heap ∧ ∀ target, Steps p.tables e below (T'.setTop { g with pc := g.pc + 3, stack := .int 1 :: rest }) target → Steps p.tables e below (T.setTop g) target := by
  obtain ⟨cB, h1, D, h2, h3, h4⟩ := hE
  have h1' : s.vm.findClass C = some cB := by rw [← X.warmed.alike.findClass]; exact h1
  obtain ⟨vm', X', st⟩ := X.instanceofYes hexec hown hlink h2 h4 h1' (by rw [h3]; exact Jvm.Free.SB.assignable_self _ _) hg hstack hdg
  exact ⟨_, X', rfl, st⟩
theorem cself {p : Program} {l : Launch} {e : Env} {R : Room} {s : State} {m : MethodId} {args : Array Value} {below : List Frame} {meth : Method} {c : Code} {T : State} {locs : List Loc} {cells slots : Nat} (X : Stand p l e R s m args below meth c T locs cells slots) (hexec : p.tables.exec = Jvm.exec) {own C : String} {index : Nat} (hown : s.vm.findClass own = some m.cls) (hlink : (Cond.classLink own index C).before args s = true) {a : Addr} (hE : Exact C a T)
    {g : JFrame} (hg : g.method = m) {rest : List Value} (hstack : g.stack = .ref a :: rest) (hdg : decode c.code g.pc = .ok (.checkcast index, 3)) :
    ∃ T', Stand p l e R s m args below meth c T' locs cells slots ∧ T'.heap = T.heap ∧ ∀ target, Steps p.tables e below (T'.setTop { g with pc := g.pc + 3, stack := .ref a :: rest }) target → Steps p.tables e below (T.setTop g) target := by
  obtain ⟨cB, h1, D, h2, h3, h4⟩ := hE
  have h1' : s.vm.findClass C = some cB := by rw [← X.warmed.alike.findClass]; exact h1
  obtain ⟨vm', X', st⟩ := X.checkcastYes hexec hown hlink h2 h4 h1' (by rw [h3]; exact Jvm.Free.SB.assignable_self _ _) hg hstack hdg
  exact ⟨_, X', rfl, fun t h => st t (by rw [← hstack] at h; exact h)⟩
namespace SEq
def yN : MethodName := ⟨"java/lang/String", "equals", "(Ljava/lang/Object;)Z"⟩
abbrev yB : ByteArray := jdk_42_method_66_code
theorem d0 : decode yB 0 = .ok (.aload_n 0, 1) := by decide +kernel
theorem d1 : decode yB 1 = .ok (.aload_n 1, 1) := by decide +kernel
theorem d2 : decode yB 2 = .ok (.if_acmp (.ne) 5, 3) := by decide +kernel
theorem d5 : decode yB 5 = .ok (.iconst 1, 1) := by decide +kernel
theorem d6 : decode yB 6 = .ok (.ireturn, 1) := by decide +kernel
theorem d7 : decode yB 7 = .ok (.aload_n 1, 1) := by decide +kernel
theorem d8 : decode yB 8 = .ok (.instanceof 10, 3) := by decide +kernel
theorem d11 : decode yB 11 = .ok (.ifCond (.eq) 43, 3) := by decide +kernel
theorem d14 : decode yB 14 = .ok (.aload_n 1, 1) := by decide +kernel
theorem d15 : decode yB 15 = .ok (.checkcast 10, 3) := by decide +kernel
theorem d18 : decode yB 18 = .ok (.astore_n 2, 1) := by decide +kernel
theorem d19 : decode yB 19 = .ok (.getstatic 38, 3) := by decide +kernel
theorem d22 : decode yB 22 = .ok (.ifCond (.eq) 14, 3) := by decide +kernel
theorem d25 : decode yB 25 = .ok (.aload_n 0, 1) := by decide +kernel
theorem d26 : decode yB 26 = .ok (.getfield 15, 3) := by decide +kernel
theorem d29 : decode yB 29 = .ok (.aload_n 2, 1) := by decide +kernel
theorem d30 : decode yB 30 = .ok (.getfield 15, 3) := by decide +kernel
theorem d33 : decode yB 33 = .ok (.if_icmp (.ne) 21, 3) := by decide +kernel
theorem d36 : decode yB 36 = .ok (.aload_n 0, 1) := by decide +kernel
theorem d37 : decode yB 37 = .ok (.getfield 9, 3) := by decide +kernel
theorem d40 : decode yB 40 = .ok (.aload_n 2, 1) := by decide +kernel
theorem d41 : decode yB 41 = .ok (.getfield 9, 3) := by decide +kernel
theorem d44 : decode yB 44 = .ok (.invokestatic 541, 3) := by decide +kernel
theorem d47 : decode yB 47 = .ok (.ifCond (.eq) 7, 3) := by decide +kernel
theorem d50 : decode yB 50 = .ok (.iconst 1, 1) := by decide +kernel
theorem d51 : decode yB 51 = .ok (.goto 4, 3) := by decide +kernel
theorem d54 : decode yB 54 = .ok (.iconst 0, 1) := by decide +kernel
theorem d55 : decode yB 55 = .ok (.ireturn, 1) := by decide +kernel
def site : List Cond := [.classLink "java/lang/String" 10 "java/lang/String", .fieldLink "java/lang/String" 38 "java/lang/String" "COMPACT_STRINGS" "Z", .fieldLink "java/lang/String" 15 "java/lang/String" "coder" "B", .fieldLink "java/lang/String" 9 "java/lang/String" "value" "[B", LEq.tab] ++ staticW "java/lang/String" 541 LEq.yN
def tab : Cond := tabOf yN yB 3 (some .boolean) site
def P (x t : Addr) (V : Cell) (cd : Int32) (n : Nat) (f : Nat → Int32) (y t' : Addr) (V' : Cell) (cd' : Int32) (k : Nat) (g : Nat → Int32) (z : Int32) (args : Array Value) (s : State) : Prop := args = #[.ref x, .ref y] ∧ Txt x t V cd n f s ∧ Txt y t' V' cd' k g s ∧ StaticIs s "java/lang/String" "COMPACT_STRINGS" "Z" (.int z) ∧ ¬ z = 0
/-- equals(Object) of two Strings: whether the texts are the same -/
theorem law (l : Launch) (x t : Addr) (V : Cell) (cd : Int32) (n : Nat) (f : Nat → Int32) (y t' : Addr) (V' : Cell) (cd' : Int32) (k : Nat) (g : Nat → Int32) (z : Int32) : Law l yN 2 1 1 14 yB 3 (some .boolean) site (P x t V cd n f y t' V' cd' k g z) (Says01 (SameT n f k g)) [] 0 0 := by
  refine Law.of_walk (plainFor_of_name (by decide +kernel)) (by decide +kernel) (by decide +kernel) (by decide) (fun _ _ h => by rw [h.1]; rfl) (fun _ U U' hal hh h => ⟨h.1, h.2.1.mv hal hh, h.2.2.1.mv hal hh, h.2.2.2.1.there hal hh, h.2.2.2.2⟩) (fun r U U' V V' h1 hal h2 h => Says01.mv r U U' V V' h1 hal h2 h) ?_
  intro p e s m args below meth c s₁ X0 hexec hbytes hml hret hlk hnm hown hh0 W hP
  obtain ⟨rfl, hx, hy, s1, hz⟩ := hP
  have c1 : Steps p.tables e below (s₁.setTop (entryFrame m #[.ref x, .ref y] 3)) (s₁.setTop (mkF m 2 #[.val (.ref x), .val (.ref y), .unset] [.ref y, .ref x])) := Steps.trans (entry rfl) (by
    show Steps p.tables e below (s₁.setTop (mkF m 0 #[.val (.ref x), .val (.ref y), .unset] [])) _
    refine XS.aloadN X0.here hexec rfl (hb hbytes d0) rfl rfl ?_
    refine XS.aloadN X0.here hexec rfl (hb hbytes d1) rfl rfl ?_
    exact Steps.refl _)
  by_cases hxy : x = y
  · have c2 : Steps p.tables e below (s₁.setTop (entryFrame m #[.ref x, .ref y] 3)) (s₁.setTop (mkF m 6 #[.val (.ref x), .val (.ref y), .unset] [.int 1])) := c1.trans (by
      refine acmpNo X0.here hexec rfl (hb hbytes d2) rfl rfl rfl (by simp [acmp, hxy]) ?_
      refine iconstV X0.here hexec rfl 1 (hb hbytes d5) (by decide) ?_
      exact Steps.refl _)
    subst hxy
    have ec : cd = cd' := by
      obtain ⟨D, fd, a1, a2, a3⟩ := hx.2.2.1
      obtain ⟨D', fd', b1, b2, b3⟩ := hy.2.2.1
      cases a1.symm.trans b1
      obtain ⟨q1, q2, q3, q4⟩ := a2.1
      obtain ⟨r1, r2, r3, r4⟩ := b2.1
      cases q4.symm.trans r4
      cases a3.symm.trans b3; rfl
    have et : t = t' := by
      obtain ⟨D, fd, a1, a2, a3⟩ := hx.2.1
      obtain ⟨D', fd', b1, b2, b3⟩ := hy.2.1
      cases a1.symm.trans b1
      obtain ⟨q1, q2, q3, q4⟩ := a2.1
      obtain ⟨r1, r2, r3, r4⟩ := b2.1
      cases q4.symm.trans r4
      cases a3.symm.trans b3; rfl
    subst ec et
    have ev : V = V' := by cases hx.2.2.2.1.1.symm.trans hy.2.2.2.1.1; rfl
    subst ev
    have hs : SameT n f k g := (Cod.eqv hx.2.2.2.2.1 hy.2.2.2.2.1 hx.2.2.2.2.2 hy.2.2.2.2.2).mp ⟨rfl, fun _ _ => rfl⟩
    exact ⟨s₁, some (.int 1), _, _, _, X0, rfl, rfl, rfl, (fun h => by cases h), ⟨1, rfl, hh0, Or.inl ⟨rfl, hs⟩⟩, fun fs hl => c2.trans (X0.ireturnOut hexec hret rfl (Or.inr (Or.inl rfl)) (hb hbytes d6) hl)⟩
  · have c2 : Steps p.tables e below (s₁.setTop (entryFrame m #[.ref x, .ref y] 3)) (s₁.setTop (mkF m 8 #[.val (.ref x), .val (.ref y), .unset] [.ref y])) := c1.trans (by
      refine acmpYes X0.here hexec rfl (pc0 := 2) rfl (hb hbytes d2) rfl rfl rfl (by simp [acmp, hxy]) (by decide) rfl ?_
      refine XS.aloadN X0.here hexec rfl (hb hbytes d7) rfl rfl ?_
      exact Steps.refl _)
    obtain ⟨T3, X3, q3, st3⟩ := cinst X0 hexec hown (wk W (.classLink "java/lang/String" 10 "java/lang/String")) (hy.mv X0.warmed.alike hh0).1 (g := (mkF m 8 #[.val (.ref x), .val (.ref y), .unset] [.ref y])) rfl (rest := []) rfl (hb hbytes d8)
    have hh3 := q3.trans hh0
    have c4 : Steps p.tables e below (s₁.setTop (entryFrame m #[.ref x, .ref y] 3)) (T3.setTop (mkF m 15 #[.val (.ref x), .val (.ref y), .unset] [.ref y])) := (c2.trans (st3 _ (Steps.refl _))).trans (by
      refine XS.ifNo X3.here hexec rfl (hb hbytes d11) rfl (i0_eq_f (by decide)) ?_
      refine XS.aloadN X3.here hexec rfl (hb hbytes d14) rfl rfl ?_
      exact Steps.refl _)
    obtain ⟨T5, X5, q5, st5⟩ := cself X3 hexec hown (wk W (.classLink "java/lang/String" 10 "java/lang/String")) (hy.mv X3.warmed.alike hh3).1 (g := (mkF m 15 #[.val (.ref x), .val (.ref y), .unset] [.ref y])) rfl (rest := []) rfl (hb hbytes d15)
    have hh5 := q5.trans hh3
    have c6 : Steps p.tables e below (s₁.setTop (entryFrame m #[.ref x, .ref y] 3)) (T5.setTop (mkF m 19 #[.val (.ref x), .val (.ref y), .val (.ref y)] [])) := (c4.trans (st5 _ (Steps.refl _))).trans (by
      refine XS.astoreN X5.here hexec rfl (hb hbytes d18) rfl rfl rfl ?_
      exact Steps.refl _)
    obtain ⟨T7, X7, q7, st7⟩ := X5.sget hexec hown (wk W (.fieldLink "java/lang/String" 38 "java/lang/String" "COMPACT_STRINGS" "Z")) s1 (fun _ _ h => by rw [hh5]; exact h) (g := (mkF m 19 #[.val (.ref x), .val (.ref y), .val (.ref y)] [])) rfl (hb hbytes d19)
    have hh7 := q7.trans hh5
    have c8 : Steps p.tables e below (s₁.setTop (entryFrame m #[.ref x, .ref y] 3)) (T7.setTop (mkF m 26 #[.val (.ref x), .val (.ref y), .val (.ref y)] [.ref x])) := (c6.trans (st7 _ (Steps.refl _))).trans (by
      refine XS.ifNo X7.here hexec rfl (hb hbytes d22) rfl (i0_eq_f hz) ?_
      refine XS.aloadN X7.here hexec rfl (hb hbytes d25) rfl rfl ?_
      exact Steps.refl _)
    obtain ⟨T9, X9, q9, st9⟩ := X7.hget hexec hown (wk W (.fieldLink "java/lang/String" 15 "java/lang/String" "coder" "B")) (hx.mv X7.warmed.alike hh7).2.2.1 (g := (mkF m 26 #[.val (.ref x), .val (.ref y), .val (.ref y)] [.ref x])) rfl (rest := []) rfl (hb hbytes d26)
    have hh9 := q9.trans hh7
    have c10 : Steps p.tables e below (s₁.setTop (entryFrame m #[.ref x, .ref y] 3)) (T9.setTop (mkF m 30 #[.val (.ref x), .val (.ref y), .val (.ref y)] [.ref y, .int cd])) := (c8.trans (st9 _ (Steps.refl _))).trans (by
      refine XS.aloadN X9.here hexec rfl (hb hbytes d29) rfl rfl ?_
      exact Steps.refl _)
    obtain ⟨T11, X11, q11, st11⟩ := X9.hget hexec hown (wk W (.fieldLink "java/lang/String" 15 "java/lang/String" "coder" "B")) (hy.mv X9.warmed.alike hh9).2.2.1 (g := (mkF m 30 #[.val (.ref x), .val (.ref y), .val (.ref y)] [.ref y, .int cd])) rfl (rest := [.int cd]) rfl (hb hbytes d30)
    have hh11 := q11.trans hh9
    have c12 : Steps p.tables e below (s₁.setTop (entryFrame m #[.ref x, .ref y] 3)) (T11.setTop (mkF m 33 #[.val (.ref x), .val (.ref y), .val (.ref y)] [.int cd', .int cd])) := c10.trans (st11 _ (Steps.refl _))
    by_cases hcd : cd = cd'
    · subst hcd
      have c13 : Steps p.tables e below (s₁.setTop (entryFrame m #[.ref x, .ref y] 3)) (T11.setTop (mkF m 37 #[.val (.ref x), .val (.ref y), .val (.ref y)] [.ref x])) := c12.trans (by
        refine XS.icmpNo X11.here hexec rfl (hb hbytes d33) rfl (ii_ne_f rfl) ?_
        refine XS.aloadN X11.here hexec rfl (hb hbytes d36) rfl rfl ?_
        exact Steps.refl _)
      obtain ⟨T14, X14, q14, st14⟩ := X11.hget hexec hown (wk W (.fieldLink "java/lang/String" 9 "java/lang/String" "value" "[B")) (hx.mv X11.warmed.alike hh11).2.1 (g := (mkF m 37 #[.val (.ref x), .val (.ref y), .val (.ref y)] [.ref x])) rfl (rest := []) rfl (hb hbytes d37)
      have hh14 := q14.trans hh11
      have c15 : Steps p.tables e below (s₁.setTop (entryFrame m #[.ref x, .ref y] 3)) (T14.setTop (mkF m 41 #[.val (.ref x), .val (.ref y), .val (.ref y)] [.ref y, .ref t])) := (c13.trans (st14 _ (Steps.refl _))).trans (by
        refine XS.aloadN X14.here hexec rfl (hb hbytes d40) rfl rfl ?_
        exact Steps.refl _)
      obtain ⟨T16, X16, q16, st16⟩ := X14.hget hexec hown (wk W (.fieldLink "java/lang/String" 9 "java/lang/String" "value" "[B")) (hy.mv X14.warmed.alike hh14).2.1 (g := (mkF m 41 #[.val (.ref x), .val (.ref y), .val (.ref y)] [.ref y, .ref t])) rfl (rest := [.ref t]) rfl (hb hbytes d41)
      have hh16 := q16.trans hh14
      have c17 : Steps p.tables e below (s₁.setTop (entryFrame m #[.ref x, .ref y] 3)) (T16.setTop (mkF m 44 #[.val (.ref x), .val (.ref y), .val (.ref y)] [.ref t', .ref t])) := c15.trans (st16 _ (Steps.refl _))
      obtain ⟨v18, T18, X18, E18, g18⟩ := X16.callS hexec (LEq.law l t V t' V') hown (wks W (staticW "java/lang/String" 541 LEq.yN)) (wk W LEq.tab) (W := 0) (Nat.le_of_ble_eq_true rfl) (Nat.le_of_ble_eq_true rfl) (Nat.le_refl _) (Nat.le_refl _) (g := (mkF m 44 #[.val (.ref x), .val (.ref y), .val (.ref y)] [.ref t', .ref t])) rfl (by rw [hml]; rfl) c17 (argsL := [.ref t, .ref t']) (rest := []) rfl rfl (by show 2 * 0 + 0 ≤ _; decide) (hb hbytes d44) (⟨rfl, hx.2.2.2.1.mv X16.warmed.alike hh16, hx.2.2.2.2.1.ty, hy.2.2.2.1.mv X16.warmed.alike hh16, hy.2.2.2.2.1.ty⟩)
      obtain ⟨v, rfl, q18, hv⟩ := E18
      have iff := Cod.eqv hx.2.2.2.2.1 hy.2.2.2.2.1 hx.2.2.2.2.2 hy.2.2.2.2.2
      rcases hv with ⟨rfl, he⟩ | ⟨rfl, he⟩
      · have c19 : Steps p.tables e below (s₁.setTop (entryFrame m #[.ref x, .ref y] 3)) (T18.setTop (mkF m 55 #[.val (.ref x), .val (.ref y), .val (.ref y)] [.int 1])) := Steps.trans g18 (by
          refine XS.ifNo X18.here hexec rfl (hb hbytes d47) rfl (i0_eq_f (by decide)) ?_
          refine iconstV X18.here hexec rfl 1 (hb hbytes d50) (by decide) ?_
          refine XS.goto X18.here hexec rfl (pc0 := 51) rfl (hb hbytes d51) (by decide) rfl ?_
          exact Steps.refl _)
        exact ⟨T18, some (.int 1), _, _, _, X18, rfl, rfl, rfl, (fun h => by cases h), ⟨1, rfl, q18.trans hh16, Or.inl ⟨rfl, iff.mp he⟩⟩, fun fs hl => c19.trans (X18.ireturnOut hexec hret rfl (Or.inr (Or.inl rfl)) (hb hbytes d55) hl)⟩
      · have c19 : Steps p.tables e below (s₁.setTop (entryFrame m #[.ref x, .ref y] 3)) (T18.setTop (mkF m 55 #[.val (.ref x), .val (.ref y), .val (.ref y)] [.int 0])) := Steps.trans g18 (by
          refine XS.ifYes X18.here hexec rfl (pc0 := 47) rfl (hb hbytes d47) rfl (i0_eq_t rfl) (by decide) rfl ?_
          refine iconstV X18.here hexec rfl 0 (hb hbytes d54) (by decide) ?_
          exact Steps.refl _)
        exact ⟨T18, some (.int 0), _, _, _, X18, rfl, rfl, rfl, (fun h => by cases h), ⟨0, rfl, q18.trans hh16, Or.inr ⟨rfl, fun q => he (iff.mpr q)⟩⟩, fun fs hl => c19.trans (X18.ireturnOut hexec hret rfl (Or.inr (Or.inl rfl)) (hb hbytes d55) hl)⟩
    · have c13 : Steps p.tables e below (s₁.setTop (entryFrame m #[.ref x, .ref y] 3)) (T11.setTop (mkF m 55 #[.val (.ref x), .val (.ref y), .val (.ref y)] [.int 0])) := c12.trans (by
        refine XS.icmpYes X11.here hexec rfl (pc0 := 33) rfl (hb hbytes d33) rfl (ii_ne_t hcd) (by decide) rfl ?_
        refine iconstV X11.here hexec rfl 0 (hb hbytes d54) (by decide) ?_
        exact Steps.refl _)
      exact ⟨T11, some (.int 0), _, _, _, X11, rfl, rfl, rfl, (fun h => by cases h), ⟨0, rfl, hh11, Or.inr ⟨rfl, Cod.dif hx.2.2.2.2.1 hy.2.2.2.2.1 hcd⟩⟩, fun fs hl => c13.trans (X11.ireturnOut hexec hret rfl (Or.inr (Or.inl rfl)) (hb hbytes d55) hl)⟩
theorem pays {l : Launch} {R : Room} {p : Program} {e : Env} {below : List Frame} {s : State} {sargs : Array Value} {len W : Nat} (x t : Addr) (V : Cell) (cd : Int32) (n : Nat) (f : Nat → Int32) (y t' : Addr) (V' : Cell) (cd' : Int32) (k : Nat) (g : Nat → Int32) (z : Int32) (htab : tab.before sargs s = true) (hfr : 2 ≤ R.frames) (hlo : W + 28 ≤ R.locals) :
    Back l R p e below s sargs yN len W (fun A₁ a₁ => A₁.cells + 0 ≤ R.cells ∧ A₁.slots + 0 ≤ R.slots ∧ P x t V cd n f y t' V' cd' k g z a₁ A₁.U) (fun A₁ _ v₁ B₁ => Says01 (SameT n f k g) v₁ A₁.U B₁.U ∧ B₁.locs = A₁.locs ++ [] ∧ B₁.cells = A₁.cells + 0 ∧ B₁.slots = A₁.slots + 0) :=
  (law l x t V cd n f y t' V' cd' k g z).pays htab hfr (by omega)
end SEq
end StrChars
namespace StrChars.Road
open Jvm Sem ClassFile Op Lib Jvm.Stand Jvm.Free Jvm.Free.XT
open Jvm.Lib.Cold (StaticIs)
/-- the words of String.equals(Object) -/
abbrev wordsEq : List Jvm.Cond := [.code SEq.yN SEq.yB 3 (some .boolean), .initialized ST, .classLink ST 10 ST, .fieldLink ST 38 ST "COMPACT_STRINGS" "Z", .fieldLink ST 15 ST "coder" "B", .fieldLink ST 9 ST "value" "[B", .methodLink ST 541 LEq.yN, .static LEq.yN, .code LEq.yN LEq.yB 3 (some .boolean), .initialized "java/lang/StringLatin1"]
theorem tabEq_of {a : Array Value} {s : State} (h : ∀ w ∈ wordsEq, w.before a s = true) : SEq.tab.before a s = true := by
  have hl : LEq.tab.before a s = true := unparts (wk h (.code LEq.yN LEq.yB 3 (some .boolean))) (wks h (.initialized LEq.yN.cls :: LEq.site))
  have q := consq hl h
  exact unparts (wk q (.code SEq.yN SEq.yB 3 (some .boolean))) (wks q (.initialized SEq.yN.cls :: SEq.site))
theorem movedEq {Z s : State} {a0 args : Array Value} (hZ : Z.Warmed39 s.vm) (hw : ∀ d ∈ wordsEq, d.before a0 Z = true) : ∀ d ∈ wordsEq, d.before args s = true := fun d hd => by
  have t : ∀ d ∈ wordsEq, (d.onTables && d.keepsFace) = true := by decide +kernel
  exact RoadKit.mv hZ (hw d hd) (t d hd)
/-- the road's facts of a String, as the laws ask it -/
theorem txt_of {Z U : State} {a0 : Array Value} {kI : Nat} (wi : (Jvm.Cond.instantiable ST kI).before a0 Z = true) (al : Z.vm.Alike U.vm) {x t : Addr} {kb : ClassId} {cs : List Int32} {cd N2 : Int32} {vs : List Value} (E : RoadKit.Exa Z U.heap x ST) (V : RoadKit.Fld Z U.heap x ST "value" "[B" (.ref t)) (C : RoadKit.Fld Z U.heap x ST "coder" "B" (.int cd)) (K : RoadKit.Arv Z U.heap t kb .byte N2 vs (.int 0)) (hc : CodA cs cd N2 vs) (hb : ∀ c ∈ cs, ¬ c < 0 ∧ ¬ (65535 : Int32) < c) (l2 : cs.length ≤ 4000) :
    ∃ A, Txt x t A cd cs.length (fun j => cs.getD j 0) U := by
  obtain ⟨A, K1, K2, K3, K4, K5, K6⟩ := K
  have hcod := hc.cod (by omega) K3 K5
  obtain ⟨D, fV, fC, hB, F1, F2, g1, g2, -, -⟩ := strObj wi al E V C
  exact ⟨A, ⟨_, hB.2.2.1, D, hB.1, rfl, by cases q : D.vm <;> first | rfl | exact absurd q (hB.2.1.2 _)⟩, Has.of hB F1 g1, Has.of hB F2 g2, ⟨K1.1, State.isArrayOf_alike al K1.2.1, K1.2.2, by rcases hcod with ⟨-, q, -⟩ | ⟨-, q, -⟩ <;> omega⟩, hcod, fun j hj => by
    have e : cs.getD j 0 = cs[j] := by simp [List.getD_eq_getElem?_getD, hj]
    show ¬ cs.getD j 0 < 0 ∧ ¬ 65535 < cs.getD j 0
    rw [e]; exact hb _ (List.getElem_mem _)⟩
theorem same_list (cs ds : List Int32) : SameT cs.length (fun j => cs.getD j 0) ds.length (fun j => ds.getD j 0) ↔ cs = ds := by
  constructor
  · rintro ⟨e, q⟩
    refine List.ext_getElem e fun j h1 h2 => ?_
    have := q j h1
    simpa [List.getD_eq_getElem?_getD, h1, h2] using this
  · rintro rfl
    exact ⟨rfl, fun _ _ => rfl⟩
/-- **equals(Object) OF TWO SUCH STRINGS**: 1 just where the chars are the same -/
theorem eqW {p : Program} {l : Launch} {e : Env} {R : Room} {s : State} {args : Array Value} {below : List Frame} {len W : Nat} {Z : State} {a0 : Array Value} {h : Heap} (hZ : Z.Warmed39 s.vm) (hw : ∀ d ∈ wordsEq, d.before a0 Z = true) {kI : Nat} (wi : (Jvm.Cond.instantiable ST kI).before a0 Z = true)
    {x t : Addr} {kb : ClassId} {cs : List Int32} {cd N2 : Int32} {vs : List Value} (E : RoadKit.Exa Z h x ST) (V : RoadKit.Fld Z h x ST "value" "[B" (.ref t)) (C : RoadKit.Fld Z h x ST "coder" "B" (.int cd)) (K : RoadKit.Arv Z h t kb .byte N2 vs (.int 0)) (hc : CodA cs cd N2 vs) (hb : ∀ c ∈ cs, ¬ c < 0 ∧ ¬ (65535 : Int32) < c) (l2 : cs.length ≤ 4000)
    {y t' : Addr} {kb' : ClassId} {ds : List Int32} {cd' N2' : Int32} {vs' : List Value} (E' : RoadKit.Exa Z h y ST) (V' : RoadKit.Fld Z h y ST "value" "[B" (.ref t')) (C' : RoadKit.Fld Z h y ST "coder" "B" (.int cd')) (K' : RoadKit.Arv Z h t' kb' .byte N2' vs' (.int 0)) (hc' : CodA ds cd' N2' vs') (hb' : ∀ c ∈ ds, ¬ c < 0 ∧ ¬ (65535 : Int32) < c) (l2' : ds.length ≤ 4000)
    {z : Int32} (S : RoadKit.Sta Z h ST "COMPACT_STRINGS" "Z" (.int z)) (hz : ¬ z = 0) (hfr : 2 ≤ R.frames) (hlo : W + 28 ≤ R.locals) :
    Back l R p e below s args (⟨"java/lang/String", "equals", "(Ljava/lang/Object;)Z"⟩ : MethodName) len W (fun P a => a = #[.ref x, .ref y] ∧ P.U.heap = h ∧ P.cells + 0 ≤ R.cells ∧ P.slots + 0 ≤ R.slots)
      (fun P _ v B => ∃ L, (((v = some (.int 1) ∧ cs = ds) ∨ (v = some (.int 0) ∧ ¬ cs = ds)) ∧ L = [] ∧ B.U.heap = h) ∧ B.locs = P.locs ++ L ∧ B.cells = P.cells + 0 ∧ B.slots = P.slots + 0) := by
  intro m meth c P g ig mk a X hg hsize hdg hW hn hp'
  obtain ⟨rfl, rfl, r1, r2⟩ := hp'
  have al : Z.vm.Alike P.U.vm := hZ.alike.trans X.warmed.alike
  obtain ⟨A, hx⟩ := txt_of wi al E V C K hc hb l2
  obtain ⟨A', hy⟩ := txt_of wi al E' V' C' K' hc' hb' l2'
  obtain ⟨v, B, X', ⟨⟨w, hv, hh, hq⟩, hl, hk, hs⟩, st⟩ := SEq.pays x t A cd cs.length (fun j => cs.getD j 0) y t' A' cd' ds.length (fun j => ds.getD j 0) z (tabEq_of (movedEq hZ hw)) hfr hlo m meth c P g ig mk _ X hg hsize hdg hW hn ⟨r1, r2, rfl, hx, hy, sta_is al S, hz⟩
  refine ⟨v, B, X', ⟨[], ⟨?_, rfl, hh⟩, hl, hk, hs⟩, st⟩
  rcases hq with ⟨rfl, q⟩ | ⟨rfl, q⟩
  · exact Or.inl ⟨hv, (same_list cs ds).mp q⟩
  · exact Or.inr ⟨hv, fun e => q ((same_list cs ds).mpr e)⟩
end StrChars.Road
namespace StrChars.Road
open Jvm Sem ClassFile Op Lib Jvm.Stand Jvm.Free Jvm.Free.XT
open Jvm.Lib.Cold (StaticIs)
/-- what backV says of its String, as the contracts of this text ask it: cs's low bytes, coder 0 -/
theorem codOf {cs : List Int32} {n : Nat} (hn : cs.length = n) (hb : ∀ c ∈ cs, ¬ 255 < c) : CodA cs 0 (Int32.ofNat n) ((cs.map lo8).map Value.int) := Or.inl ⟨rfl, by rw [hn], by simp [List.map_map, Function.comp_def], hb⟩
end StrChars.Road
end Jvm.Pilot.@@N@@
namespace Jvm.Pilot.@@N@@
open Jvm Jvm.ClassFile Sem Op Lib Jvm.Free Jvm.Stand Jvm.LawKit Jvm.RoadKit Bundle Jvm.Pilot.@@N@@.Jvm.D
theorem own_mod7 {x y : Int32} (h : (x &&& 2147483647) % 7 = y) (hm : 0 ≤ (x &&& 2147483647).toInt) : y = 0 ∨ y = 1 ∨ y = 2 ∨ y = 3 ∨ y = 4 ∨ y = 5 ∨ y = 6 := by
  have e : y.toInt = (x &&& 2147483647).toInt % 7 := by
    rw [← h, Int32.toInt_mod, show (7 : Int32).toInt = 7 from rfl, Int.tmod_eq_emod_of_nonneg hm]
  have k : y.toInt = 0 ∨ y.toInt = 1 ∨ y.toInt = 2 ∨ y.toInt = 3 ∨ y.toInt = 4 ∨ y.toInt = 5 ∨ y.toInt = 6 := by omega
  rcases k with k | k | k | k | k | k | k <;> simp [← Int32.toInt_inj, k]
theorem own_lt6 {y : Int32} (h : y = 0 ∨ y = 1 ∨ y = 2 ∨ y = 3 ∨ y = 4 ∨ y = 5 ∨ y = 6) (k : y < 6) : y = 0 ∨ y = 1 ∨ y = 2 ∨ y = 3 ∨ y = 4 ∨ y = 5 := by
  rcases h with h | h | h | h | h | h | h
  · exact Or.inl h
  · exact Or.inr (Or.inl h)
  · exact Or.inr (Or.inr (Or.inl h))
  · exact Or.inr (Or.inr (Or.inr (Or.inl h)))
  · exact Or.inr (Or.inr (Or.inr (Or.inr (Or.inl h))))
  · exact Or.inr (Or.inr (Or.inr (Or.inr (Or.inr h))))
  · subst h; exact absurd k (by decide)
def own_R (c : Int32) : Prop := ¬ c < 0 ∧ ¬ (255 : Int32) < c
instance (c : Int32) : Decidable (own_R c) := inferInstanceAs (Decidable (_ ∧ _))
theorem own_r256 : ∀ n : Fin 256, own_R (nar .char (Int32.ofNat n.val)) := by decide +kernel
theorem own_of {x : Int32} (h : 0 ≤ x.toInt ∧ x.toInt < 256) : ∃ n : Fin 256, x = Int32.ofNat n.val := by
  refine ⟨⟨x.toInt.toNat, by omega⟩, ?_⟩
  apply Int32.toInt_inj.mp
  rw [Int32.toInt_ofNat_of_lt (by omega)]
  show x.toInt = ((x.toInt.toNat : Nat) : Int)
  omega
theorem own_nR {x : Int32} (h : own_R x) : own_R (nar .char x) := by
  obtain ⟨h0, h1⟩ := h
  rw [Int32.lt_iff_toInt_lt] at h0 h1
  have e0 : (0 : Int32).toInt = 0 := rfl
  have e1 : (255 : Int32).toInt = 255 := rfl
  obtain ⟨n, rfl⟩ := own_of (x := x) (by omega)
  exact own_r256 n
theorem own_a32 (y : Int32) : 0 ≤ (y &&& 255).toInt ∧ (y &&& 255).toInt < 256 := by
  have e : (y &&& 255).toInt = ((y.toBitVec &&& 255#32).toInt) := rfl
  have k : (y.toBitVec &&& 255#32).toNat < 256 := by
    rw [BitVec.toNat_and]; exact Nat.lt_of_le_of_lt Nat.and_le_right (by decide)
  rw [e, BitVec.toInt_eq_toNat_cond]; split <;> omega
theorem own_a64 (y : Int64) : 0 ≤ (y &&& 255).toInt ∧ (y &&& 255).toInt < 256 := by
  have e : (y &&& 255).toInt = ((y.toBitVec &&& 255#64).toInt) := rfl
  have k : (y.toBitVec &&& 255#64).toNat < 256 := by
    rw [BitVec.toNat_and]; exact Nat.lt_of_le_of_lt Nat.and_le_right (by decide)
  rw [e, BitVec.toInt_eq_toNat_cond]; split <;> omega
theorem own_r256J : ∀ n : Fin 256, own_R (nar .char ((Int64.ofNat n.val).toInt32.toUInt32.toUInt16.toUInt32.toInt32)) := by decide +kernel
theorem own_r256I : ∀ n : Fin 256, own_R (nar .char ((Int32.ofNat n.val).toUInt32.toUInt16.toUInt32.toInt32)) := by decide +kernel
theorem own_of64 {x : Int64} (h : 0 ≤ x.toInt ∧ x.toInt < 256) : ∃ n : Fin 256, x = Int64.ofNat n.val := by
  refine ⟨⟨x.toInt.toNat, by omega⟩, ?_⟩
  apply Int64.toInt_inj.mp
  rw [Int64.toInt_ofNat_of_lt (by omega)]
  show x.toInt = ((x.toInt.toNat : Nat) : Int)
  omega
theorem own_rJ (y : Int64) : own_R (nar .char ((y &&& 255).toInt32.toUInt32.toUInt16.toUInt32.toInt32)) := by
  obtain ⟨n, h⟩ := own_of64 (own_a64 y); rw [h]; exact own_r256J n
theorem own_rI (y : Int32) : own_R (nar .char ((y &&& 255).toUInt32.toUInt16.toUInt32.toInt32)) := by
  obtain ⟨n, h⟩ := own_of (own_a32 y); rw [h]; exact own_r256I n
theorem own_m31 (x : Int32) : 0 ≤ (x &&& 2147483647).toInt := by
  have e : (x &&& 2147483647).toInt = ((x.toBitVec &&& 2147483647#32).toInt) := rfl
  have k : (x.toBitVec &&& 2147483647#32).toNat < 2147483648 := by
    rw [BitVec.toNat_and]; exact Nat.lt_of_le_of_lt Nat.and_le_right (by decide)
  rw [e, BitVec.toInt_eq_toNat_cond]; split <;> omega
theorem own_hws (Z : State) (a0 : Array Value) (hw : ∀ d ∈ tables_1, d.before a0 Z = true) : ∀ d ∈ StrChars.Road.words, d.before a0 Z = true := fun d hd => hw d ((by decide +kernel : ∀ d ∈ StrChars.Road.words, d ∈ tables_1) d hd)
theorem own_heq (Z : State) (a0 : Array Value) (hw : ∀ d ∈ tables_1, d.before a0 Z = true) : ∀ d ∈ StrChars.Road.wordsEq, d.before a0 Z = true := fun d hd => hw d ((by decide +kernel : ∀ d ∈ StrChars.Road.wordsEq, d ∈ tables_1) d hd)
theorem own_q1 {v : Option Value} {P : Prop} (q : (v = some (.int 1) ∧ P) ∨ (v = some (.int 0) ∧ ¬ P)) (h : P) : v = some (.int 1) := by
  rcases q with q | q
  · exact q.1
  · exact absurd h q.2
theorem own_q0 {v : Option Value} {P : Prop} (q : (v = some (.int 1) ∧ P) ∨ (v = some (.int 0) ∧ ¬ P)) (h : ¬ P) : v = some (.int 0) := by
  rcases q with q | q
  · exact absurd q.2 h
  · exact q.1
theorem own_up {cs : List Int32} (h : ∀ c ∈ cs, own_R c) : ∀ c ∈ cs, ¬ c < 0 ∧ ¬ (65535 : Int32) < c := fun c hc => ⟨(h c hc).1, fun q => (h c hc).2 (by
  rw [Int32.lt_iff_toInt_lt] at q ⊢
  have e1 : (65535 : Int32).toInt = 65535 := rfl
  have e2 : (255 : Int32).toInt = 255 := rfl
  omega)⟩
theorem own_all1 {P : Int32 → Prop} {a : Int32} (h : P a) : ∀ c ∈ [a], P c := fun c hc => by
  simp only [List.mem_cons, List.not_mem_nil, or_false] at hc; exact hc ▸ h
theorem own_allC {P : Int32 → Prop} {a : Int32} {l : List Int32} (h : P a) (k : ∀ c ∈ l, P c) : ∀ c ∈ a :: l, P c := fun c hc => by
  rcases List.mem_cons.mp hc with q | q
  · exact q ▸ h
  · exact k c q
def own_male : List Int32 := [109, 97, 108, 101]
def own_fem : List Int32 := [102, 101, 109, 97, 108, 101]
theorem own_maleR : ∀ c ∈ own_male, own_R c := by decide +kernel
theorem own_femR : ∀ c ∈ own_fem, own_R c := by decide +kernel
theorem own_mCod : StrChars.Road.CodA own_male 0 4 [.int 109, .int 97, .int 108, .int 101] := Or.inl ⟨rfl, by decide +kernel, by decide +kernel, fun c hc => (own_maleR c hc).2⟩
theorem own_fCod : StrChars.Road.CodA own_fem 0 6 [.int 102, .int 101, .int 109, .int 97, .int 108, .int 101] := Or.inl ⟨rfl, by decide +kernel, by decide +kernel, fun c hc => (own_femR c hc).2⟩
theorem own_mf : ¬ own_male = own_fem := by decide +kernel
theorem own_eCod : StrChars.Road.CodA [] 0 0 [] := Or.inl ⟨rfl, by decide +kernel, rfl, fun c hc => by cases hc⟩
theorem own_len {args : Array Value} {s : State} {t : Term} {a : Addr} {cl : Cell} {ty : FieldType} {k : Int32} (et : t.eval args s none [] s = some (.ref a)) (A : Arr s s.heap a cl ty) (h : (Cond.eq (Term.length t) (Term.int k)).value args s none s [] = some true) : cl.slots.size < 2 ^ 31 ∧ cl.slots.size.toInt32 = k := by
  have ha : s.arrayAt? a = some cl := A.fin (Vm.Alike.refl _)
  by_cases hl : cl.slots.size < 2 ^ 31
  · refine ⟨hl, ?_⟩
    have e1 : (Term.length t).eval args s none [] s = some (.int cl.slots.size.toInt32) := len_f et ha hl
    exact of_decide_eq_true (Option.some.inj ((Cond.eq_ints e1 (Term.int_eval k)).symm.trans h))
  · exfalso
    have e1 : (Term.length t).eval args s none [] s = none := by
      simp [Term.eval, et]
      intro c hc
      cases ha.symm.trans hc
      omega
    simp [Cond.value, e1] at h
theorem own_elem {args : Array Value} {s : State} {t : Term} {a : Addr} {cl : Cell} {ty : FieldType} {i k : Int32} (et : t.eval args s none [] s = some (.ref a)) (A : Arr s s.heap a cl ty) (h : (Cond.eq (Term.elem t (Term.int i)) (Term.int k)).value args s none s [] = some true) : cl.slots[i.toNatClampNeg]? = some (.int k) := by
  obtain ⟨x, y, e1, e2, k1, k2⟩ := cmp_v (Or.inl h)
  have := elem_in e1 et rfl A.1
  rw [this.2]
  cases e2
  obtain ⟨z, rfl⟩ := k2
  simp only [Cond.value, e1] at h
  simpa [Term.eval] using h
theorem own_elemR {args : Array Value} {s : State} {t u : Term} {a b : Addr} {cl : Cell} {ty : FieldType} {i : Int32} (et : t.eval args s none [] s = some (.ref a)) (eu : u.eval args s none [] s = some (.ref b)) (A : Arr s s.heap a cl ty) (h : (Cond.eq (Term.elem t (Term.int i)) u).value args s none s [] = some true) : cl.slots[i.toNatClampNeg]? = some (.ref b) := by
  obtain ⟨x, y, e1, e2, k1⟩ := cmp_v (Or.inl h)
  have := elem_in e1 et rfl A.1
  rw [this.2]
  cases e2.symm.trans eu
  simp only [Cond.value, e1, eu] at h
  cases x <;> simp_all
theorem own_fldI {args : Array Value} {s : State} {t : Term} {a : Addr} {C n d : String} {k : Int32} (et : t.eval args s none [] s = some (.ref a)) (h : (Cond.eq (Term.field t C n d) (Term.int k)).value args s none s [] = some true) : Fld s s.heap a C n d (.int k) := by
  obtain ⟨x, y, e1, e2, k1, k2⟩ := cmp_v (Or.inl h)
  cases e2
  obtain ⟨z, rfl⟩ := k2
  have e3 : z = k := of_decide_eq_true (Option.some.inj ((Cond.eq_ints e1 (Term.int_eval k)).symm.trans h))
  subst e3
  refine Fld.start ?_
  simpa [Term.eval, et] using e1
theorem own_fldR {args : Array Value} {s : State} {t : Term} {a : Addr} {C n d : String} {v : Value} (et : t.eval args s none [] s = some (.ref a)) (h : (Term.field t C n d).eval args s none [] s = some v) : Fld s s.heap a C n d v := by
  refine Fld.start ?_
  simpa [Term.eval, et] using h
theorem own_dsc0 : parseMethodDescriptor "(Ljava/lang/Object;)V" = some ⟨[(.object "java/lang/Object")], none⟩ := by decide +kernel
theorem own_dsc1 : parseMethodDescriptor "()[Lcom/example/vestry/vestry/engine/Sex;" = some ⟨[], some (.array (.object "com/example/vestry/vestry/engine/Sex"))⟩ := by decide +kernel
theorem own_dsc2 : parseMethodDescriptor "(Ljava/lang/Object;)Z" = some ⟨[(.object "java/lang/Object")], some .boolean⟩ := by decide +kernel
theorem own_dsc3 : parseMethodDescriptor "(Ljava/lang/Object;)Ljava/util/Optional;" = some ⟨[(.object "java/lang/Object")], some (.object "java/util/Optional")⟩ := by decide +kernel
theorem own_dsc4 : parseMethodDescriptor "([CIILjava/lang/Void;)V" = some ⟨[(.array .char), .int, .int, (.object "java/lang/Void")], none⟩ := by decide +kernel
theorem own_dsc5 : parseMethodDescriptor "(Ljava/lang/String;)Ljava/util/Optional;" = some ⟨[(.object "java/lang/String")], some (.object "java/util/Optional")⟩ := by decide +kernel
theorem own_dsc6 : parseMethodDescriptor "()Z" = some ⟨[], some .boolean⟩ := by decide +kernel
theorem own_dsc7 : parseMethodDescriptor "()Ljava/lang/Object;" = some ⟨[], some (.object "java/lang/Object")⟩ := by decide +kernel
theorem own_dsc8 : parseMethodDescriptor "([CI)[C" = some ⟨[(.array .char), .int], some (.array .char)⟩ := by decide +kernel
theorem own_dsc9 : parseMethodDescriptor "([C)V" = some ⟨[(.array .char)], none⟩ := by decide +kernel
theorem own_txt0 : (∀ c ∈ ("" : String).toList, c.toNat < 256) ∧ ("" : String).toList.map (fun c => Value.int (Jvm.Lit.byteI c.toNat.toUInt16)) = [] := ⟨by decide +kernel, by decide +kernel⟩
theorem own_txt1 : (∀ c ∈ ("male" : String).toList, c.toNat < 256) ∧ ("male" : String).toList.map (fun c => Value.int (Jvm.Lit.byteI c.toNat.toUInt16)) = [(.int 109), (.int 97), (.int 108), (.int 101)] := ⟨by decide +kernel, by decide +kernel⟩
theorem own_txt2 : (∀ c ∈ ("female" : String).toList, c.toNat < 256) ∧ ("female" : String).toList.map (fun c => Value.int (Jvm.Lit.byteI c.toNat.toUInt16)) = [(.int 102), (.int 101), (.int 109), (.int 97), (.int 108), (.int 101)] := ⟨by decide +kernel, by decide +kernel⟩
theorem own_EW (Z : State) (a0 : Array Value) (hw : ∀ d ∈ tables_1, d.before a0 Z = true) : EW Z a0 consts_1 := (EW.cons (hw _ (List.mem_of_getElem? (i := 81) rfl)) own_txt1.1 (EW.cons (hw _ (List.mem_of_getElem? (i := 85) rfl)) own_txt2.1 (EW.cons (hw _ (List.mem_of_getElem? (i := 86) rfl)) own_txt0.1 EW.nil)))
theorem own_p0_d0 : decode method_2_code 0 = .ok (.iload_n 1, 1) := by decide +kernel
theorem own_p0_d1 : decode method_2_code 1 = .ok (.ifCond .ne 7, 3) := by decide +kernel
theorem own_p0_d4 : decode method_2_code 4 = .ok (.iconst 0, 1) := by decide +kernel
theorem own_p0_d5 : decode method_2_code 5 = .ok (.newarray .char, 2) := by decide +kernel
theorem own_p0_d7 : decode method_2_code 7 = .ok (.areturn, 1) := by decide +kernel
abbrev own_rmP0_Q (Z : State) (a : Addr) (ka : ClassId) (c0 c1 c2 c3 c4 c5 : Int32) (n0 : Nat) (h0 : Heap) : Option Value → Heap → List Loc → Prop := fun v h L => ∃ b k, v = some (.ref b) ∧ Fr n0 L ∧ Keep h0 h [] ∧ h0.size ≤ b ∧ Arv Z h b k .char 0 [] (.int 0)
set_option maxRecDepth 65536 in
set_option maxHeartbeats 40000000 in
theorem own_rmP0 (l : Launch) (Z : State) (a0 : Array Value) (hw : ∀ d ∈ tables_1, d.before a0 Z = true) (a : Addr) (ka : ClassId) (c0 c1 c2 c3 c4 c5 : Int32) (n0 : Nat) (h0 : Heap) (Z0 : n0 ≤ h0.size) (VA : Arv Z h0 a ka .char 6 [.int c0, .int c1, .int c2, .int c3, .int c4, .int c5] (.int 0)) :
    MetFree l (⟨"com/example/vestry/vestry/engine/SexNamedPinLaw", "prefix", "([CI)[C"⟩ : MethodName) (head1 [Jvm.Cond.code (⟨"com/example/vestry/vestry/engine/SexNamedPinLaw", "prefix", "([CI)[C"⟩ : MethodName) method_2_code 2 (some (.array .char))] ({ frames := 0, cells := 1, slots := 0, locals := 0 } : Room)) (fun aa U => aa = #[(.ref a), (.int (0 : Int32))] ∧ Z.Warmed39 U.vm ∧ U.heap = h0) (fun _ _ _ _ _ => True) (fun _ U o U' => ∃ v L, o = .returned v ∧ ((own_rmP0_Q Z a ka c0 c1 c2 c3 c4 c5 n0 h0)) v U'.heap L ∧ FrameEnd U o U' L ({ frames := 0, cells := 1, slots := 0, locals := 0 } : Room).cells ({ frames := 0, cells := 1, slots := 0, locals := 0 } : Room).slots) := by
  refine goBody (y := (⟨"com/example/vestry/vestry/engine/SexNamedPinLaw", "prefix", "([CI)[C"⟩ : MethodName)) (Q := (own_rmP0_Q Z a ka c0 c1 c2 c3 c4 c5 n0 h0)) (plainFor_of_name (by first | (simp [plainName, overriddenIn]; done) | decide +kernel)) ?_
  intro p e s m below meth c T0 hx hZ hby hml hown hnm hret hlk X0 e0
  have hown : s.vm.findClass "com/example/vestry/vestry/engine/SexNamedPinLaw" = some m.cls := hown
  refine Go.cast (g' := mkF m 0 #[.val (.ref a), .val (.int (0 : Int32))] []) (by first | (simp [entryFrame, mkF, argsToLocals, Value.category]; done) | rfl) ?_
  show Go p e below _ T0 (mkF m 0 #[.val (.ref a), .val (.int (0 : Int32))] [])
  refine Go.of (fun _ kz => XS.iloadN X0.here hx rfl (hb hby own_p0_d0) rfl kz) ?_
  show Go p e below _ T0 (mkF m 1 #[.val (.ref a), .val (.int (0 : Int32))] [(.int (0 : Int32))])
  refine Go.of (fun _ kz => XS.ifNo X0.here hx rfl (hb hby own_p0_d1) rfl ((if0 _ _).trans (teq (by decide : (0 : Int32) = (0 : Int32))).2) kz) ?_
  show Go p e below _ T0 (mkF m 4 #[.val (.ref a), .val (.int (0 : Int32))] [])
  refine Go.of (fun _ kz => XS.iconst X0.here hx rfl (hb hby own_p0_d4) kz) ?_
  show Go p e below _ T0 (mkF m 5 #[.val (.ref a), .val (.int (0 : Int32))] [(.int (0 : Int32))])
  refine Go.newarr X0 hx hZ (hw _ (List.mem_of_getElem? (i := 0) rfl)) e0 0 (by decide) (by decide) (by decide) (by decide) (by decide) (hb hby own_p0_d5) fun T1 h1 b1 k1 g1 X1 e1 E1 V1 => ?_
  have lt_a_b1 : a < b1 := Nat.lt_of_lt_of_le VA.lt (Nat.le_of_eq g1.symm)
  have ge_b1 : n0 ≤ b1 := g1 ▸ Z0
  have hs_b1 : h0.size ≤ b1 := g1 ▸ (Keep.refl h0 []).1
  have sz1 : n0 ≤ h1.size := Nat.le_trans Z0 E1.1
  have kp1 : Keep h0 h1 [] := (Keep.refl h0 []).ext E1
  have V1 : Arv Z h1 b1 k1 .char (0 : Int32) [] (.int (0 : Int32)) := V1
  show Go p e below _ T1 (mkF m 7 #[.val (.ref a), .val (.int (0 : Int32))] [(.ref b1)])
  exact Go.retA X1 hx hlk hret rfl rfl rfl (hb hby own_p0_d7) (by decide) (by decide) (by rw [e1]; exact ⟨b1, k1, rfl, (Fr.nil n0), kp1, hs_b1, V1⟩)
theorem own_p1_d0 : decode method_2_code 0 = .ok (.iload_n 1, 1) := by decide +kernel
theorem own_p1_d1 : decode method_2_code 1 = .ok (.ifCond .ne 7, 3) := by decide +kernel
theorem own_p1_d8 : decode method_2_code 8 = .ok (.iload_n 1, 1) := by decide +kernel
theorem own_p1_d9 : decode method_2_code 9 = .ok (.iconst 1, 1) := by decide +kernel
theorem own_p1_d10 : decode method_2_code 10 = .ok (.if_icmp .ne 13, 3) := by decide +kernel
theorem own_p1_d13 : decode method_2_code 13 = .ok (.iconst 1, 1) := by decide +kernel
theorem own_p1_d14 : decode method_2_code 14 = .ok (.newarray .char, 2) := by decide +kernel
theorem own_p1_d16 : decode method_2_code 16 = .ok (.dup, 1) := by decide +kernel
theorem own_p1_d17 : decode method_2_code 17 = .ok (.iconst 0, 1) := by decide +kernel
theorem own_p1_d18 : decode method_2_code 18 = .ok (.aload_n 0, 1) := by decide +kernel
theorem own_p1_d19 : decode method_2_code 19 = .ok (.iconst 0, 1) := by decide +kernel
theorem own_p1_d20 : decode method_2_code 20 = .ok (.caload, 1) := by decide +kernel
theorem own_p1_d21 : decode method_2_code 21 = .ok (.castore, 1) := by decide +kernel
theorem own_p1_d22 : decode method_2_code 22 = .ok (.areturn, 1) := by decide +kernel
abbrev own_rmP1_Q (Z : State) (a : Addr) (ka : ClassId) (c0 c1 c2 c3 c4 c5 : Int32) (n0 : Nat) (h0 : Heap) : Option Value → Heap → List Loc → Prop := fun v h L => ∃ b k, v = some (.ref b) ∧ Fr n0 L ∧ Keep h0 h [] ∧ h0.size ≤ b ∧ Arv Z h b k .char 1 [.int (nar .char c0)] (.int 0)
set_option maxRecDepth 65536 in
set_option maxHeartbeats 40000000 in
theorem own_rmP1 (l : Launch) (Z : State) (a0 : Array Value) (hw : ∀ d ∈ tables_1, d.before a0 Z = true) (a : Addr) (ka : ClassId) (c0 c1 c2 c3 c4 c5 : Int32) (n0 : Nat) (h0 : Heap) (Z0 : n0 ≤ h0.size) (VA : Arv Z h0 a ka .char 6 [.int c0, .int c1, .int c2, .int c3, .int c4, .int c5] (.int 0)) :
    MetFree l (⟨"com/example/vestry/vestry/engine/SexNamedPinLaw", "prefix", "([CI)[C"⟩ : MethodName) (head1 [Jvm.Cond.code (⟨"com/example/vestry/vestry/engine/SexNamedPinLaw", "prefix", "([CI)[C"⟩ : MethodName) method_2_code 2 (some (.array .char))] ({ frames := 0, cells := 1, slots := 1, locals := 0 } : Room)) (fun aa U => aa = #[(.ref a), (.int (1 : Int32))] ∧ Z.Warmed39 U.vm ∧ U.heap = h0) (fun _ _ _ _ _ => True) (fun _ U o U' => ∃ v L, o = .returned v ∧ ((own_rmP1_Q Z a ka c0 c1 c2 c3 c4 c5 n0 h0)) v U'.heap L ∧ FrameEnd U o U' L ({ frames := 0, cells := 1, slots := 1, locals := 0 } : Room).cells ({ frames := 0, cells := 1, slots := 1, locals := 0 } : Room).slots) := by
  refine goBody (y := (⟨"com/example/vestry/vestry/engine/SexNamedPinLaw", "prefix", "([CI)[C"⟩ : MethodName)) (Q := (own_rmP1_Q Z a ka c0 c1 c2 c3 c4 c5 n0 h0)) (plainFor_of_name (by first | (simp [plainName, overriddenIn]; done) | decide +kernel)) ?_
  intro p e s m below meth c T0 hx hZ hby hml hown hnm hret hlk X0 e0
  have hown : s.vm.findClass "com/example/vestry/vestry/engine/SexNamedPinLaw" = some m.cls := hown
  refine Go.cast (g' := mkF m 0 #[.val (.ref a), .val (.int (1 : Int32))] []) (by first | (simp [entryFrame, mkF, argsToLocals, Value.category]; done) | rfl) ?_
  show Go p e below _ T0 (mkF m 0 #[.val (.ref a), .val (.int (1 : Int32))] [])
  refine Go.of (fun _ kz => XS.iloadN X0.here hx rfl (hb hby own_p1_d0) rfl kz) ?_
  show Go p e below _ T0 (mkF m 1 #[.val (.ref a), .val (.int (1 : Int32))] [(.int (1 : Int32))])
  refine Go.of (fun _ kz => XS.ifYes X0.here hx rfl (pc0 := 1) (pc' := 8) rfl (hb hby own_p1_d1) rfl ((if0 _ _).trans (feq (by decide : ¬ ((1 : Int32) = (0 : Int32)))).2) (by decide) (by decide) kz) ?_
  show Go p e below _ T0 (mkF m 8 #[.val (.ref a), .val (.int (1 : Int32))] [])
  refine Go.of (fun _ kz => XS.iloadN X0.here hx rfl (hb hby own_p1_d8) rfl kz) ?_
  show Go p e below _ T0 (mkF m 9 #[.val (.ref a), .val (.int (1 : Int32))] [(.int (1 : Int32))])
  refine Go.of (fun _ kz => XS.iconst X0.here hx rfl (hb hby own_p1_d9) kz) ?_
  show Go p e below _ T0 (mkF m 10 #[.val (.ref a), .val (.int (1 : Int32))] [(.int (1 : Int32)), (.int (1 : Int32))])
  refine Go.of (fun _ kz => XS.icmpNo X0.here hx rfl (hb hby own_p1_d10) rfl (teq (by decide : (1 : Int32) = (1 : Int32))).2 kz) ?_
  show Go p e below _ T0 (mkF m 13 #[.val (.ref a), .val (.int (1 : Int32))] [])
  refine Go.of (fun _ kz => XS.iconst X0.here hx rfl (hb hby own_p1_d13) kz) ?_
  show Go p e below _ T0 (mkF m 14 #[.val (.ref a), .val (.int (1 : Int32))] [(.int (1 : Int32))])
  refine Go.newarr X0 hx hZ (hw _ (List.mem_of_getElem? (i := 0) rfl)) e0 1 (by decide) (by decide) (by decide) (by decide) (by decide) (hb hby own_p1_d14) fun T1 h1 b1 k1 g1 X1 e1 E1 V1 => ?_
  have lt_a_b1 : a < b1 := Nat.lt_of_lt_of_le VA.lt (Nat.le_of_eq g1.symm)
  have ge_b1 : n0 ≤ b1 := g1 ▸ Z0
  have hs_b1 : h0.size ≤ b1 := g1 ▸ (Keep.refl h0 []).1
  have sz1 : n0 ≤ h1.size := Nat.le_trans Z0 E1.1
  have kp1 : Keep h0 h1 [] := (Keep.refl h0 []).ext E1
  have V1 : Arv Z h1 b1 k1 .char (1 : Int32) [(.int (0 : Int32))] (.int (0 : Int32)) := V1
  show Go p e below _ T1 (mkF m 16 #[.val (.ref a), .val (.int (1 : Int32))] [(.ref b1)])
  refine Go.of (fun _ kz => XS.dup X1.here hx rfl (hb hby own_p1_d16) rfl rfl kz) ?_
  show Go p e below _ T1 (mkF m 17 #[.val (.ref a), .val (.int (1 : Int32))] [(.ref b1), (.ref b1)])
  refine Go.of (fun _ kz => XS.iconst X1.here hx rfl (hb hby own_p1_d17) kz) ?_
  show Go p e below _ T1 (mkF m 18 #[.val (.ref a), .val (.int (1 : Int32))] [(.int (0 : Int32)), (.ref b1), (.ref b1)])
  refine Go.of (fun _ kz => XS.aloadN X1.here hx rfl (hb hby own_p1_d18) rfl rfl kz) ?_
  show Go p e below _ T1 (mkF m 19 #[.val (.ref a), .val (.int (1 : Int32))] [(.ref a), (.int (0 : Int32)), (.ref b1), (.ref b1)])
  refine Go.of (fun _ kz => XS.iconst X1.here hx rfl (hb hby own_p1_d19) kz) ?_
  show Go p e below _ T1 (mkF m 20 #[.val (.ref a), .val (.int (1 : Int32))] [(.int (0 : Int32)), (.ref a), (.int (0 : Int32)), (.ref b1), (.ref b1)])
  refine Go.caload X1 hx hZ e1 (VA.ext E1) ⟨by decide, by decide⟩ (v := (.int c0)) rfl (hb hby own_p1_d20) ?_
  show Go p e below _ T1 (mkF m 21 #[.val (.ref a), .val (.int (1 : Int32))] [(.int c0), (.int (0 : Int32)), (.ref b1), (.ref b1)])
  refine Go.castore X1 hx hZ e1 V1 ⟨by decide, by decide⟩ 0 rfl (Nat.le_of_ble_eq_true rfl) (hb hby own_p1_d21) fun T2 h2 X2 e2 W2 V2 => ?_
  have sz2 : n0 ≤ h2.size := Nat.le_trans sz1 (Keep.of_wr W2).1
  have kp2 : Keep h0 h2 [] := kp1.wr W2 (Or.inr hs_b1)
  have N2 := Fr.snoc X2 (Fr.nil n0) ge_b1
  have V2 : Arv Z h2 b1 k1 .char (1 : Int32) [(.int (nar .char c0))] (.int (0 : Int32)) := V2
  show Go p e below _ T2 (mkF m 22 #[.val (.ref a), .val (.int (1 : Int32))] [(.ref b1)])
  exact Go.retA X2 hx hlk hret rfl rfl rfl (hb hby own_p1_d22) (by decide) (by decide) (by rw [e2]; exact ⟨b1, k1, rfl, N2, kp2, hs_b1, V2⟩)
theorem own_p2_d0 : decode method_2_code 0 = .ok (.iload_n 1, 1) := by decide +kernel
theorem own_p2_d1 : decode method_2_code 1 = .ok (.ifCond .ne 7, 3) := by decide +kernel
theorem own_p2_d8 : decode method_2_code 8 = .ok (.iload_n 1, 1) := by decide +kernel
theorem own_p2_d9 : decode method_2_code 9 = .ok (.iconst 1, 1) := by decide +kernel
theorem own_p2_d10 : decode method_2_code 10 = .ok (.if_icmp .ne 13, 3) := by decide +kernel
theorem own_p2_d23 : decode method_2_code 23 = .ok (.iload_n 1, 1) := by decide +kernel
theorem own_p2_d24 : decode method_2_code 24 = .ok (.iconst 2, 1) := by decide +kernel
theorem own_p2_d25 : decode method_2_code 25 = .ok (.if_icmp .ne 19, 3) := by decide +kernel
theorem own_p2_d28 : decode method_2_code 28 = .ok (.iconst 2, 1) := by decide +kernel
theorem own_p2_d29 : decode method_2_code 29 = .ok (.newarray .char, 2) := by decide +kernel
theorem own_p2_d31 : decode method_2_code 31 = .ok (.dup, 1) := by decide +kernel
theorem own_p2_d32 : decode method_2_code 32 = .ok (.iconst 0, 1) := by decide +kernel
theorem own_p2_d33 : decode method_2_code 33 = .ok (.aload_n 0, 1) := by decide +kernel
theorem own_p2_d34 : decode method_2_code 34 = .ok (.iconst 0, 1) := by decide +kernel
theorem own_p2_d35 : decode method_2_code 35 = .ok (.caload, 1) := by decide +kernel
theorem own_p2_d36 : decode method_2_code 36 = .ok (.castore, 1) := by decide +kernel
theorem own_p2_d37 : decode method_2_code 37 = .ok (.dup, 1) := by decide +kernel
theorem own_p2_d38 : decode method_2_code 38 = .ok (.iconst 1, 1) := by decide +kernel
theorem own_p2_d39 : decode method_2_code 39 = .ok (.aload_n 0, 1) := by decide +kernel
theorem own_p2_d40 : decode method_2_code 40 = .ok (.iconst 1, 1) := by decide +kernel
theorem own_p2_d41 : decode method_2_code 41 = .ok (.caload, 1) := by decide +kernel
theorem own_p2_d42 : decode method_2_code 42 = .ok (.castore, 1) := by decide +kernel
theorem own_p2_d43 : decode method_2_code 43 = .ok (.areturn, 1) := by decide +kernel
abbrev own_rmP2_Q (Z : State) (a : Addr) (ka : ClassId) (c0 c1 c2 c3 c4 c5 : Int32) (n0 : Nat) (h0 : Heap) : Option Value → Heap → List Loc → Prop := fun v h L => ∃ b k, v = some (.ref b) ∧ Fr n0 L ∧ Keep h0 h [] ∧ h0.size ≤ b ∧ Arv Z h b k .char 2 [.int (nar .char c0), .int (nar .char c1)] (.int 0)
set_option maxRecDepth 65536 in
set_option maxHeartbeats 40000000 in
theorem own_rmP2 (l : Launch) (Z : State) (a0 : Array Value) (hw : ∀ d ∈ tables_1, d.before a0 Z = true) (a : Addr) (ka : ClassId) (c0 c1 c2 c3 c4 c5 : Int32) (n0 : Nat) (h0 : Heap) (Z0 : n0 ≤ h0.size) (VA : Arv Z h0 a ka .char 6 [.int c0, .int c1, .int c2, .int c3, .int c4, .int c5] (.int 0)) :
    MetFree l (⟨"com/example/vestry/vestry/engine/SexNamedPinLaw", "prefix", "([CI)[C"⟩ : MethodName) (head1 [Jvm.Cond.code (⟨"com/example/vestry/vestry/engine/SexNamedPinLaw", "prefix", "([CI)[C"⟩ : MethodName) method_2_code 2 (some (.array .char))] ({ frames := 0, cells := 1, slots := 2, locals := 0 } : Room)) (fun aa U => aa = #[(.ref a), (.int (2 : Int32))] ∧ Z.Warmed39 U.vm ∧ U.heap = h0) (fun _ _ _ _ _ => True) (fun _ U o U' => ∃ v L, o = .returned v ∧ ((own_rmP2_Q Z a ka c0 c1 c2 c3 c4 c5 n0 h0)) v U'.heap L ∧ FrameEnd U o U' L ({ frames := 0, cells := 1, slots := 2, locals := 0 } : Room).cells ({ frames := 0, cells := 1, slots := 2, locals := 0 } : Room).slots) := by
  refine goBody (y := (⟨"com/example/vestry/vestry/engine/SexNamedPinLaw", "prefix", "([CI)[C"⟩ : MethodName)) (Q := (own_rmP2_Q Z a ka c0 c1 c2 c3 c4 c5 n0 h0)) (plainFor_of_name (by first | (simp [plainName, overriddenIn]; done) | decide +kernel)) ?_
  intro p e s m below meth c T0 hx hZ hby hml hown hnm hret hlk X0 e0
  have hown : s.vm.findClass "com/example/vestry/vestry/engine/SexNamedPinLaw" = some m.cls := hown
  refine Go.cast (g' := mkF m 0 #[.val (.ref a), .val (.int (2 : Int32))] []) (by first | (simp [entryFrame, mkF, argsToLocals, Value.category]; done) | rfl) ?_
  show Go p e below _ T0 (mkF m 0 #[.val (.ref a), .val (.int (2 : Int32))] [])
  refine Go.of (fun _ kz => XS.iloadN X0.here hx rfl (hb hby own_p2_d0) rfl kz) ?_
  show Go p e below _ T0 (mkF m 1 #[.val (.ref a), .val (.int (2 : Int32))] [(.int (2 : Int32))])
  refine Go.of (fun _ kz => XS.ifYes X0.here hx rfl (pc0 := 1) (pc' := 8) rfl (hb hby own_p2_d1) rfl ((if0 _ _).trans (feq (by decide : ¬ ((2 : Int32) = (0 : Int32)))).2) (by decide) (by decide) kz) ?_
  show Go p e below _ T0 (mkF m 8 #[.val (.ref a), .val (.int (2 : Int32))] [])
  refine Go.of (fun _ kz => XS.iloadN X0.here hx rfl (hb hby own_p2_d8) rfl kz) ?_
  show Go p e below _ T0 (mkF m 9 #[.val (.ref a), .val (.int (2 : Int32))] [(.int (2 : Int32))])
  refine Go.of (fun _ kz => XS.iconst X0.here hx rfl (hb hby own_p2_d9) kz) ?_
  show Go p e below _ T0 (mkF m 10 #[.val (.ref a), .val (.int (2 : Int32))] [(.int (1 : Int32)), (.int (2 : Int32))])
  refine Go.of (fun _ kz => XS.icmpYes X0.here hx rfl (pc0 := 10) (pc' := 23) rfl (hb hby own_p2_d10) rfl (feq (by decide : ¬ ((2 : Int32) = (1 : Int32)))).2 (by decide) (by decide) kz) ?_
  show Go p e below _ T0 (mkF m 23 #[.val (.ref a), .val (.int (2 : Int32))] [])
  refine Go.of (fun _ kz => XS.iloadN X0.here hx rfl (hb hby own_p2_d23) rfl kz) ?_
  show Go p e below _ T0 (mkF m 24 #[.val (.ref a), .val (.int (2 : Int32))] [(.int (2 : Int32))])
  refine Go.of (fun _ kz => XS.iconst X0.here hx rfl (hb hby own_p2_d24) kz) ?_
  show Go p e below _ T0 (mkF m 25 #[.val (.ref a), .val (.int (2 : Int32))] [(.int (2 : Int32)), (.int (2 : Int32))])
  refine Go.of (fun _ kz => XS.icmpNo X0.here hx rfl (hb hby own_p2_d25) rfl (teq (by decide : (2 : Int32) = (2 : Int32))).2 kz) ?_
  show Go p e below _ T0 (mkF m 28 #[.val (.ref a), .val (.int (2 : Int32))] [])
  refine Go.of (fun _ kz => XS.iconst X0.here hx rfl (hb hby own_p2_d28) kz) ?_
  show Go p e below _ T0 (mkF m 29 #[.val (.ref a), .val (.int (2 : Int32))] [(.int (2 : Int32))])
  refine Go.newarr X0 hx hZ (hw _ (List.mem_of_getElem? (i := 0) rfl)) e0 2 (by decide) (by decide) (by decide) (by decide) (by decide) (hb hby own_p2_d29) fun T1 h1 b1 k1 g1 X1 e1 E1 V1 => ?_
  have lt_a_b1 : a < b1 := Nat.lt_of_lt_of_le VA.lt (Nat.le_of_eq g1.symm)
  have ge_b1 : n0 ≤ b1 := g1 ▸ Z0
  have hs_b1 : h0.size ≤ b1 := g1 ▸ (Keep.refl h0 []).1
  have sz1 : n0 ≤ h1.size := Nat.le_trans Z0 E1.1
  have kp1 : Keep h0 h1 [] := (Keep.refl h0 []).ext E1
  have V1 : Arv Z h1 b1 k1 .char (2 : Int32) [(.int (0 : Int32)), (.int (0 : Int32))] (.int (0 : Int32)) := V1
  show Go p e below _ T1 (mkF m 31 #[.val (.ref a), .val (.int (2 : Int32))] [(.ref b1)])
  refine Go.of (fun _ kz => XS.dup X1.here hx rfl (hb hby own_p2_d31) rfl rfl kz) ?_
  show Go p e below _ T1 (mkF m 32 #[.val (.ref a), .val (.int (2 : Int32))] [(.ref b1), (.ref b1)])
  refine Go.of (fun _ kz => XS.iconst X1.here hx rfl (hb hby own_p2_d32) kz) ?_
  show Go p e below _ T1 (mkF m 33 #[.val (.ref a), .val (.int (2 : Int32))] [(.int (0 : Int32)), (.ref b1), (.ref b1)])
  refine Go.of (fun _ kz => XS.aloadN X1.here hx rfl (hb hby own_p2_d33) rfl rfl kz) ?_
  show Go p e below _ T1 (mkF m 34 #[.val (.ref a), .val (.int (2 : Int32))] [(.ref a), (.int (0 : Int32)), (.ref b1), (.ref b1)])
  refine Go.of (fun _ kz => XS.iconst X1.here hx rfl (hb hby own_p2_d34) kz) ?_
  show Go p e below _ T1 (mkF m 35 #[.val (.ref a), .val (.int (2 : Int32))] [(.int (0 : Int32)), (.ref a), (.int (0 : Int32)), (.ref b1), (.ref b1)])
  refine Go.caload X1 hx hZ e1 (VA.ext E1) ⟨by decide, by decide⟩ (v := (.int c0)) rfl (hb hby own_p2_d35) ?_
  show Go p e below _ T1 (mkF m 36 #[.val (.ref a), .val (.int (2 : Int32))] [(.int c0), (.int (0 : Int32)), (.ref b1), (.ref b1)])
  refine Go.castore X1 hx hZ e1 V1 ⟨by decide, by decide⟩ 0 rfl (Nat.le_of_ble_eq_true rfl) (hb hby own_p2_d36) fun T2 h2 X2 e2 W2 V2 => ?_
  have sz2 : n0 ≤ h2.size := Nat.le_trans sz1 (Keep.of_wr W2).1
  have kp2 : Keep h0 h2 [] := kp1.wr W2 (Or.inr hs_b1)
  have N2 := Fr.snoc X2 (Fr.nil n0) ge_b1
  have V2 : Arv Z h2 b1 k1 .char (2 : Int32) [(.int (nar .char c0)), (.int (0 : Int32))] (.int (0 : Int32)) := V2
  show Go p e below _ T2 (mkF m 37 #[.val (.ref a), .val (.int (2 : Int32))] [(.ref b1)])
  refine Go.of (fun _ kz => XS.dup X2.here hx rfl (hb hby own_p2_d37) rfl rfl kz) ?_
  show Go p e below _ T2 (mkF m 38 #[.val (.ref a), .val (.int (2 : Int32))] [(.ref b1), (.ref b1)])
  refine Go.of (fun _ kz => XS.iconst X2.here hx rfl (hb hby own_p2_d38) kz) ?_
  show Go p e below _ T2 (mkF m 39 #[.val (.ref a), .val (.int (2 : Int32))] [(.int (1 : Int32)), (.ref b1), (.ref b1)])
  refine Go.of (fun _ kz => XS.aloadN X2.here hx rfl (hb hby own_p2_d39) rfl rfl kz) ?_
  show Go p e below _ T2 (mkF m 40 #[.val (.ref a), .val (.int (2 : Int32))] [(.ref a), (.int (1 : Int32)), (.ref b1), (.ref b1)])
  refine Go.of (fun _ kz => XS.iconst X2.here hx rfl (hb hby own_p2_d40) kz) ?_
  show Go p e below _ T2 (mkF m 41 #[.val (.ref a), .val (.int (2 : Int32))] [(.int (1 : Int32)), (.ref a), (.int (1 : Int32)), (.ref b1), (.ref b1)])
  refine Go.caload X2 hx hZ e2 ((VA.ext E1).other W2 (Nat.ne_of_lt lt_a_b1)) ⟨by decide, by decide⟩ (v := (.int c1)) rfl (hb hby own_p2_d41) ?_
  show Go p e below _ T2 (mkF m 42 #[.val (.ref a), .val (.int (2 : Int32))] [(.int c1), (.int (1 : Int32)), (.ref b1), (.ref b1)])
  refine Go.castore X2 hx hZ e2 V2 ⟨by decide, by decide⟩ 1 rfl (Nat.le_of_ble_eq_true rfl) (hb hby own_p2_d42) fun T3 h3 X3 e3 W3 V3 => ?_
  have sz3 : n0 ≤ h3.size := Nat.le_trans sz2 (Keep.of_wr W3).1
  have kp3 : Keep h0 h3 [] := kp2.wr W3 (Or.inr hs_b1)
  have N3 := Fr.snoc X3 N2 ge_b1
  have V3 : Arv Z h3 b1 k1 .char (2 : Int32) [(.int (nar .char c0)), (.int (nar .char c1))] (.int (0 : Int32)) := V3
  show Go p e below _ T3 (mkF m 43 #[.val (.ref a), .val (.int (2 : Int32))] [(.ref b1)])
  exact Go.retA X3 hx hlk hret rfl rfl rfl (hb hby own_p2_d43) (by decide) (by decide) (by rw [e3]; exact ⟨b1, k1, rfl, N3, kp3, hs_b1, V3⟩)
theorem own_p3_d0 : decode method_2_code 0 = .ok (.iload_n 1, 1) := by decide +kernel
theorem own_p3_d1 : decode method_2_code 1 = .ok (.ifCond .ne 7, 3) := by decide +kernel
theorem own_p3_d8 : decode method_2_code 8 = .ok (.iload_n 1, 1) := by decide +kernel
theorem own_p3_d9 : decode method_2_code 9 = .ok (.iconst 1, 1) := by decide +kernel
theorem own_p3_d10 : decode method_2_code 10 = .ok (.if_icmp .ne 13, 3) := by decide +kernel
theorem own_p3_d23 : decode method_2_code 23 = .ok (.iload_n 1, 1) := by decide +kernel
theorem own_p3_d24 : decode method_2_code 24 = .ok (.iconst 2, 1) := by decide +kernel
theorem own_p3_d25 : decode method_2_code 25 = .ok (.if_icmp .ne 19, 3) := by decide +kernel
theorem own_p3_d44 : decode method_2_code 44 = .ok (.iload_n 1, 1) := by decide +kernel
theorem own_p3_d45 : decode method_2_code 45 = .ok (.iconst 3, 1) := by decide +kernel
theorem own_p3_d46 : decode method_2_code 46 = .ok (.if_icmp .ne 25, 3) := by decide +kernel
theorem own_p3_d49 : decode method_2_code 49 = .ok (.iconst 3, 1) := by decide +kernel
theorem own_p3_d50 : decode method_2_code 50 = .ok (.newarray .char, 2) := by decide +kernel
theorem own_p3_d52 : decode method_2_code 52 = .ok (.dup, 1) := by decide +kernel
theorem own_p3_d53 : decode method_2_code 53 = .ok (.iconst 0, 1) := by decide +kernel
theorem own_p3_d54 : decode method_2_code 54 = .ok (.aload_n 0, 1) := by decide +kernel
theorem own_p3_d55 : decode method_2_code 55 = .ok (.iconst 0, 1) := by decide +kernel
theorem own_p3_d56 : decode method_2_code 56 = .ok (.caload, 1) := by decide +kernel
theorem own_p3_d57 : decode method_2_code 57 = .ok (.castore, 1) := by decide +kernel
theorem own_p3_d58 : decode method_2_code 58 = .ok (.dup, 1) := by decide +kernel
theorem own_p3_d59 : decode method_2_code 59 = .ok (.iconst 1, 1) := by decide +kernel
theorem own_p3_d60 : decode method_2_code 60 = .ok (.aload_n 0, 1) := by decide +kernel
theorem own_p3_d61 : decode method_2_code 61 = .ok (.iconst 1, 1) := by decide +kernel
theorem own_p3_d62 : decode method_2_code 62 = .ok (.caload, 1) := by decide +kernel
theorem own_p3_d63 : decode method_2_code 63 = .ok (.castore, 1) := by decide +kernel
theorem own_p3_d64 : decode method_2_code 64 = .ok (.dup, 1) := by decide +kernel
theorem own_p3_d65 : decode method_2_code 65 = .ok (.iconst 2, 1) := by decide +kernel
theorem own_p3_d66 : decode method_2_code 66 = .ok (.aload_n 0, 1) := by decide +kernel
theorem own_p3_d67 : decode method_2_code 67 = .ok (.iconst 2, 1) := by decide +kernel
theorem own_p3_d68 : decode method_2_code 68 = .ok (.caload, 1) := by decide +kernel
theorem own_p3_d69 : decode method_2_code 69 = .ok (.castore, 1) := by decide +kernel
theorem own_p3_d70 : decode method_2_code 70 = .ok (.areturn, 1) := by decide +kernel
abbrev own_rmP3_Q (Z : State) (a : Addr) (ka : ClassId) (c0 c1 c2 c3 c4 c5 : Int32) (n0 : Nat) (h0 : Heap) : Option Value → Heap → List Loc → Prop := fun v h L => ∃ b k, v = some (.ref b) ∧ Fr n0 L ∧ Keep h0 h [] ∧ h0.size ≤ b ∧ Arv Z h b k .char 3 [.int (nar .char c0), .int (nar .char c1), .int (nar .char c2)] (.int 0)
set_option maxRecDepth 65536 in
set_option maxHeartbeats 40000000 in
theorem own_rmP3 (l : Launch) (Z : State) (a0 : Array Value) (hw : ∀ d ∈ tables_1, d.before a0 Z = true) (a : Addr) (ka : ClassId) (c0 c1 c2 c3 c4 c5 : Int32) (n0 : Nat) (h0 : Heap) (Z0 : n0 ≤ h0.size) (VA : Arv Z h0 a ka .char 6 [.int c0, .int c1, .int c2, .int c3, .int c4, .int c5] (.int 0)) :
    MetFree l (⟨"com/example/vestry/vestry/engine/SexNamedPinLaw", "prefix", "([CI)[C"⟩ : MethodName) (head1 [Jvm.Cond.code (⟨"com/example/vestry/vestry/engine/SexNamedPinLaw", "prefix", "([CI)[C"⟩ : MethodName) method_2_code 2 (some (.array .char))] ({ frames := 0, cells := 1, slots := 3, locals := 0 } : Room)) (fun aa U => aa = #[(.ref a), (.int (3 : Int32))] ∧ Z.Warmed39 U.vm ∧ U.heap = h0) (fun _ _ _ _ _ => True) (fun _ U o U' => ∃ v L, o = .returned v ∧ ((own_rmP3_Q Z a ka c0 c1 c2 c3 c4 c5 n0 h0)) v U'.heap L ∧ FrameEnd U o U' L ({ frames := 0, cells := 1, slots := 3, locals := 0 } : Room).cells ({ frames := 0, cells := 1, slots := 3, locals := 0 } : Room).slots) := by
  refine goBody (y := (⟨"com/example/vestry/vestry/engine/SexNamedPinLaw", "prefix", "([CI)[C"⟩ : MethodName)) (Q := (own_rmP3_Q Z a ka c0 c1 c2 c3 c4 c5 n0 h0)) (plainFor_of_name (by first | (simp [plainName, overriddenIn]; done) | decide +kernel)) ?_
  intro p e s m below meth c T0 hx hZ hby hml hown hnm hret hlk X0 e0
  have hown : s.vm.findClass "com/example/vestry/vestry/engine/SexNamedPinLaw" = some m.cls := hown
  refine Go.cast (g' := mkF m 0 #[.val (.ref a), .val (.int (3 : Int32))] []) (by first | (simp [entryFrame, mkF, argsToLocals, Value.category]; done) | rfl) ?_
  show Go p e below _ T0 (mkF m 0 #[.val (.ref a), .val (.int (3 : Int32))] [])
  refine Go.of (fun _ kz => XS.iloadN X0.here hx rfl (hb hby own_p3_d0) rfl kz) ?_
  show Go p e below _ T0 (mkF m 1 #[.val (.ref a), .val (.int (3 : Int32))] [(.int (3 : Int32))])
  refine Go.of (fun _ kz => XS.ifYes X0.here hx rfl (pc0 := 1) (pc' := 8) rfl (hb hby own_p3_d1) rfl ((if0 _ _).trans (feq (by decide : ¬ ((3 : Int32) = (0 : Int32)))).2) (by decide) (by decide) kz) ?_
  show Go p e below _ T0 (mkF m 8 #[.val (.ref a), .val (.int (3 : Int32))] [])
  refine Go.of (fun _ kz => XS.iloadN X0.here hx rfl (hb hby own_p3_d8) rfl kz) ?_
  show Go p e below _ T0 (mkF m 9 #[.val (.ref a), .val (.int (3 : Int32))] [(.int (3 : Int32))])
  refine Go.of (fun _ kz => XS.iconst X0.here hx rfl (hb hby own_p3_d9) kz) ?_
  show Go p e below _ T0 (mkF m 10 #[.val (.ref a), .val (.int (3 : Int32))] [(.int (1 : Int32)), (.int (3 : Int32))])
  refine Go.of (fun _ kz => XS.icmpYes X0.here hx rfl (pc0 := 10) (pc' := 23) rfl (hb hby own_p3_d10) rfl (feq (by decide : ¬ ((3 : Int32) = (1 : Int32)))).2 (by decide) (by decide) kz) ?_
  show Go p e below _ T0 (mkF m 23 #[.val (.ref a), .val (.int (3 : Int32))] [])
  refine Go.of (fun _ kz => XS.iloadN X0.here hx rfl (hb hby own_p3_d23) rfl kz) ?_
  show Go p e below _ T0 (mkF m 24 #[.val (.ref a), .val (.int (3 : Int32))] [(.int (3 : Int32))])
  refine Go.of (fun _ kz => XS.iconst X0.here hx rfl (hb hby own_p3_d24) kz) ?_
  show Go p e below _ T0 (mkF m 25 #[.val (.ref a), .val (.int (3 : Int32))] [(.int (2 : Int32)), (.int (3 : Int32))])
  refine Go.of (fun _ kz => XS.icmpYes X0.here hx rfl (pc0 := 25) (pc' := 44) rfl (hb hby own_p3_d25) rfl (feq (by decide : ¬ ((3 : Int32) = (2 : Int32)))).2 (by decide) (by decide) kz) ?_
  show Go p e below _ T0 (mkF m 44 #[.val (.ref a), .val (.int (3 : Int32))] [])
  refine Go.of (fun _ kz => XS.iloadN X0.here hx rfl (hb hby own_p3_d44) rfl kz) ?_
  show Go p e below _ T0 (mkF m 45 #[.val (.ref a), .val (.int (3 : Int32))] [(.int (3 : Int32))])
  refine Go.of (fun _ kz => XS.iconst X0.here hx rfl (hb hby own_p3_d45) kz) ?_
  show Go p e below _ T0 (mkF m 46 #[.val (.ref a), .val (.int (3 : Int32))] [(.int (3 : Int32)), (.int (3 : Int32))])
  refine Go.of (fun _ kz => XS.icmpNo X0.here hx rfl (hb hby own_p3_d46) rfl (teq (by decide : (3 : Int32) = (3 : Int32))).2 kz) ?_
  show Go p e below _ T0 (mkF m 49 #[.val (.ref a), .val (.int (3 : Int32))] [])
  refine Go.of (fun _ kz => XS.iconst X0.here hx rfl (hb hby own_p3_d49) kz) ?_
  show Go p e below _ T0 (mkF m 50 #[.val (.ref a), .val (.int (3 : Int32))] [(.int (3 : Int32))])
  refine Go.newarr X0 hx hZ (hw _ (List.mem_of_getElem? (i := 0) rfl)) e0 3 (by decide) (by decide) (by decide) (by decide) (by decide) (hb hby own_p3_d50) fun T1 h1 b1 k1 g1 X1 e1 E1 V1 => ?_
  have lt_a_b1 : a < b1 := Nat.lt_of_lt_of_le VA.lt (Nat.le_of_eq g1.symm)
  have ge_b1 : n0 ≤ b1 := g1 ▸ Z0
  have hs_b1 : h0.size ≤ b1 := g1 ▸ (Keep.refl h0 []).1
  have sz1 : n0 ≤ h1.size := Nat.le_trans Z0 E1.1
  have kp1 : Keep h0 h1 [] := (Keep.refl h0 []).ext E1
  have V1 : Arv Z h1 b1 k1 .char (3 : Int32) [(.int (0 : Int32)), (.int (0 : Int32)), (.int (0 : Int32))] (.int (0 : Int32)) := V1
  show Go p e below _ T1 (mkF m 52 #[.val (.ref a), .val (.int (3 : Int32))] [(.ref b1)])
  refine Go.of (fun _ kz => XS.dup X1.here hx rfl (hb hby own_p3_d52) rfl rfl kz) ?_
  show Go p e below _ T1 (mkF m 53 #[.val (.ref a), .val (.int (3 : Int32))] [(.ref b1), (.ref b1)])
  refine Go.of (fun _ kz => XS.iconst X1.here hx rfl (hb hby own_p3_d53) kz) ?_
  show Go p e below _ T1 (mkF m 54 #[.val (.ref a), .val (.int (3 : Int32))] [(.int (0 : Int32)), (.ref b1), (.ref b1)])
  refine Go.of (fun _ kz => XS.aloadN X1.here hx rfl (hb hby own_p3_d54) rfl rfl kz) ?_
  show Go p e below _ T1 (mkF m 55 #[.val (.ref a), .val (.int (3 : Int32))] [(.ref a), (.int (0 : Int32)), (.ref b1), (.ref b1)])
  refine Go.of (fun _ kz => XS.iconst X1.here hx rfl (hb hby own_p3_d55) kz) ?_
  show Go p e below _ T1 (mkF m 56 #[.val (.ref a), .val (.int (3 : Int32))] [(.int (0 : Int32)), (.ref a), (.int (0 : Int32)), (.ref b1), (.ref b1)])
  refine Go.caload X1 hx hZ e1 (VA.ext E1) ⟨by decide, by decide⟩ (v := (.int c0)) rfl (hb hby own_p3_d56) ?_
  show Go p e below _ T1 (mkF m 57 #[.val (.ref a), .val (.int (3 : Int32))] [(.int c0), (.int (0 : Int32)), (.ref b1), (.ref b1)])
  refine Go.castore X1 hx hZ e1 V1 ⟨by decide, by decide⟩ 0 rfl (Nat.le_of_ble_eq_true rfl) (hb hby own_p3_d57) fun T2 h2 X2 e2 W2 V2 => ?_
  have sz2 : n0 ≤ h2.size := Nat.le_trans sz1 (Keep.of_wr W2).1
  have kp2 : Keep h0 h2 [] := kp1.wr W2 (Or.inr hs_b1)
  have N2 := Fr.snoc X2 (Fr.nil n0) ge_b1
  have V2 : Arv Z h2 b1 k1 .char (3 : Int32) [(.int (nar .char c0)), (.int (0 : Int32)), (.int (0 : Int32))] (.int (0 : Int32)) := V2
  show Go p e below _ T2 (mkF m 58 #[.val (.ref a), .val (.int (3 : Int32))] [(.ref b1)])
  refine Go.of (fun _ kz => XS.dup X2.here hx rfl (hb hby own_p3_d58) rfl rfl kz) ?_
  show Go p e below _ T2 (mkF m 59 #[.val (.ref a), .val (.int (3 : Int32))] [(.ref b1), (.ref b1)])
  refine Go.of (fun _ kz => XS.iconst X2.here hx rfl (hb hby own_p3_d59) kz) ?_
  show Go p e below _ T2 (mkF m 60 #[.val (.ref a), .val (.int (3 : Int32))] [(.int (1 : Int32)), (.ref b1), (.ref b1)])
  refine Go.of (fun _ kz => XS.aloadN X2.here hx rfl (hb hby own_p3_d60) rfl rfl kz) ?_
  show Go p e below _ T2 (mkF m 61 #[.val (.ref a), .val (.int (3 : Int32))] [(.ref a), (.int (1 : Int32)), (.ref b1), (.ref b1)])
  refine Go.of (fun _ kz => XS.iconst X2.here hx rfl (hb hby own_p3_d61) kz) ?_
  show Go p e below _ T2 (mkF m 62 #[.val (.ref a), .val (.int (3 : Int32))] [(.int (1 : Int32)), (.ref a), (.int (1 : Int32)), (.ref b1), (.ref b1)])
  refine Go.caload X2 hx hZ e2 ((VA.ext E1).other W2 (Nat.ne_of_lt lt_a_b1)) ⟨by decide, by decide⟩ (v := (.int c1)) rfl (hb hby own_p3_d62) ?_
  show Go p e below _ T2 (mkF m 63 #[.val (.ref a), .val (.int (3 : Int32))] [(.int c1), (.int (1 : Int32)), (.ref b1), (.ref b1)])
  refine Go.castore X2 hx hZ e2 V2 ⟨by decide, by decide⟩ 1 rfl (Nat.le_of_ble_eq_true rfl) (hb hby own_p3_d63) fun T3 h3 X3 e3 W3 V3 => ?_
  have sz3 : n0 ≤ h3.size := Nat.le_trans sz2 (Keep.of_wr W3).1
  have kp3 : Keep h0 h3 [] := kp2.wr W3 (Or.inr hs_b1)
  have N3 := Fr.snoc X3 N2 ge_b1
  have V3 : Arv Z h3 b1 k1 .char (3 : Int32) [(.int (nar .char c0)), (.int (nar .char c1)), (.int (0 : Int32))] (.int (0 : Int32)) := V3
  show Go p e below _ T3 (mkF m 64 #[.val (.ref a), .val (.int (3 : Int32))] [(.ref b1)])
  refine Go.of (fun _ kz => XS.dup X3.here hx rfl (hb hby own_p3_d64) rfl rfl kz) ?_
  show Go p e below _ T3 (mkF m 65 #[.val (.ref a), .val (.int (3 : Int32))] [(.ref b1), (.ref b1)])
  refine Go.of (fun _ kz => XS.iconst X3.here hx rfl (hb hby own_p3_d65) kz) ?_
  show Go p e below _ T3 (mkF m 66 #[.val (.ref a), .val (.int (3 : Int32))] [(.int (2 : Int32)), (.ref b1), (.ref b1)])
  refine Go.of (fun _ kz => XS.aloadN X3.here hx rfl (hb hby own_p3_d66) rfl rfl kz) ?_
  show Go p e below _ T3 (mkF m 67 #[.val (.ref a), .val (.int (3 : Int32))] [(.ref a), (.int (2 : Int32)), (.ref b1), (.ref b1)])
  refine Go.of (fun _ kz => XS.iconst X3.here hx rfl (hb hby own_p3_d67) kz) ?_
  show Go p e below _ T3 (mkF m 68 #[.val (.ref a), .val (.int (3 : Int32))] [(.int (2 : Int32)), (.ref a), (.int (2 : Int32)), (.ref b1), (.ref b1)])
  refine Go.caload X3 hx hZ e3 (((VA.ext E1).other W2 (Nat.ne_of_lt lt_a_b1)).other W3 (Nat.ne_of_lt lt_a_b1)) ⟨by decide, by decide⟩ (v := (.int c2)) rfl (hb hby own_p3_d68) ?_
  show Go p e below _ T3 (mkF m 69 #[.val (.ref a), .val (.int (3 : Int32))] [(.int c2), (.int (2 : Int32)), (.ref b1), (.ref b1)])
  refine Go.castore X3 hx hZ e3 V3 ⟨by decide, by decide⟩ 2 rfl (Nat.le_of_ble_eq_true rfl) (hb hby own_p3_d69) fun T4 h4 X4 e4 W4 V4 => ?_
  have sz4 : n0 ≤ h4.size := Nat.le_trans sz3 (Keep.of_wr W4).1
  have kp4 : Keep h0 h4 [] := kp3.wr W4 (Or.inr hs_b1)
  have N4 := Fr.snoc X4 N3 ge_b1
  have V4 : Arv Z h4 b1 k1 .char (3 : Int32) [(.int (nar .char c0)), (.int (nar .char c1)), (.int (nar .char c2))] (.int (0 : Int32)) := V4
  show Go p e below _ T4 (mkF m 70 #[.val (.ref a), .val (.int (3 : Int32))] [(.ref b1)])
  exact Go.retA X4 hx hlk hret rfl rfl rfl (hb hby own_p3_d70) (by decide) (by decide) (by rw [e4]; exact ⟨b1, k1, rfl, N4, kp4, hs_b1, V4⟩)
theorem own_p4_d0 : decode method_2_code 0 = .ok (.iload_n 1, 1) := by decide +kernel
theorem own_p4_d1 : decode method_2_code 1 = .ok (.ifCond .ne 7, 3) := by decide +kernel
theorem own_p4_d8 : decode method_2_code 8 = .ok (.iload_n 1, 1) := by decide +kernel
theorem own_p4_d9 : decode method_2_code 9 = .ok (.iconst 1, 1) := by decide +kernel
theorem own_p4_d10 : decode method_2_code 10 = .ok (.if_icmp .ne 13, 3) := by decide +kernel
theorem own_p4_d23 : decode method_2_code 23 = .ok (.iload_n 1, 1) := by decide +kernel
theorem own_p4_d24 : decode method_2_code 24 = .ok (.iconst 2, 1) := by decide +kernel
theorem own_p4_d25 : decode method_2_code 25 = .ok (.if_icmp .ne 19, 3) := by decide +kernel
theorem own_p4_d44 : decode method_2_code 44 = .ok (.iload_n 1, 1) := by decide +kernel
theorem own_p4_d45 : decode method_2_code 45 = .ok (.iconst 3, 1) := by decide +kernel
theorem own_p4_d46 : decode method_2_code 46 = .ok (.if_icmp .ne 25, 3) := by decide +kernel
theorem own_p4_d71 : decode method_2_code 71 = .ok (.iload_n 1, 1) := by decide +kernel
theorem own_p4_d72 : decode method_2_code 72 = .ok (.iconst 4, 1) := by decide +kernel
theorem own_p4_d73 : decode method_2_code 73 = .ok (.if_icmp .ne 31, 3) := by decide +kernel
theorem own_p4_d76 : decode method_2_code 76 = .ok (.iconst 4, 1) := by decide +kernel
theorem own_p4_d77 : decode method_2_code 77 = .ok (.newarray .char, 2) := by decide +kernel
theorem own_p4_d79 : decode method_2_code 79 = .ok (.dup, 1) := by decide +kernel
theorem own_p4_d80 : decode method_2_code 80 = .ok (.iconst 0, 1) := by decide +kernel
theorem own_p4_d81 : decode method_2_code 81 = .ok (.aload_n 0, 1) := by decide +kernel
theorem own_p4_d82 : decode method_2_code 82 = .ok (.iconst 0, 1) := by decide +kernel
theorem own_p4_d83 : decode method_2_code 83 = .ok (.caload, 1) := by decide +kernel
theorem own_p4_d84 : decode method_2_code 84 = .ok (.castore, 1) := by decide +kernel
theorem own_p4_d85 : decode method_2_code 85 = .ok (.dup, 1) := by decide +kernel
theorem own_p4_d86 : decode method_2_code 86 = .ok (.iconst 1, 1) := by decide +kernel
theorem own_p4_d87 : decode method_2_code 87 = .ok (.aload_n 0, 1) := by decide +kernel
theorem own_p4_d88 : decode method_2_code 88 = .ok (.iconst 1, 1) := by decide +kernel
theorem own_p4_d89 : decode method_2_code 89 = .ok (.caload, 1) := by decide +kernel
theorem own_p4_d90 : decode method_2_code 90 = .ok (.castore, 1) := by decide +kernel
theorem own_p4_d91 : decode method_2_code 91 = .ok (.dup, 1) := by decide +kernel
theorem own_p4_d92 : decode method_2_code 92 = .ok (.iconst 2, 1) := by decide +kernel
theorem own_p4_d93 : decode method_2_code 93 = .ok (.aload_n 0, 1) := by decide +kernel
theorem own_p4_d94 : decode method_2_code 94 = .ok (.iconst 2, 1) := by decide +kernel
theorem own_p4_d95 : decode method_2_code 95 = .ok (.caload, 1) := by decide +kernel
theorem own_p4_d96 : decode method_2_code 96 = .ok (.castore, 1) := by decide +kernel
theorem own_p4_d97 : decode method_2_code 97 = .ok (.dup, 1) := by decide +kernel
theorem own_p4_d98 : decode method_2_code 98 = .ok (.iconst 3, 1) := by decide +kernel
theorem own_p4_d99 : decode method_2_code 99 = .ok (.aload_n 0, 1) := by decide +kernel
theorem own_p4_d100 : decode method_2_code 100 = .ok (.iconst 3, 1) := by decide +kernel
theorem own_p4_d101 : decode method_2_code 101 = .ok (.caload, 1) := by decide +kernel
theorem own_p4_d102 : decode method_2_code 102 = .ok (.castore, 1) := by decide +kernel
theorem own_p4_d103 : decode method_2_code 103 = .ok (.areturn, 1) := by decide +kernel
abbrev own_rmP4_Q (Z : State) (a : Addr) (ka : ClassId) (c0 c1 c2 c3 c4 c5 : Int32) (n0 : Nat) (h0 : Heap) : Option Value → Heap → List Loc → Prop := fun v h L => ∃ b k, v = some (.ref b) ∧ Fr n0 L ∧ Keep h0 h [] ∧ h0.size ≤ b ∧ Arv Z h b k .char 4 [.int (nar .char c0), .int (nar .char c1), .int (nar .char c2), .int (nar .char c3)] (.int 0)
set_option maxRecDepth 65536 in
set_option maxHeartbeats 40000000 in
theorem own_rmP4 (l : Launch) (Z : State) (a0 : Array Value) (hw : ∀ d ∈ tables_1, d.before a0 Z = true) (a : Addr) (ka : ClassId) (c0 c1 c2 c3 c4 c5 : Int32) (n0 : Nat) (h0 : Heap) (Z0 : n0 ≤ h0.size) (VA : Arv Z h0 a ka .char 6 [.int c0, .int c1, .int c2, .int c3, .int c4, .int c5] (.int 0)) :
    MetFree l (⟨"com/example/vestry/vestry/engine/SexNamedPinLaw", "prefix", "([CI)[C"⟩ : MethodName) (head1 [Jvm.Cond.code (⟨"com/example/vestry/vestry/engine/SexNamedPinLaw", "prefix", "([CI)[C"⟩ : MethodName) method_2_code 2 (some (.array .char))] ({ frames := 0, cells := 1, slots := 4, locals := 0 } : Room)) (fun aa U => aa = #[(.ref a), (.int (4 : Int32))] ∧ Z.Warmed39 U.vm ∧ U.heap = h0) (fun _ _ _ _ _ => True) (fun _ U o U' => ∃ v L, o = .returned v ∧ ((own_rmP4_Q Z a ka c0 c1 c2 c3 c4 c5 n0 h0)) v U'.heap L ∧ FrameEnd U o U' L ({ frames := 0, cells := 1, slots := 4, locals := 0 } : Room).cells ({ frames := 0, cells := 1, slots := 4, locals := 0 } : Room).slots) := by
  refine goBody (y := (⟨"com/example/vestry/vestry/engine/SexNamedPinLaw", "prefix", "([CI)[C"⟩ : MethodName)) (Q := (own_rmP4_Q Z a ka c0 c1 c2 c3 c4 c5 n0 h0)) (plainFor_of_name (by first | (simp [plainName, overriddenIn]; done) | decide +kernel)) ?_
  intro p e s m below meth c T0 hx hZ hby hml hown hnm hret hlk X0 e0
  have hown : s.vm.findClass "com/example/vestry/vestry/engine/SexNamedPinLaw" = some m.cls := hown
  refine Go.cast (g' := mkF m 0 #[.val (.ref a), .val (.int (4 : Int32))] []) (by first | (simp [entryFrame, mkF, argsToLocals, Value.category]; done) | rfl) ?_
  show Go p e below _ T0 (mkF m 0 #[.val (.ref a), .val (.int (4 : Int32))] [])
  refine Go.of (fun _ kz => XS.iloadN X0.here hx rfl (hb hby own_p4_d0) rfl kz) ?_
  show Go p e below _ T0 (mkF m 1 #[.val (.ref a), .val (.int (4 : Int32))] [(.int (4 : Int32))])
  refine Go.of (fun _ kz => XS.ifYes X0.here hx rfl (pc0 := 1) (pc' := 8) rfl (hb hby own_p4_d1) rfl ((if0 _ _).trans (feq (by decide : ¬ ((4 : Int32) = (0 : Int32)))).2) (by decide) (by decide) kz) ?_
  show Go p e below _ T0 (mkF m 8 #[.val (.ref a), .val (.int (4 : Int32))] [])
  refine Go.of (fun _ kz => XS.iloadN X0.here hx rfl (hb hby own_p4_d8) rfl kz) ?_
  show Go p e below _ T0 (mkF m 9 #[.val (.ref a), .val (.int (4 : Int32))] [(.int (4 : Int32))])
  refine Go.of (fun _ kz => XS.iconst X0.here hx rfl (hb hby own_p4_d9) kz) ?_
  show Go p e below _ T0 (mkF m 10 #[.val (.ref a), .val (.int (4 : Int32))] [(.int (1 : Int32)), (.int (4 : Int32))])
  refine Go.of (fun _ kz => XS.icmpYes X0.here hx rfl (pc0 := 10) (pc' := 23) rfl (hb hby own_p4_d10) rfl (feq (by decide : ¬ ((4 : Int32) = (1 : Int32)))).2 (by decide) (by decide) kz) ?_
  show Go p e below _ T0 (mkF m 23 #[.val (.ref a), .val (.int (4 : Int32))] [])
  refine Go.of (fun _ kz => XS.iloadN X0.here hx rfl (hb hby own_p4_d23) rfl kz) ?_
  show Go p e below _ T0 (mkF m 24 #[.val (.ref a), .val (.int (4 : Int32))] [(.int (4 : Int32))])
  refine Go.of (fun _ kz => XS.iconst X0.here hx rfl (hb hby own_p4_d24) kz) ?_
  show Go p e below _ T0 (mkF m 25 #[.val (.ref a), .val (.int (4 : Int32))] [(.int (2 : Int32)), (.int (4 : Int32))])
  refine Go.of (fun _ kz => XS.icmpYes X0.here hx rfl (pc0 := 25) (pc' := 44) rfl (hb hby own_p4_d25) rfl (feq (by decide : ¬ ((4 : Int32) = (2 : Int32)))).2 (by decide) (by decide) kz) ?_
  show Go p e below _ T0 (mkF m 44 #[.val (.ref a), .val (.int (4 : Int32))] [])
  refine Go.of (fun _ kz => XS.iloadN X0.here hx rfl (hb hby own_p4_d44) rfl kz) ?_
  show Go p e below _ T0 (mkF m 45 #[.val (.ref a), .val (.int (4 : Int32))] [(.int (4 : Int32))])
  refine Go.of (fun _ kz => XS.iconst X0.here hx rfl (hb hby own_p4_d45) kz) ?_
  show Go p e below _ T0 (mkF m 46 #[.val (.ref a), .val (.int (4 : Int32))] [(.int (3 : Int32)), (.int (4 : Int32))])
  refine Go.of (fun _ kz => XS.icmpYes X0.here hx rfl (pc0 := 46) (pc' := 71) rfl (hb hby own_p4_d46) rfl (feq (by decide : ¬ ((4 : Int32) = (3 : Int32)))).2 (by decide) (by decide) kz) ?_
  show Go p e below _ T0 (mkF m 71 #[.val (.ref a), .val (.int (4 : Int32))] [])
  refine Go.of (fun _ kz => XS.iloadN X0.here hx rfl (hb hby own_p4_d71) rfl kz) ?_
  show Go p e below _ T0 (mkF m 72 #[.val (.ref a), .val (.int (4 : Int32))] [(.int (4 : Int32))])
  refine Go.of (fun _ kz => XS.iconst X0.here hx rfl (hb hby own_p4_d72) kz) ?_
  show Go p e below _ T0 (mkF m 73 #[.val (.ref a), .val (.int (4 : Int32))] [(.int (4 : Int32)), (.int (4 : Int32))])
  refine Go.of (fun _ kz => XS.icmpNo X0.here hx rfl (hb hby own_p4_d73) rfl (teq (by decide : (4 : Int32) = (4 : Int32))).2 kz) ?_
  show Go p e below _ T0 (mkF m 76 #[.val (.ref a), .val (.int (4 : Int32))] [])
  refine Go.of (fun _ kz => XS.iconst X0.here hx rfl (hb hby own_p4_d76) kz) ?_
  show Go p e below _ T0 (mkF m 77 #[.val (.ref a), .val (.int (4 : Int32))] [(.int (4 : Int32))])
  refine Go.newarr X0 hx hZ (hw _ (List.mem_of_getElem? (i := 0) rfl)) e0 4 (by decide) (by decide) (by decide) (by decide) (by decide) (hb hby own_p4_d77) fun T1 h1 b1 k1 g1 X1 e1 E1 V1 => ?_
  have lt_a_b1 : a < b1 := Nat.lt_of_lt_of_le VA.lt (Nat.le_of_eq g1.symm)
  have ge_b1 : n0 ≤ b1 := g1 ▸ Z0
  have hs_b1 : h0.size ≤ b1 := g1 ▸ (Keep.refl h0 []).1
  have sz1 : n0 ≤ h1.size := Nat.le_trans Z0 E1.1
  have kp1 : Keep h0 h1 [] := (Keep.refl h0 []).ext E1
  have V1 : Arv Z h1 b1 k1 .char (4 : Int32) [(.int (0 : Int32)), (.int (0 : Int32)), (.int (0 : Int32)), (.int (0 : Int32))] (.int (0 : Int32)) := V1
  show Go p e below _ T1 (mkF m 79 #[.val (.ref a), .val (.int (4 : Int32))] [(.ref b1)])
  refine Go.of (fun _ kz => XS.dup X1.here hx rfl (hb hby own_p4_d79) rfl rfl kz) ?_
  show Go p e below _ T1 (mkF m 80 #[.val (.ref a), .val (.int (4 : Int32))] [(.ref b1), (.ref b1)])
  refine Go.of (fun _ kz => XS.iconst X1.here hx rfl (hb hby own_p4_d80) kz) ?_
  show Go p e below _ T1 (mkF m 81 #[.val (.ref a), .val (.int (4 : Int32))] [(.int (0 : Int32)), (.ref b1), (.ref b1)])
  refine Go.of (fun _ kz => XS.aloadN X1.here hx rfl (hb hby own_p4_d81) rfl rfl kz) ?_
  show Go p e below _ T1 (mkF m 82 #[.val (.ref a), .val (.int (4 : Int32))] [(.ref a), (.int (0 : Int32)), (.ref b1), (.ref b1)])
  refine Go.of (fun _ kz => XS.iconst X1.here hx rfl (hb hby own_p4_d82) kz) ?_
  show Go p e below _ T1 (mkF m 83 #[.val (.ref a), .val (.int (4 : Int32))] [(.int (0 : Int32)), (.ref a), (.int (0 : Int32)), (.ref b1), (.ref b1)])
  refine Go.caload X1 hx hZ e1 (VA.ext E1) ⟨by decide, by decide⟩ (v := (.int c0)) rfl (hb hby own_p4_d83) ?_
  show Go p e below _ T1 (mkF m 84 #[.val (.ref a), .val (.int (4 : Int32))] [(.int c0), (.int (0 : Int32)), (.ref b1), (.ref b1)])
  refine Go.castore X1 hx hZ e1 V1 ⟨by decide, by decide⟩ 0 rfl (Nat.le_of_ble_eq_true rfl) (hb hby own_p4_d84) fun T2 h2 X2 e2 W2 V2 => ?_
  have sz2 : n0 ≤ h2.size := Nat.le_trans sz1 (Keep.of_wr W2).1
  have kp2 : Keep h0 h2 [] := kp1.wr W2 (Or.inr hs_b1)
  have N2 := Fr.snoc X2 (Fr.nil n0) ge_b1
  have V2 : Arv Z h2 b1 k1 .char (4 : Int32) [(.int (nar .char c0)), (.int (0 : Int32)), (.int (0 : Int32)), (.int (0 : Int32))] (.int (0 : Int32)) := V2
  show Go p e below _ T2 (mkF m 85 #[.val (.ref a), .val (.int (4 : Int32))] [(.ref b1)])
  refine Go.of (fun _ kz => XS.dup X2.here hx rfl (hb hby own_p4_d85) rfl rfl kz) ?_
  show Go p e below _ T2 (mkF m 86 #[.val (.ref a), .val (.int (4 : Int32))] [(.ref b1), (.ref b1)])
  refine Go.of (fun _ kz => XS.iconst X2.here hx rfl (hb hby own_p4_d86) kz) ?_
  show Go p e below _ T2 (mkF m 87 #[.val (.ref a), .val (.int (4 : Int32))] [(.int (1 : Int32)), (.ref b1), (.ref b1)])
  refine Go.of (fun _ kz => XS.aloadN X2.here hx rfl (hb hby own_p4_d87) rfl rfl kz) ?_
  show Go p e below _ T2 (mkF m 88 #[.val (.ref a), .val (.int (4 : Int32))] [(.ref a), (.int (1 : Int32)), (.ref b1), (.ref b1)])
  refine Go.of (fun _ kz => XS.iconst X2.here hx rfl (hb hby own_p4_d88) kz) ?_
  show Go p e below _ T2 (mkF m 89 #[.val (.ref a), .val (.int (4 : Int32))] [(.int (1 : Int32)), (.ref a), (.int (1 : Int32)), (.ref b1), (.ref b1)])
  refine Go.caload X2 hx hZ e2 ((VA.ext E1).other W2 (Nat.ne_of_lt lt_a_b1)) ⟨by decide, by decide⟩ (v := (.int c1)) rfl (hb hby own_p4_d89) ?_
  show Go p e below _ T2 (mkF m 90 #[.val (.ref a), .val (.int (4 : Int32))] [(.int c1), (.int (1 : Int32)), (.ref b1), (.ref b1)])
  refine Go.castore X2 hx hZ e2 V2 ⟨by decide, by decide⟩ 1 rfl (Nat.le_of_ble_eq_true rfl) (hb hby own_p4_d90) fun T3 h3 X3 e3 W3 V3 => ?_
  have sz3 : n0 ≤ h3.size := Nat.le_trans sz2 (Keep.of_wr W3).1
  have kp3 : Keep h0 h3 [] := kp2.wr W3 (Or.inr hs_b1)
  have N3 := Fr.snoc X3 N2 ge_b1
  have V3 : Arv Z h3 b1 k1 .char (4 : Int32) [(.int (nar .char c0)), (.int (nar .char c1)), (.int (0 : Int32)), (.int (0 : Int32))] (.int (0 : Int32)) := V3
  show Go p e below _ T3 (mkF m 91 #[.val (.ref a), .val (.int (4 : Int32))] [(.ref b1)])
  refine Go.of (fun _ kz => XS.dup X3.here hx rfl (hb hby own_p4_d91) rfl rfl kz) ?_
  show Go p e below _ T3 (mkF m 92 #[.val (.ref a), .val (.int (4 : Int32))] [(.ref b1), (.ref b1)])
  refine Go.of (fun _ kz => XS.iconst X3.here hx rfl (hb hby own_p4_d92) kz) ?_
  show Go p e below _ T3 (mkF m 93 #[.val (.ref a), .val (.int (4 : Int32))] [(.int (2 : Int32)), (.ref b1), (.ref b1)])
  refine Go.of (fun _ kz => XS.aloadN X3.here hx rfl (hb hby own_p4_d93) rfl rfl kz) ?_
  show Go p e below _ T3 (mkF m 94 #[.val (.ref a), .val (.int (4 : Int32))] [(.ref a), (.int (2 : Int32)), (.ref b1), (.ref b1)])
  refine Go.of (fun _ kz => XS.iconst X3.here hx rfl (hb hby own_p4_d94) kz) ?_
  show Go p e below _ T3 (mkF m 95 #[.val (.ref a), .val (.int (4 : Int32))] [(.int (2 : Int32)), (.ref a), (.int (2 : Int32)), (.ref b1), (.ref b1)])
  refine Go.caload X3 hx hZ e3 (((VA.ext E1).other W2 (Nat.ne_of_lt lt_a_b1)).other W3 (Nat.ne_of_lt lt_a_b1)) ⟨by decide, by decide⟩ (v := (.int c2)) rfl (hb hby own_p4_d95) ?_
  show Go p e below _ T3 (mkF m 96 #[.val (.ref a), .val (.int (4 : Int32))] [(.int c2), (.int (2 : Int32)), (.ref b1), (.ref b1)])
  refine Go.castore X3 hx hZ e3 V3 ⟨by decide, by decide⟩ 2 rfl (Nat.le_of_ble_eq_true rfl) (hb hby own_p4_d96) fun T4 h4 X4 e4 W4 V4 => ?_
  have sz4 : n0 ≤ h4.size := Nat.le_trans sz3 (Keep.of_wr W4).1
  have kp4 : Keep h0 h4 [] := kp3.wr W4 (Or.inr hs_b1)
  have N4 := Fr.snoc X4 N3 ge_b1
  have V4 : Arv Z h4 b1 k1 .char (4 : Int32) [(.int (nar .char c0)), (.int (nar .char c1)), (.int (nar .char c2)), (.int (0 : Int32))] (.int (0 : Int32)) := V4
  show Go p e below _ T4 (mkF m 97 #[.val (.ref a), .val (.int (4 : Int32))] [(.ref b1)])
  refine Go.of (fun _ kz => XS.dup X4.here hx rfl (hb hby own_p4_d97) rfl rfl kz) ?_
  show Go p e below _ T4 (mkF m 98 #[.val (.ref a), .val (.int (4 : Int32))] [(.ref b1), (.ref b1)])
  refine Go.of (fun _ kz => XS.iconst X4.here hx rfl (hb hby own_p4_d98) kz) ?_
  show Go p e below _ T4 (mkF m 99 #[.val (.ref a), .val (.int (4 : Int32))] [(.int (3 : Int32)), (.ref b1), (.ref b1)])
  refine Go.of (fun _ kz => XS.aloadN X4.here hx rfl (hb hby own_p4_d99) rfl rfl kz) ?_
  show Go p e below _ T4 (mkF m 100 #[.val (.ref a), .val (.int (4 : Int32))] [(.ref a), (.int (3 : Int32)), (.ref b1), (.ref b1)])
  refine Go.of (fun _ kz => XS.iconst X4.here hx rfl (hb hby own_p4_d100) kz) ?_
  show Go p e below _ T4 (mkF m 101 #[.val (.ref a), .val (.int (4 : Int32))] [(.int (3 : Int32)), (.ref a), (.int (3 : Int32)), (.ref b1), (.ref b1)])
  refine Go.caload X4 hx hZ e4 ((((VA.ext E1).other W2 (Nat.ne_of_lt lt_a_b1)).other W3 (Nat.ne_of_lt lt_a_b1)).other W4 (Nat.ne_of_lt lt_a_b1)) ⟨by decide, by decide⟩ (v := (.int c3)) rfl (hb hby own_p4_d101) ?_
  show Go p e below _ T4 (mkF m 102 #[.val (.ref a), .val (.int (4 : Int32))] [(.int c3), (.int (3 : Int32)), (.ref b1), (.ref b1)])
  refine Go.castore X4 hx hZ e4 V4 ⟨by decide, by decide⟩ 3 rfl (Nat.le_of_ble_eq_true rfl) (hb hby own_p4_d102) fun T5 h5 X5 e5 W5 V5 => ?_
  have sz5 : n0 ≤ h5.size := Nat.le_trans sz4 (Keep.of_wr W5).1
  have kp5 : Keep h0 h5 [] := kp4.wr W5 (Or.inr hs_b1)
  have N5 := Fr.snoc X5 N4 ge_b1
  have V5 : Arv Z h5 b1 k1 .char (4 : Int32) [(.int (nar .char c0)), (.int (nar .char c1)), (.int (nar .char c2)), (.int (nar .char c3))] (.int (0 : Int32)) := V5
  show Go p e below _ T5 (mkF m 103 #[.val (.ref a), .val (.int (4 : Int32))] [(.ref b1)])
  exact Go.retA X5 hx hlk hret rfl rfl rfl (hb hby own_p4_d103) (by decide) (by decide) (by rw [e5]; exact ⟨b1, k1, rfl, N5, kp5, hs_b1, V5⟩)
theorem own_p5_d0 : decode method_2_code 0 = .ok (.iload_n 1, 1) := by decide +kernel
theorem own_p5_d1 : decode method_2_code 1 = .ok (.ifCond .ne 7, 3) := by decide +kernel
theorem own_p5_d8 : decode method_2_code 8 = .ok (.iload_n 1, 1) := by decide +kernel
theorem own_p5_d9 : decode method_2_code 9 = .ok (.iconst 1, 1) := by decide +kernel
theorem own_p5_d10 : decode method_2_code 10 = .ok (.if_icmp .ne 13, 3) := by decide +kernel
theorem own_p5_d23 : decode method_2_code 23 = .ok (.iload_n 1, 1) := by decide +kernel
theorem own_p5_d24 : decode method_2_code 24 = .ok (.iconst 2, 1) := by decide +kernel
theorem own_p5_d25 : decode method_2_code 25 = .ok (.if_icmp .ne 19, 3) := by decide +kernel
theorem own_p5_d44 : decode method_2_code 44 = .ok (.iload_n 1, 1) := by decide +kernel
theorem own_p5_d45 : decode method_2_code 45 = .ok (.iconst 3, 1) := by decide +kernel
theorem own_p5_d46 : decode method_2_code 46 = .ok (.if_icmp .ne 25, 3) := by decide +kernel
theorem own_p5_d71 : decode method_2_code 71 = .ok (.iload_n 1, 1) := by decide +kernel
theorem own_p5_d72 : decode method_2_code 72 = .ok (.iconst 4, 1) := by decide +kernel
theorem own_p5_d73 : decode method_2_code 73 = .ok (.if_icmp .ne 31, 3) := by decide +kernel
theorem own_p5_d104 : decode method_2_code 104 = .ok (.iload_n 1, 1) := by decide +kernel
theorem own_p5_d105 : decode method_2_code 105 = .ok (.iconst 5, 1) := by decide +kernel
theorem own_p5_d106 : decode method_2_code 106 = .ok (.if_icmp .ne 37, 3) := by decide +kernel
theorem own_p5_d109 : decode method_2_code 109 = .ok (.iconst 5, 1) := by decide +kernel
theorem own_p5_d110 : decode method_2_code 110 = .ok (.newarray .char, 2) := by decide +kernel
theorem own_p5_d112 : decode method_2_code 112 = .ok (.dup, 1) := by decide +kernel
theorem own_p5_d113 : decode method_2_code 113 = .ok (.iconst 0, 1) := by decide +kernel
theorem own_p5_d114 : decode method_2_code 114 = .ok (.aload_n 0, 1) := by decide +kernel
theorem own_p5_d115 : decode method_2_code 115 = .ok (.iconst 0, 1) := by decide +kernel
theorem own_p5_d116 : decode method_2_code 116 = .ok (.caload, 1) := by decide +kernel
theorem own_p5_d117 : decode method_2_code 117 = .ok (.castore, 1) := by decide +kernel
theorem own_p5_d118 : decode method_2_code 118 = .ok (.dup, 1) := by decide +kernel
theorem own_p5_d119 : decode method_2_code 119 = .ok (.iconst 1, 1) := by decide +kernel
theorem own_p5_d120 : decode method_2_code 120 = .ok (.aload_n 0, 1) := by decide +kernel
theorem own_p5_d121 : decode method_2_code 121 = .ok (.iconst 1, 1) := by decide +kernel
theorem own_p5_d122 : decode method_2_code 122 = .ok (.caload, 1) := by decide +kernel
theorem own_p5_d123 : decode method_2_code 123 = .ok (.castore, 1) := by decide +kernel
theorem own_p5_d124 : decode method_2_code 124 = .ok (.dup, 1) := by decide +kernel
theorem own_p5_d125 : decode method_2_code 125 = .ok (.iconst 2, 1) := by decide +kernel
theorem own_p5_d126 : decode method_2_code 126 = .ok (.aload_n 0, 1) := by decide +kernel
theorem own_p5_d127 : decode method_2_code 127 = .ok (.iconst 2, 1) := by decide +kernel
theorem own_p5_d128 : decode method_2_code 128 = .ok (.caload, 1) := by decide +kernel
theorem own_p5_d129 : decode method_2_code 129 = .ok (.castore, 1) := by decide +kernel
theorem own_p5_d130 : decode method_2_code 130 = .ok (.dup, 1) := by decide +kernel
theorem own_p5_d131 : decode method_2_code 131 = .ok (.iconst 3, 1) := by decide +kernel
theorem own_p5_d132 : decode method_2_code 132 = .ok (.aload_n 0, 1) := by decide +kernel
theorem own_p5_d133 : decode method_2_code 133 = .ok (.iconst 3, 1) := by decide +kernel
theorem own_p5_d134 : decode method_2_code 134 = .ok (.caload, 1) := by decide +kernel
theorem own_p5_d135 : decode method_2_code 135 = .ok (.castore, 1) := by decide +kernel
theorem own_p5_d136 : decode method_2_code 136 = .ok (.dup, 1) := by decide +kernel
theorem own_p5_d137 : decode method_2_code 137 = .ok (.iconst 4, 1) := by decide +kernel
theorem own_p5_d138 : decode method_2_code 138 = .ok (.aload_n 0, 1) := by decide +kernel
theorem own_p5_d139 : decode method_2_code 139 = .ok (.iconst 4, 1) := by decide +kernel
theorem own_p5_d140 : decode method_2_code 140 = .ok (.caload, 1) := by decide +kernel
theorem own_p5_d141 : decode method_2_code 141 = .ok (.castore, 1) := by decide +kernel
theorem own_p5_d142 : decode method_2_code 142 = .ok (.areturn, 1) := by decide +kernel
abbrev own_rmP5_Q (Z : State) (a : Addr) (ka : ClassId) (c0 c1 c2 c3 c4 c5 : Int32) (n0 : Nat) (h0 : Heap) : Option Value → Heap → List Loc → Prop := fun v h L => ∃ b k, v = some (.ref b) ∧ Fr n0 L ∧ Keep h0 h [] ∧ h0.size ≤ b ∧ Arv Z h b k .char 5 [.int (nar .char c0), .int (nar .char c1), .int (nar .char c2), .int (nar .char c3), .int (nar .char c4)] (.int 0)
set_option maxRecDepth 65536 in
set_option maxHeartbeats 40000000 in
theorem own_rmP5 (l : Launch) (Z : State) (a0 : Array Value) (hw : ∀ d ∈ tables_1, d.before a0 Z = true) (a : Addr) (ka : ClassId) (c0 c1 c2 c3 c4 c5 : Int32) (n0 : Nat) (h0 : Heap) (Z0 : n0 ≤ h0.size) (VA : Arv Z h0 a ka .char 6 [.int c0, .int c1, .int c2, .int c3, .int c4, .int c5] (.int 0)) :
    MetFree l (⟨"com/example/vestry/vestry/engine/SexNamedPinLaw", "prefix", "([CI)[C"⟩ : MethodName) (head1 [Jvm.Cond.code (⟨"com/example/vestry/vestry/engine/SexNamedPinLaw", "prefix", "([CI)[C"⟩ : MethodName) method_2_code 2 (some (.array .char))] ({ frames := 0, cells := 1, slots := 5, locals := 0 } : Room)) (fun aa U => aa = #[(.ref a), (.int (5 : Int32))] ∧ Z.Warmed39 U.vm ∧ U.heap = h0) (fun _ _ _ _ _ => True) (fun _ U o U' => ∃ v L, o = .returned v ∧ ((own_rmP5_Q Z a ka c0 c1 c2 c3 c4 c5 n0 h0)) v U'.heap L ∧ FrameEnd U o U' L ({ frames := 0, cells := 1, slots := 5, locals := 0 } : Room).cells ({ frames := 0, cells := 1, slots := 5, locals := 0 } : Room).slots) := by
  refine goBody (y := (⟨"com/example/vestry/vestry/engine/SexNamedPinLaw", "prefix", "([CI)[C"⟩ : MethodName)) (Q := (own_rmP5_Q Z a ka c0 c1 c2 c3 c4 c5 n0 h0)) (plainFor_of_name (by first | (simp [plainName, overriddenIn]; done) | decide +kernel)) ?_
  intro p e s m below meth c T0 hx hZ hby hml hown hnm hret hlk X0 e0
  have hown : s.vm.findClass "com/example/vestry/vestry/engine/SexNamedPinLaw" = some m.cls := hown
  refine Go.cast (g' := mkF m 0 #[.val (.ref a), .val (.int (5 : Int32))] []) (by first | (simp [entryFrame, mkF, argsToLocals, Value.category]; done) | rfl) ?_
  show Go p e below _ T0 (mkF m 0 #[.val (.ref a), .val (.int (5 : Int32))] [])
  refine Go.of (fun _ kz => XS.iloadN X0.here hx rfl (hb hby own_p5_d0) rfl kz) ?_
  show Go p e below _ T0 (mkF m 1 #[.val (.ref a), .val (.int (5 : Int32))] [(.int (5 : Int32))])
  refine Go.of (fun _ kz => XS.ifYes X0.here hx rfl (pc0 := 1) (pc' := 8) rfl (hb hby own_p5_d1) rfl ((if0 _ _).trans (feq (by decide : ¬ ((5 : Int32) = (0 : Int32)))).2) (by decide) (by decide) kz) ?_
  show Go p e below _ T0 (mkF m 8 #[.val (.ref a), .val (.int (5 : Int32))] [])
  refine Go.of (fun _ kz => XS.iloadN X0.here hx rfl (hb hby own_p5_d8) rfl kz) ?_
  show Go p e below _ T0 (mkF m 9 #[.val (.ref a), .val (.int (5 : Int32))] [(.int (5 : Int32))])
  refine Go.of (fun _ kz => XS.iconst X0.here hx rfl (hb hby own_p5_d9) kz) ?_
  show Go p e below _ T0 (mkF m 10 #[.val (.ref a), .val (.int (5 : Int32))] [(.int (1 : Int32)), (.int (5 : Int32))])
  refine Go.of (fun _ kz => XS.icmpYes X0.here hx rfl (pc0 := 10) (pc' := 23) rfl (hb hby own_p5_d10) rfl (feq (by decide : ¬ ((5 : Int32) = (1 : Int32)))).2 (by decide) (by decide) kz) ?_
  show Go p e below _ T0 (mkF m 23 #[.val (.ref a), .val (.int (5 : Int32))] [])
  refine Go.of (fun _ kz => XS.iloadN X0.here hx rfl (hb hby own_p5_d23) rfl kz) ?_
  show Go p e below _ T0 (mkF m 24 #[.val (.ref a), .val (.int (5 : Int32))] [(.int (5 : Int32))])
  refine Go.of (fun _ kz => XS.iconst X0.here hx rfl (hb hby own_p5_d24) kz) ?_
  show Go p e below _ T0 (mkF m 25 #[.val (.ref a), .val (.int (5 : Int32))] [(.int (2 : Int32)), (.int (5 : Int32))])
  refine Go.of (fun _ kz => XS.icmpYes X0.here hx rfl (pc0 := 25) (pc' := 44) rfl (hb hby own_p5_d25) rfl (feq (by decide : ¬ ((5 : Int32) = (2 : Int32)))).2 (by decide) (by decide) kz) ?_
  show Go p e below _ T0 (mkF m 44 #[.val (.ref a), .val (.int (5 : Int32))] [])
  refine Go.of (fun _ kz => XS.iloadN X0.here hx rfl (hb hby own_p5_d44) rfl kz) ?_
  show Go p e below _ T0 (mkF m 45 #[.val (.ref a), .val (.int (5 : Int32))] [(.int (5 : Int32))])
  refine Go.of (fun _ kz => XS.iconst X0.here hx rfl (hb hby own_p5_d45) kz) ?_
  show Go p e below _ T0 (mkF m 46 #[.val (.ref a), .val (.int (5 : Int32))] [(.int (3 : Int32)), (.int (5 : Int32))])
  refine Go.of (fun _ kz => XS.icmpYes X0.here hx rfl (pc0 := 46) (pc' := 71) rfl (hb hby own_p5_d46) rfl (feq (by decide : ¬ ((5 : Int32) = (3 : Int32)))).2 (by decide) (by decide) kz) ?_
  show Go p e below _ T0 (mkF m 71 #[.val (.ref a), .val (.int (5 : Int32))] [])
  refine Go.of (fun _ kz => XS.iloadN X0.here hx rfl (hb hby own_p5_d71) rfl kz) ?_
  show Go p e below _ T0 (mkF m 72 #[.val (.ref a), .val (.int (5 : Int32))] [(.int (5 : Int32))])
  refine Go.of (fun _ kz => XS.iconst X0.here hx rfl (hb hby own_p5_d72) kz) ?_
  show Go p e below _ T0 (mkF m 73 #[.val (.ref a), .val (.int (5 : Int32))] [(.int (4 : Int32)), (.int (5 : Int32))])
  refine Go.of (fun _ kz => XS.icmpYes X0.here hx rfl (pc0 := 73) (pc' := 104) rfl (hb hby own_p5_d73) rfl (feq (by decide : ¬ ((5 : Int32) = (4 : Int32)))).2 (by decide) (by decide) kz) ?_
  show Go p e below _ T0 (mkF m 104 #[.val (.ref a), .val (.int (5 : Int32))] [])
  refine Go.of (fun _ kz => XS.iloadN X0.here hx rfl (hb hby own_p5_d104) rfl kz) ?_
  show Go p e below _ T0 (mkF m 105 #[.val (.ref a), .val (.int (5 : Int32))] [(.int (5 : Int32))])
  refine Go.of (fun _ kz => XS.iconst X0.here hx rfl (hb hby own_p5_d105) kz) ?_
  show Go p e below _ T0 (mkF m 106 #[.val (.ref a), .val (.int (5 : Int32))] [(.int (5 : Int32)), (.int (5 : Int32))])
  refine Go.of (fun _ kz => XS.icmpNo X0.here hx rfl (hb hby own_p5_d106) rfl (teq (by decide : (5 : Int32) = (5 : Int32))).2 kz) ?_
  show Go p e below _ T0 (mkF m 109 #[.val (.ref a), .val (.int (5 : Int32))] [])
  refine Go.of (fun _ kz => XS.iconst X0.here hx rfl (hb hby own_p5_d109) kz) ?_
  show Go p e below _ T0 (mkF m 110 #[.val (.ref a), .val (.int (5 : Int32))] [(.int (5 : Int32))])
  refine Go.newarr X0 hx hZ (hw _ (List.mem_of_getElem? (i := 0) rfl)) e0 5 (by decide) (by decide) (by decide) (by decide) (by decide) (hb hby own_p5_d110) fun T1 h1 b1 k1 g1 X1 e1 E1 V1 => ?_
  have lt_a_b1 : a < b1 := Nat.lt_of_lt_of_le VA.lt (Nat.le_of_eq g1.symm)
  have ge_b1 : n0 ≤ b1 := g1 ▸ Z0
  have hs_b1 : h0.size ≤ b1 := g1 ▸ (Keep.refl h0 []).1
  have sz1 : n0 ≤ h1.size := Nat.le_trans Z0 E1.1
  have kp1 : Keep h0 h1 [] := (Keep.refl h0 []).ext E1
  have V1 : Arv Z h1 b1 k1 .char (5 : Int32) [(.int (0 : Int32)), (.int (0 : Int32)), (.int (0 : Int32)), (.int (0 : Int32)), (.int (0 : Int32))] (.int (0 : Int32)) := V1
  show Go p e below _ T1 (mkF m 112 #[.val (.ref a), .val (.int (5 : Int32))] [(.ref b1)])
  refine Go.of (fun _ kz => XS.dup X1.here hx rfl (hb hby own_p5_d112) rfl rfl kz) ?_
  show Go p e below _ T1 (mkF m 113 #[.val (.ref a), .val (.int (5 : Int32))] [(.ref b1), (.ref b1)])
  refine Go.of (fun _ kz => XS.iconst X1.here hx rfl (hb hby own_p5_d113) kz) ?_
  show Go p e below _ T1 (mkF m 114 #[.val (.ref a), .val (.int (5 : Int32))] [(.int (0 : Int32)), (.ref b1), (.ref b1)])
  refine Go.of (fun _ kz => XS.aloadN X1.here hx rfl (hb hby own_p5_d114) rfl rfl kz) ?_
  show Go p e below _ T1 (mkF m 115 #[.val (.ref a), .val (.int (5 : Int32))] [(.ref a), (.int (0 : Int32)), (.ref b1), (.ref b1)])
  refine Go.of (fun _ kz => XS.iconst X1.here hx rfl (hb hby own_p5_d115) kz) ?_
  show Go p e below _ T1 (mkF m 116 #[.val (.ref a), .val (.int (5 : Int32))] [(.int (0 : Int32)), (.ref a), (.int (0 : Int32)), (.ref b1), (.ref b1)])
  refine Go.caload X1 hx hZ e1 (VA.ext E1) ⟨by decide, by decide⟩ (v := (.int c0)) rfl (hb hby own_p5_d116) ?_
  show Go p e below _ T1 (mkF m 117 #[.val (.ref a), .val (.int (5 : Int32))] [(.int c0), (.int (0 : Int32)), (.ref b1), (.ref b1)])
  refine Go.castore X1 hx hZ e1 V1 ⟨by decide, by decide⟩ 0 rfl (Nat.le_of_ble_eq_true rfl) (hb hby own_p5_d117) fun T2 h2 X2 e2 W2 V2 => ?_
  have sz2 : n0 ≤ h2.size := Nat.le_trans sz1 (Keep.of_wr W2).1
  have kp2 : Keep h0 h2 [] := kp1.wr W2 (Or.inr hs_b1)
  have N2 := Fr.snoc X2 (Fr.nil n0) ge_b1
  have V2 : Arv Z h2 b1 k1 .char (5 : Int32) [(.int (nar .char c0)), (.int (0 : Int32)), (.int (0 : Int32)), (.int (0 : Int32)), (.int (0 : Int32))] (.int (0 : Int32)) := V2
  show Go p e below _ T2 (mkF m 118 #[.val (.ref a), .val (.int (5 : Int32))] [(.ref b1)])
  refine Go.of (fun _ kz => XS.dup X2.here hx rfl (hb hby own_p5_d118) rfl rfl kz) ?_
  show Go p e below _ T2 (mkF m 119 #[.val (.ref a), .val (.int (5 : Int32))] [(.ref b1), (.ref b1)])
  refine Go.of (fun _ kz => XS.iconst X2.here hx rfl (hb hby own_p5_d119) kz) ?_
  show Go p e below _ T2 (mkF m 120 #[.val (.ref a), .val (.int (5 : Int32))] [(.int (1 : Int32)), (.ref b1), (.ref b1)])
  refine Go.of (fun _ kz => XS.aloadN X2.here hx rfl (hb hby own_p5_d120) rfl rfl kz) ?_
  show Go p e below _ T2 (mkF m 121 #[.val (.ref a), .val (.int (5 : Int32))] [(.ref a), (.int (1 : Int32)), (.ref b1), (.ref b1)])
  refine Go.of (fun _ kz => XS.iconst X2.here hx rfl (hb hby own_p5_d121) kz) ?_
  show Go p e below _ T2 (mkF m 122 #[.val (.ref a), .val (.int (5 : Int32))] [(.int (1 : Int32)), (.ref a), (.int (1 : Int32)), (.ref b1), (.ref b1)])
  refine Go.caload X2 hx hZ e2 ((VA.ext E1).other W2 (Nat.ne_of_lt lt_a_b1)) ⟨by decide, by decide⟩ (v := (.int c1)) rfl (hb hby own_p5_d122) ?_
  show Go p e below _ T2 (mkF m 123 #[.val (.ref a), .val (.int (5 : Int32))] [(.int c1), (.int (1 : Int32)), (.ref b1), (.ref b1)])
  refine Go.castore X2 hx hZ e2 V2 ⟨by decide, by decide⟩ 1 rfl (Nat.le_of_ble_eq_true rfl) (hb hby own_p5_d123) fun T3 h3 X3 e3 W3 V3 => ?_
  have sz3 : n0 ≤ h3.size := Nat.le_trans sz2 (Keep.of_wr W3).1
  have kp3 : Keep h0 h3 [] := kp2.wr W3 (Or.inr hs_b1)
  have N3 := Fr.snoc X3 N2 ge_b1
  have V3 : Arv Z h3 b1 k1 .char (5 : Int32) [(.int (nar .char c0)), (.int (nar .char c1)), (.int (0 : Int32)), (.int (0 : Int32)), (.int (0 : Int32))] (.int (0 : Int32)) := V3
  show Go p e below _ T3 (mkF m 124 #[.val (.ref a), .val (.int (5 : Int32))] [(.ref b1)])
  refine Go.of (fun _ kz => XS.dup X3.here hx rfl (hb hby own_p5_d124) rfl rfl kz) ?_
  show Go p e below _ T3 (mkF m 125 #[.val (.ref a), .val (.int (5 : Int32))] [(.ref b1), (.ref b1)])
  refine Go.of (fun _ kz => XS.iconst X3.here hx rfl (hb hby own_p5_d125) kz) ?_
  show Go p e below _ T3 (mkF m 126 #[.val (.ref a), .val (.int (5 : Int32))] [(.int (2 : Int32)), (.ref b1), (.ref b1)])
  refine Go.of (fun _ kz => XS.aloadN X3.here hx rfl (hb hby own_p5_d126) rfl rfl kz) ?_
  show Go p e below _ T3 (mkF m 127 #[.val (.ref a), .val (.int (5 : Int32))] [(.ref a), (.int (2 : Int32)), (.ref b1), (.ref b1)])
  refine Go.of (fun _ kz => XS.iconst X3.here hx rfl (hb hby own_p5_d127) kz) ?_
  show Go p e below _ T3 (mkF m 128 #[.val (.ref a), .val (.int (5 : Int32))] [(.int (2 : Int32)), (.ref a), (.int (2 : Int32)), (.ref b1), (.ref b1)])
  refine Go.caload X3 hx hZ e3 (((VA.ext E1).other W2 (Nat.ne_of_lt lt_a_b1)).other W3 (Nat.ne_of_lt lt_a_b1)) ⟨by decide, by decide⟩ (v := (.int c2)) rfl (hb hby own_p5_d128) ?_
  show Go p e below _ T3 (mkF m 129 #[.val (.ref a), .val (.int (5 : Int32))] [(.int c2), (.int (2 : Int32)), (.ref b1), (.ref b1)])
  refine Go.castore X3 hx hZ e3 V3 ⟨by decide, by decide⟩ 2 rfl (Nat.le_of_ble_eq_true rfl) (hb hby own_p5_d129) fun T4 h4 X4 e4 W4 V4 => ?_
  have sz4 : n0 ≤ h4.size := Nat.le_trans sz3 (Keep.of_wr W4).1
  have kp4 : Keep h0 h4 [] := kp3.wr W4 (Or.inr hs_b1)
  have N4 := Fr.snoc X4 N3 ge_b1
  have V4 : Arv Z h4 b1 k1 .char (5 : Int32) [(.int (nar .char c0)), (.int (nar .char c1)), (.int (nar .char c2)), (.int (0 : Int32)), (.int (0 : Int32))] (.int (0 : Int32)) := V4
  show Go p e below _ T4 (mkF m 130 #[.val (.ref a), .val (.int (5 : Int32))] [(.ref b1)])
  refine Go.of (fun _ kz => XS.dup X4.here hx rfl (hb hby own_p5_d130) rfl rfl kz) ?_
  show Go p e below _ T4 (mkF m 131 #[.val (.ref a), .val (.int (5 : Int32))] [(.ref b1), (.ref b1)])
  refine Go.of (fun _ kz => XS.iconst X4.here hx rfl (hb hby own_p5_d131) kz) ?_
  show Go p e below _ T4 (mkF m 132 #[.val (.ref a), .val (.int (5 : Int32))] [(.int (3 : Int32)), (.ref b1), (.ref b1)])
  refine Go.of (fun _ kz => XS.aloadN X4.here hx rfl (hb hby own_p5_d132) rfl rfl kz) ?_
  show Go p e below _ T4 (mkF m 133 #[.val (.ref a), .val (.int (5 : Int32))] [(.ref a), (.int (3 : Int32)), (.ref b1), (.ref b1)])
  refine Go.of (fun _ kz => XS.iconst X4.here hx rfl (hb hby own_p5_d133) kz) ?_
  show Go p e below _ T4 (mkF m 134 #[.val (.ref a), .val (.int (5 : Int32))] [(.int (3 : Int32)), (.ref a), (.int (3 : Int32)), (.ref b1), (.ref b1)])
  refine Go.caload X4 hx hZ e4 ((((VA.ext E1).other W2 (Nat.ne_of_lt lt_a_b1)).other W3 (Nat.ne_of_lt lt_a_b1)).other W4 (Nat.ne_of_lt lt_a_b1)) ⟨by decide, by decide⟩ (v := (.int c3)) rfl (hb hby own_p5_d134) ?_
  show Go p e below _ T4 (mkF m 135 #[.val (.ref a), .val (.int (5 : Int32))] [(.int c3), (.int (3 : Int32)), (.ref b1), (.ref b1)])
  refine Go.castore X4 hx hZ e4 V4 ⟨by decide, by decide⟩ 3 rfl (Nat.le_of_ble_eq_true rfl) (hb hby own_p5_d135) fun T5 h5 X5 e5 W5 V5 => ?_
  have sz5 : n0 ≤ h5.size := Nat.le_trans sz4 (Keep.of_wr W5).1
  have kp5 : Keep h0 h5 [] := kp4.wr W5 (Or.inr hs_b1)
  have N5 := Fr.snoc X5 N4 ge_b1
  have V5 : Arv Z h5 b1 k1 .char (5 : Int32) [(.int (nar .char c0)), (.int (nar .char c1)), (.int (nar .char c2)), (.int (nar .char c3)), (.int (0 : Int32))] (.int (0 : Int32)) := V5
  show Go p e below _ T5 (mkF m 136 #[.val (.ref a), .val (.int (5 : Int32))] [(.ref b1)])
  refine Go.of (fun _ kz => XS.dup X5.here hx rfl (hb hby own_p5_d136) rfl rfl kz) ?_
  show Go p e below _ T5 (mkF m 137 #[.val (.ref a), .val (.int (5 : Int32))] [(.ref b1), (.ref b1)])
  refine Go.of (fun _ kz => XS.iconst X5.here hx rfl (hb hby own_p5_d137) kz) ?_
  show Go p e below _ T5 (mkF m 138 #[.val (.ref a), .val (.int (5 : Int32))] [(.int (4 : Int32)), (.ref b1), (.ref b1)])
  refine Go.of (fun _ kz => XS.aloadN X5.here hx rfl (hb hby own_p5_d138) rfl rfl kz) ?_
  show Go p e below _ T5 (mkF m 139 #[.val (.ref a), .val (.int (5 : Int32))] [(.ref a), (.int (4 : Int32)), (.ref b1), (.ref b1)])
  refine Go.of (fun _ kz => XS.iconst X5.here hx rfl (hb hby own_p5_d139) kz) ?_
  show Go p e below _ T5 (mkF m 140 #[.val (.ref a), .val (.int (5 : Int32))] [(.int (4 : Int32)), (.ref a), (.int (4 : Int32)), (.ref b1), (.ref b1)])
  refine Go.caload X5 hx hZ e5 (((((VA.ext E1).other W2 (Nat.ne_of_lt lt_a_b1)).other W3 (Nat.ne_of_lt lt_a_b1)).other W4 (Nat.ne_of_lt lt_a_b1)).other W5 (Nat.ne_of_lt lt_a_b1)) ⟨by decide, by decide⟩ (v := (.int c4)) rfl (hb hby own_p5_d140) ?_
  show Go p e below _ T5 (mkF m 141 #[.val (.ref a), .val (.int (5 : Int32))] [(.int c4), (.int (4 : Int32)), (.ref b1), (.ref b1)])
  refine Go.castore X5 hx hZ e5 V5 ⟨by decide, by decide⟩ 4 rfl (Nat.le_of_ble_eq_true rfl) (hb hby own_p5_d141) fun T6 h6 X6 e6 W6 V6 => ?_
  have sz6 : n0 ≤ h6.size := Nat.le_trans sz5 (Keep.of_wr W6).1
  have kp6 : Keep h0 h6 [] := kp5.wr W6 (Or.inr hs_b1)
  have N6 := Fr.snoc X6 N5 ge_b1
  have V6 : Arv Z h6 b1 k1 .char (5 : Int32) [(.int (nar .char c0)), (.int (nar .char c1)), (.int (nar .char c2)), (.int (nar .char c3)), (.int (nar .char c4))] (.int (0 : Int32)) := V6
  show Go p e below _ T6 (mkF m 142 #[.val (.ref a), .val (.int (5 : Int32))] [(.ref b1)])
  exact Go.retA X6 hx hlk hret rfl rfl rfl (hb hby own_p5_d142) (by decide) (by decide) (by rw [e6]; exact ⟨b1, k1, rfl, N6, kp6, hs_b1, V6⟩)
theorem own_p6_d0 : decode method_2_code 0 = .ok (.iload_n 1, 1) := by decide +kernel
theorem own_p6_d1 : decode method_2_code 1 = .ok (.ifCond .ne 7, 3) := by decide +kernel
theorem own_p6_d8 : decode method_2_code 8 = .ok (.iload_n 1, 1) := by decide +kernel
theorem own_p6_d9 : decode method_2_code 9 = .ok (.iconst 1, 1) := by decide +kernel
theorem own_p6_d10 : decode method_2_code 10 = .ok (.if_icmp .ne 13, 3) := by decide +kernel
theorem own_p6_d23 : decode method_2_code 23 = .ok (.iload_n 1, 1) := by decide +kernel
theorem own_p6_d24 : decode method_2_code 24 = .ok (.iconst 2, 1) := by decide +kernel
theorem own_p6_d25 : decode method_2_code 25 = .ok (.if_icmp .ne 19, 3) := by decide +kernel
theorem own_p6_d44 : decode method_2_code 44 = .ok (.iload_n 1, 1) := by decide +kernel
theorem own_p6_d45 : decode method_2_code 45 = .ok (.iconst 3, 1) := by decide +kernel
theorem own_p6_d46 : decode method_2_code 46 = .ok (.if_icmp .ne 25, 3) := by decide +kernel
theorem own_p6_d71 : decode method_2_code 71 = .ok (.iload_n 1, 1) := by decide +kernel
theorem own_p6_d72 : decode method_2_code 72 = .ok (.iconst 4, 1) := by decide +kernel
theorem own_p6_d73 : decode method_2_code 73 = .ok (.if_icmp .ne 31, 3) := by decide +kernel
theorem own_p6_d104 : decode method_2_code 104 = .ok (.iload_n 1, 1) := by decide +kernel
theorem own_p6_d105 : decode method_2_code 105 = .ok (.iconst 5, 1) := by decide +kernel
theorem own_p6_d106 : decode method_2_code 106 = .ok (.if_icmp .ne 37, 3) := by decide +kernel
theorem own_p6_d143 : decode method_2_code 143 = .ok (.bipush 6, 2) := by decide +kernel
theorem own_p6_d145 : decode method_2_code 145 = .ok (.newarray .char, 2) := by decide +kernel
theorem own_p6_d147 : decode method_2_code 147 = .ok (.dup, 1) := by decide +kernel
theorem own_p6_d148 : decode method_2_code 148 = .ok (.iconst 0, 1) := by decide +kernel
theorem own_p6_d149 : decode method_2_code 149 = .ok (.aload_n 0, 1) := by decide +kernel
theorem own_p6_d150 : decode method_2_code 150 = .ok (.iconst 0, 1) := by decide +kernel
theorem own_p6_d151 : decode method_2_code 151 = .ok (.caload, 1) := by decide +kernel
theorem own_p6_d152 : decode method_2_code 152 = .ok (.castore, 1) := by decide +kernel
theorem own_p6_d153 : decode method_2_code 153 = .ok (.dup, 1) := by decide +kernel
theorem own_p6_d154 : decode method_2_code 154 = .ok (.iconst 1, 1) := by decide +kernel
theorem own_p6_d155 : decode method_2_code 155 = .ok (.aload_n 0, 1) := by decide +kernel
theorem own_p6_d156 : decode method_2_code 156 = .ok (.iconst 1, 1) := by decide +kernel
theorem own_p6_d157 : decode method_2_code 157 = .ok (.caload, 1) := by decide +kernel
theorem own_p6_d158 : decode method_2_code 158 = .ok (.castore, 1) := by decide +kernel
theorem own_p6_d159 : decode method_2_code 159 = .ok (.dup, 1) := by decide +kernel
theorem own_p6_d160 : decode method_2_code 160 = .ok (.iconst 2, 1) := by decide +kernel
theorem own_p6_d161 : decode method_2_code 161 = .ok (.aload_n 0, 1) := by decide +kernel
theorem own_p6_d162 : decode method_2_code 162 = .ok (.iconst 2, 1) := by decide +kernel
theorem own_p6_d163 : decode method_2_code 163 = .ok (.caload, 1) := by decide +kernel
theorem own_p6_d164 : decode method_2_code 164 = .ok (.castore, 1) := by decide +kernel
theorem own_p6_d165 : decode method_2_code 165 = .ok (.dup, 1) := by decide +kernel
theorem own_p6_d166 : decode method_2_code 166 = .ok (.iconst 3, 1) := by decide +kernel
theorem own_p6_d167 : decode method_2_code 167 = .ok (.aload_n 0, 1) := by decide +kernel
theorem own_p6_d168 : decode method_2_code 168 = .ok (.iconst 3, 1) := by decide +kernel
theorem own_p6_d169 : decode method_2_code 169 = .ok (.caload, 1) := by decide +kernel
theorem own_p6_d170 : decode method_2_code 170 = .ok (.castore, 1) := by decide +kernel
theorem own_p6_d171 : decode method_2_code 171 = .ok (.dup, 1) := by decide +kernel
theorem own_p6_d172 : decode method_2_code 172 = .ok (.iconst 4, 1) := by decide +kernel
theorem own_p6_d173 : decode method_2_code 173 = .ok (.aload_n 0, 1) := by decide +kernel
theorem own_p6_d174 : decode method_2_code 174 = .ok (.iconst 4, 1) := by decide +kernel
theorem own_p6_d175 : decode method_2_code 175 = .ok (.caload, 1) := by decide +kernel
theorem own_p6_d176 : decode method_2_code 176 = .ok (.castore, 1) := by decide +kernel
theorem own_p6_d177 : decode method_2_code 177 = .ok (.dup, 1) := by decide +kernel
theorem own_p6_d178 : decode method_2_code 178 = .ok (.iconst 5, 1) := by decide +kernel
theorem own_p6_d179 : decode method_2_code 179 = .ok (.aload_n 0, 1) := by decide +kernel
theorem own_p6_d180 : decode method_2_code 180 = .ok (.iconst 5, 1) := by decide +kernel
theorem own_p6_d181 : decode method_2_code 181 = .ok (.caload, 1) := by decide +kernel
theorem own_p6_d182 : decode method_2_code 182 = .ok (.castore, 1) := by decide +kernel
theorem own_p6_d183 : decode method_2_code 183 = .ok (.areturn, 1) := by decide +kernel
abbrev own_rmP6_Q (Z : State) (a : Addr) (ka : ClassId) (c0 c1 c2 c3 c4 c5 : Int32) (n0 : Nat) (h0 : Heap) : Option Value → Heap → List Loc → Prop := fun v h L => ∃ b k, v = some (.ref b) ∧ Fr n0 L ∧ Keep h0 h [] ∧ h0.size ≤ b ∧ Arv Z h b k .char 6 [.int (nar .char c0), .int (nar .char c1), .int (nar .char c2), .int (nar .char c3), .int (nar .char c4), .int (nar .char c5)] (.int 0)
set_option maxRecDepth 65536 in
set_option maxHeartbeats 40000000 in
theorem own_rmP6 (l : Launch) (Z : State) (a0 : Array Value) (hw : ∀ d ∈ tables_1, d.before a0 Z = true) (a : Addr) (ka : ClassId) (c0 c1 c2 c3 c4 c5 : Int32) (n0 : Nat) (h0 : Heap) (Z0 : n0 ≤ h0.size) (VA : Arv Z h0 a ka .char 6 [.int c0, .int c1, .int c2, .int c3, .int c4, .int c5] (.int 0)) :
    MetFree l (⟨"com/example/vestry/vestry/engine/SexNamedPinLaw", "prefix", "([CI)[C"⟩ : MethodName) (head1 [Jvm.Cond.code (⟨"com/example/vestry/vestry/engine/SexNamedPinLaw", "prefix", "([CI)[C"⟩ : MethodName) method_2_code 2 (some (.array .char))] ({ frames := 0, cells := 1, slots := 6, locals := 0 } : Room)) (fun aa U => aa = #[(.ref a), (.int (6 : Int32))] ∧ Z.Warmed39 U.vm ∧ U.heap = h0) (fun _ _ _ _ _ => True) (fun _ U o U' => ∃ v L, o = .returned v ∧ ((own_rmP6_Q Z a ka c0 c1 c2 c3 c4 c5 n0 h0)) v U'.heap L ∧ FrameEnd U o U' L ({ frames := 0, cells := 1, slots := 6, locals := 0 } : Room).cells ({ frames := 0, cells := 1, slots := 6, locals := 0 } : Room).slots) := by
  refine goBody (y := (⟨"com/example/vestry/vestry/engine/SexNamedPinLaw", "prefix", "([CI)[C"⟩ : MethodName)) (Q := (own_rmP6_Q Z a ka c0 c1 c2 c3 c4 c5 n0 h0)) (plainFor_of_name (by first | (simp [plainName, overriddenIn]; done) | decide +kernel)) ?_
  intro p e s m below meth c T0 hx hZ hby hml hown hnm hret hlk X0 e0
  have hown : s.vm.findClass "com/example/vestry/vestry/engine/SexNamedPinLaw" = some m.cls := hown
  refine Go.cast (g' := mkF m 0 #[.val (.ref a), .val (.int (6 : Int32))] []) (by first | (simp [entryFrame, mkF, argsToLocals, Value.category]; done) | rfl) ?_
  show Go p e below _ T0 (mkF m 0 #[.val (.ref a), .val (.int (6 : Int32))] [])
  refine Go.of (fun _ kz => XS.iloadN X0.here hx rfl (hb hby own_p6_d0) rfl kz) ?_
  show Go p e below _ T0 (mkF m 1 #[.val (.ref a), .val (.int (6 : Int32))] [(.int (6 : Int32))])
  refine Go.of (fun _ kz => XS.ifYes X0.here hx rfl (pc0 := 1) (pc' := 8) rfl (hb hby own_p6_d1) rfl ((if0 _ _).trans (feq (by decide : ¬ ((6 : Int32) = (0 : Int32)))).2) (by decide) (by decide) kz) ?_
  show Go p e below _ T0 (mkF m 8 #[.val (.ref a), .val (.int (6 : Int32))] [])
  refine Go.of (fun _ kz => XS.iloadN X0.here hx rfl (hb hby own_p6_d8) rfl kz) ?_
  show Go p e below _ T0 (mkF m 9 #[.val (.ref a), .val (.int (6 : Int32))] [(.int (6 : Int32))])
  refine Go.of (fun _ kz => XS.iconst X0.here hx rfl (hb hby own_p6_d9) kz) ?_
  show Go p e below _ T0 (mkF m 10 #[.val (.ref a), .val (.int (6 : Int32))] [(.int (1 : Int32)), (.int (6 : Int32))])
  refine Go.of (fun _ kz => XS.icmpYes X0.here hx rfl (pc0 := 10) (pc' := 23) rfl (hb hby own_p6_d10) rfl (feq (by decide : ¬ ((6 : Int32) = (1 : Int32)))).2 (by decide) (by decide) kz) ?_
  show Go p e below _ T0 (mkF m 23 #[.val (.ref a), .val (.int (6 : Int32))] [])
  refine Go.of (fun _ kz => XS.iloadN X0.here hx rfl (hb hby own_p6_d23) rfl kz) ?_
  show Go p e below _ T0 (mkF m 24 #[.val (.ref a), .val (.int (6 : Int32))] [(.int (6 : Int32))])
  refine Go.of (fun _ kz => XS.iconst X0.here hx rfl (hb hby own_p6_d24) kz) ?_
  show Go p e below _ T0 (mkF m 25 #[.val (.ref a), .val (.int (6 : Int32))] [(.int (2 : Int32)), (.int (6 : Int32))])
  refine Go.of (fun _ kz => XS.icmpYes X0.here hx rfl (pc0 := 25) (pc' := 44) rfl (hb hby own_p6_d25) rfl (feq (by decide : ¬ ((6 : Int32) = (2 : Int32)))).2 (by decide) (by decide) kz) ?_
  show Go p e below _ T0 (mkF m 44 #[.val (.ref a), .val (.int (6 : Int32))] [])
  refine Go.of (fun _ kz => XS.iloadN X0.here hx rfl (hb hby own_p6_d44) rfl kz) ?_
  show Go p e below _ T0 (mkF m 45 #[.val (.ref a), .val (.int (6 : Int32))] [(.int (6 : Int32))])
  refine Go.of (fun _ kz => XS.iconst X0.here hx rfl (hb hby own_p6_d45) kz) ?_
  show Go p e below _ T0 (mkF m 46 #[.val (.ref a), .val (.int (6 : Int32))] [(.int (3 : Int32)), (.int (6 : Int32))])
  refine Go.of (fun _ kz => XS.icmpYes X0.here hx rfl (pc0 := 46) (pc' := 71) rfl (hb hby own_p6_d46) rfl (feq (by decide : ¬ ((6 : Int32) = (3 : Int32)))).2 (by decide) (by decide) kz) ?_
  show Go p e below _ T0 (mkF m 71 #[.val (.ref a), .val (.int (6 : Int32))] [])
  refine Go.of (fun _ kz => XS.iloadN X0.here hx rfl (hb hby own_p6_d71) rfl kz) ?_
  show Go p e below _ T0 (mkF m 72 #[.val (.ref a), .val (.int (6 : Int32))] [(.int (6 : Int32))])
  refine Go.of (fun _ kz => XS.iconst X0.here hx rfl (hb hby own_p6_d72) kz) ?_
  show Go p e below _ T0 (mkF m 73 #[.val (.ref a), .val (.int (6 : Int32))] [(.int (4 : Int32)), (.int (6 : Int32))])
  refine Go.of (fun _ kz => XS.icmpYes X0.here hx rfl (pc0 := 73) (pc' := 104) rfl (hb hby own_p6_d73) rfl (feq (by decide : ¬ ((6 : Int32) = (4 : Int32)))).2 (by decide) (by decide) kz) ?_
  show Go p e below _ T0 (mkF m 104 #[.val (.ref a), .val (.int (6 : Int32))] [])
  refine Go.of (fun _ kz => XS.iloadN X0.here hx rfl (hb hby own_p6_d104) rfl kz) ?_
  show Go p e below _ T0 (mkF m 105 #[.val (.ref a), .val (.int (6 : Int32))] [(.int (6 : Int32))])
  refine Go.of (fun _ kz => XS.iconst X0.here hx rfl (hb hby own_p6_d105) kz) ?_
  show Go p e below _ T0 (mkF m 106 #[.val (.ref a), .val (.int (6 : Int32))] [(.int (5 : Int32)), (.int (6 : Int32))])
  refine Go.of (fun _ kz => XS.icmpYes X0.here hx rfl (pc0 := 106) (pc' := 143) rfl (hb hby own_p6_d106) rfl (feq (by decide : ¬ ((6 : Int32) = (5 : Int32)))).2 (by decide) (by decide) kz) ?_
  show Go p e below _ T0 (mkF m 143 #[.val (.ref a), .val (.int (6 : Int32))] [])
  refine Go.of (fun _ kz => XS.bipush X0.here hx rfl (hb hby own_p6_d143) kz) ?_
  show Go p e below _ T0 (mkF m 145 #[.val (.ref a), .val (.int (6 : Int32))] [(.int (6 : Int32))])
  refine Go.newarr X0 hx hZ (hw _ (List.mem_of_getElem? (i := 0) rfl)) e0 6 (by decide) (by decide) (by decide) (by decide) (by decide) (hb hby own_p6_d145) fun T1 h1 b1 k1 g1 X1 e1 E1 V1 => ?_
  have lt_a_b1 : a < b1 := Nat.lt_of_lt_of_le VA.lt (Nat.le_of_eq g1.symm)
  have ge_b1 : n0 ≤ b1 := g1 ▸ Z0
  have hs_b1 : h0.size ≤ b1 := g1 ▸ (Keep.refl h0 []).1
  have sz1 : n0 ≤ h1.size := Nat.le_trans Z0 E1.1
  have kp1 : Keep h0 h1 [] := (Keep.refl h0 []).ext E1
  have V1 : Arv Z h1 b1 k1 .char (6 : Int32) [(.int (0 : Int32)), (.int (0 : Int32)), (.int (0 : Int32)), (.int (0 : Int32)), (.int (0 : Int32)), (.int (0 : Int32))] (.int (0 : Int32)) := V1
  show Go p e below _ T1 (mkF m 147 #[.val (.ref a), .val (.int (6 : Int32))] [(.ref b1)])
  refine Go.of (fun _ kz => XS.dup X1.here hx rfl (hb hby own_p6_d147) rfl rfl kz) ?_
  show Go p e below _ T1 (mkF m 148 #[.val (.ref a), .val (.int (6 : Int32))] [(.ref b1), (.ref b1)])
  refine Go.of (fun _ kz => XS.iconst X1.here hx rfl (hb hby own_p6_d148) kz) ?_
  show Go p e below _ T1 (mkF m 149 #[.val (.ref a), .val (.int (6 : Int32))] [(.int (0 : Int32)), (.ref b1), (.ref b1)])
  refine Go.of (fun _ kz => XS.aloadN X1.here hx rfl (hb hby own_p6_d149) rfl rfl kz) ?_
  show Go p e below _ T1 (mkF m 150 #[.val (.ref a), .val (.int (6 : Int32))] [(.ref a), (.int (0 : Int32)), (.ref b1), (.ref b1)])
  refine Go.of (fun _ kz => XS.iconst X1.here hx rfl (hb hby own_p6_d150) kz) ?_
  show Go p e below _ T1 (mkF m 151 #[.val (.ref a), .val (.int (6 : Int32))] [(.int (0 : Int32)), (.ref a), (.int (0 : Int32)), (.ref b1), (.ref b1)])
  refine Go.caload X1 hx hZ e1 (VA.ext E1) ⟨by decide, by decide⟩ (v := (.int c0)) rfl (hb hby own_p6_d151) ?_
  show Go p e below _ T1 (mkF m 152 #[.val (.ref a), .val (.int (6 : Int32))] [(.int c0), (.int (0 : Int32)), (.ref b1), (.ref b1)])
  refine Go.castore X1 hx hZ e1 V1 ⟨by decide, by decide⟩ 0 rfl (Nat.le_of_ble_eq_true rfl) (hb hby own_p6_d152) fun T2 h2 X2 e2 W2 V2 => ?_
  have sz2 : n0 ≤ h2.size := Nat.le_trans sz1 (Keep.of_wr W2).1
  have kp2 : Keep h0 h2 [] := kp1.wr W2 (Or.inr hs_b1)
  have N2 := Fr.snoc X2 (Fr.nil n0) ge_b1
  have V2 : Arv Z h2 b1 k1 .char (6 : Int32) [(.int (nar .char c0)), (.int (0 : Int32)), (.int (0 : Int32)), (.int (0 : Int32)), (.int (0 : Int32)), (.int (0 : Int32))] (.int (0 : Int32)) := V2
  show Go p e below _ T2 (mkF m 153 #[.val (.ref a), .val (.int (6 : Int32))] [(.ref b1)])
  refine Go.of (fun _ kz => XS.dup X2.here hx rfl (hb hby own_p6_d153) rfl rfl kz) ?_
  show Go p e below _ T2 (mkF m 154 #[.val (.ref a), .val (.int (6 : Int32))] [(.ref b1), (.ref b1)])
  refine Go.of (fun _ kz => XS.iconst X2.here hx rfl (hb hby own_p6_d154) kz) ?_
  show Go p e below _ T2 (mkF m 155 #[.val (.ref a), .val (.int (6 : Int32))] [(.int (1 : Int32)), (.ref b1), (.ref b1)])
  refine Go.of (fun _ kz => XS.aloadN X2.here hx rfl (hb hby own_p6_d155) rfl rfl kz) ?_
  show Go p e below _ T2 (mkF m 156 #[.val (.ref a), .val (.int (6 : Int32))] [(.ref a), (.int (1 : Int32)), (.ref b1), (.ref b1)])
  refine Go.of (fun _ kz => XS.iconst X2.here hx rfl (hb hby own_p6_d156) kz) ?_
  show Go p e below _ T2 (mkF m 157 #[.val (.ref a), .val (.int (6 : Int32))] [(.int (1 : Int32)), (.ref a), (.int (1 : Int32)), (.ref b1), (.ref b1)])
  refine Go.caload X2 hx hZ e2 ((VA.ext E1).other W2 (Nat.ne_of_lt lt_a_b1)) ⟨by decide, by decide⟩ (v := (.int c1)) rfl (hb hby own_p6_d157) ?_
  show Go p e below _ T2 (mkF m 158 #[.val (.ref a), .val (.int (6 : Int32))] [(.int c1), (.int (1 : Int32)), (.ref b1), (.ref b1)])
  refine Go.castore X2 hx hZ e2 V2 ⟨by decide, by decide⟩ 1 rfl (Nat.le_of_ble_eq_true rfl) (hb hby own_p6_d158) fun T3 h3 X3 e3 W3 V3 => ?_
  have sz3 : n0 ≤ h3.size := Nat.le_trans sz2 (Keep.of_wr W3).1
  have kp3 : Keep h0 h3 [] := kp2.wr W3 (Or.inr hs_b1)
  have N3 := Fr.snoc X3 N2 ge_b1
  have V3 : Arv Z h3 b1 k1 .char (6 : Int32) [(.int (nar .char c0)), (.int (nar .char c1)), (.int (0 : Int32)), (.int (0 : Int32)), (.int (0 : Int32)), (.int (0 : Int32))] (.int (0 : Int32)) := V3
  show Go p e below _ T3 (mkF m 159 #[.val (.ref a), .val (.int (6 : Int32))] [(.ref b1)])
  refine Go.of (fun _ kz => XS.dup X3.here hx rfl (hb hby own_p6_d159) rfl rfl kz) ?_
  show Go p e below _ T3 (mkF m 160 #[.val (.ref a), .val (.int (6 : Int32))] [(.ref b1), (.ref b1)])
  refine Go.of (fun _ kz => XS.iconst X3.here hx rfl (hb hby own_p6_d160) kz) ?_
  show Go p e below _ T3 (mkF m 161 #[.val (.ref a), .val (.int (6 : Int32))] [(.int (2 : Int32)), (.ref b1), (.ref b1)])
  refine Go.of (fun _ kz => XS.aloadN X3.here hx rfl (hb hby own_p6_d161) rfl rfl kz) ?_
  show Go p e below _ T3 (mkF m 162 #[.val (.ref a), .val (.int (6 : Int32))] [(.ref a), (.int (2 : Int32)), (.ref b1), (.ref b1)])
  refine Go.of (fun _ kz => XS.iconst X3.here hx rfl (hb hby own_p6_d162) kz) ?_
  show Go p e below _ T3 (mkF m 163 #[.val (.ref a), .val (.int (6 : Int32))] [(.int (2 : Int32)), (.ref a), (.int (2 : Int32)), (.ref b1), (.ref b1)])
  refine Go.caload X3 hx hZ e3 (((VA.ext E1).other W2 (Nat.ne_of_lt lt_a_b1)).other W3 (Nat.ne_of_lt lt_a_b1)) ⟨by decide, by decide⟩ (v := (.int c2)) rfl (hb hby own_p6_d163) ?_
  show Go p e below _ T3 (mkF m 164 #[.val (.ref a), .val (.int (6 : Int32))] [(.int c2), (.int (2 : Int32)), (.ref b1), (.ref b1)])
  refine Go.castore X3 hx hZ e3 V3 ⟨by decide, by decide⟩ 2 rfl (Nat.le_of_ble_eq_true rfl) (hb hby own_p6_d164) fun T4 h4 X4 e4 W4 V4 => ?_
  have sz4 : n0 ≤ h4.size := Nat.le_trans sz3 (Keep.of_wr W4).1
  have kp4 : Keep h0 h4 [] := kp3.wr W4 (Or.inr hs_b1)
  have N4 := Fr.snoc X4 N3 ge_b1
  have V4 : Arv Z h4 b1 k1 .char (6 : Int32) [(.int (nar .char c0)), (.int (nar .char c1)), (.int (nar .char c2)), (.int (0 : Int32)), (.int (0 : Int32)), (.int (0 : Int32))] (.int (0 : Int32)) := V4
  show Go p e below _ T4 (mkF m 165 #[.val (.ref a), .val (.int (6 : Int32))] [(.ref b1)])
  refine Go.of (fun _ kz => XS.dup X4.here hx rfl (hb hby own_p6_d165) rfl rfl kz) ?_
  show Go p e below _ T4 (mkF m 166 #[.val (.ref a), .val (.int (6 : Int32))] [(.ref b1), (.ref b1)])
  refine Go.of (fun _ kz => XS.iconst X4.here hx rfl (hb hby own_p6_d166) kz) ?_
  show Go p e below _ T4 (mkF m 167 #[.val (.ref a), .val (.int (6 : Int32))] [(.int (3 : Int32)), (.ref b1), (.ref b1)])
  refine Go.of (fun _ kz => XS.aloadN X4.here hx rfl (hb hby own_p6_d167) rfl rfl kz) ?_
  show Go p e below _ T4 (mkF m 168 #[.val (.ref a), .val (.int (6 : Int32))] [(.ref a), (.int (3 : Int32)), (.ref b1), (.ref b1)])
  refine Go.of (fun _ kz => XS.iconst X4.here hx rfl (hb hby own_p6_d168) kz) ?_
  show Go p e below _ T4 (mkF m 169 #[.val (.ref a), .val (.int (6 : Int32))] [(.int (3 : Int32)), (.ref a), (.int (3 : Int32)), (.ref b1), (.ref b1)])
  refine Go.caload X4 hx hZ e4 ((((VA.ext E1).other W2 (Nat.ne_of_lt lt_a_b1)).other W3 (Nat.ne_of_lt lt_a_b1)).other W4 (Nat.ne_of_lt lt_a_b1)) ⟨by decide, by decide⟩ (v := (.int c3)) rfl (hb hby own_p6_d169) ?_
  show Go p e below _ T4 (mkF m 170 #[.val (.ref a), .val (.int (6 : Int32))] [(.int c3), (.int (3 : Int32)), (.ref b1), (.ref b1)])
  refine Go.castore X4 hx hZ e4 V4 ⟨by decide, by decide⟩ 3 rfl (Nat.le_of_ble_eq_true rfl) (hb hby own_p6_d170) fun T5 h5 X5 e5 W5 V5 => ?_
  have sz5 : n0 ≤ h5.size := Nat.le_trans sz4 (Keep.of_wr W5).1
  have kp5 : Keep h0 h5 [] := kp4.wr W5 (Or.inr hs_b1)
  have N5 := Fr.snoc X5 N4 ge_b1
  have V5 : Arv Z h5 b1 k1 .char (6 : Int32) [(.int (nar .char c0)), (.int (nar .char c1)), (.int (nar .char c2)), (.int (nar .char c3)), (.int (0 : Int32)), (.int (0 : Int32))] (.int (0 : Int32)) := V5
  show Go p e below _ T5 (mkF m 171 #[.val (.ref a), .val (.int (6 : Int32))] [(.ref b1)])
  refine Go.of (fun _ kz => XS.dup X5.here hx rfl (hb hby own_p6_d171) rfl rfl kz) ?_
  show Go p e below _ T5 (mkF m 172 #[.val (.ref a), .val (.int (6 : Int32))] [(.ref b1), (.ref b1)])
  refine Go.of (fun _ kz => XS.iconst X5.here hx rfl (hb hby own_p6_d172) kz) ?_
  show Go p e below _ T5 (mkF m 173 #[.val (.ref a), .val (.int (6 : Int32))] [(.int (4 : Int32)), (.ref b1), (.ref b1)])
  refine Go.of (fun _ kz => XS.aloadN X5.here hx rfl (hb hby own_p6_d173) rfl rfl kz) ?_
  show Go p e below _ T5 (mkF m 174 #[.val (.ref a), .val (.int (6 : Int32))] [(.ref a), (.int (4 : Int32)), (.ref b1), (.ref b1)])
  refine Go.of (fun _ kz => XS.iconst X5.here hx rfl (hb hby own_p6_d174) kz) ?_
  show Go p e below _ T5 (mkF m 175 #[.val (.ref a), .val (.int (6 : Int32))] [(.int (4 : Int32)), (.ref a), (.int (4 : Int32)), (.ref b1), (.ref b1)])
  refine Go.caload X5 hx hZ e5 (((((VA.ext E1).other W2 (Nat.ne_of_lt lt_a_b1)).other W3 (Nat.ne_of_lt lt_a_b1)).other W4 (Nat.ne_of_lt lt_a_b1)).other W5 (Nat.ne_of_lt lt_a_b1)) ⟨by decide, by decide⟩ (v := (.int c4)) rfl (hb hby own_p6_d175) ?_
  show Go p e below _ T5 (mkF m 176 #[.val (.ref a), .val (.int (6 : Int32))] [(.int c4), (.int (4 : Int32)), (.ref b1), (.ref b1)])
  refine Go.castore X5 hx hZ e5 V5 ⟨by decide, by decide⟩ 4 rfl (Nat.le_of_ble_eq_true rfl) (hb hby own_p6_d176) fun T6 h6 X6 e6 W6 V6 => ?_
  have sz6 : n0 ≤ h6.size := Nat.le_trans sz5 (Keep.of_wr W6).1
  have kp6 : Keep h0 h6 [] := kp5.wr W6 (Or.inr hs_b1)
  have N6 := Fr.snoc X6 N5 ge_b1
  have V6 : Arv Z h6 b1 k1 .char (6 : Int32) [(.int (nar .char c0)), (.int (nar .char c1)), (.int (nar .char c2)), (.int (nar .char c3)), (.int (nar .char c4)), (.int (0 : Int32))] (.int (0 : Int32)) := V6
  show Go p e below _ T6 (mkF m 177 #[.val (.ref a), .val (.int (6 : Int32))] [(.ref b1)])
  refine Go.of (fun _ kz => XS.dup X6.here hx rfl (hb hby own_p6_d177) rfl rfl kz) ?_
  show Go p e below _ T6 (mkF m 178 #[.val (.ref a), .val (.int (6 : Int32))] [(.ref b1), (.ref b1)])
  refine Go.of (fun _ kz => XS.iconst X6.here hx rfl (hb hby own_p6_d178) kz) ?_
  show Go p e below _ T6 (mkF m 179 #[.val (.ref a), .val (.int (6 : Int32))] [(.int (5 : Int32)), (.ref b1), (.ref b1)])
  refine Go.of (fun _ kz => XS.aloadN X6.here hx rfl (hb hby own_p6_d179) rfl rfl kz) ?_
  show Go p e below _ T6 (mkF m 180 #[.val (.ref a), .val (.int (6 : Int32))] [(.ref a), (.int (5 : Int32)), (.ref b1), (.ref b1)])
  refine Go.of (fun _ kz => XS.iconst X6.here hx rfl (hb hby own_p6_d180) kz) ?_
  show Go p e below _ T6 (mkF m 181 #[.val (.ref a), .val (.int (6 : Int32))] [(.int (5 : Int32)), (.ref a), (.int (5 : Int32)), (.ref b1), (.ref b1)])
  refine Go.caload X6 hx hZ e6 ((((((VA.ext E1).other W2 (Nat.ne_of_lt lt_a_b1)).other W3 (Nat.ne_of_lt lt_a_b1)).other W4 (Nat.ne_of_lt lt_a_b1)).other W5 (Nat.ne_of_lt lt_a_b1)).other W6 (Nat.ne_of_lt lt_a_b1)) ⟨by decide, by decide⟩ (v := (.int c5)) rfl (hb hby own_p6_d181) ?_
  show Go p e below _ T6 (mkF m 182 #[.val (.ref a), .val (.int (6 : Int32))] [(.int c5), (.int (5 : Int32)), (.ref b1), (.ref b1)])
  refine Go.castore X6 hx hZ e6 V6 ⟨by decide, by decide⟩ 5 rfl (Nat.le_of_ble_eq_true rfl) (hb hby own_p6_d182) fun T7 h7 X7 e7 W7 V7 => ?_
  have sz7 : n0 ≤ h7.size := Nat.le_trans sz6 (Keep.of_wr W7).1
  have kp7 : Keep h0 h7 [] := kp6.wr W7 (Or.inr hs_b1)
  have N7 := Fr.snoc X7 N6 ge_b1
  have V7 : Arv Z h7 b1 k1 .char (6 : Int32) [(.int (nar .char c0)), (.int (nar .char c1)), (.int (nar .char c2)), (.int (nar .char c3)), (.int (nar .char c4)), (.int (nar .char c5))] (.int (0 : Int32)) := V7
  show Go p e below _ T7 (mkF m 183 #[.val (.ref a), .val (.int (6 : Int32))] [(.ref b1)])
  exact Go.retA X7 hx hlk hret rfl rfl rfl (hb hby own_p6_d183) (by decide) (by decide) (by rw [e7]; exact ⟨b1, k1, rfl, N7, kp7, hs_b1, V7⟩)
theorem own_vd0 : decode prog_45_method_1_code 0 = .ok (.getstatic 10, 3) := by decide +kernel
theorem own_vd3 : decode prog_45_method_1_code 3 = .ok (.invokevirtual 14, 3) := by decide +kernel
theorem own_vd6 : decode prog_45_method_1_code 6 = .ok (.checkcast 15, 3) := by decide +kernel
theorem own_vd9 : decode prog_45_method_1_code 9 = .ok (.areturn, 1) := by decide +kernel
abbrev own_rmV_Q (Z : State) (vals mA fA : Addr) (kv : ClassId) (h0 : Heap) : Option Value → Heap → List Loc → Prop := fun v h L => ∃ b, v = some (.ref b) ∧ L = [] ∧ Ext h0 h ∧ Arv Z h b kv (.object "com/example/vestry/vestry/engine/Sex") 2 [.ref mA, .ref fA] .null
set_option maxRecDepth 65536 in
set_option maxHeartbeats 40000000 in
theorem own_rmV (l : Launch) (Z : State) (a0 : Array Value) (hw : ∀ d ∈ tables_1, d.before a0 Z = true) (vals mA fA : Addr) (kv : ClassId) (h0 : Heap) (SV : Sta Z h0 "com/example/vestry/vestry/engine/Sex" "$VALUES" "[Lcom/example/vestry/vestry/engine/Sex;" (.ref vals)) (VV : Arv Z h0 vals kv (.object "com/example/vestry/vestry/engine/Sex") 2 [.ref mA, .ref fA] .null) (EV : Exa Z h0 vals "[Lcom/example/vestry/vestry/engine/Sex;") :
    MetFree l (⟨"com/example/vestry/vestry/engine/Sex", "values", "()[Lcom/example/vestry/vestry/engine/Sex;"⟩ : MethodName) (head1 [Jvm.Cond.code (⟨"com/example/vestry/vestry/engine/Sex", "values", "()[Lcom/example/vestry/vestry/engine/Sex;"⟩ : MethodName) prog_45_method_1_code 0 (some (.array (.object "com/example/vestry/vestry/engine/Sex")))] ({ frames := 1, cells := 1, slots := 2, locals := 14 } : Room)) (fun aa U => aa = #[] ∧ Z.Warmed39 U.vm ∧ U.heap = h0) (fun _ _ _ _ _ => True) (fun _ U o U' => ∃ v L, o = .returned v ∧ ((own_rmV_Q Z vals mA fA kv h0)) v U'.heap L ∧ FrameEnd U o U' L ({ frames := 1, cells := 1, slots := 2, locals := 14 } : Room).cells ({ frames := 1, cells := 1, slots := 2, locals := 14 } : Room).slots) := by
  refine goBody (y := (⟨"com/example/vestry/vestry/engine/Sex", "values", "()[Lcom/example/vestry/vestry/engine/Sex;"⟩ : MethodName)) (Q := (own_rmV_Q Z vals mA fA kv h0)) (plainFor_of_name (by first | (simp [plainName, overriddenIn]; done) | decide +kernel)) ?_
  intro p e s m below meth c T0 hx hZ hby hml hown hnm hret hlk X0 e0
  have hown : s.vm.findClass "com/example/vestry/vestry/engine/Sex" = some m.cls := hown
  refine Go.cast (g' := mkF m 0 #[] []) (by first | (simp [entryFrame, mkF, argsToLocals, Value.category]; done) | rfl) ?_
  show Go p e below _ T0 (mkF m 0 #[] [])
  refine Go.gets X0 hx hZ hown (hw _ (List.mem_of_getElem? (i := 43) rfl)) Via.refl e0 SV (hb hby own_vd0) fun T1 X1 e1 => ?_
  show Go p e below _ T1 (mkF m 3 #[] [(.ref vals)])
  refine Go.clone X1 hx hZ hown (hw _ (List.mem_of_getElem? (i := 45) rfl)) (hw _ (List.mem_of_getElem? (i := 46) rfl)) (hw _ (List.mem_of_getElem? (i := 50) rfl)) (hw _ (List.mem_of_getElem? (i := 48) rfl)) (hw _ (List.mem_of_getElem? (i := 49) rfl)) (hw _ (List.mem_of_getElem? (i := 51) rfl)) e1 VV EV (by rw [hml]; rfl) (hb hby own_vd3) (by decide) (W := 0) (cap := 2) (Nat.le_of_eq rfl) (by decide) (by decide) (by decide) (by decide) fun T2 h2 b2 g2 X2 e2 E2 V2 A2 => ?_
  have lt_vals_b2 : vals < b2 := Nat.lt_of_lt_of_le VV.lt (Nat.le_of_eq g2.symm)
  have ge_b2 : h0.size ≤ b2 := g2 ▸ (Nat.le_refl _)
  have sz2 : h0.size ≤ h2.size := Nat.le_trans (Nat.le_refl _) E2.1
  show Go p e below _ T2 (mkF m 6 #[] [(.ref b2)])
  refine Go.castTo X2 hx hZ hown (hw _ (List.mem_of_getElem? (i := 55) rfl)) e2 (Ins.self A2) (hb hby own_vd6) fun T3 X3 e3 => ?_
  show Go p e below _ T3 (mkF m 9 #[] [(.ref b2)])
  exact Go.retA X3 hx hlk hret rfl rfl rfl (hb hby own_vd9) (by decide) (by decide) (by rw [e3]; exact ⟨b2, rfl, rfl, E2, V2⟩)
theorem own_od0 : decode jdk_32_method_2_code 0 = .ok (.aload_n 0, 1) := by decide +kernel
theorem own_od1 : decode jdk_32_method_2_code 1 = .ok (.invokespecial 7, 3) := by decide +kernel
theorem own_od4 : decode jdk_32_method_2_code 4 = .ok (.aload_n 0, 1) := by decide +kernel
theorem own_od5 : decode jdk_32_method_2_code 5 = .ok (.aload_n 1, 1) := by decide +kernel
theorem own_od6 : decode jdk_32_method_2_code 6 = .ok (.putfield 13, 3) := by decide +kernel
theorem own_od9 : decode jdk_32_method_2_code 9 = .ok (.return_, 1) := by decide +kernel
abbrev own_rmOI_Q (Z : State) (a x : Addr) (n0 : Nat) (h0 : Heap) : Option Value → Heap → List Loc → Prop := fun v h L => v = none ∧ Fr n0 L ∧ Keep h0 h [a] ∧ Exa Z h a "java/util/Optional" ∧ Fld Z h a "java/util/Optional" "value" "Ljava/lang/Object;" (.ref x)
set_option maxRecDepth 65536 in
set_option maxHeartbeats 40000000 in
theorem own_rmOI (l : Launch) (Z : State) (a0 : Array Value) (hw : ∀ d ∈ tables_1, d.before a0 Z = true) (a x : Addr) (n0 : Nat) (h0 : Heap) (Z0 : n0 ≤ h0.size) (ga : n0 ≤ a) (EA : Exa Z h0 a "java/util/Optional") (FA : Fld Z h0 a "java/util/Optional" "value" "Ljava/lang/Object;" .null) :
    MetFree l (⟨"java/util/Optional", "<init>", "(Ljava/lang/Object;)V"⟩ : MethodName) (head1 [Jvm.Cond.code (⟨"java/util/Optional", "<init>", "(Ljava/lang/Object;)V"⟩ : MethodName) jdk_32_method_2_code 2 none] ({ frames := 1, cells := 0, slots := 0, locals := 12 } : Room)) (fun aa U => aa = #[(.ref a), (.ref x)] ∧ Z.Warmed39 U.vm ∧ U.heap = h0) (fun _ _ _ _ _ => True) (fun _ U o U' => ∃ v L, o = .returned v ∧ ((own_rmOI_Q Z a x n0 h0)) v U'.heap L ∧ FrameEnd U o U' L ({ frames := 1, cells := 0, slots := 0, locals := 12 } : Room).cells ({ frames := 1, cells := 0, slots := 0, locals := 12 } : Room).slots) := by
  refine goBody (y := (⟨"java/util/Optional", "<init>", "(Ljava/lang/Object;)V"⟩ : MethodName)) (Q := (own_rmOI_Q Z a x n0 h0)) (plainFor_of_name (by first | (simp [plainName, overriddenIn]; done) | decide +kernel)) ?_
  intro p e s m below meth c T0 hx hZ hby hml hown hnm hret hlk X0 e0
  have hown : s.vm.findClass "java/util/Optional" = some m.cls := hown
  refine Go.cast (g' := mkF m 0 #[.val (.ref a), .val (.ref x)] []) (by first | (simp [entryFrame, mkF, argsToLocals, Value.category]; done) | rfl) ?_
  show Go p e below _ T0 (mkF m 0 #[.val (.ref a), .val (.ref x)] [])
  refine Go.of (fun _ kz => XS.aloadN X0.here hx rfl (hb hby own_od0) rfl rfl kz) ?_
  show Go p e below _ T0 (mkF m 1 #[.val (.ref a), .val (.ref x)] [(.ref a)])
  refine Go.initObj X0 hx hZ hown (hw _ (List.mem_of_getElem? (i := 93) rfl)) (hw _ (List.mem_of_getElem? (i := 18) rfl)) (hw _ (List.mem_of_getElem? (i := 19) rfl)) e0 (by rw [hml]; rfl) (hb hby own_od1) (by decide) (W := 0) (Nat.le_of_eq rfl) (by decide) fun T1 X1 e1 => ?_
  show Go p e below _ T1 (mkF m 4 #[.val (.ref a), .val (.ref x)] [])
  refine Go.of (fun _ kz => XS.aloadN X1.here hx rfl (hb hby own_od4) rfl rfl kz) ?_
  show Go p e below _ T1 (mkF m 5 #[.val (.ref a), .val (.ref x)] [(.ref a)])
  refine Go.of (fun _ kz => XS.aloadN X1.here hx rfl (hb hby own_od5) rfl rfl kz) ?_
  show Go p e below _ T1 (mkF m 6 #[.val (.ref a), .val (.ref x)] [(.ref x), (.ref a)])
  refine Go.putf X1 hx hZ hown (hw _ (List.mem_of_getElem? (i := 79) rfl)) Via.refl e1 FA EA (Or.inr ⟨(hw _ (List.mem_of_getElem? (i := 80) rfl)), rfl, hnm⟩) (hw _ (List.mem_of_getElem? (i := 88) rfl)) (ty := (.object "java/lang/Object")) (by decide) rfl rfl (hb hby own_od6) fun T2 h2 X2 e2 W2 F2 A2 => ?_
  have sz2 : n0 ≤ h2.size := Nat.le_trans Z0 (Keep.of_wr W2).1
  have kp2 : Keep h0 h2 [a] := (Keep.refl h0 [a]).wr W2 (Or.inl (List.mem_of_getElem? (i := 0) rfl))
  have N2 := Fr.snoc X2 (Fr.nil n0) ga
  show Go p e below _ T2 (mkF m 9 #[.val (.ref a), .val (.ref x)] [])
  exact Go.retV X2 hx hlk hret (hb hby own_od9) (by decide) (by decide) (by rw [e2]; exact ⟨rfl, N2, kp2, A2, F2⟩)
theorem own_fd0 : decode jdk_32_method_4_code 0 = .ok (.aload_n 0, 1) := by decide +kernel
theorem own_fd1 : decode jdk_32_method_4_code 1 = .ok (.ifnonnull 9, 3) := by decide +kernel
theorem own_fd10 : decode jdk_32_method_4_code 10 = .ok (.new 2, 3) := by decide +kernel
theorem own_fd13 : decode jdk_32_method_4_code 13 = .ok (.dup, 1) := by decide +kernel
theorem own_fd14 : decode jdk_32_method_4_code 14 = .ok (.aload_n 0, 1) := by decide +kernel
theorem own_fd15 : decode jdk_32_method_4_code 15 = .ok (.invokespecial 23, 3) := by decide +kernel
theorem own_fd18 : decode jdk_32_method_4_code 18 = .ok (.areturn, 1) := by decide +kernel
abbrev own_rmOR_Q (Z : State) (x : Addr) (n0 : Nat) (h0 : Heap) : Option Value → Heap → List Loc → Prop := fun v h L => ∃ b, v = some (.ref b) ∧ Fr n0 L ∧ Keep h0 h [] ∧ h0.size ≤ b ∧ Exa Z h b "java/util/Optional" ∧ Fld Z h b "java/util/Optional" "value" "Ljava/lang/Object;" (.ref x)
set_option maxRecDepth 65536 in
set_option maxHeartbeats 40000000 in
theorem own_rmOR (l : Launch) (Z : State) (a0 : Array Value) (hw : ∀ d ∈ tables_1, d.before a0 Z = true) (x : Addr) (n0 : Nat) (h0 : Heap) (Z0 : n0 ≤ h0.size) :
    MetFree l (⟨"java/util/Optional", "ofNullable", "(Ljava/lang/Object;)Ljava/util/Optional;"⟩ : MethodName) (head1 [Jvm.Cond.code (⟨"java/util/Optional", "ofNullable", "(Ljava/lang/Object;)Ljava/util/Optional;"⟩ : MethodName) jdk_32_method_4_code 1 (some (.object "java/util/Optional"))] ({ frames := 2, cells := 1, slots := 1, locals := 26 } : Room)) (fun aa U => aa = #[(.ref x)] ∧ Z.Warmed39 U.vm ∧ U.heap = h0) (fun _ _ _ _ _ => True) (fun _ U o U' => ∃ v L, o = .returned v ∧ ((own_rmOR_Q Z x n0 h0)) v U'.heap L ∧ FrameEnd U o U' L ({ frames := 2, cells := 1, slots := 1, locals := 26 } : Room).cells ({ frames := 2, cells := 1, slots := 1, locals := 26 } : Room).slots) := by
  refine goBody (y := (⟨"java/util/Optional", "ofNullable", "(Ljava/lang/Object;)Ljava/util/Optional;"⟩ : MethodName)) (Q := (own_rmOR_Q Z x n0 h0)) (plainFor_of_name (by first | (simp [plainName, overriddenIn]; done) | decide +kernel)) ?_
  intro p e s m below meth c T0 hx hZ hby hml hown hnm hret hlk X0 e0
  have hown : s.vm.findClass "java/util/Optional" = some m.cls := hown
  refine Go.cast (g' := mkF m 0 #[.val (.ref x)] []) (by first | (simp [entryFrame, mkF, argsToLocals, Value.category]; done) | rfl) ?_
  show Go p e below _ T0 (mkF m 0 #[.val (.ref x)] [])
  refine Go.of (fun _ kz => XS.aloadN X0.here hx rfl (hb hby own_fd0) rfl rfl kz) ?_
  show Go p e below _ T0 (mkF m 1 #[.val (.ref x)] [(.ref x)])
  refine Go.of (fun _ kz => XS.ifnonnullYes X0.here hx rfl (pc0 := 1) (pc' := 10) rfl (hb hby own_fd1) rfl (by decide) (by decide) kz) ?_
  show Go p e below _ T0 (mkF m 10 #[.val (.ref x)] [])
  refine Go.new X0 hx hZ hown (hw _ (List.mem_of_getElem? (i := 87) rfl)) (hw _ (List.mem_of_getElem? (i := 88) rfl)) (hw _ (List.mem_of_getElem? (i := 71) rfl)) e0 (hb hby own_fd10) (by decide) (by decide) fun T1 h1 b1 g1 X1 e1 E1 A1 D1 => ?_
  have ge_b1 : n0 ≤ b1 := g1 ▸ Z0
  have hs_b1 : h0.size ≤ b1 := g1 ▸ (Keep.refl h0 []).1
  have sz1 : n0 ≤ h1.size := Nat.le_trans Z0 E1.1
  have kp1 : Keep h0 h1 [] := (Keep.refl h0 []).ext E1
  have F1_value : Fld Z h1 b1 "java/util/Optional" "value" "Ljava/lang/Object;" .null := D1 (Or.inr (hw _ (List.mem_of_getElem? (i := 80) rfl))) (ty := (.object "java/lang/Object")) (by decide)
  show Go p e below _ T1 (mkF m 13 #[.val (.ref x)] [(.ref b1)])
  refine Go.of (fun _ kz => XS.dup X1.here hx rfl (hb hby own_fd13) rfl rfl kz) ?_
  show Go p e below _ T1 (mkF m 14 #[.val (.ref x)] [(.ref b1), (.ref b1)])
  refine Go.of (fun _ kz => XS.aloadN X1.here hx rfl (hb hby own_fd14) rfl rfl kz) ?_
  show Go p e below _ T1 (mkF m 15 #[.val (.ref x)] [(.ref x), (.ref b1), (.ref b1)])
  refine Go.callI (W := 1) (y := (⟨"java/util/Optional", "<init>", "(Ljava/lang/Object;)V"⟩ : MethodName)) (a := b1) (argsL := [(.ref x)]) (rest := [(.ref b1)]) X1 hx hZ rfl hown (hw _ (List.mem_of_getElem? (i := 89) rfl)) (hw _ (List.mem_of_getElem? (i := 90) rfl)) (hw _ (List.mem_of_getElem? (i := 71) rfl)) (hw _ (List.mem_of_getElem? (i := 92) rfl)) (by decide) (own_rmOI l Z a0 hw b1 x n0 h1 sz1 ge_b1 A1 F1_value) e1 (by rw [hml]; rfl) (lenOf own_dsc0 rfl) (hb hby own_fd15) rfl (Nat.le_of_eq rfl) (by decide) (by decide) (by decide) (by decide) fun _ T2 L2 X2 q2 => ?_
  obtain ⟨rfl, N2q, K2, A2, F2⟩ := q2
  have N2 := Fr.app (Fr.nil n0) N2q
  have sz2 : n0 ≤ T2.heap.size := Nat.le_trans sz1 K2.1
  have kp2 : Keep h0 T2.heap [] := kp1.trans K2 (allS (Or.inr hs_b1) all0)
  show Go p e below _ T2 (mkF m 18 #[.val (.ref x)] [(.ref b1)])
  exact Go.retA X2 hx hlk hret rfl rfl rfl (hb hby own_fd18) (by decide) (by decide) (by exact ⟨b1, rfl, N2, kp2, hs_b1, A2, F2⟩)
theorem own_gd0 : decode jdk_32_method_4_code 0 = .ok (.aload_n 0, 1) := by decide +kernel
theorem own_gd1 : decode jdk_32_method_4_code 1 = .ok (.ifnonnull 9, 3) := by decide +kernel
theorem own_gd4 : decode jdk_32_method_4_code 4 = .ok (.getstatic 1, 3) := by decide +kernel
theorem own_gd7 : decode jdk_32_method_4_code 7 = .ok (.goto 11, 3) := by decide +kernel
theorem own_gd18 : decode jdk_32_method_4_code 18 = .ok (.areturn, 1) := by decide +kernel
set_option maxRecDepth 65536 in
set_option maxHeartbeats 40000000 in
theorem own_rmON (l : Launch) (Z : State) (a0 : Array Value) (hw : ∀ d ∈ tables_1, d.before a0 Z = true) (oE : Addr) (h0 : Heap) (SE : Sta Z h0 "java/util/Optional" "EMPTY" "Ljava/util/Optional;" (.ref oE)) :
    MetFree l (⟨"java/util/Optional", "ofNullable", "(Ljava/lang/Object;)Ljava/util/Optional;"⟩ : MethodName) (head1 [Jvm.Cond.code (⟨"java/util/Optional", "ofNullable", "(Ljava/lang/Object;)Ljava/util/Optional;"⟩ : MethodName) jdk_32_method_4_code 1 (some (.object "java/util/Optional"))] ({ frames := 0, cells := 0, slots := 0, locals := 0 } : Room)) (fun aa U => aa = #[.null] ∧ Z.Warmed39 U.vm ∧ U.heap = h0) (fun _ _ _ _ _ => True) (fun _ U o U' => ∃ v L, o = .returned v ∧ (PQ h0 (some (.ref oE))) v U'.heap L ∧ FrameEnd U o U' L ({ frames := 0, cells := 0, slots := 0, locals := 0 } : Room).cells ({ frames := 0, cells := 0, slots := 0, locals := 0 } : Room).slots) := by
  refine goBody (y := (⟨"java/util/Optional", "ofNullable", "(Ljava/lang/Object;)Ljava/util/Optional;"⟩ : MethodName)) (Q := PQ h0 (some (.ref oE))) (plainFor_of_name (by first | (simp [plainName, overriddenIn]; done) | decide +kernel)) ?_
  intro p e s m below meth c T0 hx hZ hby hml hown hnm hret hlk X0 e0
  have hown : s.vm.findClass "java/util/Optional" = some m.cls := hown
  refine Go.cast (g' := mkF m 0 #[.val .null] []) (by first | (simp [entryFrame, mkF, argsToLocals, Value.category]; done) | rfl) ?_
  show Go p e below _ T0 (mkF m 0 #[.val .null] [])
  refine Go.of (fun _ kz => XS.aloadN X0.here hx rfl (hb hby own_gd0) rfl rfl kz) ?_
  show Go p e below _ T0 (mkF m 1 #[.val .null] [.null])
  refine Go.of (fun _ kz => XS.ifnonnullNo X0.here hx rfl (hb hby own_gd1) rfl kz) ?_
  show Go p e below _ T0 (mkF m 4 #[.val .null] [])
  refine Go.gets X0 hx hZ hown (hw _ (List.mem_of_getElem? (i := 73) rfl)) Via.refl e0 SE (hb hby own_gd4) fun T1 X1 e1 => ?_
  show Go p e below _ T1 (mkF m 7 #[.val .null] [(.ref oE)])
  refine Go.of (fun _ kz => XS.goto X1.here hx rfl (pc0 := 7) (pc' := 18) rfl (hb hby own_gd7) (by decide) (by decide) kz) ?_
  show Go p e below _ T1 (mkF m 18 #[.val .null] [(.ref oE)])
  exact Go.retA X1 hx hlk hret rfl rfl rfl (hb hby own_gd18) (by decide) (by decide) ⟨rfl, rfl, e1⟩
theorem own_i1_d0 : decode jdk_32_method_6_code 0 = .ok (.aload_n 0, 1) := by decide +kernel
theorem own_i1_d1 : decode jdk_32_method_6_code 1 = .ok (.getfield 13, 3) := by decide +kernel
theorem own_i1_d4 : decode jdk_32_method_6_code 4 = .ok (.ifnull 7, 3) := by decide +kernel
theorem own_i1_d7 : decode jdk_32_method_6_code 7 = .ok (.iconst 1, 1) := by decide +kernel
theorem own_i1_d8 : decode jdk_32_method_6_code 8 = .ok (.goto 4, 3) := by decide +kernel
theorem own_i1_d12 : decode jdk_32_method_6_code 12 = .ok (.ireturn, 1) := by decide +kernel
set_option maxRecDepth 65536 in
set_option maxHeartbeats 40000000 in
theorem own_rmI1 (l : Launch) (Z : State) (a0 : Array Value) (hw : ∀ d ∈ tables_1, d.before a0 Z = true) (a x : Addr) (h0 : Heap) (FA : Fld Z h0 a "java/util/Optional" "value" "Ljava/lang/Object;" (.ref x)) :
    MetFree l (⟨"java/util/Optional", "isPresent", "()Z"⟩ : MethodName) (head1 [Jvm.Cond.code (⟨"java/util/Optional", "isPresent", "()Z"⟩ : MethodName) jdk_32_method_6_code 1 (some .boolean)] ({ frames := 0, cells := 0, slots := 0, locals := 0 } : Room)) (fun aa U => aa = #[(.ref a)] ∧ Z.Warmed39 U.vm ∧ U.heap = h0) (fun _ _ _ _ _ => True) (fun _ U o U' => ∃ v L, o = .returned v ∧ (PQ h0 (some (.int 1))) v U'.heap L ∧ FrameEnd U o U' L ({ frames := 0, cells := 0, slots := 0, locals := 0 } : Room).cells ({ frames := 0, cells := 0, slots := 0, locals := 0 } : Room).slots) := by
  refine goBody (y := (⟨"java/util/Optional", "isPresent", "()Z"⟩ : MethodName)) (Q := PQ h0 (some (.int 1))) (plainFor_of_name (by first | (simp [plainName, overriddenIn]; done) | decide +kernel)) ?_
  intro p e s m below meth c T0 hx hZ hby hml hown hnm hret hlk X0 e0
  have hown : s.vm.findClass "java/util/Optional" = some m.cls := hown
  refine Go.cast (g' := mkF m 0 #[.val (.ref a)] []) (by first | (simp [entryFrame, mkF, argsToLocals, Value.category]; done) | rfl) ?_
  show Go p e below _ T0 (mkF m 0 #[.val (.ref a)] [])
  refine Go.of (fun _ kz => XS.aloadN X0.here hx rfl (hb hby own_i1_d0) rfl rfl kz) ?_
  show Go p e below _ T0 (mkF m 1 #[.val (.ref a)] [(.ref a)])
  refine Go.getf X0 hx hZ hown (hw _ (List.mem_of_getElem? (i := 79) rfl)) Via.refl e0 FA (hb hby own_i1_d1) fun T1 X1 e1 => ?_
  show Go p e below _ T1 (mkF m 4 #[.val (.ref a)] [(.ref x)])
  refine Go.of (fun _ kz => XS.ifnullNo X1.here hx rfl (hb hby own_i1_d4) rfl kz) ?_
  show Go p e below _ T1 (mkF m 7 #[.val (.ref a)] [])
  refine Go.of (fun _ kz => XS.iconst X1.here hx rfl (hb hby own_i1_d7) kz) ?_
  show Go p e below _ T1 (mkF m 8 #[.val (.ref a)] [(.int (1 : Int32))])
  refine Go.of (fun _ kz => XS.goto X1.here hx rfl (pc0 := 8) (pc' := 12) rfl (hb hby own_i1_d8) (by decide) (by decide) kz) ?_
  show Go p e below _ T1 (mkF m 12 #[.val (.ref a)] [(.int (1 : Int32))])
  exact Go.retN X1 hx hlk (t := .boolean) hret (by simp) (hb hby own_i1_d12) (by decide) (by decide) ⟨rfl, rfl, e1⟩
theorem own_i0_d0 : decode jdk_32_method_6_code 0 = .ok (.aload_n 0, 1) := by decide +kernel
theorem own_i0_d1 : decode jdk_32_method_6_code 1 = .ok (.getfield 13, 3) := by decide +kernel
theorem own_i0_d4 : decode jdk_32_method_6_code 4 = .ok (.ifnull 7, 3) := by decide +kernel
theorem own_i0_d11 : decode jdk_32_method_6_code 11 = .ok (.iconst 0, 1) := by decide +kernel
theorem own_i0_d12 : decode jdk_32_method_6_code 12 = .ok (.ireturn, 1) := by decide +kernel
set_option maxRecDepth 65536 in
set_option maxHeartbeats 40000000 in
theorem own_rmI0 (l : Launch) (Z : State) (a0 : Array Value) (hw : ∀ d ∈ tables_1, d.before a0 Z = true) (a x : Addr) (h0 : Heap) (FA : Fld Z h0 a "java/util/Optional" "value" "Ljava/lang/Object;" .null) :
    MetFree l (⟨"java/util/Optional", "isPresent", "()Z"⟩ : MethodName) (head1 [Jvm.Cond.code (⟨"java/util/Optional", "isPresent", "()Z"⟩ : MethodName) jdk_32_method_6_code 1 (some .boolean)] ({ frames := 0, cells := 0, slots := 0, locals := 0 } : Room)) (fun aa U => aa = #[(.ref a)] ∧ Z.Warmed39 U.vm ∧ U.heap = h0) (fun _ _ _ _ _ => True) (fun _ U o U' => ∃ v L, o = .returned v ∧ (PQ h0 (some (.int 0))) v U'.heap L ∧ FrameEnd U o U' L ({ frames := 0, cells := 0, slots := 0, locals := 0 } : Room).cells ({ frames := 0, cells := 0, slots := 0, locals := 0 } : Room).slots) := by
  refine goBody (y := (⟨"java/util/Optional", "isPresent", "()Z"⟩ : MethodName)) (Q := PQ h0 (some (.int 0))) (plainFor_of_name (by first | (simp [plainName, overriddenIn]; done) | decide +kernel)) ?_
  intro p e s m below meth c T0 hx hZ hby hml hown hnm hret hlk X0 e0
  have hown : s.vm.findClass "java/util/Optional" = some m.cls := hown
  refine Go.cast (g' := mkF m 0 #[.val (.ref a)] []) (by first | (simp [entryFrame, mkF, argsToLocals, Value.category]; done) | rfl) ?_
  show Go p e below _ T0 (mkF m 0 #[.val (.ref a)] [])
  refine Go.of (fun _ kz => XS.aloadN X0.here hx rfl (hb hby own_i0_d0) rfl rfl kz) ?_
  show Go p e below _ T0 (mkF m 1 #[.val (.ref a)] [(.ref a)])
  refine Go.getf X0 hx hZ hown (hw _ (List.mem_of_getElem? (i := 79) rfl)) Via.refl e0 FA (hb hby own_i0_d1) fun T1 X1 e1 => ?_
  show Go p e below _ T1 (mkF m 4 #[.val (.ref a)] [.null])
  refine Go.of (fun _ kz => XS.ifnullYes X1.here hx rfl (pc0 := 4) (pc' := 11) rfl (hb hby own_i0_d4) rfl (by decide) (by decide) kz) ?_
  show Go p e below _ T1 (mkF m 11 #[.val (.ref a)] [])
  refine Go.of (fun _ kz => XS.iconst X1.here hx rfl (hb hby own_i0_d11) kz) ?_
  show Go p e below _ T1 (mkF m 12 #[.val (.ref a)] [(.int (0 : Int32))])
  exact Go.retN X1 hx hlk (t := .boolean) hret (by simp) (hb hby own_i0_d12) (by decide) (by decide) ⟨rfl, rfl, e1⟩
theorem own_ed0 : decode jdk_32_method_5_code 0 = .ok (.aload_n 0, 1) := by decide +kernel
theorem own_ed1 : decode jdk_32_method_5_code 1 = .ok (.getfield 13, 3) := by decide +kernel
theorem own_ed4 : decode jdk_32_method_5_code 4 = .ok (.ifnonnull 13, 3) := by decide +kernel
theorem own_ed17 : decode jdk_32_method_5_code 17 = .ok (.aload_n 0, 1) := by decide +kernel
theorem own_ed18 : decode jdk_32_method_5_code 18 = .ok (.getfield 13, 3) := by decide +kernel
theorem own_ed21 : decode jdk_32_method_5_code 21 = .ok (.areturn, 1) := by decide +kernel
set_option maxRecDepth 65536 in
set_option maxHeartbeats 40000000 in
theorem own_rmG (l : Launch) (Z : State) (a0 : Array Value) (hw : ∀ d ∈ tables_1, d.before a0 Z = true) (a x : Addr) (h0 : Heap) (FA : Fld Z h0 a "java/util/Optional" "value" "Ljava/lang/Object;" (.ref x)) :
    MetFree l (⟨"java/util/Optional", "get", "()Ljava/lang/Object;"⟩ : MethodName) (head1 [Jvm.Cond.code (⟨"java/util/Optional", "get", "()Ljava/lang/Object;"⟩ : MethodName) jdk_32_method_5_code 1 (some (.object "java/lang/Object"))] ({ frames := 0, cells := 0, slots := 0, locals := 0 } : Room)) (fun aa U => aa = #[(.ref a)] ∧ Z.Warmed39 U.vm ∧ U.heap = h0) (fun _ _ _ _ _ => True) (fun _ U o U' => ∃ v L, o = .returned v ∧ (PQ h0 (some (.ref x))) v U'.heap L ∧ FrameEnd U o U' L ({ frames := 0, cells := 0, slots := 0, locals := 0 } : Room).cells ({ frames := 0, cells := 0, slots := 0, locals := 0 } : Room).slots) := by
  refine goBody (y := (⟨"java/util/Optional", "get", "()Ljava/lang/Object;"⟩ : MethodName)) (Q := PQ h0 (some (.ref x))) (plainFor_of_name (by first | (simp [plainName, overriddenIn]; done) | decide +kernel)) ?_
  intro p e s m below meth c T0 hx hZ hby hml hown hnm hret hlk X0 e0
  have hown : s.vm.findClass "java/util/Optional" = some m.cls := hown
  refine Go.cast (g' := mkF m 0 #[.val (.ref a)] []) (by first | (simp [entryFrame, mkF, argsToLocals, Value.category]; done) | rfl) ?_
  show Go p e below _ T0 (mkF m 0 #[.val (.ref a)] [])
  refine Go.of (fun _ kz => XS.aloadN X0.here hx rfl (hb hby own_ed0) rfl rfl kz) ?_
  show Go p e below _ T0 (mkF m 1 #[.val (.ref a)] [(.ref a)])
  refine Go.getf X0 hx hZ hown (hw _ (List.mem_of_getElem? (i := 79) rfl)) Via.refl e0 FA (hb hby own_ed1) fun T1 X1 e1 => ?_
  show Go p e below _ T1 (mkF m 4 #[.val (.ref a)] [(.ref x)])
  refine Go.of (fun _ kz => XS.ifnonnullYes X1.here hx rfl (pc0 := 4) (pc' := 17) rfl (hb hby own_ed4) rfl (by decide) (by decide) kz) ?_
  show Go p e below _ T1 (mkF m 17 #[.val (.ref a)] [])
  refine Go.of (fun _ kz => XS.aloadN X1.here hx rfl (hb hby own_ed17) rfl rfl kz) ?_
  show Go p e below _ T1 (mkF m 18 #[.val (.ref a)] [(.ref a)])
  refine Go.getf X1 hx hZ hown (hw _ (List.mem_of_getElem? (i := 79) rfl)) Via.refl e1 FA (hb hby own_ed18) fun T2 X2 e2 => ?_
  show Go p e below _ T2 (mkF m 21 #[.val (.ref a)] [(.ref x)])
  exact Go.retA X2 hx hlk hret rfl rfl rfl (hb hby own_ed21) (by decide) (by decide) ⟨rfl, rfl, e2⟩
theorem own_nM_d0 : decode prog_45_method_4_code 0 = .ok (.aconst_null, 1) := by decide +kernel
theorem own_nM_d1 : decode prog_45_method_4_code 1 = .ok (.astore_n 1, 1) := by decide +kernel
theorem own_nM_d2 : decode prog_45_method_4_code 2 = .ok (.invokestatic 33, 3) := by decide +kernel
theorem own_nM_d5 : decode prog_45_method_4_code 5 = .ok (.astore_n 2, 1) := by decide +kernel
theorem own_nM_d6 : decode prog_45_method_4_code 6 = .ok (.aload_n 2, 1) := by decide +kernel
theorem own_nM_d7 : decode prog_45_method_4_code 7 = .ok (.arraylength, 1) := by decide +kernel
theorem own_nM_d8 : decode prog_45_method_4_code 8 = .ok (.istore_n 3, 1) := by decide +kernel
theorem own_nM_d9 : decode prog_45_method_4_code 9 = .ok (.iconst 0, 1) := by decide +kernel
theorem own_nM_d10 : decode prog_45_method_4_code 10 = .ok (.istore 4, 2) := by decide +kernel
theorem own_nM_d12 : decode prog_45_method_4_code 12 = .ok (.iload 4, 2) := by decide +kernel
theorem own_nM_d14 : decode prog_45_method_4_code 14 = .ok (.iload_n 3, 1) := by decide +kernel
theorem own_nM_d15 : decode prog_45_method_4_code 15 = .ok (.if_icmp .ge 33, 3) := by decide +kernel
theorem own_nM_d18 : decode prog_45_method_4_code 18 = .ok (.aload_n 2, 1) := by decide +kernel
theorem own_nM_d19 : decode prog_45_method_4_code 19 = .ok (.iload 4, 2) := by decide +kernel
theorem own_nM_d21 : decode prog_45_method_4_code 21 = .ok (.aaload, 1) := by decide +kernel
theorem own_nM_d22 : decode prog_45_method_4_code 22 = .ok (.astore 5, 2) := by decide +kernel
theorem own_nM_d24 : decode prog_45_method_4_code 24 = .ok (.aload 5, 2) := by decide +kernel
theorem own_nM_d26 : decode prog_45_method_4_code 26 = .ok (.getfield 29, 3) := by decide +kernel
theorem own_nM_d29 : decode prog_45_method_4_code 29 = .ok (.aload_n 0, 1) := by decide +kernel
theorem own_nM_d30 : decode prog_45_method_4_code 30 = .ok (.invokevirtual 37, 3) := by decide +kernel
theorem own_nM_d33 : decode prog_45_method_4_code 33 = .ok (.ifCond .eq 9, 3) := by decide +kernel
theorem own_nM_d36 : decode prog_45_method_4_code 36 = .ok (.aload 5, 2) := by decide +kernel
theorem own_nM_d38 : decode prog_45_method_4_code 38 = .ok (.astore_n 1, 1) := by decide +kernel
theorem own_nM_d39 : decode prog_45_method_4_code 39 = .ok (.goto 9, 3) := by decide +kernel
theorem own_nM_d48 : decode prog_45_method_4_code 48 = .ok (.aload_n 1, 1) := by decide +kernel
theorem own_nM_d49 : decode prog_45_method_4_code 49 = .ok (.invokestatic 43, 3) := by decide +kernel
theorem own_nM_d52 : decode prog_45_method_4_code 52 = .ok (.areturn, 1) := by decide +kernel
abbrev own_rmNaM_Q (Z : State) (cz : Int32) (vals mA fA nM nF bM bF oE : Addr) (kv kM kF : ClassId) (xs ts : Addr) (ks : ClassId) (cs : List Int32) (N2 : Int32) (vs : List Value) (n0 : Nat) (h0 : Heap) : Option Value → Heap → List Loc → Prop := fun v h L => ∃ o, v = some (.ref o) ∧ Fr n0 L ∧ Keep h0 h [] ∧ Exa Z h o "java/util/Optional" ∧ Fld Z h o "java/util/Optional" "value" "Ljava/lang/Object;" (.ref mA)
set_option maxRecDepth 65536 in
set_option maxHeartbeats 40000000 in
theorem own_rmNaM (l : Launch) (Z : State) (a0 : Array Value) (hw : ∀ d ∈ tables_1, d.before a0 Z = true) (cz : Int32) (vals mA fA nM nF bM bF oE : Addr) (kv kM kF : ClassId) (xs ts : Addr) (ks : ClassId) (cs : List Int32) (N2 : Int32) (vs : List Value) (n0 : Nat) (h0 : Heap) (Z0 : n0 ≤ h0.size) (OZ : Ext Z.heap h0) (ES : Exa Z h0 xs "java/lang/String") (VS : Fld Z h0 xs "java/lang/String" "value" "[B" (.ref ts)) (CC : Fld Z h0 xs "java/lang/String" "coder" "B" (.int 0)) (KS : Arv Z h0 ts ks .byte N2 vs (.int 0)) (HC : StrChars.Road.CodA cs 0 N2 vs) (HB : ∀ c ∈ cs, ¬ c < 0 ∧ ¬ (65535 : Int32) < c) (HL : cs.length ≤ 4000) (SB : Sta Z Z.heap "java/lang/String" "COMPACT_STRINGS" "Z" (.int cz)) (hz : ¬ cz = (0 : Int32)) (SV : Sta Z Z.heap "com/example/vestry/vestry/engine/Sex" "$VALUES" "[Lcom/example/vestry/vestry/engine/Sex;" (.ref vals)) (VV : Arv Z Z.heap vals kv (.object "com/example/vestry/vestry/engine/Sex") 2 [.ref mA, .ref fA] .null) (EV : Exa Z Z.heap vals "[Lcom/example/vestry/vestry/engine/Sex;") (SM : Sta Z Z.heap "com/example/vestry/vestry/engine/Sex" "MALE" "Lcom/example/vestry/vestry/engine/Sex;" (.ref mA)) (SF : Sta Z Z.heap "com/example/vestry/vestry/engine/Sex" "FEMALE" "Lcom/example/vestry/vestry/engine/Sex;" (.ref fA)) (EM : Exa Z Z.heap mA "com/example/vestry/vestry/engine/Sex") (EF : Exa Z Z.heap fA "com/example/vestry/vestry/engine/Sex") (NM : Fld Z Z.heap mA "com/example/vestry/vestry/engine/Sex" "name" "Ljava/lang/String;" (.ref nM)) (NF : Fld Z Z.heap fA "com/example/vestry/vestry/engine/Sex" "name" "Ljava/lang/String;" (.ref nF)) (EnM : Exa Z Z.heap nM "java/lang/String") (CnM : Fld Z Z.heap nM "java/lang/String" "coder" "B" (.int 0)) (WnM : Fld Z Z.heap nM "java/lang/String" "value" "[B" (.ref bM)) (AnM : Arv Z Z.heap bM kM .byte 4 [.int 109, .int 97, .int 108, .int 101] (.int 0)) (EnF : Exa Z Z.heap nF "java/lang/String") (CnF : Fld Z Z.heap nF "java/lang/String" "coder" "B" (.int 0)) (WnF : Fld Z Z.heap nF "java/lang/String" "value" "[B" (.ref bF)) (AnF : Arv Z Z.heap bF kF .byte 6 [.int 102, .int 101, .int 109, .int 97, .int 108, .int 101] (.int 0)) (SE : Sta Z Z.heap "java/util/Optional" "EMPTY" "Ljava/util/Optional;" (.ref oE)) (EE : Exa Z Z.heap oE "java/util/Optional") (FE : Fld Z Z.heap oE "java/util/Optional" "value" "Ljava/lang/Object;" .null) (hm : own_male = cs) :
    MetFree l (⟨"com/example/vestry/vestry/engine/Sex", "named", "(Ljava/lang/String;)Ljava/util/Optional;"⟩ : MethodName) (head1 [Jvm.Cond.code (⟨"com/example/vestry/vestry/engine/Sex", "named", "(Ljava/lang/String;)Ljava/util/Optional;"⟩ : MethodName) prog_45_method_4_code 6 (some (.object "java/util/Optional"))] ({ frames := 3, cells := 2, slots := 3, locals := 40 } : Room)) (fun aa U => aa = #[(.ref xs)] ∧ Z.Warmed39 U.vm ∧ U.heap = h0) (fun _ _ _ _ _ => True) (fun _ U o U' => ∃ v L, o = .returned v ∧ ((own_rmNaM_Q Z cz vals mA fA nM nF bM bF oE kv kM kF xs ts ks cs N2 vs n0 h0)) v U'.heap L ∧ FrameEnd U o U' L ({ frames := 3, cells := 2, slots := 3, locals := 40 } : Room).cells ({ frames := 3, cells := 2, slots := 3, locals := 40 } : Room).slots) := by
  refine goBody (y := (⟨"com/example/vestry/vestry/engine/Sex", "named", "(Ljava/lang/String;)Ljava/util/Optional;"⟩ : MethodName)) (Q := (own_rmNaM_Q Z cz vals mA fA nM nF bM bF oE kv kM kF xs ts ks cs N2 vs n0 h0)) (plainFor_of_name (by first | (simp [plainName, overriddenIn]; done) | decide +kernel)) ?_
  intro p e s m below meth c T0 hx hZ hby hml hown hnm hret hlk X0 e0
  have hown : s.vm.findClass "com/example/vestry/vestry/engine/Sex" = some m.cls := hown
  refine Go.cast (g' := mkF m 0 #[.val (.ref xs), .unset, .unset, .unset, .unset, .unset] []) (by first | (simp [entryFrame, mkF, argsToLocals, Value.category]; done) | rfl) ?_
  show Go p e below _ T0 (mkF m 0 #[.val (.ref xs), .unset, .unset, .unset, .unset, .unset] [])
  refine Go.of (fun _ kz => XS.aconstNull X0.here hx rfl (hb hby own_nM_d0) kz) ?_
  show Go p e below _ T0 (mkF m 1 #[.val (.ref xs), .unset, .unset, .unset, .unset, .unset] [.null])
  refine Go.of (fun _ kz => XS.astoreN X0.here hx rfl (hb hby own_nM_d1) rfl rfl (l' := #[.val (.ref xs), .val .null, .unset, .unset, .unset, .unset]) rfl kz) ?_
  show Go p e below _ T0 (mkF m 2 #[.val (.ref xs), .val .null, .unset, .unset, .unset, .unset] [])
  refine Go.callS (W := 0) (y := (⟨"com/example/vestry/vestry/engine/Sex", "values", "()[Lcom/example/vestry/vestry/engine/Sex;"⟩ : MethodName)) (argsL := []) (rest := []) X0 hx hZ hown (hw _ (List.mem_of_getElem? (i := 40) rfl)) (hw _ (List.mem_of_getElem? (i := 41) rfl)) (hw _ (List.mem_of_getElem? (i := 38) rfl)) (hw _ (List.mem_of_getElem? (i := 42) rfl)) (by decide) (own_rmV l Z a0 hw vals mA fA kv h0 (SV.ext OZ) (VV.ext OZ) (EV.ext OZ)) e0 (by rw [hml]; rfl) (lenOf own_dsc1 rfl) (hb hby own_nM_d2) rfl (Nat.le_of_eq rfl) (by decide) (by decide) (by decide) (by decide) fun _ T1 L1 X1 q1 => ?_
  obtain ⟨b1, rfl, rfl, E1, V1⟩ := q1
  rw [List.append_nil] at X1
  have sz1 : n0 ≤ T1.heap.size := Nat.le_trans Z0 E1.1
  have kp1 : Keep h0 T1.heap [] := (Keep.refl h0 []).ext E1
  show Go p e below _ T1 (mkF m 5 #[.val (.ref xs), .val .null, .unset, .unset, .unset, .unset] [(.ref b1)])
  refine Go.of (fun _ kz => XS.astoreN X1.here hx rfl (hb hby own_nM_d5) rfl rfl (l' := #[.val (.ref xs), .val .null, .val (.ref b1), .unset, .unset, .unset]) rfl kz) ?_
  show Go p e below _ T1 (mkF m 6 #[.val (.ref xs), .val .null, .val (.ref b1), .unset, .unset, .unset] [])
  refine Go.of (fun _ kz => XS.aloadN X1.here hx rfl (hb hby own_nM_d6) rfl rfl kz) ?_
  show Go p e below _ T1 (mkF m 7 #[.val (.ref xs), .val .null, .val (.ref b1), .unset, .unset, .unset] [(.ref b1)])
  refine Go.len X1 hx hZ rfl V1 (hb hby own_nM_d7) ?_
  show Go p e below _ T1 (mkF m 8 #[.val (.ref xs), .val .null, .val (.ref b1), .unset, .unset, .unset] [(.int (2 : Int32))])
  refine Go.of (fun _ kz => XS.istoreN X1.here hx rfl (hb hby own_nM_d8) rfl (l' := #[.val (.ref xs), .val .null, .val (.ref b1), .val (.int (2 : Int32)), .unset, .unset]) rfl kz) ?_
  show Go p e below _ T1 (mkF m 9 #[.val (.ref xs), .val .null, .val (.ref b1), .val (.int (2 : Int32)), .unset, .unset] [])
  refine Go.of (fun _ kz => XS.iconst X1.here hx rfl (hb hby own_nM_d9) kz) ?_
  show Go p e below _ T1 (mkF m 10 #[.val (.ref xs), .val .null, .val (.ref b1), .val (.int (2 : Int32)), .unset, .unset] [(.int (0 : Int32))])
  refine Go.of (fun _ kz => XS.istore X1.here hx rfl (hb hby own_nM_d10) rfl (l' := #[.val (.ref xs), .val .null, .val (.ref b1), .val (.int (2 : Int32)), .val (.int (0 : Int32)), .unset]) rfl kz) ?_
  show Go p e below _ T1 (mkF m 12 #[.val (.ref xs), .val .null, .val (.ref b1), .val (.int (2 : Int32)), .val (.int (0 : Int32)), .unset] [])
  refine Go.of (fun _ kz => XS.iload X1.here hx rfl (hb hby own_nM_d12) rfl kz) ?_
  show Go p e below _ T1 (mkF m 14 #[.val (.ref xs), .val .null, .val (.ref b1), .val (.int (2 : Int32)), .val (.int (0 : Int32)), .unset] [(.int (0 : Int32))])
  refine Go.of (fun _ kz => XS.iloadN X1.here hx rfl (hb hby own_nM_d14) rfl kz) ?_
  show Go p e below _ T1 (mkF m 15 #[.val (.ref xs), .val .null, .val (.ref b1), .val (.int (2 : Int32)), .val (.int (0 : Int32)), .unset] [(.int (2 : Int32)), (.int (0 : Int32))])
  refine Go.of (fun _ kz => XS.icmpNo X1.here hx rfl (hb hby own_nM_d15) rfl (tlt (by decide : (0 : Int32) < (2 : Int32))).2.1 kz) ?_
  show Go p e below _ T1 (mkF m 18 #[.val (.ref xs), .val .null, .val (.ref b1), .val (.int (2 : Int32)), .val (.int (0 : Int32)), .unset] [])
  refine Go.of (fun _ kz => XS.aloadN X1.here hx rfl (hb hby own_nM_d18) rfl rfl kz) ?_
  show Go p e below _ T1 (mkF m 19 #[.val (.ref xs), .val .null, .val (.ref b1), .val (.int (2 : Int32)), .val (.int (0 : Int32)), .unset] [(.ref b1)])
  refine Go.of (fun _ kz => XS.iload X1.here hx rfl (hb hby own_nM_d19) rfl kz) ?_
  show Go p e below _ T1 (mkF m 21 #[.val (.ref xs), .val .null, .val (.ref b1), .val (.int (2 : Int32)), .val (.int (0 : Int32)), .unset] [(.int (0 : Int32)), (.ref b1)])
  refine Go.aaload X1 hx hZ rfl V1 rfl ⟨by decide, by decide⟩ (v := (.ref mA)) rfl (hb hby own_nM_d21) ?_
  show Go p e below _ T1 (mkF m 22 #[.val (.ref xs), .val .null, .val (.ref b1), .val (.int (2 : Int32)), .val (.int (0 : Int32)), .unset] [(.ref mA)])
  refine Go.of (fun _ kz => XS.astore X1.here hx rfl (hb hby own_nM_d22) rfl rfl (l' := #[.val (.ref xs), .val .null, .val (.ref b1), .val (.int (2 : Int32)), .val (.int (0 : Int32)), .val (.ref mA)]) rfl kz) ?_
  show Go p e below _ T1 (mkF m 24 #[.val (.ref xs), .val .null, .val (.ref b1), .val (.int (2 : Int32)), .val (.int (0 : Int32)), .val (.ref mA)] [])
  refine Go.of (fun _ kz => XS.aload X1.here hx rfl (hb hby own_nM_d24) rfl rfl kz) ?_
  show Go p e below _ T1 (mkF m 26 #[.val (.ref xs), .val .null, .val (.ref b1), .val (.int (2 : Int32)), .val (.int (0 : Int32)), .val (.ref mA)] [(.ref mA)])
  refine Go.getf X1 hx hZ hown (hw _ (List.mem_of_getElem? (i := 57) rfl)) Via.refl rfl ((NM.ext OZ).ext E1) (hb hby own_nM_d26) fun T2 X2 e2 => ?_
  show Go p e below _ T2 (mkF m 29 #[.val (.ref xs), .val .null, .val (.ref b1), .val (.int (2 : Int32)), .val (.int (0 : Int32)), .val (.ref mA)] [(.ref nM)])
  refine Go.of (fun _ kz => XS.aloadN X2.here hx rfl (hb hby own_nM_d29) rfl rfl kz) ?_
  show Go p e below _ T2 (mkF m 30 #[.val (.ref xs), .val .null, .val (.ref b1), .val (.int (2 : Int32)), .val (.int (0 : Int32)), .val (.ref mA)] [(.ref xs), (.ref nM)])
  refine Go.callVB (W := 0) (y := (⟨"java/lang/String", "equals", "(Ljava/lang/Object;)Z"⟩ : MethodName)) (z := (⟨"java/lang/String", "equals", "(Ljava/lang/Object;)Z"⟩ : MethodName)) (a := nM) (argsL := [(.ref xs)]) (rest := []) X2 hx hZ hown (hw _ (List.mem_of_getElem? (i := 59) rfl)) (hw _ (List.mem_of_getElem? (i := 60) rfl)) (notFace_of_selects (args := #[]) (mvT hZ (hw _ (List.mem_of_getElem? (i := 62) rfl)))) (hw _ (List.mem_of_getElem? (i := 62) rfl)) (hw _ (List.mem_of_getElem? (i := 61) rfl)) (by decide) (StrChars.Road.eqW (W := 0) (R := ({ frames := 3, cells := 2, slots := 3, locals := 40 } : Room)) hZ (own_heq Z a0 hw) (kI := 4) (hw _ (List.mem_of_getElem? (i := 4) rfl)) ((EnM.ext OZ).ext E1) ((WnM.ext OZ).ext E1) ((CnM.ext OZ).ext E1) ((AnM.ext OZ).ext E1) own_mCod (own_up own_maleR) (by decide) (ES.ext E1) (VS.ext E1) (CC.ext E1) (KS.ext E1) HC HB HL ((SB.ext OZ).ext E1) hz (by decide) (by decide)) e2 ((EnM.ext OZ).ext E1) (by rw [hml]; rfl) (lenOf own_dsc2 rfl) (hb hby own_nM_d30) rfl (Nat.le_of_eq rfl) (by decide) (by decide) (.int 1) (fun _ q => own_q1 q hm) fun T3 X3 e3 => ?_
  show Go p e below _ T3 (mkF m 33 #[.val (.ref xs), .val .null, .val (.ref b1), .val (.int (2 : Int32)), .val (.int (0 : Int32)), .val (.ref mA)] [(.int (1 : Int32))])
  refine Go.of (fun _ kz => XS.ifNo X3.here hx rfl (hb hby own_nM_d33) rfl ((if0 _ _).trans (feq (by decide : ¬ ((1 : Int32) = (0 : Int32)))).1) kz) ?_
  show Go p e below _ T3 (mkF m 36 #[.val (.ref xs), .val .null, .val (.ref b1), .val (.int (2 : Int32)), .val (.int (0 : Int32)), .val (.ref mA)] [])
  refine Go.of (fun _ kz => XS.aload X3.here hx rfl (hb hby own_nM_d36) rfl rfl kz) ?_
  show Go p e below _ T3 (mkF m 38 #[.val (.ref xs), .val .null, .val (.ref b1), .val (.int (2 : Int32)), .val (.int (0 : Int32)), .val (.ref mA)] [(.ref mA)])
  refine Go.of (fun _ kz => XS.astoreN X3.here hx rfl (hb hby own_nM_d38) rfl rfl (l' := #[.val (.ref xs), .val (.ref mA), .val (.ref b1), .val (.int (2 : Int32)), .val (.int (0 : Int32)), .val (.ref mA)]) rfl kz) ?_
  show Go p e below _ T3 (mkF m 39 #[.val (.ref xs), .val (.ref mA), .val (.ref b1), .val (.int (2 : Int32)), .val (.int (0 : Int32)), .val (.ref mA)] [])
  refine Go.of (fun _ kz => XS.goto X3.here hx rfl (pc0 := 39) (pc' := 48) rfl (hb hby own_nM_d39) (by decide) (by decide) kz) ?_
  show Go p e below _ T3 (mkF m 48 #[.val (.ref xs), .val (.ref mA), .val (.ref b1), .val (.int (2 : Int32)), .val (.int (0 : Int32)), .val (.ref mA)] [])
  refine Go.of (fun _ kz => XS.aloadN X3.here hx rfl (hb hby own_nM_d48) rfl rfl kz) ?_
  show Go p e below _ T3 (mkF m 49 #[.val (.ref xs), .val (.ref mA), .val (.ref b1), .val (.int (2 : Int32)), .val (.int (0 : Int32)), .val (.ref mA)] [(.ref mA)])
  refine Go.callS (W := 0) (y := (⟨"java/util/Optional", "ofNullable", "(Ljava/lang/Object;)Ljava/util/Optional;"⟩ : MethodName)) (argsL := [(.ref mA)]) (rest := []) X3 hx hZ hown (hw _ (List.mem_of_getElem? (i := 69) rfl)) (hw _ (List.mem_of_getElem? (i := 70) rfl)) (hw _ (List.mem_of_getElem? (i := 71) rfl)) (hw _ (List.mem_of_getElem? (i := 72) rfl)) (by decide) (own_rmOR l Z a0 hw mA n0 T1.heap sz1) e3 (by rw [hml]; rfl) (lenOf own_dsc3 rfl) (hb hby own_nM_d49) rfl (by decide) (by decide) (by decide) (by decide) (by decide) fun _ T4 L4 X4 q4 => ?_
  obtain ⟨b4, rfl, N4q, K4, g4, A4, F4⟩ := q4
  have N4 := Fr.app (Fr.nil n0) N4q
  have sz4 : n0 ≤ T4.heap.size := Nat.le_trans sz1 K4.1
  have kp4 : Keep h0 T4.heap [] := kp1.trans K4 all0
  show Go p e below _ T4 (mkF m 52 #[.val (.ref xs), .val (.ref mA), .val (.ref b1), .val (.int (2 : Int32)), .val (.int (0 : Int32)), .val (.ref mA)] [(.ref b4)])
  exact Go.retA X4 hx hlk hret rfl rfl rfl (hb hby own_nM_d52) (by decide) (by decide) (by exact ⟨b4, rfl, N4, kp4, A4, F4⟩)
theorem own_nF_d0 : decode prog_45_method_4_code 0 = .ok (.aconst_null, 1) := by decide +kernel
theorem own_nF_d1 : decode prog_45_method_4_code 1 = .ok (.astore_n 1, 1) := by decide +kernel
theorem own_nF_d2 : decode prog_45_method_4_code 2 = .ok (.invokestatic 33, 3) := by decide +kernel
theorem own_nF_d5 : decode prog_45_method_4_code 5 = .ok (.astore_n 2, 1) := by decide +kernel
theorem own_nF_d6 : decode prog_45_method_4_code 6 = .ok (.aload_n 2, 1) := by decide +kernel
theorem own_nF_d7 : decode prog_45_method_4_code 7 = .ok (.arraylength, 1) := by decide +kernel
theorem own_nF_d8 : decode prog_45_method_4_code 8 = .ok (.istore_n 3, 1) := by decide +kernel
theorem own_nF_d9 : decode prog_45_method_4_code 9 = .ok (.iconst 0, 1) := by decide +kernel
theorem own_nF_d10 : decode prog_45_method_4_code 10 = .ok (.istore 4, 2) := by decide +kernel
theorem own_nF_d12 : decode prog_45_method_4_code 12 = .ok (.iload 4, 2) := by decide +kernel
theorem own_nF_d14 : decode prog_45_method_4_code 14 = .ok (.iload_n 3, 1) := by decide +kernel
theorem own_nF_d15 : decode prog_45_method_4_code 15 = .ok (.if_icmp .ge 33, 3) := by decide +kernel
theorem own_nF_d18 : decode prog_45_method_4_code 18 = .ok (.aload_n 2, 1) := by decide +kernel
theorem own_nF_d19 : decode prog_45_method_4_code 19 = .ok (.iload 4, 2) := by decide +kernel
theorem own_nF_d21 : decode prog_45_method_4_code 21 = .ok (.aaload, 1) := by decide +kernel
theorem own_nF_d22 : decode prog_45_method_4_code 22 = .ok (.astore 5, 2) := by decide +kernel
theorem own_nF_d24 : decode prog_45_method_4_code 24 = .ok (.aload 5, 2) := by decide +kernel
theorem own_nF_d26 : decode prog_45_method_4_code 26 = .ok (.getfield 29, 3) := by decide +kernel
theorem own_nF_d29 : decode prog_45_method_4_code 29 = .ok (.aload_n 0, 1) := by decide +kernel
theorem own_nF_d30 : decode prog_45_method_4_code 30 = .ok (.invokevirtual 37, 3) := by decide +kernel
theorem own_nF_d33 : decode prog_45_method_4_code 33 = .ok (.ifCond .eq 9, 3) := by decide +kernel
theorem own_nF_d36 : decode prog_45_method_4_code 36 = .ok (.aload 5, 2) := by decide +kernel
theorem own_nF_d38 : decode prog_45_method_4_code 38 = .ok (.astore_n 1, 1) := by decide +kernel
theorem own_nF_d39 : decode prog_45_method_4_code 39 = .ok (.goto 9, 3) := by decide +kernel
theorem own_nF_d42 : decode prog_45_method_4_code 42 = .ok (.iinc 4 1, 3) := by decide +kernel
theorem own_nF_d45 : decode prog_45_method_4_code 45 = .ok (.goto (-33), 3) := by decide +kernel
theorem own_nF_d48 : decode prog_45_method_4_code 48 = .ok (.aload_n 1, 1) := by decide +kernel
theorem own_nF_d49 : decode prog_45_method_4_code 49 = .ok (.invokestatic 43, 3) := by decide +kernel
theorem own_nF_d52 : decode prog_45_method_4_code 52 = .ok (.areturn, 1) := by decide +kernel
abbrev own_rmNaF_Q (Z : State) (cz : Int32) (vals mA fA nM nF bM bF oE : Addr) (kv kM kF : ClassId) (xs ts : Addr) (ks : ClassId) (cs : List Int32) (N2 : Int32) (vs : List Value) (n0 : Nat) (h0 : Heap) : Option Value → Heap → List Loc → Prop := fun v h L => ∃ o, v = some (.ref o) ∧ Fr n0 L ∧ Keep h0 h [] ∧ Exa Z h o "java/util/Optional" ∧ Fld Z h o "java/util/Optional" "value" "Ljava/lang/Object;" (.ref fA)
set_option maxRecDepth 65536 in
set_option maxHeartbeats 40000000 in
theorem own_rmNaF (l : Launch) (Z : State) (a0 : Array Value) (hw : ∀ d ∈ tables_1, d.before a0 Z = true) (cz : Int32) (vals mA fA nM nF bM bF oE : Addr) (kv kM kF : ClassId) (xs ts : Addr) (ks : ClassId) (cs : List Int32) (N2 : Int32) (vs : List Value) (n0 : Nat) (h0 : Heap) (Z0 : n0 ≤ h0.size) (OZ : Ext Z.heap h0) (ES : Exa Z h0 xs "java/lang/String") (VS : Fld Z h0 xs "java/lang/String" "value" "[B" (.ref ts)) (CC : Fld Z h0 xs "java/lang/String" "coder" "B" (.int 0)) (KS : Arv Z h0 ts ks .byte N2 vs (.int 0)) (HC : StrChars.Road.CodA cs 0 N2 vs) (HB : ∀ c ∈ cs, ¬ c < 0 ∧ ¬ (65535 : Int32) < c) (HL : cs.length ≤ 4000) (SB : Sta Z Z.heap "java/lang/String" "COMPACT_STRINGS" "Z" (.int cz)) (hz : ¬ cz = (0 : Int32)) (SV : Sta Z Z.heap "com/example/vestry/vestry/engine/Sex" "$VALUES" "[Lcom/example/vestry/vestry/engine/Sex;" (.ref vals)) (VV : Arv Z Z.heap vals kv (.object "com/example/vestry/vestry/engine/Sex") 2 [.ref mA, .ref fA] .null) (EV : Exa Z Z.heap vals "[Lcom/example/vestry/vestry/engine/Sex;") (SM : Sta Z Z.heap "com/example/vestry/vestry/engine/Sex" "MALE" "Lcom/example/vestry/vestry/engine/Sex;" (.ref mA)) (SF : Sta Z Z.heap "com/example/vestry/vestry/engine/Sex" "FEMALE" "Lcom/example/vestry/vestry/engine/Sex;" (.ref fA)) (EM : Exa Z Z.heap mA "com/example/vestry/vestry/engine/Sex") (EF : Exa Z Z.heap fA "com/example/vestry/vestry/engine/Sex") (NM : Fld Z Z.heap mA "com/example/vestry/vestry/engine/Sex" "name" "Ljava/lang/String;" (.ref nM)) (NF : Fld Z Z.heap fA "com/example/vestry/vestry/engine/Sex" "name" "Ljava/lang/String;" (.ref nF)) (EnM : Exa Z Z.heap nM "java/lang/String") (CnM : Fld Z Z.heap nM "java/lang/String" "coder" "B" (.int 0)) (WnM : Fld Z Z.heap nM "java/lang/String" "value" "[B" (.ref bM)) (AnM : Arv Z Z.heap bM kM .byte 4 [.int 109, .int 97, .int 108, .int 101] (.int 0)) (EnF : Exa Z Z.heap nF "java/lang/String") (CnF : Fld Z Z.heap nF "java/lang/String" "coder" "B" (.int 0)) (WnF : Fld Z Z.heap nF "java/lang/String" "value" "[B" (.ref bF)) (AnF : Arv Z Z.heap bF kF .byte 6 [.int 102, .int 101, .int 109, .int 97, .int 108, .int 101] (.int 0)) (SE : Sta Z Z.heap "java/util/Optional" "EMPTY" "Ljava/util/Optional;" (.ref oE)) (EE : Exa Z Z.heap oE "java/util/Optional") (FE : Fld Z Z.heap oE "java/util/Optional" "value" "Ljava/lang/Object;" .null) (hm : ¬ own_male = cs) (hf : own_fem = cs) :
    MetFree l (⟨"com/example/vestry/vestry/engine/Sex", "named", "(Ljava/lang/String;)Ljava/util/Optional;"⟩ : MethodName) (head1 [Jvm.Cond.code (⟨"com/example/vestry/vestry/engine/Sex", "named", "(Ljava/lang/String;)Ljava/util/Optional;"⟩ : MethodName) prog_45_method_4_code 6 (some (.object "java/util/Optional"))] ({ frames := 3, cells := 2, slots := 3, locals := 40 } : Room)) (fun aa U => aa = #[(.ref xs)] ∧ Z.Warmed39 U.vm ∧ U.heap = h0) (fun _ _ _ _ _ => True) (fun _ U o U' => ∃ v L, o = .returned v ∧ ((own_rmNaF_Q Z cz vals mA fA nM nF bM bF oE kv kM kF xs ts ks cs N2 vs n0 h0)) v U'.heap L ∧ FrameEnd U o U' L ({ frames := 3, cells := 2, slots := 3, locals := 40 } : Room).cells ({ frames := 3, cells := 2, slots := 3, locals := 40 } : Room).slots) := by
  refine goBody (y := (⟨"com/example/vestry/vestry/engine/Sex", "named", "(Ljava/lang/String;)Ljava/util/Optional;"⟩ : MethodName)) (Q := (own_rmNaF_Q Z cz vals mA fA nM nF bM bF oE kv kM kF xs ts ks cs N2 vs n0 h0)) (plainFor_of_name (by first | (simp [plainName, overriddenIn]; done) | decide +kernel)) ?_
  intro p e s m below meth c T0 hx hZ hby hml hown hnm hret hlk X0 e0
  have hown : s.vm.findClass "com/example/vestry/vestry/engine/Sex" = some m.cls := hown
  refine Go.cast (g' := mkF m 0 #[.val (.ref xs), .unset, .unset, .unset, .unset, .unset] []) (by first | (simp [entryFrame, mkF, argsToLocals, Value.category]; done) | rfl) ?_
  show Go p e below _ T0 (mkF m 0 #[.val (.ref xs), .unset, .unset, .unset, .unset, .unset] [])
  refine Go.of (fun _ kz => XS.aconstNull X0.here hx rfl (hb hby own_nF_d0) kz) ?_
  show Go p e below _ T0 (mkF m 1 #[.val (.ref xs), .unset, .unset, .unset, .unset, .unset] [.null])
  refine Go.of (fun _ kz => XS.astoreN X0.here hx rfl (hb hby own_nF_d1) rfl rfl (l' := #[.val (.ref xs), .val .null, .unset, .unset, .unset, .unset]) rfl kz) ?_
  show Go p e below _ T0 (mkF m 2 #[.val (.ref xs), .val .null, .unset, .unset, .unset, .unset] [])
  refine Go.callS (W := 0) (y := (⟨"com/example/vestry/vestry/engine/Sex", "values", "()[Lcom/example/vestry/vestry/engine/Sex;"⟩ : MethodName)) (argsL := []) (rest := []) X0 hx hZ hown (hw _ (List.mem_of_getElem? (i := 40) rfl)) (hw _ (List.mem_of_getElem? (i := 41) rfl)) (hw _ (List.mem_of_getElem? (i := 38) rfl)) (hw _ (List.mem_of_getElem? (i := 42) rfl)) (by decide) (own_rmV l Z a0 hw vals mA fA kv h0 (SV.ext OZ) (VV.ext OZ) (EV.ext OZ)) e0 (by rw [hml]; rfl) (lenOf own_dsc1 rfl) (hb hby own_nF_d2) rfl (Nat.le_of_eq rfl) (by decide) (by decide) (by decide) (by decide) fun _ T1 L1 X1 q1 => ?_
  obtain ⟨b1, rfl, rfl, E1, V1⟩ := q1
  rw [List.append_nil] at X1
  have sz1 : n0 ≤ T1.heap.size := Nat.le_trans Z0 E1.1
  have kp1 : Keep h0 T1.heap [] := (Keep.refl h0 []).ext E1
  show Go p e below _ T1 (mkF m 5 #[.val (.ref xs), .val .null, .unset, .unset, .unset, .unset] [(.ref b1)])
  refine Go.of (fun _ kz => XS.astoreN X1.here hx rfl (hb hby own_nF_d5) rfl rfl (l' := #[.val (.ref xs), .val .null, .val (.ref b1), .unset, .unset, .unset]) rfl kz) ?_
  show Go p e below _ T1 (mkF m 6 #[.val (.ref xs), .val .null, .val (.ref b1), .unset, .unset, .unset] [])
  refine Go.of (fun _ kz => XS.aloadN X1.here hx rfl (hb hby own_nF_d6) rfl rfl kz) ?_
  show Go p e below _ T1 (mkF m 7 #[.val (.ref xs), .val .null, .val (.ref b1), .unset, .unset, .unset] [(.ref b1)])
  refine Go.len X1 hx hZ rfl V1 (hb hby own_nF_d7) ?_
  show Go p e below _ T1 (mkF m 8 #[.val (.ref xs), .val .null, .val (.ref b1), .unset, .unset, .unset] [(.int (2 : Int32))])
  refine Go.of (fun _ kz => XS.istoreN X1.here hx rfl (hb hby own_nF_d8) rfl (l' := #[.val (.ref xs), .val .null, .val (.ref b1), .val (.int (2 : Int32)), .unset, .unset]) rfl kz) ?_
  show Go p e below _ T1 (mkF m 9 #[.val (.ref xs), .val .null, .val (.ref b1), .val (.int (2 : Int32)), .unset, .unset] [])
  refine Go.of (fun _ kz => XS.iconst X1.here hx rfl (hb hby own_nF_d9) kz) ?_
  show Go p e below _ T1 (mkF m 10 #[.val (.ref xs), .val .null, .val (.ref b1), .val (.int (2 : Int32)), .unset, .unset] [(.int (0 : Int32))])
  refine Go.of (fun _ kz => XS.istore X1.here hx rfl (hb hby own_nF_d10) rfl (l' := #[.val (.ref xs), .val .null, .val (.ref b1), .val (.int (2 : Int32)), .val (.int (0 : Int32)), .unset]) rfl kz) ?_
  show Go p e below _ T1 (mkF m 12 #[.val (.ref xs), .val .null, .val (.ref b1), .val (.int (2 : Int32)), .val (.int (0 : Int32)), .unset] [])
  refine Go.of (fun _ kz => XS.iload X1.here hx rfl (hb hby own_nF_d12) rfl kz) ?_
  show Go p e below _ T1 (mkF m 14 #[.val (.ref xs), .val .null, .val (.ref b1), .val (.int (2 : Int32)), .val (.int (0 : Int32)), .unset] [(.int (0 : Int32))])
  refine Go.of (fun _ kz => XS.iloadN X1.here hx rfl (hb hby own_nF_d14) rfl kz) ?_
  show Go p e below _ T1 (mkF m 15 #[.val (.ref xs), .val .null, .val (.ref b1), .val (.int (2 : Int32)), .val (.int (0 : Int32)), .unset] [(.int (2 : Int32)), (.int (0 : Int32))])
  refine Go.of (fun _ kz => XS.icmpNo X1.here hx rfl (hb hby own_nF_d15) rfl (tlt (by decide : (0 : Int32) < (2 : Int32))).2.1 kz) ?_
  show Go p e below _ T1 (mkF m 18 #[.val (.ref xs), .val .null, .val (.ref b1), .val (.int (2 : Int32)), .val (.int (0 : Int32)), .unset] [])
  refine Go.of (fun _ kz => XS.aloadN X1.here hx rfl (hb hby own_nF_d18) rfl rfl kz) ?_
  show Go p e below _ T1 (mkF m 19 #[.val (.ref xs), .val .null, .val (.ref b1), .val (.int (2 : Int32)), .val (.int (0 : Int32)), .unset] [(.ref b1)])
  refine Go.of (fun _ kz => XS.iload X1.here hx rfl (hb hby own_nF_d19) rfl kz) ?_
  show Go p e below _ T1 (mkF m 21 #[.val (.ref xs), .val .null, .val (.ref b1), .val (.int (2 : Int32)), .val (.int (0 : Int32)), .unset] [(.int (0 : Int32)), (.ref b1)])
  refine Go.aaload X1 hx hZ rfl V1 rfl ⟨by decide, by decide⟩ (v := (.ref mA)) rfl (hb hby own_nF_d21) ?_
  show Go p e below _ T1 (mkF m 22 #[.val (.ref xs), .val .null, .val (.ref b1), .val (.int (2 : Int32)), .val (.int (0 : Int32)), .unset] [(.ref mA)])
  refine Go.of (fun _ kz => XS.astore X1.here hx rfl (hb hby own_nF_d22) rfl rfl (l' := #[.val (.ref xs), .val .null, .val (.ref b1), .val (.int (2 : Int32)), .val (.int (0 : Int32)), .val (.ref mA)]) rfl kz) ?_
  show Go p e below _ T1 (mkF m 24 #[.val (.ref xs), .val .null, .val (.ref b1), .val (.int (2 : Int32)), .val (.int (0 : Int32)), .val (.ref mA)] [])
  refine Go.of (fun _ kz => XS.aload X1.here hx rfl (hb hby own_nF_d24) rfl rfl kz) ?_
  show Go p e below _ T1 (mkF m 26 #[.val (.ref xs), .val .null, .val (.ref b1), .val (.int (2 : Int32)), .val (.int (0 : Int32)), .val (.ref mA)] [(.ref mA)])
  refine Go.getf X1 hx hZ hown (hw _ (List.mem_of_getElem? (i := 57) rfl)) Via.refl rfl ((NM.ext OZ).ext E1) (hb hby own_nF_d26) fun T2 X2 e2 => ?_
  show Go p e below _ T2 (mkF m 29 #[.val (.ref xs), .val .null, .val (.ref b1), .val (.int (2 : Int32)), .val (.int (0 : Int32)), .val (.ref mA)] [(.ref nM)])
  refine Go.of (fun _ kz => XS.aloadN X2.here hx rfl (hb hby own_nF_d29) rfl rfl kz) ?_
  show Go p e below _ T2 (mkF m 30 #[.val (.ref xs), .val .null, .val (.ref b1), .val (.int (2 : Int32)), .val (.int (0 : Int32)), .val (.ref mA)] [(.ref xs), (.ref nM)])
  refine Go.callVB (W := 0) (y := (⟨"java/lang/String", "equals", "(Ljava/lang/Object;)Z"⟩ : MethodName)) (z := (⟨"java/lang/String", "equals", "(Ljava/lang/Object;)Z"⟩ : MethodName)) (a := nM) (argsL := [(.ref xs)]) (rest := []) X2 hx hZ hown (hw _ (List.mem_of_getElem? (i := 59) rfl)) (hw _ (List.mem_of_getElem? (i := 60) rfl)) (notFace_of_selects (args := #[]) (mvT hZ (hw _ (List.mem_of_getElem? (i := 62) rfl)))) (hw _ (List.mem_of_getElem? (i := 62) rfl)) (hw _ (List.mem_of_getElem? (i := 61) rfl)) (by decide) (StrChars.Road.eqW (W := 0) (R := ({ frames := 3, cells := 2, slots := 3, locals := 40 } : Room)) hZ (own_heq Z a0 hw) (kI := 4) (hw _ (List.mem_of_getElem? (i := 4) rfl)) ((EnM.ext OZ).ext E1) ((WnM.ext OZ).ext E1) ((CnM.ext OZ).ext E1) ((AnM.ext OZ).ext E1) own_mCod (own_up own_maleR) (by decide) (ES.ext E1) (VS.ext E1) (CC.ext E1) (KS.ext E1) HC HB HL ((SB.ext OZ).ext E1) hz (by decide) (by decide)) e2 ((EnM.ext OZ).ext E1) (by rw [hml]; rfl) (lenOf own_dsc2 rfl) (hb hby own_nF_d30) rfl (Nat.le_of_eq rfl) (by decide) (by decide) (.int 0) (fun _ q => own_q0 q hm) fun T3 X3 e3 => ?_
  show Go p e below _ T3 (mkF m 33 #[.val (.ref xs), .val .null, .val (.ref b1), .val (.int (2 : Int32)), .val (.int (0 : Int32)), .val (.ref mA)] [(.int (0 : Int32))])
  refine Go.of (fun _ kz => XS.ifYes X3.here hx rfl (pc0 := 33) (pc' := 42) rfl (hb hby own_nF_d33) rfl ((if0 _ _).trans (teq (by decide : (0 : Int32) = (0 : Int32))).1) (by decide) (by decide) kz) ?_
  show Go p e below _ T3 (mkF m 42 #[.val (.ref xs), .val .null, .val (.ref b1), .val (.int (2 : Int32)), .val (.int (0 : Int32)), .val (.ref mA)] [])
  refine Go.of (fun _ kz => XS.iinc X3.here hx rfl (hb hby own_nF_d42) rfl (l' := #[.val (.ref xs), .val .null, .val (.ref b1), .val (.int (2 : Int32)), .val (.int (1 : Int32)), .val (.ref mA)]) rfl kz) ?_
  show Go p e below _ T3 (mkF m 45 #[.val (.ref xs), .val .null, .val (.ref b1), .val (.int (2 : Int32)), .val (.int (1 : Int32)), .val (.ref mA)] [])
  refine Go.of (fun _ kz => XS.goto X3.here hx rfl (pc0 := 45) (pc' := 12) rfl (hb hby own_nF_d45) (by decide) (by decide) kz) ?_
  show Go p e below _ T3 (mkF m 12 #[.val (.ref xs), .val .null, .val (.ref b1), .val (.int (2 : Int32)), .val (.int (1 : Int32)), .val (.ref mA)] [])
  refine Go.of (fun _ kz => XS.iload X3.here hx rfl (hb hby own_nF_d12) rfl kz) ?_
  show Go p e below _ T3 (mkF m 14 #[.val (.ref xs), .val .null, .val (.ref b1), .val (.int (2 : Int32)), .val (.int (1 : Int32)), .val (.ref mA)] [(.int (1 : Int32))])
  refine Go.of (fun _ kz => XS.iloadN X3.here hx rfl (hb hby own_nF_d14) rfl kz) ?_
  show Go p e below _ T3 (mkF m 15 #[.val (.ref xs), .val .null, .val (.ref b1), .val (.int (2 : Int32)), .val (.int (1 : Int32)), .val (.ref mA)] [(.int (2 : Int32)), (.int (1 : Int32))])
  refine Go.of (fun _ kz => XS.icmpNo X3.here hx rfl (hb hby own_nF_d15) rfl (tlt (by decide : (1 : Int32) < (2 : Int32))).2.1 kz) ?_
  show Go p e below _ T3 (mkF m 18 #[.val (.ref xs), .val .null, .val (.ref b1), .val (.int (2 : Int32)), .val (.int (1 : Int32)), .val (.ref mA)] [])
  refine Go.of (fun _ kz => XS.aloadN X3.here hx rfl (hb hby own_nF_d18) rfl rfl kz) ?_
  show Go p e below _ T3 (mkF m 19 #[.val (.ref xs), .val .null, .val (.ref b1), .val (.int (2 : Int32)), .val (.int (1 : Int32)), .val (.ref mA)] [(.ref b1)])
  refine Go.of (fun _ kz => XS.iload X3.here hx rfl (hb hby own_nF_d19) rfl kz) ?_
  show Go p e below _ T3 (mkF m 21 #[.val (.ref xs), .val .null, .val (.ref b1), .val (.int (2 : Int32)), .val (.int (1 : Int32)), .val (.ref mA)] [(.int (1 : Int32)), (.ref b1)])
  refine Go.aaload X3 hx hZ e3 V1 rfl ⟨by decide, by decide⟩ (v := (.ref fA)) rfl (hb hby own_nF_d21) ?_
  show Go p e below _ T3 (mkF m 22 #[.val (.ref xs), .val .null, .val (.ref b1), .val (.int (2 : Int32)), .val (.int (1 : Int32)), .val (.ref mA)] [(.ref fA)])
  refine Go.of (fun _ kz => XS.astore X3.here hx rfl (hb hby own_nF_d22) rfl rfl (l' := #[.val (.ref xs), .val .null, .val (.ref b1), .val (.int (2 : Int32)), .val (.int (1 : Int32)), .val (.ref fA)]) rfl kz) ?_
  show Go p e below _ T3 (mkF m 24 #[.val (.ref xs), .val .null, .val (.ref b1), .val (.int (2 : Int32)), .val (.int (1 : Int32)), .val (.ref fA)] [])
  refine Go.of (fun _ kz => XS.aload X3.here hx rfl (hb hby own_nF_d24) rfl rfl kz) ?_
  show Go p e below _ T3 (mkF m 26 #[.val (.ref xs), .val .null, .val (.ref b1), .val (.int (2 : Int32)), .val (.int (1 : Int32)), .val (.ref fA)] [(.ref fA)])
  refine Go.getf X3 hx hZ hown (hw _ (List.mem_of_getElem? (i := 57) rfl)) Via.refl e3 ((NF.ext OZ).ext E1) (hb hby own_nF_d26) fun T4 X4 e4 => ?_
  show Go p e below _ T4 (mkF m 29 #[.val (.ref xs), .val .null, .val (.ref b1), .val (.int (2 : Int32)), .val (.int (1 : Int32)), .val (.ref fA)] [(.ref nF)])
  refine Go.of (fun _ kz => XS.aloadN X4.here hx rfl (hb hby own_nF_d29) rfl rfl kz) ?_
  show Go p e below _ T4 (mkF m 30 #[.val (.ref xs), .val .null, .val (.ref b1), .val (.int (2 : Int32)), .val (.int (1 : Int32)), .val (.ref fA)] [(.ref xs), (.ref nF)])
  refine Go.callVB (W := 0) (y := (⟨"java/lang/String", "equals", "(Ljava/lang/Object;)Z"⟩ : MethodName)) (z := (⟨"java/lang/String", "equals", "(Ljava/lang/Object;)Z"⟩ : MethodName)) (a := nF) (argsL := [(.ref xs)]) (rest := []) X4 hx hZ hown (hw _ (List.mem_of_getElem? (i := 59) rfl)) (hw _ (List.mem_of_getElem? (i := 60) rfl)) (notFace_of_selects (args := #[]) (mvT hZ (hw _ (List.mem_of_getElem? (i := 62) rfl)))) (hw _ (List.mem_of_getElem? (i := 62) rfl)) (hw _ (List.mem_of_getElem? (i := 61) rfl)) (by decide) (StrChars.Road.eqW (W := 0) (R := ({ frames := 3, cells := 2, slots := 3, locals := 40 } : Room)) hZ (own_heq Z a0 hw) (kI := 4) (hw _ (List.mem_of_getElem? (i := 4) rfl)) ((EnF.ext OZ).ext E1) ((WnF.ext OZ).ext E1) ((CnF.ext OZ).ext E1) ((AnF.ext OZ).ext E1) own_fCod (own_up own_femR) (by decide) (ES.ext E1) (VS.ext E1) (CC.ext E1) (KS.ext E1) HC HB HL ((SB.ext OZ).ext E1) hz (by decide) (by decide)) e4 ((EnF.ext OZ).ext E1) (by rw [hml]; rfl) (lenOf own_dsc2 rfl) (hb hby own_nF_d30) rfl (Nat.le_of_eq rfl) (by decide) (by decide) (.int 1) (fun _ q => own_q1 q hf) fun T5 X5 e5 => ?_
  show Go p e below _ T5 (mkF m 33 #[.val (.ref xs), .val .null, .val (.ref b1), .val (.int (2 : Int32)), .val (.int (1 : Int32)), .val (.ref fA)] [(.int (1 : Int32))])
  refine Go.of (fun _ kz => XS.ifNo X5.here hx rfl (hb hby own_nF_d33) rfl ((if0 _ _).trans (feq (by decide : ¬ ((1 : Int32) = (0 : Int32)))).1) kz) ?_
  show Go p e below _ T5 (mkF m 36 #[.val (.ref xs), .val .null, .val (.ref b1), .val (.int (2 : Int32)), .val (.int (1 : Int32)), .val (.ref fA)] [])
  refine Go.of (fun _ kz => XS.aload X5.here hx rfl (hb hby own_nF_d36) rfl rfl kz) ?_
  show Go p e below _ T5 (mkF m 38 #[.val (.ref xs), .val .null, .val (.ref b1), .val (.int (2 : Int32)), .val (.int (1 : Int32)), .val (.ref fA)] [(.ref fA)])
  refine Go.of (fun _ kz => XS.astoreN X5.here hx rfl (hb hby own_nF_d38) rfl rfl (l' := #[.val (.ref xs), .val (.ref fA), .val (.ref b1), .val (.int (2 : Int32)), .val (.int (1 : Int32)), .val (.ref fA)]) rfl kz) ?_
  show Go p e below _ T5 (mkF m 39 #[.val (.ref xs), .val (.ref fA), .val (.ref b1), .val (.int (2 : Int32)), .val (.int (1 : Int32)), .val (.ref fA)] [])
  refine Go.of (fun _ kz => XS.goto X5.here hx rfl (pc0 := 39) (pc' := 48) rfl (hb hby own_nF_d39) (by decide) (by decide) kz) ?_
  show Go p e below _ T5 (mkF m 48 #[.val (.ref xs), .val (.ref fA), .val (.ref b1), .val (.int (2 : Int32)), .val (.int (1 : Int32)), .val (.ref fA)] [])
  refine Go.of (fun _ kz => XS.aloadN X5.here hx rfl (hb hby own_nF_d48) rfl rfl kz) ?_
  show Go p e below _ T5 (mkF m 49 #[.val (.ref xs), .val (.ref fA), .val (.ref b1), .val (.int (2 : Int32)), .val (.int (1 : Int32)), .val (.ref fA)] [(.ref fA)])
  refine Go.callS (W := 0) (y := (⟨"java/util/Optional", "ofNullable", "(Ljava/lang/Object;)Ljava/util/Optional;"⟩ : MethodName)) (argsL := [(.ref fA)]) (rest := []) X5 hx hZ hown (hw _ (List.mem_of_getElem? (i := 69) rfl)) (hw _ (List.mem_of_getElem? (i := 70) rfl)) (hw _ (List.mem_of_getElem? (i := 71) rfl)) (hw _ (List.mem_of_getElem? (i := 72) rfl)) (by decide) (own_rmOR l Z a0 hw fA n0 T1.heap sz1) e5 (by rw [hml]; rfl) (lenOf own_dsc3 rfl) (hb hby own_nF_d49) rfl (by decide) (by decide) (by decide) (by decide) (by decide) fun _ T6 L6 X6 q6 => ?_
  obtain ⟨b6, rfl, N6q, K6, g6, A6, F6⟩ := q6
  have N6 := Fr.app (Fr.nil n0) N6q
  have sz6 : n0 ≤ T6.heap.size := Nat.le_trans sz1 K6.1
  have kp6 : Keep h0 T6.heap [] := kp1.trans K6 all0
  show Go p e below _ T6 (mkF m 52 #[.val (.ref xs), .val (.ref fA), .val (.ref b1), .val (.int (2 : Int32)), .val (.int (1 : Int32)), .val (.ref fA)] [(.ref b6)])
  exact Go.retA X6 hx hlk hret rfl rfl rfl (hb hby own_nF_d52) (by decide) (by decide) (by exact ⟨b6, rfl, N6, kp6, A6, F6⟩)
theorem own_nN_d0 : decode prog_45_method_4_code 0 = .ok (.aconst_null, 1) := by decide +kernel
theorem own_nN_d1 : decode prog_45_method_4_code 1 = .ok (.astore_n 1, 1) := by decide +kernel
theorem own_nN_d2 : decode prog_45_method_4_code 2 = .ok (.invokestatic 33, 3) := by decide +kernel
theorem own_nN_d5 : decode prog_45_method_4_code 5 = .ok (.astore_n 2, 1) := by decide +kernel
theorem own_nN_d6 : decode prog_45_method_4_code 6 = .ok (.aload_n 2, 1) := by decide +kernel
theorem own_nN_d7 : decode prog_45_method_4_code 7 = .ok (.arraylength, 1) := by decide +kernel
theorem own_nN_d8 : decode prog_45_method_4_code 8 = .ok (.istore_n 3, 1) := by decide +kernel
theorem own_nN_d9 : decode prog_45_method_4_code 9 = .ok (.iconst 0, 1) := by decide +kernel
theorem own_nN_d10 : decode prog_45_method_4_code 10 = .ok (.istore 4, 2) := by decide +kernel
theorem own_nN_d12 : decode prog_45_method_4_code 12 = .ok (.iload 4, 2) := by decide +kernel
theorem own_nN_d14 : decode prog_45_method_4_code 14 = .ok (.iload_n 3, 1) := by decide +kernel
theorem own_nN_d15 : decode prog_45_method_4_code 15 = .ok (.if_icmp .ge 33, 3) := by decide +kernel
theorem own_nN_d18 : decode prog_45_method_4_code 18 = .ok (.aload_n 2, 1) := by decide +kernel
theorem own_nN_d19 : decode prog_45_method_4_code 19 = .ok (.iload 4, 2) := by decide +kernel
theorem own_nN_d21 : decode prog_45_method_4_code 21 = .ok (.aaload, 1) := by decide +kernel
theorem own_nN_d22 : decode prog_45_method_4_code 22 = .ok (.astore 5, 2) := by decide +kernel
theorem own_nN_d24 : decode prog_45_method_4_code 24 = .ok (.aload 5, 2) := by decide +kernel
theorem own_nN_d26 : decode prog_45_method_4_code 26 = .ok (.getfield 29, 3) := by decide +kernel
theorem own_nN_d29 : decode prog_45_method_4_code 29 = .ok (.aload_n 0, 1) := by decide +kernel
theorem own_nN_d30 : decode prog_45_method_4_code 30 = .ok (.invokevirtual 37, 3) := by decide +kernel
theorem own_nN_d33 : decode prog_45_method_4_code 33 = .ok (.ifCond .eq 9, 3) := by decide +kernel
theorem own_nN_d42 : decode prog_45_method_4_code 42 = .ok (.iinc 4 1, 3) := by decide +kernel
theorem own_nN_d45 : decode prog_45_method_4_code 45 = .ok (.goto (-33), 3) := by decide +kernel
theorem own_nN_d48 : decode prog_45_method_4_code 48 = .ok (.aload_n 1, 1) := by decide +kernel
theorem own_nN_d49 : decode prog_45_method_4_code 49 = .ok (.invokestatic 43, 3) := by decide +kernel
theorem own_nN_d52 : decode prog_45_method_4_code 52 = .ok (.areturn, 1) := by decide +kernel
abbrev own_rmNaN_Q (Z : State) (cz : Int32) (vals mA fA nM nF bM bF oE : Addr) (kv kM kF : ClassId) (xs ts : Addr) (ks : ClassId) (cs : List Int32) (N2 : Int32) (vs : List Value) (n0 : Nat) (h0 : Heap) : Option Value → Heap → List Loc → Prop := fun v h L => ∃ o, v = some (.ref o) ∧ Fr n0 L ∧ Keep h0 h [] ∧ Exa Z h o "java/util/Optional" ∧ Fld Z h o "java/util/Optional" "value" "Ljava/lang/Object;" .null
set_option maxRecDepth 65536 in
set_option maxHeartbeats 40000000 in
theorem own_rmNaN (l : Launch) (Z : State) (a0 : Array Value) (hw : ∀ d ∈ tables_1, d.before a0 Z = true) (cz : Int32) (vals mA fA nM nF bM bF oE : Addr) (kv kM kF : ClassId) (xs ts : Addr) (ks : ClassId) (cs : List Int32) (N2 : Int32) (vs : List Value) (n0 : Nat) (h0 : Heap) (Z0 : n0 ≤ h0.size) (OZ : Ext Z.heap h0) (ES : Exa Z h0 xs "java/lang/String") (VS : Fld Z h0 xs "java/lang/String" "value" "[B" (.ref ts)) (CC : Fld Z h0 xs "java/lang/String" "coder" "B" (.int 0)) (KS : Arv Z h0 ts ks .byte N2 vs (.int 0)) (HC : StrChars.Road.CodA cs 0 N2 vs) (HB : ∀ c ∈ cs, ¬ c < 0 ∧ ¬ (65535 : Int32) < c) (HL : cs.length ≤ 4000) (SB : Sta Z Z.heap "java/lang/String" "COMPACT_STRINGS" "Z" (.int cz)) (hz : ¬ cz = (0 : Int32)) (SV : Sta Z Z.heap "com/example/vestry/vestry/engine/Sex" "$VALUES" "[Lcom/example/vestry/vestry/engine/Sex;" (.ref vals)) (VV : Arv Z Z.heap vals kv (.object "com/example/vestry/vestry/engine/Sex") 2 [.ref mA, .ref fA] .null) (EV : Exa Z Z.heap vals "[Lcom/example/vestry/vestry/engine/Sex;") (SM : Sta Z Z.heap "com/example/vestry/vestry/engine/Sex" "MALE" "Lcom/example/vestry/vestry/engine/Sex;" (.ref mA)) (SF : Sta Z Z.heap "com/example/vestry/vestry/engine/Sex" "FEMALE" "Lcom/example/vestry/vestry/engine/Sex;" (.ref fA)) (EM : Exa Z Z.heap mA "com/example/vestry/vestry/engine/Sex") (EF : Exa Z Z.heap fA "com/example/vestry/vestry/engine/Sex") (NM : Fld Z Z.heap mA "com/example/vestry/vestry/engine/Sex" "name" "Ljava/lang/String;" (.ref nM)) (NF : Fld Z Z.heap fA "com/example/vestry/vestry/engine/Sex" "name" "Ljava/lang/String;" (.ref nF)) (EnM : Exa Z Z.heap nM "java/lang/String") (CnM : Fld Z Z.heap nM "java/lang/String" "coder" "B" (.int 0)) (WnM : Fld Z Z.heap nM "java/lang/String" "value" "[B" (.ref bM)) (AnM : Arv Z Z.heap bM kM .byte 4 [.int 109, .int 97, .int 108, .int 101] (.int 0)) (EnF : Exa Z Z.heap nF "java/lang/String") (CnF : Fld Z Z.heap nF "java/lang/String" "coder" "B" (.int 0)) (WnF : Fld Z Z.heap nF "java/lang/String" "value" "[B" (.ref bF)) (AnF : Arv Z Z.heap bF kF .byte 6 [.int 102, .int 101, .int 109, .int 97, .int 108, .int 101] (.int 0)) (SE : Sta Z Z.heap "java/util/Optional" "EMPTY" "Ljava/util/Optional;" (.ref oE)) (EE : Exa Z Z.heap oE "java/util/Optional") (FE : Fld Z Z.heap oE "java/util/Optional" "value" "Ljava/lang/Object;" .null) (hm : ¬ own_male = cs) (hf : ¬ own_fem = cs) :
    MetFree l (⟨"com/example/vestry/vestry/engine/Sex", "named", "(Ljava/lang/String;)Ljava/util/Optional;"⟩ : MethodName) (head1 [Jvm.Cond.code (⟨"com/example/vestry/vestry/engine/Sex", "named", "(Ljava/lang/String;)Ljava/util/Optional;"⟩ : MethodName) prog_45_method_4_code 6 (some (.object "java/util/Optional"))] ({ frames := 3, cells := 2, slots := 3, locals := 40 } : Room)) (fun aa U => aa = #[(.ref xs)] ∧ Z.Warmed39 U.vm ∧ U.heap = h0) (fun _ _ _ _ _ => True) (fun _ U o U' => ∃ v L, o = .returned v ∧ ((own_rmNaN_Q Z cz vals mA fA nM nF bM bF oE kv kM kF xs ts ks cs N2 vs n0 h0)) v U'.heap L ∧ FrameEnd U o U' L ({ frames := 3, cells := 2, slots := 3, locals := 40 } : Room).cells ({ frames := 3, cells := 2, slots := 3, locals := 40 } : Room).slots) := by
  refine goBody (y := (⟨"com/example/vestry/vestry/engine/Sex", "named", "(Ljava/lang/String;)Ljava/util/Optional;"⟩ : MethodName)) (Q := (own_rmNaN_Q Z cz vals mA fA nM nF bM bF oE kv kM kF xs ts ks cs N2 vs n0 h0)) (plainFor_of_name (by first | (simp [plainName, overriddenIn]; done) | decide +kernel)) ?_
  intro p e s m below meth c T0 hx hZ hby hml hown hnm hret hlk X0 e0
  have hown : s.vm.findClass "com/example/vestry/vestry/engine/Sex" = some m.cls := hown
  refine Go.cast (g' := mkF m 0 #[.val (.ref xs), .unset, .unset, .unset, .unset, .unset] []) (by first | (simp [entryFrame, mkF, argsToLocals, Value.category]; done) | rfl) ?_
  show Go p e below _ T0 (mkF m 0 #[.val (.ref xs), .unset, .unset, .unset, .unset, .unset] [])
  refine Go.of (fun _ kz => XS.aconstNull X0.here hx rfl (hb hby own_nN_d0) kz) ?_
  show Go p e below _ T0 (mkF m 1 #[.val (.ref xs), .unset, .unset, .unset, .unset, .unset] [.null])
  refine Go.of (fun _ kz => XS.astoreN X0.here hx rfl (hb hby own_nN_d1) rfl rfl (l' := #[.val (.ref xs), .val .null, .unset, .unset, .unset, .unset]) rfl kz) ?_
  show Go p e below _ T0 (mkF m 2 #[.val (.ref xs), .val .null, .unset, .unset, .unset, .unset] [])
  refine Go.callS (W := 0) (y := (⟨"com/example/vestry/vestry/engine/Sex", "values", "()[Lcom/example/vestry/vestry/engine/Sex;"⟩ : MethodName)) (argsL := []) (rest := []) X0 hx hZ hown (hw _ (List.mem_of_getElem? (i := 40) rfl)) (hw _ (List.mem_of_getElem? (i := 41) rfl)) (hw _ (List.mem_of_getElem? (i := 38) rfl)) (hw _ (List.mem_of_getElem? (i := 42) rfl)) (by decide) (own_rmV l Z a0 hw vals mA fA kv h0 (SV.ext OZ) (VV.ext OZ) (EV.ext OZ)) e0 (by rw [hml]; rfl) (lenOf own_dsc1 rfl) (hb hby own_nN_d2) rfl (Nat.le_of_eq rfl) (by decide) (by decide) (by decide) (by decide) fun _ T1 L1 X1 q1 => ?_
  obtain ⟨b1, rfl, rfl, E1, V1⟩ := q1
  rw [List.append_nil] at X1
  have sz1 : n0 ≤ T1.heap.size := Nat.le_trans Z0 E1.1
  have kp1 : Keep h0 T1.heap [] := (Keep.refl h0 []).ext E1
  show Go p e below _ T1 (mkF m 5 #[.val (.ref xs), .val .null, .unset, .unset, .unset, .unset] [(.ref b1)])
  refine Go.of (fun _ kz => XS.astoreN X1.here hx rfl (hb hby own_nN_d5) rfl rfl (l' := #[.val (.ref xs), .val .null, .val (.ref b1), .unset, .unset, .unset]) rfl kz) ?_
  show Go p e below _ T1 (mkF m 6 #[.val (.ref xs), .val .null, .val (.ref b1), .unset, .unset, .unset] [])
  refine Go.of (fun _ kz => XS.aloadN X1.here hx rfl (hb hby own_nN_d6) rfl rfl kz) ?_
  show Go p e below _ T1 (mkF m 7 #[.val (.ref xs), .val .null, .val (.ref b1), .unset, .unset, .unset] [(.ref b1)])
  refine Go.len X1 hx hZ rfl V1 (hb hby own_nN_d7) ?_
  show Go p e below _ T1 (mkF m 8 #[.val (.ref xs), .val .null, .val (.ref b1), .unset, .unset, .unset] [(.int (2 : Int32))])
  refine Go.of (fun _ kz => XS.istoreN X1.here hx rfl (hb hby own_nN_d8) rfl (l' := #[.val (.ref xs), .val .null, .val (.ref b1), .val (.int (2 : Int32)), .unset, .unset]) rfl kz) ?_
  show Go p e below _ T1 (mkF m 9 #[.val (.ref xs), .val .null, .val (.ref b1), .val (.int (2 : Int32)), .unset, .unset] [])
  refine Go.of (fun _ kz => XS.iconst X1.here hx rfl (hb hby own_nN_d9) kz) ?_
  show Go p e below _ T1 (mkF m 10 #[.val (.ref xs), .val .null, .val (.ref b1), .val (.int (2 : Int32)), .unset, .unset] [(.int (0 : Int32))])
  refine Go.of (fun _ kz => XS.istore X1.here hx rfl (hb hby own_nN_d10) rfl (l' := #[.val (.ref xs), .val .null, .val (.ref b1), .val (.int (2 : Int32)), .val (.int (0 : Int32)), .unset]) rfl kz) ?_
  show Go p e below _ T1 (mkF m 12 #[.val (.ref xs), .val .null, .val (.ref b1), .val (.int (2 : Int32)), .val (.int (0 : Int32)), .unset] [])
  refine Go.of (fun _ kz => XS.iload X1.here hx rfl (hb hby own_nN_d12) rfl kz) ?_
  show Go p e below _ T1 (mkF m 14 #[.val (.ref xs), .val .null, .val (.ref b1), .val (.int (2 : Int32)), .val (.int (0 : Int32)), .unset] [(.int (0 : Int32))])
  refine Go.of (fun _ kz => XS.iloadN X1.here hx rfl (hb hby own_nN_d14) rfl kz) ?_
  show Go p e below _ T1 (mkF m 15 #[.val (.ref xs), .val .null, .val (.ref b1), .val (.int (2 : Int32)), .val (.int (0 : Int32)), .unset] [(.int (2 : Int32)), (.int (0 : Int32))])
  refine Go.of (fun _ kz => XS.icmpNo X1.here hx rfl (hb hby own_nN_d15) rfl (tlt (by decide : (0 : Int32) < (2 : Int32))).2.1 kz) ?_
  show Go p e below _ T1 (mkF m 18 #[.val (.ref xs), .val .null, .val (.ref b1), .val (.int (2 : Int32)), .val (.int (0 : Int32)), .unset] [])
  refine Go.of (fun _ kz => XS.aloadN X1.here hx rfl (hb hby own_nN_d18) rfl rfl kz) ?_
  show Go p e below _ T1 (mkF m 19 #[.val (.ref xs), .val .null, .val (.ref b1), .val (.int (2 : Int32)), .val (.int (0 : Int32)), .unset] [(.ref b1)])
  refine Go.of (fun _ kz => XS.iload X1.here hx rfl (hb hby own_nN_d19) rfl kz) ?_
  show Go p e below _ T1 (mkF m 21 #[.val (.ref xs), .val .null, .val (.ref b1), .val (.int (2 : Int32)), .val (.int (0 : Int32)), .unset] [(.int (0 : Int32)), (.ref b1)])
  refine Go.aaload X1 hx hZ rfl V1 rfl ⟨by decide, by decide⟩ (v := (.ref mA)) rfl (hb hby own_nN_d21) ?_
  show Go p e below _ T1 (mkF m 22 #[.val (.ref xs), .val .null, .val (.ref b1), .val (.int (2 : Int32)), .val (.int (0 : Int32)), .unset] [(.ref mA)])
  refine Go.of (fun _ kz => XS.astore X1.here hx rfl (hb hby own_nN_d22) rfl rfl (l' := #[.val (.ref xs), .val .null, .val (.ref b1), .val (.int (2 : Int32)), .val (.int (0 : Int32)), .val (.ref mA)]) rfl kz) ?_
  show Go p e below _ T1 (mkF m 24 #[.val (.ref xs), .val .null, .val (.ref b1), .val (.int (2 : Int32)), .val (.int (0 : Int32)), .val (.ref mA)] [])
  refine Go.of (fun _ kz => XS.aload X1.here hx rfl (hb hby own_nN_d24) rfl rfl kz) ?_
  show Go p e below _ T1 (mkF m 26 #[.val (.ref xs), .val .null, .val (.ref b1), .val (.int (2 : Int32)), .val (.int (0 : Int32)), .val (.ref mA)] [(.ref mA)])
  refine Go.getf X1 hx hZ hown (hw _ (List.mem_of_getElem? (i := 57) rfl)) Via.refl rfl ((NM.ext OZ).ext E1) (hb hby own_nN_d26) fun T2 X2 e2 => ?_
  show Go p e below _ T2 (mkF m 29 #[.val (.ref xs), .val .null, .val (.ref b1), .val (.int (2 : Int32)), .val (.int (0 : Int32)), .val (.ref mA)] [(.ref nM)])
  refine Go.of (fun _ kz => XS.aloadN X2.here hx rfl (hb hby own_nN_d29) rfl rfl kz) ?_
  show Go p e below _ T2 (mkF m 30 #[.val (.ref xs), .val .null, .val (.ref b1), .val (.int (2 : Int32)), .val (.int (0 : Int32)), .val (.ref mA)] [(.ref xs), (.ref nM)])
  refine Go.callVB (W := 0) (y := (⟨"java/lang/String", "equals", "(Ljava/lang/Object;)Z"⟩ : MethodName)) (z := (⟨"java/lang/String", "equals", "(Ljava/lang/Object;)Z"⟩ : MethodName)) (a := nM) (argsL := [(.ref xs)]) (rest := []) X2 hx hZ hown (hw _ (List.mem_of_getElem? (i := 59) rfl)) (hw _ (List.mem_of_getElem? (i := 60) rfl)) (notFace_of_selects (args := #[]) (mvT hZ (hw _ (List.mem_of_getElem? (i := 62) rfl)))) (hw _ (List.mem_of_getElem? (i := 62) rfl)) (hw _ (List.mem_of_getElem? (i := 61) rfl)) (by decide) (StrChars.Road.eqW (W := 0) (R := ({ frames := 3, cells := 2, slots := 3, locals := 40 } : Room)) hZ (own_heq Z a0 hw) (kI := 4) (hw _ (List.mem_of_getElem? (i := 4) rfl)) ((EnM.ext OZ).ext E1) ((WnM.ext OZ).ext E1) ((CnM.ext OZ).ext E1) ((AnM.ext OZ).ext E1) own_mCod (own_up own_maleR) (by decide) (ES.ext E1) (VS.ext E1) (CC.ext E1) (KS.ext E1) HC HB HL ((SB.ext OZ).ext E1) hz (by decide) (by decide)) e2 ((EnM.ext OZ).ext E1) (by rw [hml]; rfl) (lenOf own_dsc2 rfl) (hb hby own_nN_d30) rfl (Nat.le_of_eq rfl) (by decide) (by decide) (.int 0) (fun _ q => own_q0 q hm) fun T3 X3 e3 => ?_
  show Go p e below _ T3 (mkF m 33 #[.val (.ref xs), .val .null, .val (.ref b1), .val (.int (2 : Int32)), .val (.int (0 : Int32)), .val (.ref mA)] [(.int (0 : Int32))])
  refine Go.of (fun _ kz => XS.ifYes X3.here hx rfl (pc0 := 33) (pc' := 42) rfl (hb hby own_nN_d33) rfl ((if0 _ _).trans (teq (by decide : (0 : Int32) = (0 : Int32))).1) (by decide) (by decide) kz) ?_
  show Go p e below _ T3 (mkF m 42 #[.val (.ref xs), .val .null, .val (.ref b1), .val (.int (2 : Int32)), .val (.int (0 : Int32)), .val (.ref mA)] [])
  refine Go.of (fun _ kz => XS.iinc X3.here hx rfl (hb hby own_nN_d42) rfl (l' := #[.val (.ref xs), .val .null, .val (.ref b1), .val (.int (2 : Int32)), .val (.int (1 : Int32)), .val (.ref mA)]) rfl kz) ?_
  show Go p e below _ T3 (mkF m 45 #[.val (.ref xs), .val .null, .val (.ref b1), .val (.int (2 : Int32)), .val (.int (1 : Int32)), .val (.ref mA)] [])
  refine Go.of (fun _ kz => XS.goto X3.here hx rfl (pc0 := 45) (pc' := 12) rfl (hb hby own_nN_d45) (by decide) (by decide) kz) ?_
  show Go p e below _ T3 (mkF m 12 #[.val (.ref xs), .val .null, .val (.ref b1), .val (.int (2 : Int32)), .val (.int (1 : Int32)), .val (.ref mA)] [])
  refine Go.of (fun _ kz => XS.iload X3.here hx rfl (hb hby own_nN_d12) rfl kz) ?_
  show Go p e below _ T3 (mkF m 14 #[.val (.ref xs), .val .null, .val (.ref b1), .val (.int (2 : Int32)), .val (.int (1 : Int32)), .val (.ref mA)] [(.int (1 : Int32))])
  refine Go.of (fun _ kz => XS.iloadN X3.here hx rfl (hb hby own_nN_d14) rfl kz) ?_
  show Go p e below _ T3 (mkF m 15 #[.val (.ref xs), .val .null, .val (.ref b1), .val (.int (2 : Int32)), .val (.int (1 : Int32)), .val (.ref mA)] [(.int (2 : Int32)), (.int (1 : Int32))])
  refine Go.of (fun _ kz => XS.icmpNo X3.here hx rfl (hb hby own_nN_d15) rfl (tlt (by decide : (1 : Int32) < (2 : Int32))).2.1 kz) ?_
  show Go p e below _ T3 (mkF m 18 #[.val (.ref xs), .val .null, .val (.ref b1), .val (.int (2 : Int32)), .val (.int (1 : Int32)), .val (.ref mA)] [])
  refine Go.of (fun _ kz => XS.aloadN X3.here hx rfl (hb hby own_nN_d18) rfl rfl kz) ?_
  show Go p e below _ T3 (mkF m 19 #[.val (.ref xs), .val .null, .val (.ref b1), .val (.int (2 : Int32)), .val (.int (1 : Int32)), .val (.ref mA)] [(.ref b1)])
  refine Go.of (fun _ kz => XS.iload X3.here hx rfl (hb hby own_nN_d19) rfl kz) ?_
  show Go p e below _ T3 (mkF m 21 #[.val (.ref xs), .val .null, .val (.ref b1), .val (.int (2 : Int32)), .val (.int (1 : Int32)), .val (.ref mA)] [(.int (1 : Int32)), (.ref b1)])
  refine Go.aaload X3 hx hZ e3 V1 rfl ⟨by decide, by decide⟩ (v := (.ref fA)) rfl (hb hby own_nN_d21) ?_
  show Go p e below _ T3 (mkF m 22 #[.val (.ref xs), .val .null, .val (.ref b1), .val (.int (2 : Int32)), .val (.int (1 : Int32)), .val (.ref mA)] [(.ref fA)])
  refine Go.of (fun _ kz => XS.astore X3.here hx rfl (hb hby own_nN_d22) rfl rfl (l' := #[.val (.ref xs), .val .null, .val (.ref b1), .val (.int (2 : Int32)), .val (.int (1 : Int32)), .val (.ref fA)]) rfl kz) ?_
  show Go p e below _ T3 (mkF m 24 #[.val (.ref xs), .val .null, .val (.ref b1), .val (.int (2 : Int32)), .val (.int (1 : Int32)), .val (.ref fA)] [])
  refine Go.of (fun _ kz => XS.aload X3.here hx rfl (hb hby own_nN_d24) rfl rfl kz) ?_
  show Go p e below _ T3 (mkF m 26 #[.val (.ref xs), .val .null, .val (.ref b1), .val (.int (2 : Int32)), .val (.int (1 : Int32)), .val (.ref fA)] [(.ref fA)])
  refine Go.getf X3 hx hZ hown (hw _ (List.mem_of_getElem? (i := 57) rfl)) Via.refl e3 ((NF.ext OZ).ext E1) (hb hby own_nN_d26) fun T4 X4 e4 => ?_
  show Go p e below _ T4 (mkF m 29 #[.val (.ref xs), .val .null, .val (.ref b1), .val (.int (2 : Int32)), .val (.int (1 : Int32)), .val (.ref fA)] [(.ref nF)])
  refine Go.of (fun _ kz => XS.aloadN X4.here hx rfl (hb hby own_nN_d29) rfl rfl kz) ?_
  show Go p e below _ T4 (mkF m 30 #[.val (.ref xs), .val .null, .val (.ref b1), .val (.int (2 : Int32)), .val (.int (1 : Int32)), .val (.ref fA)] [(.ref xs), (.ref nF)])
  refine Go.callVB (W := 0) (y := (⟨"java/lang/String", "equals", "(Ljava/lang/Object;)Z"⟩ : MethodName)) (z := (⟨"java/lang/String", "equals", "(Ljava/lang/Object;)Z"⟩ : MethodName)) (a := nF) (argsL := [(.ref xs)]) (rest := []) X4 hx hZ hown (hw _ (List.mem_of_getElem? (i := 59) rfl)) (hw _ (List.mem_of_getElem? (i := 60) rfl)) (notFace_of_selects (args := #[]) (mvT hZ (hw _ (List.mem_of_getElem? (i := 62) rfl)))) (hw _ (List.mem_of_getElem? (i := 62) rfl)) (hw _ (List.mem_of_getElem? (i := 61) rfl)) (by decide) (StrChars.Road.eqW (W := 0) (R := ({ frames := 3, cells := 2, slots := 3, locals := 40 } : Room)) hZ (own_heq Z a0 hw) (kI := 4) (hw _ (List.mem_of_getElem? (i := 4) rfl)) ((EnF.ext OZ).ext E1) ((WnF.ext OZ).ext E1) ((CnF.ext OZ).ext E1) ((AnF.ext OZ).ext E1) own_fCod (own_up own_femR) (by decide) (ES.ext E1) (VS.ext E1) (CC.ext E1) (KS.ext E1) HC HB HL ((SB.ext OZ).ext E1) hz (by decide) (by decide)) e4 ((EnF.ext OZ).ext E1) (by rw [hml]; rfl) (lenOf own_dsc2 rfl) (hb hby own_nN_d30) rfl (Nat.le_of_eq rfl) (by decide) (by decide) (.int 0) (fun _ q => own_q0 q hf) fun T5 X5 e5 => ?_
  show Go p e below _ T5 (mkF m 33 #[.val (.ref xs), .val .null, .val (.ref b1), .val (.int (2 : Int32)), .val (.int (1 : Int32)), .val (.ref fA)] [(.int (0 : Int32))])
  refine Go.of (fun _ kz => XS.ifYes X5.here hx rfl (pc0 := 33) (pc' := 42) rfl (hb hby own_nN_d33) rfl ((if0 _ _).trans (teq (by decide : (0 : Int32) = (0 : Int32))).1) (by decide) (by decide) kz) ?_
  show Go p e below _ T5 (mkF m 42 #[.val (.ref xs), .val .null, .val (.ref b1), .val (.int (2 : Int32)), .val (.int (1 : Int32)), .val (.ref fA)] [])
  refine Go.of (fun _ kz => XS.iinc X5.here hx rfl (hb hby own_nN_d42) rfl (l' := #[.val (.ref xs), .val .null, .val (.ref b1), .val (.int (2 : Int32)), .val (.int (2 : Int32)), .val (.ref fA)]) rfl kz) ?_
  show Go p e below _ T5 (mkF m 45 #[.val (.ref xs), .val .null, .val (.ref b1), .val (.int (2 : Int32)), .val (.int (2 : Int32)), .val (.ref fA)] [])
  refine Go.of (fun _ kz => XS.goto X5.here hx rfl (pc0 := 45) (pc' := 12) rfl (hb hby own_nN_d45) (by decide) (by decide) kz) ?_
  show Go p e below _ T5 (mkF m 12 #[.val (.ref xs), .val .null, .val (.ref b1), .val (.int (2 : Int32)), .val (.int (2 : Int32)), .val (.ref fA)] [])
  refine Go.of (fun _ kz => XS.iload X5.here hx rfl (hb hby own_nN_d12) rfl kz) ?_
  show Go p e below _ T5 (mkF m 14 #[.val (.ref xs), .val .null, .val (.ref b1), .val (.int (2 : Int32)), .val (.int (2 : Int32)), .val (.ref fA)] [(.int (2 : Int32))])
  refine Go.of (fun _ kz => XS.iloadN X5.here hx rfl (hb hby own_nN_d14) rfl kz) ?_
  show Go p e below _ T5 (mkF m 15 #[.val (.ref xs), .val .null, .val (.ref b1), .val (.int (2 : Int32)), .val (.int (2 : Int32)), .val (.ref fA)] [(.int (2 : Int32)), (.int (2 : Int32))])
  refine Go.of (fun _ kz => XS.icmpYes X5.here hx rfl (pc0 := 15) (pc' := 48) rfl (hb hby own_nN_d15) rfl (flt (by decide : ¬ ((2 : Int32) < (2 : Int32)))).2.1 (by decide) (by decide) kz) ?_
  show Go p e below _ T5 (mkF m 48 #[.val (.ref xs), .val .null, .val (.ref b1), .val (.int (2 : Int32)), .val (.int (2 : Int32)), .val (.ref fA)] [])
  refine Go.of (fun _ kz => XS.aloadN X5.here hx rfl (hb hby own_nN_d48) rfl rfl kz) ?_
  show Go p e below _ T5 (mkF m 49 #[.val (.ref xs), .val .null, .val (.ref b1), .val (.int (2 : Int32)), .val (.int (2 : Int32)), .val (.ref fA)] [.null])
  refine Go.callSP (W := 0) (y := (⟨"java/util/Optional", "ofNullable", "(Ljava/lang/Object;)Ljava/util/Optional;"⟩ : MethodName)) (argsL := [.null]) (rest := []) (r := some (.ref oE)) X5 hx hZ hown (hw _ (List.mem_of_getElem? (i := 69) rfl)) (hw _ (List.mem_of_getElem? (i := 70) rfl)) (hw _ (List.mem_of_getElem? (i := 71) rfl)) (hw _ (List.mem_of_getElem? (i := 72) rfl)) (by decide) (own_rmON l Z a0 hw oE T1.heap ((SE.ext OZ).ext E1)) e5 (by rw [hml]; rfl) (lenOf own_dsc3 rfl) (hb hby own_nN_d49) rfl (by decide) (by decide) (by decide) (by decide) (by decide) fun T6 X6 e6 => ?_
  show Go p e below _ T6 (mkF m 52 #[.val (.ref xs), .val .null, .val (.ref b1), .val (.int (2 : Int32)), .val (.int (2 : Int32)), .val (.ref fA)] [(.ref oE)])
  exact Go.retA X6 hx hlk hret rfl rfl rfl (hb hby own_nN_d52) (by decide) (by decide) (by rw [e6]; exact ⟨oE, rfl, (Fr.nil n0), kp1, ((EE.ext OZ).ext E1), ((FE.ext OZ).ext E1)⟩)
theorem own_sd0 : decode jdk_42_method_149_code 0 = .ok (.aload_n 0, 1) := by decide +kernel
theorem own_sd1 : decode jdk_42_method_149_code 1 = .ok (.invokespecial 1, 3) := by decide +kernel
theorem own_sd4 : decode jdk_42_method_149_code 4 = .ok (.iload_n 3, 1) := by decide +kernel
theorem own_sd5 : decode jdk_42_method_149_code 5 = .ok (.ifCond .ne 22, 3) := by decide +kernel
theorem own_sd8 : decode jdk_42_method_149_code 8 = .ok (.aload_n 0, 1) := by decide +kernel
theorem own_sd9 : decode jdk_42_method_149_code 9 = .ok (.ldc 7, 2) := by decide +kernel
theorem own_sd11 : decode jdk_42_method_149_code 11 = .ok (.getfield 9, 3) := by decide +kernel
theorem own_sd14 : decode jdk_42_method_149_code 14 = .ok (.putfield 9, 3) := by decide +kernel
theorem own_sd17 : decode jdk_42_method_149_code 17 = .ok (.aload_n 0, 1) := by decide +kernel
theorem own_sd18 : decode jdk_42_method_149_code 18 = .ok (.ldc 7, 2) := by decide +kernel
theorem own_sd20 : decode jdk_42_method_149_code 20 = .ok (.getfield 15, 3) := by decide +kernel
theorem own_sd23 : decode jdk_42_method_149_code 23 = .ok (.putfield 15, 3) := by decide +kernel
theorem own_sd26 : decode jdk_42_method_149_code 26 = .ok (.return_, 1) := by decide +kernel
abbrev own_rmS4_Q (Z : State) (x b : Addr) (n0 : Nat) (h0 : Heap) : Option Value → Heap → List Loc → Prop := fun v h L => v = none ∧ Fr n0 L ∧ Keep h0 h [x] ∧ Exa Z h x "java/lang/String" ∧ Fld Z h x "java/lang/String" "coder" "B" (.int 0) ∧ ∃ t kb, Fld Z h x "java/lang/String" "value" "[B" (.ref t) ∧ Arv Z h t kb .byte 0 [] (.int 0)
set_option maxRecDepth 65536 in
set_option maxHeartbeats 40000000 in
theorem own_rmS4 (l : Launch) (Z : State) (a0 : Array Value) (hw : ∀ d ∈ tables_1, d.before a0 Z = true) (x b : Addr) (n0 : Nat) (h0 : Heap) (Z0 : n0 ≤ h0.size) (gx : n0 ≤ x) (EX : Exa Z h0 x "java/lang/String") (FV : Fld Z h0 x "java/lang/String" "value" "[B" .null) (FC : Fld Z h0 x "java/lang/String" "coder" "B" (.int (0 : Int32))) :
    MetFree l (⟨"java/lang/String", "<init>", "([CIILjava/lang/Void;)V"⟩ : MethodName) (head1 [Jvm.Cond.code (⟨"java/lang/String", "<init>", "([CIILjava/lang/Void;)V"⟩ : MethodName) jdk_42_method_149_code 6 none] ({ frames := 1, cells := 4, slots := 8, locals := 12 } : Room)) (fun aa U => aa = #[(.ref x), (.ref b), (.int (0 : Int32)), (.int (0 : Int32)), .null] ∧ Z.Warmed39 U.vm ∧ U.heap = h0 ∧ CHv Z consts_1 U.vm h0 ∧ Safe Z consts_1 U.vm h0 x) (fun _ _ _ _ _ => True) (fun _ U o U' => ∃ v L, o = .returned v ∧ ((own_rmS4_Q Z x b n0 h0)) v U'.heap L ∧ CHr Z consts_1 U.vm U.heap U'.vm U'.heap ∧ ReturnedEndW U o U' L ({ frames := 1, cells := 4, slots := 8, locals := 12 } : Room).cells ({ frames := 1, cells := 4, slots := 8, locals := 12 } : Room).slots) := by
  refine goBodyHS (y := (⟨"java/lang/String", "<init>", "([CIILjava/lang/Void;)V"⟩ : MethodName)) (Q := (own_rmS4_Q Z x b n0 h0)) (plainFor_of_name (by first | (simp [plainName, overriddenIn]; done) | decide +kernel)) ?_
  intro p e s m below meth c T0 hx hZ hby hml hown hnm hret hlk X0 e0 hS hs0 hC hO
  have hEL := own_EW Z a0 hw
  have wS : ∀ d ∈ Bundle.stringAtoms, d.before a0 Z = true := fun d hd => by
    simp only [Bundle.stringAtoms, List.mem_cons, List.not_mem_nil, or_false] at hd
    rcases hd with rfl | rfl | rfl | rfl | rfl | rfl | rfl
    · exact (hw _ (List.mem_of_getElem? (i := 5) rfl))
    · exact (hw _ (List.mem_of_getElem? (i := 4) rfl))
    · exact (hw _ (List.mem_of_getElem? (i := 25) rfl))
    · exact (hw _ (List.mem_of_getElem? (i := 35) rfl))
    · exact (hw _ (List.mem_of_getElem? (i := 33) rfl))
    · exact (hw _ (List.mem_of_getElem? (i := 82) rfl))
    · exact (hw _ (List.mem_of_getElem? (i := 83) rfl))
  have hk : 0 ≤ h0.size := Nat.zero_le _
  have hown : s.vm.findClass "java/lang/String" = some m.cls := hown
  refine Go.cast (g' := mkF m 0 #[.val (.ref x), .val (.ref b), .val (.int (0 : Int32)), .val (.int (0 : Int32)), .val .null, .unset] []) (by first | (simp [entryFrame, mkF, argsToLocals, Value.category]; done) | rfl) ?_
  show Go p e below _ T0 (mkF m 0 #[.val (.ref x), .val (.ref b), .val (.int (0 : Int32)), .val (.int (0 : Int32)), .val .null, .unset] [])
  refine Go.of (fun _ kz => XS.aloadN X0.here hx rfl (hb hby own_sd0) rfl rfl kz) ?_
  show Go p e below _ T0 (mkF m 1 #[.val (.ref x), .val (.ref b), .val (.int (0 : Int32)), .val (.int (0 : Int32)), .val .null, .unset] [(.ref x)])
  refine Go.initObj X0 hx hZ hown (hw _ (List.mem_of_getElem? (i := 17) rfl)) (hw _ (List.mem_of_getElem? (i := 18) rfl)) (hw _ (List.mem_of_getElem? (i := 19) rfl)) e0 (by rw [hml]; rfl) (hb hby own_sd1) (by decide) (W := 0) (Nat.le_of_eq rfl) (by decide) fun T1 X1 e1 => ?_
  show Go p e below _ T1 (mkF m 4 #[.val (.ref x), .val (.ref b), .val (.int (0 : Int32)), .val (.int (0 : Int32)), .val .null, .unset] [])
  refine Go.of (fun _ kz => XS.iloadN X1.here hx rfl (hb hby own_sd4) rfl kz) ?_
  show Go p e below _ T1 (mkF m 5 #[.val (.ref x), .val (.ref b), .val (.int (0 : Int32)), .val (.int (0 : Int32)), .val .null, .unset] [(.int (0 : Int32))])
  refine Go.of (fun _ kz => XS.ifNo X1.here hx rfl (hb hby own_sd5) rfl ((if0 _ _).trans (teq (by decide : (0 : Int32) = (0 : Int32))).2) kz) ?_
  show Go p e below _ T1 (mkF m 8 #[.val (.ref x), .val (.ref b), .val (.int (0 : Int32)), .val (.int (0 : Int32)), .val .null, .unset] [])
  refine Go.of (fun _ kz => XS.aloadN X1.here hx rfl (hb hby own_sd8) rfl rfl kz) ?_
  show Go p e below _ T1 (mkF m 9 #[.val (.ref x), .val (.ref b), .val (.int (0 : Int32)), .val (.int (0 : Int32)), .val .null, .unset] [(.ref x)])
  refine Go.ldcH X1 hx hZ hown (hw _ (List.mem_of_getElem? (i := 86) rfl)) wS e1 hS hk hEL (List.mem_of_getElem? (i := 2) rfl) hC (z := 0) (vs := []) own_txt0 (by decide) rfl (hb hby own_sd9) 0 (by decide) (by decide) (by decide) (by decide) fun b2 T2 h2 k2 c2 kc2 X2 e2 E2 hS hk2 hZ hown A2 C2 D2 V2 hC M2 => ?_
  have sz2 : n0 ≤ h2.size := Nat.le_trans Z0 E2.1
  have kp2 : Keep h0 h2 [x] := (Keep.refl h0 [x]).ext E2
  have sf2_x := hC.safe EX.lt hO
  show Go p e below _ T2 (mkF m 11 #[.val (.ref x), .val (.ref b), .val (.int (0 : Int32)), .val (.int (0 : Int32)), .val .null, .unset] [(.ref b2), (.ref x)])
  refine Go.getf X2 hx hZ hown (hw _ (List.mem_of_getElem? (i := 34) rfl)) Via.refl e2 D2 (hb hby own_sd11) fun T3 X3 e3 => ?_
  show Go p e below _ T3 (mkF m 14 #[.val (.ref x), .val (.ref b), .val (.int (0 : Int32)), .val (.int (0 : Int32)), .val .null, .unset] [(.ref c2), (.ref x)])
  refine Go.putf X3 hx hZ hown (hw _ (List.mem_of_getElem? (i := 34) rfl)) Via.refl e3 (FV.ext E2) (EX.ext E2) (Or.inr ⟨(hw _ (List.mem_of_getElem? (i := 35) rfl)), rfl, hnm⟩) (hw _ (List.mem_of_getElem? (i := 4) rfl)) (ty := (.array .byte)) (by decide) rfl rfl (hb hby own_sd14) fun T4 h4 X4 e4 W4 F4 A4 => ?_
  have sf4_x := Safe.wr W4 sf2_x hC.1 sf2_x
  have hC := hC.trans (CHr.wr W4 sf2_x hC.1)
  have sz4 : n0 ≤ h4.size := Nat.le_trans sz2 (Keep.of_wr W4).1
  have hk4 : k2 ≤ h4.size := Nat.le_trans hk2 (Keep.of_wr W4).1
  have kp4 : Keep h0 h4 [x] := kp2.wr W4 (Or.inl (List.mem_of_getElem? (i := 0) rfl))
  have N4 := Fr.snoc X4 (Fr.nil n0) gx
  show Go p e below _ T4 (mkF m 17 #[.val (.ref x), .val (.ref b), .val (.int (0 : Int32)), .val (.int (0 : Int32)), .val .null, .unset] [])
  refine Go.of (fun _ kz => XS.aloadN X4.here hx rfl (hb hby own_sd17) rfl rfl kz) ?_
  show Go p e below _ T4 (mkF m 18 #[.val (.ref x), .val (.ref b), .val (.int (0 : Int32)), .val (.int (0 : Int32)), .val .null, .unset] [(.ref x)])
  refine Go.ldcH X4 hx hZ hown (hw _ (List.mem_of_getElem? (i := 86) rfl)) wS e4 hS hk4 hEL (List.mem_of_getElem? (i := 2) rfl) hC (z := 0) (vs := []) own_txt0 (by decide) rfl (hb hby own_sd18) 0 (by decide) (by decide) (by decide) (by decide) fun b5 T5 h5 k5 c5 kc5 X5 e5 E5 hS hk5 hZ hown A5 C5 D5 V5 hC M5 => ?_
  have sz5 : n0 ≤ h5.size := Nat.le_trans sz4 E5.1
  have kp5 : Keep h0 h5 [x] := kp4.ext E5
  have sf5_x := hC.safe EX.lt hO
  show Go p e below _ T5 (mkF m 20 #[.val (.ref x), .val (.ref b), .val (.int (0 : Int32)), .val (.int (0 : Int32)), .val .null, .unset] [(.ref b5), (.ref x)])
  refine Go.getf X5 hx hZ hown (hw _ (List.mem_of_getElem? (i := 32) rfl)) Via.refl e5 C5 (hb hby own_sd20) fun T6 X6 e6 => ?_
  show Go p e below _ T6 (mkF m 23 #[.val (.ref x), .val (.ref b), .val (.int (0 : Int32)), .val (.int (0 : Int32)), .val .null, .unset] [(.int (0 : Int32)), (.ref x)])
  refine Go.putf X6 hx hZ hown (hw _ (List.mem_of_getElem? (i := 32) rfl)) Via.refl e6 (((FC.ext E2).other W4 (Or.inr (slot_ne (Or.inr (hw _ (List.mem_of_getElem? (i := 33) rfl))) (Or.inr (hw _ (List.mem_of_getElem? (i := 35) rfl))) (by decide) (t := .byte) (t' := (.array .byte)) (by decide) (by decide)))).ext E5) (A4.ext E5) (Or.inr ⟨(hw _ (List.mem_of_getElem? (i := 33) rfl)), rfl, hnm⟩) (hw _ (List.mem_of_getElem? (i := 4) rfl)) (ty := .byte) (by decide) rfl (fits_nar_byte _) (hb hby own_sd23) fun T7 h7 X7 e7 W7 F7 A7 => ?_
  have sf7_x := Safe.wr W7 sf5_x hC.1 sf5_x
  have hC := hC.trans (CHr.wr W7 sf5_x hC.1)
  have sz7 : n0 ≤ h7.size := Nat.le_trans sz5 (Keep.of_wr W7).1
  have hk7 : k5 ≤ h7.size := Nat.le_trans hk5 (Keep.of_wr W7).1
  have kp7 : Keep h0 h7 [x] := kp5.wr W7 (Or.inl (List.mem_of_getElem? (i := 0) rfl))
  have N7 := Fr.snoc X7 N4 gx
  show Go p e below _ T7 (mkF m 26 #[.val (.ref x), .val (.ref b), .val (.int (0 : Int32)), .val (.int (0 : Int32)), .val .null, .unset] [])
  exact Go.retVH X7 hx hZ hEL hs0 e7 hC hS (by rw [e7]; exact hk7) hlk hret (hb hby own_sd26) (by decide) (by decide) (by rw [e7]; exact ⟨rfl, N7, kp7, A7, F7, c2, kc2, ((F4.ext E5).other W7 (Or.inr (slot_ne (Or.inr (hw _ (List.mem_of_getElem? (i := 35) rfl))) (Or.inr (hw _ (List.mem_of_getElem? (i := 33) rfl))) (by decide) (t := (.array .byte)) (t' := .byte) (by decide) (by decide)))), (((V2.other W4 (Ne.symm (M2 _ sf2_x).2)).ext E5).other W7 (Ne.symm (M2 _ sf2_x).2))⟩)
theorem own_td0 : decode jdk_42_method_3_code 0 = .ok (.aload_n 0, 1) := by decide +kernel
theorem own_td1 : decode jdk_42_method_3_code 1 = .ok (.aload_n 1, 1) := by decide +kernel
theorem own_td2 : decode jdk_42_method_3_code 2 = .ok (.iconst 0, 1) := by decide +kernel
theorem own_td3 : decode jdk_42_method_3_code 3 = .ok (.aload_n 1, 1) := by decide +kernel
theorem own_td4 : decode jdk_42_method_3_code 4 = .ok (.arraylength, 1) := by decide +kernel
theorem own_td5 : decode jdk_42_method_3_code 5 = .ok (.aconst_null, 1) := by decide +kernel
theorem own_td6 : decode jdk_42_method_3_code 6 = .ok (.invokespecial 27, 3) := by decide +kernel
theorem own_td9 : decode jdk_42_method_3_code 9 = .ok (.return_, 1) := by decide +kernel
abbrev own_rmS1_Q (Z : State) (x b : Addr) (kb : ClassId) (n0 : Nat) (h0 : Heap) : Option Value → Heap → List Loc → Prop := fun v h L => v = none ∧ Fr n0 L ∧ Keep h0 h [x] ∧ Exa Z h x "java/lang/String" ∧ Fld Z h x "java/lang/String" "coder" "B" (.int 0) ∧ ∃ t kb, Fld Z h x "java/lang/String" "value" "[B" (.ref t) ∧ Arv Z h t kb .byte 0 [] (.int 0)
set_option maxRecDepth 65536 in
set_option maxHeartbeats 40000000 in
theorem own_rmS1 (l : Launch) (Z : State) (a0 : Array Value) (hw : ∀ d ∈ tables_1, d.before a0 Z = true) (x b : Addr) (kb : ClassId) (n0 : Nat) (h0 : Heap) (Z0 : n0 ≤ h0.size) (gx : n0 ≤ x) (EX : Exa Z h0 x "java/lang/String") (FV : Fld Z h0 x "java/lang/String" "value" "[B" .null) (FC : Fld Z h0 x "java/lang/String" "coder" "B" (.int (0 : Int32))) (VB : Arv Z h0 b kb .char 0 [] (.int 0)) :
    MetFree l (⟨"java/lang/String", "<init>", "([C)V"⟩ : MethodName) (head1 [Jvm.Cond.code (⟨"java/lang/String", "<init>", "([C)V"⟩ : MethodName) jdk_42_method_3_code 2 none] ({ frames := 2, cells := 4, slots := 8, locals := 29 } : Room)) (fun aa U => aa = #[(.ref x), (.ref b)] ∧ Z.Warmed39 U.vm ∧ U.heap = h0 ∧ CHv Z consts_1 U.vm h0 ∧ Safe Z consts_1 U.vm h0 x) (fun _ _ _ _ _ => True) (fun _ U o U' => ∃ v L, o = .returned v ∧ ((own_rmS1_Q Z x b kb n0 h0)) v U'.heap L ∧ CHr Z consts_1 U.vm U.heap U'.vm U'.heap ∧ ReturnedEndW U o U' L ({ frames := 2, cells := 4, slots := 8, locals := 29 } : Room).cells ({ frames := 2, cells := 4, slots := 8, locals := 29 } : Room).slots) := by
  refine goBodyHS (y := (⟨"java/lang/String", "<init>", "([C)V"⟩ : MethodName)) (Q := (own_rmS1_Q Z x b kb n0 h0)) (plainFor_of_name (by first | (simp [plainName, overriddenIn]; done) | decide +kernel)) ?_
  intro p e s m below meth c T0 hx hZ hby hml hown hnm hret hlk X0 e0 hS hs0 hC hO
  have hEL := own_EW Z a0 hw
  have wS : ∀ d ∈ Bundle.stringAtoms, d.before a0 Z = true := fun d hd => by
    simp only [Bundle.stringAtoms, List.mem_cons, List.not_mem_nil, or_false] at hd
    rcases hd with rfl | rfl | rfl | rfl | rfl | rfl | rfl
    · exact (hw _ (List.mem_of_getElem? (i := 5) rfl))
    · exact (hw _ (List.mem_of_getElem? (i := 4) rfl))
    · exact (hw _ (List.mem_of_getElem? (i := 25) rfl))
    · exact (hw _ (List.mem_of_getElem? (i := 35) rfl))
    · exact (hw _ (List.mem_of_getElem? (i := 33) rfl))
    · exact (hw _ (List.mem_of_getElem? (i := 82) rfl))
    · exact (hw _ (List.mem_of_getElem? (i := 83) rfl))
  have hk : 0 ≤ h0.size := Nat.zero_le _
  have hown : s.vm.findClass "java/lang/String" = some m.cls := hown
  refine Go.cast (g' := mkF m 0 #[.val (.ref x), .val (.ref b)] []) (by first | (simp [entryFrame, mkF, argsToLocals, Value.category]; done) | rfl) ?_
  show Go p e below _ T0 (mkF m 0 #[.val (.ref x), .val (.ref b)] [])
  refine Go.of (fun _ kz => XS.aloadN X0.here hx rfl (hb hby own_td0) rfl rfl kz) ?_
  show Go p e below _ T0 (mkF m 1 #[.val (.ref x), .val (.ref b)] [(.ref x)])
  refine Go.of (fun _ kz => XS.aloadN X0.here hx rfl (hb hby own_td1) rfl rfl kz) ?_
  show Go p e below _ T0 (mkF m 2 #[.val (.ref x), .val (.ref b)] [(.ref b), (.ref x)])
  refine Go.of (fun _ kz => XS.iconst X0.here hx rfl (hb hby own_td2) kz) ?_
  show Go p e below _ T0 (mkF m 3 #[.val (.ref x), .val (.ref b)] [(.int (0 : Int32)), (.ref b), (.ref x)])
  refine Go.of (fun _ kz => XS.aloadN X0.here hx rfl (hb hby own_td3) rfl rfl kz) ?_
  show Go p e below _ T0 (mkF m 4 #[.val (.ref x), .val (.ref b)] [(.ref b), (.int (0 : Int32)), (.ref b), (.ref x)])
  refine Go.len X0 hx hZ e0 VB (hb hby own_td4) ?_
  show Go p e below _ T0 (mkF m 5 #[.val (.ref x), .val (.ref b)] [(.int (0 : Int32)), (.int (0 : Int32)), (.ref b), (.ref x)])
  refine Go.of (fun _ kz => XS.aconstNull X0.here hx rfl (hb hby own_td5) kz) ?_
  show Go p e below _ T0 (mkF m 6 #[.val (.ref x), .val (.ref b)] [.null, (.int (0 : Int32)), (.int (0 : Int32)), (.ref b), (.ref x)])
  refine Go.callIHS (W := 0) (y := (⟨"java/lang/String", "<init>", "([CIILjava/lang/Void;)V"⟩ : MethodName)) (a := x) (argsL := [(.ref b), (.int (0 : Int32)), (.int (0 : Int32)), .null]) (rest := []) X0 hx hZ rfl hown (hw _ (List.mem_of_getElem? (i := 13) rfl)) (hw _ (List.mem_of_getElem? (i := 14) rfl)) (hw _ (List.mem_of_getElem? (i := 5) rfl)) (hw _ (List.mem_of_getElem? (i := 16) rfl)) (by decide) (own_rmS4 l Z a0 hw x b n0 h0 Z0 gx EX FV FC) e0 hS hk hEL hC EX.lt hO (by rw [hml]; rfl) (lenOf own_dsc4 rfl) (hb hby own_td6) rfl (Nat.le_of_eq rfl) (by decide) (by decide) (by decide) (by decide) fun _ T1 L1 X1 hS hZ hown hC q1 => ?_
  obtain ⟨rfl, N1q, K1, A1, C1, t1, kt1, D1, V1⟩ := q1
  show Go p e below _ T1 (mkF m 9 #[.val (.ref x), .val (.ref b)] [])
  exact Go.retVH X1 hx hZ hEL hs0 rfl hC hS (Nat.le_refl _) hlk hret (hb hby own_td9) (by decide) (by decide) ⟨rfl, Fr.app (Fr.nil _) N1q, K1, A1, C1, t1, kt1, D1, V1⟩
set_option maxRecDepth 65536 in
set_option maxHeartbeats 40000000 in
theorem own_E (l : Launch) (Z : State) (a0 : Array Value) (hw : ∀ d ∈ tables_1, d.before a0 Z = true) (p : Program) (e : Env) (s : State) (vm0 : Vm) (m : MethodId) (args : Array Value) (below : List Frame) (meth : Method) (c : Code) (T0 : State) (locs : List Loc) (k0 : Nat) (h0 hst : Heap) (xa xb xc xd : Int32) (w : Int64) (ar : Addr) (kk pp nn : Int32) (xs ts : Addr) (ks : ClassId) (cs : List Int32) (N2 : Int32) (vs : List Value) (cz : Int32) (vals mA fA nM nF bM bF oE : Addr) (kv kM kF : ClassId)
    (hx : p.tables.exec = Jvm.exec) (hZ : Z.Warmed39 vm0) (hby : c.code = code) (hml : c.maxLocals = 14) (hown : vm0.findClass "com/example/vestry/vestry/engine/SexNamedPinLaw" = some m.cls) (hret : meth.sig.returnType = some .boolean) (hlk : meth.locks = false) (hS : s.Since vm0 k0) (hk : k0 ≤ h0.size) (hs0 : s.heap = hst) (hC : CHr Z consts_1 s.vm hst vm0 h0) (X0 : Stand p l e room_1 (s.setVm vm0) m args below meth c T0 locs 12 48) (e0 : T0.heap = h0) (N0 : Fr hst.size locs) (Z0 : hst.size ≤ h0.size) (OZ : Old Z hst.size h0) (ES : Exa Z h0 xs "java/lang/String") (VS : Fld Z h0 xs "java/lang/String" "value" "[B" (.ref ts)) (CC : Fld Z h0 xs "java/lang/String" "coder" "B" (.int 0)) (KS : Arv Z h0 ts ks .byte N2 vs (.int 0)) (HC : StrChars.Road.CodA cs 0 N2 vs) (HB : ∀ c ∈ cs, ¬ c < 0 ∧ ¬ (65535 : Int32) < c) (HL : cs.length ≤ 4000) (SB : Sta Z Z.heap "java/lang/String" "COMPACT_STRINGS" "Z" (.int cz)) (hz : ¬ cz = (0 : Int32)) (SV : Sta Z Z.heap "com/example/vestry/vestry/engine/Sex" "$VALUES" "[Lcom/example/vestry/vestry/engine/Sex;" (.ref vals)) (VV : Arv Z Z.heap vals kv (.object "com/example/vestry/vestry/engine/Sex") 2 [.ref mA, .ref fA] .null) (EV : Exa Z Z.heap vals "[Lcom/example/vestry/vestry/engine/Sex;") (SM : Sta Z Z.heap "com/example/vestry/vestry/engine/Sex" "MALE" "Lcom/example/vestry/vestry/engine/Sex;" (.ref mA)) (SF : Sta Z Z.heap "com/example/vestry/vestry/engine/Sex" "FEMALE" "Lcom/example/vestry/vestry/engine/Sex;" (.ref fA)) (EM : Exa Z Z.heap mA "com/example/vestry/vestry/engine/Sex") (EF : Exa Z Z.heap fA "com/example/vestry/vestry/engine/Sex") (NM : Fld Z Z.heap mA "com/example/vestry/vestry/engine/Sex" "name" "Ljava/lang/String;" (.ref nM)) (NF : Fld Z Z.heap fA "com/example/vestry/vestry/engine/Sex" "name" "Ljava/lang/String;" (.ref nF)) (EnM : Exa Z Z.heap nM "java/lang/String") (CnM : Fld Z Z.heap nM "java/lang/String" "coder" "B" (.int 0)) (WnM : Fld Z Z.heap nM "java/lang/String" "value" "[B" (.ref bM)) (AnM : Arv Z Z.heap bM kM .byte 4 [.int 109, .int 97, .int 108, .int 101] (.int 0)) (EnF : Exa Z Z.heap nF "java/lang/String") (CnF : Fld Z Z.heap nF "java/lang/String" "coder" "B" (.int 0)) (WnF : Fld Z Z.heap nF "java/lang/String" "value" "[B" (.ref bF)) (AnF : Arv Z Z.heap bF kF .byte 6 [.int 102, .int 101, .int 109, .int 97, .int 108, .int 101] (.int 0)) (SE : Sta Z Z.heap "java/util/Optional" "EMPTY" "Ljava/util/Optional;" (.ref oE)) (EE : Exa Z Z.heap oE "java/util/Optional") (FE : Fld Z Z.heap oE "java/util/Optional" "value" "Ljava/lang/Object;" .null) :
    Go p e below (GoEndH Z consts_1 s room_1.cells room_1.slots (fun v _ L => v = some (.int 1) ∧ Fr hst.size L)) T0 (mkF m 222 #[.val (.int xa), .val (.int xb), .val (.int xc), .val (.int xd), .val (.long w), .second, .val (.ref ar), .val (.int kk), .val (.int pp), .val (.int nn), .unset, .unset, .unset, .unset] [(.ref xs)]) := by
  have hEL := own_EW Z a0 hw
  have wS : ∀ d ∈ Bundle.stringAtoms, d.before a0 Z = true := fun d hd => by
    simp only [Bundle.stringAtoms, List.mem_cons, List.not_mem_nil, or_false] at hd
    rcases hd with rfl | rfl | rfl | rfl | rfl | rfl | rfl
    · exact (hw _ (List.mem_of_getElem? (i := 5) rfl))
    · exact (hw _ (List.mem_of_getElem? (i := 4) rfl))
    · exact (hw _ (List.mem_of_getElem? (i := 25) rfl))
    · exact (hw _ (List.mem_of_getElem? (i := 35) rfl))
    · exact (hw _ (List.mem_of_getElem? (i := 33) rfl))
    · exact (hw _ (List.mem_of_getElem? (i := 82) rfl))
    · exact (hw _ (List.mem_of_getElem? (i := 83) rfl))
  show Go p e below _ T0 (mkF m 222 #[.val (.int xa), .val (.int xb), .val (.int xc), .val (.int xd), .val (.long w), .second, .val (.ref ar), .val (.int kk), .val (.int pp), .val (.int nn), .unset, .unset, .unset, .unset] [(.ref xs)])
  by_cases hm : own_male = cs
  ·
    refine Go.of (fun _ kz => XS.astore X0.here hx rfl (hb hby at_222) rfl rfl (l' := #[.val (.int xa), .val (.int xb), .val (.int xc), .val (.int xd), .val (.long w), .second, .val (.ref ar), .val (.int kk), .val (.int pp), .val (.int nn), .val (.ref xs), .unset, .unset, .unset]) rfl kz) ?_
    show Go p e below _ T0 (mkF m 224 #[.val (.int xa), .val (.int xb), .val (.int xc), .val (.int xd), .val (.long w), .second, .val (.ref ar), .val (.int kk), .val (.int pp), .val (.int nn), .val (.ref xs), .unset, .unset, .unset] [])
    refine Go.of (fun _ kz => XS.aload X0.here hx rfl (hb hby at_224) rfl rfl kz) ?_
    show Go p e below _ T0 (mkF m 226 #[.val (.int xa), .val (.int xb), .val (.int xc), .val (.int xd), .val (.long w), .second, .val (.ref ar), .val (.int kk), .val (.int pp), .val (.int nn), .val (.ref xs), .unset, .unset, .unset] [(.ref xs)])
    refine Go.callS (W := 0) (y := (⟨"com/example/vestry/vestry/engine/Sex", "named", "(Ljava/lang/String;)Ljava/util/Optional;"⟩ : MethodName)) (argsL := [.ref xs]) (rest := []) X0 hx hZ hown (hw _ (List.mem_of_getElem? (i := 36) rfl)) (hw _ (List.mem_of_getElem? (i := 37) rfl)) (hw _ (List.mem_of_getElem? (i := 38) rfl)) (hw _ (List.mem_of_getElem? (i := 39) rfl)) (by decide) (own_rmNaM l Z a0 hw cz vals mA fA nM nF bM bF oE kv kM kF xs ts ks cs N2 vs hst.size h0 Z0 OZ.2 ES VS CC KS HC HB HL SB hz SV VV EV SM SF EM EF NM NF EnM CnM WnM AnM EnF CnF WnF AnF SE EE FE hm) e0 (by rw [hml]; rfl) (lenOf own_dsc5 rfl) (hb hby at_226) rfl (Nat.le_of_eq rfl) (by decide) (by decide) (by decide) (by decide) fun _ T1 L1 X1 q1 => ?_
    obtain ⟨o1, rfl, N1q, K1, A1, F1⟩ := q1
    have N1 := Fr.app N0 N1q
    have hC := hC.trans (CHr.keep K1 all0 hC.1)
    have sz1 : hst.size ≤ T1.heap.size := Nat.le_trans Z0 K1.1
    have hk1 : k0 ≤ T1.heap.size := Nat.le_trans hk K1.1
    show Go p e below _ T1 (mkF m 229 #[.val (.int xa), .val (.int xb), .val (.int xc), .val (.int xd), .val (.long w), .second, .val (.ref ar), .val (.int kk), .val (.int pp), .val (.int nn), .val (.ref xs), .unset, .unset, .unset] [(.ref o1)])
    refine Go.of (fun _ kz => XS.astore X1.here hx rfl (hb hby at_229) rfl rfl (l' := #[.val (.int xa), .val (.int xb), .val (.int xc), .val (.int xd), .val (.long w), .second, .val (.ref ar), .val (.int kk), .val (.int pp), .val (.int nn), .val (.ref xs), .val (.ref o1), .unset, .unset]) rfl kz) ?_
    show Go p e below _ T1 (mkF m 231 #[.val (.int xa), .val (.int xb), .val (.int xc), .val (.int xd), .val (.long w), .second, .val (.ref ar), .val (.int kk), .val (.int pp), .val (.int nn), .val (.ref xs), .val (.ref o1), .unset, .unset] [])
    refine Go.of (fun _ kz => XS.aload X1.here hx rfl (hb hby at_231) rfl rfl kz) ?_
    show Go p e below _ T1 (mkF m 233 #[.val (.int xa), .val (.int xb), .val (.int xc), .val (.int xd), .val (.long w), .second, .val (.ref ar), .val (.int kk), .val (.int pp), .val (.int nn), .val (.ref xs), .val (.ref o1), .unset, .unset] [(.ref o1)])
    refine Go.callVP (W := 0) (y := (⟨"java/util/Optional", "isPresent", "()Z"⟩ : MethodName)) (z := (⟨"java/util/Optional", "isPresent", "()Z"⟩ : MethodName)) (a := o1) (argsL := []) (rest := []) (r := some (.int (1 : Int32))) X1 hx hZ hown (hw _ (List.mem_of_getElem? (i := 74) rfl)) (hw _ (List.mem_of_getElem? (i := 75) rfl)) (notFace_of_selects (args := #[]) (mvT hZ (hw _ (List.mem_of_getElem? (i := 77) rfl)))) (hw _ (List.mem_of_getElem? (i := 77) rfl)) (hw _ (List.mem_of_getElem? (i := 76) rfl)) (hw _ (List.mem_of_getElem? (i := 71) rfl)) (hw _ (List.mem_of_getElem? (i := 78) rfl)) (by decide) (own_rmI1 l Z a0 hw o1 mA T1.heap F1) rfl A1 (by rw [hml]; rfl) (lenOf own_dsc6 rfl) (hb hby at_233) rfl (Nat.le_of_eq rfl) (by decide) (by decide) (by decide) (by decide) fun T2 X2 e2 => ?_
    show Go p e below _ T2 (mkF m 236 #[.val (.int xa), .val (.int xb), .val (.int xc), .val (.int xd), .val (.long w), .second, .val (.ref ar), .val (.int kk), .val (.int pp), .val (.int nn), .val (.ref xs), .val (.ref o1), .unset, .unset] [(.int (1 : Int32))])
    refine Go.of (fun _ kz => XS.ifNo X2.here hx rfl (hb hby at_236) rfl ((if0 _ _).trans (feq (by decide : ¬ ((1 : Int32) = (0 : Int32)))).1) kz) ?_
    show Go p e below _ T2 (mkF m 239 #[.val (.int xa), .val (.int xb), .val (.int xc), .val (.int xd), .val (.long w), .second, .val (.ref ar), .val (.int kk), .val (.int pp), .val (.int nn), .val (.ref xs), .val (.ref o1), .unset, .unset] [])
    refine Go.of (fun _ kz => XS.aload X2.here hx rfl (hb hby at_239) rfl rfl kz) ?_
    show Go p e below _ T2 (mkF m 241 #[.val (.int xa), .val (.int xb), .val (.int xc), .val (.int xd), .val (.long w), .second, .val (.ref ar), .val (.int kk), .val (.int pp), .val (.int nn), .val (.ref xs), .val (.ref o1), .unset, .unset] [(.ref o1)])
    refine Go.callVP (W := 0) (y := (⟨"java/util/Optional", "get", "()Ljava/lang/Object;"⟩ : MethodName)) (z := (⟨"java/util/Optional", "get", "()Ljava/lang/Object;"⟩ : MethodName)) (a := o1) (argsL := []) (rest := []) (r := some (.ref mA)) X2 hx hZ hown (hw _ (List.mem_of_getElem? (i := 94) rfl)) (hw _ (List.mem_of_getElem? (i := 95) rfl)) (notFace_of_selects (args := #[]) (mvT hZ (hw _ (List.mem_of_getElem? (i := 97) rfl)))) (hw _ (List.mem_of_getElem? (i := 97) rfl)) (hw _ (List.mem_of_getElem? (i := 96) rfl)) (hw _ (List.mem_of_getElem? (i := 71) rfl)) (hw _ (List.mem_of_getElem? (i := 98) rfl)) (by decide) (own_rmG l Z a0 hw o1 mA T1.heap F1) e2 A1 (by rw [hml]; rfl) (lenOf own_dsc7 rfl) (hb hby at_241) rfl (Nat.le_of_eq rfl) (by decide) (by decide) (by decide) (by decide) fun T3 X3 e3 => ?_
    show Go p e below _ T3 (mkF m 244 #[.val (.int xa), .val (.int xb), .val (.int xc), .val (.int xd), .val (.long w), .second, .val (.ref ar), .val (.int kk), .val (.int pp), .val (.int nn), .val (.ref xs), .val (.ref o1), .unset, .unset] [(.ref mA)])
    refine Go.castTo X3 hx hZ hown (hw _ (List.mem_of_getElem? (i := 99) rfl)) e3 (Ins.self (EM.ext (OZ.keep K1 all0).2)) (hb hby at_244) fun T4 X4 e4 => ?_
    show Go p e below _ T4 (mkF m 247 #[.val (.int xa), .val (.int xb), .val (.int xc), .val (.int xd), .val (.long w), .second, .val (.ref ar), .val (.int kk), .val (.int pp), .val (.int nn), .val (.ref xs), .val (.ref o1), .unset, .unset] [(.ref mA)])
    refine Go.of (fun _ kz => XS.goto X4.here hx rfl (pc0 := 247) (pc' := 251) rfl (hb hby at_247) (by decide) (by decide) kz) ?_
    show Go p e below _ T4 (mkF m 251 #[.val (.int xa), .val (.int xb), .val (.int xc), .val (.int xd), .val (.long w), .second, .val (.ref ar), .val (.int kk), .val (.int pp), .val (.int nn), .val (.ref xs), .val (.ref o1), .unset, .unset] [(.ref mA)])
    refine Go.of (fun _ kz => XS.astore X4.here hx rfl (hb hby at_251) rfl rfl (l' := #[.val (.int xa), .val (.int xb), .val (.int xc), .val (.int xd), .val (.long w), .second, .val (.ref ar), .val (.int kk), .val (.int pp), .val (.int nn), .val (.ref xs), .val (.ref o1), .val (.ref mA), .unset]) rfl kz) ?_
    show Go p e below _ T4 (mkF m 253 #[.val (.int xa), .val (.int xb), .val (.int xc), .val (.int xd), .val (.long w), .second, .val (.ref ar), .val (.int kk), .val (.int pp), .val (.int nn), .val (.ref xs), .val (.ref o1), .val (.ref mA), .unset] [])
    refine Go.of (fun _ kz => XS.aload X4.here hx rfl (hb hby at_253) rfl rfl kz) ?_
    show Go p e below _ T4 (mkF m 255 #[.val (.int xa), .val (.int xb), .val (.int xc), .val (.int xd), .val (.long w), .second, .val (.ref ar), .val (.int kk), .val (.int pp), .val (.int nn), .val (.ref xs), .val (.ref o1), .val (.ref mA), .unset] [(.ref xs)])
    refine Go.ldcH X4 hx hZ hown (hw _ (List.mem_of_getElem? (i := 81) rfl)) wS e4 hS hk1 hEL (List.mem_of_getElem? (i := 0) rfl) hC (z := 4) (vs := [(.int 109), (.int 97), (.int 108), (.int 101)]) own_txt1 (by decide) rfl (hb hby at_255) 16 (by decide) (by decide) (by decide) (by decide) fun b5 T5 h5 k5 c5 kc5 X5 e5 E5 hS hk5 hZ hown A5 C5 D5 V5 hC M5 => ?_
    have sz5 : hst.size ≤ h5.size := Nat.le_trans sz1 E5.1
    show Go p e below _ T5 (mkF m 257 #[.val (.int xa), .val (.int xb), .val (.int xc), .val (.int xd), .val (.long w), .second, .val (.ref ar), .val (.int kk), .val (.int pp), .val (.int nn), .val (.ref xs), .val (.ref o1), .val (.ref mA), .unset] [(.ref b5), (.ref xs)])
    refine Go.callVB (W := 0) (y := (⟨"java/lang/String", "equals", "(Ljava/lang/Object;)Z"⟩ : MethodName)) (z := (⟨"java/lang/String", "equals", "(Ljava/lang/Object;)Z"⟩ : MethodName)) (a := xs) (argsL := [(.ref b5)]) (rest := []) X5 hx hZ hown (hw _ (List.mem_of_getElem? (i := 84) rfl)) (hw _ (List.mem_of_getElem? (i := 60) rfl)) (notFace_of_selects (args := #[]) (mvT hZ (hw _ (List.mem_of_getElem? (i := 62) rfl)))) (hw _ (List.mem_of_getElem? (i := 62) rfl)) (hw _ (List.mem_of_getElem? (i := 61) rfl)) (by decide) (StrChars.Road.eqW (W := 0) (R := room_1) (s := s.setVm _) hZ (own_heq Z a0 hw) (kI := 4) (hw _ (List.mem_of_getElem? (i := 4) rfl)) ((ES.keep K1).ext E5) ((VS.keep K1 nin0).ext E5) ((CC.keep K1 nin0).ext E5) ((KS.keep K1 nin0).ext E5) HC HB HL A5 D5 C5 V5 own_mCod (own_up own_maleR) (by decide) (SB.ext ((OZ.keep K1 all0).ext E5).2) hz (by decide) (by decide)) e5 ((ES.keep K1).ext E5) (by rw [hml]; rfl) (lenOf own_dsc2 rfl) (hb hby at_257) rfl (Nat.le_of_eq rfl) (by decide) (by decide) (.int 1) (fun _ q => own_q1 q hm.symm) fun T6 X6 e6 => ?_
    show Go p e below _ T6 (mkF m 260 #[.val (.int xa), .val (.int xb), .val (.int xc), .val (.int xd), .val (.long w), .second, .val (.ref ar), .val (.int kk), .val (.int pp), .val (.int nn), .val (.ref xs), .val (.ref o1), .val (.ref mA), .unset] [(.int (1 : Int32))])
    refine Go.of (fun _ kz => XS.ifNo X6.here hx rfl (hb hby at_260) rfl ((if0 _ _).trans (feq (by decide : ¬ ((1 : Int32) = (0 : Int32)))).1) kz) ?_
    show Go p e below _ T6 (mkF m 263 #[.val (.int xa), .val (.int xb), .val (.int xc), .val (.int xd), .val (.long w), .second, .val (.ref ar), .val (.int kk), .val (.int pp), .val (.int nn), .val (.ref xs), .val (.ref o1), .val (.ref mA), .unset] [])
    refine Go.gets X6 hx hZ hown (hw _ (List.mem_of_getElem? (i := 101) rfl)) Via.refl e6 (SM.ext ((OZ.keep K1 all0).ext E5).2) (hb hby at_263) fun T7 X7 e7 => ?_
    show Go p e below _ T7 (mkF m 266 #[.val (.int xa), .val (.int xb), .val (.int xc), .val (.int xd), .val (.long w), .second, .val (.ref ar), .val (.int kk), .val (.int pp), .val (.int nn), .val (.ref xs), .val (.ref o1), .val (.ref mA), .unset] [(.ref mA)])
    refine Go.of (fun _ kz => XS.astore X7.here hx rfl (hb hby at_266) rfl rfl (l' := #[.val (.int xa), .val (.int xb), .val (.int xc), .val (.int xd), .val (.long w), .second, .val (.ref ar), .val (.int kk), .val (.int pp), .val (.int nn), .val (.ref xs), .val (.ref o1), .val (.ref mA), .val (.ref mA)]) rfl kz) ?_
    show Go p e below _ T7 (mkF m 268 #[.val (.int xa), .val (.int xb), .val (.int xc), .val (.int xd), .val (.long w), .second, .val (.ref ar), .val (.int kk), .val (.int pp), .val (.int nn), .val (.ref xs), .val (.ref o1), .val (.ref mA), .val (.ref mA)] [])
    refine Go.of (fun _ kz => XS.goto X7.here hx rfl (pc0 := 268) (pc' := 292) rfl (hb hby at_268) (by decide) (by decide) kz) ?_
    show Go p e below _ T7 (mkF m 292 #[.val (.int xa), .val (.int xb), .val (.int xc), .val (.int xd), .val (.long w), .second, .val (.ref ar), .val (.int kk), .val (.int pp), .val (.int nn), .val (.ref xs), .val (.ref o1), .val (.ref mA), .val (.ref mA)] [])
    refine Go.of (fun _ kz => XS.aload X7.here hx rfl (hb hby at_292) rfl rfl kz) ?_
    show Go p e below _ T7 (mkF m 294 #[.val (.int xa), .val (.int xb), .val (.int xc), .val (.int xd), .val (.long w), .second, .val (.ref ar), .val (.int kk), .val (.int pp), .val (.int nn), .val (.ref xs), .val (.ref o1), .val (.ref mA), .val (.ref mA)] [(.ref mA)])
    refine Go.of (fun _ kz => XS.aload X7.here hx rfl (hb hby at_294) rfl rfl kz) ?_
    show Go p e below _ T7 (mkF m 296 #[.val (.int xa), .val (.int xb), .val (.int xc), .val (.int xd), .val (.long w), .second, .val (.ref ar), .val (.int kk), .val (.int pp), .val (.int nn), .val (.ref xs), .val (.ref o1), .val (.ref mA), .val (.ref mA)] [(.ref mA), (.ref mA)])
    refine Go.of (fun _ kz => acmp X7 hx rfl (x := (.ref mA)) (y := (.ref mA)) rfl rfl (pc0 := 296) (pc' := 299) (same := true) rfl (hb hby at_296) rfl (decide_eq_true rfl) (by decide) (by decide) kz) ?_
    show Go p e below _ T7 (mkF m 299 #[.val (.int xa), .val (.int xb), .val (.int xc), .val (.int xd), .val (.long w), .second, .val (.ref ar), .val (.int kk), .val (.int pp), .val (.int nn), .val (.ref xs), .val (.ref o1), .val (.ref mA), .val (.ref mA)] [])
    refine Go.of (fun _ kz => XS.iconst X7.here hx rfl (hb hby at_299) kz) ?_
    show Go p e below _ T7 (mkF m 300 #[.val (.int xa), .val (.int xb), .val (.int xc), .val (.int xd), .val (.long w), .second, .val (.ref ar), .val (.int kk), .val (.int pp), .val (.int nn), .val (.ref xs), .val (.ref o1), .val (.ref mA), .val (.ref mA)] [(.int (1 : Int32))])
    refine Go.of (fun _ kz => XS.goto X7.here hx rfl (pc0 := 300) (pc' := 304) rfl (hb hby at_300) (by decide) (by decide) kz) ?_
    show Go p e below _ T7 (mkF m 304 #[.val (.int xa), .val (.int xb), .val (.int xc), .val (.int xd), .val (.long w), .second, .val (.ref ar), .val (.int kk), .val (.int pp), .val (.int nn), .val (.ref xs), .val (.ref o1), .val (.ref mA), .val (.ref mA)] [(.int (1 : Int32))])
    exact Go.retNH X7 hx hZ hEL hs0 e7 hC hS (by rw [e7]; exact hk5) hlk (t := .boolean) hret (by simp) (hb hby at_304) (by decide) (by decide) ⟨rfl, N1⟩
  ·
    by_cases hf : own_fem = cs
    ·
      refine Go.of (fun _ kz => XS.astore X0.here hx rfl (hb hby at_222) rfl rfl (l' := #[.val (.int xa), .val (.int xb), .val (.int xc), .val (.int xd), .val (.long w), .second, .val (.ref ar), .val (.int kk), .val (.int pp), .val (.int nn), .val (.ref xs), .unset, .unset, .unset]) rfl kz) ?_
      show Go p e below _ T0 (mkF m 224 #[.val (.int xa), .val (.int xb), .val (.int xc), .val (.int xd), .val (.long w), .second, .val (.ref ar), .val (.int kk), .val (.int pp), .val (.int nn), .val (.ref xs), .unset, .unset, .unset] [])
      refine Go.of (fun _ kz => XS.aload X0.here hx rfl (hb hby at_224) rfl rfl kz) ?_
      show Go p e below _ T0 (mkF m 226 #[.val (.int xa), .val (.int xb), .val (.int xc), .val (.int xd), .val (.long w), .second, .val (.ref ar), .val (.int kk), .val (.int pp), .val (.int nn), .val (.ref xs), .unset, .unset, .unset] [(.ref xs)])
      refine Go.callS (W := 0) (y := (⟨"com/example/vestry/vestry/engine/Sex", "named", "(Ljava/lang/String;)Ljava/util/Optional;"⟩ : MethodName)) (argsL := [.ref xs]) (rest := []) X0 hx hZ hown (hw _ (List.mem_of_getElem? (i := 36) rfl)) (hw _ (List.mem_of_getElem? (i := 37) rfl)) (hw _ (List.mem_of_getElem? (i := 38) rfl)) (hw _ (List.mem_of_getElem? (i := 39) rfl)) (by decide) (own_rmNaF l Z a0 hw cz vals mA fA nM nF bM bF oE kv kM kF xs ts ks cs N2 vs hst.size h0 Z0 OZ.2 ES VS CC KS HC HB HL SB hz SV VV EV SM SF EM EF NM NF EnM CnM WnM AnM EnF CnF WnF AnF SE EE FE hm hf) e0 (by rw [hml]; rfl) (lenOf own_dsc5 rfl) (hb hby at_226) rfl (Nat.le_of_eq rfl) (by decide) (by decide) (by decide) (by decide) fun _ T8 L8 X8 q8 => ?_
      obtain ⟨o8, rfl, N8q, K8, A8, F8⟩ := q8
      have N8 := Fr.app N0 N8q
      have hC := hC.trans (CHr.keep K8 all0 hC.1)
      have sz8 : hst.size ≤ T8.heap.size := Nat.le_trans Z0 K8.1
      have hk8 : k0 ≤ T8.heap.size := Nat.le_trans hk K8.1
      show Go p e below _ T8 (mkF m 229 #[.val (.int xa), .val (.int xb), .val (.int xc), .val (.int xd), .val (.long w), .second, .val (.ref ar), .val (.int kk), .val (.int pp), .val (.int nn), .val (.ref xs), .unset, .unset, .unset] [(.ref o8)])
      refine Go.of (fun _ kz => XS.astore X8.here hx rfl (hb hby at_229) rfl rfl (l' := #[.val (.int xa), .val (.int xb), .val (.int xc), .val (.int xd), .val (.long w), .second, .val (.ref ar), .val (.int kk), .val (.int pp), .val (.int nn), .val (.ref xs), .val (.ref o8), .unset, .unset]) rfl kz) ?_
      show Go p e below _ T8 (mkF m 231 #[.val (.int xa), .val (.int xb), .val (.int xc), .val (.int xd), .val (.long w), .second, .val (.ref ar), .val (.int kk), .val (.int pp), .val (.int nn), .val (.ref xs), .val (.ref o8), .unset, .unset] [])
      refine Go.of (fun _ kz => XS.aload X8.here hx rfl (hb hby at_231) rfl rfl kz) ?_
      show Go p e below _ T8 (mkF m 233 #[.val (.int xa), .val (.int xb), .val (.int xc), .val (.int xd), .val (.long w), .second, .val (.ref ar), .val (.int kk), .val (.int pp), .val (.int nn), .val (.ref xs), .val (.ref o8), .unset, .unset] [(.ref o8)])
      refine Go.callVP (W := 0) (y := (⟨"java/util/Optional", "isPresent", "()Z"⟩ : MethodName)) (z := (⟨"java/util/Optional", "isPresent", "()Z"⟩ : MethodName)) (a := o8) (argsL := []) (rest := []) (r := some (.int (1 : Int32))) X8 hx hZ hown (hw _ (List.mem_of_getElem? (i := 74) rfl)) (hw _ (List.mem_of_getElem? (i := 75) rfl)) (notFace_of_selects (args := #[]) (mvT hZ (hw _ (List.mem_of_getElem? (i := 77) rfl)))) (hw _ (List.mem_of_getElem? (i := 77) rfl)) (hw _ (List.mem_of_getElem? (i := 76) rfl)) (hw _ (List.mem_of_getElem? (i := 71) rfl)) (hw _ (List.mem_of_getElem? (i := 78) rfl)) (by decide) (own_rmI1 l Z a0 hw o8 fA T8.heap F8) rfl A8 (by rw [hml]; rfl) (lenOf own_dsc6 rfl) (hb hby at_233) rfl (Nat.le_of_eq rfl) (by decide) (by decide) (by decide) (by decide) fun T9 X9 e9 => ?_
      show Go p e below _ T9 (mkF m 236 #[.val (.int xa), .val (.int xb), .val (.int xc), .val (.int xd), .val (.long w), .second, .val (.ref ar), .val (.int kk), .val (.int pp), .val (.int nn), .val (.ref xs), .val (.ref o8), .unset, .unset] [(.int (1 : Int32))])
      refine Go.of (fun _ kz => XS.ifNo X9.here hx rfl (hb hby at_236) rfl ((if0 _ _).trans (feq (by decide : ¬ ((1 : Int32) = (0 : Int32)))).1) kz) ?_
      show Go p e below _ T9 (mkF m 239 #[.val (.int xa), .val (.int xb), .val (.int xc), .val (.int xd), .val (.long w), .second, .val (.ref ar), .val (.int kk), .val (.int pp), .val (.int nn), .val (.ref xs), .val (.ref o8), .unset, .unset] [])
      refine Go.of (fun _ kz => XS.aload X9.here hx rfl (hb hby at_239) rfl rfl kz) ?_
      show Go p e below _ T9 (mkF m 241 #[.val (.int xa), .val (.int xb), .val (.int xc), .val (.int xd), .val (.long w), .second, .val (.ref ar), .val (.int kk), .val (.int pp), .val (.int nn), .val (.ref xs), .val (.ref o8), .unset, .unset] [(.ref o8)])
      refine Go.callVP (W := 0) (y := (⟨"java/util/Optional", "get", "()Ljava/lang/Object;"⟩ : MethodName)) (z := (⟨"java/util/Optional", "get", "()Ljava/lang/Object;"⟩ : MethodName)) (a := o8) (argsL := []) (rest := []) (r := some (.ref fA)) X9 hx hZ hown (hw _ (List.mem_of_getElem? (i := 94) rfl)) (hw _ (List.mem_of_getElem? (i := 95) rfl)) (notFace_of_selects (args := #[]) (mvT hZ (hw _ (List.mem_of_getElem? (i := 97) rfl)))) (hw _ (List.mem_of_getElem? (i := 97) rfl)) (hw _ (List.mem_of_getElem? (i := 96) rfl)) (hw _ (List.mem_of_getElem? (i := 71) rfl)) (hw _ (List.mem_of_getElem? (i := 98) rfl)) (by decide) (own_rmG l Z a0 hw o8 fA T8.heap F8) e9 A8 (by rw [hml]; rfl) (lenOf own_dsc7 rfl) (hb hby at_241) rfl (Nat.le_of_eq rfl) (by decide) (by decide) (by decide) (by decide) fun T10 X10 e10 => ?_
      show Go p e below _ T10 (mkF m 244 #[.val (.int xa), .val (.int xb), .val (.int xc), .val (.int xd), .val (.long w), .second, .val (.ref ar), .val (.int kk), .val (.int pp), .val (.int nn), .val (.ref xs), .val (.ref o8), .unset, .unset] [(.ref fA)])
      refine Go.castTo X10 hx hZ hown (hw _ (List.mem_of_getElem? (i := 99) rfl)) e10 (Ins.self (EF.ext (OZ.keep K8 all0).2)) (hb hby at_244) fun T11 X11 e11 => ?_
      show Go p e below _ T11 (mkF m 247 #[.val (.int xa), .val (.int xb), .val (.int xc), .val (.int xd), .val (.long w), .second, .val (.ref ar), .val (.int kk), .val (.int pp), .val (.int nn), .val (.ref xs), .val (.ref o8), .unset, .unset] [(.ref fA)])
      refine Go.of (fun _ kz => XS.goto X11.here hx rfl (pc0 := 247) (pc' := 251) rfl (hb hby at_247) (by decide) (by decide) kz) ?_
      show Go p e below _ T11 (mkF m 251 #[.val (.int xa), .val (.int xb), .val (.int xc), .val (.int xd), .val (.long w), .second, .val (.ref ar), .val (.int kk), .val (.int pp), .val (.int nn), .val (.ref xs), .val (.ref o8), .unset, .unset] [(.ref fA)])
      refine Go.of (fun _ kz => XS.astore X11.here hx rfl (hb hby at_251) rfl rfl (l' := #[.val (.int xa), .val (.int xb), .val (.int xc), .val (.int xd), .val (.long w), .second, .val (.ref ar), .val (.int kk), .val (.int pp), .val (.int nn), .val (.ref xs), .val (.ref o8), .val (.ref fA), .unset]) rfl kz) ?_
      show Go p e below _ T11 (mkF m 253 #[.val (.int xa), .val (.int xb), .val (.int xc), .val (.int xd), .val (.long w), .second, .val (.ref ar), .val (.int kk), .val (.int pp), .val (.int nn), .val (.ref xs), .val (.ref o8), .val (.ref fA), .unset] [])
      refine Go.of (fun _ kz => XS.aload X11.here hx rfl (hb hby at_253) rfl rfl kz) ?_
      show Go p e below _ T11 (mkF m 255 #[.val (.int xa), .val (.int xb), .val (.int xc), .val (.int xd), .val (.long w), .second, .val (.ref ar), .val (.int kk), .val (.int pp), .val (.int nn), .val (.ref xs), .val (.ref o8), .val (.ref fA), .unset] [(.ref xs)])
      refine Go.ldcH X11 hx hZ hown (hw _ (List.mem_of_getElem? (i := 81) rfl)) wS e11 hS hk8 hEL (List.mem_of_getElem? (i := 0) rfl) hC (z := 4) (vs := [(.int 109), (.int 97), (.int 108), (.int 101)]) own_txt1 (by decide) rfl (hb hby at_255) 16 (by decide) (by decide) (by decide) (by decide) fun b12 T12 h12 k12 c12 kc12 X12 e12 E12 hS hk12 hZ hown A12 C12 D12 V12 hC M12 => ?_
      have sz12 : hst.size ≤ h12.size := Nat.le_trans sz8 E12.1
      show Go p e below _ T12 (mkF m 257 #[.val (.int xa), .val (.int xb), .val (.int xc), .val (.int xd), .val (.long w), .second, .val (.ref ar), .val (.int kk), .val (.int pp), .val (.int nn), .val (.ref xs), .val (.ref o8), .val (.ref fA), .unset] [(.ref b12), (.ref xs)])
      refine Go.callVB (W := 0) (y := (⟨"java/lang/String", "equals", "(Ljava/lang/Object;)Z"⟩ : MethodName)) (z := (⟨"java/lang/String", "equals", "(Ljava/lang/Object;)Z"⟩ : MethodName)) (a := xs) (argsL := [(.ref b12)]) (rest := []) X12 hx hZ hown (hw _ (List.mem_of_getElem? (i := 84) rfl)) (hw _ (List.mem_of_getElem? (i := 60) rfl)) (notFace_of_selects (args := #[]) (mvT hZ (hw _ (List.mem_of_getElem? (i := 62) rfl)))) (hw _ (List.mem_of_getElem? (i := 62) rfl)) (hw _ (List.mem_of_getElem? (i := 61) rfl)) (by decide) (StrChars.Road.eqW (W := 0) (R := room_1) (s := s.setVm _) hZ (own_heq Z a0 hw) (kI := 4) (hw _ (List.mem_of_getElem? (i := 4) rfl)) ((ES.keep K8).ext E12) ((VS.keep K8 nin0).ext E12) ((CC.keep K8 nin0).ext E12) ((KS.keep K8 nin0).ext E12) HC HB HL A12 D12 C12 V12 own_mCod (own_up own_maleR) (by decide) (SB.ext ((OZ.keep K8 all0).ext E12).2) hz (by decide) (by decide)) e12 ((ES.keep K8).ext E12) (by rw [hml]; rfl) (lenOf own_dsc2 rfl) (hb hby at_257) rfl (Nat.le_of_eq rfl) (by decide) (by decide) (.int 0) (fun _ q => own_q0 q (Ne.symm hm)) fun T13 X13 e13 => ?_
      show Go p e below _ T13 (mkF m 260 #[.val (.int xa), .val (.int xb), .val (.int xc), .val (.int xd), .val (.long w), .second, .val (.ref ar), .val (.int kk), .val (.int pp), .val (.int nn), .val (.ref xs), .val (.ref o8), .val (.ref fA), .unset] [(.int (0 : Int32))])
      refine Go.of (fun _ kz => XS.ifYes X13.here hx rfl (pc0 := 260) (pc' := 271) rfl (hb hby at_260) rfl ((if0 _ _).trans (teq (by decide : (0 : Int32) = (0 : Int32))).1) (by decide) (by decide) kz) ?_
      show Go p e below _ T13 (mkF m 271 #[.val (.int xa), .val (.int xb), .val (.int xc), .val (.int xd), .val (.long w), .second, .val (.ref ar), .val (.int kk), .val (.int pp), .val (.int nn), .val (.ref xs), .val (.ref o8), .val (.ref fA), .unset] [])
      refine Go.of (fun _ kz => XS.aload X13.here hx rfl (hb hby at_271) rfl rfl kz) ?_
      show Go p e below _ T13 (mkF m 273 #[.val (.int xa), .val (.int xb), .val (.int xc), .val (.int xd), .val (.long w), .second, .val (.ref ar), .val (.int kk), .val (.int pp), .val (.int nn), .val (.ref xs), .val (.ref o8), .val (.ref fA), .unset] [(.ref xs)])
      refine Go.ldcH X13 hx hZ hown (hw _ (List.mem_of_getElem? (i := 85) rfl)) wS e13 hS hk12 hEL (List.mem_of_getElem? (i := 1) rfl) hC (z := 6) (vs := [(.int 102), (.int 101), (.int 109), (.int 97), (.int 108), (.int 101)]) own_txt2 (by decide) rfl (hb hby at_273) 24 (by decide) (by decide) (by decide) (by decide) fun b14 T14 h14 k14 c14 kc14 X14 e14 E14 hS hk14 hZ hown A14 C14 D14 V14 hC M14 => ?_
      have sz14 : hst.size ≤ h14.size := Nat.le_trans sz12 E14.1
      show Go p e below _ T14 (mkF m 275 #[.val (.int xa), .val (.int xb), .val (.int xc), .val (.int xd), .val (.long w), .second, .val (.ref ar), .val (.int kk), .val (.int pp), .val (.int nn), .val (.ref xs), .val (.ref o8), .val (.ref fA), .unset] [(.ref b14), (.ref xs)])
      refine Go.callVB (W := 0) (y := (⟨"java/lang/String", "equals", "(Ljava/lang/Object;)Z"⟩ : MethodName)) (z := (⟨"java/lang/String", "equals", "(Ljava/lang/Object;)Z"⟩ : MethodName)) (a := xs) (argsL := [(.ref b14)]) (rest := []) X14 hx hZ hown (hw _ (List.mem_of_getElem? (i := 84) rfl)) (hw _ (List.mem_of_getElem? (i := 60) rfl)) (notFace_of_selects (args := #[]) (mvT hZ (hw _ (List.mem_of_getElem? (i := 62) rfl)))) (hw _ (List.mem_of_getElem? (i := 62) rfl)) (hw _ (List.mem_of_getElem? (i := 61) rfl)) (by decide) (StrChars.Road.eqW (W := 0) (R := room_1) (s := s.setVm _) hZ (own_heq Z a0 hw) (kI := 4) (hw _ (List.mem_of_getElem? (i := 4) rfl)) (((ES.keep K8).ext E12).ext E14) (((VS.keep K8 nin0).ext E12).ext E14) (((CC.keep K8 nin0).ext E12).ext E14) (((KS.keep K8 nin0).ext E12).ext E14) HC HB HL A14 D14 C14 V14 own_fCod (own_up own_femR) (by decide) (SB.ext (((OZ.keep K8 all0).ext E12).ext E14).2) hz (by decide) (by decide)) e14 (((ES.keep K8).ext E12).ext E14) (by rw [hml]; rfl) (lenOf own_dsc2 rfl) (hb hby at_275) rfl (Nat.le_of_eq rfl) (by decide) (by decide) (.int 1) (fun _ q => own_q1 q hf.symm) fun T15 X15 e15 => ?_
      show Go p e below _ T15 (mkF m 278 #[.val (.int xa), .val (.int xb), .val (.int xc), .val (.int xd), .val (.long w), .second, .val (.ref ar), .val (.int kk), .val (.int pp), .val (.int nn), .val (.ref xs), .val (.ref o8), .val (.ref fA), .unset] [(.int (1 : Int32))])
      refine Go.of (fun _ kz => XS.ifNo X15.here hx rfl (hb hby at_278) rfl ((if0 _ _).trans (feq (by decide : ¬ ((1 : Int32) = (0 : Int32)))).1) kz) ?_
      show Go p e below _ T15 (mkF m 281 #[.val (.int xa), .val (.int xb), .val (.int xc), .val (.int xd), .val (.long w), .second, .val (.ref ar), .val (.int kk), .val (.int pp), .val (.int nn), .val (.ref xs), .val (.ref o8), .val (.ref fA), .unset] [])
      refine Go.gets X15 hx hZ hown (hw _ (List.mem_of_getElem? (i := 102) rfl)) Via.refl e15 (SF.ext (((OZ.keep K8 all0).ext E12).ext E14).2) (hb hby at_281) fun T16 X16 e16 => ?_
      show Go p e below _ T16 (mkF m 284 #[.val (.int xa), .val (.int xb), .val (.int xc), .val (.int xd), .val (.long w), .second, .val (.ref ar), .val (.int kk), .val (.int pp), .val (.int nn), .val (.ref xs), .val (.ref o8), .val (.ref fA), .unset] [(.ref fA)])
      refine Go.of (fun _ kz => XS.astore X16.here hx rfl (hb hby at_284) rfl rfl (l' := #[.val (.int xa), .val (.int xb), .val (.int xc), .val (.int xd), .val (.long w), .second, .val (.ref ar), .val (.int kk), .val (.int pp), .val (.int nn), .val (.ref xs), .val (.ref o8), .val (.ref fA), .val (.ref fA)]) rfl kz) ?_
      show Go p e below _ T16 (mkF m 286 #[.val (.int xa), .val (.int xb), .val (.int xc), .val (.int xd), .val (.long w), .second, .val (.ref ar), .val (.int kk), .val (.int pp), .val (.int nn), .val (.ref xs), .val (.ref o8), .val (.ref fA), .val (.ref fA)] [])
      refine Go.of (fun _ kz => XS.goto X16.here hx rfl (pc0 := 286) (pc' := 292) rfl (hb hby at_286) (by decide) (by decide) kz) ?_
      show Go p e below _ T16 (mkF m 292 #[.val (.int xa), .val (.int xb), .val (.int xc), .val (.int xd), .val (.long w), .second, .val (.ref ar), .val (.int kk), .val (.int pp), .val (.int nn), .val (.ref xs), .val (.ref o8), .val (.ref fA), .val (.ref fA)] [])
      refine Go.of (fun _ kz => XS.aload X16.here hx rfl (hb hby at_292) rfl rfl kz) ?_
      show Go p e below _ T16 (mkF m 294 #[.val (.int xa), .val (.int xb), .val (.int xc), .val (.int xd), .val (.long w), .second, .val (.ref ar), .val (.int kk), .val (.int pp), .val (.int nn), .val (.ref xs), .val (.ref o8), .val (.ref fA), .val (.ref fA)] [(.ref fA)])
      refine Go.of (fun _ kz => XS.aload X16.here hx rfl (hb hby at_294) rfl rfl kz) ?_
      show Go p e below _ T16 (mkF m 296 #[.val (.int xa), .val (.int xb), .val (.int xc), .val (.int xd), .val (.long w), .second, .val (.ref ar), .val (.int kk), .val (.int pp), .val (.int nn), .val (.ref xs), .val (.ref o8), .val (.ref fA), .val (.ref fA)] [(.ref fA), (.ref fA)])
      refine Go.of (fun _ kz => acmp X16 hx rfl (x := (.ref fA)) (y := (.ref fA)) rfl rfl (pc0 := 296) (pc' := 299) (same := true) rfl (hb hby at_296) rfl (decide_eq_true rfl) (by decide) (by decide) kz) ?_
      show Go p e below _ T16 (mkF m 299 #[.val (.int xa), .val (.int xb), .val (.int xc), .val (.int xd), .val (.long w), .second, .val (.ref ar), .val (.int kk), .val (.int pp), .val (.int nn), .val (.ref xs), .val (.ref o8), .val (.ref fA), .val (.ref fA)] [])
      refine Go.of (fun _ kz => XS.iconst X16.here hx rfl (hb hby at_299) kz) ?_
      show Go p e below _ T16 (mkF m 300 #[.val (.int xa), .val (.int xb), .val (.int xc), .val (.int xd), .val (.long w), .second, .val (.ref ar), .val (.int kk), .val (.int pp), .val (.int nn), .val (.ref xs), .val (.ref o8), .val (.ref fA), .val (.ref fA)] [(.int (1 : Int32))])
      refine Go.of (fun _ kz => XS.goto X16.here hx rfl (pc0 := 300) (pc' := 304) rfl (hb hby at_300) (by decide) (by decide) kz) ?_
      show Go p e below _ T16 (mkF m 304 #[.val (.int xa), .val (.int xb), .val (.int xc), .val (.int xd), .val (.long w), .second, .val (.ref ar), .val (.int kk), .val (.int pp), .val (.int nn), .val (.ref xs), .val (.ref o8), .val (.ref fA), .val (.ref fA)] [(.int (1 : Int32))])
      exact Go.retNH X16 hx hZ hEL hs0 e16 hC hS (by rw [e16]; exact hk14) hlk (t := .boolean) hret (by simp) (hb hby at_304) (by decide) (by decide) ⟨rfl, N8⟩
    ·
      refine Go.of (fun _ kz => XS.astore X0.here hx rfl (hb hby at_222) rfl rfl (l' := #[.val (.int xa), .val (.int xb), .val (.int xc), .val (.int xd), .val (.long w), .second, .val (.ref ar), .val (.int kk), .val (.int pp), .val (.int nn), .val (.ref xs), .unset, .unset, .unset]) rfl kz) ?_
      show Go p e below _ T0 (mkF m 224 #[.val (.int xa), .val (.int xb), .val (.int xc), .val (.int xd), .val (.long w), .second, .val (.ref ar), .val (.int kk), .val (.int pp), .val (.int nn), .val (.ref xs), .unset, .unset, .unset] [])
      refine Go.of (fun _ kz => XS.aload X0.here hx rfl (hb hby at_224) rfl rfl kz) ?_
      show Go p e below _ T0 (mkF m 226 #[.val (.int xa), .val (.int xb), .val (.int xc), .val (.int xd), .val (.long w), .second, .val (.ref ar), .val (.int kk), .val (.int pp), .val (.int nn), .val (.ref xs), .unset, .unset, .unset] [(.ref xs)])
      refine Go.callS (W := 0) (y := (⟨"com/example/vestry/vestry/engine/Sex", "named", "(Ljava/lang/String;)Ljava/util/Optional;"⟩ : MethodName)) (argsL := [.ref xs]) (rest := []) X0 hx hZ hown (hw _ (List.mem_of_getElem? (i := 36) rfl)) (hw _ (List.mem_of_getElem? (i := 37) rfl)) (hw _ (List.mem_of_getElem? (i := 38) rfl)) (hw _ (List.mem_of_getElem? (i := 39) rfl)) (by decide) (own_rmNaN l Z a0 hw cz vals mA fA nM nF bM bF oE kv kM kF xs ts ks cs N2 vs hst.size h0 Z0 OZ.2 ES VS CC KS HC HB HL SB hz SV VV EV SM SF EM EF NM NF EnM CnM WnM AnM EnF CnF WnF AnF SE EE FE hm hf) e0 (by rw [hml]; rfl) (lenOf own_dsc5 rfl) (hb hby at_226) rfl (Nat.le_of_eq rfl) (by decide) (by decide) (by decide) (by decide) fun _ T17 L17 X17 q17 => ?_
      obtain ⟨o17, rfl, N17q, K17, A17, F17⟩ := q17
      have N17 := Fr.app N0 N17q
      have hC := hC.trans (CHr.keep K17 all0 hC.1)
      have sz17 : hst.size ≤ T17.heap.size := Nat.le_trans Z0 K17.1
      have hk17 : k0 ≤ T17.heap.size := Nat.le_trans hk K17.1
      show Go p e below _ T17 (mkF m 229 #[.val (.int xa), .val (.int xb), .val (.int xc), .val (.int xd), .val (.long w), .second, .val (.ref ar), .val (.int kk), .val (.int pp), .val (.int nn), .val (.ref xs), .unset, .unset, .unset] [(.ref o17)])
      refine Go.of (fun _ kz => XS.astore X17.here hx rfl (hb hby at_229) rfl rfl (l' := #[.val (.int xa), .val (.int xb), .val (.int xc), .val (.int xd), .val (.long w), .second, .val (.ref ar), .val (.int kk), .val (.int pp), .val (.int nn), .val (.ref xs), .val (.ref o17), .unset, .unset]) rfl kz) ?_
      show Go p e below _ T17 (mkF m 231 #[.val (.int xa), .val (.int xb), .val (.int xc), .val (.int xd), .val (.long w), .second, .val (.ref ar), .val (.int kk), .val (.int pp), .val (.int nn), .val (.ref xs), .val (.ref o17), .unset, .unset] [])
      refine Go.of (fun _ kz => XS.aload X17.here hx rfl (hb hby at_231) rfl rfl kz) ?_
      show Go p e below _ T17 (mkF m 233 #[.val (.int xa), .val (.int xb), .val (.int xc), .val (.int xd), .val (.long w), .second, .val (.ref ar), .val (.int kk), .val (.int pp), .val (.int nn), .val (.ref xs), .val (.ref o17), .unset, .unset] [(.ref o17)])
      refine Go.callVP (W := 0) (y := (⟨"java/util/Optional", "isPresent", "()Z"⟩ : MethodName)) (z := (⟨"java/util/Optional", "isPresent", "()Z"⟩ : MethodName)) (a := o17) (argsL := []) (rest := []) (r := some (.int (0 : Int32))) X17 hx hZ hown (hw _ (List.mem_of_getElem? (i := 74) rfl)) (hw _ (List.mem_of_getElem? (i := 75) rfl)) (notFace_of_selects (args := #[]) (mvT hZ (hw _ (List.mem_of_getElem? (i := 77) rfl)))) (hw _ (List.mem_of_getElem? (i := 77) rfl)) (hw _ (List.mem_of_getElem? (i := 76) rfl)) (hw _ (List.mem_of_getElem? (i := 71) rfl)) (hw _ (List.mem_of_getElem? (i := 78) rfl)) (by decide) (own_rmI0 l Z a0 hw o17 0 T17.heap F17) rfl A17 (by rw [hml]; rfl) (lenOf own_dsc6 rfl) (hb hby at_233) rfl (Nat.le_of_eq rfl) (by decide) (by decide) (by decide) (by decide) fun T18 X18 e18 => ?_
      show Go p e below _ T18 (mkF m 236 #[.val (.int xa), .val (.int xb), .val (.int xc), .val (.int xd), .val (.long w), .second, .val (.ref ar), .val (.int kk), .val (.int pp), .val (.int nn), .val (.ref xs), .val (.ref o17), .unset, .unset] [(.int (0 : Int32))])
      refine Go.of (fun _ kz => XS.ifYes X18.here hx rfl (pc0 := 236) (pc' := 250) rfl (hb hby at_236) rfl ((if0 _ _).trans (teq (by decide : (0 : Int32) = (0 : Int32))).1) (by decide) (by decide) kz) ?_
      show Go p e below _ T18 (mkF m 250 #[.val (.int xa), .val (.int xb), .val (.int xc), .val (.int xd), .val (.long w), .second, .val (.ref ar), .val (.int kk), .val (.int pp), .val (.int nn), .val (.ref xs), .val (.ref o17), .unset, .unset] [])
      refine Go.of (fun _ kz => XS.aconstNull X18.here hx rfl (hb hby at_250) kz) ?_
      show Go p e below _ T18 (mkF m 251 #[.val (.int xa), .val (.int xb), .val (.int xc), .val (.int xd), .val (.long w), .second, .val (.ref ar), .val (.int kk), .val (.int pp), .val (.int nn), .val (.ref xs), .val (.ref o17), .unset, .unset] [.null])
      refine Go.of (fun _ kz => XS.astore X18.here hx rfl (hb hby at_251) rfl rfl (l' := #[.val (.int xa), .val (.int xb), .val (.int xc), .val (.int xd), .val (.long w), .second, .val (.ref ar), .val (.int kk), .val (.int pp), .val (.int nn), .val (.ref xs), .val (.ref o17), .val .null, .unset]) rfl kz) ?_
      show Go p e below _ T18 (mkF m 253 #[.val (.int xa), .val (.int xb), .val (.int xc), .val (.int xd), .val (.long w), .second, .val (.ref ar), .val (.int kk), .val (.int pp), .val (.int nn), .val (.ref xs), .val (.ref o17), .val .null, .unset] [])
      refine Go.of (fun _ kz => XS.aload X18.here hx rfl (hb hby at_253) rfl rfl kz) ?_
      show Go p e below _ T18 (mkF m 255 #[.val (.int xa), .val (.int xb), .val (.int xc), .val (.int xd), .val (.long w), .second, .val (.ref ar), .val (.int kk), .val (.int pp), .val (.int nn), .val (.ref xs), .val (.ref o17), .val .null, .unset] [(.ref xs)])
      refine Go.ldcH X18 hx hZ hown (hw _ (List.mem_of_getElem? (i := 81) rfl)) wS e18 hS hk17 hEL (List.mem_of_getElem? (i := 0) rfl) hC (z := 4) (vs := [(.int 109), (.int 97), (.int 108), (.int 101)]) own_txt1 (by decide) rfl (hb hby at_255) 16 (by decide) (by decide) (by decide) (by decide) fun b19 T19 h19 k19 c19 kc19 X19 e19 E19 hS hk19 hZ hown A19 C19 D19 V19 hC M19 => ?_
      have sz19 : hst.size ≤ h19.size := Nat.le_trans sz17 E19.1
      show Go p e below _ T19 (mkF m 257 #[.val (.int xa), .val (.int xb), .val (.int xc), .val (.int xd), .val (.long w), .second, .val (.ref ar), .val (.int kk), .val (.int pp), .val (.int nn), .val (.ref xs), .val (.ref o17), .val .null, .unset] [(.ref b19), (.ref xs)])
      refine Go.callVB (W := 0) (y := (⟨"java/lang/String", "equals", "(Ljava/lang/Object;)Z"⟩ : MethodName)) (z := (⟨"java/lang/String", "equals", "(Ljava/lang/Object;)Z"⟩ : MethodName)) (a := xs) (argsL := [(.ref b19)]) (rest := []) X19 hx hZ hown (hw _ (List.mem_of_getElem? (i := 84) rfl)) (hw _ (List.mem_of_getElem? (i := 60) rfl)) (notFace_of_selects (args := #[]) (mvT hZ (hw _ (List.mem_of_getElem? (i := 62) rfl)))) (hw _ (List.mem_of_getElem? (i := 62) rfl)) (hw _ (List.mem_of_getElem? (i := 61) rfl)) (by decide) (StrChars.Road.eqW (W := 0) (R := room_1) (s := s.setVm _) hZ (own_heq Z a0 hw) (kI := 4) (hw _ (List.mem_of_getElem? (i := 4) rfl)) ((ES.keep K17).ext E19) ((VS.keep K17 nin0).ext E19) ((CC.keep K17 nin0).ext E19) ((KS.keep K17 nin0).ext E19) HC HB HL A19 D19 C19 V19 own_mCod (own_up own_maleR) (by decide) (SB.ext ((OZ.keep K17 all0).ext E19).2) hz (by decide) (by decide)) e19 ((ES.keep K17).ext E19) (by rw [hml]; rfl) (lenOf own_dsc2 rfl) (hb hby at_257) rfl (Nat.le_of_eq rfl) (by decide) (by decide) (.int 0) (fun _ q => own_q0 q (Ne.symm hm)) fun T20 X20 e20 => ?_
      show Go p e below _ T20 (mkF m 260 #[.val (.int xa), .val (.int xb), .val (.int xc), .val (.int xd), .val (.long w), .second, .val (.ref ar), .val (.int kk), .val (.int pp), .val (.int nn), .val (.ref xs), .val (.ref o17), .val .null, .unset] [(.int (0 : Int32))])
      refine Go.of (fun _ kz => XS.ifYes X20.here hx rfl (pc0 := 260) (pc' := 271) rfl (hb hby at_260) rfl ((if0 _ _).trans (teq (by decide : (0 : Int32) = (0 : Int32))).1) (by decide) (by decide) kz) ?_
      show Go p e below _ T20 (mkF m 271 #[.val (.int xa), .val (.int xb), .val (.int xc), .val (.int xd), .val (.long w), .second, .val (.ref ar), .val (.int kk), .val (.int pp), .val (.int nn), .val (.ref xs), .val (.ref o17), .val .null, .unset] [])
      refine Go.of (fun _ kz => XS.aload X20.here hx rfl (hb hby at_271) rfl rfl kz) ?_
      show Go p e below _ T20 (mkF m 273 #[.val (.int xa), .val (.int xb), .val (.int xc), .val (.int xd), .val (.long w), .second, .val (.ref ar), .val (.int kk), .val (.int pp), .val (.int nn), .val (.ref xs), .val (.ref o17), .val .null, .unset] [(.ref xs)])
      refine Go.ldcH X20 hx hZ hown (hw _ (List.mem_of_getElem? (i := 85) rfl)) wS e20 hS hk19 hEL (List.mem_of_getElem? (i := 1) rfl) hC (z := 6) (vs := [(.int 102), (.int 101), (.int 109), (.int 97), (.int 108), (.int 101)]) own_txt2 (by decide) rfl (hb hby at_273) 24 (by decide) (by decide) (by decide) (by decide) fun b21 T21 h21 k21 c21 kc21 X21 e21 E21 hS hk21 hZ hown A21 C21 D21 V21 hC M21 => ?_
      have sz21 : hst.size ≤ h21.size := Nat.le_trans sz19 E21.1
      show Go p e below _ T21 (mkF m 275 #[.val (.int xa), .val (.int xb), .val (.int xc), .val (.int xd), .val (.long w), .second, .val (.ref ar), .val (.int kk), .val (.int pp), .val (.int nn), .val (.ref xs), .val (.ref o17), .val .null, .unset] [(.ref b21), (.ref xs)])
      refine Go.callVB (W := 0) (y := (⟨"java/lang/String", "equals", "(Ljava/lang/Object;)Z"⟩ : MethodName)) (z := (⟨"java/lang/String", "equals", "(Ljava/lang/Object;)Z"⟩ : MethodName)) (a := xs) (argsL := [(.ref b21)]) (rest := []) X21 hx hZ hown (hw _ (List.mem_of_getElem? (i := 84) rfl)) (hw _ (List.mem_of_getElem? (i := 60) rfl)) (notFace_of_selects (args := #[]) (mvT hZ (hw _ (List.mem_of_getElem? (i := 62) rfl)))) (hw _ (List.mem_of_getElem? (i := 62) rfl)) (hw _ (List.mem_of_getElem? (i := 61) rfl)) (by decide) (StrChars.Road.eqW (W := 0) (R := room_1) (s := s.setVm _) hZ (own_heq Z a0 hw) (kI := 4) (hw _ (List.mem_of_getElem? (i := 4) rfl)) (((ES.keep K17).ext E19).ext E21) (((VS.keep K17 nin0).ext E19).ext E21) (((CC.keep K17 nin0).ext E19).ext E21) (((KS.keep K17 nin0).ext E19).ext E21) HC HB HL A21 D21 C21 V21 own_fCod (own_up own_femR) (by decide) (SB.ext (((OZ.keep K17 all0).ext E19).ext E21).2) hz (by decide) (by decide)) e21 (((ES.keep K17).ext E19).ext E21) (by rw [hml]; rfl) (lenOf own_dsc2 rfl) (hb hby at_275) rfl (Nat.le_of_eq rfl) (by decide) (by decide) (.int 0) (fun _ q => own_q0 q (Ne.symm hf)) fun T22 X22 e22 => ?_
      show Go p e below _ T22 (mkF m 278 #[.val (.int xa), .val (.int xb), .val (.int xc), .val (.int xd), .val (.long w), .second, .val (.ref ar), .val (.int kk), .val (.int pp), .val (.int nn), .val (.ref xs), .val (.ref o17), .val .null, .unset] [(.int (0 : Int32))])
      refine Go.of (fun _ kz => XS.ifYes X22.here hx rfl (pc0 := 278) (pc' := 289) rfl (hb hby at_278) rfl ((if0 _ _).trans (teq (by decide : (0 : Int32) = (0 : Int32))).1) (by decide) (by decide) kz) ?_
      show Go p e below _ T22 (mkF m 289 #[.val (.int xa), .val (.int xb), .val (.int xc), .val (.int xd), .val (.long w), .second, .val (.ref ar), .val (.int kk), .val (.int pp), .val (.int nn), .val (.ref xs), .val (.ref o17), .val .null, .unset] [])
      refine Go.of (fun _ kz => XS.aconstNull X22.here hx rfl (hb hby at_289) kz) ?_
      show Go p e below _ T22 (mkF m 290 #[.val (.int xa), .val (.int xb), .val (.int xc), .val (.int xd), .val (.long w), .second, .val (.ref ar), .val (.int kk), .val (.int pp), .val (.int nn), .val (.ref xs), .val (.ref o17), .val .null, .unset] [.null])
      refine Go.of (fun _ kz => XS.astore X22.here hx rfl (hb hby at_290) rfl rfl (l' := #[.val (.int xa), .val (.int xb), .val (.int xc), .val (.int xd), .val (.long w), .second, .val (.ref ar), .val (.int kk), .val (.int pp), .val (.int nn), .val (.ref xs), .val (.ref o17), .val .null, .val .null]) rfl kz) ?_
      show Go p e below _ T22 (mkF m 292 #[.val (.int xa), .val (.int xb), .val (.int xc), .val (.int xd), .val (.long w), .second, .val (.ref ar), .val (.int kk), .val (.int pp), .val (.int nn), .val (.ref xs), .val (.ref o17), .val .null, .val .null] [])
      refine Go.of (fun _ kz => XS.aload X22.here hx rfl (hb hby at_292) rfl rfl kz) ?_
      show Go p e below _ T22 (mkF m 294 #[.val (.int xa), .val (.int xb), .val (.int xc), .val (.int xd), .val (.long w), .second, .val (.ref ar), .val (.int kk), .val (.int pp), .val (.int nn), .val (.ref xs), .val (.ref o17), .val .null, .val .null] [.null])
      refine Go.of (fun _ kz => XS.aload X22.here hx rfl (hb hby at_294) rfl rfl kz) ?_
      show Go p e below _ T22 (mkF m 296 #[.val (.int xa), .val (.int xb), .val (.int xc), .val (.int xd), .val (.long w), .second, .val (.ref ar), .val (.int kk), .val (.int pp), .val (.int nn), .val (.ref xs), .val (.ref o17), .val .null, .val .null] [.null, .null])
      refine Go.of (fun _ kz => acmp X22 hx rfl (x := .null) (y := .null) rfl rfl (pc0 := 296) (pc' := 299) (same := true) rfl (hb hby at_296) rfl (decide_eq_true rfl) (by decide) (by decide) kz) ?_
      show Go p e below _ T22 (mkF m 299 #[.val (.int xa), .val (.int xb), .val (.int xc), .val (.int xd), .val (.long w), .second, .val (.ref ar), .val (.int kk), .val (.int pp), .val (.int nn), .val (.ref xs), .val (.ref o17), .val .null, .val .null] [])
      refine Go.of (fun _ kz => XS.iconst X22.here hx rfl (hb hby at_299) kz) ?_
      show Go p e below _ T22 (mkF m 300 #[.val (.int xa), .val (.int xb), .val (.int xc), .val (.int xd), .val (.long w), .second, .val (.ref ar), .val (.int kk), .val (.int pp), .val (.int nn), .val (.ref xs), .val (.ref o17), .val .null, .val .null] [(.int (1 : Int32))])
      refine Go.of (fun _ kz => XS.goto X22.here hx rfl (pc0 := 300) (pc' := 304) rfl (hb hby at_300) (by decide) (by decide) kz) ?_
      show Go p e below _ T22 (mkF m 304 #[.val (.int xa), .val (.int xb), .val (.int xc), .val (.int xd), .val (.long w), .second, .val (.ref ar), .val (.int kk), .val (.int pp), .val (.int nn), .val (.ref xs), .val (.ref o17), .val .null, .val .null] [(.int (1 : Int32))])
      exact Go.retNH X22 hx hZ hEL hs0 e22 hC hS (by rw [e22]; exact hk21) hlk (t := .boolean) hret (by simp) (hb hby at_304) (by decide) (by decide) ⟨rfl, N17⟩
set_option maxRecDepth 65536 in
set_option maxHeartbeats 40000000 in
theorem own_D (l : Launch) (Z : State) (a0 : Array Value) (hw : ∀ d ∈ tables_1, d.before a0 Z = true) (p : Program) (e : Env) (s : State) (vm0 : Vm) (m : MethodId) (args : Array Value) (below : List Frame) (meth : Method) (c : Code) (T0 : State) (locs : List Loc) (k0 : Nat) (h0 hst : Heap) (xa xb xc xd : Int32) (w : Int64) (ar : Addr) (ka : ClassId) (c0 c1 c2 c3 c4 c5 : Int32) (kk pp : Int32) (cz : Int32) (vals mA fA nM nF bM bF oE : Addr) (kv kM kF : ClassId)
    (hx : p.tables.exec = Jvm.exec) (hZ : Z.Warmed39 vm0) (hby : c.code = code) (hml : c.maxLocals = 14) (hown : vm0.findClass "com/example/vestry/vestry/engine/SexNamedPinLaw" = some m.cls) (hret : meth.sig.returnType = some .boolean) (hlk : meth.locks = false) (hS : s.Since vm0 k0) (hk : k0 ≤ h0.size) (hs0 : s.heap = hst) (hC : CHr Z consts_1 s.vm hst vm0 h0) (X0 : Stand p l e room_1 (s.setVm vm0) m args below meth c T0 locs 1 6) (e0 : T0.heap = h0) (N0 : Fr hst.size locs) (Z0 : hst.size ≤ h0.size) (OZ : Old Z hst.size h0) (VA : Arv Z h0 ar ka .char 6 [.int c0, .int c1, .int c2, .int c3, .int c4, .int c5] (.int 0)) (r0 : own_R c0) (r1 : own_R c1) (r2 : own_R c2) (r3 : own_R c3) (r4 : own_R c4) (r5 : own_R c5) (ga : hst.size ≤ ar) (SB : Sta Z Z.heap "java/lang/String" "COMPACT_STRINGS" "Z" (.int cz)) (hz : ¬ cz = (0 : Int32)) (SV : Sta Z Z.heap "com/example/vestry/vestry/engine/Sex" "$VALUES" "[Lcom/example/vestry/vestry/engine/Sex;" (.ref vals)) (VV : Arv Z Z.heap vals kv (.object "com/example/vestry/vestry/engine/Sex") 2 [.ref mA, .ref fA] .null) (EV : Exa Z Z.heap vals "[Lcom/example/vestry/vestry/engine/Sex;") (SM : Sta Z Z.heap "com/example/vestry/vestry/engine/Sex" "MALE" "Lcom/example/vestry/vestry/engine/Sex;" (.ref mA)) (SF : Sta Z Z.heap "com/example/vestry/vestry/engine/Sex" "FEMALE" "Lcom/example/vestry/vestry/engine/Sex;" (.ref fA)) (EM : Exa Z Z.heap mA "com/example/vestry/vestry/engine/Sex") (EF : Exa Z Z.heap fA "com/example/vestry/vestry/engine/Sex") (NM : Fld Z Z.heap mA "com/example/vestry/vestry/engine/Sex" "name" "Ljava/lang/String;" (.ref nM)) (NF : Fld Z Z.heap fA "com/example/vestry/vestry/engine/Sex" "name" "Ljava/lang/String;" (.ref nF)) (EnM : Exa Z Z.heap nM "java/lang/String") (CnM : Fld Z Z.heap nM "java/lang/String" "coder" "B" (.int 0)) (WnM : Fld Z Z.heap nM "java/lang/String" "value" "[B" (.ref bM)) (AnM : Arv Z Z.heap bM kM .byte 4 [.int 109, .int 97, .int 108, .int 101] (.int 0)) (EnF : Exa Z Z.heap nF "java/lang/String") (CnF : Fld Z Z.heap nF "java/lang/String" "coder" "B" (.int 0)) (WnF : Fld Z Z.heap nF "java/lang/String" "value" "[B" (.ref bF)) (AnF : Arv Z Z.heap bF kF .byte 6 [.int 102, .int 101, .int 109, .int 97, .int 108, .int 101] (.int 0)) (SE : Sta Z Z.heap "java/util/Optional" "EMPTY" "Ljava/util/Optional;" (.ref oE)) (EE : Exa Z Z.heap oE "java/util/Optional") (FE : Fld Z Z.heap oE "java/util/Optional" "value" "Ljava/lang/Object;" .null) :
    Go p e below (GoEndH Z consts_1 s room_1.cells room_1.slots (fun v _ L => v = some (.int 1) ∧ Fr hst.size L)) T0 (mkF m 199 #[.val (.int xa), .val (.int xb), .val (.int xc), .val (.int xd), .val (.long w), .second, .val (.ref ar), .val (.int kk), .val (.int pp), .unset, .unset, .unset, .unset, .unset] []) := by
  have hEL := own_EW Z a0 hw
  have wS : ∀ d ∈ Bundle.stringAtoms, d.before a0 Z = true := fun d hd => by
    simp only [Bundle.stringAtoms, List.mem_cons, List.not_mem_nil, or_false] at hd
    rcases hd with rfl | rfl | rfl | rfl | rfl | rfl | rfl
    · exact (hw _ (List.mem_of_getElem? (i := 5) rfl))
    · exact (hw _ (List.mem_of_getElem? (i := 4) rfl))
    · exact (hw _ (List.mem_of_getElem? (i := 25) rfl))
    · exact (hw _ (List.mem_of_getElem? (i := 35) rfl))
    · exact (hw _ (List.mem_of_getElem? (i := 33) rfl))
    · exact (hw _ (List.mem_of_getElem? (i := 82) rfl))
    · exact (hw _ (List.mem_of_getElem? (i := 83) rfl))
  show Go p e below _ T0 (mkF m 199 #[.val (.int xa), .val (.int xb), .val (.int xc), .val (.int xd), .val (.long w), .second, .val (.ref ar), .val (.int kk), .val (.int pp), .unset, .unset, .unset, .unset, .unset] [])
  refine Go.of (fun _ kz => XS.iloadN X0.here hx rfl (hb hby at_199) rfl kz) ?_
  show Go p e below _ T0 (mkF m 200 #[.val (.int xa), .val (.int xb), .val (.int xc), .val (.int xd), .val (.long w), .second, .val (.ref ar), .val (.int kk), .val (.int pp), .unset, .unset, .unset, .unset, .unset] [(.int xb)])
  refine Go.of (X0.ldcInt hx hown (mvT hZ (hw _ (List.mem_of_getElem? (i := 2) rfl))) (g := (mkF m 200 #[.val (.int xa), .val (.int xb), .val (.int xc), .val (.int xd), .val (.long w), .second, .val (.ref ar), .val (.int kk), .val (.int pp), .unset, .unset, .unset, .unset, .unset] [(.int xb)])) rfl (hb hby at_200)) ?_
  show Go p e below _ T0 (mkF m 202 #[.val (.int xa), .val (.int xb), .val (.int xc), .val (.int xd), .val (.long w), .second, .val (.ref ar), .val (.int kk), .val (.int pp), .unset, .unset, .unset, .unset, .unset] [(.int (2147483647 : Int32)), (.int xb)])
  refine Go.of (fun _ kz => XS.iand X0.here hx rfl (hb hby at_202) rfl kz) ?_
  show Go p e below _ T0 (mkF m 203 #[.val (.int xa), .val (.int xb), .val (.int xc), .val (.int xd), .val (.long w), .second, .val (.ref ar), .val (.int kk), .val (.int pp), .unset, .unset, .unset, .unset, .unset] [(.int (xb &&& (2147483647 : Int32)))])
  refine Go.of (fun _ kz => XS.bipush X0.here hx rfl (hb hby at_203) kz) ?_
  show Go p e below _ T0 (mkF m 205 #[.val (.int xa), .val (.int xb), .val (.int xc), .val (.int xd), .val (.long w), .second, .val (.ref ar), .val (.int kk), .val (.int pp), .unset, .unset, .unset, .unset, .unset] [(.int (7 : Int32)), (.int (xb &&& (2147483647 : Int32)))])
  refine Go.of (fun _ kz => iremM X0 hx rfl (hb hby at_205) rfl (by decide) kz) ?_
  show Go p e below _ T0 (mkF m 206 #[.val (.int xa), .val (.int xb), .val (.int xc), .val (.int xd), .val (.long w), .second, .val (.ref ar), .val (.int kk), .val (.int pp), .unset, .unset, .unset, .unset, .unset] [(.int ((xb &&& (2147483647 : Int32)) % (7 : Int32)))])
  generalize h_nn : ((xb &&& (2147483647 : Int32)) % (7 : Int32)) = nn
  have hnn := own_mod7 h_nn (own_m31 _)
  refine Go.of (fun _ kz => XS.istore X0.here hx rfl (hb hby at_206) rfl (l' := #[.val (.int xa), .val (.int xb), .val (.int xc), .val (.int xd), .val (.long w), .second, .val (.ref ar), .val (.int kk), .val (.int pp), .val (.int nn), .unset, .unset, .unset, .unset]) rfl kz) ?_
  show Go p e below _ T0 (mkF m 208 #[.val (.int xa), .val (.int xb), .val (.int xc), .val (.int xd), .val (.long w), .second, .val (.ref ar), .val (.int kk), .val (.int pp), .val (.int nn), .unset, .unset, .unset, .unset] [])
  rcases hnn with rfl | rfl | rfl | rfl | rfl | rfl | rfl
  ·
    show Go p e below _ T0 (mkF m 208 #[.val (.int xa), .val (.int xb), .val (.int xc), .val (.int xd), .val (.long w), .second, .val (.ref ar), .val (.int kk), .val (.int pp), .val (.int (0 : Int32)), .unset, .unset, .unset, .unset] [])
    refine Go.new X0 hx hZ hown (hw _ (List.mem_of_getElem? (i := 3) rfl)) (hw _ (List.mem_of_getElem? (i := 4) rfl)) (hw _ (List.mem_of_getElem? (i := 5) rfl)) e0 (hb hby at_208) (by decide) (by decide) fun T1 h1 b1 g1 X1 e1 E1 A1 D1 => ?_
    have lt_ar_b1 : ar < b1 := Nat.lt_of_lt_of_le VA.lt (Nat.le_of_eq g1.symm)
    have ge_b1 : hst.size ≤ b1 := g1 ▸ Z0
    have sf_b1 := Safe.ext E1 hC.1 (Safe.new (Nat.le_of_eq g1.symm))
    have hC := hC.trans (CHr.ext E1 hC.1)
    have sz1 : hst.size ≤ h1.size := Nat.le_trans Z0 E1.1
    have hk1 : k0 ≤ h1.size := Nat.le_trans hk E1.1
    have F1_coder : Fld Z h1 b1 "java/lang/String" "coder" "B" (.int (0 : Int32)) := D1 (Or.inr (hw _ (List.mem_of_getElem? (i := 33) rfl))) (ty := .byte) (by decide)
    have F1_value : Fld Z h1 b1 "java/lang/String" "value" "[B" .null := D1 (Or.inr (hw _ (List.mem_of_getElem? (i := 35) rfl))) (ty := (.array .byte)) (by decide)
    show Go p e below _ T1 (mkF m 211 #[.val (.int xa), .val (.int xb), .val (.int xc), .val (.int xd), .val (.long w), .second, .val (.ref ar), .val (.int kk), .val (.int pp), .val (.int (0 : Int32)), .unset, .unset, .unset, .unset] [(.ref b1)])
    refine Go.of (fun _ kz => XS.dup X1.here hx rfl (hb hby at_211) rfl rfl kz) ?_
    show Go p e below _ T1 (mkF m 212 #[.val (.int xa), .val (.int xb), .val (.int xc), .val (.int xd), .val (.long w), .second, .val (.ref ar), .val (.int kk), .val (.int pp), .val (.int (0 : Int32)), .unset, .unset, .unset, .unset] [(.ref b1), (.ref b1)])
    refine Go.of (fun _ kz => XS.aload X1.here hx rfl (hb hby at_212) rfl rfl kz) ?_
    show Go p e below _ T1 (mkF m 214 #[.val (.int xa), .val (.int xb), .val (.int xc), .val (.int xd), .val (.long w), .second, .val (.ref ar), .val (.int kk), .val (.int pp), .val (.int (0 : Int32)), .unset, .unset, .unset, .unset] [(.ref ar), (.ref b1), (.ref b1)])
    refine Go.of (fun _ kz => XS.iload X1.here hx rfl (hb hby at_214) rfl kz) ?_
    show Go p e below _ T1 (mkF m 216 #[.val (.int xa), .val (.int xb), .val (.int xc), .val (.int xd), .val (.long w), .second, .val (.ref ar), .val (.int kk), .val (.int pp), .val (.int (0 : Int32)), .unset, .unset, .unset, .unset] [(.int (0 : Int32)), (.ref ar), (.ref b1), (.ref b1)])
    refine Go.callS (W := 2) (y := (⟨"com/example/vestry/vestry/engine/SexNamedPinLaw", "prefix", "([CI)[C"⟩ : MethodName)) (argsL := [(.ref ar), (.int (0 : Int32))]) (rest := [(.ref b1), (.ref b1)]) X1 hx hZ hown (hw _ (List.mem_of_getElem? (i := 6) rfl)) (hw _ (List.mem_of_getElem? (i := 7) rfl)) (hw _ (List.mem_of_getElem? (i := 8) rfl)) (hw _ (List.mem_of_getElem? (i := 9) rfl)) (by decide) (own_rmP0 l Z a0 hw ar ka c0 c1 c2 c3 c4 c5 hst.size h1 sz1 (VA.ext E1)) e1 (by rw [hml]; rfl) (lenOf own_dsc8 rfl) (hb hby at_216) rfl (Nat.le_of_eq rfl) (by decide) (by decide) (by decide) (by decide) fun _ T2 L2 X2 q2 => ?_
    obtain ⟨b2, k2, rfl, N2q, K2, g2, V2⟩ := q2
    have N2 := Fr.app N0 N2q
    have sf2_b1 := Safe.keep K2 all0 hC.1 sf_b1
    have hC := hC.trans (CHr.keep K2 all0 hC.1)
    have sz2 : hst.size ≤ T2.heap.size := Nat.le_trans sz1 K2.1
    have hk2 : k0 ≤ T2.heap.size := Nat.le_trans hk1 K2.1
    show Go p e below _ T2 (mkF m 219 #[.val (.int xa), .val (.int xb), .val (.int xc), .val (.int xd), .val (.long w), .second, .val (.ref ar), .val (.int kk), .val (.int pp), .val (.int (0 : Int32)), .unset, .unset, .unset, .unset] [(.ref b2), (.ref b1), (.ref b1)])
    refine Go.callIHS (W := 1) (y := (⟨"java/lang/String", "<init>", "([C)V"⟩ : MethodName)) (a := b1) (argsL := [.ref b2]) (rest := [(.ref b1)]) X2 hx hZ rfl hown (hw _ (List.mem_of_getElem? (i := 10) rfl)) (hw _ (List.mem_of_getElem? (i := 11) rfl)) (hw _ (List.mem_of_getElem? (i := 5) rfl)) (hw _ (List.mem_of_getElem? (i := 12) rfl)) (by decide) (own_rmS1 l Z a0 hw b1 b2 k2 hst.size T2.heap sz2 ge_b1 (A1.keep K2) (F1_value.keep K2 nin0) (F1_coder.keep K2 nin0) V2) rfl hS hk2 hEL hC (A1.keep K2).lt sf2_b1 (by rw [hml]; rfl) (lenOf own_dsc9 rfl) (hb hby at_219) rfl (Nat.le_of_eq rfl) (by decide) (by decide) (by decide) (by decide) fun _ T3 L3 X3 hS hZ hown hC q3 => ?_
    obtain ⟨rfl, N3q, K3, A3, C3, t3, kt3, D3, V3⟩ := q3
    have N3 := Fr.app N2 N3q
    have sz3 : hst.size ≤ T3.heap.size := Nat.le_trans sz2 K3.1
    show Go p e below _ T3 (mkF m 222 #[.val (.int xa), .val (.int xb), .val (.int xc), .val (.int xd), .val (.long w), .second, .val (.ref ar), .val (.int kk), .val (.int pp), .val (.int (0 : Int32)), .unset, .unset, .unset, .unset] [(.ref b1)])
    exact own_E l Z a0 hw p e s _ m _ below meth c _ _ _ _ _ xa xb xc xd w ar kk pp _ b1 t3 kt3 [] 0 [] cz vals mA fA nM nF bM bF oE kv kM kF hx hZ hby hml hown hret hlk hS (Nat.le_refl _) hs0 hC (X3.mono (by decide) (by decide)) rfl N3 sz3 (((OZ.ext E1).keep K2 all0).keep K3 (allS ge_b1 all0)) A3 D3 C3 V3 own_eCod (fun c hc => by cases hc) (by decide) SB hz SV VV EV SM SF EM EF NM NF EnM CnM WnM AnM EnF CnF WnF AnF SE EE FE
  ·
    show Go p e below _ T0 (mkF m 208 #[.val (.int xa), .val (.int xb), .val (.int xc), .val (.int xd), .val (.long w), .second, .val (.ref ar), .val (.int kk), .val (.int pp), .val (.int (1 : Int32)), .unset, .unset, .unset, .unset] [])
    refine Go.new X0 hx hZ hown (hw _ (List.mem_of_getElem? (i := 3) rfl)) (hw _ (List.mem_of_getElem? (i := 4) rfl)) (hw _ (List.mem_of_getElem? (i := 5) rfl)) e0 (hb hby at_208) (by decide) (by decide) fun T4 h4 b4 g4 X4 e4 E4 A4 D4 => ?_
    have lt_ar_b4 : ar < b4 := Nat.lt_of_lt_of_le VA.lt (Nat.le_of_eq g4.symm)
    have ge_b4 : hst.size ≤ b4 := g4 ▸ Z0
    have sf_b4 := Safe.ext E4 hC.1 (Safe.new (Nat.le_of_eq g4.symm))
    have hC := hC.trans (CHr.ext E4 hC.1)
    have sz4 : hst.size ≤ h4.size := Nat.le_trans Z0 E4.1
    have hk4 : k0 ≤ h4.size := Nat.le_trans hk E4.1
    have F4_coder : Fld Z h4 b4 "java/lang/String" "coder" "B" (.int (0 : Int32)) := D4 (Or.inr (hw _ (List.mem_of_getElem? (i := 33) rfl))) (ty := .byte) (by decide)
    have F4_value : Fld Z h4 b4 "java/lang/String" "value" "[B" .null := D4 (Or.inr (hw _ (List.mem_of_getElem? (i := 35) rfl))) (ty := (.array .byte)) (by decide)
    show Go p e below _ T4 (mkF m 211 #[.val (.int xa), .val (.int xb), .val (.int xc), .val (.int xd), .val (.long w), .second, .val (.ref ar), .val (.int kk), .val (.int pp), .val (.int (1 : Int32)), .unset, .unset, .unset, .unset] [(.ref b4)])
    refine Go.of (fun _ kz => XS.dup X4.here hx rfl (hb hby at_211) rfl rfl kz) ?_
    show Go p e below _ T4 (mkF m 212 #[.val (.int xa), .val (.int xb), .val (.int xc), .val (.int xd), .val (.long w), .second, .val (.ref ar), .val (.int kk), .val (.int pp), .val (.int (1 : Int32)), .unset, .unset, .unset, .unset] [(.ref b4), (.ref b4)])
    refine Go.of (fun _ kz => XS.aload X4.here hx rfl (hb hby at_212) rfl rfl kz) ?_
    show Go p e below _ T4 (mkF m 214 #[.val (.int xa), .val (.int xb), .val (.int xc), .val (.int xd), .val (.long w), .second, .val (.ref ar), .val (.int kk), .val (.int pp), .val (.int (1 : Int32)), .unset, .unset, .unset, .unset] [(.ref ar), (.ref b4), (.ref b4)])
    refine Go.of (fun _ kz => XS.iload X4.here hx rfl (hb hby at_214) rfl kz) ?_
    show Go p e below _ T4 (mkF m 216 #[.val (.int xa), .val (.int xb), .val (.int xc), .val (.int xd), .val (.long w), .second, .val (.ref ar), .val (.int kk), .val (.int pp), .val (.int (1 : Int32)), .unset, .unset, .unset, .unset] [(.int (1 : Int32)), (.ref ar), (.ref b4), (.ref b4)])
    refine Go.callS (W := 2) (y := (⟨"com/example/vestry/vestry/engine/SexNamedPinLaw", "prefix", "([CI)[C"⟩ : MethodName)) (argsL := [(.ref ar), (.int (1 : Int32))]) (rest := [(.ref b4), (.ref b4)]) X4 hx hZ hown (hw _ (List.mem_of_getElem? (i := 6) rfl)) (hw _ (List.mem_of_getElem? (i := 7) rfl)) (hw _ (List.mem_of_getElem? (i := 8) rfl)) (hw _ (List.mem_of_getElem? (i := 9) rfl)) (by decide) (own_rmP1 l Z a0 hw ar ka c0 c1 c2 c3 c4 c5 hst.size h4 sz4 (VA.ext E4)) e4 (by rw [hml]; rfl) (lenOf own_dsc8 rfl) (hb hby at_216) rfl (Nat.le_of_eq rfl) (by decide) (by decide) (by decide) (by decide) fun _ T5 L5 X5 q5 => ?_
    obtain ⟨b5, k5, rfl, N5q, K5, g5, V5⟩ := q5
    have N5 := Fr.app N0 N5q
    have sf5_b4 := Safe.keep K5 all0 hC.1 sf_b4
    have hC := hC.trans (CHr.keep K5 all0 hC.1)
    have sz5 : hst.size ≤ T5.heap.size := Nat.le_trans sz4 K5.1
    have hk5 : k0 ≤ T5.heap.size := Nat.le_trans hk4 K5.1
    show Go p e below _ T5 (mkF m 219 #[.val (.int xa), .val (.int xb), .val (.int xc), .val (.int xd), .val (.long w), .second, .val (.ref ar), .val (.int kk), .val (.int pp), .val (.int (1 : Int32)), .unset, .unset, .unset, .unset] [(.ref b5), (.ref b4), (.ref b4)])
    have hp6 : ∀ c ∈ ([nar .char c0] : List Int32), own_R c := (own_all1 (own_nR r0))
    refine Go.callIB (W := 1) (y := (⟨"java/lang/String", "<init>", "([C)V"⟩ : MethodName)) (a := b4) (argsL := [.ref b5]) (rest := [(.ref b4)]) X5 hx hZ rfl hown (hw _ (List.mem_of_getElem? (i := 10) rfl)) (hw _ (List.mem_of_getElem? (i := 11) rfl)) (hw _ (List.mem_of_getElem? (i := 12) rfl)) (by decide) (StrChars.Road.backV (W := 1) (R := room_1) hZ (own_hws Z a0 hw) (kI := 4) (hw _ (List.mem_of_getElem? (i := 4) rfl)) (cs := [nar .char c0]) (bs := ([nar .char c0] : List Int32).map (fun c => c.toInt8.toInt32)) (n := 1) (N := 1) (n0 := hst.size) ge_b4 sz5 (A4.keep K5) (F4_value.keep K5 nin0) (F4_coder.keep K5 nin0) V5 (SB.ext ((OZ.ext E4).keep K5 all0).2) hz rfl rfl (by decide) (by decide) hp6 rfl (by decide) (by decide)) rfl (by rw [hml]; rfl) (lenOf own_dsc9 rfl) (hb hby at_219) rfl (Nat.le_of_eq rfl) (by decide) (by decide) fun _ T6 L6 X6 q6 => ?_
    obtain ⟨rfl, N6q, K6, A6, C6, t6, kt6, -, -, -, D6, V6⟩ := q6
    have N6 := Fr.app N5 N6q
    have sf6_b4 := Safe.keep K6 (allS sf5_b4 all0) hC.1 sf5_b4
    have hC := hC.trans (CHr.keep K6 (allS sf5_b4 all0) hC.1)
    have sz6 : hst.size ≤ T6.heap.size := Nat.le_trans sz5 K6.1
    have hk6 : k0 ≤ T6.heap.size := Nat.le_trans hk5 K6.1
    show Go p e below _ T6 (mkF m 222 #[.val (.int xa), .val (.int xb), .val (.int xc), .val (.int xd), .val (.long w), .second, .val (.ref ar), .val (.int kk), .val (.int pp), .val (.int (1 : Int32)), .unset, .unset, .unset, .unset] [(.ref b4)])
    exact own_E l Z a0 hw p e s _ m _ below meth c _ _ _ _ _ xa xb xc xd w ar kk pp _ b4 t6 kt6 [nar .char c0] 1 ((([nar .char c0] : List Int32).map (fun c => c.toInt8.toInt32)).map Value.int) cz vals mA fA nM nF bM bF oE kv kM kF hx hZ hby hml hown hret hlk hS hk6 hs0 hC (X6.mono (by decide) (by decide)) rfl N6 sz6 (((OZ.ext E4).keep K5 all0).keep K6 (allS ge_b4 all0)) A6 D6 C6 V6 (StrChars.Road.codOf (n := 1) rfl (fun c hc => (hp6 c hc).2)) (own_up hp6) (Nat.le_of_ble_eq_true rfl) SB hz SV VV EV SM SF EM EF NM NF EnM CnM WnM AnM EnF CnF WnF AnF SE EE FE
  ·
    show Go p e below _ T0 (mkF m 208 #[.val (.int xa), .val (.int xb), .val (.int xc), .val (.int xd), .val (.long w), .second, .val (.ref ar), .val (.int kk), .val (.int pp), .val (.int (2 : Int32)), .unset, .unset, .unset, .unset] [])
    refine Go.new X0 hx hZ hown (hw _ (List.mem_of_getElem? (i := 3) rfl)) (hw _ (List.mem_of_getElem? (i := 4) rfl)) (hw _ (List.mem_of_getElem? (i := 5) rfl)) e0 (hb hby at_208) (by decide) (by decide) fun T7 h7 b7 g7 X7 e7 E7 A7 D7 => ?_
    have lt_ar_b7 : ar < b7 := Nat.lt_of_lt_of_le VA.lt (Nat.le_of_eq g7.symm)
    have ge_b7 : hst.size ≤ b7 := g7 ▸ Z0
    have sf_b7 := Safe.ext E7 hC.1 (Safe.new (Nat.le_of_eq g7.symm))
    have hC := hC.trans (CHr.ext E7 hC.1)
    have sz7 : hst.size ≤ h7.size := Nat.le_trans Z0 E7.1
    have hk7 : k0 ≤ h7.size := Nat.le_trans hk E7.1
    have F7_coder : Fld Z h7 b7 "java/lang/String" "coder" "B" (.int (0 : Int32)) := D7 (Or.inr (hw _ (List.mem_of_getElem? (i := 33) rfl))) (ty := .byte) (by decide)
    have F7_value : Fld Z h7 b7 "java/lang/String" "value" "[B" .null := D7 (Or.inr (hw _ (List.mem_of_getElem? (i := 35) rfl))) (ty := (.array .byte)) (by decide)
    show Go p e below _ T7 (mkF m 211 #[.val (.int xa), .val (.int xb), .val (.int xc), .val (.int xd), .val (.long w), .second, .val (.ref ar), .val (.int kk), .val (.int pp), .val (.int (2 : Int32)), .unset, .unset, .unset, .unset] [(.ref b7)])
    refine Go.of (fun _ kz => XS.dup X7.here hx rfl (hb hby at_211) rfl rfl kz) ?_
    show Go p e below _ T7 (mkF m 212 #[.val (.int xa), .val (.int xb), .val (.int xc), .val (.int xd), .val (.long w), .second, .val (.ref ar), .val (.int kk), .val (.int pp), .val (.int (2 : Int32)), .unset, .unset, .unset, .unset] [(.ref b7), (.ref b7)])
    refine Go.of (fun _ kz => XS.aload X7.here hx rfl (hb hby at_212) rfl rfl kz) ?_
    show Go p e below _ T7 (mkF m 214 #[.val (.int xa), .val (.int xb), .val (.int xc), .val (.int xd), .val (.long w), .second, .val (.ref ar), .val (.int kk), .val (.int pp), .val (.int (2 : Int32)), .unset, .unset, .unset, .unset] [(.ref ar), (.ref b7), (.ref b7)])
    refine Go.of (fun _ kz => XS.iload X7.here hx rfl (hb hby at_214) rfl kz) ?_
    show Go p e below _ T7 (mkF m 216 #[.val (.int xa), .val (.int xb), .val (.int xc), .val (.int xd), .val (.long w), .second, .val (.ref ar), .val (.int kk), .val (.int pp), .val (.int (2 : Int32)), .unset, .unset, .unset, .unset] [(.int (2 : Int32)), (.ref ar), (.ref b7), (.ref b7)])
    refine Go.callS (W := 2) (y := (⟨"com/example/vestry/vestry/engine/SexNamedPinLaw", "prefix", "([CI)[C"⟩ : MethodName)) (argsL := [(.ref ar), (.int (2 : Int32))]) (rest := [(.ref b7), (.ref b7)]) X7 hx hZ hown (hw _ (List.mem_of_getElem? (i := 6) rfl)) (hw _ (List.mem_of_getElem? (i := 7) rfl)) (hw _ (List.mem_of_getElem? (i := 8) rfl)) (hw _ (List.mem_of_getElem? (i := 9) rfl)) (by decide) (own_rmP2 l Z a0 hw ar ka c0 c1 c2 c3 c4 c5 hst.size h7 sz7 (VA.ext E7)) e7 (by rw [hml]; rfl) (lenOf own_dsc8 rfl) (hb hby at_216) rfl (Nat.le_of_eq rfl) (by decide) (by decide) (by decide) (by decide) fun _ T8 L8 X8 q8 => ?_
    obtain ⟨b8, k8, rfl, N8q, K8, g8, V8⟩ := q8
    have N8 := Fr.app N0 N8q
    have sf8_b7 := Safe.keep K8 all0 hC.1 sf_b7
    have hC := hC.trans (CHr.keep K8 all0 hC.1)
    have sz8 : hst.size ≤ T8.heap.size := Nat.le_trans sz7 K8.1
    have hk8 : k0 ≤ T8.heap.size := Nat.le_trans hk7 K8.1
    show Go p e below _ T8 (mkF m 219 #[.val (.int xa), .val (.int xb), .val (.int xc), .val (.int xd), .val (.long w), .second, .val (.ref ar), .val (.int kk), .val (.int pp), .val (.int (2 : Int32)), .unset, .unset, .unset, .unset] [(.ref b8), (.ref b7), (.ref b7)])
    have hp9 : ∀ c ∈ ([nar .char c0, nar .char c1] : List Int32), own_R c := (own_allC (own_nR r0) (own_all1 (own_nR r1)))
    refine Go.callIB (W := 1) (y := (⟨"java/lang/String", "<init>", "([C)V"⟩ : MethodName)) (a := b7) (argsL := [.ref b8]) (rest := [(.ref b7)]) X8 hx hZ rfl hown (hw _ (List.mem_of_getElem? (i := 10) rfl)) (hw _ (List.mem_of_getElem? (i := 11) rfl)) (hw _ (List.mem_of_getElem? (i := 12) rfl)) (by decide) (StrChars.Road.backV (W := 1) (R := room_1) hZ (own_hws Z a0 hw) (kI := 4) (hw _ (List.mem_of_getElem? (i := 4) rfl)) (cs := [nar .char c0, nar .char c1]) (bs := ([nar .char c0, nar .char c1] : List Int32).map (fun c => c.toInt8.toInt32)) (n := 2) (N := 2) (n0 := hst.size) ge_b7 sz8 (A7.keep K8) (F7_value.keep K8 nin0) (F7_coder.keep K8 nin0) V8 (SB.ext ((OZ.ext E7).keep K8 all0).2) hz rfl rfl (by decide) (by decide) hp9 rfl (by decide) (by decide)) rfl (by rw [hml]; rfl) (lenOf own_dsc9 rfl) (hb hby at_219) rfl (Nat.le_of_eq rfl) (by decide) (by decide) fun _ T9 L9 X9 q9 => ?_
    obtain ⟨rfl, N9q, K9, A9, C9, t9, kt9, -, -, -, D9, V9⟩ := q9
    have N9 := Fr.app N8 N9q
    have sf9_b7 := Safe.keep K9 (allS sf8_b7 all0) hC.1 sf8_b7
    have hC := hC.trans (CHr.keep K9 (allS sf8_b7 all0) hC.1)
    have sz9 : hst.size ≤ T9.heap.size := Nat.le_trans sz8 K9.1
    have hk9 : k0 ≤ T9.heap.size := Nat.le_trans hk8 K9.1
    show Go p e below _ T9 (mkF m 222 #[.val (.int xa), .val (.int xb), .val (.int xc), .val (.int xd), .val (.long w), .second, .val (.ref ar), .val (.int kk), .val (.int pp), .val (.int (2 : Int32)), .unset, .unset, .unset, .unset] [(.ref b7)])
    exact own_E l Z a0 hw p e s _ m _ below meth c _ _ _ _ _ xa xb xc xd w ar kk pp _ b7 t9 kt9 [nar .char c0, nar .char c1] 2 ((([nar .char c0, nar .char c1] : List Int32).map (fun c => c.toInt8.toInt32)).map Value.int) cz vals mA fA nM nF bM bF oE kv kM kF hx hZ hby hml hown hret hlk hS hk9 hs0 hC (X9.mono (by decide) (by decide)) rfl N9 sz9 (((OZ.ext E7).keep K8 all0).keep K9 (allS ge_b7 all0)) A9 D9 C9 V9 (StrChars.Road.codOf (n := 2) rfl (fun c hc => (hp9 c hc).2)) (own_up hp9) (Nat.le_of_ble_eq_true rfl) SB hz SV VV EV SM SF EM EF NM NF EnM CnM WnM AnM EnF CnF WnF AnF SE EE FE
  ·
    show Go p e below _ T0 (mkF m 208 #[.val (.int xa), .val (.int xb), .val (.int xc), .val (.int xd), .val (.long w), .second, .val (.ref ar), .val (.int kk), .val (.int pp), .val (.int (3 : Int32)), .unset, .unset, .unset, .unset] [])
    refine Go.new X0 hx hZ hown (hw _ (List.mem_of_getElem? (i := 3) rfl)) (hw _ (List.mem_of_getElem? (i := 4) rfl)) (hw _ (List.mem_of_getElem? (i := 5) rfl)) e0 (hb hby at_208) (by decide) (by decide) fun T10 h10 b10 g10 X10 e10 E10 A10 D10 => ?_
    have lt_ar_b10 : ar < b10 := Nat.lt_of_lt_of_le VA.lt (Nat.le_of_eq g10.symm)
    have ge_b10 : hst.size ≤ b10 := g10 ▸ Z0
    have sf_b10 := Safe.ext E10 hC.1 (Safe.new (Nat.le_of_eq g10.symm))
    have hC := hC.trans (CHr.ext E10 hC.1)
    have sz10 : hst.size ≤ h10.size := Nat.le_trans Z0 E10.1
    have hk10 : k0 ≤ h10.size := Nat.le_trans hk E10.1
    have F10_coder : Fld Z h10 b10 "java/lang/String" "coder" "B" (.int (0 : Int32)) := D10 (Or.inr (hw _ (List.mem_of_getElem? (i := 33) rfl))) (ty := .byte) (by decide)
    have F10_value : Fld Z h10 b10 "java/lang/String" "value" "[B" .null := D10 (Or.inr (hw _ (List.mem_of_getElem? (i := 35) rfl))) (ty := (.array .byte)) (by decide)
    show Go p e below _ T10 (mkF m 211 #[.val (.int xa), .val (.int xb), .val (.int xc), .val (.int xd), .val (.long w), .second, .val (.ref ar), .val (.int kk), .val (.int pp), .val (.int (3 : Int32)), .unset, .unset, .unset, .unset] [(.ref b10)])
    refine Go.of (fun _ kz => XS.dup X10.here hx rfl (hb hby at_211) rfl rfl kz) ?_
    show Go p e below _ T10 (mkF m 212 #[.val (.int xa), .val (.int xb), .val (.int xc), .val (.int xd), .val (.long w), .second, .val (.ref ar), .val (.int kk), .val (.int pp), .val (.int (3 : Int32)), .unset, .unset, .unset, .unset] [(.ref b10), (.ref b10)])
    refine Go.of (fun _ kz => XS.aload X10.here hx rfl (hb hby at_212) rfl rfl kz) ?_
    show Go p e below _ T10 (mkF m 214 #[.val (.int xa), .val (.int xb), .val (.int xc), .val (.int xd), .val (.long w), .second, .val (.ref ar), .val (.int kk), .val (.int pp), .val (.int (3 : Int32)), .unset, .unset, .unset, .unset] [(.ref ar), (.ref b10), (.ref b10)])
    refine Go.of (fun _ kz => XS.iload X10.here hx rfl (hb hby at_214) rfl kz) ?_
    show Go p e below _ T10 (mkF m 216 #[.val (.int xa), .val (.int xb), .val (.int xc), .val (.int xd), .val (.long w), .second, .val (.ref ar), .val (.int kk), .val (.int pp), .val (.int (3 : Int32)), .unset, .unset, .unset, .unset] [(.int (3 : Int32)), (.ref ar), (.ref b10), (.ref b10)])
    refine Go.callS (W := 2) (y := (⟨"com/example/vestry/vestry/engine/SexNamedPinLaw", "prefix", "([CI)[C"⟩ : MethodName)) (argsL := [(.ref ar), (.int (3 : Int32))]) (rest := [(.ref b10), (.ref b10)]) X10 hx hZ hown (hw _ (List.mem_of_getElem? (i := 6) rfl)) (hw _ (List.mem_of_getElem? (i := 7) rfl)) (hw _ (List.mem_of_getElem? (i := 8) rfl)) (hw _ (List.mem_of_getElem? (i := 9) rfl)) (by decide) (own_rmP3 l Z a0 hw ar ka c0 c1 c2 c3 c4 c5 hst.size h10 sz10 (VA.ext E10)) e10 (by rw [hml]; rfl) (lenOf own_dsc8 rfl) (hb hby at_216) rfl (Nat.le_of_eq rfl) (by decide) (by decide) (by decide) (by decide) fun _ T11 L11 X11 q11 => ?_
    obtain ⟨b11, k11, rfl, N11q, K11, g11, V11⟩ := q11
    have N11 := Fr.app N0 N11q
    have sf11_b10 := Safe.keep K11 all0 hC.1 sf_b10
    have hC := hC.trans (CHr.keep K11 all0 hC.1)
    have sz11 : hst.size ≤ T11.heap.size := Nat.le_trans sz10 K11.1
    have hk11 : k0 ≤ T11.heap.size := Nat.le_trans hk10 K11.1
    show Go p e below _ T11 (mkF m 219 #[.val (.int xa), .val (.int xb), .val (.int xc), .val (.int xd), .val (.long w), .second, .val (.ref ar), .val (.int kk), .val (.int pp), .val (.int (3 : Int32)), .unset, .unset, .unset, .unset] [(.ref b11), (.ref b10), (.ref b10)])
    have hp12 : ∀ c ∈ ([nar .char c0, nar .char c1, nar .char c2] : List Int32), own_R c := (own_allC (own_nR r0) (own_allC (own_nR r1) (own_all1 (own_nR r2))))
    refine Go.callIB (W := 1) (y := (⟨"java/lang/String", "<init>", "([C)V"⟩ : MethodName)) (a := b10) (argsL := [.ref b11]) (rest := [(.ref b10)]) X11 hx hZ rfl hown (hw _ (List.mem_of_getElem? (i := 10) rfl)) (hw _ (List.mem_of_getElem? (i := 11) rfl)) (hw _ (List.mem_of_getElem? (i := 12) rfl)) (by decide) (StrChars.Road.backV (W := 1) (R := room_1) hZ (own_hws Z a0 hw) (kI := 4) (hw _ (List.mem_of_getElem? (i := 4) rfl)) (cs := [nar .char c0, nar .char c1, nar .char c2]) (bs := ([nar .char c0, nar .char c1, nar .char c2] : List Int32).map (fun c => c.toInt8.toInt32)) (n := 3) (N := 3) (n0 := hst.size) ge_b10 sz11 (A10.keep K11) (F10_value.keep K11 nin0) (F10_coder.keep K11 nin0) V11 (SB.ext ((OZ.ext E10).keep K11 all0).2) hz rfl rfl (by decide) (by decide) hp12 rfl (by decide) (by decide)) rfl (by rw [hml]; rfl) (lenOf own_dsc9 rfl) (hb hby at_219) rfl (Nat.le_of_eq rfl) (by decide) (by decide) fun _ T12 L12 X12 q12 => ?_
    obtain ⟨rfl, N12q, K12, A12, C12, t12, kt12, -, -, -, D12, V12⟩ := q12
    have N12 := Fr.app N11 N12q
    have sf12_b10 := Safe.keep K12 (allS sf11_b10 all0) hC.1 sf11_b10
    have hC := hC.trans (CHr.keep K12 (allS sf11_b10 all0) hC.1)
    have sz12 : hst.size ≤ T12.heap.size := Nat.le_trans sz11 K12.1
    have hk12 : k0 ≤ T12.heap.size := Nat.le_trans hk11 K12.1
    show Go p e below _ T12 (mkF m 222 #[.val (.int xa), .val (.int xb), .val (.int xc), .val (.int xd), .val (.long w), .second, .val (.ref ar), .val (.int kk), .val (.int pp), .val (.int (3 : Int32)), .unset, .unset, .unset, .unset] [(.ref b10)])
    exact own_E l Z a0 hw p e s _ m _ below meth c _ _ _ _ _ xa xb xc xd w ar kk pp _ b10 t12 kt12 [nar .char c0, nar .char c1, nar .char c2] 3 ((([nar .char c0, nar .char c1, nar .char c2] : List Int32).map (fun c => c.toInt8.toInt32)).map Value.int) cz vals mA fA nM nF bM bF oE kv kM kF hx hZ hby hml hown hret hlk hS hk12 hs0 hC (X12.mono (by decide) (by decide)) rfl N12 sz12 (((OZ.ext E10).keep K11 all0).keep K12 (allS ge_b10 all0)) A12 D12 C12 V12 (StrChars.Road.codOf (n := 3) rfl (fun c hc => (hp12 c hc).2)) (own_up hp12) (Nat.le_of_ble_eq_true rfl) SB hz SV VV EV SM SF EM EF NM NF EnM CnM WnM AnM EnF CnF WnF AnF SE EE FE
  ·
    show Go p e below _ T0 (mkF m 208 #[.val (.int xa), .val (.int xb), .val (.int xc), .val (.int xd), .val (.long w), .second, .val (.ref ar), .val (.int kk), .val (.int pp), .val (.int (4 : Int32)), .unset, .unset, .unset, .unset] [])
    refine Go.new X0 hx hZ hown (hw _ (List.mem_of_getElem? (i := 3) rfl)) (hw _ (List.mem_of_getElem? (i := 4) rfl)) (hw _ (List.mem_of_getElem? (i := 5) rfl)) e0 (hb hby at_208) (by decide) (by decide) fun T13 h13 b13 g13 X13 e13 E13 A13 D13 => ?_
    have lt_ar_b13 : ar < b13 := Nat.lt_of_lt_of_le VA.lt (Nat.le_of_eq g13.symm)
    have ge_b13 : hst.size ≤ b13 := g13 ▸ Z0
    have sf_b13 := Safe.ext E13 hC.1 (Safe.new (Nat.le_of_eq g13.symm))
    have hC := hC.trans (CHr.ext E13 hC.1)
    have sz13 : hst.size ≤ h13.size := Nat.le_trans Z0 E13.1
    have hk13 : k0 ≤ h13.size := Nat.le_trans hk E13.1
    have F13_coder : Fld Z h13 b13 "java/lang/String" "coder" "B" (.int (0 : Int32)) := D13 (Or.inr (hw _ (List.mem_of_getElem? (i := 33) rfl))) (ty := .byte) (by decide)
    have F13_value : Fld Z h13 b13 "java/lang/String" "value" "[B" .null := D13 (Or.inr (hw _ (List.mem_of_getElem? (i := 35) rfl))) (ty := (.array .byte)) (by decide)
    show Go p e below _ T13 (mkF m 211 #[.val (.int xa), .val (.int xb), .val (.int xc), .val (.int xd), .val (.long w), .second, .val (.ref ar), .val (.int kk), .val (.int pp), .val (.int (4 : Int32)), .unset, .unset, .unset, .unset] [(.ref b13)])
    refine Go.of (fun _ kz => XS.dup X13.here hx rfl (hb hby at_211) rfl rfl kz) ?_
    show Go p e below _ T13 (mkF m 212 #[.val (.int xa), .val (.int xb), .val (.int xc), .val (.int xd), .val (.long w), .second, .val (.ref ar), .val (.int kk), .val (.int pp), .val (.int (4 : Int32)), .unset, .unset, .unset, .unset] [(.ref b13), (.ref b13)])
    refine Go.of (fun _ kz => XS.aload X13.here hx rfl (hb hby at_212) rfl rfl kz) ?_
    show Go p e below _ T13 (mkF m 214 #[.val (.int xa), .val (.int xb), .val (.int xc), .val (.int xd), .val (.long w), .second, .val (.ref ar), .val (.int kk), .val (.int pp), .val (.int (4 : Int32)), .unset, .unset, .unset, .unset] [(.ref ar), (.ref b13), (.ref b13)])
    refine Go.of (fun _ kz => XS.iload X13.here hx rfl (hb hby at_214) rfl kz) ?_
    show Go p e below _ T13 (mkF m 216 #[.val (.int xa), .val (.int xb), .val (.int xc), .val (.int xd), .val (.long w), .second, .val (.ref ar), .val (.int kk), .val (.int pp), .val (.int (4 : Int32)), .unset, .unset, .unset, .unset] [(.int (4 : Int32)), (.ref ar), (.ref b13), (.ref b13)])
    refine Go.callS (W := 2) (y := (⟨"com/example/vestry/vestry/engine/SexNamedPinLaw", "prefix", "([CI)[C"⟩ : MethodName)) (argsL := [(.ref ar), (.int (4 : Int32))]) (rest := [(.ref b13), (.ref b13)]) X13 hx hZ hown (hw _ (List.mem_of_getElem? (i := 6) rfl)) (hw _ (List.mem_of_getElem? (i := 7) rfl)) (hw _ (List.mem_of_getElem? (i := 8) rfl)) (hw _ (List.mem_of_getElem? (i := 9) rfl)) (by decide) (own_rmP4 l Z a0 hw ar ka c0 c1 c2 c3 c4 c5 hst.size h13 sz13 (VA.ext E13)) e13 (by rw [hml]; rfl) (lenOf own_dsc8 rfl) (hb hby at_216) rfl (Nat.le_of_eq rfl) (by decide) (by decide) (by decide) (by decide) fun _ T14 L14 X14 q14 => ?_
    obtain ⟨b14, k14, rfl, N14q, K14, g14, V14⟩ := q14
    have N14 := Fr.app N0 N14q
    have sf14_b13 := Safe.keep K14 all0 hC.1 sf_b13
    have hC := hC.trans (CHr.keep K14 all0 hC.1)
    have sz14 : hst.size ≤ T14.heap.size := Nat.le_trans sz13 K14.1
    have hk14 : k0 ≤ T14.heap.size := Nat.le_trans hk13 K14.1
    show Go p e below _ T14 (mkF m 219 #[.val (.int xa), .val (.int xb), .val (.int xc), .val (.int xd), .val (.long w), .second, .val (.ref ar), .val (.int kk), .val (.int pp), .val (.int (4 : Int32)), .unset, .unset, .unset, .unset] [(.ref b14), (.ref b13), (.ref b13)])
    have hp15 : ∀ c ∈ ([nar .char c0, nar .char c1, nar .char c2, nar .char c3] : List Int32), own_R c := (own_allC (own_nR r0) (own_allC (own_nR r1) (own_allC (own_nR r2) (own_all1 (own_nR r3)))))
    refine Go.callIB (W := 1) (y := (⟨"java/lang/String", "<init>", "([C)V"⟩ : MethodName)) (a := b13) (argsL := [.ref b14]) (rest := [(.ref b13)]) X14 hx hZ rfl hown (hw _ (List.mem_of_getElem? (i := 10) rfl)) (hw _ (List.mem_of_getElem? (i := 11) rfl)) (hw _ (List.mem_of_getElem? (i := 12) rfl)) (by decide) (StrChars.Road.backV (W := 1) (R := room_1) hZ (own_hws Z a0 hw) (kI := 4) (hw _ (List.mem_of_getElem? (i := 4) rfl)) (cs := [nar .char c0, nar .char c1, nar .char c2, nar .char c3]) (bs := ([nar .char c0, nar .char c1, nar .char c2, nar .char c3] : List Int32).map (fun c => c.toInt8.toInt32)) (n := 4) (N := 4) (n0 := hst.size) ge_b13 sz14 (A13.keep K14) (F13_value.keep K14 nin0) (F13_coder.keep K14 nin0) V14 (SB.ext ((OZ.ext E13).keep K14 all0).2) hz rfl rfl (by decide) (by decide) hp15 rfl (by decide) (by decide)) rfl (by rw [hml]; rfl) (lenOf own_dsc9 rfl) (hb hby at_219) rfl (Nat.le_of_eq rfl) (by decide) (by decide) fun _ T15 L15 X15 q15 => ?_
    obtain ⟨rfl, N15q, K15, A15, C15, t15, kt15, -, -, -, D15, V15⟩ := q15
    have N15 := Fr.app N14 N15q
    have sf15_b13 := Safe.keep K15 (allS sf14_b13 all0) hC.1 sf14_b13
    have hC := hC.trans (CHr.keep K15 (allS sf14_b13 all0) hC.1)
    have sz15 : hst.size ≤ T15.heap.size := Nat.le_trans sz14 K15.1
    have hk15 : k0 ≤ T15.heap.size := Nat.le_trans hk14 K15.1
    show Go p e below _ T15 (mkF m 222 #[.val (.int xa), .val (.int xb), .val (.int xc), .val (.int xd), .val (.long w), .second, .val (.ref ar), .val (.int kk), .val (.int pp), .val (.int (4 : Int32)), .unset, .unset, .unset, .unset] [(.ref b13)])
    exact own_E l Z a0 hw p e s _ m _ below meth c _ _ _ _ _ xa xb xc xd w ar kk pp _ b13 t15 kt15 [nar .char c0, nar .char c1, nar .char c2, nar .char c3] 4 ((([nar .char c0, nar .char c1, nar .char c2, nar .char c3] : List Int32).map (fun c => c.toInt8.toInt32)).map Value.int) cz vals mA fA nM nF bM bF oE kv kM kF hx hZ hby hml hown hret hlk hS hk15 hs0 hC (X15.mono (by decide) (by decide)) rfl N15 sz15 (((OZ.ext E13).keep K14 all0).keep K15 (allS ge_b13 all0)) A15 D15 C15 V15 (StrChars.Road.codOf (n := 4) rfl (fun c hc => (hp15 c hc).2)) (own_up hp15) (Nat.le_of_ble_eq_true rfl) SB hz SV VV EV SM SF EM EF NM NF EnM CnM WnM AnM EnF CnF WnF AnF SE EE FE
  ·
    show Go p e below _ T0 (mkF m 208 #[.val (.int xa), .val (.int xb), .val (.int xc), .val (.int xd), .val (.long w), .second, .val (.ref ar), .val (.int kk), .val (.int pp), .val (.int (5 : Int32)), .unset, .unset, .unset, .unset] [])
    refine Go.new X0 hx hZ hown (hw _ (List.mem_of_getElem? (i := 3) rfl)) (hw _ (List.mem_of_getElem? (i := 4) rfl)) (hw _ (List.mem_of_getElem? (i := 5) rfl)) e0 (hb hby at_208) (by decide) (by decide) fun T16 h16 b16 g16 X16 e16 E16 A16 D16 => ?_
    have lt_ar_b16 : ar < b16 := Nat.lt_of_lt_of_le VA.lt (Nat.le_of_eq g16.symm)
    have ge_b16 : hst.size ≤ b16 := g16 ▸ Z0
    have sf_b16 := Safe.ext E16 hC.1 (Safe.new (Nat.le_of_eq g16.symm))
    have hC := hC.trans (CHr.ext E16 hC.1)
    have sz16 : hst.size ≤ h16.size := Nat.le_trans Z0 E16.1
    have hk16 : k0 ≤ h16.size := Nat.le_trans hk E16.1
    have F16_coder : Fld Z h16 b16 "java/lang/String" "coder" "B" (.int (0 : Int32)) := D16 (Or.inr (hw _ (List.mem_of_getElem? (i := 33) rfl))) (ty := .byte) (by decide)
    have F16_value : Fld Z h16 b16 "java/lang/String" "value" "[B" .null := D16 (Or.inr (hw _ (List.mem_of_getElem? (i := 35) rfl))) (ty := (.array .byte)) (by decide)
    show Go p e below _ T16 (mkF m 211 #[.val (.int xa), .val (.int xb), .val (.int xc), .val (.int xd), .val (.long w), .second, .val (.ref ar), .val (.int kk), .val (.int pp), .val (.int (5 : Int32)), .unset, .unset, .unset, .unset] [(.ref b16)])
    refine Go.of (fun _ kz => XS.dup X16.here hx rfl (hb hby at_211) rfl rfl kz) ?_
    show Go p e below _ T16 (mkF m 212 #[.val (.int xa), .val (.int xb), .val (.int xc), .val (.int xd), .val (.long w), .second, .val (.ref ar), .val (.int kk), .val (.int pp), .val (.int (5 : Int32)), .unset, .unset, .unset, .unset] [(.ref b16), (.ref b16)])
    refine Go.of (fun _ kz => XS.aload X16.here hx rfl (hb hby at_212) rfl rfl kz) ?_
    show Go p e below _ T16 (mkF m 214 #[.val (.int xa), .val (.int xb), .val (.int xc), .val (.int xd), .val (.long w), .second, .val (.ref ar), .val (.int kk), .val (.int pp), .val (.int (5 : Int32)), .unset, .unset, .unset, .unset] [(.ref ar), (.ref b16), (.ref b16)])
    refine Go.of (fun _ kz => XS.iload X16.here hx rfl (hb hby at_214) rfl kz) ?_
    show Go p e below _ T16 (mkF m 216 #[.val (.int xa), .val (.int xb), .val (.int xc), .val (.int xd), .val (.long w), .second, .val (.ref ar), .val (.int kk), .val (.int pp), .val (.int (5 : Int32)), .unset, .unset, .unset, .unset] [(.int (5 : Int32)), (.ref ar), (.ref b16), (.ref b16)])
    refine Go.callS (W := 2) (y := (⟨"com/example/vestry/vestry/engine/SexNamedPinLaw", "prefix", "([CI)[C"⟩ : MethodName)) (argsL := [(.ref ar), (.int (5 : Int32))]) (rest := [(.ref b16), (.ref b16)]) X16 hx hZ hown (hw _ (List.mem_of_getElem? (i := 6) rfl)) (hw _ (List.mem_of_getElem? (i := 7) rfl)) (hw _ (List.mem_of_getElem? (i := 8) rfl)) (hw _ (List.mem_of_getElem? (i := 9) rfl)) (by decide) (own_rmP5 l Z a0 hw ar ka c0 c1 c2 c3 c4 c5 hst.size h16 sz16 (VA.ext E16)) e16 (by rw [hml]; rfl) (lenOf own_dsc8 rfl) (hb hby at_216) rfl (Nat.le_of_eq rfl) (by decide) (by decide) (by decide) (by decide) fun _ T17 L17 X17 q17 => ?_
    obtain ⟨b17, k17, rfl, N17q, K17, g17, V17⟩ := q17
    have N17 := Fr.app N0 N17q
    have sf17_b16 := Safe.keep K17 all0 hC.1 sf_b16
    have hC := hC.trans (CHr.keep K17 all0 hC.1)
    have sz17 : hst.size ≤ T17.heap.size := Nat.le_trans sz16 K17.1
    have hk17 : k0 ≤ T17.heap.size := Nat.le_trans hk16 K17.1
    show Go p e below _ T17 (mkF m 219 #[.val (.int xa), .val (.int xb), .val (.int xc), .val (.int xd), .val (.long w), .second, .val (.ref ar), .val (.int kk), .val (.int pp), .val (.int (5 : Int32)), .unset, .unset, .unset, .unset] [(.ref b17), (.ref b16), (.ref b16)])
    have hp18 : ∀ c ∈ ([nar .char c0, nar .char c1, nar .char c2, nar .char c3, nar .char c4] : List Int32), own_R c := (own_allC (own_nR r0) (own_allC (own_nR r1) (own_allC (own_nR r2) (own_allC (own_nR r3) (own_all1 (own_nR r4))))))
    refine Go.callIB (W := 1) (y := (⟨"java/lang/String", "<init>", "([C)V"⟩ : MethodName)) (a := b16) (argsL := [.ref b17]) (rest := [(.ref b16)]) X17 hx hZ rfl hown (hw _ (List.mem_of_getElem? (i := 10) rfl)) (hw _ (List.mem_of_getElem? (i := 11) rfl)) (hw _ (List.mem_of_getElem? (i := 12) rfl)) (by decide) (StrChars.Road.backV (W := 1) (R := room_1) hZ (own_hws Z a0 hw) (kI := 4) (hw _ (List.mem_of_getElem? (i := 4) rfl)) (cs := [nar .char c0, nar .char c1, nar .char c2, nar .char c3, nar .char c4]) (bs := ([nar .char c0, nar .char c1, nar .char c2, nar .char c3, nar .char c4] : List Int32).map (fun c => c.toInt8.toInt32)) (n := 5) (N := 5) (n0 := hst.size) ge_b16 sz17 (A16.keep K17) (F16_value.keep K17 nin0) (F16_coder.keep K17 nin0) V17 (SB.ext ((OZ.ext E16).keep K17 all0).2) hz rfl rfl (by decide) (by decide) hp18 rfl (by decide) (by decide)) rfl (by rw [hml]; rfl) (lenOf own_dsc9 rfl) (hb hby at_219) rfl (Nat.le_of_eq rfl) (by decide) (by decide) fun _ T18 L18 X18 q18 => ?_
    obtain ⟨rfl, N18q, K18, A18, C18, t18, kt18, -, -, -, D18, V18⟩ := q18
    have N18 := Fr.app N17 N18q
    have sf18_b16 := Safe.keep K18 (allS sf17_b16 all0) hC.1 sf17_b16
    have hC := hC.trans (CHr.keep K18 (allS sf17_b16 all0) hC.1)
    have sz18 : hst.size ≤ T18.heap.size := Nat.le_trans sz17 K18.1
    have hk18 : k0 ≤ T18.heap.size := Nat.le_trans hk17 K18.1
    show Go p e below _ T18 (mkF m 222 #[.val (.int xa), .val (.int xb), .val (.int xc), .val (.int xd), .val (.long w), .second, .val (.ref ar), .val (.int kk), .val (.int pp), .val (.int (5 : Int32)), .unset, .unset, .unset, .unset] [(.ref b16)])
    exact own_E l Z a0 hw p e s _ m _ below meth c _ _ _ _ _ xa xb xc xd w ar kk pp _ b16 t18 kt18 [nar .char c0, nar .char c1, nar .char c2, nar .char c3, nar .char c4] 5 ((([nar .char c0, nar .char c1, nar .char c2, nar .char c3, nar .char c4] : List Int32).map (fun c => c.toInt8.toInt32)).map Value.int) cz vals mA fA nM nF bM bF oE kv kM kF hx hZ hby hml hown hret hlk hS hk18 hs0 hC (X18.mono (by decide) (by decide)) rfl N18 sz18 (((OZ.ext E16).keep K17 all0).keep K18 (allS ge_b16 all0)) A18 D18 C18 V18 (StrChars.Road.codOf (n := 5) rfl (fun c hc => (hp18 c hc).2)) (own_up hp18) (Nat.le_of_ble_eq_true rfl) SB hz SV VV EV SM SF EM EF NM NF EnM CnM WnM AnM EnF CnF WnF AnF SE EE FE
  ·
    show Go p e below _ T0 (mkF m 208 #[.val (.int xa), .val (.int xb), .val (.int xc), .val (.int xd), .val (.long w), .second, .val (.ref ar), .val (.int kk), .val (.int pp), .val (.int (6 : Int32)), .unset, .unset, .unset, .unset] [])
    refine Go.new X0 hx hZ hown (hw _ (List.mem_of_getElem? (i := 3) rfl)) (hw _ (List.mem_of_getElem? (i := 4) rfl)) (hw _ (List.mem_of_getElem? (i := 5) rfl)) e0 (hb hby at_208) (by decide) (by decide) fun T19 h19 b19 g19 X19 e19 E19 A19 D19 => ?_
    have lt_ar_b19 : ar < b19 := Nat.lt_of_lt_of_le VA.lt (Nat.le_of_eq g19.symm)
    have ge_b19 : hst.size ≤ b19 := g19 ▸ Z0
    have sf_b19 := Safe.ext E19 hC.1 (Safe.new (Nat.le_of_eq g19.symm))
    have hC := hC.trans (CHr.ext E19 hC.1)
    have sz19 : hst.size ≤ h19.size := Nat.le_trans Z0 E19.1
    have hk19 : k0 ≤ h19.size := Nat.le_trans hk E19.1
    have F19_coder : Fld Z h19 b19 "java/lang/String" "coder" "B" (.int (0 : Int32)) := D19 (Or.inr (hw _ (List.mem_of_getElem? (i := 33) rfl))) (ty := .byte) (by decide)
    have F19_value : Fld Z h19 b19 "java/lang/String" "value" "[B" .null := D19 (Or.inr (hw _ (List.mem_of_getElem? (i := 35) rfl))) (ty := (.array .byte)) (by decide)
    show Go p e below _ T19 (mkF m 211 #[.val (.int xa), .val (.int xb), .val (.int xc), .val (.int xd), .val (.long w), .second, .val (.ref ar), .val (.int kk), .val (.int pp), .val (.int (6 : Int32)), .unset, .unset, .unset, .unset] [(.ref b19)])
    refine Go.of (fun _ kz => XS.dup X19.here hx rfl (hb hby at_211) rfl rfl kz) ?_
    show Go p e below _ T19 (mkF m 212 #[.val (.int xa), .val (.int xb), .val (.int xc), .val (.int xd), .val (.long w), .second, .val (.ref ar), .val (.int kk), .val (.int pp), .val (.int (6 : Int32)), .unset, .unset, .unset, .unset] [(.ref b19), (.ref b19)])
    refine Go.of (fun _ kz => XS.aload X19.here hx rfl (hb hby at_212) rfl rfl kz) ?_
    show Go p e below _ T19 (mkF m 214 #[.val (.int xa), .val (.int xb), .val (.int xc), .val (.int xd), .val (.long w), .second, .val (.ref ar), .val (.int kk), .val (.int pp), .val (.int (6 : Int32)), .unset, .unset, .unset, .unset] [(.ref ar), (.ref b19), (.ref b19)])
    refine Go.of (fun _ kz => XS.iload X19.here hx rfl (hb hby at_214) rfl kz) ?_
    show Go p e below _ T19 (mkF m 216 #[.val (.int xa), .val (.int xb), .val (.int xc), .val (.int xd), .val (.long w), .second, .val (.ref ar), .val (.int kk), .val (.int pp), .val (.int (6 : Int32)), .unset, .unset, .unset, .unset] [(.int (6 : Int32)), (.ref ar), (.ref b19), (.ref b19)])
    refine Go.callS (W := 2) (y := (⟨"com/example/vestry/vestry/engine/SexNamedPinLaw", "prefix", "([CI)[C"⟩ : MethodName)) (argsL := [(.ref ar), (.int (6 : Int32))]) (rest := [(.ref b19), (.ref b19)]) X19 hx hZ hown (hw _ (List.mem_of_getElem? (i := 6) rfl)) (hw _ (List.mem_of_getElem? (i := 7) rfl)) (hw _ (List.mem_of_getElem? (i := 8) rfl)) (hw _ (List.mem_of_getElem? (i := 9) rfl)) (by decide) (own_rmP6 l Z a0 hw ar ka c0 c1 c2 c3 c4 c5 hst.size h19 sz19 (VA.ext E19)) e19 (by rw [hml]; rfl) (lenOf own_dsc8 rfl) (hb hby at_216) rfl (Nat.le_of_eq rfl) (by decide) (by decide) (by decide) (by decide) fun _ T20 L20 X20 q20 => ?_
    obtain ⟨b20, k20, rfl, N20q, K20, g20, V20⟩ := q20
    have N20 := Fr.app N0 N20q
    have sf20_b19 := Safe.keep K20 all0 hC.1 sf_b19
    have hC := hC.trans (CHr.keep K20 all0 hC.1)
    have sz20 : hst.size ≤ T20.heap.size := Nat.le_trans sz19 K20.1
    have hk20 : k0 ≤ T20.heap.size := Nat.le_trans hk19 K20.1
    show Go p e below _ T20 (mkF m 219 #[.val (.int xa), .val (.int xb), .val (.int xc), .val (.int xd), .val (.long w), .second, .val (.ref ar), .val (.int kk), .val (.int pp), .val (.int (6 : Int32)), .unset, .unset, .unset, .unset] [(.ref b20), (.ref b19), (.ref b19)])
    have hp21 : ∀ c ∈ ([nar .char c0, nar .char c1, nar .char c2, nar .char c3, nar .char c4, nar .char c5] : List Int32), own_R c := (own_allC (own_nR r0) (own_allC (own_nR r1) (own_allC (own_nR r2) (own_allC (own_nR r3) (own_allC (own_nR r4) (own_all1 (own_nR r5)))))))
    refine Go.callIB (W := 1) (y := (⟨"java/lang/String", "<init>", "([C)V"⟩ : MethodName)) (a := b19) (argsL := [.ref b20]) (rest := [(.ref b19)]) X20 hx hZ rfl hown (hw _ (List.mem_of_getElem? (i := 10) rfl)) (hw _ (List.mem_of_getElem? (i := 11) rfl)) (hw _ (List.mem_of_getElem? (i := 12) rfl)) (by decide) (StrChars.Road.backV (W := 1) (R := room_1) hZ (own_hws Z a0 hw) (kI := 4) (hw _ (List.mem_of_getElem? (i := 4) rfl)) (cs := [nar .char c0, nar .char c1, nar .char c2, nar .char c3, nar .char c4, nar .char c5]) (bs := ([nar .char c0, nar .char c1, nar .char c2, nar .char c3, nar .char c4, nar .char c5] : List Int32).map (fun c => c.toInt8.toInt32)) (n := 6) (N := 6) (n0 := hst.size) ge_b19 sz20 (A19.keep K20) (F19_value.keep K20 nin0) (F19_coder.keep K20 nin0) V20 (SB.ext ((OZ.ext E19).keep K20 all0).2) hz rfl rfl (by decide) (by decide) hp21 rfl (by decide) (by decide)) rfl (by rw [hml]; rfl) (lenOf own_dsc9 rfl) (hb hby at_219) rfl (Nat.le_of_eq rfl) (by decide) (by decide) fun _ T21 L21 X21 q21 => ?_
    obtain ⟨rfl, N21q, K21, A21, C21, t21, kt21, -, -, -, D21, V21⟩ := q21
    have N21 := Fr.app N20 N21q
    have sf21_b19 := Safe.keep K21 (allS sf20_b19 all0) hC.1 sf20_b19
    have hC := hC.trans (CHr.keep K21 (allS sf20_b19 all0) hC.1)
    have sz21 : hst.size ≤ T21.heap.size := Nat.le_trans sz20 K21.1
    have hk21 : k0 ≤ T21.heap.size := Nat.le_trans hk20 K21.1
    show Go p e below _ T21 (mkF m 222 #[.val (.int xa), .val (.int xb), .val (.int xc), .val (.int xd), .val (.long w), .second, .val (.ref ar), .val (.int kk), .val (.int pp), .val (.int (6 : Int32)), .unset, .unset, .unset, .unset] [(.ref b19)])
    exact own_E l Z a0 hw p e s _ m _ below meth c _ _ _ _ _ xa xb xc xd w ar kk pp _ b19 t21 kt21 [nar .char c0, nar .char c1, nar .char c2, nar .char c3, nar .char c4, nar .char c5] 6 ((([nar .char c0, nar .char c1, nar .char c2, nar .char c3, nar .char c4, nar .char c5] : List Int32).map (fun c => c.toInt8.toInt32)).map Value.int) cz vals mA fA nM nF bM bF oE kv kM kF hx hZ hby hml hown hret hlk hS hk21 hs0 hC (X21.mono (by decide) (by decide)) rfl N21 sz21 (((OZ.ext E19).keep K20 all0).keep K21 (allS ge_b19 all0)) A21 D21 C21 V21 (StrChars.Road.codOf (n := 6) rfl (fun c hc => (hp21 c hc).2)) (own_up hp21) (Nat.le_of_ble_eq_true rfl) SB hz SV VV EV SM SF EM EF NM NF EnM CnM WnM AnM EnF CnF WnF AnF SE EE FE
set_option maxRecDepth 65536 in
set_option maxHeartbeats 40000000 in
theorem own_C (l : Launch) (Z : State) (a0 : Array Value) (hw : ∀ d ∈ tables_1, d.before a0 Z = true) (p : Program) (e : Env) (s : State) (vm0 : Vm) (m : MethodId) (args : Array Value) (below : List Frame) (meth : Method) (c : Code) (T0 : State) (locs : List Loc) (k0 : Nat) (h0 hst : Heap) (xa xb xc xd : Int32) (w : Int64) (ar : Addr) (ka : ClassId) (c0 c1 c2 c3 c4 c5 : Int32) (kk : Int32) (cz : Int32) (vals mA fA nM nF bM bF oE : Addr) (kv kM kF : ClassId)
    (hx : p.tables.exec = Jvm.exec) (hZ : Z.Warmed39 vm0) (hby : c.code = code) (hml : c.maxLocals = 14) (hown : vm0.findClass "com/example/vestry/vestry/engine/SexNamedPinLaw" = some m.cls) (hret : meth.sig.returnType = some .boolean) (hlk : meth.locks = false) (hS : s.Since vm0 k0) (hk : k0 ≤ h0.size) (hs0 : s.heap = hst) (hC : CHr Z consts_1 s.vm hst vm0 h0) (X0 : Stand p l e room_1 (s.setVm vm0) m args below meth c T0 locs 1 6) (e0 : T0.heap = h0) (N0 : Fr hst.size locs) (Z0 : hst.size ≤ h0.size) (OZ : Old Z hst.size h0) (VA : Arv Z h0 ar ka .char 6 [.int c0, .int c1, .int c2, .int c3, .int c4, .int c5] (.int 0)) (r0 : own_R c0) (r1 : own_R c1) (r2 : own_R c2) (r3 : own_R c3) (r4 : own_R c4) (r5 : own_R c5) (ga : hst.size ≤ ar) (SB : Sta Z Z.heap "java/lang/String" "COMPACT_STRINGS" "Z" (.int cz)) (hz : ¬ cz = (0 : Int32)) (SV : Sta Z Z.heap "com/example/vestry/vestry/engine/Sex" "$VALUES" "[Lcom/example/vestry/vestry/engine/Sex;" (.ref vals)) (VV : Arv Z Z.heap vals kv (.object "com/example/vestry/vestry/engine/Sex") 2 [.ref mA, .ref fA] .null) (EV : Exa Z Z.heap vals "[Lcom/example/vestry/vestry/engine/Sex;") (SM : Sta Z Z.heap "com/example/vestry/vestry/engine/Sex" "MALE" "Lcom/example/vestry/vestry/engine/Sex;" (.ref mA)) (SF : Sta Z Z.heap "com/example/vestry/vestry/engine/Sex" "FEMALE" "Lcom/example/vestry/vestry/engine/Sex;" (.ref fA)) (EM : Exa Z Z.heap mA "com/example/vestry/vestry/engine/Sex") (EF : Exa Z Z.heap fA "com/example/vestry/vestry/engine/Sex") (NM : Fld Z Z.heap mA "com/example/vestry/vestry/engine/Sex" "name" "Ljava/lang/String;" (.ref nM)) (NF : Fld Z Z.heap fA "com/example/vestry/vestry/engine/Sex" "name" "Ljava/lang/String;" (.ref nF)) (EnM : Exa Z Z.heap nM "java/lang/String") (CnM : Fld Z Z.heap nM "java/lang/String" "coder" "B" (.int 0)) (WnM : Fld Z Z.heap nM "java/lang/String" "value" "[B" (.ref bM)) (AnM : Arv Z Z.heap bM kM .byte 4 [.int 109, .int 97, .int 108, .int 101] (.int 0)) (EnF : Exa Z Z.heap nF "java/lang/String") (CnF : Fld Z Z.heap nF "java/lang/String" "coder" "B" (.int 0)) (WnF : Fld Z Z.heap nF "java/lang/String" "value" "[B" (.ref bF)) (AnF : Arv Z Z.heap bF kF .byte 6 [.int 102, .int 101, .int 109, .int 97, .int 108, .int 101] (.int 0)) (SE : Sta Z Z.heap "java/util/Optional" "EMPTY" "Ljava/util/Optional;" (.ref oE)) (EE : Exa Z Z.heap oE "java/util/Optional") (FE : Fld Z Z.heap oE "java/util/Optional" "value" "Ljava/lang/Object;" .null) :
    Go p e below (GoEndH Z consts_1 s room_1.cells room_1.slots (fun v _ L => v = some (.int 1) ∧ Fr hst.size L)) T0 (mkF m 172 #[.val (.int xa), .val (.int xb), .val (.int xc), .val (.int xd), .val (.long w), .second, .val (.ref ar), .val (.int kk), .unset, .unset, .unset, .unset, .unset, .unset] []) := by
  have hEL := own_EW Z a0 hw
  have wS : ∀ d ∈ Bundle.stringAtoms, d.before a0 Z = true := fun d hd => by
    simp only [Bundle.stringAtoms, List.mem_cons, List.not_mem_nil, or_false] at hd
    rcases hd with rfl | rfl | rfl | rfl | rfl | rfl | rfl
    · exact (hw _ (List.mem_of_getElem? (i := 5) rfl))
    · exact (hw _ (List.mem_of_getElem? (i := 4) rfl))
    · exact (hw _ (List.mem_of_getElem? (i := 25) rfl))
    · exact (hw _ (List.mem_of_getElem? (i := 35) rfl))
    · exact (hw _ (List.mem_of_getElem? (i := 33) rfl))
    · exact (hw _ (List.mem_of_getElem? (i := 82) rfl))
    · exact (hw _ (List.mem_of_getElem? (i := 83) rfl))
  show Go p e below _ T0 (mkF m 172 #[.val (.int xa), .val (.int xb), .val (.int xc), .val (.int xd), .val (.long w), .second, .val (.ref ar), .val (.int kk), .unset, .unset, .unset, .unset, .unset, .unset] [])
  refine Go.of (fun _ kz => XS.iloadN X0.here hx rfl (hb hby at_172) rfl kz) ?_
  show Go p e below _ T0 (mkF m 173 #[.val (.int xa), .val (.int xb), .val (.int xc), .val (.int xd), .val (.long w), .second, .val (.ref ar), .val (.int kk), .unset, .unset, .unset, .unset, .unset, .unset] [(.int xc)])
  refine Go.of (X0.ldcInt hx hown (mvT hZ (hw _ (List.mem_of_getElem? (i := 2) rfl))) (g := (mkF m 173 #[.val (.int xa), .val (.int xb), .val (.int xc), .val (.int xd), .val (.long w), .second, .val (.ref ar), .val (.int kk), .unset, .unset, .unset, .unset, .unset, .unset] [(.int xc)])) rfl (hb hby at_173)) ?_
  show Go p e below _ T0 (mkF m 175 #[.val (.int xa), .val (.int xb), .val (.int xc), .val (.int xd), .val (.long w), .second, .val (.ref ar), .val (.int kk), .unset, .unset, .unset, .unset, .unset, .unset] [(.int (2147483647 : Int32)), (.int xc)])
  refine Go.of (fun _ kz => XS.iand X0.here hx rfl (hb hby at_175) rfl kz) ?_
  show Go p e below _ T0 (mkF m 176 #[.val (.int xa), .val (.int xb), .val (.int xc), .val (.int xd), .val (.long w), .second, .val (.ref ar), .val (.int kk), .unset, .unset, .unset, .unset, .unset, .unset] [(.int (xc &&& (2147483647 : Int32)))])
  refine Go.of (fun _ kz => XS.bipush X0.here hx rfl (hb hby at_176) kz) ?_
  show Go p e below _ T0 (mkF m 178 #[.val (.int xa), .val (.int xb), .val (.int xc), .val (.int xd), .val (.long w), .second, .val (.ref ar), .val (.int kk), .unset, .unset, .unset, .unset, .unset, .unset] [(.int (7 : Int32)), (.int (xc &&& (2147483647 : Int32)))])
  refine Go.of (fun _ kz => iremM X0 hx rfl (hb hby at_178) rfl (by decide) kz) ?_
  show Go p e below _ T0 (mkF m 179 #[.val (.int xa), .val (.int xb), .val (.int xc), .val (.int xd), .val (.long w), .second, .val (.ref ar), .val (.int kk), .unset, .unset, .unset, .unset, .unset, .unset] [(.int ((xc &&& (2147483647 : Int32)) % (7 : Int32)))])
  generalize h_pp : ((xc &&& (2147483647 : Int32)) % (7 : Int32)) = pp
  have hpp := own_mod7 h_pp (own_m31 _)
  refine Go.of (fun _ kz => XS.istore X0.here hx rfl (hb hby at_179) rfl (l' := #[.val (.int xa), .val (.int xb), .val (.int xc), .val (.int xd), .val (.long w), .second, .val (.ref ar), .val (.int kk), .val (.int pp), .unset, .unset, .unset, .unset, .unset]) rfl kz) ?_
  show Go p e below _ T0 (mkF m 181 #[.val (.int xa), .val (.int xb), .val (.int xc), .val (.int xd), .val (.long w), .second, .val (.ref ar), .val (.int kk), .val (.int pp), .unset, .unset, .unset, .unset, .unset] [])
  refine Go.of (fun _ kz => XS.iload X0.here hx rfl (hb hby at_181) rfl kz) ?_
  show Go p e below _ T0 (mkF m 183 #[.val (.int xa), .val (.int xb), .val (.int xc), .val (.int xd), .val (.long w), .second, .val (.ref ar), .val (.int kk), .val (.int pp), .unset, .unset, .unset, .unset, .unset] [(.int pp)])
  refine Go.of (fun _ kz => XS.bipush X0.here hx rfl (hb hby at_183) kz) ?_
  show Go p e below _ T0 (mkF m 185 #[.val (.int xa), .val (.int xb), .val (.int xc), .val (.int xd), .val (.long w), .second, .val (.ref ar), .val (.int kk), .val (.int pp), .unset, .unset, .unset, .unset, .unset] [(.int (6 : Int32)), (.int pp)])
  by_cases hc185 : pp < (6 : Int32)
  ·
    refine Go.of (fun _ kz => XS.icmpNo X0.here hx rfl (hb hby at_185) rfl (tlt hc185).2.1 kz) ?_
    show Go p e below _ T0 (mkF m 188 #[.val (.int xa), .val (.int xb), .val (.int xc), .val (.int xd), .val (.long w), .second, .val (.ref ar), .val (.int kk), .val (.int pp), .unset, .unset, .unset, .unset, .unset] [])
    rcases own_lt6 hpp hc185 with rfl | rfl | rfl | rfl | rfl | rfl
    ·
      show Go p e below _ T0 (mkF m 188 #[.val (.int xa), .val (.int xb), .val (.int xc), .val (.int xd), .val (.long w), .second, .val (.ref ar), .val (.int kk), .val (.int (0 : Int32)), .unset, .unset, .unset, .unset, .unset] [])
      refine Go.of (fun _ kz => XS.aload X0.here hx rfl (hb hby at_188) rfl rfl kz) ?_
      show Go p e below _ T0 (mkF m 190 #[.val (.int xa), .val (.int xb), .val (.int xc), .val (.int xd), .val (.long w), .second, .val (.ref ar), .val (.int kk), .val (.int (0 : Int32)), .unset, .unset, .unset, .unset, .unset] [(.ref ar)])
      refine Go.of (fun _ kz => XS.iload X0.here hx rfl (hb hby at_190) rfl kz) ?_
      show Go p e below _ T0 (mkF m 192 #[.val (.int xa), .val (.int xb), .val (.int xc), .val (.int xd), .val (.long w), .second, .val (.ref ar), .val (.int kk), .val (.int (0 : Int32)), .unset, .unset, .unset, .unset, .unset] [(.int (0 : Int32)), (.ref ar)])
      refine Go.of (fun _ kz => XS.iloadN X0.here hx rfl (hb hby at_192) rfl kz) ?_
      show Go p e below _ T0 (mkF m 193 #[.val (.int xa), .val (.int xb), .val (.int xc), .val (.int xd), .val (.long w), .second, .val (.ref ar), .val (.int kk), .val (.int (0 : Int32)), .unset, .unset, .unset, .unset, .unset] [(.int xd), (.int (0 : Int32)), (.ref ar)])
      refine Go.of (fun _ kz => XS.sipush X0.here hx rfl (hb hby at_193) kz) ?_
      show Go p e below _ T0 (mkF m 196 #[.val (.int xa), .val (.int xb), .val (.int xc), .val (.int xd), .val (.long w), .second, .val (.ref ar), .val (.int kk), .val (.int (0 : Int32)), .unset, .unset, .unset, .unset, .unset] [(.int (255 : Int32)), (.int xd), (.int (0 : Int32)), (.ref ar)])
      refine Go.of (fun _ kz => XS.iand X0.here hx rfl (hb hby at_196) rfl kz) ?_
      show Go p e below _ T0 (mkF m 197 #[.val (.int xa), .val (.int xb), .val (.int xc), .val (.int xd), .val (.long w), .second, .val (.ref ar), .val (.int kk), .val (.int (0 : Int32)), .unset, .unset, .unset, .unset, .unset] [(.int (xd &&& (255 : Int32))), (.int (0 : Int32)), (.ref ar)])
      refine Go.of (fun _ kz => XS.i2c X0.here hx rfl (hb hby at_197) rfl kz) ?_
      show Go p e below _ T0 (mkF m 198 #[.val (.int xa), .val (.int xb), .val (.int xc), .val (.int xd), .val (.long w), .second, .val (.ref ar), .val (.int kk), .val (.int (0 : Int32)), .unset, .unset, .unset, .unset, .unset] [(.int ((xd &&& (255 : Int32)).toUInt32.toUInt16.toUInt32.toInt32)), (.int (0 : Int32)), (.ref ar)])
      refine Go.castore X0 hx hZ e0 VA ⟨by decide, by decide⟩ 0 rfl (Nat.le_of_ble_eq_true rfl) (hb hby at_198) fun T1 h1 X1 e1 W1 V1 => ?_
      have hC := hC.trans (CHr.wr W1 (Safe.arv hZ.alike VA (by decide)) hC.1)
      have sz1 : hst.size ≤ h1.size := Nat.le_trans Z0 (Keep.of_wr W1).1
      have hk1 : k0 ≤ h1.size := Nat.le_trans hk (Keep.of_wr W1).1
      have N1 := Fr.snoc X1 N0 ga
      have V1 : Arv Z h1 ar ka .char (6 : Int32) [(.int (nar .char ((xd &&& (255 : Int32)).toUInt32.toUInt16.toUInt32.toInt32))), (.int c1), (.int c2), (.int c3), (.int c4), (.int c5)] (.int (0 : Int32)) := V1
      show Go p e below _ T1 (mkF m 199 #[.val (.int xa), .val (.int xb), .val (.int xc), .val (.int xd), .val (.long w), .second, .val (.ref ar), .val (.int kk), .val (.int (0 : Int32)), .unset, .unset, .unset, .unset, .unset] [])
      exact own_D l Z a0 hw p e s _ m _ below meth c _ _ _ _ _ xa xb xc xd w ar _ _ _ _ _ _ _ kk _ cz vals mA fA nM nF bM bF oE kv kM kF hx hZ hby hml hown hret hlk hS hk1 hs0 hC (X1.mono (by decide) (by decide)) e1 N1 sz1 (OZ.wr W1 ga) V1 (own_rI _) r1 r2 r3 r4 r5 ga SB hz SV VV EV SM SF EM EF NM NF EnM CnM WnM AnM EnF CnF WnF AnF SE EE FE
    ·
      show Go p e below _ T0 (mkF m 188 #[.val (.int xa), .val (.int xb), .val (.int xc), .val (.int xd), .val (.long w), .second, .val (.ref ar), .val (.int kk), .val (.int (1 : Int32)), .unset, .unset, .unset, .unset, .unset] [])
      refine Go.of (fun _ kz => XS.aload X0.here hx rfl (hb hby at_188) rfl rfl kz) ?_
      show Go p e below _ T0 (mkF m 190 #[.val (.int xa), .val (.int xb), .val (.int xc), .val (.int xd), .val (.long w), .second, .val (.ref ar), .val (.int kk), .val (.int (1 : Int32)), .unset, .unset, .unset, .unset, .unset] [(.ref ar)])
      refine Go.of (fun _ kz => XS.iload X0.here hx rfl (hb hby at_190) rfl kz) ?_
      show Go p e below _ T0 (mkF m 192 #[.val (.int xa), .val (.int xb), .val (.int xc), .val (.int xd), .val (.long w), .second, .val (.ref ar), .val (.int kk), .val (.int (1 : Int32)), .unset, .unset, .unset, .unset, .unset] [(.int (1 : Int32)), (.ref ar)])
      refine Go.of (fun _ kz => XS.iloadN X0.here hx rfl (hb hby at_192) rfl kz) ?_
      show Go p e below _ T0 (mkF m 193 #[.val (.int xa), .val (.int xb), .val (.int xc), .val (.int xd), .val (.long w), .second, .val (.ref ar), .val (.int kk), .val (.int (1 : Int32)), .unset, .unset, .unset, .unset, .unset] [(.int xd), (.int (1 : Int32)), (.ref ar)])
      refine Go.of (fun _ kz => XS.sipush X0.here hx rfl (hb hby at_193) kz) ?_
      show Go p e below _ T0 (mkF m 196 #[.val (.int xa), .val (.int xb), .val (.int xc), .val (.int xd), .val (.long w), .second, .val (.ref ar), .val (.int kk), .val (.int (1 : Int32)), .unset, .unset, .unset, .unset, .unset] [(.int (255 : Int32)), (.int xd), (.int (1 : Int32)), (.ref ar)])
      refine Go.of (fun _ kz => XS.iand X0.here hx rfl (hb hby at_196) rfl kz) ?_
      show Go p e below _ T0 (mkF m 197 #[.val (.int xa), .val (.int xb), .val (.int xc), .val (.int xd), .val (.long w), .second, .val (.ref ar), .val (.int kk), .val (.int (1 : Int32)), .unset, .unset, .unset, .unset, .unset] [(.int (xd &&& (255 : Int32))), (.int (1 : Int32)), (.ref ar)])
      refine Go.of (fun _ kz => XS.i2c X0.here hx rfl (hb hby at_197) rfl kz) ?_
      show Go p e below _ T0 (mkF m 198 #[.val (.int xa), .val (.int xb), .val (.int xc), .val (.int xd), .val (.long w), .second, .val (.ref ar), .val (.int kk), .val (.int (1 : Int32)), .unset, .unset, .unset, .unset, .unset] [(.int ((xd &&& (255 : Int32)).toUInt32.toUInt16.toUInt32.toInt32)), (.int (1 : Int32)), (.ref ar)])
      refine Go.castore X0 hx hZ e0 VA ⟨by decide, by decide⟩ 1 rfl (Nat.le_of_ble_eq_true rfl) (hb hby at_198) fun T2 h2 X2 e2 W2 V2 => ?_
      have hC := hC.trans (CHr.wr W2 (Safe.arv hZ.alike VA (by decide)) hC.1)
      have sz2 : hst.size ≤ h2.size := Nat.le_trans Z0 (Keep.of_wr W2).1
      have hk2 : k0 ≤ h2.size := Nat.le_trans hk (Keep.of_wr W2).1
      have N2 := Fr.snoc X2 N0 ga
      have V2 : Arv Z h2 ar ka .char (6 : Int32) [(.int c0), (.int (nar .char ((xd &&& (255 : Int32)).toUInt32.toUInt16.toUInt32.toInt32))), (.int c2), (.int c3), (.int c4), (.int c5)] (.int (0 : Int32)) := V2
      show Go p e below _ T2 (mkF m 199 #[.val (.int xa), .val (.int xb), .val (.int xc), .val (.int xd), .val (.long w), .second, .val (.ref ar), .val (.int kk), .val (.int (1 : Int32)), .unset, .unset, .unset, .unset, .unset] [])
      exact own_D l Z a0 hw p e s _ m _ below meth c _ _ _ _ _ xa xb xc xd w ar _ _ _ _ _ _ _ kk _ cz vals mA fA nM nF bM bF oE kv kM kF hx hZ hby hml hown hret hlk hS hk2 hs0 hC (X2.mono (by decide) (by decide)) e2 N2 sz2 (OZ.wr W2 ga) V2 r0 (own_rI _) r2 r3 r4 r5 ga SB hz SV VV EV SM SF EM EF NM NF EnM CnM WnM AnM EnF CnF WnF AnF SE EE FE
    ·
      show Go p e below _ T0 (mkF m 188 #[.val (.int xa), .val (.int xb), .val (.int xc), .val (.int xd), .val (.long w), .second, .val (.ref ar), .val (.int kk), .val (.int (2 : Int32)), .unset, .unset, .unset, .unset, .unset] [])
      refine Go.of (fun _ kz => XS.aload X0.here hx rfl (hb hby at_188) rfl rfl kz) ?_
      show Go p e below _ T0 (mkF m 190 #[.val (.int xa), .val (.int xb), .val (.int xc), .val (.int xd), .val (.long w), .second, .val (.ref ar), .val (.int kk), .val (.int (2 : Int32)), .unset, .unset, .unset, .unset, .unset] [(.ref ar)])
      refine Go.of (fun _ kz => XS.iload X0.here hx rfl (hb hby at_190) rfl kz) ?_
      show Go p e below _ T0 (mkF m 192 #[.val (.int xa), .val (.int xb), .val (.int xc), .val (.int xd), .val (.long w), .second, .val (.ref ar), .val (.int kk), .val (.int (2 : Int32)), .unset, .unset, .unset, .unset, .unset] [(.int (2 : Int32)), (.ref ar)])
      refine Go.of (fun _ kz => XS.iloadN X0.here hx rfl (hb hby at_192) rfl kz) ?_
      show Go p e below _ T0 (mkF m 193 #[.val (.int xa), .val (.int xb), .val (.int xc), .val (.int xd), .val (.long w), .second, .val (.ref ar), .val (.int kk), .val (.int (2 : Int32)), .unset, .unset, .unset, .unset, .unset] [(.int xd), (.int (2 : Int32)), (.ref ar)])
      refine Go.of (fun _ kz => XS.sipush X0.here hx rfl (hb hby at_193) kz) ?_
      show Go p e below _ T0 (mkF m 196 #[.val (.int xa), .val (.int xb), .val (.int xc), .val (.int xd), .val (.long w), .second, .val (.ref ar), .val (.int kk), .val (.int (2 : Int32)), .unset, .unset, .unset, .unset, .unset] [(.int (255 : Int32)), (.int xd), (.int (2 : Int32)), (.ref ar)])
      refine Go.of (fun _ kz => XS.iand X0.here hx rfl (hb hby at_196) rfl kz) ?_
      show Go p e below _ T0 (mkF m 197 #[.val (.int xa), .val (.int xb), .val (.int xc), .val (.int xd), .val (.long w), .second, .val (.ref ar), .val (.int kk), .val (.int (2 : Int32)), .unset, .unset, .unset, .unset, .unset] [(.int (xd &&& (255 : Int32))), (.int (2 : Int32)), (.ref ar)])
      refine Go.of (fun _ kz => XS.i2c X0.here hx rfl (hb hby at_197) rfl kz) ?_
      show Go p e below _ T0 (mkF m 198 #[.val (.int xa), .val (.int xb), .val (.int xc), .val (.int xd), .val (.long w), .second, .val (.ref ar), .val (.int kk), .val (.int (2 : Int32)), .unset, .unset, .unset, .unset, .unset] [(.int ((xd &&& (255 : Int32)).toUInt32.toUInt16.toUInt32.toInt32)), (.int (2 : Int32)), (.ref ar)])
      refine Go.castore X0 hx hZ e0 VA ⟨by decide, by decide⟩ 2 rfl (Nat.le_of_ble_eq_true rfl) (hb hby at_198) fun T3 h3 X3 e3 W3 V3 => ?_
      have hC := hC.trans (CHr.wr W3 (Safe.arv hZ.alike VA (by decide)) hC.1)
      have sz3 : hst.size ≤ h3.size := Nat.le_trans Z0 (Keep.of_wr W3).1
      have hk3 : k0 ≤ h3.size := Nat.le_trans hk (Keep.of_wr W3).1
      have N3 := Fr.snoc X3 N0 ga
      have V3 : Arv Z h3 ar ka .char (6 : Int32) [(.int c0), (.int c1), (.int (nar .char ((xd &&& (255 : Int32)).toUInt32.toUInt16.toUInt32.toInt32))), (.int c3), (.int c4), (.int c5)] (.int (0 : Int32)) := V3
      show Go p e below _ T3 (mkF m 199 #[.val (.int xa), .val (.int xb), .val (.int xc), .val (.int xd), .val (.long w), .second, .val (.ref ar), .val (.int kk), .val (.int (2 : Int32)), .unset, .unset, .unset, .unset, .unset] [])
      exact own_D l Z a0 hw p e s _ m _ below meth c _ _ _ _ _ xa xb xc xd w ar _ _ _ _ _ _ _ kk _ cz vals mA fA nM nF bM bF oE kv kM kF hx hZ hby hml hown hret hlk hS hk3 hs0 hC (X3.mono (by decide) (by decide)) e3 N3 sz3 (OZ.wr W3 ga) V3 r0 r1 (own_rI _) r3 r4 r5 ga SB hz SV VV EV SM SF EM EF NM NF EnM CnM WnM AnM EnF CnF WnF AnF SE EE FE
    ·
      show Go p e below _ T0 (mkF m 188 #[.val (.int xa), .val (.int xb), .val (.int xc), .val (.int xd), .val (.long w), .second, .val (.ref ar), .val (.int kk), .val (.int (3 : Int32)), .unset, .unset, .unset, .unset, .unset] [])
      refine Go.of (fun _ kz => XS.aload X0.here hx rfl (hb hby at_188) rfl rfl kz) ?_
      show Go p e below _ T0 (mkF m 190 #[.val (.int xa), .val (.int xb), .val (.int xc), .val (.int xd), .val (.long w), .second, .val (.ref ar), .val (.int kk), .val (.int (3 : Int32)), .unset, .unset, .unset, .unset, .unset] [(.ref ar)])
      refine Go.of (fun _ kz => XS.iload X0.here hx rfl (hb hby at_190) rfl kz) ?_
      show Go p e below _ T0 (mkF m 192 #[.val (.int xa), .val (.int xb), .val (.int xc), .val (.int xd), .val (.long w), .second, .val (.ref ar), .val (.int kk), .val (.int (3 : Int32)), .unset, .unset, .unset, .unset, .unset] [(.int (3 : Int32)), (.ref ar)])
      refine Go.of (fun _ kz => XS.iloadN X0.here hx rfl (hb hby at_192) rfl kz) ?_
      show Go p e below _ T0 (mkF m 193 #[.val (.int xa), .val (.int xb), .val (.int xc), .val (.int xd), .val (.long w), .second, .val (.ref ar), .val (.int kk), .val (.int (3 : Int32)), .unset, .unset, .unset, .unset, .unset] [(.int xd), (.int (3 : Int32)), (.ref ar)])
      refine Go.of (fun _ kz => XS.sipush X0.here hx rfl (hb hby at_193) kz) ?_
      show Go p e below _ T0 (mkF m 196 #[.val (.int xa), .val (.int xb), .val (.int xc), .val (.int xd), .val (.long w), .second, .val (.ref ar), .val (.int kk), .val (.int (3 : Int32)), .unset, .unset, .unset, .unset, .unset] [(.int (255 : Int32)), (.int xd), (.int (3 : Int32)), (.ref ar)])
      refine Go.of (fun _ kz => XS.iand X0.here hx rfl (hb hby at_196) rfl kz) ?_
      show Go p e below _ T0 (mkF m 197 #[.val (.int xa), .val (.int xb), .val (.int xc), .val (.int xd), .val (.long w), .second, .val (.ref ar), .val (.int kk), .val (.int (3 : Int32)), .unset, .unset, .unset, .unset, .unset] [(.int (xd &&& (255 : Int32))), (.int (3 : Int32)), (.ref ar)])
      refine Go.of (fun _ kz => XS.i2c X0.here hx rfl (hb hby at_197) rfl kz) ?_
      show Go p e below _ T0 (mkF m 198 #[.val (.int xa), .val (.int xb), .val (.int xc), .val (.int xd), .val (.long w), .second, .val (.ref ar), .val (.int kk), .val (.int (3 : Int32)), .unset, .unset, .unset, .unset, .unset] [(.int ((xd &&& (255 : Int32)).toUInt32.toUInt16.toUInt32.toInt32)), (.int (3 : Int32)), (.ref ar)])
      refine Go.castore X0 hx hZ e0 VA ⟨by decide, by decide⟩ 3 rfl (Nat.le_of_ble_eq_true rfl) (hb hby at_198) fun T4 h4 X4 e4 W4 V4 => ?_
      have hC := hC.trans (CHr.wr W4 (Safe.arv hZ.alike VA (by decide)) hC.1)
      have sz4 : hst.size ≤ h4.size := Nat.le_trans Z0 (Keep.of_wr W4).1
      have hk4 : k0 ≤ h4.size := Nat.le_trans hk (Keep.of_wr W4).1
      have N4 := Fr.snoc X4 N0 ga
      have V4 : Arv Z h4 ar ka .char (6 : Int32) [(.int c0), (.int c1), (.int c2), (.int (nar .char ((xd &&& (255 : Int32)).toUInt32.toUInt16.toUInt32.toInt32))), (.int c4), (.int c5)] (.int (0 : Int32)) := V4
      show Go p e below _ T4 (mkF m 199 #[.val (.int xa), .val (.int xb), .val (.int xc), .val (.int xd), .val (.long w), .second, .val (.ref ar), .val (.int kk), .val (.int (3 : Int32)), .unset, .unset, .unset, .unset, .unset] [])
      exact own_D l Z a0 hw p e s _ m _ below meth c _ _ _ _ _ xa xb xc xd w ar _ _ _ _ _ _ _ kk _ cz vals mA fA nM nF bM bF oE kv kM kF hx hZ hby hml hown hret hlk hS hk4 hs0 hC (X4.mono (by decide) (by decide)) e4 N4 sz4 (OZ.wr W4 ga) V4 r0 r1 r2 (own_rI _) r4 r5 ga SB hz SV VV EV SM SF EM EF NM NF EnM CnM WnM AnM EnF CnF WnF AnF SE EE FE
    ·
      show Go p e below _ T0 (mkF m 188 #[.val (.int xa), .val (.int xb), .val (.int xc), .val (.int xd), .val (.long w), .second, .val (.ref ar), .val (.int kk), .val (.int (4 : Int32)), .unset, .unset, .unset, .unset, .unset] [])
      refine Go.of (fun _ kz => XS.aload X0.here hx rfl (hb hby at_188) rfl rfl kz) ?_
      show Go p e below _ T0 (mkF m 190 #[.val (.int xa), .val (.int xb), .val (.int xc), .val (.int xd), .val (.long w), .second, .val (.ref ar), .val (.int kk), .val (.int (4 : Int32)), .unset, .unset, .unset, .unset, .unset] [(.ref ar)])
      refine Go.of (fun _ kz => XS.iload X0.here hx rfl (hb hby at_190) rfl kz) ?_
      show Go p e below _ T0 (mkF m 192 #[.val (.int xa), .val (.int xb), .val (.int xc), .val (.int xd), .val (.long w), .second, .val (.ref ar), .val (.int kk), .val (.int (4 : Int32)), .unset, .unset, .unset, .unset, .unset] [(.int (4 : Int32)), (.ref ar)])
      refine Go.of (fun _ kz => XS.iloadN X0.here hx rfl (hb hby at_192) rfl kz) ?_
      show Go p e below _ T0 (mkF m 193 #[.val (.int xa), .val (.int xb), .val (.int xc), .val (.int xd), .val (.long w), .second, .val (.ref ar), .val (.int kk), .val (.int (4 : Int32)), .unset, .unset, .unset, .unset, .unset] [(.int xd), (.int (4 : Int32)), (.ref ar)])
      refine Go.of (fun _ kz => XS.sipush X0.here hx rfl (hb hby at_193) kz) ?_
      show Go p e below _ T0 (mkF m 196 #[.val (.int xa), .val (.int xb), .val (.int xc), .val (.int xd), .val (.long w), .second, .val (.ref ar), .val (.int kk), .val (.int (4 : Int32)), .unset, .unset, .unset, .unset, .unset] [(.int (255 : Int32)), (.int xd), (.int (4 : Int32)), (.ref ar)])
      refine Go.of (fun _ kz => XS.iand X0.here hx rfl (hb hby at_196) rfl kz) ?_
      show Go p e below _ T0 (mkF m 197 #[.val (.int xa), .val (.int xb), .val (.int xc), .val (.int xd), .val (.long w), .second, .val (.ref ar), .val (.int kk), .val (.int (4 : Int32)), .unset, .unset, .unset, .unset, .unset] [(.int (xd &&& (255 : Int32))), (.int (4 : Int32)), (.ref ar)])
      refine Go.of (fun _ kz => XS.i2c X0.here hx rfl (hb hby at_197) rfl kz) ?_
      show Go p e below _ T0 (mkF m 198 #[.val (.int xa), .val (.int xb), .val (.int xc), .val (.int xd), .val (.long w), .second, .val (.ref ar), .val (.int kk), .val (.int (4 : Int32)), .unset, .unset, .unset, .unset, .unset] [(.int ((xd &&& (255 : Int32)).toUInt32.toUInt16.toUInt32.toInt32)), (.int (4 : Int32)), (.ref ar)])
      refine Go.castore X0 hx hZ e0 VA ⟨by decide, by decide⟩ 4 rfl (Nat.le_of_ble_eq_true rfl) (hb hby at_198) fun T5 h5 X5 e5 W5 V5 => ?_
      have hC := hC.trans (CHr.wr W5 (Safe.arv hZ.alike VA (by decide)) hC.1)
      have sz5 : hst.size ≤ h5.size := Nat.le_trans Z0 (Keep.of_wr W5).1
      have hk5 : k0 ≤ h5.size := Nat.le_trans hk (Keep.of_wr W5).1
      have N5 := Fr.snoc X5 N0 ga
      have V5 : Arv Z h5 ar ka .char (6 : Int32) [(.int c0), (.int c1), (.int c2), (.int c3), (.int (nar .char ((xd &&& (255 : Int32)).toUInt32.toUInt16.toUInt32.toInt32))), (.int c5)] (.int (0 : Int32)) := V5
      show Go p e below _ T5 (mkF m 199 #[.val (.int xa), .val (.int xb), .val (.int xc), .val (.int xd), .val (.long w), .second, .val (.ref ar), .val (.int kk), .val (.int (4 : Int32)), .unset, .unset, .unset, .unset, .unset] [])
      exact own_D l Z a0 hw p e s _ m _ below meth c _ _ _ _ _ xa xb xc xd w ar _ _ _ _ _ _ _ kk _ cz vals mA fA nM nF bM bF oE kv kM kF hx hZ hby hml hown hret hlk hS hk5 hs0 hC (X5.mono (by decide) (by decide)) e5 N5 sz5 (OZ.wr W5 ga) V5 r0 r1 r2 r3 (own_rI _) r5 ga SB hz SV VV EV SM SF EM EF NM NF EnM CnM WnM AnM EnF CnF WnF AnF SE EE FE
    ·
      show Go p e below _ T0 (mkF m 188 #[.val (.int xa), .val (.int xb), .val (.int xc), .val (.int xd), .val (.long w), .second, .val (.ref ar), .val (.int kk), .val (.int (5 : Int32)), .unset, .unset, .unset, .unset, .unset] [])
      refine Go.of (fun _ kz => XS.aload X0.here hx rfl (hb hby at_188) rfl rfl kz) ?_
      show Go p e below _ T0 (mkF m 190 #[.val (.int xa), .val (.int xb), .val (.int xc), .val (.int xd), .val (.long w), .second, .val (.ref ar), .val (.int kk), .val (.int (5 : Int32)), .unset, .unset, .unset, .unset, .unset] [(.ref ar)])
      refine Go.of (fun _ kz => XS.iload X0.here hx rfl (hb hby at_190) rfl kz) ?_
      show Go p e below _ T0 (mkF m 192 #[.val (.int xa), .val (.int xb), .val (.int xc), .val (.int xd), .val (.long w), .second, .val (.ref ar), .val (.int kk), .val (.int (5 : Int32)), .unset, .unset, .unset, .unset, .unset] [(.int (5 : Int32)), (.ref ar)])
      refine Go.of (fun _ kz => XS.iloadN X0.here hx rfl (hb hby at_192) rfl kz) ?_
      show Go p e below _ T0 (mkF m 193 #[.val (.int xa), .val (.int xb), .val (.int xc), .val (.int xd), .val (.long w), .second, .val (.ref ar), .val (.int kk), .val (.int (5 : Int32)), .unset, .unset, .unset, .unset, .unset] [(.int xd), (.int (5 : Int32)), (.ref ar)])
      refine Go.of (fun _ kz => XS.sipush X0.here hx rfl (hb hby at_193) kz) ?_
      show Go p e below _ T0 (mkF m 196 #[.val (.int xa), .val (.int xb), .val (.int xc), .val (.int xd), .val (.long w), .second, .val (.ref ar), .val (.int kk), .val (.int (5 : Int32)), .unset, .unset, .unset, .unset, .unset] [(.int (255 : Int32)), (.int xd), (.int (5 : Int32)), (.ref ar)])
      refine Go.of (fun _ kz => XS.iand X0.here hx rfl (hb hby at_196) rfl kz) ?_
      show Go p e below _ T0 (mkF m 197 #[.val (.int xa), .val (.int xb), .val (.int xc), .val (.int xd), .val (.long w), .second, .val (.ref ar), .val (.int kk), .val (.int (5 : Int32)), .unset, .unset, .unset, .unset, .unset] [(.int (xd &&& (255 : Int32))), (.int (5 : Int32)), (.ref ar)])
      refine Go.of (fun _ kz => XS.i2c X0.here hx rfl (hb hby at_197) rfl kz) ?_
      show Go p e below _ T0 (mkF m 198 #[.val (.int xa), .val (.int xb), .val (.int xc), .val (.int xd), .val (.long w), .second, .val (.ref ar), .val (.int kk), .val (.int (5 : Int32)), .unset, .unset, .unset, .unset, .unset] [(.int ((xd &&& (255 : Int32)).toUInt32.toUInt16.toUInt32.toInt32)), (.int (5 : Int32)), (.ref ar)])
      refine Go.castore X0 hx hZ e0 VA ⟨by decide, by decide⟩ 5 rfl (Nat.le_of_ble_eq_true rfl) (hb hby at_198) fun T6 h6 X6 e6 W6 V6 => ?_
      have hC := hC.trans (CHr.wr W6 (Safe.arv hZ.alike VA (by decide)) hC.1)
      have sz6 : hst.size ≤ h6.size := Nat.le_trans Z0 (Keep.of_wr W6).1
      have hk6 : k0 ≤ h6.size := Nat.le_trans hk (Keep.of_wr W6).1
      have N6 := Fr.snoc X6 N0 ga
      have V6 : Arv Z h6 ar ka .char (6 : Int32) [(.int c0), (.int c1), (.int c2), (.int c3), (.int c4), (.int (nar .char ((xd &&& (255 : Int32)).toUInt32.toUInt16.toUInt32.toInt32)))] (.int (0 : Int32)) := V6
      show Go p e below _ T6 (mkF m 199 #[.val (.int xa), .val (.int xb), .val (.int xc), .val (.int xd), .val (.long w), .second, .val (.ref ar), .val (.int kk), .val (.int (5 : Int32)), .unset, .unset, .unset, .unset, .unset] [])
      exact own_D l Z a0 hw p e s _ m _ below meth c _ _ _ _ _ xa xb xc xd w ar _ _ _ _ _ _ _ kk _ cz vals mA fA nM nF bM bF oE kv kM kF hx hZ hby hml hown hret hlk hS hk6 hs0 hC (X6.mono (by decide) (by decide)) e6 N6 sz6 (OZ.wr W6 ga) V6 r0 r1 r2 r3 r4 (own_rI _) ga SB hz SV VV EV SM SF EM EF NM NF EnM CnM WnM AnM EnF CnF WnF AnF SE EE FE
  ·
    refine Go.of (fun _ kz => XS.icmpYes X0.here hx rfl (pc0 := 185) (pc' := 199) rfl (hb hby at_185) rfl (flt hc185).2.1 (by decide) (by decide) kz) ?_
    show Go p e below _ T0 (mkF m 199 #[.val (.int xa), .val (.int xb), .val (.int xc), .val (.int xd), .val (.long w), .second, .val (.ref ar), .val (.int kk), .val (.int pp), .unset, .unset, .unset, .unset, .unset] [])
    exact own_D l Z a0 hw p e s _ m _ below meth c _ _ _ _ _ xa xb xc xd w ar _ _ _ _ _ _ _ kk _ cz vals mA fA nM nF bM bF oE kv kM kF hx hZ hby hml hown hret hlk hS hk hs0 hC (X0.mono (by decide) (by decide)) e0 N0 Z0 OZ VA r0 r1 r2 r3 r4 r5 ga SB hz SV VV EV SM SF EM EF NM NF EnM CnM WnM AnM EnF CnF WnF AnF SE EE FE
set_option maxRecDepth 65536 in
set_option maxHeartbeats 40000000 in
theorem own_B (l : Launch) (Z : State) (a0 : Array Value) (hw : ∀ d ∈ tables_1, d.before a0 Z = true) (p : Program) (e : Env) (s : State) (vm0 : Vm) (m : MethodId) (args : Array Value) (below : List Frame) (meth : Method) (c : Code) (T0 : State) (locs : List Loc) (k0 : Nat) (h0 hst : Heap) (xa xb xc xd : Int32) (w : Int64) (ar : Addr) (ka : ClassId) (c0 c1 c2 c3 c4 c5 : Int32) (kk : Int32) (cz : Int32) (vals mA fA nM nF bM bF oE : Addr) (kv kM kF : ClassId)
    (hx : p.tables.exec = Jvm.exec) (hZ : Z.Warmed39 vm0) (hby : c.code = code) (hml : c.maxLocals = 14) (hown : vm0.findClass "com/example/vestry/vestry/engine/SexNamedPinLaw" = some m.cls) (hret : meth.sig.returnType = some .boolean) (hlk : meth.locks = false) (hS : s.Since vm0 k0) (hk : k0 ≤ h0.size) (hs0 : s.heap = hst) (hC : CHr Z consts_1 s.vm hst vm0 h0) (X0 : Stand p l e room_1 (s.setVm vm0) m args below meth c T0 locs 1 6) (e0 : T0.heap = h0) (N0 : Fr hst.size locs) (Z0 : hst.size ≤ h0.size) (OZ : Old Z hst.size h0) (VA : Arv Z h0 ar ka .char 6 [.int c0, .int c1, .int c2, .int c3, .int c4, .int c5] (.int 0)) (r0 : own_R c0) (r1 : own_R c1) (r2 : own_R c2) (r3 : own_R c3) (r4 : own_R c4) (r5 : own_R c5) (ga : hst.size ≤ ar) (SB : Sta Z Z.heap "java/lang/String" "COMPACT_STRINGS" "Z" (.int cz)) (hz : ¬ cz = (0 : Int32)) (SV : Sta Z Z.heap "com/example/vestry/vestry/engine/Sex" "$VALUES" "[Lcom/example/vestry/vestry/engine/Sex;" (.ref vals)) (VV : Arv Z Z.heap vals kv (.object "com/example/vestry/vestry/engine/Sex") 2 [.ref mA, .ref fA] .null) (EV : Exa Z Z.heap vals "[Lcom/example/vestry/vestry/engine/Sex;") (SM : Sta Z Z.heap "com/example/vestry/vestry/engine/Sex" "MALE" "Lcom/example/vestry/vestry/engine/Sex;" (.ref mA)) (SF : Sta Z Z.heap "com/example/vestry/vestry/engine/Sex" "FEMALE" "Lcom/example/vestry/vestry/engine/Sex;" (.ref fA)) (EM : Exa Z Z.heap mA "com/example/vestry/vestry/engine/Sex") (EF : Exa Z Z.heap fA "com/example/vestry/vestry/engine/Sex") (NM : Fld Z Z.heap mA "com/example/vestry/vestry/engine/Sex" "name" "Ljava/lang/String;" (.ref nM)) (NF : Fld Z Z.heap fA "com/example/vestry/vestry/engine/Sex" "name" "Ljava/lang/String;" (.ref nF)) (EnM : Exa Z Z.heap nM "java/lang/String") (CnM : Fld Z Z.heap nM "java/lang/String" "coder" "B" (.int 0)) (WnM : Fld Z Z.heap nM "java/lang/String" "value" "[B" (.ref bM)) (AnM : Arv Z Z.heap bM kM .byte 4 [.int 109, .int 97, .int 108, .int 101] (.int 0)) (EnF : Exa Z Z.heap nF "java/lang/String") (CnF : Fld Z Z.heap nF "java/lang/String" "coder" "B" (.int 0)) (WnF : Fld Z Z.heap nF "java/lang/String" "value" "[B" (.ref bF)) (AnF : Arv Z Z.heap bF kF .byte 6 [.int 102, .int 101, .int 109, .int 97, .int 108, .int 101] (.int 0)) (SE : Sta Z Z.heap "java/util/Optional" "EMPTY" "Ljava/util/Optional;" (.ref oE)) (EE : Exa Z Z.heap oE "java/util/Optional") (FE : Fld Z Z.heap oE "java/util/Optional" "value" "Ljava/lang/Object;" .null) :
    Go p e below (GoEndH Z consts_1 s room_1.cells room_1.slots (fun v _ L => v = some (.int 1) ∧ Fr hst.size L)) T0 (mkF m 98 #[.val (.int xa), .val (.int xb), .val (.int xc), .val (.int xd), .val (.long w), .second, .val (.ref ar), .val (.int kk), .unset, .unset, .unset, .unset, .unset, .unset] []) := by
  have hEL := own_EW Z a0 hw
  have wS : ∀ d ∈ Bundle.stringAtoms, d.before a0 Z = true := fun d hd => by
    simp only [Bundle.stringAtoms, List.mem_cons, List.not_mem_nil, or_false] at hd
    rcases hd with rfl | rfl | rfl | rfl | rfl | rfl | rfl
    · exact (hw _ (List.mem_of_getElem? (i := 5) rfl))
    · exact (hw _ (List.mem_of_getElem? (i := 4) rfl))
    · exact (hw _ (List.mem_of_getElem? (i := 25) rfl))
    · exact (hw _ (List.mem_of_getElem? (i := 35) rfl))
    · exact (hw _ (List.mem_of_getElem? (i := 33) rfl))
    · exact (hw _ (List.mem_of_getElem? (i := 82) rfl))
    · exact (hw _ (List.mem_of_getElem? (i := 83) rfl))
  show Go p e below _ T0 (mkF m 98 #[.val (.int xa), .val (.int xb), .val (.int xc), .val (.int xd), .val (.long w), .second, .val (.ref ar), .val (.int kk), .unset, .unset, .unset, .unset, .unset, .unset] [])
  refine Go.of (fun _ kz => XS.iload X0.here hx rfl (hb hby at_98) rfl kz) ?_
  show Go p e below _ T0 (mkF m 100 #[.val (.int xa), .val (.int xb), .val (.int xc), .val (.int xd), .val (.long w), .second, .val (.ref ar), .val (.int kk), .unset, .unset, .unset, .unset, .unset, .unset] [(.int kk)])
  by_cases hc100 : kk = (0 : Int32)
  ·
    refine Go.of (fun _ kz => XS.ifNo X0.here hx rfl (hb hby at_100) rfl ((if0 _ _).trans (teq hc100).2) kz) ?_
    show Go p e below _ T0 (mkF m 103 #[.val (.int xa), .val (.int xb), .val (.int xc), .val (.int xd), .val (.long w), .second, .val (.ref ar), .val (.int kk), .unset, .unset, .unset, .unset, .unset, .unset] [])
    refine Go.of (fun _ kz => XS.aload X0.here hx rfl (hb hby at_103) rfl rfl kz) ?_
    show Go p e below _ T0 (mkF m 105 #[.val (.int xa), .val (.int xb), .val (.int xc), .val (.int xd), .val (.long w), .second, .val (.ref ar), .val (.int kk), .unset, .unset, .unset, .unset, .unset, .unset] [(.ref ar)])
    refine Go.of (fun _ kz => XS.iconst X0.here hx rfl (hb hby at_105) kz) ?_
    show Go p e below _ T0 (mkF m 106 #[.val (.int xa), .val (.int xb), .val (.int xc), .val (.int xd), .val (.long w), .second, .val (.ref ar), .val (.int kk), .unset, .unset, .unset, .unset, .unset, .unset] [(.int (0 : Int32)), (.ref ar)])
    refine Go.of (fun _ kz => XS.bipush X0.here hx rfl (hb hby at_106) kz) ?_
    show Go p e below _ T0 (mkF m 108 #[.val (.int xa), .val (.int xb), .val (.int xc), .val (.int xd), .val (.long w), .second, .val (.ref ar), .val (.int kk), .unset, .unset, .unset, .unset, .unset, .unset] [(.int (109 : Int32)), (.int (0 : Int32)), (.ref ar)])
    refine Go.castore X0 hx hZ e0 VA ⟨by decide, by decide⟩ 0 rfl (Nat.le_of_ble_eq_true rfl) (hb hby at_108) fun T1 h1 X1 e1 W1 V1 => ?_
    have hC := hC.trans (CHr.wr W1 (Safe.arv hZ.alike VA (by decide)) hC.1)
    have sz1 : hst.size ≤ h1.size := Nat.le_trans Z0 (Keep.of_wr W1).1
    have hk1 : k0 ≤ h1.size := Nat.le_trans hk (Keep.of_wr W1).1
    have N1 := Fr.snoc X1 N0 ga
    have V1 : Arv Z h1 ar ka .char (6 : Int32) [(.int (109 : Int32)), (.int c1), (.int c2), (.int c3), (.int c4), (.int c5)] (.int (0 : Int32)) := V1
    show Go p e below _ T1 (mkF m 109 #[.val (.int xa), .val (.int xb), .val (.int xc), .val (.int xd), .val (.long w), .second, .val (.ref ar), .val (.int kk), .unset, .unset, .unset, .unset, .unset, .unset] [])
    refine Go.of (fun _ kz => XS.aload X1.here hx rfl (hb hby at_109) rfl rfl kz) ?_
    show Go p e below _ T1 (mkF m 111 #[.val (.int xa), .val (.int xb), .val (.int xc), .val (.int xd), .val (.long w), .second, .val (.ref ar), .val (.int kk), .unset, .unset, .unset, .unset, .unset, .unset] [(.ref ar)])
    refine Go.of (fun _ kz => XS.iconst X1.here hx rfl (hb hby at_111) kz) ?_
    show Go p e below _ T1 (mkF m 112 #[.val (.int xa), .val (.int xb), .val (.int xc), .val (.int xd), .val (.long w), .second, .val (.ref ar), .val (.int kk), .unset, .unset, .unset, .unset, .unset, .unset] [(.int (1 : Int32)), (.ref ar)])
    refine Go.of (fun _ kz => XS.bipush X1.here hx rfl (hb hby at_112) kz) ?_
    show Go p e below _ T1 (mkF m 114 #[.val (.int xa), .val (.int xb), .val (.int xc), .val (.int xd), .val (.long w), .second, .val (.ref ar), .val (.int kk), .unset, .unset, .unset, .unset, .unset, .unset] [(.int (97 : Int32)), (.int (1 : Int32)), (.ref ar)])
    refine Go.castore X1 hx hZ e1 V1 ⟨by decide, by decide⟩ 1 rfl (Nat.le_of_ble_eq_true rfl) (hb hby at_114) fun T2 h2 X2 e2 W2 V2 => ?_
    have hC := hC.trans (CHr.wr W2 (Safe.arv hZ.alike V1 (by decide)) hC.1)
    have sz2 : hst.size ≤ h2.size := Nat.le_trans sz1 (Keep.of_wr W2).1
    have hk2 : k0 ≤ h2.size := Nat.le_trans hk1 (Keep.of_wr W2).1
    have N2 := Fr.snoc X2 N1 ga
    have V2 : Arv Z h2 ar ka .char (6 : Int32) [(.int (109 : Int32)), (.int (97 : Int32)), (.int c2), (.int c3), (.int c4), (.int c5)] (.int (0 : Int32)) := V2
    show Go p e below _ T2 (mkF m 115 #[.val (.int xa), .val (.int xb), .val (.int xc), .val (.int xd), .val (.long w), .second, .val (.ref ar), .val (.int kk), .unset, .unset, .unset, .unset, .unset, .unset] [])
    refine Go.of (fun _ kz => XS.aload X2.here hx rfl (hb hby at_115) rfl rfl kz) ?_
    show Go p e below _ T2 (mkF m 117 #[.val (.int xa), .val (.int xb), .val (.int xc), .val (.int xd), .val (.long w), .second, .val (.ref ar), .val (.int kk), .unset, .unset, .unset, .unset, .unset, .unset] [(.ref ar)])
    refine Go.of (fun _ kz => XS.iconst X2.here hx rfl (hb hby at_117) kz) ?_
    show Go p e below _ T2 (mkF m 118 #[.val (.int xa), .val (.int xb), .val (.int xc), .val (.int xd), .val (.long w), .second, .val (.ref ar), .val (.int kk), .unset, .unset, .unset, .unset, .unset, .unset] [(.int (2 : Int32)), (.ref ar)])
    refine Go.of (fun _ kz => XS.bipush X2.here hx rfl (hb hby at_118) kz) ?_
    show Go p e below _ T2 (mkF m 120 #[.val (.int xa), .val (.int xb), .val (.int xc), .val (.int xd), .val (.long w), .second, .val (.ref ar), .val (.int kk), .unset, .unset, .unset, .unset, .unset, .unset] [(.int (108 : Int32)), (.int (2 : Int32)), (.ref ar)])
    refine Go.castore X2 hx hZ e2 V2 ⟨by decide, by decide⟩ 2 rfl (Nat.le_of_ble_eq_true rfl) (hb hby at_120) fun T3 h3 X3 e3 W3 V3 => ?_
    have hC := hC.trans (CHr.wr W3 (Safe.arv hZ.alike V2 (by decide)) hC.1)
    have sz3 : hst.size ≤ h3.size := Nat.le_trans sz2 (Keep.of_wr W3).1
    have hk3 : k0 ≤ h3.size := Nat.le_trans hk2 (Keep.of_wr W3).1
    have N3 := Fr.snoc X3 N2 ga
    have V3 : Arv Z h3 ar ka .char (6 : Int32) [(.int (109 : Int32)), (.int (97 : Int32)), (.int (108 : Int32)), (.int c3), (.int c4), (.int c5)] (.int (0 : Int32)) := V3
    show Go p e below _ T3 (mkF m 121 #[.val (.int xa), .val (.int xb), .val (.int xc), .val (.int xd), .val (.long w), .second, .val (.ref ar), .val (.int kk), .unset, .unset, .unset, .unset, .unset, .unset] [])
    refine Go.of (fun _ kz => XS.aload X3.here hx rfl (hb hby at_121) rfl rfl kz) ?_
    show Go p e below _ T3 (mkF m 123 #[.val (.int xa), .val (.int xb), .val (.int xc), .val (.int xd), .val (.long w), .second, .val (.ref ar), .val (.int kk), .unset, .unset, .unset, .unset, .unset, .unset] [(.ref ar)])
    refine Go.of (fun _ kz => XS.iconst X3.here hx rfl (hb hby at_123) kz) ?_
    show Go p e below _ T3 (mkF m 124 #[.val (.int xa), .val (.int xb), .val (.int xc), .val (.int xd), .val (.long w), .second, .val (.ref ar), .val (.int kk), .unset, .unset, .unset, .unset, .unset, .unset] [(.int (3 : Int32)), (.ref ar)])
    refine Go.of (fun _ kz => XS.bipush X3.here hx rfl (hb hby at_124) kz) ?_
    show Go p e below _ T3 (mkF m 126 #[.val (.int xa), .val (.int xb), .val (.int xc), .val (.int xd), .val (.long w), .second, .val (.ref ar), .val (.int kk), .unset, .unset, .unset, .unset, .unset, .unset] [(.int (101 : Int32)), (.int (3 : Int32)), (.ref ar)])
    refine Go.castore X3 hx hZ e3 V3 ⟨by decide, by decide⟩ 3 rfl (Nat.le_of_ble_eq_true rfl) (hb hby at_126) fun T4 h4 X4 e4 W4 V4 => ?_
    have hC := hC.trans (CHr.wr W4 (Safe.arv hZ.alike V3 (by decide)) hC.1)
    have sz4 : hst.size ≤ h4.size := Nat.le_trans sz3 (Keep.of_wr W4).1
    have hk4 : k0 ≤ h4.size := Nat.le_trans hk3 (Keep.of_wr W4).1
    have N4 := Fr.snoc X4 N3 ga
    have V4 : Arv Z h4 ar ka .char (6 : Int32) [(.int (109 : Int32)), (.int (97 : Int32)), (.int (108 : Int32)), (.int (101 : Int32)), (.int c4), (.int c5)] (.int (0 : Int32)) := V4
    show Go p e below _ T4 (mkF m 127 #[.val (.int xa), .val (.int xb), .val (.int xc), .val (.int xd), .val (.long w), .second, .val (.ref ar), .val (.int kk), .unset, .unset, .unset, .unset, .unset, .unset] [])
    refine Go.of (fun _ kz => XS.goto X4.here hx rfl (pc0 := 127) (pc' := 172) rfl (hb hby at_127) (by decide) (by decide) kz) ?_
    show Go p e below _ T4 (mkF m 172 #[.val (.int xa), .val (.int xb), .val (.int xc), .val (.int xd), .val (.long w), .second, .val (.ref ar), .val (.int kk), .unset, .unset, .unset, .unset, .unset, .unset] [])
    exact own_C l Z a0 hw p e s _ m _ below meth c _ _ _ _ _ xa xb xc xd w ar _ _ _ _ _ _ _ kk cz vals mA fA nM nF bM bF oE kv kM kF hx hZ hby hml hown hret hlk hS hk4 hs0 hC (X4.mono (by decide) (by decide)) e4 N4 sz4 ((((OZ.wr W1 ga).wr W2 ga).wr W3 ga).wr W4 ga) V4 (by decide) (by decide) (by decide) (by decide) r4 r5 ga SB hz SV VV EV SM SF EM EF NM NF EnM CnM WnM AnM EnF CnF WnF AnF SE EE FE
  ·
    refine Go.of (fun _ kz => XS.ifYes X0.here hx rfl (pc0 := 100) (pc' := 130) rfl (hb hby at_100) rfl ((if0 _ _).trans (feq hc100).2) (by decide) (by decide) kz) ?_
    show Go p e below _ T0 (mkF m 130 #[.val (.int xa), .val (.int xb), .val (.int xc), .val (.int xd), .val (.long w), .second, .val (.ref ar), .val (.int kk), .unset, .unset, .unset, .unset, .unset, .unset] [])
    refine Go.of (fun _ kz => XS.iload X0.here hx rfl (hb hby at_130) rfl kz) ?_
    show Go p e below _ T0 (mkF m 132 #[.val (.int xa), .val (.int xb), .val (.int xc), .val (.int xd), .val (.long w), .second, .val (.ref ar), .val (.int kk), .unset, .unset, .unset, .unset, .unset, .unset] [(.int kk)])
    refine Go.of (fun _ kz => XS.iconst X0.here hx rfl (hb hby at_132) kz) ?_
    show Go p e below _ T0 (mkF m 133 #[.val (.int xa), .val (.int xb), .val (.int xc), .val (.int xd), .val (.long w), .second, .val (.ref ar), .val (.int kk), .unset, .unset, .unset, .unset, .unset, .unset] [(.int (1 : Int32)), (.int kk)])
    by_cases hc133 : kk = (1 : Int32)
    ·
      refine Go.of (fun _ kz => XS.icmpNo X0.here hx rfl (hb hby at_133) rfl (teq hc133).2 kz) ?_
      show Go p e below _ T0 (mkF m 136 #[.val (.int xa), .val (.int xb), .val (.int xc), .val (.int xd), .val (.long w), .second, .val (.ref ar), .val (.int kk), .unset, .unset, .unset, .unset, .unset, .unset] [])
      refine Go.of (fun _ kz => XS.aload X0.here hx rfl (hb hby at_136) rfl rfl kz) ?_
      show Go p e below _ T0 (mkF m 138 #[.val (.int xa), .val (.int xb), .val (.int xc), .val (.int xd), .val (.long w), .second, .val (.ref ar), .val (.int kk), .unset, .unset, .unset, .unset, .unset, .unset] [(.ref ar)])
      refine Go.of (fun _ kz => XS.iconst X0.here hx rfl (hb hby at_138) kz) ?_
      show Go p e below _ T0 (mkF m 139 #[.val (.int xa), .val (.int xb), .val (.int xc), .val (.int xd), .val (.long w), .second, .val (.ref ar), .val (.int kk), .unset, .unset, .unset, .unset, .unset, .unset] [(.int (0 : Int32)), (.ref ar)])
      refine Go.of (fun _ kz => XS.bipush X0.here hx rfl (hb hby at_139) kz) ?_
      show Go p e below _ T0 (mkF m 141 #[.val (.int xa), .val (.int xb), .val (.int xc), .val (.int xd), .val (.long w), .second, .val (.ref ar), .val (.int kk), .unset, .unset, .unset, .unset, .unset, .unset] [(.int (102 : Int32)), (.int (0 : Int32)), (.ref ar)])
      refine Go.castore X0 hx hZ e0 VA ⟨by decide, by decide⟩ 0 rfl (Nat.le_of_ble_eq_true rfl) (hb hby at_141) fun T5 h5 X5 e5 W5 V5 => ?_
      have hC := hC.trans (CHr.wr W5 (Safe.arv hZ.alike VA (by decide)) hC.1)
      have sz5 : hst.size ≤ h5.size := Nat.le_trans Z0 (Keep.of_wr W5).1
      have hk5 : k0 ≤ h5.size := Nat.le_trans hk (Keep.of_wr W5).1
      have N5 := Fr.snoc X5 N0 ga
      have V5 : Arv Z h5 ar ka .char (6 : Int32) [(.int (102 : Int32)), (.int c1), (.int c2), (.int c3), (.int c4), (.int c5)] (.int (0 : Int32)) := V5
      show Go p e below _ T5 (mkF m 142 #[.val (.int xa), .val (.int xb), .val (.int xc), .val (.int xd), .val (.long w), .second, .val (.ref ar), .val (.int kk), .unset, .unset, .unset, .unset, .unset, .unset] [])
      refine Go.of (fun _ kz => XS.aload X5.here hx rfl (hb hby at_142) rfl rfl kz) ?_
      show Go p e below _ T5 (mkF m 144 #[.val (.int xa), .val (.int xb), .val (.int xc), .val (.int xd), .val (.long w), .second, .val (.ref ar), .val (.int kk), .unset, .unset, .unset, .unset, .unset, .unset] [(.ref ar)])
      refine Go.of (fun _ kz => XS.iconst X5.here hx rfl (hb hby at_144) kz) ?_
      show Go p e below _ T5 (mkF m 145 #[.val (.int xa), .val (.int xb), .val (.int xc), .val (.int xd), .val (.long w), .second, .val (.ref ar), .val (.int kk), .unset, .unset, .unset, .unset, .unset, .unset] [(.int (1 : Int32)), (.ref ar)])
      refine Go.of (fun _ kz => XS.bipush X5.here hx rfl (hb hby at_145) kz) ?_
      show Go p e below _ T5 (mkF m 147 #[.val (.int xa), .val (.int xb), .val (.int xc), .val (.int xd), .val (.long w), .second, .val (.ref ar), .val (.int kk), .unset, .unset, .unset, .unset, .unset, .unset] [(.int (101 : Int32)), (.int (1 : Int32)), (.ref ar)])
      refine Go.castore X5 hx hZ e5 V5 ⟨by decide, by decide⟩ 1 rfl (Nat.le_of_ble_eq_true rfl) (hb hby at_147) fun T6 h6 X6 e6 W6 V6 => ?_
      have hC := hC.trans (CHr.wr W6 (Safe.arv hZ.alike V5 (by decide)) hC.1)
      have sz6 : hst.size ≤ h6.size := Nat.le_trans sz5 (Keep.of_wr W6).1
      have hk6 : k0 ≤ h6.size := Nat.le_trans hk5 (Keep.of_wr W6).1
      have N6 := Fr.snoc X6 N5 ga
      have V6 : Arv Z h6 ar ka .char (6 : Int32) [(.int (102 : Int32)), (.int (101 : Int32)), (.int c2), (.int c3), (.int c4), (.int c5)] (.int (0 : Int32)) := V6
      show Go p e below _ T6 (mkF m 148 #[.val (.int xa), .val (.int xb), .val (.int xc), .val (.int xd), .val (.long w), .second, .val (.ref ar), .val (.int kk), .unset, .unset, .unset, .unset, .unset, .unset] [])
      refine Go.of (fun _ kz => XS.aload X6.here hx rfl (hb hby at_148) rfl rfl kz) ?_
      show Go p e below _ T6 (mkF m 150 #[.val (.int xa), .val (.int xb), .val (.int xc), .val (.int xd), .val (.long w), .second, .val (.ref ar), .val (.int kk), .unset, .unset, .unset, .unset, .unset, .unset] [(.ref ar)])
      refine Go.of (fun _ kz => XS.iconst X6.here hx rfl (hb hby at_150) kz) ?_
      show Go p e below _ T6 (mkF m 151 #[.val (.int xa), .val (.int xb), .val (.int xc), .val (.int xd), .val (.long w), .second, .val (.ref ar), .val (.int kk), .unset, .unset, .unset, .unset, .unset, .unset] [(.int (2 : Int32)), (.ref ar)])
      refine Go.of (fun _ kz => XS.bipush X6.here hx rfl (hb hby at_151) kz) ?_
      show Go p e below _ T6 (mkF m 153 #[.val (.int xa), .val (.int xb), .val (.int xc), .val (.int xd), .val (.long w), .second, .val (.ref ar), .val (.int kk), .unset, .unset, .unset, .unset, .unset, .unset] [(.int (109 : Int32)), (.int (2 : Int32)), (.ref ar)])
      refine Go.castore X6 hx hZ e6 V6 ⟨by decide, by decide⟩ 2 rfl (Nat.le_of_ble_eq_true rfl) (hb hby at_153) fun T7 h7 X7 e7 W7 V7 => ?_
      have hC := hC.trans (CHr.wr W7 (Safe.arv hZ.alike V6 (by decide)) hC.1)
      have sz7 : hst.size ≤ h7.size := Nat.le_trans sz6 (Keep.of_wr W7).1
      have hk7 : k0 ≤ h7.size := Nat.le_trans hk6 (Keep.of_wr W7).1
      have N7 := Fr.snoc X7 N6 ga
      have V7 : Arv Z h7 ar ka .char (6 : Int32) [(.int (102 : Int32)), (.int (101 : Int32)), (.int (109 : Int32)), (.int c3), (.int c4), (.int c5)] (.int (0 : Int32)) := V7
      show Go p e below _ T7 (mkF m 154 #[.val (.int xa), .val (.int xb), .val (.int xc), .val (.int xd), .val (.long w), .second, .val (.ref ar), .val (.int kk), .unset, .unset, .unset, .unset, .unset, .unset] [])
      refine Go.of (fun _ kz => XS.aload X7.here hx rfl (hb hby at_154) rfl rfl kz) ?_
      show Go p e below _ T7 (mkF m 156 #[.val (.int xa), .val (.int xb), .val (.int xc), .val (.int xd), .val (.long w), .second, .val (.ref ar), .val (.int kk), .unset, .unset, .unset, .unset, .unset, .unset] [(.ref ar)])
      refine Go.of (fun _ kz => XS.iconst X7.here hx rfl (hb hby at_156) kz) ?_
      show Go p e below _ T7 (mkF m 157 #[.val (.int xa), .val (.int xb), .val (.int xc), .val (.int xd), .val (.long w), .second, .val (.ref ar), .val (.int kk), .unset, .unset, .unset, .unset, .unset, .unset] [(.int (3 : Int32)), (.ref ar)])
      refine Go.of (fun _ kz => XS.bipush X7.here hx rfl (hb hby at_157) kz) ?_
      show Go p e below _ T7 (mkF m 159 #[.val (.int xa), .val (.int xb), .val (.int xc), .val (.int xd), .val (.long w), .second, .val (.ref ar), .val (.int kk), .unset, .unset, .unset, .unset, .unset, .unset] [(.int (97 : Int32)), (.int (3 : Int32)), (.ref ar)])
      refine Go.castore X7 hx hZ e7 V7 ⟨by decide, by decide⟩ 3 rfl (Nat.le_of_ble_eq_true rfl) (hb hby at_159) fun T8 h8 X8 e8 W8 V8 => ?_
      have hC := hC.trans (CHr.wr W8 (Safe.arv hZ.alike V7 (by decide)) hC.1)
      have sz8 : hst.size ≤ h8.size := Nat.le_trans sz7 (Keep.of_wr W8).1
      have hk8 : k0 ≤ h8.size := Nat.le_trans hk7 (Keep.of_wr W8).1
      have N8 := Fr.snoc X8 N7 ga
      have V8 : Arv Z h8 ar ka .char (6 : Int32) [(.int (102 : Int32)), (.int (101 : Int32)), (.int (109 : Int32)), (.int (97 : Int32)), (.int c4), (.int c5)] (.int (0 : Int32)) := V8
      show Go p e below _ T8 (mkF m 160 #[.val (.int xa), .val (.int xb), .val (.int xc), .val (.int xd), .val (.long w), .second, .val (.ref ar), .val (.int kk), .unset, .unset, .unset, .unset, .unset, .unset] [])
      refine Go.of (fun _ kz => XS.aload X8.here hx rfl (hb hby at_160) rfl rfl kz) ?_
      show Go p e below _ T8 (mkF m 162 #[.val (.int xa), .val (.int xb), .val (.int xc), .val (.int xd), .val (.long w), .second, .val (.ref ar), .val (.int kk), .unset, .unset, .unset, .unset, .unset, .unset] [(.ref ar)])
      refine Go.of (fun _ kz => XS.iconst X8.here hx rfl (hb hby at_162) kz) ?_
      show Go p e below _ T8 (mkF m 163 #[.val (.int xa), .val (.int xb), .val (.int xc), .val (.int xd), .val (.long w), .second, .val (.ref ar), .val (.int kk), .unset, .unset, .unset, .unset, .unset, .unset] [(.int (4 : Int32)), (.ref ar)])
      refine Go.of (fun _ kz => XS.bipush X8.here hx rfl (hb hby at_163) kz) ?_
      show Go p e below _ T8 (mkF m 165 #[.val (.int xa), .val (.int xb), .val (.int xc), .val (.int xd), .val (.long w), .second, .val (.ref ar), .val (.int kk), .unset, .unset, .unset, .unset, .unset, .unset] [(.int (108 : Int32)), (.int (4 : Int32)), (.ref ar)])
      refine Go.castore X8 hx hZ e8 V8 ⟨by decide, by decide⟩ 4 rfl (Nat.le_of_ble_eq_true rfl) (hb hby at_165) fun T9 h9 X9 e9 W9 V9 => ?_
      have hC := hC.trans (CHr.wr W9 (Safe.arv hZ.alike V8 (by decide)) hC.1)
      have sz9 : hst.size ≤ h9.size := Nat.le_trans sz8 (Keep.of_wr W9).1
      have hk9 : k0 ≤ h9.size := Nat.le_trans hk8 (Keep.of_wr W9).1
      have N9 := Fr.snoc X9 N8 ga
      have V9 : Arv Z h9 ar ka .char (6 : Int32) [(.int (102 : Int32)), (.int (101 : Int32)), (.int (109 : Int32)), (.int (97 : Int32)), (.int (108 : Int32)), (.int c5)] (.int (0 : Int32)) := V9
      show Go p e below _ T9 (mkF m 166 #[.val (.int xa), .val (.int xb), .val (.int xc), .val (.int xd), .val (.long w), .second, .val (.ref ar), .val (.int kk), .unset, .unset, .unset, .unset, .unset, .unset] [])
      refine Go.of (fun _ kz => XS.aload X9.here hx rfl (hb hby at_166) rfl rfl kz) ?_
      show Go p e below _ T9 (mkF m 168 #[.val (.int xa), .val (.int xb), .val (.int xc), .val (.int xd), .val (.long w), .second, .val (.ref ar), .val (.int kk), .unset, .unset, .unset, .unset, .unset, .unset] [(.ref ar)])
      refine Go.of (fun _ kz => XS.iconst X9.here hx rfl (hb hby at_168) kz) ?_
      show Go p e below _ T9 (mkF m 169 #[.val (.int xa), .val (.int xb), .val (.int xc), .val (.int xd), .val (.long w), .second, .val (.ref ar), .val (.int kk), .unset, .unset, .unset, .unset, .unset, .unset] [(.int (5 : Int32)), (.ref ar)])
      refine Go.of (fun _ kz => XS.bipush X9.here hx rfl (hb hby at_169) kz) ?_
      show Go p e below _ T9 (mkF m 171 #[.val (.int xa), .val (.int xb), .val (.int xc), .val (.int xd), .val (.long w), .second, .val (.ref ar), .val (.int kk), .unset, .unset, .unset, .unset, .unset, .unset] [(.int (101 : Int32)), (.int (5 : Int32)), (.ref ar)])
      refine Go.castore X9 hx hZ e9 V9 ⟨by decide, by decide⟩ 5 rfl (Nat.le_of_ble_eq_true rfl) (hb hby at_171) fun T10 h10 X10 e10 W10 V10 => ?_
      have hC := hC.trans (CHr.wr W10 (Safe.arv hZ.alike V9 (by decide)) hC.1)
      have sz10 : hst.size ≤ h10.size := Nat.le_trans sz9 (Keep.of_wr W10).1
      have hk10 : k0 ≤ h10.size := Nat.le_trans hk9 (Keep.of_wr W10).1
      have N10 := Fr.snoc X10 N9 ga
      have V10 : Arv Z h10 ar ka .char (6 : Int32) [(.int (102 : Int32)), (.int (101 : Int32)), (.int (109 : Int32)), (.int (97 : Int32)), (.int (108 : Int32)), (.int (101 : Int32))] (.int (0 : Int32)) := V10
      show Go p e below _ T10 (mkF m 172 #[.val (.int xa), .val (.int xb), .val (.int xc), .val (.int xd), .val (.long w), .second, .val (.ref ar), .val (.int kk), .unset, .unset, .unset, .unset, .unset, .unset] [])
      exact own_C l Z a0 hw p e s _ m _ below meth c _ _ _ _ _ xa xb xc xd w ar _ _ _ _ _ _ _ kk cz vals mA fA nM nF bM bF oE kv kM kF hx hZ hby hml hown hret hlk hS hk10 hs0 hC (X10.mono (by decide) (by decide)) e10 N10 sz10 ((((((OZ.wr W5 ga).wr W6 ga).wr W7 ga).wr W8 ga).wr W9 ga).wr W10 ga) V10 (by decide) (by decide) (by decide) (by decide) (by decide) (by decide) ga SB hz SV VV EV SM SF EM EF NM NF EnM CnM WnM AnM EnF CnF WnF AnF SE EE FE
    ·
      refine Go.of (fun _ kz => XS.icmpYes X0.here hx rfl (pc0 := 133) (pc' := 172) rfl (hb hby at_133) rfl (feq hc133).2 (by decide) (by decide) kz) ?_
      show Go p e below _ T0 (mkF m 172 #[.val (.int xa), .val (.int xb), .val (.int xc), .val (.int xd), .val (.long w), .second, .val (.ref ar), .val (.int kk), .unset, .unset, .unset, .unset, .unset, .unset] [])
      exact own_C l Z a0 hw p e s _ m _ below meth c _ _ _ _ _ xa xb xc xd w ar _ _ _ _ _ _ _ kk cz vals mA fA nM nF bM bF oE kv kM kF hx hZ hby hml hown hret hlk hS hk hs0 hC (X0.mono (by decide) (by decide)) e0 N0 Z0 OZ VA r0 r1 r2 r3 r4 r5 ga SB hz SV VV EV SM SF EM EF NM NF EnM CnM WnM AnM EnF CnF WnF AnF SE EE FE
set_option maxRecDepth 65536 in
set_option maxHeartbeats 40000000 in
theorem rm0 (l : Launch) (Z : State) (a0 : Array Value) (hw : ∀ d ∈ tables_1, d.before a0 Z = true) (ws : List Jvm.Cond) (xa xb xc xd : Int32) (w : Int64) (cz : Int32) (vals mA fA nM nF bM bF oE : Addr) (kv kM kF : ClassId) (h0 : Heap) (OZ : Old Z h0.size h0) (SB : Sta Z Z.heap "java/lang/String" "COMPACT_STRINGS" "Z" (.int cz)) (hz : ¬ cz = (0 : Int32)) (SV : Sta Z Z.heap "com/example/vestry/vestry/engine/Sex" "$VALUES" "[Lcom/example/vestry/vestry/engine/Sex;" (.ref vals)) (VV : Arv Z Z.heap vals kv (.object "com/example/vestry/vestry/engine/Sex") 2 [.ref mA, .ref fA] .null) (EV : Exa Z Z.heap vals "[Lcom/example/vestry/vestry/engine/Sex;") (SM : Sta Z Z.heap "com/example/vestry/vestry/engine/Sex" "MALE" "Lcom/example/vestry/vestry/engine/Sex;" (.ref mA)) (SF : Sta Z Z.heap "com/example/vestry/vestry/engine/Sex" "FEMALE" "Lcom/example/vestry/vestry/engine/Sex;" (.ref fA)) (EM : Exa Z Z.heap mA "com/example/vestry/vestry/engine/Sex") (EF : Exa Z Z.heap fA "com/example/vestry/vestry/engine/Sex") (NM : Fld Z Z.heap mA "com/example/vestry/vestry/engine/Sex" "name" "Ljava/lang/String;" (.ref nM)) (NF : Fld Z Z.heap fA "com/example/vestry/vestry/engine/Sex" "name" "Ljava/lang/String;" (.ref nF)) (EnM : Exa Z Z.heap nM "java/lang/String") (CnM : Fld Z Z.heap nM "java/lang/String" "coder" "B" (.int 0)) (WnM : Fld Z Z.heap nM "java/lang/String" "value" "[B" (.ref bM)) (AnM : Arv Z Z.heap bM kM .byte 4 [.int 109, .int 97, .int 108, .int 101] (.int 0)) (EnF : Exa Z Z.heap nF "java/lang/String") (CnF : Fld Z Z.heap nF "java/lang/String" "coder" "B" (.int 0)) (WnF : Fld Z Z.heap nF "java/lang/String" "value" "[B" (.ref bF)) (AnF : Arv Z Z.heap bF kF .byte 6 [.int 102, .int 101, .int 109, .int 97, .int 108, .int 101] (.int 0)) (SE : Sta Z Z.heap "java/util/Optional" "EMPTY" "Ljava/util/Optional;" (.ref oE)) (EE : Exa Z Z.heap oE "java/util/Optional") (FE : Fld Z Z.heap oE "java/util/Optional" "value" "Ljava/lang/Object;" .null) :
    MetFree l x (head1 (Jvm.Cond.code x code maxLocals ret :: ws) room_1) (fun aa U => aa = #[(.int xa), (.int xb), (.int xc), (.int xd), (.long w)] ∧ Z.Warmed39 U.vm ∧ U.heap = h0 ∧ CHv Z consts_1 U.vm h0) (fun _ _ _ _ _ => True) (fun _ U o U' => ∃ v L, o = .returned v ∧ (fun v _ L => v = some (.int 1) ∧ Fr h0.size L) v U'.heap L ∧ CHr Z consts_1 U.vm U.heap U'.vm U'.heap ∧ ReturnedEndW U o U' L room_1.cells room_1.slots) := by
  refine goBodyH (y := x) (Q := fun v _ L => v = some (.int 1) ∧ Fr h0.size L) (plainFor_of_name (by first | (simp [plainName, overriddenIn]; done) | decide +kernel)) ?_
  intro p e s m below meth c T0 hx hZ hby hml hown hnm hret hlk X0 e0 hS hs0 hC
  have hEL := own_EW Z a0 hw
  have wS : ∀ d ∈ Bundle.stringAtoms, d.before a0 Z = true := fun d hd => by
    simp only [Bundle.stringAtoms, List.mem_cons, List.not_mem_nil, or_false] at hd
    rcases hd with rfl | rfl | rfl | rfl | rfl | rfl | rfl
    · exact (hw _ (List.mem_of_getElem? (i := 5) rfl))
    · exact (hw _ (List.mem_of_getElem? (i := 4) rfl))
    · exact (hw _ (List.mem_of_getElem? (i := 25) rfl))
    · exact (hw _ (List.mem_of_getElem? (i := 35) rfl))
    · exact (hw _ (List.mem_of_getElem? (i := 33) rfl))
    · exact (hw _ (List.mem_of_getElem? (i := 82) rfl))
    · exact (hw _ (List.mem_of_getElem? (i := 83) rfl))
  have hk : 0 ≤ h0.size := Nat.zero_le _
  have hown : s.vm.findClass "com/example/vestry/vestry/engine/SexNamedPinLaw" = some m.cls := hown
  have hml : c.maxLocals = 14 := hml
  refine Go.cast (g' := mkF m 0 #[.val (.int xa), .val (.int xb), .val (.int xc), .val (.int xd), .val (.long w), .second, .unset, .unset, .unset, .unset, .unset, .unset, .unset, .unset] []) (by first | (simp [entryFrame, mkF, argsToLocals, Value.category, maxLocals]; done) | rfl) ?_
  show Go p e below _ T0 (mkF m 0 #[.val (.int xa), .val (.int xb), .val (.int xc), .val (.int xd), .val (.long w), .second, .unset, .unset, .unset, .unset, .unset, .unset, .unset, .unset] [])
  refine Go.of (fun _ kz => XS.bipush X0.here hx rfl (hb hby at_0) kz) ?_
  show Go p e below _ T0 (mkF m 2 #[.val (.int xa), .val (.int xb), .val (.int xc), .val (.int xd), .val (.long w), .second, .unset, .unset, .unset, .unset, .unset, .unset, .unset, .unset] [(.int (6 : Int32))])
  refine Go.newarr X0 hx hZ (hw _ (List.mem_of_getElem? (i := 0) rfl)) e0 6 (by decide) (by decide) (by decide) (by decide) (by decide) (hb hby at_2) fun T1 h1 b1 k1 g1 X1 e1 E1 V1 => ?_
  have ge_b1 : h0.size ≤ b1 := g1 ▸ (Nat.le_refl _)
  have hC := hC.trans (CHr.ext E1 hC.1)
  have sz1 : h0.size ≤ h1.size := Nat.le_trans (Nat.le_refl _) E1.1
  have hk1 : 0 ≤ h1.size := Nat.le_trans hk E1.1
  have V1 : Arv Z h1 b1 k1 .char (6 : Int32) [(.int (0 : Int32)), (.int (0 : Int32)), (.int (0 : Int32)), (.int (0 : Int32)), (.int (0 : Int32)), (.int (0 : Int32))] (.int (0 : Int32)) := V1
  show Go p e below _ T1 (mkF m 4 #[.val (.int xa), .val (.int xb), .val (.int xc), .val (.int xd), .val (.long w), .second, .unset, .unset, .unset, .unset, .unset, .unset, .unset, .unset] [(.ref b1)])
  refine Go.of (fun _ kz => XS.astore X1.here hx rfl (hb hby at_4) rfl rfl (l' := #[.val (.int xa), .val (.int xb), .val (.int xc), .val (.int xd), .val (.long w), .second, .val (.ref b1), .unset, .unset, .unset, .unset, .unset, .unset, .unset]) rfl kz) ?_
  show Go p e below _ T1 (mkF m 6 #[.val (.int xa), .val (.int xb), .val (.int xc), .val (.int xd), .val (.long w), .second, .val (.ref b1), .unset, .unset, .unset, .unset, .unset, .unset, .unset] [])
  refine Go.of (fun _ kz => XS.aload X1.here hx rfl (hb hby at_6) rfl rfl kz) ?_
  show Go p e below _ T1 (mkF m 8 #[.val (.int xa), .val (.int xb), .val (.int xc), .val (.int xd), .val (.long w), .second, .val (.ref b1), .unset, .unset, .unset, .unset, .unset, .unset, .unset] [(.ref b1)])
  refine Go.of (fun _ kz => XS.iconst X1.here hx rfl (hb hby at_8) kz) ?_
  show Go p e below _ T1 (mkF m 9 #[.val (.int xa), .val (.int xb), .val (.int xc), .val (.int xd), .val (.long w), .second, .val (.ref b1), .unset, .unset, .unset, .unset, .unset, .unset, .unset] [(.int (0 : Int32)), (.ref b1)])
  refine Go.of (fun _ kz => XS.lload X1.here hx rfl (hb hby at_9) rfl kz) ?_
  show Go p e below _ T1 (mkF m 11 #[.val (.int xa), .val (.int xb), .val (.int xc), .val (.int xd), .val (.long w), .second, .val (.ref b1), .unset, .unset, .unset, .unset, .unset, .unset, .unset] [(.long w), (.int (0 : Int32)), (.ref b1)])
  refine Go.of (X1.ldc2Long hx hown (mvT hZ (hw _ (List.mem_of_getElem? (i := 1) rfl))) (g := (mkF m 11 #[.val (.int xa), .val (.int xb), .val (.int xc), .val (.int xd), .val (.long w), .second, .val (.ref b1), .unset, .unset, .unset, .unset, .unset, .unset, .unset] [(.long w), (.int (0 : Int32)), (.ref b1)])) rfl (hb hby at_11)) ?_
  show Go p e below _ T1 (mkF m 14 #[.val (.int xa), .val (.int xb), .val (.int xc), .val (.int xd), .val (.long w), .second, .val (.ref b1), .unset, .unset, .unset, .unset, .unset, .unset, .unset] [(.long (255 : Int64)), (.long w), (.int (0 : Int32)), (.ref b1)])
  refine Go.of (fun _ kz => XS.land X1.here hx rfl (hb hby at_14) rfl kz) ?_
  show Go p e below _ T1 (mkF m 15 #[.val (.int xa), .val (.int xb), .val (.int xc), .val (.int xd), .val (.long w), .second, .val (.ref b1), .unset, .unset, .unset, .unset, .unset, .unset, .unset] [(.long (w &&& (255 : Int64))), (.int (0 : Int32)), (.ref b1)])
  refine Go.of (fun _ kz => XS.l2i X1.here hx rfl (hb hby at_15) rfl kz) ?_
  show Go p e below _ T1 (mkF m 16 #[.val (.int xa), .val (.int xb), .val (.int xc), .val (.int xd), .val (.long w), .second, .val (.ref b1), .unset, .unset, .unset, .unset, .unset, .unset, .unset] [(.int ((w &&& (255 : Int64)).toInt32)), (.int (0 : Int32)), (.ref b1)])
  refine Go.of (fun _ kz => XS.i2c X1.here hx rfl (hb hby at_16) rfl kz) ?_
  show Go p e below _ T1 (mkF m 17 #[.val (.int xa), .val (.int xb), .val (.int xc), .val (.int xd), .val (.long w), .second, .val (.ref b1), .unset, .unset, .unset, .unset, .unset, .unset, .unset] [(.int (((w &&& (255 : Int64)).toInt32).toUInt32.toUInt16.toUInt32.toInt32)), (.int (0 : Int32)), (.ref b1)])
  refine Go.castore X1 hx hZ e1 V1 ⟨by decide, by decide⟩ 0 rfl (Nat.le_of_ble_eq_true rfl) (hb hby at_17) fun T2 h2 X2 e2 W2 V2 => ?_
  have hC := hC.trans (CHr.wr W2 (Safe.arv hZ.alike V1 (by decide)) hC.1)
  have sz2 : h0.size ≤ h2.size := Nat.le_trans sz1 (Keep.of_wr W2).1
  have hk2 : 0 ≤ h2.size := Nat.le_trans hk1 (Keep.of_wr W2).1
  have N2 := Fr.snoc X2 (Fr.nil _) ge_b1
  have V2 : Arv Z h2 b1 k1 .char (6 : Int32) [(.int (nar .char (((w &&& (255 : Int64)).toInt32).toUInt32.toUInt16.toUInt32.toInt32))), (.int (0 : Int32)), (.int (0 : Int32)), (.int (0 : Int32)), (.int (0 : Int32)), (.int (0 : Int32))] (.int (0 : Int32)) := V2
  show Go p e below _ T2 (mkF m 18 #[.val (.int xa), .val (.int xb), .val (.int xc), .val (.int xd), .val (.long w), .second, .val (.ref b1), .unset, .unset, .unset, .unset, .unset, .unset, .unset] [])
  refine Go.of (fun _ kz => XS.aload X2.here hx rfl (hb hby at_18) rfl rfl kz) ?_
  show Go p e below _ T2 (mkF m 20 #[.val (.int xa), .val (.int xb), .val (.int xc), .val (.int xd), .val (.long w), .second, .val (.ref b1), .unset, .unset, .unset, .unset, .unset, .unset, .unset] [(.ref b1)])
  refine Go.of (fun _ kz => XS.iconst X2.here hx rfl (hb hby at_20) kz) ?_
  show Go p e below _ T2 (mkF m 21 #[.val (.int xa), .val (.int xb), .val (.int xc), .val (.int xd), .val (.long w), .second, .val (.ref b1), .unset, .unset, .unset, .unset, .unset, .unset, .unset] [(.int (1 : Int32)), (.ref b1)])
  refine Go.of (fun _ kz => XS.lload X2.here hx rfl (hb hby at_21) rfl kz) ?_
  show Go p e below _ T2 (mkF m 23 #[.val (.int xa), .val (.int xb), .val (.int xc), .val (.int xd), .val (.long w), .second, .val (.ref b1), .unset, .unset, .unset, .unset, .unset, .unset, .unset] [(.long w), (.int (1 : Int32)), (.ref b1)])
  refine Go.of (fun _ kz => XS.bipush X2.here hx rfl (hb hby at_23) kz) ?_
  show Go p e below _ T2 (mkF m 25 #[.val (.int xa), .val (.int xb), .val (.int xc), .val (.int xd), .val (.long w), .second, .val (.ref b1), .unset, .unset, .unset, .unset, .unset, .unset, .unset] [(.int (8 : Int32)), (.long w), (.int (1 : Int32)), (.ref b1)])
  refine Go.of (fun _ kz => XS.lushr X2.here hx rfl (hb hby at_25) rfl kz) ?_
  show Go p e below _ T2 (mkF m 26 #[.val (.int xa), .val (.int xb), .val (.int xc), .val (.int xd), .val (.long w), .second, .val (.ref b1), .unset, .unset, .unset, .unset, .unset, .unset, .unset] [(.long ((w.toUInt64 >>> ((8 : Int32) &&& 0x3f).toInt64.toUInt64).toInt64)), (.int (1 : Int32)), (.ref b1)])
  refine Go.of (X2.ldc2Long hx hown (mvT hZ (hw _ (List.mem_of_getElem? (i := 1) rfl))) (g := (mkF m 26 #[.val (.int xa), .val (.int xb), .val (.int xc), .val (.int xd), .val (.long w), .second, .val (.ref b1), .unset, .unset, .unset, .unset, .unset, .unset, .unset] [(.long ((w.toUInt64 >>> ((8 : Int32) &&& 0x3f).toInt64.toUInt64).toInt64)), (.int (1 : Int32)), (.ref b1)])) rfl (hb hby at_26)) ?_
  show Go p e below _ T2 (mkF m 29 #[.val (.int xa), .val (.int xb), .val (.int xc), .val (.int xd), .val (.long w), .second, .val (.ref b1), .unset, .unset, .unset, .unset, .unset, .unset, .unset] [(.long (255 : Int64)), (.long ((w.toUInt64 >>> ((8 : Int32) &&& 0x3f).toInt64.toUInt64).toInt64)), (.int (1 : Int32)), (.ref b1)])
  refine Go.of (fun _ kz => XS.land X2.here hx rfl (hb hby at_29) rfl kz) ?_
  show Go p e below _ T2 (mkF m 30 #[.val (.int xa), .val (.int xb), .val (.int xc), .val (.int xd), .val (.long w), .second, .val (.ref b1), .unset, .unset, .unset, .unset, .unset, .unset, .unset] [(.long (((w.toUInt64 >>> ((8 : Int32) &&& 0x3f).toInt64.toUInt64).toInt64) &&& (255 : Int64))), (.int (1 : Int32)), (.ref b1)])
  refine Go.of (fun _ kz => XS.l2i X2.here hx rfl (hb hby at_30) rfl kz) ?_
  show Go p e below _ T2 (mkF m 31 #[.val (.int xa), .val (.int xb), .val (.int xc), .val (.int xd), .val (.long w), .second, .val (.ref b1), .unset, .unset, .unset, .unset, .unset, .unset, .unset] [(.int ((((w.toUInt64 >>> ((8 : Int32) &&& 0x3f).toInt64.toUInt64).toInt64) &&& (255 : Int64)).toInt32)), (.int (1 : Int32)), (.ref b1)])
  refine Go.of (fun _ kz => XS.i2c X2.here hx rfl (hb hby at_31) rfl kz) ?_
  show Go p e below _ T2 (mkF m 32 #[.val (.int xa), .val (.int xb), .val (.int xc), .val (.int xd), .val (.long w), .second, .val (.ref b1), .unset, .unset, .unset, .unset, .unset, .unset, .unset] [(.int (((((w.toUInt64 >>> ((8 : Int32) &&& 0x3f).toInt64.toUInt64).toInt64) &&& (255 : Int64)).toInt32).toUInt32.toUInt16.toUInt32.toInt32)), (.int (1 : Int32)), (.ref b1)])
  refine Go.castore X2 hx hZ e2 V2 ⟨by decide, by decide⟩ 1 rfl (Nat.le_of_ble_eq_true rfl) (hb hby at_32) fun T3 h3 X3 e3 W3 V3 => ?_
  have hC := hC.trans (CHr.wr W3 (Safe.arv hZ.alike V2 (by decide)) hC.1)
  have sz3 : h0.size ≤ h3.size := Nat.le_trans sz2 (Keep.of_wr W3).1
  have hk3 : 0 ≤ h3.size := Nat.le_trans hk2 (Keep.of_wr W3).1
  have N3 := Fr.snoc X3 N2 ge_b1
  have V3 : Arv Z h3 b1 k1 .char (6 : Int32) [(.int (nar .char (((w &&& (255 : Int64)).toInt32).toUInt32.toUInt16.toUInt32.toInt32))), (.int (nar .char (((((w.toUInt64 >>> ((8 : Int32) &&& 0x3f).toInt64.toUInt64).toInt64) &&& (255 : Int64)).toInt32).toUInt32.toUInt16.toUInt32.toInt32))), (.int (0 : Int32)), (.int (0 : Int32)), (.int (0 : Int32)), (.int (0 : Int32))] (.int (0 : Int32)) := V3
  show Go p e below _ T3 (mkF m 33 #[.val (.int xa), .val (.int xb), .val (.int xc), .val (.int xd), .val (.long w), .second, .val (.ref b1), .unset, .unset, .unset, .unset, .unset, .unset, .unset] [])
  refine Go.of (fun _ kz => XS.aload X3.here hx rfl (hb hby at_33) rfl rfl kz) ?_
  show Go p e below _ T3 (mkF m 35 #[.val (.int xa), .val (.int xb), .val (.int xc), .val (.int xd), .val (.long w), .second, .val (.ref b1), .unset, .unset, .unset, .unset, .unset, .unset, .unset] [(.ref b1)])
  refine Go.of (fun _ kz => XS.iconst X3.here hx rfl (hb hby at_35) kz) ?_
  show Go p e below _ T3 (mkF m 36 #[.val (.int xa), .val (.int xb), .val (.int xc), .val (.int xd), .val (.long w), .second, .val (.ref b1), .unset, .unset, .unset, .unset, .unset, .unset, .unset] [(.int (2 : Int32)), (.ref b1)])
  refine Go.of (fun _ kz => XS.lload X3.here hx rfl (hb hby at_36) rfl kz) ?_
  show Go p e below _ T3 (mkF m 38 #[.val (.int xa), .val (.int xb), .val (.int xc), .val (.int xd), .val (.long w), .second, .val (.ref b1), .unset, .unset, .unset, .unset, .unset, .unset, .unset] [(.long w), (.int (2 : Int32)), (.ref b1)])
  refine Go.of (fun _ kz => XS.bipush X3.here hx rfl (hb hby at_38) kz) ?_
  show Go p e below _ T3 (mkF m 40 #[.val (.int xa), .val (.int xb), .val (.int xc), .val (.int xd), .val (.long w), .second, .val (.ref b1), .unset, .unset, .unset, .unset, .unset, .unset, .unset] [(.int (16 : Int32)), (.long w), (.int (2 : Int32)), (.ref b1)])
  refine Go.of (fun _ kz => XS.lushr X3.here hx rfl (hb hby at_40) rfl kz) ?_
  show Go p e below _ T3 (mkF m 41 #[.val (.int xa), .val (.int xb), .val (.int xc), .val (.int xd), .val (.long w), .second, .val (.ref b1), .unset, .unset, .unset, .unset, .unset, .unset, .unset] [(.long ((w.toUInt64 >>> ((16 : Int32) &&& 0x3f).toInt64.toUInt64).toInt64)), (.int (2 : Int32)), (.ref b1)])
  refine Go.of (X3.ldc2Long hx hown (mvT hZ (hw _ (List.mem_of_getElem? (i := 1) rfl))) (g := (mkF m 41 #[.val (.int xa), .val (.int xb), .val (.int xc), .val (.int xd), .val (.long w), .second, .val (.ref b1), .unset, .unset, .unset, .unset, .unset, .unset, .unset] [(.long ((w.toUInt64 >>> ((16 : Int32) &&& 0x3f).toInt64.toUInt64).toInt64)), (.int (2 : Int32)), (.ref b1)])) rfl (hb hby at_41)) ?_
  show Go p e below _ T3 (mkF m 44 #[.val (.int xa), .val (.int xb), .val (.int xc), .val (.int xd), .val (.long w), .second, .val (.ref b1), .unset, .unset, .unset, .unset, .unset, .unset, .unset] [(.long (255 : Int64)), (.long ((w.toUInt64 >>> ((16 : Int32) &&& 0x3f).toInt64.toUInt64).toInt64)), (.int (2 : Int32)), (.ref b1)])
  refine Go.of (fun _ kz => XS.land X3.here hx rfl (hb hby at_44) rfl kz) ?_
  show Go p e below _ T3 (mkF m 45 #[.val (.int xa), .val (.int xb), .val (.int xc), .val (.int xd), .val (.long w), .second, .val (.ref b1), .unset, .unset, .unset, .unset, .unset, .unset, .unset] [(.long (((w.toUInt64 >>> ((16 : Int32) &&& 0x3f).toInt64.toUInt64).toInt64) &&& (255 : Int64))), (.int (2 : Int32)), (.ref b1)])
  refine Go.of (fun _ kz => XS.l2i X3.here hx rfl (hb hby at_45) rfl kz) ?_
  show Go p e below _ T3 (mkF m 46 #[.val (.int xa), .val (.int xb), .val (.int xc), .val (.int xd), .val (.long w), .second, .val (.ref b1), .unset, .unset, .unset, .unset, .unset, .unset, .unset] [(.int ((((w.toUInt64 >>> ((16 : Int32) &&& 0x3f).toInt64.toUInt64).toInt64) &&& (255 : Int64)).toInt32)), (.int (2 : Int32)), (.ref b1)])
  refine Go.of (fun _ kz => XS.i2c X3.here hx rfl (hb hby at_46) rfl kz) ?_
  show Go p e below _ T3 (mkF m 47 #[.val (.int xa), .val (.int xb), .val (.int xc), .val (.int xd), .val (.long w), .second, .val (.ref b1), .unset, .unset, .unset, .unset, .unset, .unset, .unset] [(.int (((((w.toUInt64 >>> ((16 : Int32) &&& 0x3f).toInt64.toUInt64).toInt64) &&& (255 : Int64)).toInt32).toUInt32.toUInt16.toUInt32.toInt32)), (.int (2 : Int32)), (.ref b1)])
  refine Go.castore X3 hx hZ e3 V3 ⟨by decide, by decide⟩ 2 rfl (Nat.le_of_ble_eq_true rfl) (hb hby at_47) fun T4 h4 X4 e4 W4 V4 => ?_
  have hC := hC.trans (CHr.wr W4 (Safe.arv hZ.alike V3 (by decide)) hC.1)
  have sz4 : h0.size ≤ h4.size := Nat.le_trans sz3 (Keep.of_wr W4).1
  have hk4 : 0 ≤ h4.size := Nat.le_trans hk3 (Keep.of_wr W4).1
  have N4 := Fr.snoc X4 N3 ge_b1
  have V4 : Arv Z h4 b1 k1 .char (6 : Int32) [(.int (nar .char (((w &&& (255 : Int64)).toInt32).toUInt32.toUInt16.toUInt32.toInt32))), (.int (nar .char (((((w.toUInt64 >>> ((8 : Int32) &&& 0x3f).toInt64.toUInt64).toInt64) &&& (255 : Int64)).toInt32).toUInt32.toUInt16.toUInt32.toInt32))), (.int (nar .char (((((w.toUInt64 >>> ((16 : Int32) &&& 0x3f).toInt64.toUInt64).toInt64) &&& (255 : Int64)).toInt32).toUInt32.toUInt16.toUInt32.toInt32))), (.int (0 : Int32)), (.int (0 : Int32)), (.int (0 : Int32))] (.int (0 : Int32)) := V4
  show Go p e below _ T4 (mkF m 48 #[.val (.int xa), .val (.int xb), .val (.int xc), .val (.int xd), .val (.long w), .second, .val (.ref b1), .unset, .unset, .unset, .unset, .unset, .unset, .unset] [])
  refine Go.of (fun _ kz => XS.aload X4.here hx rfl (hb hby at_48) rfl rfl kz) ?_
  show Go p e below _ T4 (mkF m 50 #[.val (.int xa), .val (.int xb), .val (.int xc), .val (.int xd), .val (.long w), .second, .val (.ref b1), .unset, .unset, .unset, .unset, .unset, .unset, .unset] [(.ref b1)])
  refine Go.of (fun _ kz => XS.iconst X4.here hx rfl (hb hby at_50) kz) ?_
  show Go p e below _ T4 (mkF m 51 #[.val (.int xa), .val (.int xb), .val (.int xc), .val (.int xd), .val (.long w), .second, .val (.ref b1), .unset, .unset, .unset, .unset, .unset, .unset, .unset] [(.int (3 : Int32)), (.ref b1)])
  refine Go.of (fun _ kz => XS.lload X4.here hx rfl (hb hby at_51) rfl kz) ?_
  show Go p e below _ T4 (mkF m 53 #[.val (.int xa), .val (.int xb), .val (.int xc), .val (.int xd), .val (.long w), .second, .val (.ref b1), .unset, .unset, .unset, .unset, .unset, .unset, .unset] [(.long w), (.int (3 : Int32)), (.ref b1)])
  refine Go.of (fun _ kz => XS.bipush X4.here hx rfl (hb hby at_53) kz) ?_
  show Go p e below _ T4 (mkF m 55 #[.val (.int xa), .val (.int xb), .val (.int xc), .val (.int xd), .val (.long w), .second, .val (.ref b1), .unset, .unset, .unset, .unset, .unset, .unset, .unset] [(.int (24 : Int32)), (.long w), (.int (3 : Int32)), (.ref b1)])
  refine Go.of (fun _ kz => XS.lushr X4.here hx rfl (hb hby at_55) rfl kz) ?_
  show Go p e below _ T4 (mkF m 56 #[.val (.int xa), .val (.int xb), .val (.int xc), .val (.int xd), .val (.long w), .second, .val (.ref b1), .unset, .unset, .unset, .unset, .unset, .unset, .unset] [(.long ((w.toUInt64 >>> ((24 : Int32) &&& 0x3f).toInt64.toUInt64).toInt64)), (.int (3 : Int32)), (.ref b1)])
  refine Go.of (X4.ldc2Long hx hown (mvT hZ (hw _ (List.mem_of_getElem? (i := 1) rfl))) (g := (mkF m 56 #[.val (.int xa), .val (.int xb), .val (.int xc), .val (.int xd), .val (.long w), .second, .val (.ref b1), .unset, .unset, .unset, .unset, .unset, .unset, .unset] [(.long ((w.toUInt64 >>> ((24 : Int32) &&& 0x3f).toInt64.toUInt64).toInt64)), (.int (3 : Int32)), (.ref b1)])) rfl (hb hby at_56)) ?_
  show Go p e below _ T4 (mkF m 59 #[.val (.int xa), .val (.int xb), .val (.int xc), .val (.int xd), .val (.long w), .second, .val (.ref b1), .unset, .unset, .unset, .unset, .unset, .unset, .unset] [(.long (255 : Int64)), (.long ((w.toUInt64 >>> ((24 : Int32) &&& 0x3f).toInt64.toUInt64).toInt64)), (.int (3 : Int32)), (.ref b1)])
  refine Go.of (fun _ kz => XS.land X4.here hx rfl (hb hby at_59) rfl kz) ?_
  show Go p e below _ T4 (mkF m 60 #[.val (.int xa), .val (.int xb), .val (.int xc), .val (.int xd), .val (.long w), .second, .val (.ref b1), .unset, .unset, .unset, .unset, .unset, .unset, .unset] [(.long (((w.toUInt64 >>> ((24 : Int32) &&& 0x3f).toInt64.toUInt64).toInt64) &&& (255 : Int64))), (.int (3 : Int32)), (.ref b1)])
  refine Go.of (fun _ kz => XS.l2i X4.here hx rfl (hb hby at_60) rfl kz) ?_
  show Go p e below _ T4 (mkF m 61 #[.val (.int xa), .val (.int xb), .val (.int xc), .val (.int xd), .val (.long w), .second, .val (.ref b1), .unset, .unset, .unset, .unset, .unset, .unset, .unset] [(.int ((((w.toUInt64 >>> ((24 : Int32) &&& 0x3f).toInt64.toUInt64).toInt64) &&& (255 : Int64)).toInt32)), (.int (3 : Int32)), (.ref b1)])
  refine Go.of (fun _ kz => XS.i2c X4.here hx rfl (hb hby at_61) rfl kz) ?_
  show Go p e below _ T4 (mkF m 62 #[.val (.int xa), .val (.int xb), .val (.int xc), .val (.int xd), .val (.long w), .second, .val (.ref b1), .unset, .unset, .unset, .unset, .unset, .unset, .unset] [(.int (((((w.toUInt64 >>> ((24 : Int32) &&& 0x3f).toInt64.toUInt64).toInt64) &&& (255 : Int64)).toInt32).toUInt32.toUInt16.toUInt32.toInt32)), (.int (3 : Int32)), (.ref b1)])
  refine Go.castore X4 hx hZ e4 V4 ⟨by decide, by decide⟩ 3 rfl (Nat.le_of_ble_eq_true rfl) (hb hby at_62) fun T5 h5 X5 e5 W5 V5 => ?_
  have hC := hC.trans (CHr.wr W5 (Safe.arv hZ.alike V4 (by decide)) hC.1)
  have sz5 : h0.size ≤ h5.size := Nat.le_trans sz4 (Keep.of_wr W5).1
  have hk5 : 0 ≤ h5.size := Nat.le_trans hk4 (Keep.of_wr W5).1
  have N5 := Fr.snoc X5 N4 ge_b1
  have V5 : Arv Z h5 b1 k1 .char (6 : Int32) [(.int (nar .char (((w &&& (255 : Int64)).toInt32).toUInt32.toUInt16.toUInt32.toInt32))), (.int (nar .char (((((w.toUInt64 >>> ((8 : Int32) &&& 0x3f).toInt64.toUInt64).toInt64) &&& (255 : Int64)).toInt32).toUInt32.toUInt16.toUInt32.toInt32))), (.int (nar .char (((((w.toUInt64 >>> ((16 : Int32) &&& 0x3f).toInt64.toUInt64).toInt64) &&& (255 : Int64)).toInt32).toUInt32.toUInt16.toUInt32.toInt32))), (.int (nar .char (((((w.toUInt64 >>> ((24 : Int32) &&& 0x3f).toInt64.toUInt64).toInt64) &&& (255 : Int64)).toInt32).toUInt32.toUInt16.toUInt32.toInt32))), (.int (0 : Int32)), (.int (0 : Int32))] (.int (0 : Int32)) := V5
  show Go p e below _ T5 (mkF m 63 #[.val (.int xa), .val (.int xb), .val (.int xc), .val (.int xd), .val (.long w), .second, .val (.ref b1), .unset, .unset, .unset, .unset, .unset, .unset, .unset] [])
  refine Go.of (fun _ kz => XS.aload X5.here hx rfl (hb hby at_63) rfl rfl kz) ?_
  show Go p e below _ T5 (mkF m 65 #[.val (.int xa), .val (.int xb), .val (.int xc), .val (.int xd), .val (.long w), .second, .val (.ref b1), .unset, .unset, .unset, .unset, .unset, .unset, .unset] [(.ref b1)])
  refine Go.of (fun _ kz => XS.iconst X5.here hx rfl (hb hby at_65) kz) ?_
  show Go p e below _ T5 (mkF m 66 #[.val (.int xa), .val (.int xb), .val (.int xc), .val (.int xd), .val (.long w), .second, .val (.ref b1), .unset, .unset, .unset, .unset, .unset, .unset, .unset] [(.int (4 : Int32)), (.ref b1)])
  refine Go.of (fun _ kz => XS.lload X5.here hx rfl (hb hby at_66) rfl kz) ?_
  show Go p e below _ T5 (mkF m 68 #[.val (.int xa), .val (.int xb), .val (.int xc), .val (.int xd), .val (.long w), .second, .val (.ref b1), .unset, .unset, .unset, .unset, .unset, .unset, .unset] [(.long w), (.int (4 : Int32)), (.ref b1)])
  refine Go.of (fun _ kz => XS.bipush X5.here hx rfl (hb hby at_68) kz) ?_
  show Go p e below _ T5 (mkF m 70 #[.val (.int xa), .val (.int xb), .val (.int xc), .val (.int xd), .val (.long w), .second, .val (.ref b1), .unset, .unset, .unset, .unset, .unset, .unset, .unset] [(.int (32 : Int32)), (.long w), (.int (4 : Int32)), (.ref b1)])
  refine Go.of (fun _ kz => XS.lushr X5.here hx rfl (hb hby at_70) rfl kz) ?_
  show Go p e below _ T5 (mkF m 71 #[.val (.int xa), .val (.int xb), .val (.int xc), .val (.int xd), .val (.long w), .second, .val (.ref b1), .unset, .unset, .unset, .unset, .unset, .unset, .unset] [(.long ((w.toUInt64 >>> ((32 : Int32) &&& 0x3f).toInt64.toUInt64).toInt64)), (.int (4 : Int32)), (.ref b1)])
  refine Go.of (X5.ldc2Long hx hown (mvT hZ (hw _ (List.mem_of_getElem? (i := 1) rfl))) (g := (mkF m 71 #[.val (.int xa), .val (.int xb), .val (.int xc), .val (.int xd), .val (.long w), .second, .val (.ref b1), .unset, .unset, .unset, .unset, .unset, .unset, .unset] [(.long ((w.toUInt64 >>> ((32 : Int32) &&& 0x3f).toInt64.toUInt64).toInt64)), (.int (4 : Int32)), (.ref b1)])) rfl (hb hby at_71)) ?_
  show Go p e below _ T5 (mkF m 74 #[.val (.int xa), .val (.int xb), .val (.int xc), .val (.int xd), .val (.long w), .second, .val (.ref b1), .unset, .unset, .unset, .unset, .unset, .unset, .unset] [(.long (255 : Int64)), (.long ((w.toUInt64 >>> ((32 : Int32) &&& 0x3f).toInt64.toUInt64).toInt64)), (.int (4 : Int32)), (.ref b1)])
  refine Go.of (fun _ kz => XS.land X5.here hx rfl (hb hby at_74) rfl kz) ?_
  show Go p e below _ T5 (mkF m 75 #[.val (.int xa), .val (.int xb), .val (.int xc), .val (.int xd), .val (.long w), .second, .val (.ref b1), .unset, .unset, .unset, .unset, .unset, .unset, .unset] [(.long (((w.toUInt64 >>> ((32 : Int32) &&& 0x3f).toInt64.toUInt64).toInt64) &&& (255 : Int64))), (.int (4 : Int32)), (.ref b1)])
  refine Go.of (fun _ kz => XS.l2i X5.here hx rfl (hb hby at_75) rfl kz) ?_
  show Go p e below _ T5 (mkF m 76 #[.val (.int xa), .val (.int xb), .val (.int xc), .val (.int xd), .val (.long w), .second, .val (.ref b1), .unset, .unset, .unset, .unset, .unset, .unset, .unset] [(.int ((((w.toUInt64 >>> ((32 : Int32) &&& 0x3f).toInt64.toUInt64).toInt64) &&& (255 : Int64)).toInt32)), (.int (4 : Int32)), (.ref b1)])
  refine Go.of (fun _ kz => XS.i2c X5.here hx rfl (hb hby at_76) rfl kz) ?_
  show Go p e below _ T5 (mkF m 77 #[.val (.int xa), .val (.int xb), .val (.int xc), .val (.int xd), .val (.long w), .second, .val (.ref b1), .unset, .unset, .unset, .unset, .unset, .unset, .unset] [(.int (((((w.toUInt64 >>> ((32 : Int32) &&& 0x3f).toInt64.toUInt64).toInt64) &&& (255 : Int64)).toInt32).toUInt32.toUInt16.toUInt32.toInt32)), (.int (4 : Int32)), (.ref b1)])
  refine Go.castore X5 hx hZ e5 V5 ⟨by decide, by decide⟩ 4 rfl (Nat.le_of_ble_eq_true rfl) (hb hby at_77) fun T6 h6 X6 e6 W6 V6 => ?_
  have hC := hC.trans (CHr.wr W6 (Safe.arv hZ.alike V5 (by decide)) hC.1)
  have sz6 : h0.size ≤ h6.size := Nat.le_trans sz5 (Keep.of_wr W6).1
  have hk6 : 0 ≤ h6.size := Nat.le_trans hk5 (Keep.of_wr W6).1
  have N6 := Fr.snoc X6 N5 ge_b1
  have V6 : Arv Z h6 b1 k1 .char (6 : Int32) [(.int (nar .char (((w &&& (255 : Int64)).toInt32).toUInt32.toUInt16.toUInt32.toInt32))), (.int (nar .char (((((w.toUInt64 >>> ((8 : Int32) &&& 0x3f).toInt64.toUInt64).toInt64) &&& (255 : Int64)).toInt32).toUInt32.toUInt16.toUInt32.toInt32))), (.int (nar .char (((((w.toUInt64 >>> ((16 : Int32) &&& 0x3f).toInt64.toUInt64).toInt64) &&& (255 : Int64)).toInt32).toUInt32.toUInt16.toUInt32.toInt32))), (.int (nar .char (((((w.toUInt64 >>> ((24 : Int32) &&& 0x3f).toInt64.toUInt64).toInt64) &&& (255 : Int64)).toInt32).toUInt32.toUInt16.toUInt32.toInt32))), (.int (nar .char (((((w.toUInt64 >>> ((32 : Int32) &&& 0x3f).toInt64.toUInt64).toInt64) &&& (255 : Int64)).toInt32).toUInt32.toUInt16.toUInt32.toInt32))), (.int (0 : Int32))] (.int (0 : Int32)) := V6
  show Go p e below _ T6 (mkF m 78 #[.val (.int xa), .val (.int xb), .val (.int xc), .val (.int xd), .val (.long w), .second, .val (.ref b1), .unset, .unset, .unset, .unset, .unset, .unset, .unset] [])
  refine Go.of (fun _ kz => XS.aload X6.here hx rfl (hb hby at_78) rfl rfl kz) ?_
  show Go p e below _ T6 (mkF m 80 #[.val (.int xa), .val (.int xb), .val (.int xc), .val (.int xd), .val (.long w), .second, .val (.ref b1), .unset, .unset, .unset, .unset, .unset, .unset, .unset] [(.ref b1)])
  refine Go.of (fun _ kz => XS.iconst X6.here hx rfl (hb hby at_80) kz) ?_
  show Go p e below _ T6 (mkF m 81 #[.val (.int xa), .val (.int xb), .val (.int xc), .val (.int xd), .val (.long w), .second, .val (.ref b1), .unset, .unset, .unset, .unset, .unset, .unset, .unset] [(.int (5 : Int32)), (.ref b1)])
  refine Go.of (fun _ kz => XS.lload X6.here hx rfl (hb hby at_81) rfl kz) ?_
  show Go p e below _ T6 (mkF m 83 #[.val (.int xa), .val (.int xb), .val (.int xc), .val (.int xd), .val (.long w), .second, .val (.ref b1), .unset, .unset, .unset, .unset, .unset, .unset, .unset] [(.long w), (.int (5 : Int32)), (.ref b1)])
  refine Go.of (fun _ kz => XS.bipush X6.here hx rfl (hb hby at_83) kz) ?_
  show Go p e below _ T6 (mkF m 85 #[.val (.int xa), .val (.int xb), .val (.int xc), .val (.int xd), .val (.long w), .second, .val (.ref b1), .unset, .unset, .unset, .unset, .unset, .unset, .unset] [(.int (40 : Int32)), (.long w), (.int (5 : Int32)), (.ref b1)])
  refine Go.of (fun _ kz => XS.lushr X6.here hx rfl (hb hby at_85) rfl kz) ?_
  show Go p e below _ T6 (mkF m 86 #[.val (.int xa), .val (.int xb), .val (.int xc), .val (.int xd), .val (.long w), .second, .val (.ref b1), .unset, .unset, .unset, .unset, .unset, .unset, .unset] [(.long ((w.toUInt64 >>> ((40 : Int32) &&& 0x3f).toInt64.toUInt64).toInt64)), (.int (5 : Int32)), (.ref b1)])
  refine Go.of (X6.ldc2Long hx hown (mvT hZ (hw _ (List.mem_of_getElem? (i := 1) rfl))) (g := (mkF m 86 #[.val (.int xa), .val (.int xb), .val (.int xc), .val (.int xd), .val (.long w), .second, .val (.ref b1), .unset, .unset, .unset, .unset, .unset, .unset, .unset] [(.long ((w.toUInt64 >>> ((40 : Int32) &&& 0x3f).toInt64.toUInt64).toInt64)), (.int (5 : Int32)), (.ref b1)])) rfl (hb hby at_86)) ?_
  show Go p e below _ T6 (mkF m 89 #[.val (.int xa), .val (.int xb), .val (.int xc), .val (.int xd), .val (.long w), .second, .val (.ref b1), .unset, .unset, .unset, .unset, .unset, .unset, .unset] [(.long (255 : Int64)), (.long ((w.toUInt64 >>> ((40 : Int32) &&& 0x3f).toInt64.toUInt64).toInt64)), (.int (5 : Int32)), (.ref b1)])
  refine Go.of (fun _ kz => XS.land X6.here hx rfl (hb hby at_89) rfl kz) ?_
  show Go p e below _ T6 (mkF m 90 #[.val (.int xa), .val (.int xb), .val (.int xc), .val (.int xd), .val (.long w), .second, .val (.ref b1), .unset, .unset, .unset, .unset, .unset, .unset, .unset] [(.long (((w.toUInt64 >>> ((40 : Int32) &&& 0x3f).toInt64.toUInt64).toInt64) &&& (255 : Int64))), (.int (5 : Int32)), (.ref b1)])
  refine Go.of (fun _ kz => XS.l2i X6.here hx rfl (hb hby at_90) rfl kz) ?_
  show Go p e below _ T6 (mkF m 91 #[.val (.int xa), .val (.int xb), .val (.int xc), .val (.int xd), .val (.long w), .second, .val (.ref b1), .unset, .unset, .unset, .unset, .unset, .unset, .unset] [(.int ((((w.toUInt64 >>> ((40 : Int32) &&& 0x3f).toInt64.toUInt64).toInt64) &&& (255 : Int64)).toInt32)), (.int (5 : Int32)), (.ref b1)])
  refine Go.of (fun _ kz => XS.i2c X6.here hx rfl (hb hby at_91) rfl kz) ?_
  show Go p e below _ T6 (mkF m 92 #[.val (.int xa), .val (.int xb), .val (.int xc), .val (.int xd), .val (.long w), .second, .val (.ref b1), .unset, .unset, .unset, .unset, .unset, .unset, .unset] [(.int (((((w.toUInt64 >>> ((40 : Int32) &&& 0x3f).toInt64.toUInt64).toInt64) &&& (255 : Int64)).toInt32).toUInt32.toUInt16.toUInt32.toInt32)), (.int (5 : Int32)), (.ref b1)])
  refine Go.castore X6 hx hZ e6 V6 ⟨by decide, by decide⟩ 5 rfl (Nat.le_of_ble_eq_true rfl) (hb hby at_92) fun T7 h7 X7 e7 W7 V7 => ?_
  have hC := hC.trans (CHr.wr W7 (Safe.arv hZ.alike V6 (by decide)) hC.1)
  have sz7 : h0.size ≤ h7.size := Nat.le_trans sz6 (Keep.of_wr W7).1
  have hk7 : 0 ≤ h7.size := Nat.le_trans hk6 (Keep.of_wr W7).1
  have N7 := Fr.snoc X7 N6 ge_b1
  have V7 : Arv Z h7 b1 k1 .char (6 : Int32) [(.int (nar .char (((w &&& (255 : Int64)).toInt32).toUInt32.toUInt16.toUInt32.toInt32))), (.int (nar .char (((((w.toUInt64 >>> ((8 : Int32) &&& 0x3f).toInt64.toUInt64).toInt64) &&& (255 : Int64)).toInt32).toUInt32.toUInt16.toUInt32.toInt32))), (.int (nar .char (((((w.toUInt64 >>> ((16 : Int32) &&& 0x3f).toInt64.toUInt64).toInt64) &&& (255 : Int64)).toInt32).toUInt32.toUInt16.toUInt32.toInt32))), (.int (nar .char (((((w.toUInt64 >>> ((24 : Int32) &&& 0x3f).toInt64.toUInt64).toInt64) &&& (255 : Int64)).toInt32).toUInt32.toUInt16.toUInt32.toInt32))), (.int (nar .char (((((w.toUInt64 >>> ((32 : Int32) &&& 0x3f).toInt64.toUInt64).toInt64) &&& (255 : Int64)).toInt32).toUInt32.toUInt16.toUInt32.toInt32))), (.int (nar .char (((((w.toUInt64 >>> ((40 : Int32) &&& 0x3f).toInt64.toUInt64).toInt64) &&& (255 : Int64)).toInt32).toUInt32.toUInt16.toUInt32.toInt32)))] (.int (0 : Int32)) := V7
  show Go p e below _ T7 (mkF m 93 #[.val (.int xa), .val (.int xb), .val (.int xc), .val (.int xd), .val (.long w), .second, .val (.ref b1), .unset, .unset, .unset, .unset, .unset, .unset, .unset] [])
  refine Go.of (fun _ kz => XS.iloadN X7.here hx rfl (hb hby at_93) rfl kz) ?_
  show Go p e below _ T7 (mkF m 94 #[.val (.int xa), .val (.int xb), .val (.int xc), .val (.int xd), .val (.long w), .second, .val (.ref b1), .unset, .unset, .unset, .unset, .unset, .unset, .unset] [(.int xa)])
  refine Go.of (fun _ kz => XS.iconst X7.here hx rfl (hb hby at_94) kz) ?_
  show Go p e below _ T7 (mkF m 95 #[.val (.int xa), .val (.int xb), .val (.int xc), .val (.int xd), .val (.long w), .second, .val (.ref b1), .unset, .unset, .unset, .unset, .unset, .unset, .unset] [(.int (3 : Int32)), (.int xa)])
  refine Go.of (fun _ kz => XS.iand X7.here hx rfl (hb hby at_95) rfl kz) ?_
  show Go p e below _ T7 (mkF m 96 #[.val (.int xa), .val (.int xb), .val (.int xc), .val (.int xd), .val (.long w), .second, .val (.ref b1), .unset, .unset, .unset, .unset, .unset, .unset, .unset] [(.int (xa &&& (3 : Int32)))])
  refine Go.of (fun _ kz => XS.istore X7.here hx rfl (hb hby at_96) rfl (l' := #[.val (.int xa), .val (.int xb), .val (.int xc), .val (.int xd), .val (.long w), .second, .val (.ref b1), .val (.int (xa &&& (3 : Int32))), .unset, .unset, .unset, .unset, .unset, .unset]) rfl kz) ?_
  show Go p e below _ T7 (mkF m 98 #[.val (.int xa), .val (.int xb), .val (.int xc), .val (.int xd), .val (.long w), .second, .val (.ref b1), .val (.int (xa &&& (3 : Int32))), .unset, .unset, .unset, .unset, .unset, .unset] [])
  exact own_B l Z a0 hw p e s _ m _ below meth c _ _ _ _ _ xa xb xc xd w b1 _ _ _ _ _ _ _ _ cz vals mA fA nM nF bM bF oE kv kM kF hx hZ hby hml hown hret hlk hS hk7 hs0 hC (X7.mono (by decide) (by decide)) e7 N7 sz7 (((((((OZ.ext E1).wr W2 ge_b1).wr W3 ge_b1).wr W4 ge_b1).wr W5 ge_b1).wr W6 ge_b1).wr W7 ge_b1) V7 (own_rJ _) (own_rJ _) (own_rJ _) (own_rJ _) (own_rJ _) (own_rJ _) ge_b1 SB hz SV VV EV SM SF EM EF NM NF EnM CnM WnM AnM EnF CnF WnF AnF SE EE FE
set_option maxRecDepth 65536 in
set_option maxHeartbeats 40000000 in
theorem comes_1 {Post : Tables → Env → Array Value → State → Outcome → State → Prop} (hpost : ∀ tb e args s v u, (limb_1_1.after args s (.returned v) u = true ∧ limb_1_2.after args s (.returned v) u = true ∧ True) → ReturnedEndW s (.returned v) u (Jvm.fieldLocs frame_1_writes args s ++ Jvm.arrayLocs frame_1_arrays args s ++ Jvm.staticLocs frame_1_statics s) 32 3200 → Post tb e args s (.returned v) u) :
    ArmFor flags0 classFile x code maxLocals ret World_1 tables_1 room_1 Calls_1 rest_1 Pre_1 Post := by
  intro l hfl _ _ p e ha hc hk s m args below hf hA hF happ hP
  obtain ⟨hcalls, hrest, hpre⟩ := hP
  obtain ⟨-, -, -, hnamed, -, -, -, hat⟩ := (Spec.applies_iff hf).mp happ
  obtain ⟨hg, hn⟩ := and_e (Cond.before_iff.mp (show (Jvm.Cond.and given_1 narrow_1).before args s = true from hpre))
  obtain ⟨g0, gg0⟩ := and_e hg
  obtain ⟨ga0, gg1⟩ := and_e gg0
  obtain ⟨ga1, gg2⟩ := and_e gg1
  obtain ⟨ga2, gg3⟩ := and_e gg2
  obtain ⟨ga3, gg4⟩ := and_e gg3
  have ga4 := gg4
  obtain ⟨w0, w1, w2, w3, w4, rfl⟩ : ∃ w0 w1 w2 w3 w4 : Value, args = #[w0, w1, w2, w3, w4] := by
    have hs : args.size = 5 := by simpa [Cond.value, given_1] using g0
    obtain ⟨L⟩ := args
    match L, hs with
    | [w0, w1, w2, w3, w4], _ => exact ⟨w0, w1, w2, w3, w4, rfl⟩
  have hw := fun d (hd : d ∈ tables_1) => atoms_spec (ws := Jvm.Cond.code x code maxLocals ret :: tables_1) hat d (List.mem_cons_of_mem _ hd)
  have hfit : Fit s := fun {y c} hc i hi => by
    obtain ⟨ha, rfl⟩ := Array.getElem?_eq_some_iff.mp hc
    have q := List.all_eq_true.mp ((Array.all_eq_true_iff_forall_mem.mp hF) _ (Array.getElem_mem ha)) i (List.mem_range.mpr hi)
    simpa [Array.getElem?_eq_getElem hi] using q
  obtain ⟨i0, ei0⟩ := is_v ga0
  obtain rfl : w0 = (.int i0) := Option.some.inj ei0
  obtain ⟨i1, ei1⟩ := is_v ga1
  obtain rfl : w1 = (.int i1) := Option.some.inj ei1
  obtain ⟨i2, ei2⟩ := is_v ga2
  obtain rfl : w2 = (.int i2) := Option.some.inj ei2
  obtain ⟨i3, ei3⟩ := is_v ga3
  obtain rfl : w3 = (.int i3) := Option.some.inj ei3
  obtain ⟨i4, ei4⟩ := isL_v ga4
  obtain rfl : w4 = (.long i4) := Option.some.inj ei4
  obtain ⟨hsets, hown0⟩ := atoms_of _ (rest_1_c_eq ▸ (show rest_1_c.before _ s = true from hrest))
  have n3 := not_v (Cond.before_iff.mp (hsets _ (List.mem_of_getElem? (i := 2) rfl)))
  obtain ⟨cz, e6⟩ := is_v (Cond.before_iff.mp (hsets _ (List.mem_of_getElem? (i := 1) rfl)))
  have SB : Sta s s.heap "java/lang/String" "COMPACT_STRINGS" "Z" (.int cz) := Sta.start e6 (Or.inl (hsets _ (List.mem_of_getElem? (i := 0) rfl)))
  have hz : ¬ (cz = (0 : Int32)) := gotF (Cond.eq_ints e6 (Term.int_eval (0))) n3
  have hCH : CHv s consts_1 s.vm s.heap := CHv.start (own_EW s _ hw) (fun p hp => hcalls.1 p hp) (hsets _ (List.mem_of_getElem? (i := 2) rfl)) (hw _ (List.mem_of_getElem? (i := 25) rfl)) (hw _ (List.mem_of_getElem? (i := 4) rfl))
  obtain ⟨oE, eoE⟩ := exa_v (Cond.before_iff.mp (hsets _ (List.mem_of_getElem? (i := 11) rfl)))
  have EE := Exa.start eoE (Cond.before_iff.mp (hsets _ (List.mem_of_getElem? (i := 11) rfl)))
  have SE : Sta s s.heap "java/util/Optional" "EMPTY" "Ljava/util/Optional;" (.ref oE) := Sta.start eoE (Or.inl (hsets _ (List.mem_of_getElem? (i := 10) rfl)))
  have FE := own_fldR eoE (null_v (Cond.before_iff.mp (hsets _ (List.mem_of_getElem? (i := 12) rfl))))
  obtain ⟨m0, hn⟩ := and_e hn
  obtain ⟨m1, hn⟩ := and_e hn
  obtain ⟨m2, hn⟩ := and_e hn
  obtain ⟨m3, hn⟩ := and_e hn
  obtain ⟨m4, hn⟩ := and_e hn
  obtain ⟨m5, hn⟩ := and_e hn
  obtain ⟨m6, hn⟩ := and_e hn
  obtain ⟨m7, hn⟩ := and_e hn
  obtain ⟨m8, hn⟩ := and_e hn
  obtain ⟨m9, hn⟩ := and_e hn
  obtain ⟨m10, hn⟩ := and_e hn
  obtain ⟨m11, hn⟩ := and_e hn
  obtain ⟨m12, hn⟩ := and_e hn
  obtain ⟨m13, hn⟩ := and_e hn
  obtain ⟨m14, hn⟩ := and_e hn
  obtain ⟨m15, hn⟩ := and_e hn
  obtain ⟨m16, hn⟩ := and_e hn
  obtain ⟨m17, hn⟩ := and_e hn
  obtain ⟨m18, hn⟩ := and_e hn
  obtain ⟨m19, hn⟩ := and_e hn
  obtain ⟨m20, hn⟩ := and_e hn
  obtain ⟨m21, hn⟩ := and_e hn
  obtain ⟨m22, hn⟩ := and_e hn
  obtain ⟨m23, hn⟩ := and_e hn
  have m24 := hn
  obtain ⟨vals, evals⟩ := arr_v m0
  obtain ⟨cv, AV⟩ := Arr.start evals m0
  have EV := Exa.start evals m1
  have lV : cv.slots.size < 2 ^ 31 ∧ cv.slots.size.toInt32 = 2 := own_len evals AV m2
  obtain ⟨mA, emA⟩ := exa_v m3
  have EM := Exa.start emA m3
  have el0 := own_elemR evals emA AV m4
  obtain ⟨fA, efA⟩ := exa_v m5
  have EF := Exa.start efA m5
  have el1 := own_elemR evals efA AV m6
  have VV : Arv s s.heap vals cv.cls (.object "com/example/vestry/vestry/engine/Sex") 2 [.ref mA, .ref fA] .null := Arv.start hfit AV lV.1 lV.2 (by decide) rfl ⟨el0, el1, trivial⟩
  have SV := Sta.start evals (Or.inl (hw _ (List.mem_of_getElem? (i := 54) rfl)))
  have SM := Sta.start emA (Or.inr ⟨(hw _ (List.mem_of_getElem? (i := 38) rfl)), (hw _ (List.mem_of_getElem? (i := 52) rfl))⟩)
  have SF := Sta.start efA (Or.inr ⟨(hw _ (List.mem_of_getElem? (i := 38) rfl)), (hw _ (List.mem_of_getElem? (i := 53) rfl))⟩)
  obtain ⟨nM, enM⟩ := exa_v m7
  have EnM := Exa.start enM m7
  have NM := own_fldR emA enM
  have CnM := own_fldI enM m8
  obtain ⟨bM, ebM⟩ := arr_v m9
  obtain ⟨cbM, ABM⟩ := Arr.start ebM m9
  have WnM := own_fldR enM ebM
  have lnM : cbM.slots.size < 2 ^ 31 ∧ cbM.slots.size.toInt32 = 4 := own_len ebM ABM m10
  obtain ⟨nF, enF⟩ := exa_v m11
  have EnF := Exa.start enF m11
  have NF := own_fldR efA enF
  have CnF := own_fldI enF m12
  obtain ⟨bF, ebF⟩ := arr_v m13
  obtain ⟨cbF, ABF⟩ := Arr.start ebF m13
  have WnF := own_fldR enF ebF
  have lnF : cbF.slots.size < 2 ^ 31 ∧ cbF.slots.size.toInt32 = 6 := own_len ebF ABF m14
  have AnM : Arv s s.heap bM cbM.cls .byte 4 [.int 109, .int 97, .int 108, .int 101] (.int 0) := Arv.start hfit ABM lnM.1 lnM.2 (by decide) rfl ⟨own_elem ebM ABM m15, own_elem ebM ABM m16, own_elem ebM ABM m17, own_elem ebM ABM m18, trivial⟩
  have AnF : Arv s s.heap bF cbF.cls .byte 6 [.int 102, .int 101, .int 109, .int 97, .int 108, .int 101] (.int 0) := Arv.start hfit ABF lnF.1 lnF.2 (by decide) rfl ⟨own_elem ebF ABF m19, own_elem ebF ABF m20, own_elem ebF ABF m21, own_elem ebF ABF m22, own_elem ebF ABF m23, own_elem ebF ABF m24, trivial⟩
  obtain ⟨n, o, h1, h2, h3, _, L, rfl, ⟨rfl, N⟩, -, hq⟩ := rm0 l s _ hw tables_1 i0 i1 i2 i3 i4 cz vals mA fA nM nF bM bF oE cv.cls cbM.cls cbF.cls s.heap (Old.start s) SB hz SV VV EV SM SF EM EF NM NF EnM CnM WnM AnM EnF CnF WnF AnF SE EE FE p e ha hc hk s m _ below hf ((Spec.applies_iff_loose hf).mp happ).1 ⟨rfl, State.Warmed39.refl s, rfl, hCH⟩ trivial
  refine ⟨n, _, h1, h2, h3, hpost _ _ _ _ _ _ ⟨Cond.after_iff.mpr rfl, Cond.after_iff.mpr (eq_i res_at (Term.int_eval (1)) rfl), trivial⟩ ⟨hq.1, hq.2.1, hq.2.2.1, (hq.2.2.2.sift fun y hy => Or.inr (N y hy)).mono (by decide) (by decide)⟩⟩
theorem main_1_1 : Claimed_1_1 := comes_1 fun _ _ _ _ _ _ h hF => ⟨h.1, hF⟩
theorem main_1_2 : Claimed_1_2 := comes_1 fun _ _ _ _ _ _ h hF => ⟨h.2.1, hF⟩
end Jvm.Pilot.@@N@@
namespace Jvm.Pilot.@@N@@
open Jvm Jvm.ClassFile Sem Op Lib Jvm.Free Jvm.Stand Jvm.Pilot.@@N@@.Jvm.D
/-! MADE BY PROGRAM (witnessworld.py) out of the Statement's table words and the real class files: 23 classes; the members and pool entries that the words name. The judged class is class 1, her method 2. -/
namespace start1
open Jvm.ClassFile
def u (s : String) : CpInfo := .utf8 (stringToUtf16 s)
/-- a pool by its gaps: so many unusable entries, then the entry; so many at the end -/
def gap : Nat → List CpInfo → List CpInfo
  | 0, r => r
  | n + 1, r => .unusable :: gap n r
def poolList (es : List (Nat × CpInfo)) (last : Nat) : List CpInfo := es.foldr (fun e r => gap e.1 (e.2 :: r)) (gap last [])
def pool (es : List (Nat × CpInfo)) (last : Nat) : Array CpInfo := ⟨poolList es last⟩
def fileOf (pool : Array CpInfo) (this : Nat) (attrs : Array Attribute := #[]) (ms : Array MethodInfo := #[]) (fl : Nat := 33) (sup : Nat := 0) (ifs : Array Nat := #[]) (fds : Array FieldInfo := #[]) : ClassFile where
  minorVersion := 0
  majorVersion := 65
  constantPool := pool
  accessFlags := fl
  thisClass := this
  superClass := sup
  interfaces := ifs
  fields := fds
  methods := ms
  attributes := attrs
def plain (name : String) (sup : Option ClassId) : Class where
  name := name
  kind := .ordinary
  loader := none
  accessFlags := 33
  super := sup
  interfaces := #[]
  cf := none
  fields := #[]
  methods := #[]
  instanceTypes := #[]
  staticTypes := #[]
  resolved := #[]
  callSites := []
  init := .initialized
  statics := none
  mirror := none

def pool0 : Array CpInfo := pool [(5, u "<init>"), (0, u "()V"), (1, .class_ 10), (1, u "java/lang/Object"), (85, u "clone"), (0, u "()Ljava/lang/Object;")] 26

def k0c0 : Code := { maxStack := 0, maxLocals := 1, code := object_method_1_code, exceptionTable := #[], attributes := #[] }
def k0m0 : Method := { name := "<init>", desc := "()V", sig := { parameters := [], returnType := none }, accessFlags := 1, code := some k0c0 }
def k0m1 : Method := { name := "clone", desc := "()Ljava/lang/Object;", sig := { parameters := [], returnType := some (.object "java/lang/Object") }, accessFlags := 260, code := none }
/-- java/lang/Object -/
def k0 : Class := { plain "java/lang/Object" none with
  accessFlags := 33
  interfaces := #[]
  cf := some (fileOf pool0 8 #[] #[{ accessFlags := 1, nameIndex := 5, descriptorIndex := 6, attributes := #[] }, { accessFlags := 260, nameIndex := 96, descriptorIndex := 97, attributes := #[] }] 33 0 #[] #[])
  fields := #[]
  methods := #[k0m0, k0m1]
  instanceTypes := #[]
  staticTypes := #[]
  resolved := Array.replicate 124 none
  statics := none }

def pool1 : Array CpInfo := pool [(2, .class_ 4), (1, u "java/lang/Object"), (0, u "<init>"), (0, u "()V"), (0, .long 255), (1, .integer 2147483647), (0, .class_ 11), (0, u "java/lang/String"), (0, .methodref 13 14), (0, .class_ 15), (0, .nameAndType 16 17), (0, u "com/example/vestry/vestry/engine/SexNamedPinLaw"), (0, u "prefix"), (0, u "([CI)[C"), (0, .methodref 10 19), (0, .nameAndType 5 20), (0, u "([C)V"), (0, .methodref 22 23), (0, .class_ 24), (0, .nameAndType 25 26), (0, u "com/example/vestry/vestry/engine/Sex"), (0, u "named"), (0, u "(Ljava/lang/String;)Ljava/util/Optional;"), (0, .methodref 28 29), (0, .class_ 30), (0, .nameAndType 31 32), (0, u "java/util/Optional"), (0, u "isPresent"), (0, u "()Z"), (0, .methodref 28 34), (0, .nameAndType 35 36), (0, u "get"), (0, u "()Ljava/lang/Object;"), (0, .string 38), (0, u "male"), (0, .methodref 10 40), (0, .nameAndType 41 42), (0, u "equals"), (0, u "(Ljava/lang/Object;)Z"), (0, .fieldref 22 44), (0, .nameAndType 45 46), (0, u "MALE"), (0, u "Lcom/example/vestry/vestry/engine/Sex;"), (0, .string 48), (0, u "female"), (0, .fieldref 22 50), (0, .nameAndType 51 46), (0, u "FEMALE"), (3, u "law"), (0, u "(IIIIJ)Z")] 4

def k1m0 : Method := { name := "<init>", desc := "()V", sig := { parameters := [], returnType := none }, accessFlags := 1, code := none }
def k1c1 : Code := { maxStack := 5, maxLocals := 2, code := method_2_code, exceptionTable := #[], attributes := #[] }
def k1m1 : Method := { name := "prefix", desc := "([CI)[C", sig := { parameters := [(.array .char), .int], returnType := some (.array .char) }, accessFlags := 10, code := some k1c1 }
def k1c2 : Code := { maxStack := 6, maxLocals := 14, code := code, exceptionTable := #[], attributes := #[] }
def k1m2 : Method := { name := "law", desc := "(IIIIJ)Z", sig := { parameters := [.int, .int, .int, .int, .long], returnType := some .boolean }, accessFlags := 9, code := some k1c2 }
/-- com/example/vestry/vestry/engine/SexNamedPinLaw -/
def k1 : Class := { plain "com/example/vestry/vestry/engine/SexNamedPinLaw" (some 0) with
  accessFlags := 49
  interfaces := #[]
  cf := some (fileOf pool1 13 #[] #[{ accessFlags := 1, nameIndex := 5, descriptorIndex := 6, attributes := #[] }, { accessFlags := 10, nameIndex := 16, descriptorIndex := 17, attributes := #[] }, { accessFlags := 9, nameIndex := 55, descriptorIndex := 56, attributes := #[] }] 49 2 #[] #[])
  fields := #[]
  methods := #[k1m0, k1m1, k1m2]
  instanceTypes := #[]
  staticTypes := #[]
  resolved := Array.replicate 61 none
  statics := none }

def pool2 : Array CpInfo := pool [(1, .class_ 2), (0, u "java/io/Serializable"), (0, .class_ 4), (0, u "java/lang/Object")] 2

/-- java/io/Serializable -/
def k2 : Class := { plain "java/io/Serializable" (some 0) with
  accessFlags := 1537
  interfaces := #[]
  cf := some (fileOf pool2 1 #[] #[] 1537 3 #[] #[])
  fields := #[]
  methods := #[]
  instanceTypes := #[]
  staticTypes := #[]
  resolved := Array.replicate 7 none
  statics := none }

def pool3 : Array CpInfo := pool [(1, .class_ 2), (0, u "java/lang/Comparable"), (0, .class_ 4), (0, u "java/lang/Object")] 7

/-- java/lang/Comparable -/
def k3 : Class := { plain "java/lang/Comparable" (some 0) with
  accessFlags := 1537
  interfaces := #[]
  cf := some (fileOf pool3 1 #[] #[] 1537 3 #[] #[])
  fields := #[]
  methods := #[]
  instanceTypes := #[]
  staticTypes := #[]
  resolved := Array.replicate 12 none
  statics := none }

def pool4 : Array CpInfo := pool [(2, .class_ 4), (1, u "java/lang/CharSequence"), (42, .class_ 48), (0, u "java/lang/CharSequence$1CodePointIterator"), (10, .class_ 60), (0, u "java/lang/CharSequence$1CharIterator"), (5, .class_ 67), (0, u "java/lang/Object")] 63

/-- java/lang/CharSequence -/
def k4 : Class := { plain "java/lang/CharSequence" (some 0) with
  accessFlags := 1537
  interfaces := #[]
  cf := some (fileOf pool4 2 #[.nestMembers #[47, 59]] #[] 1537 66 #[] #[])
  fields := #[]
  methods := #[]
  instanceTypes := #[]
  staticTypes := #[]
  resolved := Array.replicate 131 none
  statics := none }

def pool5 : Array CpInfo := pool [(1, .class_ 2), (0, u "java/lang/constant/Constable"), (0, .class_ 4), (0, u "java/lang/Object")] 6

/-- java/lang/constant/Constable -/
def k5 : Class := { plain "java/lang/constant/Constable" (some 0) with
  accessFlags := 1537
  interfaces := #[]
  cf := some (fileOf pool5 1 #[] #[] 1537 3 #[] #[])
  fields := #[]
  methods := #[]
  instanceTypes := #[]
  staticTypes := #[]
  resolved := Array.replicate 11 none
  statics := none }

def pool6 : Array CpInfo := pool [(1, .class_ 2), (0, u "java/lang/constant/ConstantDesc"), (0, .class_ 4), (0, u "java/lang/Object")] 32

/-- java/lang/constant/ConstantDesc -/
def k6 : Class := { plain "java/lang/constant/ConstantDesc" (some 0) with
  accessFlags := 1537
  interfaces := #[]
  cf := some (fileOf pool6 1 #[] #[] 1537 3 #[] #[])
  fields := #[]
  methods := #[]
  instanceTypes := #[]
  staticTypes := #[]
  resolved := Array.replicate 37 none
  statics := none }

def pool7 : Array CpInfo := pool [(1, .methodref 2 3), (0, .class_ 4), (0, .nameAndType 5 6), (0, u "java/lang/Object"), (0, u "<init>"), (0, u "()V"), (0, .string 8), (0, u ""), (0, .fieldref 10 11), (0, .class_ 12), (0, .nameAndType 13 14), (0, u "java/lang/String"), (0, u "value"), (0, u "[B"), (0, .fieldref 10 16), (0, .nameAndType 17 18), (0, u "coder"), (0, u "B"), (2, u "hash"), (0, u "I"), (2, u "hashIsZero"), (0, u "Z"), (0, .methodref 10 28), (0, .nameAndType 5 29), (0, u "([CIILjava/lang/Void;)V"), (8, .fieldref 10 39), (0, .nameAndType 40 26), (0, u "COMPACT_STRINGS"), (1, .class_ 44), (1, u "java/lang/StringUTF16"), (0, u "compress"), (1, .methodref 42 48), (0, .nameAndType 49 50), (0, u "coderFromArrayLen"), (0, u "([BI)B"), (56, .class_ 109), (1, u "java/lang/StringLatin1"), (67, .methodref 42 178), (0, .nameAndType 45 179), (0, u "([CII)[B"), (361, .methodref 107 542), (0, .nameAndType 543 544), (0, u "equals"), (0, u "([B[B)Z"), (28, u "(Ljava/lang/Object;)Z"), (1, .class_ 576), (0, u "java/lang/CharSequence"), (22, u "CASE_INSENSITIVE_ORDER"), (0, u "Ljava/util/Comparator;"), (409, u "([C)V"), (90, u "serialPersistentFields"), (0, u "[Ljava/io/ObjectStreamField;"), (0, .class_ 1104), (0, u "java/lang/String$CaseInsensitiveComparator"), (1, .class_ 1107), (0, u "java/io/Serializable"), (0, .class_ 1109), (0, u "java/lang/Comparable"), (0, .class_ 1111), (0, u "java/lang/constant/Constable"), (0, .class_ 1113), (0, u "java/lang/constant/ConstantDesc"), (2, u "serialVersionUID"), (0, u "J"), (3, u "REPL"), (0, u "C"), (2, u "LATIN1"), (1, u "UTF16")] 323

def k7m0 : Method := { name := "<init>", desc := "()V", sig := { parameters := [], returnType := none }, accessFlags := 1, code := none }
def k7c1 : Code := { maxStack := 5, maxLocals := 2, code := jdk_42_method_3_code, exceptionTable := #[], attributes := #[] }
def k7m1 : Method := { name := "<init>", desc := "([C)V", sig := { parameters := [(.array .char)], returnType := none }, accessFlags := 1, code := some k7c1 }
def k7c2 : Code := { maxStack := 2, maxLocals := 3, code := jdk_42_method_66_code, exceptionTable := #[], attributes := #[] }
def k7m2 : Method := { name := "equals", desc := "(Ljava/lang/Object;)Z", sig := { parameters := [(.object "java/lang/Object")], returnType := some .boolean }, accessFlags := 1, code := some k7c2 }
def k7c3 : Code := { maxStack := 4, maxLocals := 6, code := jdk_42_method_149_code, exceptionTable := #[], attributes := #[] }
def k7m3 : Method := { name := "<init>", desc := "([CIILjava/lang/Void;)V", sig := { parameters := [(.array .char), .int, .int, (.object "java/lang/Void")], returnType := none }, accessFlags := 2, code := some k7c3 }
/-- java/lang/String -/
def k7 : Class := { plain "java/lang/String" (some 0) with
  accessFlags := 49
  interfaces := #[2, 3, 4, 5, 6]
  cf := some (fileOf pool7 10 #[.nestMembers #[1103]] #[{ accessFlags := 1, nameIndex := 5, descriptorIndex := 6, attributes := #[] }, { accessFlags := 1, nameIndex := 5, descriptorIndex := 1010, attributes := #[] }, { accessFlags := 1, nameIndex := 543, descriptorIndex := 573, attributes := #[] }, { accessFlags := 2, nameIndex := 5, descriptorIndex := 29, attributes := #[] }] 49 2 #[1106, 1108, 575, 1110, 1112] #[{ accessFlags := 18, nameIndex := 13, descriptorIndex := 14, attributes := #[] }, { accessFlags := 18, nameIndex := 17, descriptorIndex := 18, attributes := #[] }, { accessFlags := 2, nameIndex := 21, descriptorIndex := 22, attributes := #[] }, { accessFlags := 2, nameIndex := 25, descriptorIndex := 26, attributes := #[] }, { accessFlags := 26, nameIndex := 1116, descriptorIndex := 1117, attributes := #[] }, { accessFlags := 24, nameIndex := 40, descriptorIndex := 26, attributes := #[] }, { accessFlags := 26, nameIndex := 1101, descriptorIndex := 1102, attributes := #[] }, { accessFlags := 26, nameIndex := 1121, descriptorIndex := 1122, attributes := #[] }, { accessFlags := 25, nameIndex := 599, descriptorIndex := 600, attributes := #[] }, { accessFlags := 24, nameIndex := 1125, descriptorIndex := 18, attributes := #[] }, { accessFlags := 24, nameIndex := 1127, descriptorIndex := 18, attributes := #[] }])
  fields := #[{ name := "value", type := (.array .byte), accessFlags := 18, slot := 0, constantValue := 0 }, { name := "coder", type := .byte, accessFlags := 18, slot := 1, constantValue := 0 }, { name := "hash", type := .int, accessFlags := 2, slot := 2, constantValue := 0 }, { name := "hashIsZero", type := .boolean, accessFlags := 2, slot := 3, constantValue := 0 }, { name := "serialVersionUID", type := .long, accessFlags := 26, slot := 0, constantValue := 0 }, { name := "COMPACT_STRINGS", type := .boolean, accessFlags := 24, slot := 1, constantValue := 0 }, { name := "serialPersistentFields", type := (.array (.object "java/io/ObjectStreamField")), accessFlags := 26, slot := 2, constantValue := 0 }, { name := "REPL", type := .char, accessFlags := 26, slot := 3, constantValue := 0 }, { name := "CASE_INSENSITIVE_ORDER", type := (.object "java/util/Comparator"), accessFlags := 25, slot := 4, constantValue := 0 }, { name := "LATIN1", type := .byte, accessFlags := 24, slot := 5, constantValue := 0 }, { name := "UTF16", type := .byte, accessFlags := 24, slot := 6, constantValue := 0 }]
  methods := #[k7m0, k7m1, k7m2, k7m3]
  instanceTypes := #[(.array .byte), .byte, .int, .boolean]
  staticTypes := #[.long, .boolean, (.array (.object "java/io/ObjectStreamField")), .char, (.object "java/util/Comparator"), .byte, .byte]
  resolved := Array.replicate 1451 none
  statics := some 0 }

def pool8 : Array CpInfo := pool [(6, .class_ 8), (1, u "java/lang/Object"), (0, u "<init>"), (0, u "()V"), (1, .class_ 14), (1, u "java/lang/StringUTF16"), (31, u "$assertionsDisabled"), (0, u "Z"), (13, u "HI_BYTE_SHIFT"), (0, u "I"), (2, u "LO_BYTE_SHIFT"), (49, .methodref 12 116), (0, .nameAndType 117 118), (0, u "compress"), (0, u "([CI[BII)I"), (3, u "([CII)[B"), (138, u "coderFromArrayLen"), (0, u "([BI)B"), (106, .class_ 371), (1, u "java/lang/StringUTF16$LinesSpliterator"), (58, u "MAX_LENGTH"), (196, .class_ 628), (0, u "java/lang/StringUTF16$CodePointsSpliterator"), (0, .class_ 630), (0, u "java/lang/StringUTF16$CharsSpliterator")] 4

def k8m0 : Method := { name := "<init>", desc := "()V", sig := { parameters := [], returnType := none }, accessFlags := 0, code := none }
def k8c1 : Code := { maxStack := 2, maxLocals := 2, code := jdk_52_method_15_code, exceptionTable := #[], attributes := #[] }
def k8m1 : Method := { name := "coderFromArrayLen", desc := "([BI)B", sig := { parameters := [(.array .byte), .int], returnType := some .byte }, accessFlags := 8, code := some k8c1 }
def k8c2 : Code := { maxStack := 5, maxLocals := 6, code := jdk_52_method_16_code, exceptionTable := #[], attributes := #[] }
def k8m2 : Method := { name := "compress", desc := "([CII)[B", sig := { parameters := [(.array .char), .int, .int], returnType := some (.array .byte) }, accessFlags := 9, code := some k8c2 }
def k8c3 : Code := { maxStack := 3, maxLocals := 7, code := jdk_52_method_21_code, exceptionTable := #[], attributes := #[] }
def k8m3 : Method := { name := "compress", desc := "([CI[BII)I", sig := { parameters := [(.array .char), .int, (.array .byte), .int, .int], returnType := some .int }, accessFlags := 9, code := some k8c3 }
/-- java/lang/StringUTF16 -/
def k8 : Class := { plain "java/lang/StringUTF16" (some 0) with
  accessFlags := 48
  interfaces := #[]
  cf := some (fileOf pool8 12 #[.nestMembers #[627, 629, 369]] #[{ accessFlags := 0, nameIndex := 9, descriptorIndex := 10, attributes := #[] }, { accessFlags := 8, nameIndex := 261, descriptorIndex := 262, attributes := #[] }, { accessFlags := 9, nameIndex := 117, descriptorIndex := 122, attributes := #[] }, { accessFlags := 9, nameIndex := 117, descriptorIndex := 118, attributes := #[] }] 48 6 #[] #[{ accessFlags := 26, nameIndex := 61, descriptorIndex := 62, attributes := #[] }, { accessFlags := 26, nameIndex := 65, descriptorIndex := 62, attributes := #[] }, { accessFlags := 24, nameIndex := 430, descriptorIndex := 62, attributes := #[] }, { accessFlags := 4120, nameIndex := 46, descriptorIndex := 47, attributes := #[] }])
  fields := #[{ name := "HI_BYTE_SHIFT", type := .int, accessFlags := 26, slot := 0, constantValue := 0 }, { name := "LO_BYTE_SHIFT", type := .int, accessFlags := 26, slot := 1, constantValue := 0 }, { name := "MAX_LENGTH", type := .int, accessFlags := 24, slot := 2, constantValue := 0 }, { name := "$assertionsDisabled", type := .boolean, accessFlags := 4120, slot := 3, constantValue := 0 }]
  methods := #[k8m0, k8m1, k8m2, k8m3]
  instanceTypes := #[]
  staticTypes := #[.int, .int, .int, .boolean]
  resolved := Array.replicate 635 none
  statics := none }

def pool9 : Array CpInfo := pool [(2, .class_ 4), (1, u "java/lang/Enum"), (0, u "name"), (0, u "Ljava/lang/String;"), (2, u "ordinal"), (0, u "I"), (1, .class_ 14), (1, u "java/lang/Object"), (4, u "hash"), (86, .class_ 108), (1, u "java/lang/Enum$EnumDesc"), (2, .class_ 112), (0, u "java/lang/constant/Constable"), (0, .class_ 114), (0, u "java/lang/Comparable"), (0, .class_ 116), (0, u "java/io/Serializable")] 87

/-- java/lang/Enum -/
def k9 : Class := { plain "java/lang/Enum" (some 0) with
  accessFlags := 1057
  interfaces := #[5, 3, 2]
  cf := some (fileOf pool9 2 #[.nestMembers #[106]] #[] 1057 12 #[111, 113, 115] #[{ accessFlags := 18, nameIndex := 5, descriptorIndex := 6, attributes := #[] }, { accessFlags := 18, nameIndex := 9, descriptorIndex := 10, attributes := #[] }, { accessFlags := 2, nameIndex := 19, descriptorIndex := 10, attributes := #[] }])
  fields := #[{ name := "name", type := (.object "java/lang/String"), accessFlags := 18, slot := 0, constantValue := 0 }, { name := "ordinal", type := .int, accessFlags := 18, slot := 1, constantValue := 0 }, { name := "hash", type := .int, accessFlags := 2, slot := 2, constantValue := 0 }]
  methods := #[]
  instanceTypes := #[(.object "java/lang/String"), .int, .int]
  staticTypes := #[]
  resolved := Array.replicate 204 none
  statics := none }

def pool10 : Array CpInfo := pool [(1, .class_ 2), (0, u "com/example/vestry/vestry/engine/Sex"), (2, u "MALE"), (0, u "Lcom/example/vestry/vestry/engine/Sex;"), (2, u "FEMALE"), (0, .fieldref 1 11), (0, .nameAndType 12 13), (0, u "$VALUES"), (0, u "[Lcom/example/vestry/vestry/engine/Sex;"), (0, .methodref 15 16), (0, .class_ 13), (0, .nameAndType 17 18), (0, u "clone"), (0, u "()Ljava/lang/Object;"), (1, .class_ 22), (1, u "java/lang/Enum"), (6, .fieldref 1 30), (0, .nameAndType 31 32), (0, u "name"), (0, u "Ljava/lang/String;"), (0, .methodref 1 34), (0, .nameAndType 35 36), (0, u "values"), (0, u "()[Lcom/example/vestry/vestry/engine/Sex;"), (0, .methodref 38 39), (0, .class_ 40), (0, .nameAndType 41 42), (0, u "java/lang/String"), (0, u "equals"), (0, u "(Ljava/lang/Object;)Z"), (0, .methodref 44 45), (0, .class_ 46), (0, .nameAndType 47 48), (0, u "java/util/Optional"), (0, u "ofNullable"), (0, u "(Ljava/lang/Object;)Ljava/util/Optional;"), (25, u "named"), (0, u "(Ljava/lang/String;)Ljava/util/Optional;")] 25

def k10c0 : Code := { maxStack := 1, maxLocals := 0, code := prog_45_method_1_code, exceptionTable := #[], attributes := #[] }
def k10m0 : Method := { name := "values", desc := "()[Lcom/example/vestry/vestry/engine/Sex;", sig := { parameters := [], returnType := some (.array (.object "com/example/vestry/vestry/engine/Sex")) }, accessFlags := 9, code := some k10c0 }
def k10c1 : Code := { maxStack := 2, maxLocals := 6, code := prog_45_method_4_code, exceptionTable := #[], attributes := #[] }
def k10m1 : Method := { name := "named", desc := "(Ljava/lang/String;)Ljava/util/Optional;", sig := { parameters := [(.object "java/lang/String")], returnType := some (.object "java/util/Optional") }, accessFlags := 9, code := some k10c1 }
/-- com/example/vestry/vestry/engine/Sex -/
def k10 : Class := { plain "com/example/vestry/vestry/engine/Sex" (some 9) with
  accessFlags := 16433
  interfaces := #[]
  cf := some (fileOf pool10 1 #[] #[{ accessFlags := 9, nameIndex := 35, descriptorIndex := 36, attributes := #[] }, { accessFlags := 9, nameIndex := 74, descriptorIndex := 75, attributes := #[] }] 16433 20 #[] #[{ accessFlags := 16409, nameIndex := 5, descriptorIndex := 6, attributes := #[] }, { accessFlags := 16409, nameIndex := 9, descriptorIndex := 6, attributes := #[] }, { accessFlags := 18, nameIndex := 31, descriptorIndex := 32, attributes := #[] }, { accessFlags := 4122, nameIndex := 12, descriptorIndex := 13, attributes := #[] }])
  fields := #[{ name := "MALE", type := (.object "com/example/vestry/vestry/engine/Sex"), accessFlags := 16409, slot := 0, constantValue := 0 }, { name := "FEMALE", type := (.object "com/example/vestry/vestry/engine/Sex"), accessFlags := 16409, slot := 1, constantValue := 0 }, { name := "name", type := (.object "java/lang/String"), accessFlags := 18, slot := 3, constantValue := 0 }, { name := "$VALUES", type := (.array (.object "com/example/vestry/vestry/engine/Sex")), accessFlags := 4122, slot := 2, constantValue := 0 }]
  methods := #[k10m0, k10m1]
  instanceTypes := #[(.object "java/lang/String"), .int, .int, (.object "java/lang/String")]
  staticTypes := #[(.object "com/example/vestry/vestry/engine/Sex"), (.object "com/example/vestry/vestry/engine/Sex"), (.array (.object "com/example/vestry/vestry/engine/Sex"))]
  resolved := Array.replicate 101 none
  statics := some 1 }

def pool11 : Array CpInfo := pool [(1, .class_ 2), (0, u "java/lang/Cloneable"), (0, .class_ 4), (0, u "java/lang/Object")] 2

/-- java/lang/Cloneable -/
def k11 : Class := { plain "java/lang/Cloneable" (some 0) with
  accessFlags := 1537
  interfaces := #[]
  cf := some (fileOf pool11 1 #[] #[] 1537 3 #[] #[])
  fields := #[]
  methods := #[]
  instanceTypes := #[]
  staticTypes := #[]
  resolved := Array.replicate 7 none
  statics := none }

def pool12 : Array CpInfo := pool [(4, .class_ 6), (1, u "java/lang/Object"), (0, u "<init>"), (0, u "()V"), (5, .class_ 16), (1, u "java/lang/StringLatin1"), (104, u "$assertionsDisabled"), (0, u "Z"), (98, .class_ 223), (1, u "java/lang/StringLatin1$LinesSpliterator"), (57, u "equals"), (0, u "([B[B)Z"), (107, .class_ 391), (0, u "java/lang/StringLatin1$CharsSpliterator")] 3

def k12m0 : Method := { name := "<init>", desc := "()V", sig := { parameters := [], returnType := none }, accessFlags := 0, code := none }
def k12c1 : Code := { maxStack := 3, maxLocals := 3, code := jdk_43_method_13_code, exceptionTable := #[], attributes := #[] }
def k12m1 : Method := { name := "equals", desc := "([B[B)Z", sig := { parameters := [(.array .byte), (.array .byte)], returnType := some .boolean }, accessFlags := 9, code := some k12c1 }
/-- java/lang/StringLatin1 -/
def k12 : Class := { plain "java/lang/StringLatin1" (some 0) with
  accessFlags := 48
  interfaces := #[]
  cf := some (fileOf pool12 14 #[.nestMembers #[390, 221]] #[{ accessFlags := 0, nameIndex := 7, descriptorIndex := 8, attributes := #[] }, { accessFlags := 9, nameIndex := 281, descriptorIndex := 282, attributes := #[] }] 48 4 #[] #[{ accessFlags := 4120, nameIndex := 121, descriptorIndex := 122, attributes := #[] }])
  fields := #[{ name := "$assertionsDisabled", type := .boolean, accessFlags := 4120, slot := 0, constantValue := 0 }]
  methods := #[k12m0, k12m1]
  instanceTypes := #[]
  staticTypes := #[.boolean]
  resolved := Array.replicate 395 none
  statics := none }

def pool13 : Array CpInfo := pool [(1, .fieldref 2 3), (0, .class_ 4), (0, .nameAndType 5 6), (0, u "java/util/Optional"), (0, u "EMPTY"), (0, u "Ljava/util/Optional;"), (0, .methodref 8 9), (0, .class_ 10), (0, .nameAndType 11 12), (0, u "java/lang/Object"), (0, u "<init>"), (0, u "()V"), (0, .fieldref 2 14), (0, .nameAndType 15 16), (0, u "value"), (0, u "Ljava/lang/Object;"), (6, .methodref 2 24), (0, .nameAndType 11 25), (0, u "(Ljava/lang/Object;)V"), (20, u "()Z"), (17, u "ofNullable"), (0, u "(Ljava/lang/Object;)Ljava/util/Optional;"), (2, u "isPresent"), (4, u "get"), (0, u "()Ljava/lang/Object;")] 112

def k13c0 : Code := { maxStack := 2, maxLocals := 2, code := jdk_32_method_2_code, exceptionTable := #[], attributes := #[] }
def k13m0 : Method := { name := "<init>", desc := "(Ljava/lang/Object;)V", sig := { parameters := [(.object "java/lang/Object")], returnType := none }, accessFlags := 2, code := some k13c0 }
def k13c1 : Code := { maxStack := 3, maxLocals := 1, code := jdk_32_method_4_code, exceptionTable := #[], attributes := #[] }
def k13m1 : Method := { name := "ofNullable", desc := "(Ljava/lang/Object;)Ljava/util/Optional;", sig := { parameters := [(.object "java/lang/Object")], returnType := some (.object "java/util/Optional") }, accessFlags := 9, code := some k13c1 }
def k13c2 : Code := { maxStack := 3, maxLocals := 1, code := jdk_32_method_5_code, exceptionTable := #[], attributes := #[] }
def k13m2 : Method := { name := "get", desc := "()Ljava/lang/Object;", sig := { parameters := [], returnType := some (.object "java/lang/Object") }, accessFlags := 1, code := some k13c2 }
def k13c3 : Code := { maxStack := 1, maxLocals := 1, code := jdk_32_method_6_code, exceptionTable := #[], attributes := #[] }
def k13m3 : Method := { name := "isPresent", desc := "()Z", sig := { parameters := [], returnType := some .boolean }, accessFlags := 1, code := some k13c3 }
/-- java/util/Optional -/
def k13 : Class := { plain "java/util/Optional" (some 0) with
  accessFlags := 49
  interfaces := #[]
  cf := some (fileOf pool13 2 #[] #[{ accessFlags := 2, nameIndex := 11, descriptorIndex := 25, attributes := #[] }, { accessFlags := 9, nameIndex := 64, descriptorIndex := 65, attributes := #[] }, { accessFlags := 1, nameIndex := 73, descriptorIndex := 74, attributes := #[] }, { accessFlags := 1, nameIndex := 68, descriptorIndex := 46, attributes := #[] }] 49 8 #[] #[{ accessFlags := 26, nameIndex := 5, descriptorIndex := 6, attributes := #[] }, { accessFlags := 18, nameIndex := 15, descriptorIndex := 16, attributes := #[] }])
  fields := #[{ name := "EMPTY", type := (.object "java/util/Optional"), accessFlags := 26, slot := 0, constantValue := 0 }, { name := "value", type := (.object "java/lang/Object"), accessFlags := 18, slot := 0, constantValue := 0 }]
  methods := #[k13m0, k13m1, k13m2, k13m3]
  instanceTypes := #[(.object "java/lang/Object")]
  staticTypes := #[(.object "java/util/Optional")]
  resolved := Array.replicate 187 none
  statics := some 2 }

def pool14 : Array CpInfo := pool [(2, .class_ 4), (1, u "java/lang/Object"), (0, u "<init>"), (0, u "()V"), (17, .class_ 26), (1, u "jdk/internal/util/Preconditions"), (28, .class_ 56), (0, u "jdk/internal/util/Preconditions$4"), (57, .class_ 115), (0, u "jdk/internal/util/Preconditions$1"), (7, u "SIOOBE_FORMATTER"), (0, u "Ljava/util/function/BiFunction;"), (0, .class_ 126), (0, u "jdk/internal/util/Preconditions$2"), (3, u "AIOOBE_FORMATTER"), (0, .class_ 132), (0, u "jdk/internal/util/Preconditions$3"), (3, u "IOOBE_FORMATTER")] 57

def k14m0 : Method := { name := "<init>", desc := "()V", sig := { parameters := [], returnType := none }, accessFlags := 1, code := none }
/-- jdk/internal/util/Preconditions -/
def k14 : Class := { plain "jdk/internal/util/Preconditions" (some 0) with
  accessFlags := 33
  interfaces := #[]
  cf := some (fileOf pool14 24 #[.nestMembers #[55, 131, 125, 114]] #[{ accessFlags := 1, nameIndex := 5, descriptorIndex := 6, attributes := #[] }] 33 2 #[] #[{ accessFlags := 25, nameIndex := 123, descriptorIndex := 124, attributes := #[] }, { accessFlags := 25, nameIndex := 130, descriptorIndex := 124, attributes := #[] }, { accessFlags := 25, nameIndex := 136, descriptorIndex := 124, attributes := #[] }])
  fields := #[{ name := "SIOOBE_FORMATTER", type := (.object "java/util/function/BiFunction"), accessFlags := 25, slot := 0, constantValue := 0 }, { name := "AIOOBE_FORMATTER", type := (.object "java/util/function/BiFunction"), accessFlags := 25, slot := 1, constantValue := 0 }, { name := "IOOBE_FORMATTER", type := (.object "java/util/function/BiFunction"), accessFlags := 25, slot := 2, constantValue := 0 }]
  methods := #[k14m0]
  instanceTypes := #[]
  staticTypes := #[(.object "java/util/function/BiFunction"), (.object "java/util/function/BiFunction"), (.object "java/util/function/BiFunction")]
  resolved := Array.replicate 194 none
  statics := some 3 }

def pool15 : Array CpInfo := pool [(9, u "<init>"), (6, .class_ 18), (1, u "java/lang/Object"), (0, u "()V"), (1, .class_ 23), (1, u "jdk/internal/util/ArraysSupport"), (0, u "LOG2_ARRAY_LONG_INDEX_SCALE"), (0, u "I"), (2, u "U"), (0, u "Ljdk/internal/misc/Unsafe;"), (8, u "BIG_ENDIAN"), (0, u "Z"), (8, u "LOG2_BYTE_BIT_SIZE"), (4, u "LOG2_ARRAY_INT_INDEX_SCALE"), (54, u "JLA"), (0, u "Ljdk/internal/access/JavaLangAccess;"), (11, u "LOG2_ARRAY_BOOLEAN_INDEX_SCALE"), (9, u "LOG2_ARRAY_BYTE_INDEX_SCALE"), (5, u "LOG2_ARRAY_CHAR_INDEX_SCALE"), (5, u "LOG2_ARRAY_SHORT_INDEX_SCALE"), (18, u "LOG2_ARRAY_FLOAT_INDEX_SCALE"), (24, u "LOG2_ARRAY_DOUBLE_INDEX_SCALE"), (89, u "T_BOOLEAN"), (2, u "T_CHAR"), (1, u "T_FLOAT"), (1, u "T_DOUBLE"), (1, u "T_BYTE"), (1, u "T_SHORT"), (1, u "T_INT"), (1, u "T_LONG"), (1, u "SOFT_MAX_ARRAY_LENGTH")] 83

def k15m0 : Method := { name := "<init>", desc := "()V", sig := { parameters := [], returnType := none }, accessFlags := 2, code := none }
/-- jdk/internal/util/ArraysSupport -/
def k15 : Class := { plain "jdk/internal/util/ArraysSupport" (some 0) with
  accessFlags := 33
  interfaces := #[]
  cf := some (fileOf pool15 21 #[] #[{ accessFlags := 2, nameIndex := 9, descriptorIndex := 19, attributes := #[] }] 33 16 #[] #[{ accessFlags := 24, nameIndex := 28, descriptorIndex := 29, attributes := #[] }, { accessFlags := 26, nameIndex := 38, descriptorIndex := 39, attributes := #[] }, { accessFlags := 25, nameIndex := 121, descriptorIndex := 25, attributes := #[] }, { accessFlags := 25, nameIndex := 131, descriptorIndex := 25, attributes := #[] }, { accessFlags := 25, nameIndex := 137, descriptorIndex := 25, attributes := #[] }, { accessFlags := 25, nameIndex := 143, descriptorIndex := 25, attributes := #[] }, { accessFlags := 25, nameIndex := 53, descriptorIndex := 25, attributes := #[] }, { accessFlags := 25, nameIndex := 24, descriptorIndex := 25, attributes := #[] }, { accessFlags := 25, nameIndex := 162, descriptorIndex := 25, attributes := #[] }, { accessFlags := 25, nameIndex := 187, descriptorIndex := 25, attributes := #[] }, { accessFlags := 26, nameIndex := 48, descriptorIndex := 25, attributes := #[] }, { accessFlags := 25, nameIndex := 277, descriptorIndex := 25, attributes := #[] }, { accessFlags := 25, nameIndex := 280, descriptorIndex := 25, attributes := #[] }, { accessFlags := 25, nameIndex := 282, descriptorIndex := 25, attributes := #[] }, { accessFlags := 25, nameIndex := 284, descriptorIndex := 25, attributes := #[] }, { accessFlags := 25, nameIndex := 286, descriptorIndex := 25, attributes := #[] }, { accessFlags := 25, nameIndex := 288, descriptorIndex := 25, attributes := #[] }, { accessFlags := 25, nameIndex := 290, descriptorIndex := 25, attributes := #[] }, { accessFlags := 25, nameIndex := 292, descriptorIndex := 25, attributes := #[] }, { accessFlags := 26, nameIndex := 108, descriptorIndex := 109, attributes := #[] }, { accessFlags := 25, nameIndex := 294, descriptorIndex := 25, attributes := #[] }])
  fields := #[{ name := "U", type := (.object "jdk/internal/misc/Unsafe"), accessFlags := 24, slot := 0, constantValue := 0 }, { name := "BIG_ENDIAN", type := .boolean, accessFlags := 26, slot := 1, constantValue := 0 }, { name := "LOG2_ARRAY_BOOLEAN_INDEX_SCALE", type := .int, accessFlags := 25, slot := 2, constantValue := 0 }, { name := "LOG2_ARRAY_BYTE_INDEX_SCALE", type := .int, accessFlags := 25, slot := 3, constantValue := 0 }, { name := "LOG2_ARRAY_CHAR_INDEX_SCALE", type := .int, accessFlags := 25, slot := 4, constantValue := 0 }, { name := "LOG2_ARRAY_SHORT_INDEX_SCALE", type := .int, accessFlags := 25, slot := 5, constantValue := 0 }, { name := "LOG2_ARRAY_INT_INDEX_SCALE", type := .int, accessFlags := 25, slot := 6, constantValue := 0 }, { name := "LOG2_ARRAY_LONG_INDEX_SCALE", type := .int, accessFlags := 25, slot := 7, constantValue := 0 }, { name := "LOG2_ARRAY_FLOAT_INDEX_SCALE", type := .int, accessFlags := 25, slot := 8, constantValue := 0 }, { name := "LOG2_ARRAY_DOUBLE_INDEX_SCALE", type := .int, accessFlags := 25, slot := 9, constantValue := 0 }, { name := "LOG2_BYTE_BIT_SIZE", type := .int, accessFlags := 26, slot := 10, constantValue := 0 }, { name := "T_BOOLEAN", type := .int, accessFlags := 25, slot := 11, constantValue := 0 }, { name := "T_CHAR", type := .int, accessFlags := 25, slot := 12, constantValue := 0 }, { name := "T_FLOAT", type := .int, accessFlags := 25, slot := 13, constantValue := 0 }, { name := "T_DOUBLE", type := .int, accessFlags := 25, slot := 14, constantValue := 0 }, { name := "T_BYTE", type := .int, accessFlags := 25, slot := 15, constantValue := 0 }, { name := "T_SHORT", type := .int, accessFlags := 25, slot := 16, constantValue := 0 }, { name := "T_INT", type := .int, accessFlags := 25, slot := 17, constantValue := 0 }, { name := "T_LONG", type := .int, accessFlags := 25, slot := 18, constantValue := 0 }, { name := "JLA", type := (.object "jdk/internal/access/JavaLangAccess"), accessFlags := 26, slot := 19, constantValue := 0 }, { name := "SOFT_MAX_ARRAY_LENGTH", type := .int, accessFlags := 25, slot := 20, constantValue := 0 }]
  methods := #[k15m0]
  instanceTypes := #[]
  staticTypes := #[(.object "jdk/internal/misc/Unsafe"), .boolean, .int, .int, .int, .int, .int, .int, .int, .int, .int, .int, .int, .int, .int, .int, .int, .int, .int, (.object "jdk/internal/access/JavaLangAccess"), .int]
  resolved := Array.replicate 378 none
  statics := none }

/-- the primitive byte -/
def k16 : Class := { plain "byte" none with kind := .primitive 'B', accessFlags := 0x411 }
/-- [B -/
def k17 : Class := { plain "[B" (some 0) with kind := .array 16 .byte, interfaces := #[11, 2], accessFlags := 1041 }

/-- the primitive char -/
def k18 : Class := { plain "char" none with kind := .primitive 'C', accessFlags := 0x411 }
/-- [C -/
def k19 : Class := { plain "[C" (some 0) with kind := .array 18 .char, interfaces := #[11, 2], accessFlags := 1041 }

/-- the primitive int -/
def k20 : Class := { plain "int" none with kind := .primitive 'I', accessFlags := 0x411 }
/-- [I -/
def k21 : Class := { plain "[I" (some 0) with kind := .array 20 .int, interfaces := #[11, 2], accessFlags := 1041 }

/-- [Lcom/example/vestry/vestry/engine/Sex; -/
def k22 : Class := { plain "[Lcom/example/vestry/vestry/engine/Sex;" (some 0) with kind := .array 10 (.object "com/example/vestry/vestry/engine/Sex"), interfaces := #[11, 2], accessFlags := 1041 }

def heap : Heap := #[{ cls := 7, slots := #[.long 0, .int 1, .null, .int 0, .null, .int 0, .int 0], vm := .statics 7 },
  { cls := 10, slots := #[.ref 5, .ref 6, .ref 4], vm := .statics 10 },
  { cls := 13, slots := #[.ref 11], vm := .statics 13 },
  { cls := 14, slots := #[.null, .null, .null], vm := .statics 14 },
  { cls := 22, slots := #[.ref 5, .ref 6], vm := .none },
  { cls := 10, slots := #[.null, .int 0, .int 0, .ref 7], vm := .none },
  { cls := 10, slots := #[.null, .int 1, .int 0, .ref 9], vm := .none },
  { cls := 7, slots := #[.ref 8, .int 0, .int 0, .int 0], vm := .none },
  { cls := 17, slots := #[.int 109, .int 97, .int 108, .int 101], vm := .none },
  { cls := 7, slots := #[.ref 10, .int 0, .int 0, .int 0], vm := .none },
  { cls := 17, slots := #[.int 102, .int 101, .int 109, .int 97, .int 108, .int 101], vm := .none },
  { cls := 13, slots := #[.null], vm := .none }]
def classes : Array Class := #[k0, k1, k2, k3, k4, k5, k6, k7, k8, k9, k10, k11, k12, k13, k14, k15, k16, k17, k18, k19, k20, k21, k22]
def interned : List (Array UInt16 × Addr) := []
def slotsUsed : Nat := 43
def theMethod : MethodId := ⟨1, 2⟩
def args0 : Array Value := #[.int 5, .int 7, .int 3, .int 2, .long 9]
def aboutOver (below : List Frame) : State where
  vm := { classes := classes, interned := interned.toArray }
  heap := heap
  slotsUsed := slotsUsed
  threads := #[{ frames := .invoking theMethod args0 :: below }]
def below0 : List Frame := [.native { method := ⟨0, 0⟩, args := #[] }]
def about1 : State := aboutOver below0
def p0 : Program := .bare "" "" ""
def e0 : Env := launch0.env 0 0 0
theorem w_frames : about1.frames = Frame.invoking theMethod args0 :: below0 := rfl
set_option maxRecDepth 65536 in
theorem w_args : argsFit about1.vm theMethod args0 = true := by decide +kernel
set_option maxRecDepth 65536 in
theorem w_heap : heapFits about1 = true := by decide +kernel
set_option maxRecDepth 65536 in
theorem w_runnable : about1.curStatus? = some .runnable := by decide +kernel
set_option maxRecDepth 65536 in
theorem w_alone : about1.alone = true := by decide +kernel
set_option maxRecDepth 65536 in
theorem w_named : about1.methodNamed? x = some theMethod := by decide +kernel
set_option maxRecDepth 65536 in
theorem w_hears : about1.hears theMethod below0 = true := by decide +kernel
set_option maxRecDepth 65536 in
theorem w_ripe : about1.ripe theMethod args0 below0 = true := by decide +kernel
theorem w_running : about1.status = .running := rfl
set_option maxRecDepth 65536 in
theorem w_room : about1.hasRoom e0.platform room_1 = true :=
  launch0.hasRoom_least _ room_1 (by decide +kernel) (by decide +kernel) (by decide +kernel) (by decide +kernel) (by decide +kernel) (by decide +kernel)
theorem allAtoms_all (ts : List Jvm.Cond) (a : Array Jvm.Value) (st : Jvm.State) : (allAtoms ts).before a st = ts.all (fun c => c.before a st) := by
  induction ts with
  | nil => rfl
  | cons c t ih =>
    show (Jvm.Cond.and c (allAtoms t)).before a st = _
    rw [Jvm.Cond.before_and, ih, List.all_cons]
def words1 : List Jvm.Cond := Jvm.Cond.code x code maxLocals ret :: tables_1
/-- a 'code' word, met by the world's own term for the bytes: nothing is compared byte by byte -/
theorem code_word {y : MethodName} {bytes : ByteArray} {mx : Nat} {rt : Option FieldType} {a : Array Value} {s : State} {m : MethodId} {meth : Method} {c : Code} (h1 : s.methodNamed? y = some m) (h2 : s.vm.method? m = some meth) (h3 : meth.code = some c) (h4 : c.code = bytes)
    (h5 : (c.maxLocals == mx && c.exceptionTable.isEmpty && decide (c.maxStack ≤ mostOperands) && decide (meth.sig.returnType = rt) && !meth.locks && decide (parseMethodDescriptor y.desc = some meth.sig)) = true) : (Jvm.Cond.code y bytes mx rt).before a s = true := by
  simp only [Bool.and_eq_true, beq_iff_eq, Bool.not_eq_true', decide_eq_true_eq] at h5
  obtain ⟨⟨⟨⟨⟨g1, g2⟩, g3⟩, g4⟩, g5⟩, g6⟩ := h5
  simp [Cond.before, Cond.holds, Cond.value, h1, h2, h3, h4, g1, g2, g3, g4, g5, g6]
def isCode : Jvm.Cond → Bool
  | .code _ _ _ _ => true
  | _ => false
theorem all_split {L : List Jvm.Cond} {P : Jvm.Cond → Bool} (h1 : L.all (fun c => isCode c || P c) = true) (h2 : ∀ c ∈ L.filter isCode, P c = true) : L.all P = true := by
  refine List.all_eq_true.mpr fun c hc => ?_
  have h := List.all_eq_true.mp h1 c hc
  rcases Bool.eq_false_or_eq_true (isCode c) with hi | hi
  · exact h2 c (List.mem_filter.mpr ⟨hc, hi⟩)
  · simpa [hi] using h
set_option maxRecDepth 65536 in
theorem w_c0 : (Jvm.Cond.code x code maxLocals ret).before args0 about1 = true := code_word (m := ⟨1, 2⟩) (meth := k1m2) (c := k1c2) (by decide +kernel) rfl rfl rfl (by decide +kernel)
set_option maxRecDepth 65536 in
theorem w_c1 : (Jvm.Cond.code ({ cls := "com/example/vestry/vestry/engine/SexNamedPinLaw", name := "prefix", desc := "([CI)[C" } : Jvm.MethodName) method_2_code (2 : Nat) (Option.some (Jvm.ClassFile.FieldType.array Jvm.ClassFile.FieldType.char))).before args0 about1 = true := code_word (m := ⟨1, 1⟩) (meth := k1m1) (c := k1c1) (by decide +kernel) rfl rfl rfl (by decide +kernel)
set_option maxRecDepth 65536 in
theorem w_c2 : (Jvm.Cond.code ({ cls := "java/lang/String", name := "<init>", desc := "([C)V" } : Jvm.MethodName) jdk_42_method_3_code (2 : Nat) (Option.none : Option Jvm.ClassFile.FieldType)).before args0 about1 = true := code_word (m := ⟨7, 1⟩) (meth := k7m1) (c := k7c1) (by decide +kernel) rfl rfl rfl (by decide +kernel)
set_option maxRecDepth 65536 in
theorem w_c3 : (Jvm.Cond.code ({ cls := "java/lang/String", name := "<init>", desc := "([CIILjava/lang/Void;)V" } : Jvm.MethodName) jdk_42_method_149_code (6 : Nat) (Option.none : Option Jvm.ClassFile.FieldType)).before args0 about1 = true := code_word (m := ⟨7, 3⟩) (meth := k7m3) (c := k7c3) (by decide +kernel) rfl rfl rfl (by decide +kernel)
set_option maxRecDepth 65536 in
theorem w_c4 : (Jvm.Cond.code ({ cls := "java/lang/Object", name := "<init>", desc := "()V" } : Jvm.MethodName) object_method_1_code (1 : Nat) (Option.none : Option Jvm.ClassFile.FieldType)).before args0 about1 = true := code_word (m := ⟨0, 0⟩) (meth := k0m0) (c := k0c0) (by decide +kernel) rfl rfl rfl (by decide +kernel)
set_option maxRecDepth 65536 in
theorem w_c5 : (Jvm.Cond.code ({ cls := "java/lang/StringUTF16", name := "compress", desc := "([CII)[B" } : Jvm.MethodName) jdk_52_method_16_code (6 : Nat) (Option.some (Jvm.ClassFile.FieldType.array Jvm.ClassFile.FieldType.byte))).before args0 about1 = true := code_word (m := ⟨8, 2⟩) (meth := k8m2) (c := k8c2) (by decide +kernel) rfl rfl rfl (by decide +kernel)
set_option maxRecDepth 65536 in
theorem w_c6 : (Jvm.Cond.code ({ cls := "java/lang/StringUTF16", name := "compress", desc := "([CI[BII)I" } : Jvm.MethodName) jdk_52_method_21_code (7 : Nat) (Option.some Jvm.ClassFile.FieldType.int)).before args0 about1 = true := code_word (m := ⟨8, 3⟩) (meth := k8m3) (c := k8c3) (by decide +kernel) rfl rfl rfl (by decide +kernel)
set_option maxRecDepth 65536 in
theorem w_c7 : (Jvm.Cond.code ({ cls := "java/lang/StringUTF16", name := "coderFromArrayLen", desc := "([BI)B" } : Jvm.MethodName) jdk_52_method_15_code (2 : Nat) (Option.some Jvm.ClassFile.FieldType.byte)).before args0 about1 = true := code_word (m := ⟨8, 1⟩) (meth := k8m1) (c := k8c1) (by decide +kernel) rfl rfl rfl (by decide +kernel)
set_option maxRecDepth 65536 in
theorem w_c8 : (Jvm.Cond.code ({ cls := "com/example/vestry/vestry/engine/Sex", name := "named", desc := "(Ljava/lang/String;)Ljava/util/Optional;" } : Jvm.MethodName) prog_45_method_4_code (6 : Nat) (Option.some (Jvm.ClassFile.FieldType.object "java/util/Optional"))).before args0 about1 = true := code_word (m := ⟨10, 1⟩) (meth := k10m1) (c := k10c1) (by decide +kernel) rfl rfl rfl (by decide +kernel)
set_option maxRecDepth 65536 in
theorem w_c9 : (Jvm.Cond.code ({ cls := "com/example/vestry/vestry/engine/Sex", name := "values", desc := "()[Lcom/example/vestry/vestry/engine/Sex;" } : Jvm.MethodName) prog_45_method_1_code (0 : Nat) (Option.some (Jvm.ClassFile.FieldType.array (Jvm.ClassFile.FieldType.object "com/example/vestry/vestry/engine/Sex")))).before args0 about1 = true := code_word (m := ⟨10, 0⟩) (meth := k10m0) (c := k10c0) (by decide +kernel) rfl rfl rfl (by decide +kernel)
set_option maxRecDepth 65536 in
theorem w_c10 : (Jvm.Cond.code ({ cls := "java/lang/String", name := "equals", desc := "(Ljava/lang/Object;)Z" } : Jvm.MethodName) jdk_42_method_66_code (3 : Nat) (Option.some Jvm.ClassFile.FieldType.boolean)).before args0 about1 = true := code_word (m := ⟨7, 2⟩) (meth := k7m2) (c := k7c2) (by decide +kernel) rfl rfl rfl (by decide +kernel)
set_option maxRecDepth 65536 in
theorem w_c11 : (Jvm.Cond.code ({ cls := "java/lang/StringLatin1", name := "equals", desc := "([B[B)Z" } : Jvm.MethodName) jdk_43_method_13_code (3 : Nat) (Option.some Jvm.ClassFile.FieldType.boolean)).before args0 about1 = true := code_word (m := ⟨12, 1⟩) (meth := k12m1) (c := k12c1) (by decide +kernel) rfl rfl rfl (by decide +kernel)
set_option maxRecDepth 65536 in
theorem w_c12 : (Jvm.Cond.code ({ cls := "java/util/Optional", name := "ofNullable", desc := "(Ljava/lang/Object;)Ljava/util/Optional;" } : Jvm.MethodName) jdk_32_method_4_code (1 : Nat) (Option.some (Jvm.ClassFile.FieldType.object "java/util/Optional"))).before args0 about1 = true := code_word (m := ⟨13, 1⟩) (meth := k13m1) (c := k13c1) (by decide +kernel) rfl rfl rfl (by decide +kernel)
set_option maxRecDepth 65536 in
theorem w_c13 : (Jvm.Cond.code ({ cls := "java/util/Optional", name := "isPresent", desc := "()Z" } : Jvm.MethodName) jdk_32_method_6_code (1 : Nat) (Option.some Jvm.ClassFile.FieldType.boolean)).before args0 about1 = true := code_word (m := ⟨13, 3⟩) (meth := k13m3) (c := k13c3) (by decide +kernel) rfl rfl rfl (by decide +kernel)
set_option maxRecDepth 65536 in
theorem w_c14 : (Jvm.Cond.code ({ cls := "java/util/Optional", name := "<init>", desc := "(Ljava/lang/Object;)V" } : Jvm.MethodName) jdk_32_method_2_code (2 : Nat) (Option.none : Option Jvm.ClassFile.FieldType)).before args0 about1 = true := code_word (m := ⟨13, 0⟩) (meth := k13m0) (c := k13c0) (by decide +kernel) rfl rfl rfl (by decide +kernel)
set_option maxRecDepth 65536 in
theorem w_c15 : (Jvm.Cond.code ({ cls := "java/util/Optional", name := "get", desc := "()Ljava/lang/Object;" } : Jvm.MethodName) jdk_32_method_5_code (1 : Nat) (Option.some (Jvm.ClassFile.FieldType.object "java/lang/Object"))).before args0 about1 = true := code_word (m := ⟨13, 2⟩) (meth := k13m2) (c := k13c2) (by decide +kernel) rfl rfl rfl (by decide +kernel)
def codes1 : List Jvm.Cond := [Jvm.Cond.code x code maxLocals ret, Jvm.Cond.code ({ cls := "com/example/vestry/vestry/engine/SexNamedPinLaw", name := "prefix", desc := "([CI)[C" } : Jvm.MethodName) method_2_code (2 : Nat) (Option.some (Jvm.ClassFile.FieldType.array Jvm.ClassFile.FieldType.char)), Jvm.Cond.code ({ cls := "java/lang/String", name := "<init>", desc := "([C)V" } : Jvm.MethodName) jdk_42_method_3_code (2 : Nat) (Option.none : Option Jvm.ClassFile.FieldType), Jvm.Cond.code ({ cls := "java/lang/String", name := "<init>", desc := "([CIILjava/lang/Void;)V" } : Jvm.MethodName) jdk_42_method_149_code (6 : Nat) (Option.none : Option Jvm.ClassFile.FieldType), Jvm.Cond.code ({ cls := "java/lang/Object", name := "<init>", desc := "()V" } : Jvm.MethodName) object_method_1_code (1 : Nat) (Option.none : Option Jvm.ClassFile.FieldType), Jvm.Cond.code ({ cls := "java/lang/StringUTF16", name := "compress", desc := "([CII)[B" } : Jvm.MethodName) jdk_52_method_16_code (6 : Nat) (Option.some (Jvm.ClassFile.FieldType.array Jvm.ClassFile.FieldType.byte)), Jvm.Cond.code ({ cls := "java/lang/StringUTF16", name := "compress", desc := "([CI[BII)I" } : Jvm.MethodName) jdk_52_method_21_code (7 : Nat) (Option.some Jvm.ClassFile.FieldType.int), Jvm.Cond.code ({ cls := "java/lang/StringUTF16", name := "coderFromArrayLen", desc := "([BI)B" } : Jvm.MethodName) jdk_52_method_15_code (2 : Nat) (Option.some Jvm.ClassFile.FieldType.byte), Jvm.Cond.code ({ cls := "com/example/vestry/vestry/engine/Sex", name := "named", desc := "(Ljava/lang/String;)Ljava/util/Optional;" } : Jvm.MethodName) prog_45_method_4_code (6 : Nat) (Option.some (Jvm.ClassFile.FieldType.object "java/util/Optional")), Jvm.Cond.code ({ cls := "com/example/vestry/vestry/engine/Sex", name := "values", desc := "()[Lcom/example/vestry/vestry/engine/Sex;" } : Jvm.MethodName) prog_45_method_1_code (0 : Nat) (Option.some (Jvm.ClassFile.FieldType.array (Jvm.ClassFile.FieldType.object "com/example/vestry/vestry/engine/Sex"))), Jvm.Cond.code ({ cls := "java/lang/String", name := "equals", desc := "(Ljava/lang/Object;)Z" } : Jvm.MethodName) jdk_42_method_66_code (3 : Nat) (Option.some Jvm.ClassFile.FieldType.boolean), Jvm.Cond.code ({ cls := "java/lang/StringLatin1", name := "equals", desc := "([B[B)Z" } : Jvm.MethodName) jdk_43_method_13_code (3 : Nat) (Option.some Jvm.ClassFile.FieldType.boolean), Jvm.Cond.code ({ cls := "java/util/Optional", name := "ofNullable", desc := "(Ljava/lang/Object;)Ljava/util/Optional;" } : Jvm.MethodName) jdk_32_method_4_code (1 : Nat) (Option.some (Jvm.ClassFile.FieldType.object "java/util/Optional")), Jvm.Cond.code ({ cls := "java/util/Optional", name := "isPresent", desc := "()Z" } : Jvm.MethodName) jdk_32_method_6_code (1 : Nat) (Option.some Jvm.ClassFile.FieldType.boolean), Jvm.Cond.code ({ cls := "java/util/Optional", name := "<init>", desc := "(Ljava/lang/Object;)V" } : Jvm.MethodName) jdk_32_method_2_code (2 : Nat) (Option.none : Option Jvm.ClassFile.FieldType), Jvm.Cond.code ({ cls := "java/util/Optional", name := "get", desc := "()Ljava/lang/Object;" } : Jvm.MethodName) jdk_32_method_5_code (1 : Nat) (Option.some (Jvm.ClassFile.FieldType.object "java/lang/Object"))]
set_option maxRecDepth 65536 in
theorem codes_eq : words1.filter isCode = codes1 := rfl
theorem w_codes : ∀ c ∈ words1.filter isCode, c.before args0 about1 = true := by
  rw [codes_eq]
  intro c hc
  simp only [codes1, List.mem_cons, List.not_mem_nil, or_false] at hc
  rcases hc with rfl | rfl | rfl | rfl | rfl | rfl | rfl | rfl | rfl | rfl | rfl | rfl | rfl | rfl | rfl | rfl
  · exact w_c0
  · exact w_c1
  · exact w_c2
  · exact w_c3
  · exact w_c4
  · exact w_c5
  · exact w_c6
  · exact w_c7
  · exact w_c8
  · exact w_c9
  · exact w_c10
  · exact w_c11
  · exact w_c12
  · exact w_c13
  · exact w_c14
  · exact w_c15
set_option maxRecDepth 65536 in
theorem w_t1 : (words1.take 24).all (fun c => isCode c || c.before args0 about1) = true := by decide +kernel
set_option maxRecDepth 65536 in
theorem w_t2 : ((words1.drop 24).take 24).all (fun c => isCode c || c.before args0 about1) = true := by decide +kernel
set_option maxRecDepth 65536 in
theorem w_t3 : (((words1.drop 24).drop 24).take 24).all (fun c => isCode c || c.before args0 about1) = true := by decide +kernel
set_option maxRecDepth 65536 in
theorem w_t4 : ((((words1.drop 24).drop 24).drop 24).take 24).all (fun c => isCode c || c.before args0 about1) = true := by decide +kernel
set_option maxRecDepth 65536 in
theorem w_t5 : ((((words1.drop 24).drop 24).drop 24).drop 24).all (fun c => isCode c || c.before args0 about1) = true := by decide +kernel
theorem w_tables : (allAtoms (Jvm.Cond.code x code maxLocals ret :: tables_1)).before args0 about1 = true := by
  rw [allAtoms_all]
  show words1.all (fun c => c.before args0 about1) = true
  refine all_split ?_ w_codes
  rw [← List.take_append_drop 24 words1, List.all_append, w_t1, ← List.take_append_drop 24 (words1.drop 24), List.all_append, w_t2, ← List.take_append_drop 24 ((words1.drop 24).drop 24), List.all_append, w_t3, ← List.take_append_drop 24 (((words1.drop 24).drop 24).drop 24), List.all_append, w_t4, w_t5]
  rfl
set_option maxRecDepth 65536 in
theorem w_rest : rest_1_c.before args0 about1 = true := by decide +kernel
set_option maxRecDepth 65536 in
theorem w_case : (Jvm.Cond.and given_1 narrow_1).before args0 about1 = true := by decide +kernel
set_option maxRecDepth 65536 in
theorem w_consts : constsHeld consts_1 about1 := Jvm.Lit.constsHeldB_iff.mp (by decide +kernel)
theorem w_applies : (headSpec (Jvm.Cond.code x code maxLocals ret :: tables_1) room_1).applies x e0.platform about1 = true :=
  (Spec.applies_iff w_frames).mpr ⟨w_running, w_runnable, w_alone, w_named, w_hears, w_ripe, w_room, w_tables⟩
theorem atStart : AtStart classFile x code maxLocals ret World_1 tables_1 room_1 Calls_1 rest_1 Pre_1 launch0 p0 e0 about1 theMethod args0 below0 :=
  ⟨lists_1, trivial, launch0.admits_env _ _ _, launch0.least_env, fairChoices_fair.cas, fairChoices_fair.clock, w_frames, w_args, w_heap, w_applies, ⟨w_consts, trivial⟩, w_rest, w_case⟩
end start1
theorem witness_1 : WitnessClaimed_1 := ⟨start1.p0, start1.e0, start1.about1, start1.theMethod, start1.args0, start1.below0, start1.atStart⟩
end Jvm.Pilot.@@N@@
