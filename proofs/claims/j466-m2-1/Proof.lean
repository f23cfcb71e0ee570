import JvmDerived
import JvmDerived.Pilot.@@N@@Statement
import JvmDerived.Pilot.@@N@@Code
set_option linter.unusedVariables false
set_option linter.unusedSimpArgs false
namespace Jvm.Free.XS
/-- lcmp's int; iushr's int -/
def cmpL (x y : Int64) : Int32 := if x > y then 1 else if x = y then 0 else -1
def ushr (x y : Int32) : Int32 := (x.toUInt32 >>> (y &&& 31).toUInt32).toInt32
end Jvm.Free.XS
namespace Jvm.RoadKit
open Sem ClassFile Op Lib Jvm.Stand Jvm.Free Jvm.LawKit
section Going
variable {p : Program} {l : Launch} {e : Env} {R : Room} {s : State} {m : MethodId} {args : Array Value} {below : List Frame} {meth : Method} {c : Code} {T T' : State} {locs : List Loc} {cells slots : Nat} {K N : Nat} {Q : Option Value → Heap → List Loc → Prop} {F : Option Value → State → Prop} {g g' : JFrame} {Z : State} {a0 : Array Value} {h : Heap}
/-- from this frame the run comes to the method's return, with what F says of the value and the end -/
def Go (p : Program) (e : Env) (below : List Frame) (F : Option Value → State → Prop) (T : State) (g : JFrame) : Prop :=
  ∃ s₂ o, Steps p.tables e below (T.setTop g) s₂ ∧ s₂.status = .running ∧ Ended s₂ below o ∧ ∃ v, o = .returned v ∧ F v s₂
/-- what is said of an end: Q of the value, the heap and the places written; and the frame -/
def GoEnd (s : State) (K N : Nat) (Q : Option Value → Heap → List Loc → Prop) (v : Option Value) (t : State) : Prop := ∃ L, Q v t.heap L ∧ FrameEnd s (.returned v) t L K N
theorem Go.of (q : ∀ t, Steps p.tables e below (T'.setTop g') t → Steps p.tables e below (T.setTop g) t) (k : Go p e below F T' g') : Go p e below F T g := by
  obtain ⟨s₂, o, h1, r⟩ := k; exact ⟨s₂, o, q _ h1, r⟩
theorem Go.via (q : Steps p.tables e below (T.setTop g) (T'.setTop g')) (k : Go p e below F T' g') : Go p e below F T g := Go.of (fun _ r => q.trans r) k
theorem Go.cast (q : g = g') (k : Go p e below F T g') : Go p e below F T g := q ▸ k
/-- a body's contract out of its walk -/
theorem goBody {y : MethodName} {bytes : ByteArray} {maxL : Nat} {ret : Option FieldType} {ws : List Cond} {rm : Room} {as' : Array Value} (hp : plainFor y = true)
    (body : ∀ p e s m below meth c s₁, p.tables.exec = Jvm.exec → Z.Warmed39 s.vm → c.code = bytes → c.maxLocals = maxL → s.vm.findClass y.cls = some m.cls → meth.name = y.name → meth.sig.returnType = ret → meth.locks = false →
      Stand p l e rm s m as' below meth c s₁ [] 0 0 → s₁.heap = h → Go p e below (GoEnd s rm.cells rm.slots Q) s₁ (entryFrame m as' maxL)) :
    MetFree l y (head1 (Cond.code y bytes maxL ret :: ws) rm) (fun a U => a = as' ∧ Z.Warmed39 U.vm ∧ U.heap = h) (fun _ _ _ _ _ => True) (fun _ U o U' => ∃ v L, o = .returned v ∧ Q v U'.heap L ∧ FrameEnd U o U' L rm.cells rm.slots) := by
  refine MetFree.of_bodySF hp hisR ?_
  intro p e s m args below meth c s₁ Bd hml hP hK
  obtain ⟨rfl, hZ, hh⟩ := hP
  obtain ⟨s₂, o, h1, h2, h3, v, rfl, L, h4, h5⟩ := body p e s m below meth c s₁ Bd.exec hZ Bd.bytes hml (findClass_of_methodNamed Bd.named) (name_of_methodNamed Bd.named Bd.method).1 Bd.returns Bd.notSynchronized (Stand.of_body Bd) (by rw [← hh, Bd.state]; rfl)
  exact ⟨s₂, _, h1, h2, h3, v, L, rfl, h4, h5⟩
theorem Go.retI (X : Stand p l e R s m args below meth c T locs cells slots) (hx : p.tables.exec = Jvm.exec) (hlk : meth.locks = false) {pc : Nat} {Ls : Array Slot} {z : Int32} {rest : List Value} (hret : meth.sig.returnType = some .int) (hd : decode c.code pc = .ok (.ireturn, 1)) (hK : cells ≤ K) (hN : slots ≤ N) (hq : Q (some (.int z)) T.heap locs) : Go p e below (GoEnd s K N Q) T (mkF m pc Ls (.int z :: rest)) := by
  obtain ⟨fs, hr, hrun, hended, hW, hsame⟩ := X.leave (v := some (.int z)) (fun h => by rw [hret] at h; cases h) hlk
  exact ⟨_, _, retOut X hx (t := .int) (i := .ireturn) hret rfl (Or.inl ⟨rfl, Or.inl rfl, z, rfl⟩) hd hr, hrun, hended, _, rfl, _, hq, ⟨_, rfl⟩, hW, hsame.mono hK hN⟩
theorem Go.retN (X : Stand p l e R s m args below meth c T locs cells slots) (hx : p.tables.exec = Jvm.exec) (hlk : meth.locks = false) {pc : Nat} {Ls : Array Slot} {z : Int32} {t : FieldType} {rest : List Value} (hret : meth.sig.returnType = some t) (ht : t = .boolean ∨ t = .byte ∨ t = .char ∨ t = .short) (hd : decode c.code pc = .ok (.ireturn, 1)) (hK : cells ≤ K) (hN : slots ≤ N) (hq : Q (some (.int (nar t z))) T.heap locs) : Go p e below (GoEnd s K N Q) T (mkF m pc Ls (.int z :: rest)) := by
  obtain ⟨fs, hr, hrun, hended, hW, hsame⟩ := X.leave (v := some (.int (nar t z))) (fun h => by rw [hret] at h; cases h) hlk
  exact ⟨_, _, Jvm.RoadKit.retN X hx (t := t) hret ht hd hr, hrun, hended, _, rfl, _, hq, ⟨_, rfl⟩, hW, hsame.mono hK hN⟩
theorem Go.retJ (X : Stand p l e R s m args below meth c T locs cells slots) (hx : p.tables.exec = Jvm.exec) (hlk : meth.locks = false) {pc : Nat} {Ls : Array Slot} {z : Int64} {rest : List Value} (hret : meth.sig.returnType = some .long) (hd : decode c.code pc = .ok (.lreturn, 1)) (hK : cells ≤ K) (hN : slots ≤ N) (hq : Q (some (.long z)) T.heap locs) : Go p e below (GoEnd s K N Q) T (mkF m pc Ls (.long z :: rest)) := by
  obtain ⟨fs, hr, hrun, hended, hW, hsame⟩ := X.leave (v := some (.long z)) (fun h => by rw [hret] at h; cases h) hlk
  exact ⟨_, _, retOut X hx (t := .long) (i := .lreturn) hret rfl (Or.inr (Or.inl ⟨rfl, rfl, z, rfl⟩)) hd hr, hrun, hended, _, rfl, _, hq, ⟨_, rfl⟩, hW, hsame.mono hK hN⟩
theorem Go.retD (X : Stand p l e R s m args below meth c T locs cells slots) (hx : p.tables.exec = Jvm.exec) (hlk : meth.locks = false) {pc : Nat} {Ls : Array Slot} {z : UInt64} {rest : List Value} (hret : meth.sig.returnType = some .double) (hd : decode c.code pc = .ok (.dreturn, 1)) (hK : cells ≤ K) (hN : slots ≤ N) (hq : Q (some (.double z)) T.heap locs) : Go p e below (GoEnd s K N Q) T (mkF m pc Ls (.double z :: rest)) := by
  obtain ⟨fs, hr, hrun, hended, hW, hsame⟩ := X.leave (v := some (.double z)) (fun h => by rw [hret] at h; cases h) hlk
  exact ⟨_, _, retOut X hx (t := .double) (i := .dreturn) hret rfl (Or.inr (Or.inr (Or.inl ⟨rfl, rfl, z, rfl⟩))) hd hr, hrun, hended, _, rfl, _, hq, ⟨_, rfl⟩, hW, hsame.mono hK hN⟩
theorem Go.retA (X : Stand p l e R s m args below meth c T locs cells slots) (hx : p.tables.exec = Jvm.exec) (hlk : meth.locks = false) {pc : Nat} {Ls : Array Slot} {v : Value} {t : FieldType} {rest : List Value} (hret : meth.sig.returnType = some t) (ht : t.isReference = true) (hv : v.isRef = true) (hn : narrow t v = v) (hd : decode c.code pc = .ok (.areturn, 1)) (hK : cells ≤ K) (hN : slots ≤ N) (hq : Q (some v) T.heap locs) : Go p e below (GoEnd s K N Q) T (mkF m pc Ls (v :: rest)) := by
  obtain ⟨fs, hr, hrun, hended, hW, hsame⟩ := X.leave (v := some v) (fun h => by rw [hret] at h; cases h) hlk
  exact ⟨_, _, retOut X hx (t := t) (i := .areturn) hret hn (Or.inr (Or.inr (Or.inr (Or.inr ⟨rfl, ht, hv⟩)))) hd hr, hrun, hended, _, rfl, _, hq, ⟨_, rfl⟩, hW, hsame.mono hK hN⟩
theorem Go.retV (X : Stand p l e R s m args below meth c T locs cells slots) (hx : p.tables.exec = Jvm.exec) (hlk : meth.locks = false) {pc : Nat} {Ls : Array Slot} (hret : meth.sig.returnType = none) (hd : decode c.code pc = .ok (.return_, 1)) (hK : cells ≤ K) (hN : slots ≤ N) (hq : Q none T.heap locs) : Go p e below (GoEnd s K N Q) T (mkF m pc Ls []) := by
  obtain ⟨fs, hr, hrun, hended, hW, hsame⟩ := X.leave (v := none) (fun _ => rfl) hlk
  exact ⟨_, _, X.returnOut hx hret hd hr, hrun, hended, _, rfl, _, hq, ⟨_, rfl⟩, hW, hsame.mono hK hN⟩
/-- what a callee that writes and makes nothing leaves -/
def PQ (h : Heap) (r : Option Value) (v : Option Value) (h' : Heap) (L : List Loc) : Prop := v = r ∧ L = [] ∧ h' = h
/-- a contract in the form in which a call takes it -/
abbrev MetAt (l : Launch) (Z : State) (y : MethodName) (bytes : ByteArray) (maxL : Nat) (ret : Option FieldType) (rm : Room) (as' : Array Value) (h : Heap) (Q : Option Value → Heap → List Loc → Prop) : Prop :=
  MetFree l y (head1 [Cond.code y bytes maxL ret] rm) (fun a U => a = as' ∧ Z.Warmed39 U.vm ∧ U.heap = h) (fun _ _ _ _ _ => True) (fun _ U o U' => ∃ v L, o = .returned v ∧ Q v U'.heap L ∧ FrameEnd U o U' L rm.cells rm.slots)
variable {own : String} {index : Nat} {y z : MethodName} {bytes : ByteArray} {maxL W pc : Nat} {ret : Option FieldType} {rm : Room} {Qc : Option Value → Heap → List Loc → Prop} {argsL rest st : List Value} {Ls : Array Slot}
theorem Go.callS (X : Stand p l e R s m args below meth c T locs cells slots) (hx : p.tables.exec = Jvm.exec) (hZ : Z.Warmed39 s.vm) (hown : s.vm.findClass own = some m.cls)
    (wl : (Cond.methodLink own index y).before a0 Z = true) (ws : (Cond.static y).before a0 Z = true) (wz : (Cond.initialized y.cls).before a0 Z = true) (wc : (Cond.code y bytes maxL ret).before a0 Z = true)
    (hy : y.cls ≠ "java/lang/invoke/MethodHandle" ∧ y.cls ≠ "java/lang/invoke/VarHandle") (hM : MetAt l Z y bytes maxL ret rm argsL.toArray h Qc) (eT : T.heap = h) (hsize : Ls.size = c.maxLocals)
    (hlen : ∀ sig, parseMethodDescriptor y.desc = some sig → argsL.length = sig.parameters.length) (hd : decode c.code pc = .ok (.invokestatic index, 3)) (hst : st = argsL.reverse ++ rest)
    (hW : (rest.map fun v => v.category).sum ≤ W) (hf : rm.frames + 1 ≤ R.frames) (hl : W + (maxL + 11) + rm.locals ≤ R.locals) (hc : cells + rm.cells ≤ R.cells) (hs : slots + rm.slots ≤ R.slots)
    (k : ∀ v T' L', Stand p l e R s m args below meth c T' (locs ++ L') (cells + rm.cells) (slots + rm.slots) → Qc v T'.heap L' → Go p e below F T' (mkF m (pc + 3) Ls (v.toList ++ rest))) : Go p e below F T (mkF m pc Ls st) := by
  obtain ⟨v, vm₁, ⟨T', L', k', n'⟩, -, X', ⟨Lc, hQ, l1, y1, z1⟩, stp⟩ := Jvm.LawKit.callS X hx hown (mvT hZ wl) (mvT hZ ws) (mvT hZ wz) (mvT hZ wc) hy (backOf (W := W) hM hZ wc wz hf hl) (g := mkF m pc Ls st) rfl hsize hlen hst (by show 2 * 0 + _ ≤ _; omega) hd (fun _ _ => ⟨rfl, eT, hc, hs⟩)
  dsimp only [Pt.U, Pt.locs, Pt.cells, Pt.slots] at X' l1 y1 z1 stp hQ
  subst l1 y1 z1
  exact Go.of stp (k v T' Lc X' hQ)
theorem Go.callSP (X : Stand p l e R s m args below meth c T locs cells slots) (hx : p.tables.exec = Jvm.exec) (hZ : Z.Warmed39 s.vm) (hown : s.vm.findClass own = some m.cls)
    (wl : (Cond.methodLink own index y).before a0 Z = true) (ws : (Cond.static y).before a0 Z = true) (wz : (Cond.initialized y.cls).before a0 Z = true) (wc : (Cond.code y bytes maxL ret).before a0 Z = true)
    (hy : y.cls ≠ "java/lang/invoke/MethodHandle" ∧ y.cls ≠ "java/lang/invoke/VarHandle") {r : Option Value} {fr lo : Nat} (hM : MetAt l Z y bytes maxL ret { frames := fr, cells := 0, slots := 0, locals := lo } argsL.toArray h (PQ h r)) (eT : T.heap = h) (hsize : Ls.size = c.maxLocals)
    (hlen : ∀ sig, parseMethodDescriptor y.desc = some sig → argsL.length = sig.parameters.length) (hd : decode c.code pc = .ok (.invokestatic index, 3)) (hst : st = argsL.reverse ++ rest)
    (hW : (rest.map fun v => v.category).sum ≤ W) (hf : fr + 1 ≤ R.frames) (hl : W + (maxL + 11) + lo ≤ R.locals) (hc : cells ≤ R.cells) (hs : slots ≤ R.slots)
    (k : ∀ T', Stand p l e R s m args below meth c T' locs cells slots → T'.heap = h → Go p e below F T' (mkF m (pc + 3) Ls (r.toList ++ rest))) : Go p e below F T (mkF m pc Ls st) := by
  refine Go.callS X hx hZ hown wl ws wz wc hy hM eT hsize hlen hd hst hW hf hl hc hs fun v T' L' X' q => ?_
  obtain ⟨rfl, rfl, e'⟩ := q
  rw [List.append_nil] at X'
  exact k T' X' e'
theorem Go.callI (X : Stand p l e R s m args below meth c T locs cells slots) (hx : p.tables.exec = Jvm.exec) (hZ : Z.Warmed39 s.vm) (hy1 : y.name = "<init>") (hown : s.vm.findClass own = some m.cls)
    (wl : (Cond.methodLink own index y).before a0 Z = true) (wi : (Cond.instanceMethod y).before a0 Z = true) (wz : (Cond.initialized y.cls).before a0 Z = true) (wc : (Cond.code y bytes maxL none).before a0 Z = true)
    (hy : y.cls ≠ "java/lang/invoke/MethodHandle" ∧ y.cls ≠ "java/lang/invoke/VarHandle") {a : Addr} (hM : MetAt l Z y bytes maxL none rm (.ref a :: argsL).toArray h Qc) (eT : T.heap = h) (hsize : Ls.size = c.maxLocals)
    (hlen : ∀ sig, parseMethodDescriptor y.desc = some sig → argsL.length = sig.parameters.length) (hd : decode c.code pc = .ok (.invokespecial index, 3)) (hst : st = argsL.reverse ++ .ref a :: rest)
    (hW : (rest.map fun v => v.category).sum ≤ W) (hf : rm.frames + 1 ≤ R.frames) (hl : W + (maxL + 11) + rm.locals ≤ R.locals) (hc : cells + rm.cells ≤ R.cells) (hs : slots + rm.slots ≤ R.slots)
    (k : ∀ v T' L', Stand p l e R s m args below meth c T' (locs ++ L') (cells + rm.cells) (slots + rm.slots) → Qc v T'.heap L' → Go p e below F T' (mkF m (pc + 3) Ls (v.toList ++ rest))) : Go p e below F T (mkF m pc Ls st) := by
  obtain ⟨v, vm₁, ⟨T', L', k', n'⟩, -, X', ⟨Lc, hQ, l1, y1, z1⟩, stp⟩ := X.specialBack hx hy1 hown (mvT hZ wl) (mvT hZ wi) (mvT hZ wc) hy (backOf (W := W) hM hZ wc wz hf hl) (g := mkF m pc Ls st) rfl hsize (Steps.refl _) (a := a) hlen hst (by show 2 * 0 + _ ≤ _; omega) hd (fun _ _ => ⟨rfl, eT, hc, hs⟩)
  dsimp only [Pt.U, Pt.locs, Pt.cells, Pt.slots] at X' l1 y1 z1 stp hQ
  subst l1 y1 z1
  exact Go.via stp (k v T' Lc X' hQ)
theorem Go.callV (X : Stand p l e R s m args below meth c T locs cells slots) (hx : p.tables.exec = Jvm.exec) (hZ : Z.Warmed39 s.vm) (hown : s.vm.findClass own = some m.cls) {C : String}
    (wl : (Cond.methodLink own index y).before a0 Z = true) (wd : (Cond.declares y).before a0 Z = true) (hnf : NotFace s y) (wse : (Cond.selects C y z).before a0 Z = true) (wi : (Cond.instanceMethod z).before a0 Z = true) (wz : (Cond.initialized z.cls).before a0 Z = true) (wc : (Cond.code z bytes maxL ret).before a0 Z = true)
    (hy : y.cls ≠ "java/lang/invoke/MethodHandle" ∧ y.cls ≠ "java/lang/invoke/VarHandle") {a : Addr} (hM : MetAt l Z z bytes maxL ret rm (.ref a :: argsL).toArray h Qc) (eT : T.heap = h) (hE : Exa Z h a C) (hsize : Ls.size = c.maxLocals)
    (hlen : ∀ sig, parseMethodDescriptor y.desc = some sig → argsL.length = sig.parameters.length) (hd : decode c.code pc = .ok (.invokevirtual index, 3)) (hst : st = argsL.reverse ++ .ref a :: rest)
    (hW : (rest.map fun v => v.category).sum ≤ W) (hf : rm.frames + 1 ≤ R.frames) (hl : W + (maxL + 11) + rm.locals ≤ R.locals) (hc : cells + rm.cells ≤ R.cells) (hs : slots + rm.slots ≤ R.slots)
    (k : ∀ v T' L', Stand p l e R s m args below meth c T' (locs ++ L') (cells + rm.cells) (slots + rm.slots) → Qc v T'.heap L' → Go p e below F T' (mkF m (pc + 3) Ls (v.toList ++ rest))) : Go p e below F T (mkF m pc Ls st) := by
  obtain ⟨cq, kq, q1, q2, q3⟩ := isOf hZ eT hE
  obtain ⟨v, vm₁, ⟨T', L', k', n'⟩, -, X', ⟨Lc, hQ, l1, y1, z1⟩, stp⟩ := X.virtualBack hx (y := y) (z := z) hown (mvT hZ wl) (mvT hZ wd) hnf (mvT hZ wse) (mvT hZ wi) hy (backOf (W := W) hM hZ wc wz hf hl) q1 q3 (g := mkF m pc Ls st) rfl hsize (Steps.refl _) hlen hst (by show 2 * 0 + _ ≤ _; omega) hd (fun _ _ => ⟨rfl, eT, hc, hs⟩)
  dsimp only [Pt.U, Pt.locs, Pt.cells, Pt.slots] at X' l1 y1 z1 stp hQ
  subst l1 y1 z1
  exact Go.via stp (k v T' Lc X' hQ)
theorem Go.callVP (X : Stand p l e R s m args below meth c T locs cells slots) (hx : p.tables.exec = Jvm.exec) (hZ : Z.Warmed39 s.vm) (hown : s.vm.findClass own = some m.cls) {C : String}
    (wl : (Cond.methodLink own index y).before a0 Z = true) (wd : (Cond.declares y).before a0 Z = true) (hnf : NotFace s y) (wse : (Cond.selects C y z).before a0 Z = true) (wi : (Cond.instanceMethod z).before a0 Z = true) (wz : (Cond.initialized z.cls).before a0 Z = true) (wc : (Cond.code z bytes maxL ret).before a0 Z = true)
    (hy : y.cls ≠ "java/lang/invoke/MethodHandle" ∧ y.cls ≠ "java/lang/invoke/VarHandle") {a : Addr} {r : Option Value} {fr lo : Nat} (hM : MetAt l Z z bytes maxL ret { frames := fr, cells := 0, slots := 0, locals := lo } (.ref a :: argsL).toArray h (PQ h r)) (eT : T.heap = h) (hE : Exa Z h a C) (hsize : Ls.size = c.maxLocals)
    (hlen : ∀ sig, parseMethodDescriptor y.desc = some sig → argsL.length = sig.parameters.length) (hd : decode c.code pc = .ok (.invokevirtual index, 3)) (hst : st = argsL.reverse ++ .ref a :: rest)
    (hW : (rest.map fun v => v.category).sum ≤ W) (hf : fr + 1 ≤ R.frames) (hl : W + (maxL + 11) + lo ≤ R.locals) (hc : cells ≤ R.cells) (hs : slots ≤ R.slots)
    (k : ∀ T', Stand p l e R s m args below meth c T' locs cells slots → T'.heap = h → Go p e below F T' (mkF m (pc + 3) Ls (r.toList ++ rest))) : Go p e below F T (mkF m pc Ls st) := by
  refine Go.callV X hx hZ hown wl wd hnf wse wi wz wc hy hM eT hE hsize hlen hd hst hW hf hl hc hs fun v T' L' X' q => ?_
  obtain ⟨rfl, rfl, e'⟩ := q
  rw [List.append_nil] at X'
  exact k T' X' e'
theorem Go.callIP (X : Stand p l e R s m args below meth c T locs cells slots) (hx : p.tables.exec = Jvm.exec) (hZ : Z.Warmed39 s.vm) (hy1 : y.name = "<init>") (hown : s.vm.findClass own = some m.cls)
    (wl : (Cond.methodLink own index y).before a0 Z = true) (wi : (Cond.instanceMethod y).before a0 Z = true) (wz : (Cond.initialized y.cls).before a0 Z = true) (wc : (Cond.code y bytes maxL none).before a0 Z = true)
    (hy : y.cls ≠ "java/lang/invoke/MethodHandle" ∧ y.cls ≠ "java/lang/invoke/VarHandle") {a : Addr} {fr lo : Nat} (hM : MetAt l Z y bytes maxL none { frames := fr, cells := 0, slots := 0, locals := lo } (.ref a :: argsL).toArray h (PQ h none)) (eT : T.heap = h) (hsize : Ls.size = c.maxLocals)
    (hlen : ∀ sig, parseMethodDescriptor y.desc = some sig → argsL.length = sig.parameters.length) (hd : decode c.code pc = .ok (.invokespecial index, 3)) (hst : st = argsL.reverse ++ .ref a :: rest)
    (hW : (rest.map fun v => v.category).sum ≤ W) (hf : fr + 1 ≤ R.frames) (hl : W + (maxL + 11) + lo ≤ R.locals) (hc : cells ≤ R.cells) (hs : slots ≤ R.slots)
    (k : ∀ T', Stand p l e R s m args below meth c T' locs cells slots → T'.heap = h → Go p e below F T' (mkF m (pc + 3) Ls rest)) : Go p e below F T (mkF m pc Ls st) := by
  refine Go.callI X hx hZ hy1 hown wl wi wz wc hy hM eT hsize hlen hd hst hW hf hl hc hs fun v T' L' X' q => ?_
  obtain ⟨rfl, rfl, e'⟩ := q
  rw [List.append_nil] at X'
  exact k T' X' e'
end Going
end Jvm.RoadKit
namespace Jvm.RoadKit
open Sem ClassFile Op Lib Jvm.Stand Jvm.Free Jvm.LawKit
section Heaping
variable {p : Program} {l : Launch} {e : Env} {R : Room} {s : State} {m : MethodId} {args : Array Value} {below : List Frame} {meth : Method} {c : Code} {T : State} {locs : List Loc} {cells slots : Nat} {Fi : Option Value → State → Prop} {Z : State} {a0 : Array Value} {h : Heap} {a : Addr} {k : ClassId} {ty : FieldType} {z j x : Int32} {vs rest st : List Value} {dv v : Value} {pc : Nat} {Ls : Array Slot} {own C O n d host : String} {index nn : Nat}
theorem Arv.load (F : Arv Z h a k ty z vs dv) (hj : ¬ j < 0 ∧ j < z) : ∃ cl, Arr Z h a cl ty ∧ ¬ (j < 0 ∨ cl.slots.size ≤ j.toNatClampNeg) ∧ cl.slots[j.toNatClampNeg]? = some (vs.getD j.toNatClampNeg dv) := by
  obtain ⟨cl, A, -, S, -, H, -⟩ := F
  exact ⟨cl, A, inb_of S hj, H.at (inb_of S hj) rfl⟩
theorem Go.iaload (X : Stand p l e R s m args below meth c T locs cells slots) (hx : p.tables.exec = Jvm.exec) (hZ : Z.Warmed39 s.vm) (eT : T.heap = h) (F : Arv Z h a k .int z vs dv) (hj : ¬ j < 0 ∧ j < z) (hv : vs.getD j.toNatClampNeg dv = v) (hd : decode c.code pc = .ok (.iaload, 1)) (kk : Go p e below Fi T (mkF m (pc + 1) Ls (v :: rest))) : Go p e below Fi T (mkF m pc Ls (.int j :: .ref a :: rest)) := by
  obtain ⟨cl, A, i1, i2⟩ := F.load hj
  rw [hv] at i2
  exact Go.of (fun t q => X.iaload hx (by rw [eT]; exact A.1) (State.isArrayOf_alike hZ.alike A.2.1) A.2.2 i1 i2 (g := mkF m pc Ls (.int j :: .ref a :: rest)) rfl rfl hd t q) kk
theorem Go.laload (X : Stand p l e R s m args below meth c T locs cells slots) (hx : p.tables.exec = Jvm.exec) (hZ : Z.Warmed39 s.vm) (eT : T.heap = h) (F : Arv Z h a k .long z vs dv) (hj : ¬ j < 0 ∧ j < z) (hv : vs.getD j.toNatClampNeg dv = v) (hd : decode c.code pc = .ok (.laload, 1)) (kk : Go p e below Fi T (mkF m (pc + 1) Ls (v :: rest))) : Go p e below Fi T (mkF m pc Ls (.int j :: .ref a :: rest)) := by
  obtain ⟨cl, A, i1, i2⟩ := F.load hj
  rw [hv] at i2
  exact Go.of (fun t q => X.laload hx (by rw [eT]; exact A.1) (State.isArrayOf_alike hZ.alike A.2.1) A.2.2 i1 i2 (g := mkF m pc Ls (.int j :: .ref a :: rest)) rfl rfl hd t q) kk
theorem Go.baload (X : Stand p l e R s m args below meth c T locs cells slots) (hx : p.tables.exec = Jvm.exec) (hZ : Z.Warmed39 s.vm) (eT : T.heap = h) (F : Arv Z h a k .byte z vs dv) (hj : ¬ j < 0 ∧ j < z) (hv : vs.getD j.toNatClampNeg dv = v) (hd : decode c.code pc = .ok (.baload, 1)) (kk : Go p e below Fi T (mkF m (pc + 1) Ls (v :: rest))) : Go p e below Fi T (mkF m pc Ls (.int j :: .ref a :: rest)) := by
  obtain ⟨cl, A, i1, i2⟩ := F.load hj
  rw [hv] at i2
  exact Go.of (fun t q => X.baloadBytes hx (by rw [eT]; exact A.1) (State.isArrayOf_alike hZ.alike A.2.1) A.2.2 i1 i2 (g := mkF m pc Ls (.int j :: .ref a :: rest)) rfl rfl hd t q) kk
theorem Go.caload (X : Stand p l e R s m args below meth c T locs cells slots) (hx : p.tables.exec = Jvm.exec) (hZ : Z.Warmed39 s.vm) (eT : T.heap = h) (F : Arv Z h a k .char z vs dv) (hj : ¬ j < 0 ∧ j < z) (hv : vs.getD j.toNatClampNeg dv = v) (hd : decode c.code pc = .ok (.caload, 1)) (kk : Go p e below Fi T (mkF m (pc + 1) Ls (v :: rest))) : Go p e below Fi T (mkF m pc Ls (.int j :: .ref a :: rest)) := by
  obtain ⟨cl, A, i1, i2⟩ := F.load hj
  rw [hv] at i2
  exact Go.of (fun t q => X.caload hx (by rw [eT]; exact A.1) (State.isArrayOf_alike hZ.alike A.2.1) A.2.2 i1 i2 (g := mkF m pc Ls (.int j :: .ref a :: rest)) rfl rfl hd t q) kk
theorem Go.aaload (X : Stand p l e R s m args below meth c T locs cells slots) (hx : p.tables.exec = Jvm.exec) (hZ : Z.Warmed39 s.vm) (eT : T.heap = h) (F : Arv Z h a k ty z vs dv) (hty : ty.isReference = true) (hj : ¬ j < 0 ∧ j < z) (hv : vs.getD j.toNatClampNeg dv = v) (hd : decode c.code pc = .ok (.aaload, 1)) (kk : Go p e below Fi T (mkF m (pc + 1) Ls (v :: rest))) : Go p e below Fi T (mkF m pc Ls (.int j :: .ref a :: rest)) := by
  obtain ⟨cl, A, i1, i2⟩ := F.load hj
  rw [hv] at i2
  exact Go.of (fun t q => X.aaload hx (by rw [eT]; exact A.1) (State.isArrayOf_alike hZ.alike A.2.1) hty A.2.2 i1 i2 (g := mkF m pc Ls (.int j :: .ref a :: rest)) rfl rfl hd t q) kk
theorem Go.daload (X : Stand p l e R s m args below meth c T locs cells slots) (hx : p.tables.exec = Jvm.exec) (hZ : Z.Warmed39 s.vm) (eT : T.heap = h) (F : Arv Z h a k .double z vs dv) (hj : ¬ j < 0 ∧ j < z) (hv : vs.getD j.toNatClampNeg dv = v) (hd : decode c.code pc = .ok (.daload, 1)) (kk : Go p e below Fi T (mkF m (pc + 1) Ls (v :: rest))) : Go p e below Fi T (mkF m pc Ls (.int j :: .ref a :: rest)) := by
  obtain ⟨cl, A, i1, i2⟩ := F.load hj
  rw [hv] at i2
  exact Go.of (fun t q => X.daload hx (by rw [eT]; exact A.1) (State.isArrayOf_alike hZ.alike A.2.1) A.2.2 i1 i2 (g := mkF m pc Ls (.int j :: .ref a :: rest)) rfl rfl hd t q) kk
theorem Go.dastore {x : UInt64} (X : Stand p l e R s m args below meth c T locs cells slots) (hx : p.tables.exec = Jvm.exec) (hZ : Z.Warmed39 s.vm) (eT : T.heap = h) (F : Arv Z h a k .double z vs dv) (hj : ¬ j < 0 ∧ j < z) (i : Nat) (hji : j.toNatClampNeg = i) (hi : i < vs.length) (hd : decode c.code pc = .ok (.dastore, 1))
    (kk : ∀ T' h', Stand p l e R s m args below meth c T' (locs ++ [⟨a, i⟩]) cells slots → T'.heap = h' → Wr h h' a i (.double x) → Arv Z h' a k .double z (vs.set i (.double x)) dv → Go p e below Fi T' (mkF m (pc + 1) Ls rest)) : Go p e below Fi T (mkF m pc Ls (.double x :: .int j :: .ref a :: rest)) := by
  obtain ⟨cl, A, q, S, M, H, G⟩ := F
  subst hji
  obtain ⟨T', h', X', e', W', st⟩ := stD X hx hZ eT A (inb_of S hj) (g := mkF m pc Ls (.double x :: .int j :: .ref a :: rest)) rfl rfl hd
  exact Go.of st (kk T' h' X' e' W' (Arv.set A q S M H G rfl W' _ rfl hi))
theorem Go.len (X : Stand p l e R s m args below meth c T locs cells slots) (hx : p.tables.exec = Jvm.exec) (hZ : Z.Warmed39 s.vm) (eT : T.heap = h) (F : Arv Z h a k ty z vs dv) (hd : decode c.code pc = .ok (.arraylength, 1)) (kk : Go p e below Fi T (mkF m (pc + 1) Ls (.int z :: rest))) : Go p e below Fi T (mkF m pc Ls (.ref a :: rest)) := by
  obtain ⟨cl, A, -, S, M, -, -⟩ := F
  exact Go.of (fun t q => X.arraylength hx (a := a) (cell := cl) (ty := ty) (by rw [eT]; exact A.1) (State.isArrayOf_alike hZ.alike A.2.1) (g := mkF m pc Ls (.ref a :: rest)) rfl (rest := rest) rfl hd t (by rw [len_of S M]; exact q)) kk
theorem Go.iastore (X : Stand p l e R s m args below meth c T locs cells slots) (hx : p.tables.exec = Jvm.exec) (hZ : Z.Warmed39 s.vm) (eT : T.heap = h) (F : Arv Z h a k .int z vs dv) (hj : ¬ j < 0 ∧ j < z) (i : Nat) (hji : j.toNatClampNeg = i) (hi : i < vs.length) (hd : decode c.code pc = .ok (.iastore, 1))
    (kk : ∀ T' h', Stand p l e R s m args below meth c T' (locs ++ [⟨a, i⟩]) cells slots → T'.heap = h' → Wr h h' a i (.int x) → Arv Z h' a k .int z (vs.set i (.int x)) dv → Go p e below Fi T' (mkF m (pc + 1) Ls rest)) : Go p e below Fi T (mkF m pc Ls (.int x :: .int j :: .ref a :: rest)) := by
  obtain ⟨cl, A, q, S, M, H, G⟩ := F
  subst hji
  obtain ⟨T', h', X', e', W', st⟩ := stI X hx hZ eT A (inb_of S hj) (g := mkF m pc Ls (.int x :: .int j :: .ref a :: rest)) rfl rfl hd
  exact Go.of st (kk T' h' X' e' W' (Arv.set A q S M H G rfl W' _ rfl hi))
theorem Go.lastore {x : Int64} (X : Stand p l e R s m args below meth c T locs cells slots) (hx : p.tables.exec = Jvm.exec) (hZ : Z.Warmed39 s.vm) (eT : T.heap = h) (F : Arv Z h a k .long z vs dv) (hj : ¬ j < 0 ∧ j < z) (i : Nat) (hji : j.toNatClampNeg = i) (hi : i < vs.length) (hd : decode c.code pc = .ok (.lastore, 1))
    (kk : ∀ T' h', Stand p l e R s m args below meth c T' (locs ++ [⟨a, i⟩]) cells slots → T'.heap = h' → Wr h h' a i (.long x) → Arv Z h' a k .long z (vs.set i (.long x)) dv → Go p e below Fi T' (mkF m (pc + 1) Ls rest)) : Go p e below Fi T (mkF m pc Ls (.long x :: .int j :: .ref a :: rest)) := by
  obtain ⟨cl, A, q, S, M, H, G⟩ := F
  subst hji
  obtain ⟨T', h', X', e', W', st⟩ := stJ X hx hZ eT A (inb_of S hj) (g := mkF m pc Ls (.long x :: .int j :: .ref a :: rest)) rfl rfl hd
  exact Go.of st (kk T' h' X' e' W' (Arv.set A q S M H G rfl W' _ rfl hi))
theorem Go.bastore (X : Stand p l e R s m args below meth c T locs cells slots) (hx : p.tables.exec = Jvm.exec) (hZ : Z.Warmed39 s.vm) (eT : T.heap = h) (F : Arv Z h a k .byte z vs dv) (hj : ¬ j < 0 ∧ j < z) (i : Nat) (hji : j.toNatClampNeg = i) (hi : i < vs.length) (hd : decode c.code pc = .ok (.bastore, 1))
    (kk : ∀ T' h', Stand p l e R s m args below meth c T' (locs ++ [⟨a, i⟩]) cells slots → T'.heap = h' → Wr h h' a i (.int (nar .byte x)) → Arv Z h' a k .byte z (vs.set i (.int (nar .byte x))) dv → Go p e below Fi T' (mkF m (pc + 1) Ls rest)) : Go p e below Fi T (mkF m pc Ls (.int x :: .int j :: .ref a :: rest)) := by
  obtain ⟨cl, A, q, S, M, H, G⟩ := F
  subst hji
  obtain ⟨T', h', X', e', W', st⟩ := stB X hx hZ eT A (inb_of S hj) (g := mkF m pc Ls (.int x :: .int j :: .ref a :: rest)) rfl rfl hd
  exact Go.of st (kk T' h' X' e' W' (Arv.set A q S M H G (fits_nar_byte _) W' _ rfl hi))
theorem Go.castore (X : Stand p l e R s m args below meth c T locs cells slots) (hx : p.tables.exec = Jvm.exec) (hZ : Z.Warmed39 s.vm) (eT : T.heap = h) (F : Arv Z h a k .char z vs dv) (hj : ¬ j < 0 ∧ j < z) (i : Nat) (hji : j.toNatClampNeg = i) (hi : i < vs.length) (hd : decode c.code pc = .ok (.castore, 1))
    (kk : ∀ T' h', Stand p l e R s m args below meth c T' (locs ++ [⟨a, i⟩]) cells slots → T'.heap = h' → Wr h h' a i (.int (nar .char x)) → Arv Z h' a k .char z (vs.set i (.int (nar .char x))) dv → Go p e below Fi T' (mkF m (pc + 1) Ls rest)) : Go p e below Fi T (mkF m pc Ls (.int x :: .int j :: .ref a :: rest)) := by
  obtain ⟨cl, A, q, S, M, H, G⟩ := F
  subst hji
  obtain ⟨T', h', X', e', W', st⟩ := stC X hx hZ eT A (inb_of S hj) (g := mkF m pc Ls (.int x :: .int j :: .ref a :: rest)) rfl rfl hd
  exact Go.of st (kk T' h' X' e' W' (Arv.set A q S M H G (fits_nar_char _) W' _ rfl hi))
theorem Go.newarr (X : Stand p l e R s m args below meth c T locs cells slots) (hx : p.tables.exec = Jvm.exec) (hZ : Z.Warmed39 s.vm) {aty : ArrayType} (w : (Cond.arrayClass (newarray.typeOf aty)).before a0 Z = true) (eT : T.heap = h) (cap : Nat) (hn : ¬ z < 0) (hcap : z.toNatClampNeg = cap) (hb : cap * 8 ≤ 536870912) (hc : cells + 1 ≤ R.cells) (hl : slots + cap ≤ R.slots) (hd : decode c.code pc = .ok (.newarray aty, 2))
    (kk : ∀ T' h' b k, b = h.size → Stand p l e R s m args below meth c T' locs (cells + 1) (slots + cap) → T'.heap = h' → Ext h h' → Arv Z h' b k (newarray.typeOf aty) z (List.replicate cap (defaultValue (newarray.typeOf aty))) (defaultValue (newarray.typeOf aty)) → Go p e below Fi T' (mkF m (pc + 2) Ls (.ref b :: rest))) : Go p e below Fi T (mkF m pc Ls (.int z :: rest)) := by
  obtain ⟨T', h', kA, X', e', E', A', st⟩ := newP X hx hZ w eT (g := mkF m pc Ls (.int z :: rest)) rfl hd rfl hn (cap := cap) (Nat.le_of_eq hcap) hb hc hl
  exact Go.of st (kk T' h' _ kA rfl X' e' E' ((Arv.new A' hn).pad (pad_rep [] _ cap)))
theorem Go.newarrE (X : Stand p l e R s m args below meth c T locs cells slots) (hx : p.tables.exec = Jvm.exec) (hZ : Z.Warmed39 s.vm) {aty : ArrayType} {ad : String} (had : "[" ++ (newarray.typeOf aty).toString = ad) (w : (Cond.arrayClass (newarray.typeOf aty)).before a0 Z = true) (eT : T.heap = h) (cap : Nat) (hn : ¬ z < 0) (hcap : z.toNatClampNeg = cap) (hb : cap * 8 ≤ 536870912) (hc : cells + 1 ≤ R.cells) (hl : slots + cap ≤ R.slots) (hd : decode c.code pc = .ok (.newarray aty, 2))
    (kk : ∀ T' h' b k, b = h.size → Stand p l e R s m args below meth c T' locs (cells + 1) (slots + cap) → T'.heap = h' → Ext h h' → Arv Z h' b k (newarray.typeOf aty) z (List.replicate cap (defaultValue (newarray.typeOf aty))) (defaultValue (newarray.typeOf aty)) → Exa Z h' b ad → Go p e below Fi T' (mkF m (pc + 2) Ls (.ref b :: rest))) : Go p e below Fi T (mkF m pc Ls (.int z :: rest)) := by
  obtain ⟨T', h', kA, X', e', E', A', EA, st⟩ := newPE X hx hZ w eT (g := mkF m pc Ls (.int z :: rest)) rfl hd rfl hn (cap := cap) (Nat.le_of_eq hcap) hb hc hl had
  exact Go.of st (kk T' h' _ kA rfl X' e' E' ((Arv.new A' hn).pad (pad_rep [] _ cap)) EA)
theorem Go.clone (X : Stand p l e R s m args below meth c T locs cells slots) (hx : p.tables.exec = Jvm.exec) (hZ : Z.Warmed39 s.vm) {ad : String} (hown : s.vm.findClass own = some m.cls)
    (w1 : (Cond.methodLink own index ⟨ad, "clone", "()Ljava/lang/Object;"⟩).before a0 Z = true) (w2 : (Cond.sameMethod ad "java/lang/Object" "clone" "()Ljava/lang/Object;").before a0 Z = true) (w3 : (Cond.native ⟨"java/lang/Object", "clone", "()Ljava/lang/Object;"⟩).before a0 Z = true)
    (w4 : (Cond.instanceMethod ⟨"java/lang/Object", "clone", "()Ljava/lang/Object;"⟩).before a0 Z = true) (w5 : (Cond.selects ad ⟨ad, "clone", "()Ljava/lang/Object;"⟩ ⟨"java/lang/Object", "clone", "()Ljava/lang/Object;"⟩).before a0 Z = true) (w6 : (Cond.castable ad "java/lang/Cloneable").before a0 Z = true)
    (eT : T.heap = h) (F : Arv Z h a k ty z vs dv) (E : Exa Z h a ad) (hsize : Ls.size = c.maxLocals) (hd : decode c.code pc = .ok (.invokevirtual index, 3)) (hf : 1 ≤ R.frames) {W cap : Nat} (hW : (rest.map fun v => v.category).sum ≤ W) (hl : W + 14 ≤ R.locals) (hcap : z.toNatClampNeg ≤ cap) (hc : cells + 1 ≤ R.cells) (hsl : slots + cap ≤ R.slots)
    (kk : ∀ T' h' b, b = h.size → Stand p l e R s m args below meth c T' locs (cells + 1) (slots + cap) → T'.heap = h' → Ext h h' → Arv Z h' b k ty z vs dv → Exa Z h' b ad → Go p e below Fi T' (mkF m (pc + 3) Ls (.ref b :: rest))) : Go p e below Fi T (mkF m pc Ls (.ref a :: rest)) := by
  obtain ⟨cl, A, q1, S, q3, H, G⟩ := F
  have FC : FitC Z cl := fitC_of A fun i hi v hv => by rw [H i hi] at hv; cases hv; exact G i hi
  obtain ⟨T', h', X', e', ex, A', E', st⟩ := cloneA X hx hZ hown w1 w2 w3 w4 w5 w6 eT A E FC (g := mkF m pc Ls (.ref a :: rest)) rfl hsize rfl hd hf (by show 2 * 0 + _ ≤ W; omega) hl (by rw [S]; exact hcap) hc hsl
  exact Go.of st (kk T' h' _ rfl X' e' ex ⟨cloneOf cl, A', q1, S, q3, H, G⟩ E')
theorem Go.castTo (X : Stand p l e R s m args below meth c T locs cells slots) (hx : p.tables.exec = Jvm.exec) (hZ : Z.Warmed39 s.vm) (hown : s.vm.findClass own = some m.cls) {K : String} (w : (Cond.classLink own index K).before a0 Z = true) (eT : T.heap = h) (I : Ins Z h a K true) (hd : decode c.code pc = .ok (.checkcast index, 3))
    (kk : ∀ T', Stand p l e R s m args below meth c T' locs cells slots → T'.heap = h → Go p e below Fi T' (mkF m (pc + 3) Ls (.ref a :: rest))) : Go p e below Fi T (mkF m pc Ls (.ref a :: rest)) := by
  obtain ⟨T', X', e', st⟩ := castY X hx hZ hown w eT I (g := mkF m pc Ls (.ref a :: rest)) rfl rfl hd
  exact Go.of st (kk T' X' e')
theorem Go.new (X : Stand p l e R s m args below meth c T locs cells slots) (hx : p.tables.exec = Jvm.exec) (hZ : Z.Warmed39 s.vm) (hown : s.vm.findClass own = some m.cls) (w : (Cond.classLink own index C).before a0 Z = true) (wi : (Cond.instantiable C nn).before a0 Z = true) (wz : (Cond.initialized C).before a0 Z = true) (eT : T.heap = h) (hd : decode c.code pc = .ok (.new index, 3)) (hc : cells + 1 ≤ R.cells) (hl : slots + nn ≤ R.slots)
    (kk : ∀ T' h' b, b = h.size → Stand p l e R s m args below meth c T' locs (cells + 1) (slots + nn) → T'.heap = h' → Ext h h' → Exa Z h' b C → (∀ {O nm d : String} {ty : FieldType}, Laid Z a0 C O nm d → parseFieldDescriptor d = some ty → Fld Z h' b O nm d (defaultValue ty)) → Go p e below Fi T' (mkF m (pc + 3) Ls (.ref b :: st))) : Go p e below Fi T (mkF m pc Ls st) := by
  obtain ⟨T', h', X', e', E', A', D', -, stp⟩ := newO X hx hZ hown w wi wz eT (g := mkF m pc Ls st) rfl hd hc hl
  exact Go.of stp (kk T' h' _ rfl X' e' E' A' D')
theorem Go.getf (X : Stand p l e R s m args below meth c T locs cells slots) (hx : p.tables.exec = Jvm.exec) (hZ : Z.Warmed39 s.vm) (hown : s.vm.findClass own = some m.cls) {R0 : String} (w : (Cond.fieldLink own index R0 n d).before a0 Z = true) (via : Via Z R0 O n d) (eT : T.heap = h) (F : Fld Z h a O n d v) (hd : decode c.code pc = .ok (.getfield index, 3))
    (kk : ∀ T', Stand p l e R s m args below meth c T' locs cells slots → T'.heap = h → Go p e below Fi T' (mkF m (pc + 3) Ls (v :: rest))) : Go p e below Fi T (mkF m pc Ls (.ref a :: rest)) := by
  obtain ⟨T', X', e', st⟩ := getF X hx hZ hown (host := "") (Or.inl w) via eT F (g := mkF m pc Ls (.ref a :: rest)) rfl rfl hd
  exact Go.of st (kk T' X' e')
theorem Go.gets (X : Stand p l e R s m args below meth c T locs cells slots) (hx : p.tables.exec = Jvm.exec) (hZ : Z.Warmed39 s.vm) (hown : s.vm.findClass own = some m.cls) {R0 : String} (w : (Cond.fieldLink own index R0 n d).before a0 Z = true) (via : Via Z R0 O n d) (eT : T.heap = h) (F : Sta Z h O n d v) (hd : decode c.code pc = .ok (.getstatic index, 3))
    (kk : ∀ T', Stand p l e R s m args below meth c T' locs cells slots → T'.heap = h → Go p e below Fi T' (mkF m (pc + 3) Ls (v :: st))) : Go p e below Fi T (mkF m pc Ls st) := by
  obtain ⟨T', X', e', stp⟩ := getS2 X hx hZ hown (host := "") (Or.inl w) via eT F (g := mkF m pc Ls st) rfl hd
  exact Go.of stp (kk T' X' e')
theorem Go.putf (X : Stand p l e R s m args below meth c T locs cells slots) (hx : p.tables.exec = Jvm.exec) (hZ : Z.Warmed39 s.vm) (hown : s.vm.findClass own = some m.cls) {R0 : String} (w : (Cond.fieldLink own index R0 n d).before a0 Z = true) (via : Via Z R0 O n d) (eT : T.heap = h) {old : Value} (F : Fld Z h a O n d old) (E : Exa Z h a C) (L : (Cond.lays C O n d).before a0 Z = true ∨ ((Cond.laysFinal C O n d).before a0 Z = true ∧ own = O ∧ meth.name = "<init>")) (wi : (Cond.instantiable C nn).before a0 Z = true) (hty : parseFieldDescriptor d = some ty) {v' : Value} (hn : narrow ty v = v') (hf : fits ty v' = true) (hd : decode c.code pc = .ok (.putfield index, 3))
    (kk : ∀ T' h', Stand p l e R s m args below meth c T' (locs ++ [⟨a, slotOf Z O n d⟩]) cells slots → T'.heap = h' → Wr h h' a (slotOf Z O n d) v' → Fld Z h' a O n d v' → Exa Z h' a C → Go p e below Fi T' (mkF m (pc + 3) Ls rest)) : Go p e below Fi T (mkF m pc Ls (v :: .ref a :: rest)) := by
  obtain ⟨T', h', X', e', W', st⟩ := putFN X hx hZ hown w via eT F E L wi hty hn hf (g := mkF m pc Ls (v :: .ref a :: rest)) rfl rfl hd
  exact Go.of st (kk T' h' X' e' W' (F.same W') (E.wr W'))
theorem Go.initObj (X : Stand p l e R s m args below meth c T locs cells slots) (hx : p.tables.exec = Jvm.exec) (hZ : Z.Warmed39 s.vm) (hown : s.vm.findClass own = some m.cls) (w1 : (Cond.methodLink own index Lib.objectInit).before a0 Z = true) (w2 : (Cond.instanceMethod Lib.objectInit).before a0 Z = true) (w3 : (Cond.code Lib.objectInit ⟨#[0xb1]⟩ 1 none).before a0 Z = true) (eT : T.heap = h) (hsize : Ls.size = c.maxLocals) (hd : decode c.code pc = .ok (.invokespecial index, 3)) (hf : 1 ≤ R.frames) {W : Nat} (hW : (rest.map fun v => v.category).sum ≤ W) (hl : W + 12 ≤ R.locals)
    (kk : ∀ T', Stand p l e R s m args below meth c T' locs cells slots → T'.heap = h → Go p e below Fi T' (mkF m (pc + 3) Ls rest)) : Go p e below Fi T (mkF m pc Ls (.ref a :: rest)) := by
  obtain ⟨T', X', e', st⟩ := initO X hx hZ hown w1 w2 w3 eT (g := mkF m pc Ls (.ref a :: rest)) rfl hsize rfl hd hf (W := W) (by show 2 * 0 + _ ≤ _; omega) hl
  exact Go.of st (kk T' X' e')
end Heaping
end Jvm.RoadKit
namespace Jvm.RoadKit
open Sem ClassFile Op Lib Jvm.Stand Jvm.Free Jvm.LawKit
section Fast
variable {p : Program} {l : Launch} {e : Env} {R : Room} {s : State} {m : MethodId} {args : Array Value} {below : List Frame} {meth : Method} {c : Code} {T : State} {locs : List Loc} {cells slots : Nat} {Fi : Option Value → State → Prop} {pc : Nat} {Ls l' : Array Slot} {st : List Value} {bs : ByteArray} {x y v : Int32} {u w : Value} {k : Nat} {kf : Fin 4} {i o : Int} {cd : ClassFile.Cond} {b : Addr}
theorem Go.iload (X : Stand p l e R s m args below meth c T locs cells slots) (hx : p.tables.exec = Jvm.exec) (hby : c.code = bs) (hd : decode bs pc = .ok (.iload k, 2)) (hl : Ls[k]? = some (.val (.int v))) (kk : Go p e below Fi T (mkF m (pc + 2) Ls (.int v :: st))) : Go p e below Fi T (mkF m pc Ls st) := by subst hby; exact Go.of (fun _ kz => XS.iload X.here hx rfl hd hl kz) kk
theorem Go.iloadN (X : Stand p l e R s m args below meth c T locs cells slots) (hx : p.tables.exec = Jvm.exec) (hby : c.code = bs) (hd : decode bs pc = .ok (.iload_n kf, 1)) (hl : Ls[kf.val]? = some (.val (.int v))) (kk : Go p e below Fi T (mkF m (pc + 1) Ls (.int v :: st))) : Go p e below Fi T (mkF m pc Ls st) := by subst hby; exact Go.of (fun _ kz => XS.iloadN X.here hx rfl hd hl kz) kk
theorem Go.aload (X : Stand p l e R s m args below meth c T locs cells slots) (hx : p.tables.exec = Jvm.exec) (hby : c.code = bs) (hd : decode bs pc = .ok (.aload k, 2)) (hl : Ls[k]? = some (.val u)) (hv : u.isRef = true) (kk : Go p e below Fi T (mkF m (pc + 2) Ls (u :: st))) : Go p e below Fi T (mkF m pc Ls st) := by subst hby; exact Go.of (fun _ kz => XS.aload X.here hx rfl hd hl hv kz) kk
theorem Go.aloadN (X : Stand p l e R s m args below meth c T locs cells slots) (hx : p.tables.exec = Jvm.exec) (hby : c.code = bs) (hd : decode bs pc = .ok (.aload_n kf, 1)) (hl : Ls[kf.val]? = some (.val u)) (hv : u.isRef = true) (kk : Go p e below Fi T (mkF m (pc + 1) Ls (u :: st))) : Go p e below Fi T (mkF m pc Ls st) := by subst hby; exact Go.of (fun _ kz => XS.aloadN X.here hx rfl hd hl hv kz) kk
theorem Go.istore (X : Stand p l e R s m args below meth c T locs cells slots) (hx : p.tables.exec = Jvm.exec) (hby : c.code = bs) (hd : decode bs pc = .ok (.istore k, 2)) (hl : storeLocals Ls k (.int x) = some l') (kk : Go p e below Fi T (mkF m (pc + 2) l' st)) : Go p e below Fi T (mkF m pc Ls (.int x :: st)) := by subst hby; exact Go.of (fun _ kz => XS.istore X.here hx rfl hd rfl hl kz) kk
theorem Go.istoreN (X : Stand p l e R s m args below meth c T locs cells slots) (hx : p.tables.exec = Jvm.exec) (hby : c.code = bs) (hd : decode bs pc = .ok (.istore_n kf, 1)) (hl : storeLocals Ls kf.val (.int x) = some l') (kk : Go p e below Fi T (mkF m (pc + 1) l' st)) : Go p e below Fi T (mkF m pc Ls (.int x :: st)) := by subst hby; exact Go.of (fun _ kz => XS.istoreN X.here hx rfl hd rfl hl kz) kk
theorem Go.astore (X : Stand p l e R s m args below meth c T locs cells slots) (hx : p.tables.exec = Jvm.exec) (hby : c.code = bs) (hd : decode bs pc = .ok (.astore k, 2)) (hv : u.isRef = true) (hl : storeLocals Ls k u = some l') (kk : Go p e below Fi T (mkF m (pc + 2) l' st)) : Go p e below Fi T (mkF m pc Ls (u :: st)) := by subst hby; exact Go.of (fun _ kz => XS.astore X.here hx rfl hd rfl hv hl kz) kk
theorem Go.astoreN (X : Stand p l e R s m args below meth c T locs cells slots) (hx : p.tables.exec = Jvm.exec) (hby : c.code = bs) (hd : decode bs pc = .ok (.astore_n kf, 1)) (hv : u.isRef = true) (hl : storeLocals Ls kf.val u = some l') (kk : Go p e below Fi T (mkF m (pc + 1) l' st)) : Go p e below Fi T (mkF m pc Ls (u :: st)) := by subst hby; exact Go.of (fun _ kz => XS.astoreN X.here hx rfl hd rfl hv hl kz) kk
theorem Go.iconst (v : Int32) (X : Stand p l e R s m args below meth c T locs cells slots) (hx : p.tables.exec = Jvm.exec) (hby : c.code = bs) (hd : decode bs pc = .ok (.iconst i, 1)) (hv : Int32.ofInt i = v) (kk : Go p e below Fi T (mkF m (pc + 1) Ls (.int v :: st))) : Go p e below Fi T (mkF m pc Ls st) := by subst hby; subst hv; exact Go.of (fun _ kz => XS.iconst X.here hx rfl hd kz) kk
theorem Go.bipush (v : Int32) (X : Stand p l e R s m args below meth c T locs cells slots) (hx : p.tables.exec = Jvm.exec) (hby : c.code = bs) (hd : decode bs pc = .ok (.bipush i, 2)) (hv : (Int8.ofInt i).toInt32 = v) (kk : Go p e below Fi T (mkF m (pc + 2) Ls (.int v :: st))) : Go p e below Fi T (mkF m pc Ls st) := by subst hby; subst hv; exact Go.of (fun _ kz => XS.bipush X.here hx rfl hd kz) kk
theorem Go.sipush (v : Int32) (X : Stand p l e R s m args below meth c T locs cells slots) (hx : p.tables.exec = Jvm.exec) (hby : c.code = bs) (hd : decode bs pc = .ok (.sipush i, 3)) (hv : (Int16.ofInt i).toInt32 = v) (kk : Go p e below Fi T (mkF m (pc + 3) Ls (.int v :: st))) : Go p e below Fi T (mkF m pc Ls st) := by subst hby; subst hv; exact Go.of (fun _ kz => XS.sipush X.here hx rfl hd kz) kk
theorem Go.aconstNull (X : Stand p l e R s m args below meth c T locs cells slots) (hx : p.tables.exec = Jvm.exec) (hby : c.code = bs) (hd : decode bs pc = .ok (.aconst_null, 1)) (kk : Go p e below Fi T (mkF m (pc + 1) Ls (.null :: st))) : Go p e below Fi T (mkF m pc Ls st) := by subst hby; exact Go.of (fun _ kz => XS.aconstNull X.here hx rfl hd kz) kk
theorem Go.dup (X : Stand p l e R s m args below meth c T locs cells slots) (hx : p.tables.exec = Jvm.exec) (hby : c.code = bs) (hd : decode bs pc = .ok (.dup, 1)) (hc : u.category = 1) (kk : Go p e below Fi T (mkF m (pc + 1) Ls (u :: u :: st))) : Go p e below Fi T (mkF m pc Ls (u :: st)) := by subst hby; exact Go.of (fun _ kz => XS.dup X.here hx rfl hd rfl hc kz) kk
theorem Go.dupX1 (X : Stand p l e R s m args below meth c T locs cells slots) (hx : p.tables.exec = Jvm.exec) (hby : c.code = bs) (hd : decode bs pc = .ok (.dup_x1, 1)) (hc : u.category = 1) (hc2 : w.category = 1) (kk : Go p e below Fi T (mkF m (pc + 1) Ls (u :: w :: u :: st))) : Go p e below Fi T (mkF m pc Ls (u :: w :: st)) := by subst hby; exact Go.of (fun _ kz => XS.dupX1 X.here hx rfl hd rfl hc hc2 kz) kk
theorem Go.pop (X : Stand p l e R s m args below meth c T locs cells slots) (hx : p.tables.exec = Jvm.exec) (hby : c.code = bs) (hd : decode bs pc = .ok (.pop, 1)) (hc : u.category = 1) (kk : Go p e below Fi T (mkF m (pc + 1) Ls st)) : Go p e below Fi T (mkF m pc Ls (u :: st)) := by subst hby; exact Go.of (fun _ kz => XS.pop X.here hx rfl hd rfl hc kz) kk
theorem Go.iadd (X : Stand p l e R s m args below meth c T locs cells slots) (hx : p.tables.exec = Jvm.exec) (hby : c.code = bs) (hd : decode bs pc = .ok (.iadd, 1)) (hv : x + y = v) (kk : Go p e below Fi T (mkF m (pc + 1) Ls (.int v :: st))) : Go p e below Fi T (mkF m pc Ls (.int y :: .int x :: st)) := by subst hby; subst hv; exact Go.of (fun _ kz => XS.iadd X.here hx rfl hd rfl kz) kk
theorem Go.isub (X : Stand p l e R s m args below meth c T locs cells slots) (hx : p.tables.exec = Jvm.exec) (hby : c.code = bs) (hd : decode bs pc = .ok (.isub, 1)) (hv : x - y = v) (kk : Go p e below Fi T (mkF m (pc + 1) Ls (.int v :: st))) : Go p e below Fi T (mkF m pc Ls (.int y :: .int x :: st)) := by subst hby; subst hv; exact Go.of (fun _ kz => XS.isub X.here hx rfl hd rfl kz) kk
theorem Go.imul (X : Stand p l e R s m args below meth c T locs cells slots) (hx : p.tables.exec = Jvm.exec) (hby : c.code = bs) (hd : decode bs pc = .ok (.imul, 1)) (hv : x * y = v) (kk : Go p e below Fi T (mkF m (pc + 1) Ls (.int v :: st))) : Go p e below Fi T (mkF m pc Ls (.int y :: .int x :: st)) := by subst hby; subst hv; exact Go.of (fun _ kz => XS.imul X.here hx rfl hd rfl kz) kk
theorem Go.iand (X : Stand p l e R s m args below meth c T locs cells slots) (hx : p.tables.exec = Jvm.exec) (hby : c.code = bs) (hd : decode bs pc = .ok (.iand, 1)) (hv : x &&& y = v) (kk : Go p e below Fi T (mkF m (pc + 1) Ls (.int v :: st))) : Go p e below Fi T (mkF m pc Ls (.int y :: .int x :: st)) := by subst hby; subst hv; exact Go.of (fun _ kz => XS.iand X.here hx rfl hd rfl kz) kk
theorem Go.ior (X : Stand p l e R s m args below meth c T locs cells slots) (hx : p.tables.exec = Jvm.exec) (hby : c.code = bs) (hd : decode bs pc = .ok (.ior, 1)) (hv : x ||| y = v) (kk : Go p e below Fi T (mkF m (pc + 1) Ls (.int v :: st))) : Go p e below Fi T (mkF m pc Ls (.int y :: .int x :: st)) := by subst hby; subst hv; exact Go.of (fun _ kz => XS.ior X.here hx rfl hd rfl kz) kk
theorem Go.ixor (X : Stand p l e R s m args below meth c T locs cells slots) (hx : p.tables.exec = Jvm.exec) (hby : c.code = bs) (hd : decode bs pc = .ok (.ixor, 1)) (hv : x ^^^ y = v) (kk : Go p e below Fi T (mkF m (pc + 1) Ls (.int v :: st))) : Go p e below Fi T (mkF m pc Ls (.int y :: .int x :: st)) := by subst hby; subst hv; exact Go.of (fun _ kz => XS.ixor X.here hx rfl hd rfl kz) kk
theorem Go.ishl (X : Stand p l e R s m args below meth c T locs cells slots) (hx : p.tables.exec = Jvm.exec) (hby : c.code = bs) (hd : decode bs pc = .ok (.ishl, 1)) (hv : x <<< (y &&& 31) = v) (kk : Go p e below Fi T (mkF m (pc + 1) Ls (.int v :: st))) : Go p e below Fi T (mkF m pc Ls (.int y :: .int x :: st)) := by subst hby; subst hv; exact Go.of (fun _ kz => XS.ishl X.here hx rfl hd rfl kz) kk
theorem Go.ishr (X : Stand p l e R s m args below meth c T locs cells slots) (hx : p.tables.exec = Jvm.exec) (hby : c.code = bs) (hd : decode bs pc = .ok (.ishr, 1)) (hv : x >>> (y &&& 31) = v) (kk : Go p e below Fi T (mkF m (pc + 1) Ls (.int v :: st))) : Go p e below Fi T (mkF m pc Ls (.int y :: .int x :: st)) := by subst hby; subst hv; exact Go.of (fun _ kz => XS.ishr X.here hx rfl hd rfl kz) kk
theorem Go.iushr (X : Stand p l e R s m args below meth c T locs cells slots) (hx : p.tables.exec = Jvm.exec) (hby : c.code = bs) (hd : decode bs pc = .ok (.iushr, 1)) (hv : (x.toUInt32 >>> (y &&& 31).toUInt32).toInt32 = v) (kk : Go p e below Fi T (mkF m (pc + 1) Ls (.int v :: st))) : Go p e below Fi T (mkF m pc Ls (.int y :: .int x :: st)) := by subst hby; subst hv; exact Go.of (fun _ kz => XS.iushr X.here hx rfl hd rfl kz) kk
theorem Go.ineg (X : Stand p l e R s m args below meth c T locs cells slots) (hx : p.tables.exec = Jvm.exec) (hby : c.code = bs) (hd : decode bs pc = .ok (.ineg, 1)) (hv : -x = v) (kk : Go p e below Fi T (mkF m (pc + 1) Ls (.int v :: st))) : Go p e below Fi T (mkF m pc Ls (.int x :: st)) := by subst hby; subst hv; exact Go.of (fun _ kz => XS.ineg X.here hx rfl hd rfl kz) kk
theorem Go.i2b (X : Stand p l e R s m args below meth c T locs cells slots) (hx : p.tables.exec = Jvm.exec) (hby : c.code = bs) (hd : decode bs pc = .ok (.i2b, 1)) (hv : x.toInt8.toInt32 = v) (kk : Go p e below Fi T (mkF m (pc + 1) Ls (.int v :: st))) : Go p e below Fi T (mkF m pc Ls (.int x :: st)) := by subst hby; subst hv; exact Go.of (fun _ kz => XS.i2b X.here hx rfl hd rfl kz) kk
theorem Go.i2c (X : Stand p l e R s m args below meth c T locs cells slots) (hx : p.tables.exec = Jvm.exec) (hby : c.code = bs) (hd : decode bs pc = .ok (.i2c, 1)) (hv : x.toUInt32.toUInt16.toUInt32.toInt32 = v) (kk : Go p e below Fi T (mkF m (pc + 1) Ls (.int v :: st))) : Go p e below Fi T (mkF m pc Ls (.int x :: st)) := by subst hby; subst hv; exact Go.of (fun _ kz => XS.i2c X.here hx rfl hd rfl kz) kk
theorem Go.iinc (X : Stand p l e R s m args below meth c T locs cells slots) (hx : p.tables.exec = Jvm.exec) (hby : c.code = bs) (hd : decode bs pc = .ok (.iinc k i, 3)) (hl : Ls[k]? = some (.val (.int x))) (hl' : storeLocals Ls k (.int (x + Int32.ofInt i)) = some l') (kk : Go p e below Fi T (mkF m (pc + 3) l' st)) : Go p e below Fi T (mkF m pc Ls st) := by subst hby; exact Go.of (fun _ kz => XS.iinc X.here hx rfl hd hl hl' kz) kk
theorem Go.goto (pc' : Nat) (X : Stand p l e R s m args below meth c T locs cells slots) (hx : p.tables.exec = Jvm.exec) (hby : c.code = bs) (hd : decode bs pc = .ok (.goto o, 3)) (ho : 0 ≤ (pc : Int) + o) (hp : ((pc : Int) + o).toNat = pc') (kk : Go p e below Fi T (mkF m pc' Ls st)) : Go p e below Fi T (mkF m pc Ls st) := by subst hby; exact Go.of (fun _ kz => XS.goto X.here hx rfl (pc0 := pc) (pc' := pc') rfl hd ho hp kz) kk
theorem Go.ifYes (pc' : Nat) (X : Stand p l e R s m args below meth c T locs cells slots) (hx : p.tables.exec = Jvm.exec) (hby : c.code = bs) (hd : decode bs pc = .ok (.ifCond cd o, 3)) (hc : ifCond.holds cd x = true) (ho : 0 ≤ (pc : Int) + o) (hp : ((pc : Int) + o).toNat = pc') (kk : Go p e below Fi T (mkF m pc' Ls st)) : Go p e below Fi T (mkF m pc Ls (.int x :: st)) := by subst hby; exact Go.of (fun _ kz => XS.ifYes X.here hx rfl (pc0 := pc) (pc' := pc') rfl hd rfl hc ho hp kz) kk
theorem Go.ifNo (X : Stand p l e R s m args below meth c T locs cells slots) (hx : p.tables.exec = Jvm.exec) (hby : c.code = bs) (hd : decode bs pc = .ok (.ifCond cd o, 3)) (hc : ifCond.holds cd x = false) (kk : Go p e below Fi T (mkF m (pc + 3) Ls st)) : Go p e below Fi T (mkF m pc Ls (.int x :: st)) := by subst hby; exact Go.of (fun _ kz => XS.ifNo X.here hx rfl hd rfl hc kz) kk
theorem Go.icmpYes (pc' : Nat) (X : Stand p l e R s m args below meth c T locs cells slots) (hx : p.tables.exec = Jvm.exec) (hby : c.code = bs) (hd : decode bs pc = .ok (.if_icmp cd o, 3)) (hc : if_icmp.holds cd x y = true) (ho : 0 ≤ (pc : Int) + o) (hp : ((pc : Int) + o).toNat = pc') (kk : Go p e below Fi T (mkF m pc' Ls st)) : Go p e below Fi T (mkF m pc Ls (.int y :: .int x :: st)) := by subst hby; exact Go.of (fun _ kz => XS.icmpYes X.here hx rfl (pc0 := pc) (pc' := pc') rfl hd rfl hc ho hp kz) kk
theorem Go.icmpNo (X : Stand p l e R s m args below meth c T locs cells slots) (hx : p.tables.exec = Jvm.exec) (hby : c.code = bs) (hd : decode bs pc = .ok (.if_icmp cd o, 3)) (hc : if_icmp.holds cd x y = false) (kk : Go p e below Fi T (mkF m (pc + 3) Ls st)) : Go p e below Fi T (mkF m pc Ls (.int y :: .int x :: st)) := by subst hby; exact Go.of (fun _ kz => XS.icmpNo X.here hx rfl hd rfl hc kz) kk
theorem Go.ifnullYes (pc' : Nat) (X : Stand p l e R s m args below meth c T locs cells slots) (hx : p.tables.exec = Jvm.exec) (hby : c.code = bs) (hd : decode bs pc = .ok (.ifnull o, 3)) (ho : 0 ≤ (pc : Int) + o) (hp : ((pc : Int) + o).toNat = pc') (kk : Go p e below Fi T (mkF m pc' Ls st)) : Go p e below Fi T (mkF m pc Ls (.null :: st)) := by subst hby; exact Go.of (fun _ kz => XS.ifnullYes X.here hx rfl (pc0 := pc) (pc' := pc') rfl hd rfl ho hp kz) kk
theorem Go.ifnullNo (X : Stand p l e R s m args below meth c T locs cells slots) (hx : p.tables.exec = Jvm.exec) (hby : c.code = bs) (hd : decode bs pc = .ok (.ifnull o, 3)) (kk : Go p e below Fi T (mkF m (pc + 3) Ls st)) : Go p e below Fi T (mkF m pc Ls (.ref b :: st)) := by subst hby; exact Go.of (fun _ kz => XS.ifnullNo X.here hx rfl hd rfl kz) kk
theorem Go.ifnonnullYes (pc' : Nat) (X : Stand p l e R s m args below meth c T locs cells slots) (hx : p.tables.exec = Jvm.exec) (hby : c.code = bs) (hd : decode bs pc = .ok (.ifnonnull o, 3)) (ho : 0 ≤ (pc : Int) + o) (hp : ((pc : Int) + o).toNat = pc') (kk : Go p e below Fi T (mkF m pc' Ls st)) : Go p e below Fi T (mkF m pc Ls (.ref b :: st)) := by subst hby; exact Go.of (fun _ kz => XS.ifnonnullYes X.here hx rfl (pc0 := pc) (pc' := pc') rfl hd rfl ho hp kz) kk
theorem Go.ifnonnullNo (X : Stand p l e R s m args below meth c T locs cells slots) (hx : p.tables.exec = Jvm.exec) (hby : c.code = bs) (hd : decode bs pc = .ok (.ifnonnull o, 3)) (kk : Go p e below Fi T (mkF m (pc + 3) Ls st)) : Go p e below Fi T (mkF m pc Ls (.null :: st)) := by subst hby; exact Go.of (fun _ kz => XS.ifnonnullNo X.here hx rfl hd rfl kz) kk
theorem goBodyM {l : Launch} {Z : State} {y : MethodName} {bytes : ByteArray} {maxL : Nat} {ret : Option FieldType} {rm : Room} {as' : Array Value} {h : Heap} {Q : Option Value → Heap → List Loc → Prop} (hp : plainFor y = true)
    (body : ∀ p e s m below meth c s₁, p.tables.exec = Jvm.exec → Z.Warmed39 s.vm → c.code = bytes → c.maxLocals = maxL → s.vm.findClass y.cls = some m.cls → meth.name = y.name → meth.sig.returnType = ret → meth.locks = false →
      Stand p l e rm s m as' below meth c s₁ [] 0 0 → s₁.heap = h → Go p e below (GoEnd s rm.cells rm.slots Q) s₁ (entryFrame m as' maxL)) : MetAt l Z y bytes maxL ret rm as' h Q := goBody hp body
theorem own_i0 {x : Addr} {L : List Addr} {q : Prop} : x ∈ x :: L ∨ q := Or.inl List.mem_cons_self
theorem own_i1 {x y : Addr} {L : List Addr} {q : Prop} : x ∈ y :: x :: L ∨ q := Or.inl (List.mem_cons_of_mem _ List.mem_cons_self)
theorem own_i2 {x y z : Addr} {L : List Addr} {q : Prop} : x ∈ y :: z :: x :: L ∨ q := Or.inl (List.mem_cons_of_mem _ (List.mem_cons_of_mem _ List.mem_cons_self))
end Fast
end Jvm.RoadKit
namespace Jvm.RoadKit
open Sem ClassFile Op Lib Jvm.Stand Jvm.Free Jvm.LawKit
section Gridding
variable {p : Program} {l : Launch} {e : Env} {R : Room} {s : State} {m : MethodId} {args : Array Value} {below : List Frame} {meth : Method} {c : Code} {T : State} {locs : List Loc} {cells slots : Nat} {Fi : Option Value → State → Prop} {Z : State} {a0 : Array Value} {h h' : Heap} {fa ta ra : Addr} {kf kt kr ki : ClassId} {x : Int32} {rest : List Value} {pc a b N W : Nat} {Ls : Array Slot} {f g : Nat → Int32} {G : Nat → Nat → Int32}
def own_I (n : Nat) : Int32 := Int32.ofNat n
theorem own_I_toInt {n : Nat} (h : n < 16) : (own_I n).toInt = n := Int32.toInt_ofNat_of_lt (by omega)
theorem own_I_nat {n : Nat} (h : n < 16) : (own_I n).toNatClampNeg = n := by simp only [Int32.toNatClampNeg, own_I_toInt h]; rfl
theorem own_I_lt {n k : Nat} (h : n < 16) (hk : k < 16) : own_I n < own_I k ↔ n < k := by rw [Int32.lt_iff_toInt_lt, own_I_toInt h, own_I_toInt hk]; omega
theorem own_I_eq {n k : Nat} (h : n < 16) (hk : k < 16) : own_I n = own_I k ↔ n = k := by rw [← Int32.toInt_inj, own_I_toInt h, own_I_toInt hk]; omega
theorem own_I_pos {n : Nat} (h : n < 16) : ¬ own_I n < 0 := by rw [show (0 : Int32) = own_I 0 from rfl, own_I_lt h (by omega)]; omega
theorem own_I_in {n k : Nat} (h : n < k) (hk : k < 16) : ¬ own_I n < 0 ∧ own_I n < own_I k := ⟨own_I_pos (by omega), (own_I_lt (by omega) hk).mpr h⟩
theorem own_I_up (n : Nat) : own_I n + 1 = own_I (n + 1) := by
  show Int32.ofNat n + 1 = Int32.ofNat (n + 1)
  rw [Int32.ofNat_add]; rfl
theorem own_I_add (n k : Nat) : own_I n + own_I k = own_I (n + k) := by
  show Int32.ofNat n + Int32.ofNat k = Int32.ofNat (n + k)
  rw [Int32.ofNat_add]
theorem own_I_down {n : Nat} (h : 0 < n) : own_I n - 1 = own_I (n - 1) := by
  obtain ⟨k, rfl⟩ : ∃ k, n = k + 1 := ⟨n - 1, by omega⟩
  rw [← own_I_up, Int32.add_sub_cancel]; rfl
theorem own_I_mod {n k : Nat} (h : n < 16) (hk : k < 16) : own_I n % own_I k = own_I (n % k) := by
  have h1 : n % k < 16 := Nat.lt_of_le_of_lt (Nat.mod_le _ _) h
  apply Int32.toInt_inj.mp
  rw [Int32.toInt_mod, own_I_toInt h, own_I_toInt hk, own_I_toInt h1]
  rfl
def own_row (n : Nat) (f : Nat → Int32) : List Value := (List.range n).map fun i => .int (f i)
theorem own_row_at {n i : Nat} (h : i < n) : (own_row n f).getD i (.int 0) = .int (f i) := by
  simp [own_row, List.getD_eq_getElem?_getD, h]
theorem own_row_len (n : Nat) : (own_row n f).length = n := by simp [own_row]
theorem own_row_set {n i : Nat} {v : Int32} : (own_row n f).set i (.int v) = own_row n (fun k => if k = i then v else f k) := by
  apply List.ext_getElem?
  intro k
  simp only [own_row, List.getElem?_set, List.getElem?_map, List.length_map, List.length_range]
  by_cases hk : i = k
  · subst hk
    by_cases hn : i < n <;> simp [hn]
  · rw [if_neg hk]
    by_cases hn : k < n
    · simp [hn]
      intro q; exact absurd q.symm hk
    · simp [hn]
theorem own_two {n : Nat} (h : n ≤ 2) (h0 : ¬ n = 0) (h1 : ¬ n = 1) : n = 2 := by omega
theorem own_ne1 {a b : Nat} (h : a < b) (r : Nat) : a ≠ b + 1 + r := by omega
theorem own_ne2 (a r : Nat) : a ≠ a + 1 + r := by omega
theorem own_ne3 (a : Nat) {r r' : Nat} (q : ¬ r' = r) : a + 1 + r' ≠ a + 1 + r := by omega
def own_upd (G : Nat → Nat → Int32) (r c : Nat) (v : Int32) (r' c' : Nat) : Int32 := if r' = r ∧ c' = c then v else G r' c'
/-- the two words and the table of rows, as they stand in the heap -/
def Grid (Z : State) (h : Heap) (fa ta ra : Addr) (kf kt kr ki : ClassId) (a b : Nat) (f g : Nat → Int32) (N W : Nat) (G : Nat → Nat → Int32) : Prop :=
  Arv Z h fa kf .int (own_I a) (own_row a f) (.int 0) ∧ Arv Z h ta kt .int (own_I b) (own_row b g) (.int 0) ∧ Arv Z h ra kr (.array .int) (own_I N) (((List.range N).map fun j => ra + 1 + j).map .ref) .null ∧
  (∀ r, r < N → Arv Z h (ra + 1 + r) ki .int (own_I W) (own_row W (G r)) (.int 0)) ∧ fa < ra ∧ ta < ra
theorem Grid.set (D : Grid Z h fa ta ra kf kt kr ki a b f g N W G) {r i : Nat} {v : Int32} (hr : r < N) (Wr' : Wr h h' (ra + 1 + r) i (.int v)) (V : Arv Z h' (ra + 1 + r) ki .int (own_I W) ((own_row W (G r)).set i (.int v)) (.int 0)) : Grid Z h' fa ta ra kf kt kr ki a b f g N W (own_upd G r i v) := by
  obtain ⟨d1, d2, d3, d4, d5, d6⟩ := D
  refine ⟨d1.other Wr' (own_ne1 d5 r), d2.other Wr' (own_ne1 d6 r), d3.other Wr' (own_ne2 ra r), fun r' hr' => ?_, d5, d6⟩
  by_cases q : r' = r
  · subst q
    have e : own_upd G r' i v r' = fun k => if k = i then v else G r' k := by funext k; simp [own_upd]
    rw [e, ← own_row_set]; exact V
  · have e : own_upd G r i v r' = G r' := by funext k; simp [own_upd, q]
    rw [e]; exact (d4 r' hr').other Wr' (own_ne3 ra q)
theorem Go.gload (X : Stand p l e R s m args below meth c T locs cells slots) (hx : p.tables.exec = Jvm.exec) (hZ : Z.Warmed39 s.vm) (eT : T.heap = h) {ad : Addr} {k : ClassId} {n i : Nat} {F : Nat → Int32} (V : Arv Z h ad k .int (own_I n) (own_row n F) (.int 0)) (hi : i < n) (hn : n < 16) (hd : decode c.code pc = .ok (.iaload, 1)) (kk : Go p e below Fi T (mkF m (pc + 1) Ls (.int (F i) :: rest))) : Go p e below Fi T (mkF m pc Ls (.int (own_I i) :: .ref ad :: rest)) :=
  Go.iaload X hx hZ eT V (own_I_in hi hn) (by rw [own_I_nat (by omega)]; exact own_row_at hi) hd kk
theorem Go.gstore (X : Stand p l e R s m args below meth c T locs cells slots) (hx : p.tables.exec = Jvm.exec) (hZ : Z.Warmed39 s.vm) (eT : T.heap = h) (D : Grid Z h fa ta ra kf kt kr ki a b f g N W G) {r i : Nat} (hr : r < N) (hi : i < W) (hW : W < 16) {n0 : Nat} (hn0 : n0 ≤ ra) (hF : Fr n0 locs) (hd : decode c.code pc = .ok (.iastore, 1))
    (kk : ∀ T' h' locs', Stand p l e R s m args below meth c T' locs' cells slots → T'.heap = h' → Fr n0 locs' → Grid Z h' fa ta ra kf kt kr ki a b f g N W (own_upd G r i x) → Go p e below Fi T' (mkF m (pc + 1) Ls rest)) : Go p e below Fi T (mkF m pc Ls (.int x :: .int (own_I i) :: .ref (ra + 1 + r) :: rest)) :=
  Go.iastore X hx hZ eT (D.2.2.2.1 r hr) (own_I_in hi hW) i (own_I_nat (by omega)) (by rw [own_row_len]; exact hi) hd fun T' h' X' e' W' V' => kk T' h' _ X' e' (Fr.snoc X' hF (by omega)) (D.set hr W' V')
theorem Go.grow (X : Stand p l e R s m args below meth c T locs cells slots) (hx : p.tables.exec = Jvm.exec) (hZ : Z.Warmed39 s.vm) (eT : T.heap = h) (D : Grid Z h fa ta ra kf kt kr ki a b f g N W G) {r : Nat} (hr : r < N) (hN : N < 16) (hd : decode c.code pc = .ok (.aaload, 1)) (kk : Go p e below Fi T (mkF m (pc + 1) Ls (.ref (ra + 1 + r) :: rest))) : Go p e below Fi T (mkF m pc Ls (.int (own_I r) :: .ref ra :: rest)) :=
  Go.aaload X hx hZ eT D.2.2.1 rfl (own_I_in hr hN) (by rw [own_I_nat (by omega)]; simp [List.getD_eq_getElem?_getD, hr]) hd kk
theorem Go.grid {own : String} {index : Nat} (X : Stand p l e R s m args below meth c T locs cells slots) (hx : p.tables.exec = Jvm.exec) (hZ : Z.Warmed39 s.vm) (hown : s.vm.findClass own = some m.cls) (w1 : (Cond.classLink own index "[[I").before a0 Z = true) (w2 : (Cond.arrayOver (.array .int)).before a0 Z = true) (w3 : (Cond.arrayClass .int).before a0 Z = true) (eT : T.heap = h)
    (VF : Arv Z h fa kf .int (own_I a) (own_row a f) (.int 0)) (VT : Arv Z h ta kt .int (own_I b) (own_row b g) (.int 0)) (hN : N < 16) (hW : W < 16) (hc : cells + (1 + N) ≤ R.cells) (hl : slots + (N + N * W) ≤ R.slots) (hd : decode c.code pc = .ok (.multianewarray index 2, 4))
    (kk : ∀ T' h' ra kr ki, ra = h.size → Stand p l e R s m args below meth c T' locs (cells + (1 + N)) (slots + (N + N * W)) → T'.heap = h' → Grid Z h' fa ta ra kf kt kr ki a b f g N W (fun _ _ => 0) → Go p e below Fi T' (mkF m (pc + 4) Ls (.ref ra :: rest))) : Go p e below Fi T (mkF m pc Ls (.int (own_I W) :: .int (own_I N) :: rest)) := by
  obtain ⟨T', h', cA, comp, X', e', E', V', -, -, hrows, st⟩ := gridM X hx hZ hown (C := "[I") (ty := .int) (by decide) (by decide) w1 w2 w3 eT (g := mkF m pc Ls (.int (own_I W) :: .int (own_I N) :: rest)) rfl hd rfl (own_I_pos hN) (own_I_pos hW) (own_I_nat hN) rfl (cap := W) (by rw [own_I_nat hW]; exact Nat.le_refl _) (by omega) (by omega) rfl rfl hc hl
  refine Go.of st (kk T' h' h.size cA comp rfl X' e' ⟨VF.ext E', VT.ext E', V', fun r hr => ?_, VF.lt, VT.lt⟩)
  have A := (hrows r (h.size + 1 + r) (by simp [hr])).1
  have V := (Arv.new A (own_I_pos hW)).pad (pad_rep [] _ W)
  have q : own_row W (fun _ => 0) = [] ++ List.replicate W (.int 0) := by simp [own_row, List.eq_replicate_iff]
  rw [q]; exact V
end Gridding
end Jvm.RoadKit
namespace Jvm.RoadKit
open Sem ClassFile Op Lib Jvm.Stand Jvm.Free Jvm.LawKit
section Wide
variable {p : Program} {l : Launch} {e : Env} {R : Room} {s : State} {vm0 : Vm} {m : MethodId} {args : Array Value} {below : List Frame} {meth : Method} {c : Code} {T : State} {locs : List Loc} {cells slots : Nat} {K N k0 : Nat} {Q : Option Value → Heap → List Loc → Prop} {F : Option Value → State → Prop} {Z : State} {a0 : Array Value} {h : Heap}
/-- what is said of an end where Strings may have been interned -/
def GoEndW (s : State) (K N : Nat) (Q : Option Value → Heap → List Loc → Prop) (v : Option Value) (t : State) : Prop := ∃ L, Q v t.heap L ∧ ReturnedEndW s (.returned v) t L K N
abbrev MetAtW (l : Launch) (Z : State) (y : MethodName) (bytes : ByteArray) (maxL : Nat) (ret : Option FieldType) (rm : Room) (as' : Array Value) (h : Heap) (Q : Option Value → Heap → List Loc → Prop) : Prop :=
  MetFree l y (head1 [Cond.code y bytes maxL ret] rm) (fun a U => a = as' ∧ Z.Warmed39 U.vm ∧ U.heap = h) (fun _ _ _ _ _ => True) (fun _ U o U' => ∃ v L, o = .returned v ∧ Q v U'.heap L ∧ ReturnedEndW U o U' L rm.cells rm.slots)
theorem goBodyW {y : MethodName} {bytes : ByteArray} {maxL : Nat} {ret : Option FieldType} {ws : List Cond} {rm : Room} {as' : Array Value} (hp : plainFor y = true)
    (body : ∀ p e s m below meth c s₁, p.tables.exec = Jvm.exec → Z.Warmed39 s.vm → c.code = bytes → c.maxLocals = maxL → s.vm.findClass y.cls = some m.cls → meth.name = y.name → meth.sig.returnType = ret → meth.locks = false →
      Stand p l e rm (s.setVm s.vm) m as' below meth c s₁ [] 0 0 → s₁.heap = h → s.Since s.vm 0 → Go p e below (GoEndW s rm.cells rm.slots Q) s₁ (entryFrame m as' maxL)) :
    MetFree l y (head1 (Cond.code y bytes maxL ret :: ws) rm) (fun a U => a = as' ∧ Z.Warmed39 U.vm ∧ U.heap = h) (fun _ _ _ _ _ => True) (fun _ U o U' => ∃ v L, o = .returned v ∧ Q v U'.heap L ∧ ReturnedEndW U o U' L rm.cells rm.slots) := by
  refine MetFree.of_bodySF hp hisR ?_
  intro p e s m args below meth c s₁ Bd hml hP hK
  obtain ⟨rfl, hZ, hh⟩ := hP
  obtain ⟨s₂, o, h1, h2, h3, v, rfl, L, h4, h5⟩ := body p e s m below meth c s₁ Bd.exec hZ Bd.bytes hml (findClass_of_methodNamed Bd.named) (name_of_methodNamed Bd.named Bd.method).1 Bd.returns Bd.notSynchronized (Stand.of_body Bd) (by rw [← hh, Bd.state]; rfl) ((State.WarmedH.refl s).since 0)
  exact ⟨s₂, _, h1, h2, h3, v, L, rfl, h4, h5⟩
theorem endW_mono {s t : State} {o : Outcome} {L : List Loc} {k n k' n' : Nat} (hE : ReturnedEndW s o t L k n) (hk : k ≤ k') (hn : n ≤ n') : ReturnedEndW s o t L k' n' := ⟨hE.1, hE.2.1, hE.2.2.1, hE.2.2.2.mono hk hn⟩
theorem Go.retNW (X : Stand p l e R (s.setVm vm0) m args below meth c T locs cells slots) (hx : p.tables.exec = Jvm.exec) (hS : s.Since vm0 k0) (hk : k0 ≤ T.heap.size) (hlk : meth.locks = false) {pc : Nat} {Ls : Array Slot} {z : Int32} {t : FieldType} {rest : List Value} (hret : meth.sig.returnType = some t) (ht : t = .boolean ∨ t = .byte ∨ t = .char ∨ t = .short) (hd : decode c.code pc = .ok (.ireturn, 1)) (hK : cells ≤ K) (hN : slots ≤ N) (hq : Q (some (.int (nar t z))) T.heap locs) : Go p e below (GoEndW s K N Q) T (mkF m pc Ls (.int z :: rest)) := by
  obtain ⟨fs, hr, hrun, hended, hE⟩ := X.leaveW hS hk (v := some (.int (nar t z))) (fun h => by rw [hret] at h; cases h) hlk
  exact ⟨_, _, Jvm.RoadKit.retN X hx (t := t) hret ht hd hr, hrun, hended, _, rfl, _, hq, endW_mono hE hK hN⟩
theorem Go.retAW (X : Stand p l e R (s.setVm vm0) m args below meth c T locs cells slots) (hx : p.tables.exec = Jvm.exec) (hS : s.Since vm0 k0) (hk : k0 ≤ T.heap.size) (hlk : meth.locks = false) {pc : Nat} {Ls : Array Slot} {v : Value} {t : FieldType} {rest : List Value} (hret : meth.sig.returnType = some t) (ht : t.isReference = true) (hv : v.isRef = true) (hn : narrow t v = v) (hd : decode c.code pc = .ok (.areturn, 1)) (hK : cells ≤ K) (hN : slots ≤ N) (hq : Q (some v) T.heap locs) : Go p e below (GoEndW s K N Q) T (mkF m pc Ls (v :: rest)) := by
  obtain ⟨fs, hr, hrun, hended, hE⟩ := X.leaveW hS hk (v := some v) (fun h => by rw [hret] at h; cases h) hlk
  exact ⟨_, _, retOut X hx (t := t) (i := .areturn) hret hn (Or.inr (Or.inr (Or.inr (Or.inr ⟨rfl, ht, hv⟩)))) hd hr, hrun, hended, _, rfl, _, hq, endW_mono hE hK hN⟩
theorem Go.retVW (X : Stand p l e R (s.setVm vm0) m args below meth c T locs cells slots) (hx : p.tables.exec = Jvm.exec) (hS : s.Since vm0 k0) (hk : k0 ≤ T.heap.size) (hlk : meth.locks = false) {pc : Nat} {Ls : Array Slot} (hret : meth.sig.returnType = none) (hd : decode c.code pc = .ok (.return_, 1)) (hK : cells ≤ K) (hN : slots ≤ N) (hq : Q none T.heap locs) : Go p e below (GoEndW s K N Q) T (mkF m pc Ls []) := by
  obtain ⟨fs, hr, hrun, hended, hE⟩ := X.leaveW hS hk (v := none) (fun _ => rfl) hlk
  exact ⟨_, _, X.returnOut hx hret hd hr, hrun, hended, _, rfl, _, hq, endW_mono hE hK hN⟩
variable {own : String} {index : Nat} {y z : MethodName} {bytes : ByteArray} {maxL W pc : Nat} {ret : Option FieldType} {rm : Room} {Qc : Option Value → Heap → List Loc → Prop} {argsL rest st : List Value} {Ls : Array Slot}
theorem Go.ldcS (X : Stand p l e R (s.setVm vm0) m args below meth c T locs cells slots) (hx : p.tables.exec = Jvm.exec) (hZ : Z.Warmed39 vm0) (hown : vm0.findClass own = some m.cls) {text : String} (w : (Cond.stringLink own index text).before a0 Z = true) (wS : ∀ a ∈ Bundle.stringAtoms, a.before a0 Z = true) (eT : T.heap = h) (hS : s.Since vm0 k0) (hk : k0 ≤ h.size) (hd : decode c.code pc = .ok (.ldc index, 2)) (n : Nat) (hn : 4 * text.toList.length ≤ n) (hbig : n ≤ 536870912) (hc : cells + 2 ≤ R.cells) (hl : slots + (n + 4) ≤ R.slots)
    (kk : ∀ a T' h' k1, Stand p l e R (s.setVm T'.vm) m args below meth c T' locs (cells + 2) (slots + (n + 4)) → T'.heap = h' → Ext h h' → s.Since T'.vm k1 → k1 ≤ h'.size → Z.Warmed39 T'.vm → T'.vm.findClass own = some m.cls → Go p e below F T' (mkF m (pc + 2) Ls (.ref a :: st))) : Go p e below F T (mkF m pc Ls st) := by
  obtain ⟨a, T', h', k1, X', e', E', hS', hk', hZ', hown', stp⟩ := Jvm.RoadKit.ldcS X hx hZ hown w wS eT hS hk (g := mkF m pc Ls st) rfl hd hn hbig hc hl
  exact Go.of stp (kk a T' h' k1 X' e' E' hS' hk' hZ' hown')
theorem backOfW {len : Nat} {as' : Array Value} (hM : MetAtW l Z y bytes maxL ret rm as' h Qc) (hZ : Z.Warmed39 s.vm) (wc : (Cond.code y bytes maxL ret).before a0 Z = true) (wz : (Cond.initialized y.cls).before a0 Z = true) (hf : rm.frames + 1 ≤ R.frames) (hl : W + (maxL + 11) + rm.locals ≤ R.locals) :
    BackS l R p e below s args y len W (fun A a => a = as' ∧ A.U.heap = h ∧ A.cells + rm.cells ≤ R.cells ∧ A.slots + rm.slots ≤ R.slots)
      (fun A _ v B => ∃ L, Qc v B.U.heap L ∧ B.locs = A.locs ++ L ∧ B.cells = A.cells + rm.cells ∧ B.slots = A.slots + rm.slots) :=
  BackS.of_freeW (bytes := bytes) (maxL := maxL) (ret := ret) (E := fun _ _ o t L k n => k = rm.cells ∧ n = rm.slots ∧ ∃ v, o = .returned v ∧ Qc v t.heap L) hM hf hl
    (fun m meth c A a Y hp => have hU : Z.Warmed39 A.U.vm := wtrans hZ Y.warmed
      ⟨by show (Cond.and _ .tt).before a A.U = true; rw [Cond.before_and, mv hU wc]; rfl, mv hU wc, mv hU wz, hp.2.2.1, hp.2.2.2⟩)
    (fun m meth c A a g mk Y hp => ⟨hp.1, wtrans hZ Y.warmed, hp.2.1⟩) (fun _ _ _ _ _ _ _ _ _ => trivial)
    (fun _ _ _ _ ⟨v, L, h1, h2, h3⟩ => ⟨L, _, _, h3, rfl, rfl, v, h1, h2⟩)
    (fun m meth c A a g mk v t L k n Y hp _ _ ⟨e1, e2, v', e3, e4⟩ => by cases e3; subst e1 e2; exact ⟨L, e4, rfl, rfl, rfl⟩)
theorem Go.callIW (X : Stand p l e R (s.setVm vm0) m args below meth c T locs cells slots) (hx : p.tables.exec = Jvm.exec) (hZ : Z.Warmed39 vm0) (hy1 : y.name = "<init>") (hown : vm0.findClass own = some m.cls)
    (wl : (Cond.methodLink own index y).before a0 Z = true) (wi : (Cond.instanceMethod y).before a0 Z = true) (wz : (Cond.initialized y.cls).before a0 Z = true) (wc : (Cond.code y bytes maxL none).before a0 Z = true)
    (hy : y.cls ≠ "java/lang/invoke/MethodHandle" ∧ y.cls ≠ "java/lang/invoke/VarHandle") {a : Addr} (hM : MetAtW l Z y bytes maxL none rm (.ref a :: argsL).toArray h Qc) (eT : T.heap = h) (hS : s.Since vm0 k0) (hk : k0 ≤ h.size) (hsize : Ls.size = c.maxLocals)
    (hlen : ∀ sig, parseMethodDescriptor y.desc = some sig → argsL.length = sig.parameters.length) (hd : decode c.code pc = .ok (.invokespecial index, 3)) (hst : st = argsL.reverse ++ .ref a :: rest)
    (hW : (rest.map fun v => v.category).sum ≤ W) (hf : rm.frames + 1 ≤ R.frames) (hl : W + (maxL + 11) + rm.locals ≤ R.locals) (hc : cells + rm.cells ≤ R.cells) (hs : slots + rm.slots ≤ R.slots)
    (kk : ∀ v T' L', Stand p l e R (s.setVm T'.vm) m args below meth c T' (locs ++ L') (cells + rm.cells) (slots + rm.slots) → s.Since T'.vm T'.heap.size → Z.Warmed39 T'.vm → T'.vm.findClass own = some m.cls → Qc v T'.heap L' → Go p e below F T' (mkF m (pc + 3) Ls (v.toList ++ rest))) : Go p e below F T (mkF m pc Ls st) := by
  have hZ' : Z.Warmed39 (s.setVm vm0).vm := hZ
  obtain ⟨v, vm₁, ⟨T', L', k', n'⟩, -, X', hS', hgr, ⟨Lc, hQ, l1, y1, z1⟩, stp⟩ := X.specialBackS hx hy1 hown (mvT hZ' wl) (mvT hZ' wi) (mvT hZ' wc) hy (backOfW (W := W) hM hZ' wc wz hf hl) (g := mkF m pc Ls st) rfl hsize (Steps.refl _) (a := a) hlen hst (by show 2 * 0 + _ ≤ _; omega) hd (fun _ _ => ⟨rfl, eT, hc, hs⟩)
  dsimp only [Pt.U, Pt.locs, Pt.cells, Pt.slots] at X' l1 y1 z1 stp hQ hS' hgr
  subst l1 y1 z1
  exact Go.via stp (kk v T' Lc X' (hS.trans hS' (Nat.le_trans hk (by rw [← eT]; exact hgr))) (State.Warmed39.trans (t := s.setVm vm0) hZ' hS'.1) (by rw [hS'.1.alike.findClass]; exact hown) hQ)
theorem Go.callVW (X : Stand p l e R (s.setVm vm0) m args below meth c T locs cells slots) (hx : p.tables.exec = Jvm.exec) (hZ : Z.Warmed39 vm0) (hown : vm0.findClass own = some m.cls) {C : String}
    (wl : (Cond.methodLink own index y).before a0 Z = true) (wd : (Cond.declares y).before a0 Z = true) (hnf : NotFace (s.setVm vm0) y) (wse : (Cond.selects C y z).before a0 Z = true) (wi : (Cond.instanceMethod z).before a0 Z = true) (wz : (Cond.initialized z.cls).before a0 Z = true) (wc : (Cond.code z bytes maxL ret).before a0 Z = true)
    (hy : y.cls ≠ "java/lang/invoke/MethodHandle" ∧ y.cls ≠ "java/lang/invoke/VarHandle") {a : Addr} (hM : MetAtW l Z z bytes maxL ret rm (.ref a :: argsL).toArray h Qc) (eT : T.heap = h) (hE : Exa Z h a C) (hS : s.Since vm0 k0) (hk : k0 ≤ h.size) (hsize : Ls.size = c.maxLocals)
    (hlen : ∀ sig, parseMethodDescriptor y.desc = some sig → argsL.length = sig.parameters.length) (hd : decode c.code pc = .ok (.invokevirtual index, 3)) (hst : st = argsL.reverse ++ .ref a :: rest)
    (hW : (rest.map fun v => v.category).sum ≤ W) (hf : rm.frames + 1 ≤ R.frames) (hl : W + (maxL + 11) + rm.locals ≤ R.locals) (hc : cells + rm.cells ≤ R.cells) (hs : slots + rm.slots ≤ R.slots)
    (kk : ∀ v T' L', Stand p l e R (s.setVm T'.vm) m args below meth c T' (locs ++ L') (cells + rm.cells) (slots + rm.slots) → s.Since T'.vm T'.heap.size → Z.Warmed39 T'.vm → T'.vm.findClass own = some m.cls → Qc v T'.heap L' → Go p e below F T' (mkF m (pc + 3) Ls (v.toList ++ rest))) : Go p e below F T (mkF m pc Ls st) := by
  have hZ' : Z.Warmed39 (s.setVm vm0).vm := hZ
  obtain ⟨cq, kq, q1, q2, q3⟩ := isOf hZ' eT hE
  obtain ⟨v, vm₁, ⟨T', L', k', n'⟩, -, X', hS', hgr, ⟨Lc, hQ, l1, y1, z1⟩, stp⟩ := X.virtualBackS hx (y := y) (z := z) hown (mvT hZ' wl) (mvT hZ' wd) hnf (mvT hZ' wse) (mvT hZ' wi) hy (backOfW (W := W) hM hZ' wc wz hf hl) q1 q3 (g := mkF m pc Ls st) rfl hsize (Steps.refl _) hlen hst (by show 2 * 0 + _ ≤ _; omega) hd (fun _ _ => ⟨rfl, eT, hc, hs⟩)
  dsimp only [Pt.U, Pt.locs, Pt.cells, Pt.slots] at X' l1 y1 z1 stp hQ hS' hgr
  subst l1 y1 z1
  exact Go.via stp (kk v T' Lc X' (hS.trans hS' (Nat.le_trans hk (by rw [← eT]; exact hgr))) (State.Warmed39.trans (t := s.setVm vm0) hZ' hS'.1) (by rw [hS'.1.alike.findClass]; exact hown) hQ)
end Wide
end Jvm.RoadKit
namespace Jvm.RoadKit
open Sem ClassFile Op Lib Jvm.Stand Jvm.Free Jvm.LawKit
section HeldGo
variable {p : Program} {l : Launch} {e : Env} {R : Room} {s : State} {vm0 : Vm} {m : MethodId} {args : Array Value} {below : List Frame} {meth : Method} {c : Code} {T : State} {locs : List Loc} {cells slots : Nat} {K N k0 : Nat} {Q : Option Value → Heap → List Loc → Prop} {F : Option Value → State → Prop} {Z : State} {a0 : Array Value} {h hs : Heap} {EL : List (String × Nat)}
/-- what is said of an end where Strings may have been read -/
def GoEndH (Z : State) (EL : List (String × Nat)) (s : State) (K N : Nat) (Q : Option Value → Heap → List Loc → Prop) (v : Option Value) (t : State) : Prop := ∃ L, Q v t.heap L ∧ CHr Z EL s.vm s.heap t.vm t.heap ∧ ReturnedEndW s (.returned v) t L K N
abbrev MetAtH (l : Launch) (Z : State) (EL : List (String × Nat)) (y : MethodName) (bytes : ByteArray) (maxL : Nat) (ret : Option FieldType) (rm : Room) (as' : Array Value) (h : Heap) (Q : Option Value → Heap → List Loc → Prop) : Prop :=
  MetFree l y (head1 [Cond.code y bytes maxL ret] rm) (fun a U => a = as' ∧ Z.Warmed39 U.vm ∧ U.heap = h ∧ CHv Z EL U.vm h) (fun _ _ _ _ _ => True) (fun _ U o U' => ∃ v L, o = .returned v ∧ Q v U'.heap L ∧ CHr Z EL U.vm U.heap U'.vm U'.heap ∧ ReturnedEndW U o U' L rm.cells rm.slots)
theorem goBodyH {y : MethodName} {bytes : ByteArray} {maxL : Nat} {ret : Option FieldType} {ws : List Cond} {rm : Room} {as' : Array Value} (hp : plainFor y = true)
    (body : ∀ p e s m below meth c s₁, p.tables.exec = Jvm.exec → Z.Warmed39 s.vm → c.code = bytes → c.maxLocals = maxL → s.vm.findClass y.cls = some m.cls → meth.name = y.name → meth.sig.returnType = ret → meth.locks = false →
      Stand p l e rm (s.setVm s.vm) m as' below meth c s₁ [] 0 0 → s₁.heap = h → s.Since s.vm 0 → s.heap = h → CHr Z EL s.vm h s.vm h → Go p e below (GoEndH Z EL s rm.cells rm.slots Q) s₁ (entryFrame m as' maxL)) :
    MetFree l y (head1 (Cond.code y bytes maxL ret :: ws) rm) (fun a U => a = as' ∧ Z.Warmed39 U.vm ∧ U.heap = h ∧ CHv Z EL U.vm h) (fun _ _ _ _ _ => True) (fun _ U o U' => ∃ v L, o = .returned v ∧ Q v U'.heap L ∧ CHr Z EL U.vm U.heap U'.vm U'.heap ∧ ReturnedEndW U o U' L rm.cells rm.slots) := by
  refine MetFree.of_bodySF hp hisR ?_
  intro p e s m args below meth c s₁ Bd hml hP hK
  obtain ⟨rfl, hZ, hh, hC⟩ := hP
  obtain ⟨s₂, o, h1, h2, h3, v, rfl, L, h4, h5, h6⟩ := body p e s m below meth c s₁ Bd.exec hZ Bd.bytes hml (findClass_of_methodNamed Bd.named) (name_of_methodNamed Bd.named Bd.method).1 Bd.returns Bd.notSynchronized (Stand.of_body Bd) (by rw [← hh, Bd.state]; rfl) ((State.WarmedH.refl s).since 0) hh (CHr.refl hC)
  exact ⟨s₂, _, h1, h2, h3, v, L, rfl, h4, h5, h6⟩
theorem endCH (X : Stand p l e R (s.setVm vm0) m args below meth c T locs cells slots) (hZ : Z.Warmed39 vm0) (hEL : EW Z a0 EL) (hs0 : s.heap = hs) (eT : T.heap = h) (hC : CHr Z EL s.vm hs vm0 h) : CHr Z EL s.vm s.heap T.vm T.heap := by
  subst hs0 eT; exact hC.trans (CHv.at X hZ hEL hC.1)
theorem Go.retNH (X : Stand p l e R (s.setVm vm0) m args below meth c T locs cells slots) (hx : p.tables.exec = Jvm.exec) (hZ : Z.Warmed39 vm0) (hEL : EW Z a0 EL) (hs0 : s.heap = hs) (eT : T.heap = h) (hC : CHr Z EL s.vm hs vm0 h) (hS : s.Since vm0 k0) (hk : k0 ≤ T.heap.size) (hlk : meth.locks = false) {pc : Nat} {Ls : Array Slot} {z : Int32} {t : FieldType} {rest : List Value} (hret : meth.sig.returnType = some t) (ht : t = .boolean ∨ t = .byte ∨ t = .char ∨ t = .short) (hd : decode c.code pc = .ok (.ireturn, 1)) (hK : cells ≤ K) (hN : slots ≤ N) (hq : Q (some (.int (nar t z))) T.heap locs) : Go p e below (GoEndH Z EL s K N Q) T (mkF m pc Ls (.int z :: rest)) := by
  obtain ⟨fs, hr, hrun, hended, hE⟩ := X.leaveW hS hk (v := some (.int (nar t z))) (fun h => by rw [hret] at h; cases h) hlk
  exact ⟨_, _, Jvm.RoadKit.retN X hx (t := t) hret ht hd hr, hrun, hended, _, rfl, _, hq, endCH (T := T) X hZ hEL hs0 eT hC, endW_mono hE hK hN⟩
theorem Go.retAH (X : Stand p l e R (s.setVm vm0) m args below meth c T locs cells slots) (hx : p.tables.exec = Jvm.exec) (hZ : Z.Warmed39 vm0) (hEL : EW Z a0 EL) (hs0 : s.heap = hs) (eT : T.heap = h) (hC : CHr Z EL s.vm hs vm0 h) (hS : s.Since vm0 k0) (hk : k0 ≤ T.heap.size) (hlk : meth.locks = false) {pc : Nat} {Ls : Array Slot} {v : Value} {t : FieldType} {rest : List Value} (hret : meth.sig.returnType = some t) (ht : t.isReference = true) (hv : v.isRef = true) (hn : narrow t v = v) (hd : decode c.code pc = .ok (.areturn, 1)) (hK : cells ≤ K) (hN : slots ≤ N) (hq : Q (some v) T.heap locs) : Go p e below (GoEndH Z EL s K N Q) T (mkF m pc Ls (v :: rest)) := by
  obtain ⟨fs, hr, hrun, hended, hE⟩ := X.leaveW hS hk (v := some v) (fun h => by rw [hret] at h; cases h) hlk
  exact ⟨_, _, retOut X hx (t := t) (i := .areturn) hret hn (Or.inr (Or.inr (Or.inr (Or.inr ⟨rfl, ht, hv⟩)))) hd hr, hrun, hended, _, rfl, _, hq, endCH (T := T) X hZ hEL hs0 eT hC, endW_mono hE hK hN⟩
variable {own : String} {index : Nat} {y z : MethodName} {bytes : ByteArray} {maxL W pc : Nat} {ret : Option FieldType} {rm : Room} {Qc : Option Value → Heap → List Loc → Prop} {argsL rest st : List Value} {Ls : Array Slot}
theorem Go.ldcH (X : Stand p l e R (s.setVm vm0) m args below meth c T locs cells slots) (hx : p.tables.exec = Jvm.exec) (hZ : Z.Warmed39 vm0) (hown : vm0.findClass own = some m.cls) {text : String} (w : (Cond.stringLink own index text).before a0 Z = true) (wS : ∀ a ∈ Bundle.stringAtoms, a.before a0 Z = true) (eT : T.heap = h) (hS : s.Since vm0 k0) (hk : k0 ≤ h.size) (hEL : EW Z a0 EL) (hmem : (own, index) ∈ EL) (hC : CHr Z EL s.vm hs vm0 h) {vs : List Value} {z : Int32} (ht : (∀ c ∈ text.toList, c.toNat < 256) ∧ text.toList.map (fun c => Value.int (Jvm.Lit.byteI c.toNat.toUInt16)) = vs) (hz : ¬ z < 0) (hlz : z.toNatClampNeg = vs.length)
    (hd : decode c.code pc = .ok (.ldc index, 2)) (n : Nat) (hn : 4 * text.toList.length ≤ n) (hbig : n ≤ 536870912) (hc : cells + 2 ≤ R.cells) (hl : slots + (n + 4) ≤ R.slots)
    (kk : ∀ a T' h' k1 b k, Stand p l e R (s.setVm T'.vm) m args below meth c T' locs (cells + 2) (slots + (n + 4)) → T'.heap = h' → Ext h h' → s.Since T'.vm k1 → k1 ≤ h'.size → Z.Warmed39 T'.vm → T'.vm.findClass own = some m.cls → Exa Z h' a "java/lang/String" → Fld Z h' a "java/lang/String" "coder" "B" (.int 0) → Fld Z h' a "java/lang/String" "value" "[B" (.ref b) → Arv Z h' b k .byte z vs (.int 0) → CHr Z EL s.vm hs T'.vm h' → (∀ x, Safe Z EL T'.vm h' x → x ≠ a ∧ x ≠ b) → Go p e below F T' (mkF m (pc + 2) Ls (.ref a :: st))) : Go p e below F T (mkF m pc Ls st) := by
  obtain ⟨a, T', h', k1, b, k, X', e', E', hS', hk', hZ', hown', A, Cd, Vl, Ar, -, -, hC', -, hM, stp⟩ := ldcCH X hx hZ hown w wS eT hS hk hEL hmem hC.1 ht hz hlz (g := mkF m pc Ls st) rfl hd hn hbig hc hl
  exact Go.of stp (kk a T' h' k1 b k X' e' E' hS' hk' hZ' hown' A Cd Vl Ar (hC.trans hC') hM)
theorem Go.callVH (X : Stand p l e R (s.setVm vm0) m args below meth c T locs cells slots) (hx : p.tables.exec = Jvm.exec) (hZ : Z.Warmed39 vm0) (hown : vm0.findClass own = some m.cls) {C : String}
    (wl : (Cond.methodLink own index y).before a0 Z = true) (wd : (Cond.declares y).before a0 Z = true) (hnf : NotFace (s.setVm vm0) y) (wse : (Cond.selects C y z).before a0 Z = true) (wi : (Cond.instanceMethod z).before a0 Z = true) (wz : (Cond.initialized z.cls).before a0 Z = true) (wc : (Cond.code z bytes maxL ret).before a0 Z = true)
    (hy : y.cls ≠ "java/lang/invoke/MethodHandle" ∧ y.cls ≠ "java/lang/invoke/VarHandle") {a : Addr} (hM : MetAtH l Z EL z bytes maxL ret rm (.ref a :: argsL).toArray h Qc) (eT : T.heap = h) (hE : Exa Z h a C) (hS : s.Since vm0 k0) (hk : k0 ≤ h.size) (hEL : EW Z a0 EL) (hC : CHr Z EL s.vm hs vm0 h) (hsize : Ls.size = c.maxLocals)
    (hlen : ∀ sig, parseMethodDescriptor y.desc = some sig → argsL.length = sig.parameters.length) (hd : decode c.code pc = .ok (.invokevirtual index, 3)) (hst : st = argsL.reverse ++ .ref a :: rest)
    (hW : (rest.map fun v => v.category).sum ≤ W) (hf : rm.frames + 1 ≤ R.frames) (hl : W + (maxL + 11) + rm.locals ≤ R.locals) (hc : cells + rm.cells ≤ R.cells) (hs' : slots + rm.slots ≤ R.slots)
    (kk : ∀ v T' L', Stand p l e R (s.setVm T'.vm) m args below meth c T' (locs ++ L') (cells + rm.cells) (slots + rm.slots) → s.Since T'.vm T'.heap.size → Z.Warmed39 T'.vm → T'.vm.findClass own = some m.cls → CHr Z EL s.vm hs T'.vm T'.heap → Qc v T'.heap L' → Go p e below F T' (mkF m (pc + 3) Ls (v.toList ++ rest))) : Go p e below F T (mkF m pc Ls st) := by
  have hZ' : Z.Warmed39 (s.setVm vm0).vm := hZ
  obtain ⟨cq, kq, q1, q2, q3⟩ := isOf hZ' eT hE
  obtain ⟨v, vm₁, ⟨T', L', k', n'⟩, -, X', hS', hgr, ⟨Lc, hQ, l1, y1, z1, hC'⟩, stp⟩ := X.virtualBackS hx (y := y) (z := z) hown (mvT hZ' wl) (mvT hZ' wd) hnf (mvT hZ' wse) (mvT hZ' wi) hy (backOfSH (W := W) hM hZ wc wz hf hl hEL hC.1) q1 q3 (g := mkF m pc Ls st) rfl hsize (Steps.refl _) hlen hst (by show 2 * 0 + _ ≤ _; omega) hd (fun _ _ => ⟨rfl, eT, hc, hs'⟩)
  dsimp only [Pt.U, Pt.locs, Pt.cells, Pt.slots] at X' l1 y1 z1 stp hQ hS' hgr hC'
  subst l1 y1 z1
  exact Go.via stp (kk v T' Lc X' (hS.trans hS' (Nat.le_trans hk (by rw [← eT]; exact hgr))) (State.Warmed39.trans (t := s.setVm vm0) hZ' hS'.1) (by rw [hS'.1.alike.findClass]; exact hown) (hC.trans hC') hQ)
theorem Go.callFH (X : Stand p l e R (s.setVm vm0) m args below meth c T locs cells slots) (hx : p.tables.exec = Jvm.exec) (hZ : Z.Warmed39 vm0) (hown : vm0.findClass own = some m.cls) {C : String} {count : Nat}
    (wl : (Cond.methodLink own index y).before a0 Z = true) (wd : (Cond.declares y).before a0 Z = true) (wfa : (Cond.interfaceMethod y.cls y.cls y.name y.desc).before a0 Z = true) (hfa : ((Cond.interfaceMethod y.cls y.cls y.name y.desc).onTables && (Cond.interfaceMethod y.cls y.cls y.name y.desc).keepsFace) = true) (wse : (Cond.selects C y z).before a0 Z = true) (wi : (Cond.instanceMethod z).before a0 Z = true) (wp : (Cond.publicMethod z).before a0 Z = true) (wu : (Cond.unhidden C y.name y.desc).before a0 Z = true) (wca : (Cond.castable C y.cls).before a0 Z = true) (wz : (Cond.initialized z.cls).before a0 Z = true) (wc : (Cond.code z bytes maxL ret).before a0 Z = true)
    (hy : y.cls ≠ "java/lang/invoke/MethodHandle" ∧ y.cls ≠ "java/lang/invoke/VarHandle") {a : Addr} (hM : MetAtH l Z EL z bytes maxL ret rm (.ref a :: argsL).toArray h Qc) (eT : T.heap = h) (hE : Exa Z h a C) (hS : s.Since vm0 k0) (hk : k0 ≤ h.size) (hEL : EW Z a0 EL) (hC : CHr Z EL s.vm hs vm0 h) (hsize : Ls.size = c.maxLocals)
    (hlen : ∀ sig, parseMethodDescriptor y.desc = some sig → argsL.length = sig.parameters.length) (hd : decode c.code pc = .ok (.invokeinterface index count, 5)) (hst : st = argsL.reverse ++ .ref a :: rest)
    (hW : (rest.map fun v => v.category).sum ≤ W) (hf : rm.frames + 1 ≤ R.frames) (hl : W + (maxL + 11) + rm.locals ≤ R.locals) (hc : cells + rm.cells ≤ R.cells) (hs' : slots + rm.slots ≤ R.slots)
    (kk : ∀ v T' L', Stand p l e R (s.setVm T'.vm) m args below meth c T' (locs ++ L') (cells + rm.cells) (slots + rm.slots) → s.Since T'.vm T'.heap.size → Z.Warmed39 T'.vm → T'.vm.findClass own = some m.cls → CHr Z EL s.vm hs T'.vm T'.heap → Qc v T'.heap L' → Go p e below F T' (mkF m (pc + 5) Ls (v.toList ++ rest))) : Go p e below F T (mkF m pc Ls st) := by
  have hZ' : Z.Warmed39 (s.setVm vm0).vm := hZ
  obtain ⟨cq, kq, q1, q2, q3⟩ := isOf hZ' eT hE
  obtain ⟨v, vm₁, ⟨T', L', k', n'⟩, -, X', hS', hgr, ⟨Lc, hQ, l1, y1, z1, hC'⟩, stp⟩ := X.interfaceBackS hx (xi := y) (y := z) hown (mvT hZ' wl) (mvT hZ' wd) (mvT hZ' wfa hfa) (mvT hZ' wse) (mvT hZ' wi) (mvT hZ' wp) (mvT hZ' wu) (mvT hZ' wca) hy (backOfSH (W := W) hM hZ wc wz hf hl hEL hC.1) q1 q2 q3 (g := mkF m pc Ls st) rfl hsize (Steps.refl _) hlen hst (by show 2 * 0 + _ ≤ _; omega) hd (fun _ _ => ⟨rfl, eT, hc, hs'⟩)
  dsimp only [Pt.U, Pt.locs, Pt.cells, Pt.slots] at X' l1 y1 z1 stp hQ hS' hgr hC'
  subst l1 y1 z1
  exact Go.via stp (kk v T' Lc X' (hS.trans hS' (Nat.le_trans hk (by rw [← eT]; exact hgr))) (State.Warmed39.trans (t := s.setVm vm0) hZ' hS'.1) (by rw [hS'.1.alike.findClass]; exact hown) (hC.trans hC') hQ)
end HeldGo
section InstGo
variable {p : Program} {l : Launch} {e : Env} {R : Room} {s : State} {m : MethodId} {args : Array Value} {below : List Frame} {meth : Method} {c : Code} {T : State} {locs : List Loc} {cells slots : Nat} {F : Option Value → State → Prop} {Z : State} {a0 : Array Value} {h : Heap} {own : String} {index pc : Nat} {rest : List Value} {Ls : Array Slot} {a : Addr}
theorem Go.instOf (X : Stand p l e R s m args below meth c T locs cells slots) (hx : p.tables.exec = Jvm.exec) (hZ : Z.Warmed39 s.vm) (hown : s.vm.findClass own = some m.cls) {K : String} (w : (Cond.classLink own index K).before a0 Z = true) (eT : T.heap = h) (I : Ins Z h a K true) (hd : decode c.code pc = .ok (.instanceof index, 3))
    (kk : ∀ T', Stand p l e R s m args below meth c T' locs cells slots → T'.heap = h → Go p e below F T' (mkF m (pc + 3) Ls (.int 1 :: rest))) : Go p e below F T (mkF m pc Ls (.ref a :: rest)) := by
  obtain ⟨T', X', e', stp⟩ := instY X hx hZ hown w eT I (g := mkF m pc Ls (.ref a :: rest)) rfl rfl hd
  exact Go.of stp (kk T' X' e')
end InstGo
end Jvm.RoadKit
namespace Jvm.RoadKit
open Sem ClassFile Op Lib Jvm.Stand Jvm.Free Jvm.LawKit
section StrGo
variable {p : Program} {l : Launch} {e : Env} {R : Room} {s : State} {vm0 : Vm} {m : MethodId} {args : Array Value} {below : List Frame} {meth : Method} {c : Code} {T : State} {locs : List Loc} {cells slots : Nat} {K N k0 : Nat} {Q : Option Value → Heap → List Loc → Prop} {F : Option Value → State → Prop} {Z : State} {a0 : Array Value} {h hs : Heap} {EL : List (String × Nat)} {own : String} {index : Nat} {y z : MethodName} {bytes : ByteArray} {maxL W pc : Nat} {ret : Option FieldType} {rm : Room} {Qc : Option Value → Heap → List Loc → Prop} {argsL rest st : List Value} {Ls : Array Slot}
/-- a constructor by a Back of the kit's own text -/
theorem Go.callIB (X : Stand p l e R s m args below meth c T locs cells slots) (hx : p.tables.exec = Jvm.exec) (hZ : Z.Warmed39 s.vm) (hy1 : y.name = "<init>") (hown : s.vm.findClass own = some m.cls)
    (wl : (Cond.methodLink own index y).before a0 Z = true) (wi : (Cond.instanceMethod y).before a0 Z = true) (wc : (Cond.code y bytes maxL none).before a0 Z = true)
    (hy : y.cls ≠ "java/lang/invoke/MethodHandle" ∧ y.cls ≠ "java/lang/invoke/VarHandle") {a : Addr} {nc ns : Nat}
    (hB : Back l R p e below s args y 3 W (fun P a' => a' = (.ref a :: argsL).toArray ∧ P.U.heap = h ∧ P.cells + nc ≤ R.cells ∧ P.slots + ns ≤ R.slots) (fun P _ v B => ∃ L, Qc v B.U.heap L ∧ B.locs = P.locs ++ L ∧ B.cells = P.cells + nc ∧ B.slots = P.slots + ns)) (eT : T.heap = h) (hsize : Ls.size = c.maxLocals)
    (hlen : ∀ sig, parseMethodDescriptor y.desc = some sig → argsL.length = sig.parameters.length) (hd : decode c.code pc = .ok (.invokespecial index, 3)) (hst : st = argsL.reverse ++ .ref a :: rest)
    (hW : (rest.map fun v => v.category).sum ≤ W) (hc : cells + nc ≤ R.cells) (hs : slots + ns ≤ R.slots)
    (k : ∀ v T' L', Stand p l e R s m args below meth c T' (locs ++ L') (cells + nc) (slots + ns) → Qc v T'.heap L' → Go p e below F T' (mkF m (pc + 3) Ls (v.toList ++ rest))) : Go p e below F T (mkF m pc Ls st) := by
  obtain ⟨v, vm₁, ⟨T', L', k', n'⟩, -, X', ⟨Lc, hQ, l1, y1, z1⟩, stp⟩ := X.specialBack hx hy1 hown (mvT hZ wl) (mvT hZ wi) (mvT hZ wc) hy hB (g := mkF m pc Ls st) rfl hsize (Steps.refl _) (a := a) hlen hst (by show 2 * 0 + _ ≤ _; omega) hd (fun _ _ => ⟨rfl, eT, hc, hs⟩)
  dsimp only [Pt.U, Pt.locs, Pt.cells, Pt.slots] at X' l1 y1 z1 stp hQ
  subst l1 y1 z1
  exact Go.via stp (k v T' Lc X' hQ)
/-- a virtual call by a Back that writes nothing -/
theorem Go.callVB (X : Stand p l e R s m args below meth c T locs cells slots) (hx : p.tables.exec = Jvm.exec) (hZ : Z.Warmed39 s.vm) (hown : s.vm.findClass own = some m.cls) {C : String}
    (wl : (Cond.methodLink own index y).before a0 Z = true) (wd : (Cond.declares y).before a0 Z = true) (hnf : NotFace s y) (wse : (Cond.selects C y z).before a0 Z = true) (wi : (Cond.instanceMethod z).before a0 Z = true)
    (hy : y.cls ≠ "java/lang/invoke/MethodHandle" ∧ y.cls ≠ "java/lang/invoke/VarHandle") {a : Addr} {Qv : Option Value → Prop}
    (hB : Back l R p e below s args z 3 W (fun P a' => a' = (.ref a :: argsL).toArray ∧ P.U.heap = h ∧ P.cells + 0 ≤ R.cells ∧ P.slots + 0 ≤ R.slots) (fun P _ v B => ∃ L, (Qv v ∧ L = [] ∧ B.U.heap = h) ∧ B.locs = P.locs ++ L ∧ B.cells = P.cells + 0 ∧ B.slots = P.slots + 0)) (eT : T.heap = h) (hE : Exa Z h a C) (hsize : Ls.size = c.maxLocals)
    (hlen : ∀ sig, parseMethodDescriptor y.desc = some sig → argsL.length = sig.parameters.length) (hd : decode c.code pc = .ok (.invokevirtual index, 3)) (hst : st = argsL.reverse ++ .ref a :: rest)
    (hW : (rest.map fun v => v.category).sum ≤ W) (hc : cells ≤ R.cells) (hs : slots ≤ R.slots) (r : Value) (hr : ∀ v, Qv v → v = some r)
    (k : ∀ T', Stand p l e R s m args below meth c T' locs cells slots → T'.heap = h → Go p e below F T' (mkF m (pc + 3) Ls (r :: rest))) : Go p e below F T (mkF m pc Ls st) := by
  obtain ⟨cq, kq, q1, q2, q3⟩ := isOf hZ eT hE
  obtain ⟨v, vm₁, ⟨T', L', k', n'⟩, -, X', ⟨Lc, ⟨hv, rfl, e'⟩, l1, y1, z1⟩, stp⟩ := X.virtualBack hx (y := y) (z := z) hown (mvT hZ wl) (mvT hZ wd) hnf (mvT hZ wse) (mvT hZ wi) hy hB q1 q3 (g := mkF m pc Ls st) rfl hsize (Steps.refl _) hlen hst (by show 2 * 0 + _ ≤ _; omega) hd (fun _ _ => ⟨rfl, eT, hc, hs⟩)
  dsimp only [Pt.U, Pt.locs, Pt.cells, Pt.slots] at X' l1 y1 z1 stp e'
  subst l1 y1 z1
  rw [List.append_nil] at X'
  have := hr v hv
  subst this
  exact Go.via stp (k T' X' e')
/-- a contract of a callee that reads String constants and writes an object that is none of theirs -/
abbrev MetAtHS (l : Launch) (Z : State) (EL : List (String × Nat)) (y : MethodName) (bytes : ByteArray) (maxL : Nat) (ret : Option FieldType) (rm : Room) (as' : Array Value) (h : Heap) (o : Addr) (Q : Option Value → Heap → List Loc → Prop) : Prop :=
  MetFree l y (head1 [Cond.code y bytes maxL ret] rm) (fun a U => a = as' ∧ Z.Warmed39 U.vm ∧ U.heap = h ∧ CHv Z EL U.vm h ∧ Safe Z EL U.vm h o) (fun _ _ _ _ _ => True) (fun _ U o U' => ∃ v L, o = .returned v ∧ Q v U'.heap L ∧ CHr Z EL U.vm U.heap U'.vm U'.heap ∧ ReturnedEndW U o U' L rm.cells rm.slots)
theorem goBodyHS {y : MethodName} {bytes : ByteArray} {maxL : Nat} {ret : Option FieldType} {ws : List Cond} {rm : Room} {as' : Array Value} {ob : Addr} (hp : plainFor y = true)
    (body : ∀ p e s m below meth c s₁, p.tables.exec = Jvm.exec → Z.Warmed39 s.vm → c.code = bytes → c.maxLocals = maxL → s.vm.findClass y.cls = some m.cls → meth.name = y.name → meth.sig.returnType = ret → meth.locks = false →
      Stand p l e rm (s.setVm s.vm) m as' below meth c s₁ [] 0 0 → s₁.heap = h → s.Since s.vm 0 → s.heap = h → CHr Z EL s.vm h s.vm h → Safe Z EL s.vm h ob → Go p e below (GoEndH Z EL s rm.cells rm.slots Q) s₁ (entryFrame m as' maxL)) :
    MetFree l y (head1 (Cond.code y bytes maxL ret :: ws) rm) (fun a U => a = as' ∧ Z.Warmed39 U.vm ∧ U.heap = h ∧ CHv Z EL U.vm h ∧ Safe Z EL U.vm h ob) (fun _ _ _ _ _ => True) (fun _ U o U' => ∃ v L, o = .returned v ∧ Q v U'.heap L ∧ CHr Z EL U.vm U.heap U'.vm U'.heap ∧ ReturnedEndW U o U' L rm.cells rm.slots) := by
  refine MetFree.of_bodySF hp hisR ?_
  intro p e s m args below meth c s₁ Bd hml hP hK
  obtain ⟨rfl, hZ, hh, hC, hO⟩ := hP
  obtain ⟨s₂, o, h1, h2, h3, v, rfl, L, h4, h5, h6⟩ := body p e s m below meth c s₁ Bd.exec hZ Bd.bytes hml (findClass_of_methodNamed Bd.named) (name_of_methodNamed Bd.named Bd.method).1 Bd.returns Bd.notSynchronized (Stand.of_body Bd) (by rw [← hh, Bd.state]; rfl) ((State.WarmedH.refl s).since 0) hh (CHr.refl hC) hO
  exact ⟨s₂, _, h1, h2, h3, v, L, rfl, h4, h5, h6⟩
theorem own_backHS {len : Nat} {as' : Array Value} {ob : Addr} (hM : MetAtHS l Z EL y bytes maxL ret rm as' h ob Q)
    (hZ : Z.Warmed39 vm0) (wc : (Cond.code y bytes maxL ret).before a0 Z = true) (wz : (Cond.initialized y.cls).before a0 Z = true) (hf : rm.frames + 1 ≤ R.frames) (hl : W + (maxL + 11) + rm.locals ≤ R.locals) (hEL : EW Z a0 EL) (H : CHv Z EL vm0 h) (hob : ob < h.size) (hO : Safe Z EL vm0 h ob) :
    BackS l R p e below (s.setVm vm0) args y len W (fun A a => a = as' ∧ A.U.heap = h ∧ A.cells + rm.cells ≤ R.cells ∧ A.slots + rm.slots ≤ R.slots)
      (fun A _ v B => ∃ L, Q v B.U.heap L ∧ B.locs = A.locs ++ L ∧ B.cells = A.cells + rm.cells ∧ B.slots = A.slots + rm.slots ∧ CHr Z EL vm0 h B.U.vm B.U.heap) := by
  refine BackS.of_freeW (bytes := bytes) (maxL := maxL) (ret := ret) (E := fun _ first o t L k n => k = rm.cells ∧ n = rm.slots ∧ (∃ v, o = .returned v ∧ Q v t.heap L) ∧ CHr Z EL first.vm first.heap t.vm t.heap) hM hf hl ?_ ?_ (fun _ _ _ _ _ _ _ _ _ => trivial) ?_ ?_
  · intro m meth c A a Y hp
    have hU : Z.Warmed39 A.U.vm := wtrans (s := s.setVm vm0) hZ Y.warmed
    exact ⟨by show (Cond.and _ .tt).before a A.U = true; rw [Cond.before_and, mv hU wc]; rfl, mv hU wc, mv hU wz, hp.2.2.1, hp.2.2.2⟩
  · intro m meth c A a g mk Y hp
    have q := CHv.at Y hZ hEL H
    exact ⟨hp.1, wtrans (s := s.setVm vm0) hZ Y.warmed, hp.2.1, q.1, q.safe hob hO⟩
  · rintro _ _ _ _ ⟨v, L, h1, h2, h3, h4⟩
    exact ⟨L, _, _, h4, rfl, rfl, ⟨v, h1, h2⟩, h3⟩
  · rintro m meth c A a g mk v t L k n Y hp _ _ ⟨e1, e2, ⟨v', e3, e4⟩, e5⟩
    cases e3; subst e1 e2
    refine ⟨L, e4, rfl, rfl, rfl, (CHv.at Y hZ hEL H).trans ?_⟩
    rw [← hp.2.1]; exact e5
theorem Go.callIHS (X : Stand p l e R (s.setVm vm0) m args below meth c T locs cells slots) (hx : p.tables.exec = Jvm.exec) (hZ : Z.Warmed39 vm0) (hy1 : y.name = "<init>") (hown : vm0.findClass own = some m.cls)
    (wl : (Cond.methodLink own index y).before a0 Z = true) (wi : (Cond.instanceMethod y).before a0 Z = true) (wz : (Cond.initialized y.cls).before a0 Z = true) (wc : (Cond.code y bytes maxL none).before a0 Z = true)
    (hy : y.cls ≠ "java/lang/invoke/MethodHandle" ∧ y.cls ≠ "java/lang/invoke/VarHandle") {a : Addr} (hM : MetAtHS l Z EL y bytes maxL none rm (.ref a :: argsL).toArray h a Qc) (eT : T.heap = h) (hS : s.Since vm0 k0) (hk : k0 ≤ h.size) (hEL : EW Z a0 EL) (hC : CHr Z EL s.vm hs vm0 h) (hob : a < h.size) (hO : Safe Z EL vm0 h a) (hsize : Ls.size = c.maxLocals)
    (hlen : ∀ sig, parseMethodDescriptor y.desc = some sig → argsL.length = sig.parameters.length) (hd : decode c.code pc = .ok (.invokespecial index, 3)) (hst : st = argsL.reverse ++ .ref a :: rest)
    (hW : (rest.map fun v => v.category).sum ≤ W) (hf : rm.frames + 1 ≤ R.frames) (hl : W + (maxL + 11) + rm.locals ≤ R.locals) (hc : cells + rm.cells ≤ R.cells) (hs' : slots + rm.slots ≤ R.slots)
    (kk : ∀ v T' L', Stand p l e R (s.setVm T'.vm) m args below meth c T' (locs ++ L') (cells + rm.cells) (slots + rm.slots) → s.Since T'.vm T'.heap.size → Z.Warmed39 T'.vm → T'.vm.findClass own = some m.cls → CHr Z EL s.vm hs T'.vm T'.heap → Qc v T'.heap L' → Go p e below F T' (mkF m (pc + 3) Ls (v.toList ++ rest))) : Go p e below F T (mkF m pc Ls st) := by
  have hZ' : Z.Warmed39 (s.setVm vm0).vm := hZ
  obtain ⟨v, vm₁, ⟨T', L', k', n'⟩, -, X', hS', hgr, ⟨Lc, hQ, l1, y1, z1, hC'⟩, stp⟩ := X.specialBackS hx hy1 hown (mvT hZ' wl) (mvT hZ' wi) (mvT hZ' wc) hy (own_backHS (W := W) hM hZ wc wz hf hl hEL hC.1 hob hO) (g := mkF m pc Ls st) rfl hsize (Steps.refl _) (a := a) hlen hst (by show 2 * 0 + _ ≤ _; omega) hd (fun _ _ => ⟨rfl, eT, hc, hs'⟩)
  dsimp only [Pt.U, Pt.locs, Pt.cells, Pt.slots] at X' l1 y1 z1 stp hQ hS' hgr hC'
  subst l1 y1 z1
  exact Go.via stp (kk v T' Lc X' (hS.trans hS' (Nat.le_trans hk (by rw [← eT]; exact hgr))) (State.Warmed39.trans (t := s.setVm vm0) hZ' hS'.1) (by rw [hS'.1.alike.findClass]; exact hown) (hC.trans hC') hQ)
theorem Go.retVH (X : Stand p l e R (s.setVm vm0) m args below meth c T locs cells slots) (hx : p.tables.exec = Jvm.exec) (hZ : Z.Warmed39 vm0) (hEL : EW Z a0 EL) (hs0 : s.heap = hs) (eT : T.heap = h) (hC : CHr Z EL s.vm hs vm0 h) (hS : s.Since vm0 k0) (hk : k0 ≤ T.heap.size) (hlk : meth.locks = false) (hret : meth.sig.returnType = none) (hd : decode c.code pc = .ok (.return_, 1)) (hK : cells ≤ K) (hN : slots ≤ N) (hq : Q none T.heap locs) : Go p e below (GoEndH Z EL s K N Q) T (mkF m pc Ls []) := by
  obtain ⟨fs, hr, hrun, hended, hE⟩ := X.leaveW hS hk (v := none) (fun _ => rfl) hlk
  exact ⟨_, _, X.returnOut hx hret hd hr, hrun, hended, _, rfl, _, hq, endCH (T := T) X hZ hEL hs0 eT hC, endW_mono hE hK hN⟩
theorem Go.callSH (X : Stand p l e R (s.setVm vm0) m args below meth c T locs cells slots) (hx : p.tables.exec = Jvm.exec) (hZ : Z.Warmed39 vm0) (hown : vm0.findClass own = some m.cls)
    (wl : (Cond.methodLink own index y).before a0 Z = true) (ws : (Cond.static y).before a0 Z = true) (wz : (Cond.initialized y.cls).before a0 Z = true) (wc : (Cond.code y bytes maxL ret).before a0 Z = true)
    (hy : y.cls ≠ "java/lang/invoke/MethodHandle" ∧ y.cls ≠ "java/lang/invoke/VarHandle") (hM : MetAtH l Z EL y bytes maxL ret rm argsL.toArray h Qc) (eT : T.heap = h) (hS : s.Since vm0 k0) (hk : k0 ≤ h.size) (hEL : EW Z a0 EL) (hC : CHr Z EL s.vm hs vm0 h) (hsize : Ls.size = c.maxLocals)
    (hlen : ∀ sig, parseMethodDescriptor y.desc = some sig → argsL.length = sig.parameters.length) (hd : decode c.code pc = .ok (.invokestatic index, 3)) (hst : st = argsL.reverse ++ rest)
    (hW : (rest.map fun v => v.category).sum ≤ W) (hf : rm.frames + 1 ≤ R.frames) (hl : W + (maxL + 11) + rm.locals ≤ R.locals) (hc : cells + rm.cells ≤ R.cells) (hs' : slots + rm.slots ≤ R.slots)
    (kk : ∀ v T' L', Stand p l e R (s.setVm T'.vm) m args below meth c T' (locs ++ L') (cells + rm.cells) (slots + rm.slots) → s.Since T'.vm T'.heap.size → Z.Warmed39 T'.vm → T'.vm.findClass own = some m.cls → CHr Z EL s.vm hs T'.vm T'.heap → Qc v T'.heap L' → Go p e below F T' (mkF m (pc + 3) Ls (v.toList ++ rest))) : Go p e below F T (mkF m pc Ls st) := by
  have hZ' : Z.Warmed39 (s.setVm vm0).vm := hZ
  obtain ⟨v, vm₁, ⟨T', L', k', n'⟩, -, X', hS', hgr, ⟨Lc, hQ, l1, y1, z1, hC'⟩, stp⟩ := callSS X hx hown (mvT hZ' wl) (mvT hZ' ws) (mvT hZ' wz) (mvT hZ' wc) hy (backOfSH (W := W) hM hZ wc wz hf hl hEL hC.1) (g := mkF m pc Ls st) rfl hsize hlen hst (by show 2 * 0 + _ ≤ _; omega) hd (fun _ _ => ⟨rfl, eT, hc, hs'⟩)
  dsimp only [Pt.U, Pt.locs, Pt.cells, Pt.slots] at X' l1 y1 z1 stp hQ hS' hgr hC'
  subst l1 y1 z1
  exact Go.via stp (kk v T' Lc X' (hS.trans hS' (Nat.le_trans hk (by rw [← eT]; exact hgr))) (State.Warmed39.trans (t := s.setVm vm0) hZ' hS'.1) (by rw [hS'.1.alike.findClass]; exact hown) (hC.trans hC') hQ)
end StrGo
end Jvm.RoadKit
/- laws to paste: StrChars.pair_says, StrChars.lo8_mask, StrChars.shr0 (cut by pick.py; bodies as the Statement names them) -/
namespace Jvm.Pilot.@@N@@
namespace StrChars
open Jvm Sem ClassFile Op Lib Jvm.Stand Jvm.Free.XT Jvm.Free.ALB Jvm.Free.JM Jvm.Free
open Jvm.Lib.Cold (StaticIs)
/-- the byte that i2b leaves of a char -/
def lo8 (x : Int32) : Int32 := x.toInt8.toInt32
/-- the byte, read back as charAt reads it, is the char -/
theorem lo8_mask {x : Int32} (h0 : ¬ x < 0) (h1 : ¬ 255 < x) : lo8 x &&& 255 = x := by
  have t : ∀ k : Fin 256, lo8 (Int32.ofNat k.val) &&& 255 = Int32.ofNat k.val := by decide +kernel
  rw [Int32.lt_iff_toInt_lt] at h0 h1
  have e0 : (0 : Int32).toInt = 0 := rfl
  have e1 : (255 : Int32).toInt = 255 := rfl
  obtain ⟨k, hk⟩ : ∃ k : Nat, x.toInt = k := ⟨x.toInt.toNat, by omega⟩
  have hx : x = Int32.ofNat k := Int32.toInt_inj.mp (by rw [hk, Int32.toInt_ofNat_small (by omega)])
  rw [hx]
  exact t ⟨k, by omega⟩
end StrChars
namespace StrChars
open Jvm Sem ClassFile Op Lib Jvm.Stand Jvm.Free.XT Jvm.Free.ALB Jvm.Free.JM Jvm.Free
open Jvm.Lib.Cold (StaticIs)
def hi8 (x : Int32) : Int32 := lo8 (x >>> ((8 : Int32) &&& 31))
/-- what StringUTF16.getChar makes of two bytes -/
def pairCh (u v : Int32) : Int32 := (((u &&& 255) <<< ((0 : Int32) &&& 31)) ||| ((v &&& 255) <<< ((8 : Int32) &&& 31))).toUInt32.toUInt16.toUInt32.toInt32
theorem shr0 (c : Int32) : c >>> ((0 : Int32) &&& 31) = c := by
  have e : ((0 : Int32) &&& 31) = 0 := by decide
  rw [e]
  apply Int32.toBitVec_inj.mp
  rw [Int32.toBitVec_shiftRight]
  have e1 : ((0 : Int32).toBitVec.smod 32) = 0#32 := by decide
  rw [e1, BitVec.sshiftRight_eq']
  exact BitVec.sshiftRight_zero
theorem lo8_and (x : Int32) : (lo8 x &&& 255).toBitVec.toNat = x.toBitVec.toNat % 256 := by
  have h : (lo8 x).toBitVec = (x.toBitVec.signExtend 8).signExtend 32 := by rw [lo8, Int8.toBitVec_toInt32, Int32.toBitVec_toInt8]
  rw [Int32.toBitVec_and, BitVec.toNat_and, h]
  have e : ((x.toBitVec.signExtend 8).signExtend 32).toNat % 256 = x.toBitVec.toNat % 256 := by
    rw [BitVec.toNat_signExtend]
    have hlt := x.toBitVec.isLt
    simp only [BitVec.toNat_setWidth, BitVec.toNat_signExtend]
    split <;> split <;> omega
  rw [← e]
  exact Nat.and_two_pow_sub_one_eq_mod _ 8
theorem pair_says {c : Int32} (h0 : ¬ c < 0) (h1 : ¬ 65535 < c) : pairCh (lo8 c) (hi8 c) = c := by
  rw [Int32.lt_iff_toInt_lt] at h0 h1
  have e0 : (0 : Int32).toInt = 0 := rfl
  have e1 : (65535 : Int32).toInt = 65535 := rfl
  have hc : c.toInt = c.toBitVec.toNat := by
    have := c.toBitVec.isLt
    have e : c.toInt = c.toBitVec.toInt := rfl
    rw [e] at h0 h1
    rw [e]
    rw [BitVec.toInt_eq_toNat_cond] at h0 h1 ⊢
    split at h0 <;> split <;> omega
  have hn : c.toBitVec.toNat < 65536 := by omega
  have a1 := lo8_and c
  have a2 : (hi8 c &&& 255).toBitVec.toNat = c.toBitVec.toNat / 256 := by
    rw [hi8, lo8_and]
    have e : ((8 : Int32) &&& 31) = 8 := by decide
    rw [e, Int32.toBitVec_shiftRight]
    have e2 : ((8 : Int32).toBitVec.smod 32) = 8#32 := by decide
    rw [e2, BitVec.sshiftRight_eq', BitVec.toNat_sshiftRight_of_msb_false (by rw [BitVec.msb_eq_false_iff_two_mul_lt]; omega)]
    show c.toBitVec.toNat >>> 8 % 256 = _
    rw [Nat.shiftRight_eq_div_pow]
    omega
  unfold pairCh
  apply Int32.toBitVec_inj.mp
  apply BitVec.eq_of_toNat_eq
  have f0 : ((0 : Int32) &&& 31) = 0 := by decide
  have f8 : ((8 : Int32) &&& 31) = 8 := by decide
  rw [f0, f8]
  have g : (((lo8 c &&& 255) <<< (0 : Int32)) ||| ((hi8 c &&& 255) <<< (8 : Int32))).toBitVec.toNat = c.toBitVec.toNat := by
    rw [Int32.toBitVec_or, Int32.toBitVec_shiftLeft, Int32.toBitVec_shiftLeft]
    have s0 : ((0 : Int32).toBitVec.smod 32) = 0#32 := by decide
    have s8 : ((8 : Int32).toBitVec.smod 32) = 8#32 := by decide
    rw [s0, s8, BitVec.toNat_or]
    simp only [BitVec.shiftLeft_eq', BitVec.toNat_shiftLeft, a1, a2]
    show (c.toBitVec.toNat % 256) <<< 0 % 2 ^ 32 ||| (c.toBitVec.toNat / 256) <<< 8 % 2 ^ 32 = _
    rw [Nat.shiftLeft_zero, Nat.mod_eq_of_lt (show c.toBitVec.toNat % 256 < 2 ^ 32 by omega), Nat.mod_eq_of_lt (show (c.toBitVec.toNat / 256) <<< 8 < 2 ^ 32 by rw [Nat.shiftLeft_eq]; omega), Nat.or_comm, ← Nat.shiftLeft_add_eq_or_of_lt (by omega), Nat.shiftLeft_eq]
    omega
  show BitVec.toNat (((((lo8 c &&& 255) <<< (0 : Int32)) ||| ((hi8 c &&& 255) <<< (8 : Int32))).toBitVec.setWidth 16).setWidth 32) = _
  rw [BitVec.toNat_setWidth, BitVec.toNat_setWidth, g]
  omega
end StrChars
end Jvm.Pilot.@@N@@
namespace Jvm.Pilot.@@N@@
open Jvm Jvm.ClassFile Sem Op Lib Jvm.Free Jvm.Stand Jvm.LawKit Jvm.RoadKit Bundle Jvm.Pilot.@@N@@.Jvm.D Jvm.Pilot.@@N@@.StrChars
set_option maxRecDepth 65536
set_option maxHeartbeats 40000000
theorem own_t {a0 : Array Value} {Z : State} {d : Jvm.Cond} (hw : ∀ d ∈ tables_1, d.before a0 Z = true) (n : Nat) (h : tables_1[n]? = some d) : d.before a0 Z = true := hw d (List.mem_of_getElem? h)
abbrev y_0 : MethodName := ⟨"java/lang/Character", "isHighSurrogate", "(C)Z"⟩
abbrev y_1 : MethodName := ⟨"java/lang/Character", "isLowSurrogate", "(C)Z"⟩
abbrev y_2 : MethodName := ⟨"java/lang/Character", "toCodePoint", "(CC)I"⟩
abbrev y_3 : MethodName := ⟨"java/lang/Character", "charCount", "(I)I"⟩
abbrev y_4 : MethodName := ⟨"java/lang/Integer", "compare", "(II)I"⟩
abbrev y_5 : MethodName := ⟨"com/example/keen_guess/keenguess/text/CodePointOrderComparePinLaw", "next", "(II)I"⟩
abbrev y_6 : MethodName := ⟨"com/example/keen_guess/keenguess/text/CodePointOrderComparePinLaw", "cpAt", "([CII)I"⟩
abbrev y_7 : MethodName := ⟨"java/lang/StringUTF16", "getChar", "([BI)C"⟩
abbrev y_8 : MethodName := ⟨"java/lang/StringUTF16", "codePointAt", "([BIIZ)I"⟩
abbrev y_9 : MethodName := ⟨"java/lang/StringUTF16", "codePointAt", "([BII)I"⟩
abbrev y_10 : MethodName := ⟨"java/lang/String", "coder", "()B"⟩
abbrev y_11 : MethodName := ⟨"java/lang/String", "isLatin1", "()Z"⟩
abbrev y_12 : MethodName := ⟨"jdk/internal/util/Preconditions", "checkIndex", "(IILjava/util/function/BiFunction;)I"⟩
abbrev y_13 : MethodName := ⟨"java/lang/String", "checkIndex", "(II)V"⟩
abbrev y_14 : MethodName := ⟨"java/lang/String", "length", "()I"⟩
abbrev y_15 : MethodName := ⟨"java/lang/String", "codePointAt", "(I)I"⟩
abbrev y_16 : MethodName := ⟨"java/lang/StringUTF16", "putChar", "([BII)V"⟩
abbrev y_17 : MethodName := ⟨"java/lang/StringUTF16", "newBytesLength", "(I)I"⟩
abbrev y_18 : MethodName := ⟨"java/lang/StringUTF16", "newBytesFor", "(I)[B"⟩
abbrev y_19 : MethodName := ⟨"java/lang/StringUTF16", "toBytes", "([CII)[B"⟩
abbrev y_20 : MethodName := ⟨"java/lang/StringUTF16", "coderFromArrayLen", "([BI)B"⟩
abbrev y_21 : MethodName := ⟨"java/lang/StringUTF16", "compress", "([CI[BII)I"⟩
abbrev y_22 : MethodName := ⟨"java/lang/StringUTF16", "compress", "([CII)[B"⟩
abbrev y_23 : MethodName := ⟨"java/lang/String", "<init>", "([CIILjava/lang/Void;)V"⟩
abbrev y_24 : MethodName := ⟨"java/lang/String", "<init>", "([C)V"⟩
abbrev y_25 : MethodName := ⟨"com/example/keen_guess/keenguess/text/CodePointOrderComparePinLaw", "make", "(CCCI)Ljava/lang/String;"⟩
abbrev y_26 : MethodName := ⟨"com/example/keen_guess/keenguess/text/CodePointOrder", "compare", "(Ljava/lang/String;Ljava/lang/String;)I"⟩
abbrev y_27 : MethodName := ⟨"com/example/keen_guess/keenguess/text/CodePointOrderComparePinLaw", "pick", "(III)C"⟩
abbrev own_SA (Z : State) (h : Heap) : Prop := Sta Z h "java/lang/StringUTF16" "$assertionsDisabled" "Z" (.int 1)
abbrev own_SH (Z : State) (h : Heap) : Prop := Sta Z h "java/lang/StringUTF16" "HI_BYTE_SHIFT" "I" (.int 0)
abbrev own_SL (Z : State) (h : Heap) : Prop := Sta Z h "java/lang/StringUTF16" "LO_BYTE_SHIFT" "I" (.int 8)
abbrev own_SB (Z : State) (h : Heap) (cz : Int32) : Prop := Sta Z h "java/lang/String" "COMPACT_STRINGS" "Z" (.int cz)
abbrev own_SG (Z : State) (h : Heap) (G : Value) : Prop := Sta Z h "jdk/internal/util/Preconditions" "SIOOBE_FORMATTER" "Ljava/util/function/BiFunction;" G
/-- a char -/
def own_C (c : Int32) : Prop := ¬ c < 0 ∧ ¬ (65535 : Int32) < c
/-- two chars' code point, as the law says it -/
def own_cp (h l : Int32) : Int32 := if h < 55296 then h else if 56319 < h then h else if l < 56320 then h else if 57343 < l then h else 65536 + ((h - 55296) <<< ((10 : Int32) &&& 31)) + (l - 56320)
def own_F (c0 c1 c2 : Int32) : Nat → Nat → Int32
  | 1, 0 => c0
  | 2, 0 => own_cp c0 c1
  | 2, 1 => c1
  | 3, 0 => own_cp c0 c1
  | 3, 1 => own_cp c1 c2
  | 3, 2 => c2
  | _, _ => -1
def own_nx (i : Nat) (x : Int32) : Nat := if x < 65536 then i + 1 else i + 2
def own_ic (x y : Int32) : Int32 := if x < y then -1 else if x = y then 0 else 1
/-- the compared loop, with turns left -/
def own_go (F G : Nat → Int32) (n k : Nat) : Nat → Nat → Int32
  | 0, i => own_ic (own_I n - own_I i) (own_I k - own_I i)
  | f + 1, i => if own_I i < own_I n then (if own_I i < own_I k then (if F i = G i then own_go F G n k f (own_nx i (F i)) else own_ic (F i) (G i)) else own_ic (own_I n - own_I i) (own_I k - own_I i)) else own_ic (own_I n - own_I i) (own_I k - own_I i)
def own_ex (x0 x1 x2 y0 y1 y2 : Int32) : Int32 := if x0 = y0 then (if x1 = y1 then (if x2 = y2 then 0 else if x2 < y2 then -1 else 1) else if x1 < y1 then -1 else 1) else if x0 < y0 then -1 else 1
def own_sg (g : Int32) : Int32 := if g < 0 then -1 else if 0 < g then 1 else 0
/-- what the two texts' code points obey -/
def own_ok (F : Nat → Int32) (n : Nat) : Prop := (∀ i, i < n → 0 ≤ (F i).toInt) ∧ (∀ i, n ≤ i → F i = -1) ∧ ∀ i, i < n → ¬ F i < 65536 → i + 1 < n
def own_e (F G : Nat → Int32) : Nat → Nat → Int32
  | 0, _ => 0
  | f + 1, i => if F i = G i then own_e F G f (own_nx i (F i)) else if F i < G i then -1 else 1
theorem own_sgic (x y : Int32) : own_sg (own_ic x y) = own_ic x y := by
  unfold own_ic
  split
  · decide
  · split <;> decide
theorem own_icne {x y : Int32} (h : ¬ x = y) : own_ic x y = if x < y then -1 else 1 := by
  unfold own_ic
  rw [if_neg h]
theorem own_eend {F G : Nat → Int32} (f : Nat) : ∀ i, (∀ j, i ≤ j → F j = -1) → (∀ j, i ≤ j → G j = -1) → own_e F G f i = 0 := by
  induction f with
  | zero => intro i _ _; rfl
  | succ f ih =>
    intro i hF hG
    have e1 := hF i (Nat.le_refl _)
    have e2 := hG i (Nat.le_refl _)
    unfold own_e
    rw [if_pos (by rw [e1, e2])]
    have : i ≤ own_nx i (F i) := by unfold own_nx; split <;> omega
    exact ih _ (fun j hj => hF j (by omega)) (fun j hj => hG j (by omega))
theorem own_sub {n i : Nat} (h : i ≤ n) (hn : n < 16) : (own_I n - own_I i).toInt = n - i := by
  rw [Int32.toInt_sub, own_I_toInt hn, own_I_toInt (by omega), Int.bmod_eq_of_le (by omega) (by omega)]
theorem own_m1 : (-1 : Int32).toInt = -1 := rfl
theorem own_exit {F G : Nat → Int32} {n k : Nat} (hF : own_ok F n) (hG : own_ok G k) (hn : n ≤ 3) (hk : k ≤ 3) {i f : Nat} (hin : i ≤ n) (hik : i ≤ k) (h : i = n ∨ i = k) (hf : 0 < f ∨ (i = n ∧ i = k)) : own_ic (own_I n - own_I i) (own_I k - own_I i) = own_e F G f i := by
  have en := own_sub hin (by omega : n < 16)
  have ek := own_sub hik (by omega : k < 16)
  by_cases q : n = k
  · subst q
    have hi : i = n := by omega
    rw [own_eend f i (fun j hj => hF.2.1 j (by omega)) (fun j hj => hG.2.1 j (by omega))]
    unfold own_ic
    rw [if_neg (by rw [Int32.lt_iff_toInt_lt]; omega), if_pos rfl]
  · obtain ⟨f', rfl⟩ : ∃ f', f = f' + 1 := ⟨f - 1, by omega⟩
    unfold own_e own_ic
    rcases Nat.lt_or_gt_of_ne q with q' | q'
    · have hi : i = n := by omega
      have e1 := hF.2.1 i (by omega)
      have e2 := hG.1 i (by omega)
      rw [if_pos (by rw [Int32.lt_iff_toInt_lt]; omega), if_neg (fun z => by rw [← z, e1, own_m1] at e2; omega), if_pos (by rw [Int32.lt_iff_toInt_lt, e1, own_m1]; omega)]
    · have hi : i = k := by omega
      have e1 := hG.2.1 i (by omega)
      have e2 := hF.1 i (by omega)
      rw [if_neg (by rw [Int32.lt_iff_toInt_lt]; omega), if_neg (fun z => by have := congrArg Int32.toInt z; omega), if_neg (fun z => by rw [z, e1, own_m1] at e2; omega), if_neg (by rw [Int32.lt_iff_toInt_lt, e1, own_m1]; omega)]
theorem own_main {F G : Nat → Int32} {n k : Nat} (hF : own_ok F n) (hG : own_ok G k) (hn : n ≤ 3) (hk : k ≤ 3) (f : Nat) : ∀ i, i ≤ n → i ≤ k → n ≤ i + f → k ≤ i + f → own_go F G n k f i = own_e F G f i := by
  induction f with
  | zero =>
    intro i h1 h2 h3 h4
    exact own_exit hF hG hn hk h1 h2 (by omega) (Or.inr (by omega))
  | succ f ih =>
    intro i h1 h2 h3 h4
    by_cases q1 : i < n
    · by_cases q2 : i < k
      · unfold own_go
        rw [if_pos ((own_I_lt (by omega) (by omega)).mpr q1), if_pos ((own_I_lt (by omega) (by omega)).mpr q2)]
        unfold own_e
        by_cases q3 : F i = G i
        · rw [if_pos q3, if_pos q3]
          by_cases q4 : F i < 65536
          · have e : own_nx i (F i) = i + 1 := if_pos q4
            rw [e]; exact ih _ (by omega) (by omega) (by omega) (by omega)
          · have e : own_nx i (F i) = i + 2 := if_neg q4
            have a1 := hF.2.2 i q1 q4
            have a2 := hG.2.2 i q2 (q3 ▸ q4)
            rw [e]; exact ih _ (by omega) (by omega) (by omega) (by omega)
        · rw [if_neg q3, if_neg q3, own_icne q3]
      · unfold own_go
        rw [if_pos ((own_I_lt (by omega) (by omega)).mpr q1), if_neg (fun z => q2 ((own_I_lt (by omega) (by omega)).mp z))]
        exact own_exit hF hG hn hk h1 h2 (by omega) (Or.inl (by omega))
    · unfold own_go
      rw [if_neg (fun z => q1 ((own_I_lt (by omega) (by omega)).mp z))]
      exact own_exit hF hG hn hk h1 h2 (by omega) (Or.inl (by omega))
theorem own_law {F G : Nat → Int32} {n k : Nat} (hF : own_ok F n) (hG : own_ok G k) (hn : n ≤ 3) (hk : k ≤ 3) :
    own_sg (own_go F G n k 3 0) = own_ex (F 0) (F (own_nx 0 (F 0))) (F (own_nx (own_nx 0 (F 0)) (F (own_nx 0 (F 0))))) (G 0) (G (own_nx 0 (G 0))) (G (own_nx (own_nx 0 (G 0)) (G (own_nx 0 (G 0))))) := by
  have e : own_go F G n k 3 0 = own_e F G 3 0 := own_main hF hG hn hk 3 0 (by omega) (by omega) (by omega) (by omega)
  have s : ∀ f i, own_sg (own_e F G f i) = own_e F G f i := by
    intro f
    induction f with
    | zero => intro i; show own_sg 0 = 0; decide
    | succ f ih =>
      intro i; unfold own_e
      split
      · exact ih _
      · split <;> decide
  rw [e, s]
  unfold own_ex own_e
  by_cases q0 : F 0 = G 0
  · rw [if_pos q0, if_pos q0]
    rw [← q0]
    unfold own_e
    by_cases q1 : F (own_nx 0 (F 0)) = G (own_nx 0 (F 0))
    · rw [if_pos q1, if_pos q1, ← q1]
      unfold own_e
      by_cases q2 : F (own_nx (own_nx 0 (F 0)) (F (own_nx 0 (F 0)))) = G (own_nx (own_nx 0 (F 0)) (F (own_nx 0 (F 0))))
      · rw [if_pos q2, if_pos q2]; rfl
      · rw [if_neg q2, if_neg q2]
    · rw [if_neg q1, if_neg q1]
  · rw [if_neg q0, if_neg q0]
theorem own_cI {c : Int32} (h : own_C c) : 0 ≤ c.toInt ∧ c.toInt ≤ 65535 := by
  obtain ⟨h0, h1⟩ := h
  rw [Int32.lt_iff_toInt_lt] at h0 h1
  have e0 : (0 : Int32).toInt = 0 := rfl
  have e1 : (65535 : Int32).toInt = 65535 := rfl
  omega
theorem own_cN {c : Int32} (h : 0 ≤ c.toInt) : c.toBitVec.toNat = c.toInt.toNat := by
  have e : c.toInt = c.toBitVec.toInt := rfl
  rw [e, BitVec.toInt_eq_toNat_cond] at h ⊢
  have := c.toBitVec.isLt
  split at h <;> split <;> omega
theorem own_shl10 {x : Int32} (h0 : 0 ≤ x.toInt) (h1 : x.toInt ≤ 65535) : (x <<< ((10 : Int32) &&& 31)).toInt = x.toInt * 1024 := by
  have f : ((10 : Int32) &&& 31) = 10 := by decide
  have s : ((10 : Int32).toBitVec.smod 32) = 10#32 := by decide
  have hn := own_cN h0
  have e : (x <<< ((10 : Int32) &&& 31)).toInt = (x <<< ((10 : Int32) &&& 31)).toBitVec.toInt := rfl
  rw [e, f, Int32.toBitVec_shiftLeft, s, BitVec.toInt_eq_toNat_cond]
  have k : (x.toBitVec <<< 10#32).toNat = x.toInt.toNat * 1024 := by
    rw [BitVec.shiftLeft_eq', BitVec.toNat_shiftLeft, hn]
    show (x.toInt.toNat <<< 10) % 2 ^ 32 = _
    rw [Nat.shiftLeft_eq]; omega
  rw [k]; split <;> omega
theorem own_pairI {h l : Int32} (h1 : 55296 ≤ h.toInt) (h2 : h.toInt ≤ 56319) (l1 : 56320 ≤ l.toInt) (l2 : l.toInt ≤ 57343) : (65536 + ((h - 55296) <<< ((10 : Int32) &&& 31)) + (l - 56320)).toInt = 65536 + (h.toInt - 55296) * 1024 + (l.toInt - 56320) := by
  have a : (h - 55296).toInt = h.toInt - 55296 := by rw [Int32.toInt_sub, show (55296 : Int32).toInt = 55296 from rfl, Int.bmod_eq_of_le (by omega) (by omega)]
  have b : (l - 56320).toInt = l.toInt - 56320 := by rw [Int32.toInt_sub, show (56320 : Int32).toInt = 56320 from rfl, Int.bmod_eq_of_le (by omega) (by omega)]
  have c := own_shl10 (x := h - 55296) (by omega) (by omega)
  rw [Int32.toInt_add, Int32.toInt_add, b, c, a, show (65536 : Int32).toInt = 65536 from rfl, Int.bmod_eq_of_le (n := 65536 + (h.toInt - 55296) * 1024) (by omega) (by omega), Int.bmod_eq_of_le (by omega) (by omega)]
theorem own_lts {x y : Int32} {a b : Int} (hx : x.toInt = a) (hy : y.toInt = b) : x < y ↔ a < b := by rw [Int32.lt_iff_toInt_lt, hx, hy]
theorem own_cp0 {h l : Int32} (hh : own_C h) (hl : own_C l) : 0 ≤ (own_cp h l).toInt := by
  have a := own_cI hh; have b := own_cI hl
  unfold own_cp
  split
  · exact a.1
  · rename_i q1
    split
    · exact a.1
    · rename_i q2
      split
      · exact a.1
      · rename_i q3
        split
        · exact a.1
        · rename_i q4
          rw [own_lts rfl (show (55296 : Int32).toInt = 55296 from rfl)] at q1
          rw [own_lts (show (56319 : Int32).toInt = 56319 from rfl) rfl] at q2
          rw [own_lts rfl (show (56320 : Int32).toInt = 56320 from rfl)] at q3
          rw [own_lts (show (57343 : Int32).toInt = 57343 from rfl) rfl] at q4
          rw [own_pairI (by omega) (by omega) (by omega) (by omega)]; omega
theorem own_c16 {c : Int32} (h : own_C c) : c < 65536 := by
  have := own_cI h
  rw [own_lts rfl (show (65536 : Int32).toInt = 65536 from rfl)]; omega
theorem own_okF {c0 c1 c2 : Int32} (r0 : own_C c0) (r1 : own_C c1) (r2 : own_C c2) {n : Nat} (hn : n ≤ 3) : own_ok (own_F c0 c1 c2 n) n := by
  have a0 := own_cI r0; have a1 := own_cI r1; have a2 := own_cI r2
  refine ⟨fun i hi => ?_, fun i hi => ?_, fun i hi hq => ?_⟩
  · match n, i, hn, hi with
    | 1, 0, _, _ => exact a0.1
    | 2, 0, _, _ => exact own_cp0 r0 r1
    | 2, 1, _, _ => exact a1.1
    | 3, 0, _, _ => exact own_cp0 r0 r1
    | 3, 1, _, _ => exact own_cp0 r1 r2
    | 3, 2, _, _ => exact a2.1
    | 1, i + 1, _, h => omega
    | 2, i + 2, _, h => omega
    | 3, i + 3, _, h => omega
    | n + 4, _, h, _ => omega
    | 0, _, _, h => omega
  · match n, i, hn, hi with
    | 0, _, _, _ => simp [own_F]
    | 1, i + 1, _, _ => simp [own_F]
    | 2, i + 2, _, _ => simp [own_F]
    | 3, i + 3, _, _ => simp [own_F]
    | 1, 0, _, h => omega
    | 2, 0, _, h => omega
    | 2, 1, _, h => omega
    | 3, 0, _, h => omega
    | 3, 1, _, h => omega
    | 3, 2, _, h => omega
    | n + 4, _, h, _ => omega
  · match n, i, hn, hi with
    | 1, 0, _, _ => exact absurd (own_c16 r0) hq
    | 2, 0, _, _ => omega
    | 2, 1, _, _ => exact absurd (own_c16 r1) hq
    | 3, 0, _, _ => omega
    | 3, 1, _, _ => omega
    | 3, 2, _, _ => exact absurd (own_c16 r2) hq
    | 1, i + 1, _, h => omega
    | 2, i + 2, _, h => omega
    | 3, i + 3, _, h => omega
    | n + 4, _, h, _ => omega
    | 0, _, _, h => omega
def own_isH (c : Int32) : Int32 := if c < 55296 then 0 else if c < 56320 then 1 else 0
def own_isL (c : Int32) : Int32 := if c < 56320 then 0 else if c < 57344 then 1 else 0
theorem own_j0 {h l : Int32} (q : own_isH h = 0) : own_cp h l = h := by
  unfold own_isH at q; unfold own_cp
  split at q
  · rename_i z; rw [if_pos z]
  · rename_i z; rw [if_neg z]
    split at q
    · exact absurd q (by decide)
    · rename_i y
      rw [if_pos (by rw [Int32.lt_iff_toInt_lt] at y ⊢; have e1 : (56320 : Int32).toInt = 56320 := rfl; have e2 : (56319 : Int32).toInt = 56319 := rfl; omega)]
theorem own_hi {h : Int32} (q : ¬ own_isH h = 0) : ¬ h < 55296 ∧ ¬ (56319 : Int32) < h := by
  unfold own_isH at q
  split at q
  · exact absurd rfl q
  · rename_i z
    split at q
    · rename_i y
      exact ⟨z, by rw [Int32.lt_iff_toInt_lt] at y ⊢; have e1 : (56320 : Int32).toInt = 56320 := rfl; have e2 : (56319 : Int32).toInt = 56319 := rfl; omega⟩
    · exact absurd rfl q
theorem own_loS {l : Int32} (q : ¬ own_isL l = 0) : ¬ l < 56320 ∧ ¬ (57343 : Int32) < l := by
  unfold own_isL at q
  split at q
  · exact absurd rfl q
  · rename_i z
    split at q
    · rename_i y
      exact ⟨z, by rw [Int32.lt_iff_toInt_lt] at y ⊢; have e1 : (57344 : Int32).toInt = 57344 := rfl; have e2 : (57343 : Int32).toInt = 57343 := rfl; omega⟩
    · exact absurd rfl q
theorem own_j1 {h l : Int32} (q : own_isL l = 0) : own_cp h l = h := by
  unfold own_isL at q; unfold own_cp
  split
  · rfl
  · split
    · rfl
    · split at q
      · rename_i z; rw [if_pos z]
      · rename_i z; rw [if_neg z]
        split at q
        · exact absurd q (by decide)
        · rename_i y
          rw [if_pos (by rw [Int32.lt_iff_toInt_lt] at y ⊢; have e1 : (57344 : Int32).toInt = 57344 := rfl; have e2 : (57343 : Int32).toInt = 57343 := rfl; omega)]
theorem own_j2 {h l : Int32} (qh : ¬ own_isH h = 0) (ql : ¬ own_isL l = 0) : (h <<< ((10 : Int32) &&& 31)) + l + (-56613888) = own_cp h l := by
  obtain ⟨a, b⟩ := own_hi qh
  obtain ⟨c, d⟩ := own_loS ql
  unfold own_cp
  rw [if_neg a, if_neg b, if_neg c, if_neg d]
  rw [own_lts rfl (show (55296 : Int32).toInt = 55296 from rfl)] at a
  rw [own_lts (show (56319 : Int32).toInt = 56319 from rfl) rfl] at b
  rw [own_lts rfl (show (56320 : Int32).toInt = 56320 from rfl)] at c
  rw [own_lts (show (57343 : Int32).toInt = 57343 from rfl) rfl] at d
  apply Int32.toInt_inj.mp
  rw [own_pairI (by omega) (by omega) (by omega) (by omega), Int32.toInt_add, Int32.toInt_add, own_shl10 (by omega) (by omega), show (-56613888 : Int32).toInt = -56613888 from rfl, Int.bmod_eq_of_le (n := h.toInt * 1024 + l.toInt) (by omega) (by omega), Int.bmod_eq_of_le (by omega) (by omega)]
  omega
theorem own_l0 {h l : Int32} (q : ¬ 255 < h) : own_cp h l = h := by
  unfold own_cp
  rw [if_pos (by rw [Int32.lt_iff_toInt_lt] at q ⊢; have e1 : (255 : Int32).toInt = 255 := rfl; have e2 : (55296 : Int32).toInt = 55296 := rfl; omega)]
def own_cc (x : Int32) : Int32 := if x < 65536 then 1 else 2
theorem own_nc {c : Int32} (h : own_C c) : nar .char c = c := by
  have a := own_cI h
  have hn := own_cN a.1
  show c.toUInt32.toUInt16.toUInt32.toInt32 = c
  apply Int32.toBitVec_inj.mp
  apply BitVec.eq_of_toNat_eq
  show ((c.toBitVec.setWidth 16).setWidth 32).toNat = _
  rw [BitVec.toNat_setWidth, BitVec.toNat_setWidth, hn]
  omega
theorem own_n16 (z : Int32) : own_C (nar .char z) := by
  have e : (nar .char z).toInt = ((z.toBitVec.setWidth 16).setWidth 32).toInt := rfl
  have k : ((z.toBitVec.setWidth 16).setWidth 32).toNat < 65536 := by
    rw [BitVec.toNat_setWidth, BitVec.toNat_setWidth]
    exact Nat.lt_of_le_of_lt (Nat.mod_le _ _) (Nat.mod_lt _ (by decide))
  have k2 : 0 ≤ (nar .char z).toInt ∧ (nar .char z).toInt < 65536 := by rw [e, BitVec.toInt_eq_toNat_cond]; split <;> omega
  refine ⟨?_, ?_⟩
  · rw [own_lts rfl (show (0 : Int32).toInt = 0 from rfl)]; omega
  · rw [own_lts (show (65535 : Int32).toInt = 65535 from rfl) rfl]; omega
theorem own_w2 (c : Int32) : nar .byte c.toInt8.toInt32 = lo8 c := by
  show (c.toInt8.toInt32).toInt8.toInt32 = _
  rw [Int8.toInt8_toInt32]; rfl
theorem own_w0 (c : Int32) : nar .byte (c >>> ((0 : Int32) &&& 31)).toInt8.toInt32 = lo8 c := by rw [shr0]; exact own_w2 c
theorem own_w1 (c : Int32) : nar .byte (c >>> ((8 : Int32) &&& 31)).toInt8.toInt32 = hi8 c := own_w2 _
theorem own_nxle (i : Nat) (x : Int32) : own_nx i x ≤ i + 2 := by unfold own_nx; split <;> omega
def own_lo (c0 c1 c2 : Int32) : Nat → List Value
  | 0 => []
  | 1 => [.int (lo8 c0)]
  | 2 => [.int (lo8 c0), .int (lo8 c1)]
  | _ => [.int (lo8 c0), .int (lo8 c1), .int (lo8 c2)]
def own_wd (c0 c1 c2 : Int32) : Nat → List Value
  | 0 => []
  | 1 => [.int (lo8 c0), .int (hi8 c0)]
  | 2 => [.int (lo8 c0), .int (hi8 c0), .int (lo8 c1), .int (hi8 c1)]
  | _ => [.int (lo8 c0), .int (hi8 c0), .int (lo8 c1), .int (hi8 c1), .int (lo8 c2), .int (hi8 c2)]
def own_lat (c0 c1 c2 : Int32) : Nat → Prop
  | 0 => True
  | 1 => ¬ (255 : Int32) < c0
  | 2 => ¬ (255 : Int32) < c0 ∧ ¬ (255 : Int32) < c1
  | _ => ¬ (255 : Int32) < c0 ∧ ¬ (255 : Int32) < c1 ∧ ¬ (255 : Int32) < c2
def own_ch (c0 c1 c2 : Int32) : Nat → Int32
  | 0 => c0
  | 1 => c1
  | _ => c2
theorem own_chC {c0 c1 c2 : Int32} (r0 : own_C c0) (r1 : own_C c1) (r2 : own_C c2) (i : Nat) : own_C (own_ch c0 c1 c2 i) := by
  match i with
  | 0 => exact r0
  | 1 => exact r1
  | i + 2 => exact r2
theorem own_Fif (c0 c1 c2 : Int32) {n i : Nat} (hn : n ≤ 3) (hi : i ≤ 4) : own_F c0 c1 c2 n i = if own_I i < own_I n then (if own_I (i + 1) < own_I n then own_cp (own_ch c0 c1 c2 i) (own_ch c0 c1 c2 (i + 1)) else own_ch c0 c1 c2 i) else -1 := by
  rcases (by omega : n = 0 ∨ n = 1 ∨ n = 2 ∨ n = 3) with rfl | rfl | rfl | rfl <;> rcases (by omega : i = 0 ∨ i = 1 ∨ i = 2 ∨ i = 3 ∨ i = 4) with rfl | rfl | rfl | rfl | rfl <;> rfl
theorem own_at3 {c0 c1 c2 : Int32} {i : Nat} (hi : i < 3) : [Value.int c0, .int c1, .int c2].getD (own_I i).toNatClampNeg (.int 0) = .int (own_ch c0 c1 c2 i) := by
  rcases (by omega : i = 0 ∨ i = 1 ∨ i = 2) with rfl | rfl | rfl <;> rfl
theorem own_atl {c0 c1 c2 : Int32} {n i : Nat} (hn : n ≤ 3) (hi : i < n) : (own_lo c0 c1 c2 n).getD (own_I i).toNatClampNeg (.int 0) = .int (lo8 (own_ch c0 c1 c2 i)) := by
  rcases (by omega : n = 1 ∨ n = 2 ∨ n = 3) with rfl | rfl | rfl <;> rcases (by omega : i = 0 ∨ i = 1 ∨ i = 2) with rfl | rfl | rfl <;> first | rfl | omega
theorem own_atw {c0 c1 c2 : Int32} {n i : Nat} (hn : n ≤ 3) (hi : i < n) : (own_wd c0 c1 c2 n).getD (own_I (2 * i)).toNatClampNeg (.int 0) = .int (lo8 (own_ch c0 c1 c2 i)) ∧ (own_wd c0 c1 c2 n).getD (own_I (2 * i + 1)).toNatClampNeg (.int 0) = .int (hi8 (own_ch c0 c1 c2 i)) := by
  rcases (by omega : n = 1 ∨ n = 2 ∨ n = 3) with rfl | rfl | rfl <;> rcases (by omega : i = 0 ∨ i = 1 ∨ i = 2) with rfl | rfl | rfl <;> first | exact ⟨rfl, rfl⟩ | omega
theorem own_latc {c0 c1 c2 : Int32} {n i : Nat} (hn : n ≤ 3) (hi : i < n) (h : own_lat c0 c1 c2 n) : ¬ (255 : Int32) < own_ch c0 c1 c2 i := by
  rcases (by omega : n = 1 ∨ n = 2 ∨ n = 3) with rfl | rfl | rfl <;> rcases (by omega : i = 0 ∨ i = 1 ∨ i = 2) with rfl | rfl | rfl <;> first | omega | exact h | exact h.1 | exact h.2 | exact h.2.1 | exact h.2.2
theorem own_dblT : ∀ i : Fin 8, own_I i.val <<< ((1 : Int32) &&& 31) = own_I (2 * i.val) := by decide +kernel
theorem own_dbl {i : Nat} (h : i < 8) : own_I i <<< ((1 : Int32) &&& 31) = own_I (2 * i) := own_dblT ⟨i, h⟩
theorem own_halfT : ∀ i : Fin 8, own_I (2 * i.val) >>> ((1 : Int32) &&& 31) = own_I i.val := by decide +kernel
theorem own_half {i : Nat} (h : i < 8) : own_I (2 * i) >>> ((1 : Int32) &&& 31) = own_I i := own_halfT ⟨i, h⟩
theorem own_sh0T : ∀ i : Fin 8, own_I i.val >>> ((0 : Int32) &&& 31) = own_I i.val := by decide +kernel
theorem own_sh0 {i : Nat} (h : i < 8) : own_I i >>> ((0 : Int32) &&& 31) = own_I i := own_sh0T ⟨i, h⟩
/-- a String of the first n of three chars, in either of its two forms -/
abbrev own_Str (Z : State) (h : Heap) (x : Addr) (c0 c1 c2 : Int32) (n : Nat) : Prop := Exa Z h x "java/lang/String" ∧ ∃ t kb, Fld Z h x "java/lang/String" "value" "[B" (.ref t) ∧
  ((Fld Z h x "java/lang/String" "coder" "B" (.int 0) ∧ own_lat c0 c1 c2 n ∧ Arv Z h t kb .byte (own_I n) (own_lo c0 c1 c2 n) (.int 0)) ∨ (0 < n ∧ Fld Z h x "java/lang/String" "coder" "B" (.int 1) ∧ Arv Z h t kb .byte (own_I (2 * n)) (own_wd c0 c1 c2 n) (.int 0)))
theorem own_dsc0 : parseMethodDescriptor "([BI)C" = some ⟨[(.array .byte), .int], some .char⟩ := by decide +kernel
theorem own_dsc1 : parseMethodDescriptor "(C)Z" = some ⟨[.char], some .boolean⟩ := by decide +kernel
theorem own_dsc2 : parseMethodDescriptor "(CC)I" = some ⟨[.char, .char], some .int⟩ := by decide +kernel
theorem own_dsc3 : parseMethodDescriptor "([BIIZ)I" = some ⟨[(.array .byte), .int, .int, .boolean], some .int⟩ := by decide +kernel
theorem own_dsc4 : parseMethodDescriptor "(IILjava/util/function/BiFunction;)I" = some ⟨[.int, .int, (.object "java/util/function/BiFunction")], some .int⟩ := by decide +kernel
theorem own_dsc5 : parseMethodDescriptor "()B" = some ⟨[], some .byte⟩ := by decide +kernel
theorem own_dsc6 : parseMethodDescriptor "()Z" = some ⟨[], some .boolean⟩ := by decide +kernel
theorem own_dsc7 : parseMethodDescriptor "(II)V" = some ⟨[.int, .int], none⟩ := by decide +kernel
theorem own_dsc8 : parseMethodDescriptor "([BII)I" = some ⟨[(.array .byte), .int, .int], some .int⟩ := by decide +kernel
theorem own_dsc9 : parseMethodDescriptor "(I)I" = some ⟨[.int], some .int⟩ := by decide +kernel
theorem own_dsc10 : parseMethodDescriptor "(I)[B" = some ⟨[.int], some (.array .byte)⟩ := by decide +kernel
theorem own_dsc11 : parseMethodDescriptor "([BII)V" = some ⟨[(.array .byte), .int, .int], none⟩ := by decide +kernel
theorem own_dsc12 : parseMethodDescriptor "([CI[BII)I" = some ⟨[(.array .char), .int, (.array .byte), .int, .int], some .int⟩ := by decide +kernel
theorem own_dsc13 : parseMethodDescriptor "([CII)[B" = some ⟨[(.array .char), .int, .int], some (.array .byte)⟩ := by decide +kernel
theorem own_dsc14 : parseMethodDescriptor "([BI)B" = some ⟨[(.array .byte), .int], some .byte⟩ := by decide +kernel
theorem own_dsc15 : parseMethodDescriptor "([CIILjava/lang/Void;)V" = some ⟨[(.array .char), .int, .int, (.object "java/lang/Void")], none⟩ := by decide +kernel
theorem own_dsc16 : parseMethodDescriptor "([C)V" = some ⟨[(.array .char)], none⟩ := by decide +kernel
theorem own_dsc17 : parseMethodDescriptor "(II)I" = some ⟨[.int, .int], some .int⟩ := by decide +kernel
theorem own_dsc18 : parseMethodDescriptor "()I" = some ⟨[], some .int⟩ := by decide +kernel
theorem own_dsc19 : parseMethodDescriptor "([CII)I" = some ⟨[(.array .char), .int, .int], some .int⟩ := by decide +kernel
theorem own_dsc20 : parseMethodDescriptor "(Ljava/lang/String;Ljava/lang/String;)I" = some ⟨[(.object "java/lang/String"), (.object "java/lang/String")], some .int⟩ := by decide +kernel
theorem own_dsc21 : parseMethodDescriptor "(CCCI)Ljava/lang/String;" = some ⟨[.char, .char, .char, .int], some (.object "java/lang/String")⟩ := by decide +kernel
theorem own_dsc22 : parseMethodDescriptor "(III)C" = some ⟨[.int, .int, .int], some .char⟩ := by decide +kernel
theorem own_txt0 : (∀ c ∈ ("" : String).toList, c.toNat < 256) ∧ ("" : String).toList.map (fun c => Value.int (Jvm.Lit.byteI c.toNat.toUInt16)) = [] := ⟨by decide +kernel, by decide +kernel⟩
theorem own_EW (Z : State) (a0 : Array Value) (hw : ∀ d ∈ tables_1, d.before a0 Z = true) : EW Z a0 consts_1 := (EW.cons (own_t hw 38 rfl) own_txt0.1 EW.nil)
theorem k0_0 : decode jdk_89_method_14_code 0 = .ok (.iload_n 0, 1) := by decide +kernel
theorem k0_1 : decode jdk_89_method_14_code 1 = .ok (.ldc 75, 2) := by decide +kernel
theorem k0_3 : decode jdk_89_method_14_code 3 = .ok (.if_icmp .lt 13, 3) := by decide +kernel
theorem k0_6 : decode jdk_89_method_14_code 6 = .ok (.iload_n 0, 1) := by decide +kernel
theorem k0_7 : decode jdk_89_method_14_code 7 = .ok (.ldc 76, 2) := by decide +kernel
theorem k0_9 : decode jdk_89_method_14_code 9 = .ok (.if_icmp .ge 7, 3) := by decide +kernel
theorem k0_12 : decode jdk_89_method_14_code 12 = .ok (.iconst 1, 1) := by decide +kernel
theorem k0_13 : decode jdk_89_method_14_code 13 = .ok (.goto 4, 3) := by decide +kernel
theorem k0_16 : decode jdk_89_method_14_code 16 = .ok (.iconst 0, 1) := by decide +kernel
theorem k0_17 : decode jdk_89_method_14_code 17 = .ok (.ireturn, 1) := by decide +kernel
theorem own_rmIH (l : Launch) (Z : State) (a0 : Array Value) (hw : ∀ d ∈ tables_1, d.before a0 Z = true) (ch : Int32) (h0 : Heap)  :
    MetAt l Z y_0 jdk_89_method_14_code 1 (some .boolean) ({ frames := 0, cells := 0, slots := 0, locals := 0 } : Room) #[(.int ch)] h0 (PQ h0 (some (.int (own_isH ch)))) := by
  refine goBodyM (plainFor_of_name (by first | (simp [plainName, overriddenIn]; done) | decide +kernel)) ?_
  intro p e s m below meth c T0 hx hZ hby hml hown hnm hret hlk X0 e0
  have hown : s.vm.findClass "java/lang/Character" = some m.cls := hown
  refine Go.cast (g' := mkF m 0 #[.val (.int ch)] []) (by first | (simp [entryFrame, mkF, argsToLocals, Value.category]; done) | rfl) ?_
  show Go p e below _ T0 (mkF m 0 _ [])
  refine Go.iloadN X0 hx hby k0_0 rfl ?_
  refine Go.of (X0.ldcInt hx hown (mvT hZ (own_t hw 118 rfl)) (g := (mkF m 1 #[.val (.int ch)] [(.int ch)])) rfl (hb hby k0_1)) ?_
  show Go p e below _ T0 (mkF m 3 _ [(.int 55296), (.int ch)])
  by_cases hc3 : ch < (55296 : Int32)
  ·
    refine Go.icmpYes 16 X0 hx hby k0_3 (tlt hc3).1 (by decide) (by decide) ?_
    refine Go.iconst 0 X0 hx hby k0_16 rfl ?_
    exact Go.retN X0 hx hlk (t := .boolean) hret (by simp) (hb hby k0_17) (by decide) (by decide) ⟨congrArg (fun z => some (Value.int z)) (show nar .boolean (0 : Int32) = own_isH ch by rw [own_isH, if_pos hc3] <;> rfl), rfl, e0⟩
  ·
    refine Go.icmpNo X0 hx hby k0_3 (flt hc3).1 ?_
    refine Go.iloadN X0 hx hby k0_6 rfl ?_
    refine Go.of (X0.ldcInt hx hown (mvT hZ (own_t hw 119 rfl)) (g := (mkF m 7 #[.val (.int ch)] [(.int ch)])) rfl (hb hby k0_7)) ?_
    show Go p e below _ T0 (mkF m 9 _ [(.int 56320), (.int ch)])
    by_cases hc9 : ch < (56320 : Int32)
    ·
      refine Go.icmpNo X0 hx hby k0_9 (tlt hc9).2.1 ?_
      refine Go.iconst 1 X0 hx hby k0_12 rfl ?_
      refine Go.goto 17 X0 hx hby k0_13 (by decide) (by decide) ?_
      exact Go.retN X0 hx hlk (t := .boolean) hret (by simp) (hb hby k0_17) (by decide) (by decide) ⟨congrArg (fun z => some (Value.int z)) (show nar .boolean (1 : Int32) = own_isH ch by rw [own_isH, if_neg hc3, if_pos hc9] <;> rfl), rfl, e0⟩
    ·
      refine Go.icmpYes 16 X0 hx hby k0_9 (flt hc9).2.1 (by decide) (by decide) ?_
      refine Go.iconst 0 X0 hx hby k0_16 rfl ?_
      exact Go.retN X0 hx hlk (t := .boolean) hret (by simp) (hb hby k0_17) (by decide) (by decide) ⟨congrArg (fun z => some (Value.int z)) (show nar .boolean (0 : Int32) = own_isH ch by rw [own_isH, if_neg hc3, if_neg hc9] <;> rfl), rfl, e0⟩
theorem k1_0 : decode jdk_89_method_15_code 0 = .ok (.iload_n 0, 1) := by decide +kernel
theorem k1_1 : decode jdk_89_method_15_code 1 = .ok (.ldc 76, 2) := by decide +kernel
theorem k1_3 : decode jdk_89_method_15_code 3 = .ok (.if_icmp .lt 13, 3) := by decide +kernel
theorem k1_6 : decode jdk_89_method_15_code 6 = .ok (.iload_n 0, 1) := by decide +kernel
theorem k1_7 : decode jdk_89_method_15_code 7 = .ok (.ldc 77, 2) := by decide +kernel
theorem k1_9 : decode jdk_89_method_15_code 9 = .ok (.if_icmp .ge 7, 3) := by decide +kernel
theorem k1_12 : decode jdk_89_method_15_code 12 = .ok (.iconst 1, 1) := by decide +kernel
theorem k1_13 : decode jdk_89_method_15_code 13 = .ok (.goto 4, 3) := by decide +kernel
theorem k1_16 : decode jdk_89_method_15_code 16 = .ok (.iconst 0, 1) := by decide +kernel
theorem k1_17 : decode jdk_89_method_15_code 17 = .ok (.ireturn, 1) := by decide +kernel
theorem own_rmLS (l : Launch) (Z : State) (a0 : Array Value) (hw : ∀ d ∈ tables_1, d.before a0 Z = true) (ch : Int32) (h0 : Heap)  :
    MetAt l Z y_1 jdk_89_method_15_code 1 (some .boolean) ({ frames := 0, cells := 0, slots := 0, locals := 0 } : Room) #[(.int ch)] h0 (PQ h0 (some (.int (own_isL ch)))) := by
  refine goBodyM (plainFor_of_name (by first | (simp [plainName, overriddenIn]; done) | decide +kernel)) ?_
  intro p e s m below meth c T0 hx hZ hby hml hown hnm hret hlk X0 e0
  have hown : s.vm.findClass "java/lang/Character" = some m.cls := hown
  refine Go.cast (g' := mkF m 0 #[.val (.int ch)] []) (by first | (simp [entryFrame, mkF, argsToLocals, Value.category]; done) | rfl) ?_
  show Go p e below _ T0 (mkF m 0 _ [])
  refine Go.iloadN X0 hx hby k1_0 rfl ?_
  refine Go.of (X0.ldcInt hx hown (mvT hZ (own_t hw 119 rfl)) (g := (mkF m 1 #[.val (.int ch)] [(.int ch)])) rfl (hb hby k1_1)) ?_
  show Go p e below _ T0 (mkF m 3 _ [(.int 56320), (.int ch)])
  by_cases hc3 : ch < (56320 : Int32)
  ·
    refine Go.icmpYes 16 X0 hx hby k1_3 (tlt hc3).1 (by decide) (by decide) ?_
    refine Go.iconst 0 X0 hx hby k1_16 rfl ?_
    exact Go.retN X0 hx hlk (t := .boolean) hret (by simp) (hb hby k1_17) (by decide) (by decide) ⟨congrArg (fun z => some (Value.int z)) (show nar .boolean (0 : Int32) = own_isL ch by rw [own_isL, if_pos hc3] <;> rfl), rfl, e0⟩
  ·
    refine Go.icmpNo X0 hx hby k1_3 (flt hc3).1 ?_
    refine Go.iloadN X0 hx hby k1_6 rfl ?_
    refine Go.of (X0.ldcInt hx hown (mvT hZ (own_t hw 127 rfl)) (g := (mkF m 7 #[.val (.int ch)] [(.int ch)])) rfl (hb hby k1_7)) ?_
    show Go p e below _ T0 (mkF m 9 _ [(.int 57344), (.int ch)])
    by_cases hc9 : ch < (57344 : Int32)
    ·
      refine Go.icmpNo X0 hx hby k1_9 (tlt hc9).2.1 ?_
      refine Go.iconst 1 X0 hx hby k1_12 rfl ?_
      refine Go.goto 17 X0 hx hby k1_13 (by decide) (by decide) ?_
      exact Go.retN X0 hx hlk (t := .boolean) hret (by simp) (hb hby k1_17) (by decide) (by decide) ⟨congrArg (fun z => some (Value.int z)) (show nar .boolean (1 : Int32) = own_isL ch by rw [own_isL, if_neg hc3, if_pos hc9] <;> rfl), rfl, e0⟩
    ·
      refine Go.icmpYes 16 X0 hx hby k1_9 (flt hc9).2.1 (by decide) (by decide) ?_
      refine Go.iconst 0 X0 hx hby k1_16 rfl ?_
      exact Go.retN X0 hx hlk (t := .boolean) hret (by simp) (hb hby k1_17) (by decide) (by decide) ⟨congrArg (fun z => some (Value.int z)) (show nar .boolean (0 : Int32) = own_isL ch by rw [own_isL, if_neg hc3, if_neg hc9] <;> rfl), rfl, e0⟩
theorem k2_0 : decode jdk_89_method_19_code 0 = .ok (.iload_n 0, 1) := by decide +kernel
theorem k2_1 : decode jdk_89_method_19_code 1 = .ok (.bipush 10, 2) := by decide +kernel
theorem k2_3 : decode jdk_89_method_19_code 3 = .ok (.ishl, 1) := by decide +kernel
theorem k2_4 : decode jdk_89_method_19_code 4 = .ok (.iload_n 1, 1) := by decide +kernel
theorem k2_5 : decode jdk_89_method_19_code 5 = .ok (.iadd, 1) := by decide +kernel
theorem k2_6 : decode jdk_89_method_19_code 6 = .ok (.ldc 85, 2) := by decide +kernel
theorem k2_8 : decode jdk_89_method_19_code 8 = .ok (.iadd, 1) := by decide +kernel
theorem k2_9 : decode jdk_89_method_19_code 9 = .ok (.ireturn, 1) := by decide +kernel
theorem own_rmTC (l : Launch) (Z : State) (a0 : Array Value) (hw : ∀ d ∈ tables_1, d.before a0 Z = true) (h l' : Int32) (h0 : Heap)  :
    MetAt l Z y_2 jdk_89_method_19_code 2 (some .int) ({ frames := 0, cells := 0, slots := 0, locals := 0 } : Room) #[(.int h), (.int l')] h0 (PQ h0 (some (.int ((h <<< ((10 : Int32) &&& 31)) + l' + (-56613888))))) := by
  refine goBodyM (plainFor_of_name (by first | (simp [plainName, overriddenIn]; done) | decide +kernel)) ?_
  intro p e s m below meth c T0 hx hZ hby hml hown hnm hret hlk X0 e0
  have hown : s.vm.findClass "java/lang/Character" = some m.cls := hown
  refine Go.cast (g' := mkF m 0 #[.val (.int h), .val (.int l')] []) (by first | (simp [entryFrame, mkF, argsToLocals, Value.category]; done) | rfl) ?_
  show Go p e below _ T0 (mkF m 0 _ [])
  refine Go.iloadN X0 hx hby k2_0 rfl ?_
  refine Go.bipush 10 X0 hx hby k2_1 rfl ?_
  refine Go.ishl X0 hx hby k2_3 rfl ?_
  refine Go.iloadN X0 hx hby k2_4 rfl ?_
  refine Go.iadd X0 hx hby k2_5 rfl ?_
  refine Go.of (X0.ldcInt hx hown (mvT hZ (own_t hw 131 rfl)) (g := (mkF m 6 #[.val (.int h), .val (.int l')] [(.int ((h <<< ((10 : Int32) &&& 31)) + l'))])) rfl (hb hby k2_6)) ?_
  show Go p e below _ T0 (mkF m 8 _ [(.int (-56613888)), (.int ((h <<< ((10 : Int32) &&& 31)) + l'))])
  refine Go.iadd X0 hx hby k2_8 rfl ?_
  exact Go.retI X0 hx hlk hret (hb hby k2_9) (by decide) (by decide) ⟨rfl, rfl, e0⟩
theorem k3_0 : decode jdk_89_method_18_code 0 = .ok (.iload_n 0, 1) := by decide +kernel
theorem k3_1 : decode jdk_89_method_18_code 1 = .ok (.ldc 73, 2) := by decide +kernel
theorem k3_3 : decode jdk_89_method_18_code 3 = .ok (.if_icmp .lt 7, 3) := by decide +kernel
theorem k3_6 : decode jdk_89_method_18_code 6 = .ok (.iconst 2, 1) := by decide +kernel
theorem k3_7 : decode jdk_89_method_18_code 7 = .ok (.goto 4, 3) := by decide +kernel
theorem k3_10 : decode jdk_89_method_18_code 10 = .ok (.iconst 1, 1) := by decide +kernel
theorem k3_11 : decode jdk_89_method_18_code 11 = .ok (.ireturn, 1) := by decide +kernel
theorem own_rmCC (l : Launch) (Z : State) (a0 : Array Value) (hw : ∀ d ∈ tables_1, d.before a0 Z = true) (x : Int32) (h0 : Heap)  :
    MetAt l Z y_3 jdk_89_method_18_code 1 (some .int) ({ frames := 0, cells := 0, slots := 0, locals := 0 } : Room) #[(.int x)] h0 (PQ h0 (some (.int (own_cc x)))) := by
  refine goBodyM (plainFor_of_name (by first | (simp [plainName, overriddenIn]; done) | decide +kernel)) ?_
  intro p e s m below meth c T0 hx hZ hby hml hown hnm hret hlk X0 e0
  have hown : s.vm.findClass "java/lang/Character" = some m.cls := hown
  refine Go.cast (g' := mkF m 0 #[.val (.int x)] []) (by first | (simp [entryFrame, mkF, argsToLocals, Value.category]; done) | rfl) ?_
  show Go p e below _ T0 (mkF m 0 _ [])
  refine Go.iloadN X0 hx hby k3_0 rfl ?_
  refine Go.of (X0.ldcInt hx hown (mvT hZ (own_t hw 123 rfl)) (g := (mkF m 1 #[.val (.int x)] [(.int x)])) rfl (hb hby k3_1)) ?_
  show Go p e below _ T0 (mkF m 3 _ [(.int 65536), (.int x)])
  by_cases hc3 : x < (65536 : Int32)
  ·
    refine Go.icmpYes 10 X0 hx hby k3_3 (tlt hc3).1 (by decide) (by decide) ?_
    refine Go.iconst 1 X0 hx hby k3_10 rfl ?_
    exact Go.retI X0 hx hlk hret (hb hby k3_11) (by decide) (by decide) ⟨congrArg (fun z => some (Value.int z)) (show (1 : Int32) = own_cc x by rw [own_cc, if_pos hc3]), rfl, e0⟩
  ·
    refine Go.icmpNo X0 hx hby k3_3 (flt hc3).1 ?_
    refine Go.iconst 2 X0 hx hby k3_6 rfl ?_
    refine Go.goto 11 X0 hx hby k3_7 (by decide) (by decide) ?_
    exact Go.retI X0 hx hlk hret (hb hby k3_11) (by decide) (by decide) ⟨congrArg (fun z => some (Value.int z)) (show (2 : Int32) = own_cc x by rw [own_cc, if_neg hc3]), rfl, e0⟩
theorem k4_0 : decode jdk_33_method_40_code 0 = .ok (.iload_n 0, 1) := by decide +kernel
theorem k4_1 : decode jdk_33_method_40_code 1 = .ok (.iload_n 1, 1) := by decide +kernel
theorem k4_2 : decode jdk_33_method_40_code 2 = .ok (.if_icmp .ge 7, 3) := by decide +kernel
theorem k4_5 : decode jdk_33_method_40_code 5 = .ok (.iconst (-1), 1) := by decide +kernel
theorem k4_6 : decode jdk_33_method_40_code 6 = .ok (.goto 13, 3) := by decide +kernel
theorem k4_9 : decode jdk_33_method_40_code 9 = .ok (.iload_n 0, 1) := by decide +kernel
theorem k4_10 : decode jdk_33_method_40_code 10 = .ok (.iload_n 1, 1) := by decide +kernel
theorem k4_11 : decode jdk_33_method_40_code 11 = .ok (.if_icmp .ne 7, 3) := by decide +kernel
theorem k4_14 : decode jdk_33_method_40_code 14 = .ok (.iconst 0, 1) := by decide +kernel
theorem k4_15 : decode jdk_33_method_40_code 15 = .ok (.goto 4, 3) := by decide +kernel
theorem k4_18 : decode jdk_33_method_40_code 18 = .ok (.iconst 1, 1) := by decide +kernel
theorem k4_19 : decode jdk_33_method_40_code 19 = .ok (.ireturn, 1) := by decide +kernel
theorem own_rmIC (l : Launch) (Z : State) (a0 : Array Value) (hw : ∀ d ∈ tables_1, d.before a0 Z = true) (x y : Int32) (h0 : Heap)  :
    MetAt l Z y_4 jdk_33_method_40_code 2 (some .int) ({ frames := 0, cells := 0, slots := 0, locals := 0 } : Room) #[(.int x), (.int y)] h0 (PQ h0 (some (.int (own_ic x y)))) := by
  refine goBodyM (plainFor_of_name (by first | (simp [plainName, overriddenIn]; done) | decide +kernel)) ?_
  intro p e s m below meth c T0 hx hZ hby hml hown hnm hret hlk X0 e0
  have hown : s.vm.findClass "java/lang/Integer" = some m.cls := hown
  refine Go.cast (g' := mkF m 0 #[.val (.int x), .val (.int y)] []) (by first | (simp [entryFrame, mkF, argsToLocals, Value.category]; done) | rfl) ?_
  show Go p e below _ T0 (mkF m 0 _ [])
  refine Go.iloadN X0 hx hby k4_0 rfl ?_
  refine Go.iloadN X0 hx hby k4_1 rfl ?_
  by_cases hc2 : x < y
  ·
    refine Go.icmpNo X0 hx hby k4_2 (tlt hc2).2.1 ?_
    refine Go.iconst (-1) X0 hx hby k4_5 rfl ?_
    refine Go.goto 19 X0 hx hby k4_6 (by decide) (by decide) ?_
    exact Go.retI X0 hx hlk hret (hb hby k4_19) (by decide) (by decide) ⟨congrArg (fun z => some (Value.int z)) (show (-1 : Int32) = own_ic x y by rw [own_ic, if_pos hc2]), rfl, e0⟩
  ·
    refine Go.icmpYes 9 X0 hx hby k4_2 (flt hc2).2.1 (by decide) (by decide) ?_
    refine Go.iloadN X0 hx hby k4_9 rfl ?_
    refine Go.iloadN X0 hx hby k4_10 rfl ?_
    by_cases hc11 : x = y
    ·
      refine Go.icmpNo X0 hx hby k4_11 (teq hc11).2 ?_
      refine Go.iconst 0 X0 hx hby k4_14 rfl ?_
      refine Go.goto 19 X0 hx hby k4_15 (by decide) (by decide) ?_
      exact Go.retI X0 hx hlk hret (hb hby k4_19) (by decide) (by decide) ⟨congrArg (fun z => some (Value.int z)) (show (0 : Int32) = own_ic x y by rw [own_ic, if_neg hc2, if_pos hc11]), rfl, e0⟩
    ·
      refine Go.icmpYes 18 X0 hx hby k4_11 (feq hc11).2 (by decide) (by decide) ?_
      refine Go.iconst 1 X0 hx hby k4_18 rfl ?_
      exact Go.retI X0 hx hlk hret (hb hby k4_19) (by decide) (by decide) ⟨congrArg (fun z => some (Value.int z)) (show (1 : Int32) = own_ic x y by rw [own_ic, if_neg hc2, if_neg hc11]), rfl, e0⟩
theorem k5_0 : decode method_5_code 0 = .ok (.iload_n 1, 1) := by decide +kernel
theorem k5_1 : decode method_5_code 1 = .ok (.ldc 42, 2) := by decide +kernel
theorem k5_3 : decode method_5_code 3 = .ok (.if_icmp .lt 7, 3) := by decide +kernel
theorem k5_6 : decode method_5_code 6 = .ok (.iload_n 0, 1) := by decide +kernel
theorem k5_7 : decode method_5_code 7 = .ok (.iconst 2, 1) := by decide +kernel
theorem k5_8 : decode method_5_code 8 = .ok (.iadd, 1) := by decide +kernel
theorem k5_9 : decode method_5_code 9 = .ok (.ireturn, 1) := by decide +kernel
theorem k5_10 : decode method_5_code 10 = .ok (.iload_n 0, 1) := by decide +kernel
theorem k5_11 : decode method_5_code 11 = .ok (.iconst 1, 1) := by decide +kernel
theorem k5_12 : decode method_5_code 12 = .ok (.iadd, 1) := by decide +kernel
theorem k5_13 : decode method_5_code 13 = .ok (.ireturn, 1) := by decide +kernel
theorem own_rmNx (l : Launch) (Z : State) (a0 : Array Value) (hw : ∀ d ∈ tables_1, d.before a0 Z = true) (i : Nat) (x : Int32) (h0 : Heap)  :
    MetAt l Z y_5 method_5_code 2 (some .int) ({ frames := 0, cells := 0, slots := 0, locals := 0 } : Room) #[(.int (own_I i)), (.int x)] h0 (PQ h0 (some (.int (own_I (own_nx i x))))) := by
  refine goBodyM (plainFor_of_name (by first | (simp [plainName, overriddenIn]; done) | decide +kernel)) ?_
  intro p e s m below meth c T0 hx hZ hby hml hown hnm hret hlk X0 e0
  have hown : s.vm.findClass "com/example/keen_guess/keenguess/text/CodePointOrderComparePinLaw" = some m.cls := hown
  refine Go.cast (g' := mkF m 0 #[.val (.int (own_I i)), .val (.int x)] []) (by first | (simp [entryFrame, mkF, argsToLocals, Value.category]; done) | rfl) ?_
  show Go p e below _ T0 (mkF m 0 _ [])
  refine Go.iloadN X0 hx hby k5_0 rfl ?_
  refine Go.of (X0.ldcInt hx hown (mvT hZ (own_t hw 48 rfl)) (g := (mkF m 1 #[.val (.int (own_I i)), .val (.int x)] [(.int x)])) rfl (hb hby k5_1)) ?_
  show Go p e below _ T0 (mkF m 3 _ [(.int 65536), (.int x)])
  by_cases hc3 : x < (65536 : Int32)
  ·
    refine Go.icmpYes 10 X0 hx hby k5_3 (tlt hc3).1 (by decide) (by decide) ?_
    refine Go.iloadN X0 hx hby k5_10 rfl ?_
    refine Go.iconst 1 X0 hx hby k5_11 rfl ?_
    refine Go.iadd X0 hx hby k5_12 rfl ?_
    exact Go.retI X0 hx hlk hret (hb hby k5_13) (by decide) (by decide) ⟨congrArg (fun z => some (Value.int z)) (show ((own_I i) + (1 : Int32)) = own_I (own_nx i x) by rw [own_nx, if_pos hc3, own_I_up]), rfl, e0⟩
  ·
    refine Go.icmpNo X0 hx hby k5_3 (flt hc3).1 ?_
    refine Go.iloadN X0 hx hby k5_6 rfl ?_
    refine Go.iconst 2 X0 hx hby k5_7 rfl ?_
    refine Go.iadd X0 hx hby k5_8 rfl ?_
    exact Go.retI X0 hx hlk hret (hb hby k5_9) (by decide) (by decide) ⟨congrArg (fun z => some (Value.int z)) (show ((own_I i) + (2 : Int32)) = own_I (own_nx i x) by rw [own_nx, if_neg hc3, ← own_I_add] <;> rfl), rfl, e0⟩
theorem k6_0 : decode method_6_code 0 = .ok (.iload_n 2, 1) := by decide +kernel
theorem k6_1 : decode method_6_code 1 = .ok (.iload_n 1, 1) := by decide +kernel
theorem k6_2 : decode method_6_code 2 = .ok (.if_icmp .lt 5, 3) := by decide +kernel
theorem k6_5 : decode method_6_code 5 = .ok (.iconst (-1), 1) := by decide +kernel
theorem k6_6 : decode method_6_code 6 = .ok (.ireturn, 1) := by decide +kernel
theorem k6_7 : decode method_6_code 7 = .ok (.aload_n 0, 1) := by decide +kernel
theorem k6_8 : decode method_6_code 8 = .ok (.iload_n 2, 1) := by decide +kernel
theorem k6_9 : decode method_6_code 9 = .ok (.caload, 1) := by decide +kernel
theorem k6_10 : decode method_6_code 10 = .ok (.istore_n 3, 1) := by decide +kernel
theorem k6_11 : decode method_6_code 11 = .ok (.iload_n 3, 1) := by decide +kernel
theorem k6_12 : decode method_6_code 12 = .ok (.ldc 33, 2) := by decide +kernel
theorem k6_14 : decode method_6_code 14 = .ok (.if_icmp .lt 54, 3) := by decide +kernel
theorem k6_17 : decode method_6_code 17 = .ok (.iload_n 3, 1) := by decide +kernel
theorem k6_18 : decode method_6_code 18 = .ok (.ldc 32, 2) := by decide +kernel
theorem k6_20 : decode method_6_code 20 = .ok (.if_icmp .gt 48, 3) := by decide +kernel
theorem k6_23 : decode method_6_code 23 = .ok (.iload_n 2, 1) := by decide +kernel
theorem k6_24 : decode method_6_code 24 = .ok (.iconst 1, 1) := by decide +kernel
theorem k6_25 : decode method_6_code 25 = .ok (.iadd, 1) := by decide +kernel
theorem k6_26 : decode method_6_code 26 = .ok (.iload_n 1, 1) := by decide +kernel
theorem k6_27 : decode method_6_code 27 = .ok (.if_icmp .ge 41, 3) := by decide +kernel
theorem k6_30 : decode method_6_code 30 = .ok (.aload_n 0, 1) := by decide +kernel
theorem k6_31 : decode method_6_code 31 = .ok (.iload_n 2, 1) := by decide +kernel
theorem k6_32 : decode method_6_code 32 = .ok (.iconst 1, 1) := by decide +kernel
theorem k6_33 : decode method_6_code 33 = .ok (.iadd, 1) := by decide +kernel
theorem k6_34 : decode method_6_code 34 = .ok (.caload, 1) := by decide +kernel
theorem k6_35 : decode method_6_code 35 = .ok (.istore 4, 2) := by decide +kernel
theorem k6_37 : decode method_6_code 37 = .ok (.iload 4, 2) := by decide +kernel
theorem k6_39 : decode method_6_code 39 = .ok (.ldc 35, 2) := by decide +kernel
theorem k6_41 : decode method_6_code 41 = .ok (.if_icmp .lt 27, 3) := by decide +kernel
theorem k6_44 : decode method_6_code 44 = .ok (.iload 4, 2) := by decide +kernel
theorem k6_46 : decode method_6_code 46 = .ok (.ldc 34, 2) := by decide +kernel
theorem k6_48 : decode method_6_code 48 = .ok (.if_icmp .gt 20, 3) := by decide +kernel
theorem k6_51 : decode method_6_code 51 = .ok (.ldc 42, 2) := by decide +kernel
theorem k6_53 : decode method_6_code 53 = .ok (.iload_n 3, 1) := by decide +kernel
theorem k6_54 : decode method_6_code 54 = .ok (.ldc 33, 2) := by decide +kernel
theorem k6_56 : decode method_6_code 56 = .ok (.isub, 1) := by decide +kernel
theorem k6_57 : decode method_6_code 57 = .ok (.bipush 10, 2) := by decide +kernel
theorem k6_59 : decode method_6_code 59 = .ok (.ishl, 1) := by decide +kernel
theorem k6_60 : decode method_6_code 60 = .ok (.iadd, 1) := by decide +kernel
theorem k6_61 : decode method_6_code 61 = .ok (.iload 4, 2) := by decide +kernel
theorem k6_63 : decode method_6_code 63 = .ok (.ldc 35, 2) := by decide +kernel
theorem k6_65 : decode method_6_code 65 = .ok (.isub, 1) := by decide +kernel
theorem k6_66 : decode method_6_code 66 = .ok (.iadd, 1) := by decide +kernel
theorem k6_67 : decode method_6_code 67 = .ok (.ireturn, 1) := by decide +kernel
theorem k6_68 : decode method_6_code 68 = .ok (.iload_n 3, 1) := by decide +kernel
theorem k6_69 : decode method_6_code 69 = .ok (.ireturn, 1) := by decide +kernel
theorem own_rmCA (l : Launch) (Z : State) (a0 : Array Value) (hw : ∀ d ∈ tables_1, d.before a0 Z = true) (a : Addr) (ka : ClassId) (c0 c1 c2 : Int32) (n i : Nat) (h0 : Heap) (VA : Arv Z h0 a ka .char 3 [.int c0, .int c1, .int c2] (.int 0)) (hn : n ≤ 3) (hi : i ≤ 4) :
    MetAt l Z y_6 method_6_code 5 (some .int) ({ frames := 0, cells := 0, slots := 0, locals := 0 } : Room) #[(.ref a), (.int (own_I n)), (.int (own_I i))] h0 (PQ h0 (some (.int (own_F c0 c1 c2 n i)))) := by
  refine goBodyM (plainFor_of_name (by first | (simp [plainName, overriddenIn]; done) | decide +kernel)) ?_
  intro p e s m below meth c T0 hx hZ hby hml hown hnm hret hlk X0 e0
  have hown : s.vm.findClass "com/example/keen_guess/keenguess/text/CodePointOrderComparePinLaw" = some m.cls := hown
  refine Go.cast (g' := mkF m 0 #[.val (.ref a), .val (.int (own_I n)), .val (.int (own_I i)), .unset, .unset] []) (by first | (simp [entryFrame, mkF, argsToLocals, Value.category]; done) | rfl) ?_
  show Go p e below _ T0 (mkF m 0 _ [])
  refine Go.iloadN X0 hx hby k6_0 rfl ?_
  refine Go.iloadN X0 hx hby k6_1 rfl ?_
  by_cases hc2 : (own_I i) < (own_I n)
  ·
    refine Go.icmpYes 7 X0 hx hby k6_2 (tlt hc2).1 (by decide) (by decide) ?_
    refine Go.aloadN X0 hx hby k6_7 rfl rfl ?_
    refine Go.iloadN X0 hx hby k6_8 rfl ?_
    show Go p e below _ T0 (mkF m 9 _ [(.int (own_I i)), (.ref a)])
    refine Go.caload X0 hx hZ e0 VA (own_I_in (k := 3) (by have := (own_I_lt (by omega) (by omega)).mp hc2; omega) (by decide)) (v := .int (own_ch c0 c1 c2 i)) (own_at3 (by have := (own_I_lt (by omega) (by omega)).mp hc2; omega)) (hb hby k6_9) ?_
    show Go p e below _ T0 (mkF m 10 _ [(.int (own_ch c0 c1 c2 i))])
    refine Go.istoreN X0 hx hby k6_10 (l' := #[.val (.ref a), .val (.int (own_I n)), .val (.int (own_I i)), .val (.int (own_ch c0 c1 c2 i)), .unset]) rfl ?_
    refine Go.iloadN X0 hx hby k6_11 rfl ?_
    refine Go.of (X0.ldcInt hx hown (mvT hZ (own_t hw 44 rfl)) (g := (mkF m 12 #[.val (.ref a), .val (.int (own_I n)), .val (.int (own_I i)), .val (.int (own_ch c0 c1 c2 i)), .unset] [(.int (own_ch c0 c1 c2 i))])) rfl (hb hby k6_12)) ?_
    show Go p e below _ T0 (mkF m 14 _ [(.int 55296), (.int (own_ch c0 c1 c2 i))])
    by_cases hc14 : (own_ch c0 c1 c2 i) < (55296 : Int32)
    ·
      refine Go.icmpYes 68 X0 hx hby k6_14 (tlt hc14).1 (by decide) (by decide) ?_
      refine Go.iloadN X0 hx hby k6_68 rfl ?_
      exact Go.retI X0 hx hlk hret (hb hby k6_69) (by decide) (by decide) ⟨congrArg (fun z => some (Value.int z)) (show (own_ch c0 c1 c2 i) = own_F c0 c1 c2 n i by rw [own_Fif c0 c1 c2 hn hi]; simp only [own_cp, if_pos hc2, if_pos hc14, ite_self]), rfl, e0⟩
    ·
      refine Go.icmpNo X0 hx hby k6_14 (flt hc14).1 ?_
      refine Go.iloadN X0 hx hby k6_17 rfl ?_
      refine Go.of (X0.ldcInt hx hown (mvT hZ (own_t hw 86 rfl)) (g := (mkF m 18 #[.val (.ref a), .val (.int (own_I n)), .val (.int (own_I i)), .val (.int (own_ch c0 c1 c2 i)), .unset] [(.int (own_ch c0 c1 c2 i))])) rfl (hb hby k6_18)) ?_
      show Go p e below _ T0 (mkF m 20 _ [(.int 56319), (.int (own_ch c0 c1 c2 i))])
      by_cases hc20 : (56319 : Int32) < (own_ch c0 c1 c2 i)
      ·
        refine Go.icmpYes 68 X0 hx hby k6_20 (tlt hc20).2.2.1 (by decide) (by decide) ?_
        refine Go.iloadN X0 hx hby k6_68 rfl ?_
        exact Go.retI X0 hx hlk hret (hb hby k6_69) (by decide) (by decide) ⟨congrArg (fun z => some (Value.int z)) (show (own_ch c0 c1 c2 i) = own_F c0 c1 c2 n i by rw [own_Fif c0 c1 c2 hn hi]; simp only [own_cp, if_pos hc2, if_neg hc14, if_pos hc20, ite_self]), rfl, e0⟩
      ·
        refine Go.icmpNo X0 hx hby k6_20 (flt hc20).2.2.1 ?_
        refine Go.iloadN X0 hx hby k6_23 rfl ?_
        refine Go.iconst 1 X0 hx hby k6_24 rfl ?_
        refine Go.iadd X0 hx hby k6_25 rfl ?_
        show Go p e below _ T0 (mkF m 26 _ [(.int ((own_I i) + (1 : Int32)))])
        rw [own_I_up i]
        show Go p e below _ T0 (mkF m 26 _ [(.int (own_I (i + 1)))])
        refine Go.iloadN X0 hx hby k6_26 rfl ?_
        by_cases hc27 : (own_I (i + 1)) < (own_I n)
        ·
          refine Go.icmpNo X0 hx hby k6_27 (tlt hc27).2.1 ?_
          refine Go.aloadN X0 hx hby k6_30 rfl rfl ?_
          refine Go.iloadN X0 hx hby k6_31 rfl ?_
          refine Go.iconst 1 X0 hx hby k6_32 rfl ?_
          refine Go.iadd X0 hx hby k6_33 rfl ?_
          show Go p e below _ T0 (mkF m 34 _ [(.int ((own_I i) + (1 : Int32))), (.ref a)])
          rw [own_I_up i]
          show Go p e below _ T0 (mkF m 34 _ [(.int (own_I (i + 1))), (.ref a)])
          refine Go.caload X0 hx hZ e0 VA (own_I_in (k := 3) (by have := (own_I_lt (by omega) (by omega)).mp hc27; omega) (by decide)) (v := .int (own_ch c0 c1 c2 (i + 1))) (own_at3 (by have := (own_I_lt (by omega) (by omega)).mp hc27; omega)) (hb hby k6_34) ?_
          show Go p e below _ T0 (mkF m 35 _ [(.int (own_ch c0 c1 c2 (i + 1)))])
          refine Go.istore X0 hx hby k6_35 (l' := #[.val (.ref a), .val (.int (own_I n)), .val (.int (own_I i)), .val (.int (own_ch c0 c1 c2 i)), .val (.int (own_ch c0 c1 c2 (i + 1)))]) rfl ?_
          refine Go.iload X0 hx hby k6_37 rfl ?_
          refine Go.of (X0.ldcInt hx hown (mvT hZ (own_t hw 107 rfl)) (g := (mkF m 39 #[.val (.ref a), .val (.int (own_I n)), .val (.int (own_I i)), .val (.int (own_ch c0 c1 c2 i)), .val (.int (own_ch c0 c1 c2 (i + 1)))] [(.int (own_ch c0 c1 c2 (i + 1)))])) rfl (hb hby k6_39)) ?_
          show Go p e below _ T0 (mkF m 41 _ [(.int 56320), (.int (own_ch c0 c1 c2 (i + 1)))])
          by_cases hc41 : (own_ch c0 c1 c2 (i + 1)) < (56320 : Int32)
          ·
            refine Go.icmpYes 68 X0 hx hby k6_41 (tlt hc41).1 (by decide) (by decide) ?_
            refine Go.iloadN X0 hx hby k6_68 rfl ?_
            exact Go.retI X0 hx hlk hret (hb hby k6_69) (by decide) (by decide) ⟨congrArg (fun z => some (Value.int z)) (show (own_ch c0 c1 c2 i) = own_F c0 c1 c2 n i by rw [own_Fif c0 c1 c2 hn hi]; simp only [own_cp, if_pos hc2, if_neg hc14, if_neg hc20, if_pos hc27, if_pos hc41, ite_self]), rfl, e0⟩
          ·
            refine Go.icmpNo X0 hx hby k6_41 (flt hc41).1 ?_
            refine Go.iload X0 hx hby k6_44 rfl ?_
            refine Go.of (X0.ldcInt hx hown (mvT hZ (own_t hw 85 rfl)) (g := (mkF m 46 #[.val (.ref a), .val (.int (own_I n)), .val (.int (own_I i)), .val (.int (own_ch c0 c1 c2 i)), .val (.int (own_ch c0 c1 c2 (i + 1)))] [(.int (own_ch c0 c1 c2 (i + 1)))])) rfl (hb hby k6_46)) ?_
            show Go p e below _ T0 (mkF m 48 _ [(.int 57343), (.int (own_ch c0 c1 c2 (i + 1)))])
            by_cases hc48 : (57343 : Int32) < (own_ch c0 c1 c2 (i + 1))
            ·
              refine Go.icmpYes 68 X0 hx hby k6_48 (tlt hc48).2.2.1 (by decide) (by decide) ?_
              refine Go.iloadN X0 hx hby k6_68 rfl ?_
              exact Go.retI X0 hx hlk hret (hb hby k6_69) (by decide) (by decide) ⟨congrArg (fun z => some (Value.int z)) (show (own_ch c0 c1 c2 i) = own_F c0 c1 c2 n i by rw [own_Fif c0 c1 c2 hn hi]; simp only [own_cp, if_pos hc2, if_neg hc14, if_neg hc20, if_pos hc27, if_neg hc41, if_pos hc48, ite_self]), rfl, e0⟩
            ·
              refine Go.icmpNo X0 hx hby k6_48 (flt hc48).2.2.1 ?_
              refine Go.of (X0.ldcInt hx hown (mvT hZ (own_t hw 48 rfl)) (g := (mkF m 51 #[.val (.ref a), .val (.int (own_I n)), .val (.int (own_I i)), .val (.int (own_ch c0 c1 c2 i)), .val (.int (own_ch c0 c1 c2 (i + 1)))] [])) rfl (hb hby k6_51)) ?_
              show Go p e below _ T0 (mkF m 53 _ [(.int 65536)])
              refine Go.iloadN X0 hx hby k6_53 rfl ?_
              refine Go.of (X0.ldcInt hx hown (mvT hZ (own_t hw 44 rfl)) (g := (mkF m 54 #[.val (.ref a), .val (.int (own_I n)), .val (.int (own_I i)), .val (.int (own_ch c0 c1 c2 i)), .val (.int (own_ch c0 c1 c2 (i + 1)))] [(.int (own_ch c0 c1 c2 i)), (.int 65536)])) rfl (hb hby k6_54)) ?_
              show Go p e below _ T0 (mkF m 56 _ [(.int 55296), (.int (own_ch c0 c1 c2 i)), (.int 65536)])
              refine Go.isub X0 hx hby k6_56 rfl ?_
              refine Go.bipush 10 X0 hx hby k6_57 rfl ?_
              refine Go.ishl X0 hx hby k6_59 rfl ?_
              refine Go.iadd X0 hx hby k6_60 rfl ?_
              refine Go.iload X0 hx hby k6_61 rfl ?_
              refine Go.of (X0.ldcInt hx hown (mvT hZ (own_t hw 107 rfl)) (g := (mkF m 63 #[.val (.ref a), .val (.int (own_I n)), .val (.int (own_I i)), .val (.int (own_ch c0 c1 c2 i)), .val (.int (own_ch c0 c1 c2 (i + 1)))] [(.int (own_ch c0 c1 c2 (i + 1))), (.int ((65536 : Int32) + (((own_ch c0 c1 c2 i) - (55296 : Int32)) <<< ((10 : Int32) &&& 31))))])) rfl (hb hby k6_63)) ?_
              show Go p e below _ T0 (mkF m 65 _ [(.int 56320), (.int (own_ch c0 c1 c2 (i + 1))), (.int ((65536 : Int32) + (((own_ch c0 c1 c2 i) - (55296 : Int32)) <<< ((10 : Int32) &&& 31))))])
              refine Go.isub X0 hx hby k6_65 rfl ?_
              refine Go.iadd X0 hx hby k6_66 rfl ?_
              exact Go.retI X0 hx hlk hret (hb hby k6_67) (by decide) (by decide) ⟨congrArg (fun z => some (Value.int z)) (show (((65536 : Int32) + (((own_ch c0 c1 c2 i) - (55296 : Int32)) <<< ((10 : Int32) &&& 31))) + ((own_ch c0 c1 c2 (i + 1)) - (56320 : Int32))) = own_F c0 c1 c2 n i by rw [own_Fif c0 c1 c2 hn hi]; simp only [own_cp, if_pos hc2, if_neg hc14, if_neg hc20, if_pos hc27, if_neg hc41, if_neg hc48, ite_self]), rfl, e0⟩
        ·
          refine Go.icmpYes 68 X0 hx hby k6_27 (flt hc27).2.1 (by decide) (by decide) ?_
          refine Go.iloadN X0 hx hby k6_68 rfl ?_
          exact Go.retI X0 hx hlk hret (hb hby k6_69) (by decide) (by decide) ⟨congrArg (fun z => some (Value.int z)) (show (own_ch c0 c1 c2 i) = own_F c0 c1 c2 n i by rw [own_Fif c0 c1 c2 hn hi]; simp only [own_cp, if_pos hc2, if_neg hc14, if_neg hc20, if_neg hc27, ite_self]), rfl, e0⟩
  ·
    refine Go.icmpNo X0 hx hby k6_2 (flt hc2).1 ?_
    refine Go.iconst (-1) X0 hx hby k6_5 rfl ?_
    exact Go.retI X0 hx hlk hret (hb hby k6_6) (by decide) (by decide) ⟨congrArg (fun z => some (Value.int z)) (show (-1 : Int32) = own_F c0 c1 c2 n i by rw [own_Fif c0 c1 c2 hn hi]; simp only [own_cp, if_neg hc2, ite_self]), rfl, e0⟩
theorem k7_0 : decode jdk_52_method_5_code 0 = .ok (.getstatic 44, 3) := by decide +kernel
theorem k7_3 : decode jdk_52_method_5_code 3 = .ok (.ifCond .ne 25, 3) := by decide +kernel
theorem k7_28 : decode jdk_52_method_5_code 28 = .ok (.iload_n 1, 1) := by decide +kernel
theorem k7_29 : decode jdk_52_method_5_code 29 = .ok (.iconst 1, 1) := by decide +kernel
theorem k7_30 : decode jdk_52_method_5_code 30 = .ok (.ishl, 1) := by decide +kernel
theorem k7_31 : decode jdk_52_method_5_code 31 = .ok (.istore_n 1, 1) := by decide +kernel
theorem k7_32 : decode jdk_52_method_5_code 32 = .ok (.aload_n 0, 1) := by decide +kernel
theorem k7_33 : decode jdk_52_method_5_code 33 = .ok (.iload_n 1, 1) := by decide +kernel
theorem k7_34 : decode jdk_52_method_5_code 34 = .ok (.iinc 1 1, 3) := by decide +kernel
theorem k7_37 : decode jdk_52_method_5_code 37 = .ok (.baload, 1) := by decide +kernel
theorem k7_38 : decode jdk_52_method_5_code 38 = .ok (.sipush 255, 3) := by decide +kernel
theorem k7_41 : decode jdk_52_method_5_code 41 = .ok (.iand, 1) := by decide +kernel
theorem k7_42 : decode jdk_52_method_5_code 42 = .ok (.getstatic 59, 3) := by decide +kernel
theorem k7_45 : decode jdk_52_method_5_code 45 = .ok (.ishl, 1) := by decide +kernel
theorem k7_46 : decode jdk_52_method_5_code 46 = .ok (.aload_n 0, 1) := by decide +kernel
theorem k7_47 : decode jdk_52_method_5_code 47 = .ok (.iload_n 1, 1) := by decide +kernel
theorem k7_48 : decode jdk_52_method_5_code 48 = .ok (.baload, 1) := by decide +kernel
theorem k7_49 : decode jdk_52_method_5_code 49 = .ok (.sipush 255, 3) := by decide +kernel
theorem k7_52 : decode jdk_52_method_5_code 52 = .ok (.iand, 1) := by decide +kernel
theorem k7_53 : decode jdk_52_method_5_code 53 = .ok (.getstatic 63, 3) := by decide +kernel
theorem k7_56 : decode jdk_52_method_5_code 56 = .ok (.ishl, 1) := by decide +kernel
theorem k7_57 : decode jdk_52_method_5_code 57 = .ok (.ior, 1) := by decide +kernel
theorem k7_58 : decode jdk_52_method_5_code 58 = .ok (.i2c, 1) := by decide +kernel
theorem k7_59 : decode jdk_52_method_5_code 59 = .ok (.ireturn, 1) := by decide +kernel
theorem own_rmGC (l : Launch) (Z : State) (a0 : Array Value) (hw : ∀ d ∈ tables_1, d.before a0 Z = true) (t : Addr) (kt : ClassId) (c0 c1 c2 : Int32) (n i : Nat) (h0 : Heap) (VT : Arv Z h0 t kt .byte (own_I (2 * n)) (own_wd c0 c1 c2 n) (.int 0)) (SA : own_SA Z h0) (SH : own_SH Z h0) (SL : own_SL Z h0) (r0 : own_C c0) (r1 : own_C c1) (r2 : own_C c2) (hn : n ≤ 3) (hi : i < n) :
    MetAt l Z y_7 jdk_52_method_5_code 2 (some .char) ({ frames := 0, cells := 0, slots := 0, locals := 0 } : Room) #[(.ref t), (.int (own_I i))] h0 (PQ h0 (some (.int (own_ch c0 c1 c2 i)))) := by
  refine goBodyM (plainFor_of_name (by first | (simp [plainName, overriddenIn]; done) | decide +kernel)) ?_
  intro p e s m below meth c T0 hx hZ hby hml hown hnm hret hlk X0 e0
  have hown : s.vm.findClass "java/lang/StringUTF16" = some m.cls := hown
  refine Go.cast (g' := mkF m 0 #[.val (.ref t), .val (.int (own_I i))] []) (by first | (simp [entryFrame, mkF, argsToLocals, Value.category]; done) | rfl) ?_
  show Go p e below _ T0 (mkF m 0 _ [])
  refine Go.gets X0 hx hZ hown (own_t hw 101 rfl) Via.refl e0 SA (hb hby k7_0) fun T1 X1 e1 => ?_
  refine Go.ifYes 28 X1 hx hby k7_3 ((if0 _ _).trans (feq (by decide : ¬ ((1 : Int32) = (0 : Int32)))).2) (by decide) (by decide) ?_
  refine Go.iloadN X1 hx hby k7_28 rfl ?_
  refine Go.iconst 1 X1 hx hby k7_29 rfl ?_
  refine Go.ishl X1 hx hby k7_30 rfl ?_
  show Go p e below _ T1 (mkF m 31 _ [(.int ((own_I i) <<< ((1 : Int32) &&& 31)))])
  rw [own_dbl (i := i) (by omega)]
  show Go p e below _ T1 (mkF m 31 _ [(.int (own_I (2 * i)))])
  refine Go.istoreN X1 hx hby k7_31 (l' := #[.val (.ref t), .val (.int (own_I (2 * i)))]) rfl ?_
  refine Go.aloadN X1 hx hby k7_32 rfl rfl ?_
  refine Go.iloadN X1 hx hby k7_33 rfl ?_
  refine Go.iinc X1 hx hby k7_34 rfl (l' := #[.val (.ref t), .val (.int ((own_I (2 * i)) + (1 : Int32)))]) rfl ?_
  show Go p e below _ T1 (mkF m 37 _ [(.int (own_I (2 * i))), (.ref t)])
  rw [own_I_up (2 * i)]
  show Go p e below _ T1 (mkF m 37 _ [(.int (own_I (2 * i))), (.ref t)])
  refine Go.baload X1 hx hZ e1 VT (own_I_in (by omega) (by omega)) (v := .int (lo8 (own_ch c0 c1 c2 i))) (own_atw hn hi).1 (hb hby k7_37) ?_
  show Go p e below _ T1 (mkF m 38 _ [(.int (lo8 (own_ch c0 c1 c2 i)))])
  refine Go.sipush 255 X1 hx hby k7_38 rfl ?_
  refine Go.iand X1 hx hby k7_41 rfl ?_
  refine Go.gets X1 hx hZ hown (own_t hw 102 rfl) Via.refl e1 SH (hb hby k7_42) fun T2 X2 e2 => ?_
  refine Go.ishl X2 hx hby k7_45 rfl ?_
  refine Go.aloadN X2 hx hby k7_46 rfl rfl ?_
  refine Go.iloadN X2 hx hby k7_47 rfl ?_
  show Go p e below _ T2 (mkF m 48 _ [(.int (own_I (2 * i + 1))), (.ref t), (.int (((lo8 (own_ch c0 c1 c2 i)) &&& (255 : Int32)) <<< ((0 : Int32) &&& 31)))])
  refine Go.baload X2 hx hZ e2 VT (own_I_in (by omega) (by omega)) (v := .int (hi8 (own_ch c0 c1 c2 i))) (own_atw hn hi).2 (hb hby k7_48) ?_
  show Go p e below _ T2 (mkF m 49 _ [(.int (hi8 (own_ch c0 c1 c2 i))), (.int (((lo8 (own_ch c0 c1 c2 i)) &&& (255 : Int32)) <<< ((0 : Int32) &&& 31)))])
  refine Go.sipush 255 X2 hx hby k7_49 rfl ?_
  refine Go.iand X2 hx hby k7_52 rfl ?_
  refine Go.gets X2 hx hZ hown (own_t hw 103 rfl) Via.refl e2 SL (hb hby k7_53) fun T3 X3 e3 => ?_
  refine Go.ishl X3 hx hby k7_56 rfl ?_
  refine Go.ior X3 hx hby k7_57 rfl ?_
  refine Go.i2c X3 hx hby k7_58 rfl ?_
  exact Go.retN X3 hx hlk (t := .char) hret (by simp) (hb hby k7_59) (by decide) (by decide) ⟨congrArg (fun z => some (Value.int z)) ((congrArg (nar .char) (pair_says (own_chC r0 r1 r2 i).1 (own_chC r0 r1 r2 i).2)).trans (own_nc (own_chC r0 r1 r2 i))), rfl, e3⟩
theorem k8_0 : decode jdk_52_method_7_code 0 = .ok (.getstatic 44, 3) := by decide +kernel
theorem k8_3 : decode jdk_52_method_7_code 3 = .ok (.ifCond .ne 16, 3) := by decide +kernel
theorem k8_19 : decode jdk_52_method_7_code 19 = .ok (.iload_n 3, 1) := by decide +kernel
theorem k8_20 : decode jdk_52_method_7_code 20 = .ok (.ifCond .eq 8, 3) := by decide +kernel
theorem k8_28 : decode jdk_52_method_7_code 28 = .ok (.aload_n 0, 1) := by decide +kernel
theorem k8_29 : decode jdk_52_method_7_code 29 = .ok (.iload_n 1, 1) := by decide +kernel
theorem k8_30 : decode jdk_52_method_7_code 30 = .ok (.invokestatic 71, 3) := by decide +kernel
theorem k8_33 : decode jdk_52_method_7_code 33 = .ok (.istore 4, 2) := by decide +kernel
theorem k8_35 : decode jdk_52_method_7_code 35 = .ok (.iload 4, 2) := by decide +kernel
theorem k8_37 : decode jdk_52_method_7_code 37 = .ok (.invokestatic 75, 3) := by decide +kernel
theorem k8_40 : decode jdk_52_method_7_code 40 = .ok (.ifCond .eq 43, 3) := by decide +kernel
theorem k8_43 : decode jdk_52_method_7_code 43 = .ok (.iinc 1 1, 3) := by decide +kernel
theorem k8_46 : decode jdk_52_method_7_code 46 = .ok (.iload_n 1, 1) := by decide +kernel
theorem k8_47 : decode jdk_52_method_7_code 47 = .ok (.iload_n 2, 1) := by decide +kernel
theorem k8_48 : decode jdk_52_method_7_code 48 = .ok (.if_icmp .ge 35, 3) := by decide +kernel
theorem k8_51 : decode jdk_52_method_7_code 51 = .ok (.iload_n 3, 1) := by decide +kernel
theorem k8_52 : decode jdk_52_method_7_code 52 = .ok (.ifCond .eq 8, 3) := by decide +kernel
theorem k8_60 : decode jdk_52_method_7_code 60 = .ok (.aload_n 0, 1) := by decide +kernel
theorem k8_61 : decode jdk_52_method_7_code 61 = .ok (.iload_n 1, 1) := by decide +kernel
theorem k8_62 : decode jdk_52_method_7_code 62 = .ok (.invokestatic 71, 3) := by decide +kernel
theorem k8_65 : decode jdk_52_method_7_code 65 = .ok (.istore 5, 2) := by decide +kernel
theorem k8_67 : decode jdk_52_method_7_code 67 = .ok (.iload 5, 2) := by decide +kernel
theorem k8_69 : decode jdk_52_method_7_code 69 = .ok (.invokestatic 81, 3) := by decide +kernel
theorem k8_72 : decode jdk_52_method_7_code 72 = .ok (.ifCond .eq 11, 3) := by decide +kernel
theorem k8_75 : decode jdk_52_method_7_code 75 = .ok (.iload 4, 2) := by decide +kernel
theorem k8_77 : decode jdk_52_method_7_code 77 = .ok (.iload 5, 2) := by decide +kernel
theorem k8_79 : decode jdk_52_method_7_code 79 = .ok (.invokestatic 84, 3) := by decide +kernel
theorem k8_82 : decode jdk_52_method_7_code 82 = .ok (.ireturn, 1) := by decide +kernel
theorem k8_83 : decode jdk_52_method_7_code 83 = .ok (.iload 4, 2) := by decide +kernel
theorem k8_85 : decode jdk_52_method_7_code 85 = .ok (.ireturn, 1) := by decide +kernel
theorem own_rmP4 (l : Launch) (Z : State) (a0 : Array Value) (hw : ∀ d ∈ tables_1, d.before a0 Z = true) (t : Addr) (kt : ClassId) (c0 c1 c2 : Int32) (n i : Nat) (h0 : Heap) (VT : Arv Z h0 t kt .byte (own_I (2 * n)) (own_wd c0 c1 c2 n) (.int 0)) (SA : own_SA Z h0) (SH : own_SH Z h0) (SL : own_SL Z h0) (r0 : own_C c0) (r1 : own_C c1) (r2 : own_C c2) (hn : n ≤ 3) (hi : i < n) :
    MetAt l Z y_8 jdk_52_method_7_code 6 (some .int) ({ frames := 1, cells := 0, slots := 0, locals := 13 } : Room) #[(.ref t), (.int (own_I i)), (.int (own_I n)), (.int 0)] h0 (PQ h0 (some (.int (own_F c0 c1 c2 n i)))) := by
  refine goBodyM (plainFor_of_name (by first | (simp [plainName, overriddenIn]; done) | decide +kernel)) ?_
  intro p e s m below meth c T0 hx hZ hby hml hown hnm hret hlk X0 e0
  have hown : s.vm.findClass "java/lang/StringUTF16" = some m.cls := hown
  refine Go.cast (g' := mkF m 0 #[.val (.ref t), .val (.int (own_I i)), .val (.int (own_I n)), .val (.int 0), .unset, .unset] []) (by first | (simp [entryFrame, mkF, argsToLocals, Value.category]; done) | rfl) ?_
  show Go p e below _ T0 (mkF m 0 _ [])
  refine Go.gets X0 hx hZ hown (own_t hw 101 rfl) Via.refl e0 SA (hb hby k8_0) fun T1 X1 e1 => ?_
  refine Go.ifYes 19 X1 hx hby k8_3 ((if0 _ _).trans (feq (by decide : ¬ ((1 : Int32) = (0 : Int32)))).2) (by decide) (by decide) ?_
  refine Go.iloadN X1 hx hby k8_19 rfl ?_
  refine Go.ifYes 28 X1 hx hby k8_20 ((if0 _ _).trans (teq (by decide : (0 : Int32) = (0 : Int32))).1) (by decide) (by decide) ?_
  refine Go.aloadN X1 hx hby k8_28 rfl rfl ?_
  refine Go.iloadN X1 hx hby k8_29 rfl ?_
  refine Go.callSP (W := 0) (y := y_7) (argsL := [(.ref t), (.int (own_I i))]) (rest := []) (r := some (.int (own_ch c0 c1 c2 i))) X1 hx hZ hown (own_t hw 104 rfl) (own_t hw 105 rfl) (own_t hw 25 rfl) (own_t hw 106 rfl) (by decide) (own_rmGC l Z a0 hw t kt c0 c1 c2 n i h0 VT SA SH SL r0 r1 r2 hn hi) e1 (by rw [hml]; rfl) (lenOf own_dsc0 rfl) (hb hby k8_30) rfl (Nat.le_of_eq rfl) (by decide) (by decide) (by decide) (by decide) fun T2 X2 e2 => ?_
  show Go p e below _ T2 (mkF m 33 _ [(.int (own_ch c0 c1 c2 i))])
  refine Go.istore X2 hx hby k8_33 (l' := #[.val (.ref t), .val (.int (own_I i)), .val (.int (own_I n)), .val (.int 0), .val (.int (own_ch c0 c1 c2 i)), .unset]) rfl ?_
  refine Go.iload X2 hx hby k8_35 rfl ?_
  refine Go.callSP (W := 0) (y := y_0) (argsL := [(.int (own_ch c0 c1 c2 i))]) (rest := []) (r := some (.int (own_isH (own_ch c0 c1 c2 i)))) X2 hx hZ hown (own_t hw 114 rfl) (own_t hw 115 rfl) (own_t hw 116 rfl) (own_t hw 117 rfl) (by decide) (own_rmIH l Z a0 hw (own_ch c0 c1 c2 i) h0) e2 (by rw [hml]; rfl) (lenOf own_dsc1 rfl) (hb hby k8_37) rfl (Nat.le_of_eq rfl) (by decide) (by decide) (by decide) (by decide) fun T3 X3 e3 => ?_
  show Go p e below _ T3 (mkF m 40 _ [(.int (own_isH (own_ch c0 c1 c2 i)))])
  by_cases hc40 : (own_isH (own_ch c0 c1 c2 i)) = (0 : Int32)
  ·
    refine Go.ifYes 83 X3 hx hby k8_40 ((if0 _ _).trans (teq hc40).1) (by decide) (by decide) ?_
    refine Go.iload X3 hx hby k8_83 rfl ?_
    exact Go.retI X3 hx hlk hret (hb hby k8_85) (by decide) (by decide) ⟨congrArg (fun z => some (Value.int z)) (show (own_ch c0 c1 c2 i) = own_F c0 c1 c2 n i by rw [own_Fif c0 c1 c2 hn (by omega), if_pos ((own_I_lt (by omega) (by omega)).mpr hi), own_j0 hc40, ite_self]), rfl, e3⟩
  ·
    refine Go.ifNo X3 hx hby k8_40 ((if0 _ _).trans (feq hc40).1) ?_
    refine Go.iinc X3 hx hby k8_43 rfl (l' := #[.val (.ref t), .val (.int ((own_I i) + (1 : Int32))), .val (.int (own_I n)), .val (.int 0), .val (.int (own_ch c0 c1 c2 i)), .unset]) rfl ?_
    show Go p e below _ T3 (mkF m 46 _ [])
    rw [own_I_up i]
    show Go p e below _ T3 (mkF m 46 _ [])
    refine Go.iloadN X3 hx hby k8_46 rfl ?_
    refine Go.iloadN X3 hx hby k8_47 rfl ?_
    by_cases hc48 : (own_I (i + 1)) < (own_I n)
    ·
      refine Go.icmpNo X3 hx hby k8_48 (tlt hc48).2.1 ?_
      refine Go.iloadN X3 hx hby k8_51 rfl ?_
      refine Go.ifYes 60 X3 hx hby k8_52 ((if0 _ _).trans (teq (by decide : (0 : Int32) = (0 : Int32))).1) (by decide) (by decide) ?_
      refine Go.aloadN X3 hx hby k8_60 rfl rfl ?_
      refine Go.iloadN X3 hx hby k8_61 rfl ?_
      refine Go.callSP (W := 0) (y := y_7) (argsL := [(.ref t), (.int (own_I (i + 1)))]) (rest := []) (r := some (.int (own_ch c0 c1 c2 (i + 1)))) X3 hx hZ hown (own_t hw 104 rfl) (own_t hw 105 rfl) (own_t hw 25 rfl) (own_t hw 106 rfl) (by decide) (own_rmGC l Z a0 hw t kt c0 c1 c2 n (i + 1) h0 VT SA SH SL r0 r1 r2 hn ((own_I_lt (by omega) (by omega)).mp hc48)) e3 (by rw [hml]; rfl) (lenOf own_dsc0 rfl) (hb hby k8_62) rfl (Nat.le_of_eq rfl) (by decide) (by decide) (by decide) (by decide) fun T4 X4 e4 => ?_
      show Go p e below _ T4 (mkF m 65 _ [(.int (own_ch c0 c1 c2 (i + 1)))])
      refine Go.istore X4 hx hby k8_65 (l' := #[.val (.ref t), .val (.int (own_I (i + 1))), .val (.int (own_I n)), .val (.int 0), .val (.int (own_ch c0 c1 c2 i)), .val (.int (own_ch c0 c1 c2 (i + 1)))]) rfl ?_
      refine Go.iload X4 hx hby k8_67 rfl ?_
      refine Go.callSP (W := 0) (y := y_1) (argsL := [(.int (own_ch c0 c1 c2 (i + 1)))]) (rest := []) (r := some (.int (own_isL (own_ch c0 c1 c2 (i + 1))))) X4 hx hZ hown (own_t hw 124 rfl) (own_t hw 125 rfl) (own_t hw 116 rfl) (own_t hw 126 rfl) (by decide) (own_rmLS l Z a0 hw (own_ch c0 c1 c2 (i + 1)) h0) e4 (by rw [hml]; rfl) (lenOf own_dsc1 rfl) (hb hby k8_69) rfl (Nat.le_of_eq rfl) (by decide) (by decide) (by decide) (by decide) fun T5 X5 e5 => ?_
      show Go p e below _ T5 (mkF m 72 _ [(.int (own_isL (own_ch c0 c1 c2 (i + 1))))])
      by_cases hc72 : (own_isL (own_ch c0 c1 c2 (i + 1))) = (0 : Int32)
      ·
        refine Go.ifYes 83 X5 hx hby k8_72 ((if0 _ _).trans (teq hc72).1) (by decide) (by decide) ?_
        refine Go.iload X5 hx hby k8_83 rfl ?_
        exact Go.retI X5 hx hlk hret (hb hby k8_85) (by decide) (by decide) ⟨congrArg (fun z => some (Value.int z)) (show (own_ch c0 c1 c2 i) = own_F c0 c1 c2 n i by rw [own_Fif c0 c1 c2 hn (by omega), if_pos ((own_I_lt (by omega) (by omega)).mpr hi), if_pos hc48, own_j1 hc72]), rfl, e5⟩
      ·
        refine Go.ifNo X5 hx hby k8_72 ((if0 _ _).trans (feq hc72).1) ?_
        refine Go.iload X5 hx hby k8_75 rfl ?_
        refine Go.iload X5 hx hby k8_77 rfl ?_
        refine Go.callSP (W := 0) (y := y_2) (argsL := [(.int (own_ch c0 c1 c2 i)), (.int (own_ch c0 c1 c2 (i + 1)))]) (rest := []) (r := some (.int ((((own_ch c0 c1 c2 i) <<< ((10 : Int32) &&& 31)) + (own_ch c0 c1 c2 (i + 1))) + (-56613888 : Int32)))) X5 hx hZ hown (own_t hw 128 rfl) (own_t hw 129 rfl) (own_t hw 116 rfl) (own_t hw 130 rfl) (by decide) (own_rmTC l Z a0 hw (own_ch c0 c1 c2 i) (own_ch c0 c1 c2 (i + 1)) h0) e5 (by rw [hml]; rfl) (lenOf own_dsc2 rfl) (hb hby k8_79) rfl (Nat.le_of_eq rfl) (by decide) (by decide) (by decide) (by decide) fun T6 X6 e6 => ?_
        show Go p e below _ T6 (mkF m 82 _ [(.int ((((own_ch c0 c1 c2 i) <<< ((10 : Int32) &&& 31)) + (own_ch c0 c1 c2 (i + 1))) + (-56613888 : Int32)))])
        exact Go.retI X6 hx hlk hret (hb hby k8_82) (by decide) (by decide) ⟨congrArg (fun z => some (Value.int z)) (show ((((own_ch c0 c1 c2 i) <<< ((10 : Int32) &&& 31)) + (own_ch c0 c1 c2 (i + 1))) + (-56613888 : Int32)) = own_F c0 c1 c2 n i by rw [own_Fif c0 c1 c2 hn (by omega), if_pos ((own_I_lt (by omega) (by omega)).mpr hi), if_pos hc48]; exact own_j2 hc40 hc72), rfl, e6⟩
    ·
      refine Go.icmpYes 83 X3 hx hby k8_48 (flt hc48).2.1 (by decide) (by decide) ?_
      refine Go.iload X3 hx hby k8_83 rfl ?_
      exact Go.retI X3 hx hlk hret (hb hby k8_85) (by decide) (by decide) ⟨congrArg (fun z => some (Value.int z)) (show (own_ch c0 c1 c2 i) = own_F c0 c1 c2 n i by rw [own_Fif c0 c1 c2 hn (by omega), if_pos ((own_I_lt (by omega) (by omega)).mpr hi), if_neg hc48]), rfl, e3⟩
theorem k9_0 : decode jdk_52_method_8_code 0 = .ok (.aload_n 0, 1) := by decide +kernel
theorem k9_1 : decode jdk_52_method_8_code 1 = .ok (.iload_n 1, 1) := by decide +kernel
theorem k9_2 : decode jdk_52_method_8_code 2 = .ok (.iload_n 2, 1) := by decide +kernel
theorem k9_3 : decode jdk_52_method_8_code 3 = .ok (.iconst 0, 1) := by decide +kernel
theorem k9_4 : decode jdk_52_method_8_code 4 = .ok (.invokestatic 88, 3) := by decide +kernel
theorem k9_7 : decode jdk_52_method_8_code 7 = .ok (.ireturn, 1) := by decide +kernel
theorem own_rmP3 (l : Launch) (Z : State) (a0 : Array Value) (hw : ∀ d ∈ tables_1, d.before a0 Z = true) (t : Addr) (kt : ClassId) (c0 c1 c2 : Int32) (n i : Nat) (h0 : Heap) (VT : Arv Z h0 t kt .byte (own_I (2 * n)) (own_wd c0 c1 c2 n) (.int 0)) (SA : own_SA Z h0) (SH : own_SH Z h0) (SL : own_SL Z h0) (r0 : own_C c0) (r1 : own_C c1) (r2 : own_C c2) (hn : n ≤ 3) (hi : i < n) :
    MetAt l Z y_9 jdk_52_method_8_code 3 (some .int) ({ frames := 2, cells := 0, slots := 0, locals := 30 } : Room) #[(.ref t), (.int (own_I i)), (.int (own_I n))] h0 (PQ h0 (some (.int (own_F c0 c1 c2 n i)))) := by
  refine goBodyM (plainFor_of_name (by first | (simp [plainName, overriddenIn]; done) | decide +kernel)) ?_
  intro p e s m below meth c T0 hx hZ hby hml hown hnm hret hlk X0 e0
  have hown : s.vm.findClass "java/lang/StringUTF16" = some m.cls := hown
  refine Go.cast (g' := mkF m 0 #[.val (.ref t), .val (.int (own_I i)), .val (.int (own_I n))] []) (by first | (simp [entryFrame, mkF, argsToLocals, Value.category]; done) | rfl) ?_
  show Go p e below _ T0 (mkF m 0 _ [])
  refine Go.aloadN X0 hx hby k9_0 rfl rfl ?_
  refine Go.iloadN X0 hx hby k9_1 rfl ?_
  refine Go.iloadN X0 hx hby k9_2 rfl ?_
  refine Go.iconst 0 X0 hx hby k9_3 rfl ?_
  refine Go.callSP (W := 0) (y := y_8) (argsL := [(.ref t), (.int (own_I i)), (.int (own_I n)), (.int 0)]) (rest := []) (r := some (.int (own_F c0 c1 c2 n i))) X0 hx hZ hown (own_t hw 111 rfl) (own_t hw 112 rfl) (own_t hw 25 rfl) (own_t hw 113 rfl) (by decide) (own_rmP4 l Z a0 hw t kt c0 c1 c2 n i h0 VT SA SH SL r0 r1 r2 hn hi) e0 (by rw [hml]; rfl) (lenOf own_dsc3 rfl) (hb hby k9_4) rfl (Nat.le_of_eq rfl) (by decide) (by decide) (by decide) (by decide) fun T1 X1 e1 => ?_
  show Go p e below _ T1 (mkF m 7 _ [(.int (own_F c0 c1 c2 n i))])
  exact Go.retI X1 hx hlk hret (hb hby k9_7) (by decide) (by decide) ⟨rfl, rfl, e1⟩
theorem k10_0 : decode jdk_42_method_152_code 0 = .ok (.getstatic 38, 3) := by decide +kernel
theorem k10_3 : decode jdk_42_method_152_code 3 = .ok (.ifCond .eq 10, 3) := by decide +kernel
theorem k10_6 : decode jdk_42_method_152_code 6 = .ok (.aload_n 0, 1) := by decide +kernel
theorem k10_7 : decode jdk_42_method_152_code 7 = .ok (.getfield 15, 3) := by decide +kernel
theorem k10_10 : decode jdk_42_method_152_code 10 = .ok (.goto 4, 3) := by decide +kernel
theorem k10_14 : decode jdk_42_method_152_code 14 = .ok (.ireturn, 1) := by decide +kernel
theorem own_rmCo0 (l : Launch) (Z : State) (a0 : Array Value) (hw : ∀ d ∈ tables_1, d.before a0 Z = true) (x : Addr) (cz : Int32) (h0 : Heap) (FC : Fld Z h0 x "java/lang/String" "coder" "B" (.int 0)) (SB : own_SB Z h0 cz) (hz : ¬ cz = (0 : Int32)) :
    MetAt l Z y_10 jdk_42_method_152_code 1 (some .byte) ({ frames := 0, cells := 0, slots := 0, locals := 0 } : Room) #[(.ref x)] h0 (PQ h0 (some (.int 0))) := by
  refine goBodyM (plainFor_of_name (by first | (simp [plainName, overriddenIn]; done) | decide +kernel)) ?_
  intro p e s m below meth c T0 hx hZ hby hml hown hnm hret hlk X0 e0
  have hown : s.vm.findClass "java/lang/String" = some m.cls := hown
  refine Go.cast (g' := mkF m 0 #[.val (.ref x)] []) (by first | (simp [entryFrame, mkF, argsToLocals, Value.category]; done) | rfl) ?_
  show Go p e below _ T0 (mkF m 0 _ [])
  refine Go.gets X0 hx hZ hown (own_t hw 22 rfl) Via.refl e0 SB (hb hby k10_0) fun T1 X1 e1 => ?_
  refine Go.ifNo X1 hx hby k10_3 ((if0 _ _).trans (feq hz).1) ?_
  refine Go.aloadN X1 hx hby k10_6 rfl rfl ?_
  refine Go.getf X1 hx hZ hown (own_t hw 34 rfl) Via.refl e1 FC (hb hby k10_7) fun T2 X2 e2 => ?_
  refine Go.goto 14 X2 hx hby k10_10 (by decide) (by decide) ?_
  exact Go.retN X2 hx hlk (t := .byte) hret (by simp) (hb hby k10_14) (by decide) (by decide) ⟨rfl, rfl, e2⟩
theorem k11_0 : decode jdk_42_method_154_code 0 = .ok (.getstatic 38, 3) := by decide +kernel
theorem k11_3 : decode jdk_42_method_154_code 3 = .ok (.ifCond .eq 14, 3) := by decide +kernel
theorem k11_6 : decode jdk_42_method_154_code 6 = .ok (.aload_n 0, 1) := by decide +kernel
theorem k11_7 : decode jdk_42_method_154_code 7 = .ok (.getfield 15, 3) := by decide +kernel
theorem k11_10 : decode jdk_42_method_154_code 10 = .ok (.ifCond .ne 7, 3) := by decide +kernel
theorem k11_13 : decode jdk_42_method_154_code 13 = .ok (.iconst 1, 1) := by decide +kernel
theorem k11_14 : decode jdk_42_method_154_code 14 = .ok (.goto 4, 3) := by decide +kernel
theorem k11_18 : decode jdk_42_method_154_code 18 = .ok (.ireturn, 1) := by decide +kernel
theorem own_rmIL0 (l : Launch) (Z : State) (a0 : Array Value) (hw : ∀ d ∈ tables_1, d.before a0 Z = true) (x : Addr) (cz : Int32) (h0 : Heap) (FC : Fld Z h0 x "java/lang/String" "coder" "B" (.int 0)) (SB : own_SB Z h0 cz) (hz : ¬ cz = (0 : Int32)) :
    MetAt l Z y_11 jdk_42_method_154_code 1 (some .boolean) ({ frames := 0, cells := 0, slots := 0, locals := 0 } : Room) #[(.ref x)] h0 (PQ h0 (some (.int 1))) := by
  refine goBodyM (plainFor_of_name (by first | (simp [plainName, overriddenIn]; done) | decide +kernel)) ?_
  intro p e s m below meth c T0 hx hZ hby hml hown hnm hret hlk X0 e0
  have hown : s.vm.findClass "java/lang/String" = some m.cls := hown
  refine Go.cast (g' := mkF m 0 #[.val (.ref x)] []) (by first | (simp [entryFrame, mkF, argsToLocals, Value.category]; done) | rfl) ?_
  show Go p e below _ T0 (mkF m 0 _ [])
  refine Go.gets X0 hx hZ hown (own_t hw 22 rfl) Via.refl e0 SB (hb hby k11_0) fun T1 X1 e1 => ?_
  refine Go.ifNo X1 hx hby k11_3 ((if0 _ _).trans (feq hz).1) ?_
  refine Go.aloadN X1 hx hby k11_6 rfl rfl ?_
  refine Go.getf X1 hx hZ hown (own_t hw 34 rfl) Via.refl e1 FC (hb hby k11_7) fun T2 X2 e2 => ?_
  refine Go.ifNo X2 hx hby k11_10 ((if0 _ _).trans (teq (by decide : (0 : Int32) = (0 : Int32))).2) ?_
  refine Go.iconst 1 X2 hx hby k11_13 rfl ?_
  refine Go.goto 18 X2 hx hby k11_14 (by decide) (by decide) ?_
  exact Go.retN X2 hx hlk (t := .boolean) hret (by simp) (hb hby k11_18) (by decide) (by decide) ⟨rfl, rfl, e2⟩
theorem own_rmCo1 (l : Launch) (Z : State) (a0 : Array Value) (hw : ∀ d ∈ tables_1, d.before a0 Z = true) (x : Addr) (cz : Int32) (h0 : Heap) (FC : Fld Z h0 x "java/lang/String" "coder" "B" (.int 1)) (SB : own_SB Z h0 cz) (hz : ¬ cz = (0 : Int32)) :
    MetAt l Z y_10 jdk_42_method_152_code 1 (some .byte) ({ frames := 0, cells := 0, slots := 0, locals := 0 } : Room) #[(.ref x)] h0 (PQ h0 (some (.int 1))) := by
  refine goBodyM (plainFor_of_name (by first | (simp [plainName, overriddenIn]; done) | decide +kernel)) ?_
  intro p e s m below meth c T0 hx hZ hby hml hown hnm hret hlk X0 e0
  have hown : s.vm.findClass "java/lang/String" = some m.cls := hown
  refine Go.cast (g' := mkF m 0 #[.val (.ref x)] []) (by first | (simp [entryFrame, mkF, argsToLocals, Value.category]; done) | rfl) ?_
  show Go p e below _ T0 (mkF m 0 _ [])
  refine Go.gets X0 hx hZ hown (own_t hw 22 rfl) Via.refl e0 SB (hb hby k10_0) fun T1 X1 e1 => ?_
  refine Go.ifNo X1 hx hby k10_3 ((if0 _ _).trans (feq hz).1) ?_
  refine Go.aloadN X1 hx hby k10_6 rfl rfl ?_
  refine Go.getf X1 hx hZ hown (own_t hw 34 rfl) Via.refl e1 FC (hb hby k10_7) fun T2 X2 e2 => ?_
  refine Go.goto 14 X2 hx hby k10_10 (by decide) (by decide) ?_
  exact Go.retN X2 hx hlk (t := .byte) hret (by simp) (hb hby k10_14) (by decide) (by decide) ⟨rfl, rfl, e2⟩
theorem k11_17 : decode jdk_42_method_154_code 17 = .ok (.iconst 0, 1) := by decide +kernel
theorem own_rmIL1 (l : Launch) (Z : State) (a0 : Array Value) (hw : ∀ d ∈ tables_1, d.before a0 Z = true) (x : Addr) (cz : Int32) (h0 : Heap) (FC : Fld Z h0 x "java/lang/String" "coder" "B" (.int 1)) (SB : own_SB Z h0 cz) (hz : ¬ cz = (0 : Int32)) :
    MetAt l Z y_11 jdk_42_method_154_code 1 (some .boolean) ({ frames := 0, cells := 0, slots := 0, locals := 0 } : Room) #[(.ref x)] h0 (PQ h0 (some (.int 0))) := by
  refine goBodyM (plainFor_of_name (by first | (simp [plainName, overriddenIn]; done) | decide +kernel)) ?_
  intro p e s m below meth c T0 hx hZ hby hml hown hnm hret hlk X0 e0
  have hown : s.vm.findClass "java/lang/String" = some m.cls := hown
  refine Go.cast (g' := mkF m 0 #[.val (.ref x)] []) (by first | (simp [entryFrame, mkF, argsToLocals, Value.category]; done) | rfl) ?_
  show Go p e below _ T0 (mkF m 0 _ [])
  refine Go.gets X0 hx hZ hown (own_t hw 22 rfl) Via.refl e0 SB (hb hby k11_0) fun T1 X1 e1 => ?_
  refine Go.ifNo X1 hx hby k11_3 ((if0 _ _).trans (feq hz).1) ?_
  refine Go.aloadN X1 hx hby k11_6 rfl rfl ?_
  refine Go.getf X1 hx hZ hown (own_t hw 34 rfl) Via.refl e1 FC (hb hby k11_7) fun T2 X2 e2 => ?_
  refine Go.ifYes 17 X2 hx hby k11_10 ((if0 _ _).trans (feq (by decide : ¬ ((1 : Int32) = (0 : Int32)))).2) (by decide) (by decide) ?_
  refine Go.iconst 0 X2 hx hby k11_17 rfl ?_
  exact Go.retN X2 hx hlk (t := .boolean) hret (by simp) (hb hby k11_18) (by decide) (by decide) ⟨rfl, rfl, e2⟩
theorem k12_0 : decode jdk_41_method_11_code 0 = .ok (.iload_n 0, 1) := by decide +kernel
theorem k12_1 : decode jdk_41_method_11_code 1 = .ok (.ifCond .lt 8, 3) := by decide +kernel
theorem k12_4 : decode jdk_41_method_11_code 4 = .ok (.iload_n 0, 1) := by decide +kernel
theorem k12_5 : decode jdk_41_method_11_code 5 = .ok (.iload_n 1, 1) := by decide +kernel
theorem k12_6 : decode jdk_41_method_11_code 6 = .ok (.if_icmp .lt 10, 3) := by decide +kernel
theorem k12_16 : decode jdk_41_method_11_code 16 = .ok (.iload_n 0, 1) := by decide +kernel
theorem k12_17 : decode jdk_41_method_11_code 17 = .ok (.ireturn, 1) := by decide +kernel
theorem own_rmPcN (l : Launch) (Z : State) (a0 : Array Value) (hw : ∀ d ∈ tables_1, d.before a0 Z = true) (i n : Int32) (h0 : Heap) (hi0 : ¬ i < 0) (hin : i < n) :
    MetAt l Z y_12 jdk_41_method_11_code 3 (some .int) ({ frames := 0, cells := 0, slots := 0, locals := 0 } : Room) #[(.int i), (.int n), .null] h0 (PQ h0 (some (.int i))) := by
  refine goBodyM (plainFor_of_name (by first | (simp [plainName, overriddenIn]; done) | decide +kernel)) ?_
  intro p e s m below meth c T0 hx hZ hby hml hown hnm hret hlk X0 e0
  have hown : s.vm.findClass "jdk/internal/util/Preconditions" = some m.cls := hown
  refine Go.cast (g' := mkF m 0 #[.val (.int i), .val (.int n), .val .null] []) (by first | (simp [entryFrame, mkF, argsToLocals, Value.category]; done) | rfl) ?_
  show Go p e below _ T0 (mkF m 0 _ [])
  refine Go.iloadN X0 hx hby k12_0 rfl ?_
  refine Go.ifNo X0 hx hby k12_1 ((if0 _ _).trans (flt hi0).1) ?_
  refine Go.iloadN X0 hx hby k12_4 rfl ?_
  refine Go.iloadN X0 hx hby k12_5 rfl ?_
  refine Go.icmpYes 16 X0 hx hby k12_6 (tlt hin).1 (by decide) (by decide) ?_
  refine Go.iloadN X0 hx hby k12_16 rfl ?_
  exact Go.retI X0 hx hlk hret (hb hby k12_17) (by decide) (by decide) ⟨rfl, rfl, e0⟩
theorem own_rmPcR (l : Launch) (Z : State) (a0 : Array Value) (hw : ∀ d ∈ tables_1, d.before a0 Z = true) (i n : Int32) (ga : Addr) (h0 : Heap) (hi0 : ¬ i < 0) (hin : i < n) :
    MetAt l Z y_12 jdk_41_method_11_code 3 (some .int) ({ frames := 0, cells := 0, slots := 0, locals := 0 } : Room) #[(.int i), (.int n), (.ref ga)] h0 (PQ h0 (some (.int i))) := by
  refine goBodyM (plainFor_of_name (by first | (simp [plainName, overriddenIn]; done) | decide +kernel)) ?_
  intro p e s m below meth c T0 hx hZ hby hml hown hnm hret hlk X0 e0
  have hown : s.vm.findClass "jdk/internal/util/Preconditions" = some m.cls := hown
  refine Go.cast (g' := mkF m 0 #[.val (.int i), .val (.int n), .val (.ref ga)] []) (by first | (simp [entryFrame, mkF, argsToLocals, Value.category]; done) | rfl) ?_
  show Go p e below _ T0 (mkF m 0 _ [])
  refine Go.iloadN X0 hx hby k12_0 rfl ?_
  refine Go.ifNo X0 hx hby k12_1 ((if0 _ _).trans (flt hi0).1) ?_
  refine Go.iloadN X0 hx hby k12_4 rfl ?_
  refine Go.iloadN X0 hx hby k12_5 rfl ?_
  refine Go.icmpYes 16 X0 hx hby k12_6 (tlt hin).1 (by decide) (by decide) ?_
  refine Go.iloadN X0 hx hby k12_16 rfl ?_
  exact Go.retI X0 hx hlk hret (hb hby k12_17) (by decide) (by decide) ⟨rfl, rfl, e0⟩
theorem own_rmPc (l : Launch) (Z : State) (a0 : Array Value) (hw : ∀ d ∈ tables_1, d.before a0 Z = true) (i n : Int32) (G : Value) (h0 : Heap) (hG : G.isRef = true) (hi0 : ¬ i < 0) (hin : i < n) :
    MetAt l Z y_12 jdk_41_method_11_code 3 (some .int) ({ frames := 0, cells := 0, slots := 0, locals := 0 } : Room) #[(.int i), (.int n), G] h0 (PQ h0 (some (.int i))) := by
  rcases ref_cases hG with rfl | ⟨ga, rfl⟩
  · exact own_rmPcN l Z a0 hw i n h0 hi0 hin
  · exact own_rmPcR l Z a0 hw i n ga h0 hi0 hin
theorem k13_0 : decode jdk_42_method_155_code 0 = .ok (.iload_n 0, 1) := by decide +kernel
theorem k13_1 : decode jdk_42_method_155_code 1 = .ok (.iload_n 1, 1) := by decide +kernel
theorem k13_2 : decode jdk_42_method_155_code 2 = .ok (.getstatic 1053, 3) := by decide +kernel
theorem k13_5 : decode jdk_42_method_155_code 5 = .ok (.invokestatic 1059, 3) := by decide +kernel
theorem k13_8 : decode jdk_42_method_155_code 8 = .ok (.pop, 1) := by decide +kernel
theorem k13_9 : decode jdk_42_method_155_code 9 = .ok (.return_, 1) := by decide +kernel
theorem own_rmCk (l : Launch) (Z : State) (a0 : Array Value) (hw : ∀ d ∈ tables_1, d.before a0 Z = true) (i n : Int32) (G : Value) (h0 : Heap) (SG : own_SG Z h0 G) (hG : G.isRef = true) (hi0 : ¬ i < 0) (hin : i < n) :
    MetAt l Z y_13 jdk_42_method_155_code 2 none ({ frames := 1, cells := 0, slots := 0, locals := 14 } : Room) #[(.int i), (.int n)] h0 (PQ h0 (none)) := by
  refine goBodyM (plainFor_of_name (by first | (simp [plainName, overriddenIn]; done) | decide +kernel)) ?_
  intro p e s m below meth c T0 hx hZ hby hml hown hnm hret hlk X0 e0
  have hown : s.vm.findClass "java/lang/String" = some m.cls := hown
  refine Go.cast (g' := mkF m 0 #[.val (.int i), .val (.int n)] []) (by first | (simp [entryFrame, mkF, argsToLocals, Value.category]; done) | rfl) ?_
  show Go p e below _ T0 (mkF m 0 _ [])
  refine Go.iloadN X0 hx hby k13_0 rfl ?_
  refine Go.iloadN X0 hx hby k13_1 rfl ?_
  refine Go.gets X0 hx hZ hown (own_t hw 80 rfl) Via.refl e0 SG (hb hby k13_2) fun T1 X1 e1 => ?_
  refine Go.callSP (W := 0) (y := y_12) (argsL := [(.int i), (.int n), G]) (rest := []) (r := some (.int i)) X1 hx hZ hown (own_t hw 82 rfl) (own_t hw 83 rfl) (own_t hw 81 rfl) (own_t hw 84 rfl) (by decide) (own_rmPc l Z a0 hw i n G h0 hG hi0 hin) e1 (by rw [hml]; rfl) (lenOf own_dsc4 rfl) (hb hby k13_5) rfl (Nat.le_of_eq rfl) (by decide) (by decide) (by decide) (by decide) fun T2 X2 e2 => ?_
  show Go p e below _ T2 (mkF m 8 _ [(.int i)])
  refine Go.pop X2 hx hby k13_8 rfl ?_
  exact Go.retV X2 hx hlk hret (hb hby k13_9) (by decide) (by decide) ⟨rfl, rfl, e2⟩
theorem k14_0 : decode jdk_42_method_54_code 0 = .ok (.aload_n 0, 1) := by decide +kernel
theorem k14_1 : decode jdk_42_method_54_code 1 = .ok (.getfield 9, 3) := by decide +kernel
theorem k14_4 : decode jdk_42_method_54_code 4 = .ok (.arraylength, 1) := by decide +kernel
theorem k14_5 : decode jdk_42_method_54_code 5 = .ok (.aload_n 0, 1) := by decide +kernel
theorem k14_6 : decode jdk_42_method_54_code 6 = .ok (.invokevirtual 335, 3) := by decide +kernel
theorem k14_9 : decode jdk_42_method_54_code 9 = .ok (.ishr, 1) := by decide +kernel
theorem k14_10 : decode jdk_42_method_54_code 10 = .ok (.ireturn, 1) := by decide +kernel
theorem own_rmLn0 (l : Launch) (Z : State) (a0 : Array Value) (hw : ∀ d ∈ tables_1, d.before a0 Z = true) (x t : Addr) (kt : ClassId) (c0 c1 c2 : Int32) (cz : Int32) (G : Value) (n : Nat) (h0 : Heap) (EX : Exa Z h0 x "java/lang/String") (FC : Fld Z h0 x "java/lang/String" "coder" "B" (.int 0)) (FV : Fld Z h0 x "java/lang/String" "value" "[B" (.ref t)) (VT : Arv Z h0 t kt .byte (own_I n) (own_lo c0 c1 c2 n) (.int 0)) (la : own_lat c0 c1 c2 n) (hn : n ≤ 3) (r0 : own_C c0) (r1 : own_C c1) (r2 : own_C c2) (SB : own_SB Z h0 cz) (hz : ¬ cz = (0 : Int32)) (SA : own_SA Z h0) (SH : own_SH Z h0) (SL : own_SL Z h0) (SG : own_SG Z h0 G) (hG : G.isRef = true) :
    MetAt l Z y_14 jdk_42_method_54_code 1 (some .int) ({ frames := 1, cells := 0, slots := 0, locals := 13 } : Room) #[(.ref x)] h0 (PQ h0 (some (.int (own_I n)))) := by
  refine goBodyM (plainFor_of_name (by first | (simp [plainName, overriddenIn]; done) | decide +kernel)) ?_
  intro p e s m below meth c T0 hx hZ hby hml hown hnm hret hlk X0 e0
  have hown : s.vm.findClass "java/lang/String" = some m.cls := hown
  refine Go.cast (g' := mkF m 0 #[.val (.ref x)] []) (by first | (simp [entryFrame, mkF, argsToLocals, Value.category]; done) | rfl) ?_
  show Go p e below _ T0 (mkF m 0 _ [])
  refine Go.aloadN X0 hx hby k14_0 rfl rfl ?_
  refine Go.getf X0 hx hZ hown (own_t hw 36 rfl) Via.refl e0 FV (hb hby k14_1) fun T1 X1 e1 => ?_
  refine Go.len X1 hx hZ e1 VT (hb hby k14_4) ?_
  refine Go.aloadN X1 hx hby k14_5 rfl rfl ?_
  refine Go.callVP (W := 1) (y := y_10) (z := y_10) (a := x) (argsL := []) (rest := [(.int (own_I n))]) (r := some (.int 0)) X1 hx hZ hown (own_t hw 58 rfl) (own_t hw 59 rfl) (notFace_of_selects (args := #[]) (mvT hZ (own_t hw 61 rfl))) (own_t hw 61 rfl) (own_t hw 60 rfl) (own_t hw 10 rfl) (own_t hw 62 rfl) (by decide) (own_rmCo0 l Z a0 hw x cz h0 FC SB hz) e1 EX (by rw [hml]; rfl) (lenOf own_dsc5 rfl) (hb hby k14_6) rfl (Nat.le_of_eq rfl) (by decide) (by decide) (by decide) (by decide) fun T2 X2 e2 => ?_
  show Go p e below _ T2 (mkF m 9 _ [(.int 0), (.int (own_I n))])
  refine Go.ishr X2 hx hby k14_9 rfl ?_
  show Go p e below _ T2 (mkF m 10 _ [(.int ((own_I n) >>> ((0 : Int32) &&& 31)))])
  rw [own_sh0 (i := n) (by omega)]
  show Go p e below _ T2 (mkF m 10 _ [(.int (own_I n))])
  exact Go.retI X2 hx hlk hret (hb hby k14_10) (by decide) (by decide) ⟨rfl, rfl, e2⟩
theorem k15_0 : decode jdk_42_method_57_code 0 = .ok (.aload_n 0, 1) := by decide +kernel
theorem k15_1 : decode jdk_42_method_57_code 1 = .ok (.invokevirtual 492, 3) := by decide +kernel
theorem k15_4 : decode jdk_42_method_57_code 4 = .ok (.ifCond .eq 23, 3) := by decide +kernel
theorem k15_7 : decode jdk_42_method_57_code 7 = .ok (.iload_n 1, 1) := by decide +kernel
theorem k15_8 : decode jdk_42_method_57_code 8 = .ok (.aload_n 0, 1) := by decide +kernel
theorem k15_9 : decode jdk_42_method_57_code 9 = .ok (.getfield 9, 3) := by decide +kernel
theorem k15_12 : decode jdk_42_method_57_code 12 = .ok (.arraylength, 1) := by decide +kernel
theorem k15_13 : decode jdk_42_method_57_code 13 = .ok (.invokestatic 499, 3) := by decide +kernel
theorem k15_16 : decode jdk_42_method_57_code 16 = .ok (.aload_n 0, 1) := by decide +kernel
theorem k15_17 : decode jdk_42_method_57_code 17 = .ok (.getfield 9, 3) := by decide +kernel
theorem k15_20 : decode jdk_42_method_57_code 20 = .ok (.iload_n 1, 1) := by decide +kernel
theorem k15_21 : decode jdk_42_method_57_code 21 = .ok (.baload, 1) := by decide +kernel
theorem k15_22 : decode jdk_42_method_57_code 22 = .ok (.sipush 255, 3) := by decide +kernel
theorem k15_25 : decode jdk_42_method_57_code 25 = .ok (.iand, 1) := by decide +kernel
theorem k15_26 : decode jdk_42_method_57_code 26 = .ok (.ireturn, 1) := by decide +kernel
theorem own_rmPt0 (l : Launch) (Z : State) (a0 : Array Value) (hw : ∀ d ∈ tables_1, d.before a0 Z = true) (x t : Addr) (kt : ClassId) (c0 c1 c2 : Int32) (cz : Int32) (G : Value) (n : Nat) (i : Nat) (h0 : Heap) (EX : Exa Z h0 x "java/lang/String") (FC : Fld Z h0 x "java/lang/String" "coder" "B" (.int 0)) (FV : Fld Z h0 x "java/lang/String" "value" "[B" (.ref t)) (VT : Arv Z h0 t kt .byte (own_I n) (own_lo c0 c1 c2 n) (.int 0)) (la : own_lat c0 c1 c2 n) (hn : n ≤ 3) (r0 : own_C c0) (r1 : own_C c1) (r2 : own_C c2) (SB : own_SB Z h0 cz) (hz : ¬ cz = (0 : Int32)) (SA : own_SA Z h0) (SH : own_SH Z h0) (SL : own_SL Z h0) (SG : own_SG Z h0 G) (hG : G.isRef = true) (hi : i < n) :
    MetAt l Z y_15 jdk_42_method_57_code 3 (some .int) ({ frames := 3, cells := 0, slots := 0, locals := 44 } : Room) #[(.ref x), (.int (own_I i))] h0 (PQ h0 (some (.int (own_F c0 c1 c2 n i)))) := by
  refine goBodyM (plainFor_of_name (by first | (simp [plainName, overriddenIn]; done) | decide +kernel)) ?_
  intro p e s m below meth c T0 hx hZ hby hml hown hnm hret hlk X0 e0
  have hown : s.vm.findClass "java/lang/String" = some m.cls := hown
  refine Go.cast (g' := mkF m 0 #[.val (.ref x), .val (.int (own_I i)), .unset] []) (by first | (simp [entryFrame, mkF, argsToLocals, Value.category]; done) | rfl) ?_
  show Go p e below _ T0 (mkF m 0 _ [])
  refine Go.aloadN X0 hx hby k15_0 rfl rfl ?_
  refine Go.callVP (W := 0) (y := y_11) (z := y_11) (a := x) (argsL := []) (rest := []) (r := some (.int 1)) X0 hx hZ hown (own_t hw 72 rfl) (own_t hw 73 rfl) (notFace_of_selects (args := #[]) (mvT hZ (own_t hw 75 rfl))) (own_t hw 75 rfl) (own_t hw 74 rfl) (own_t hw 10 rfl) (own_t hw 76 rfl) (by decide) (own_rmIL0 l Z a0 hw x cz h0 FC SB hz) e0 EX (by rw [hml]; rfl) (lenOf own_dsc6 rfl) (hb hby k15_1) rfl (Nat.le_of_eq rfl) (by decide) (by decide) (by decide) (by decide) fun T1 X1 e1 => ?_
  show Go p e below _ T1 (mkF m 4 _ [(.int 1)])
  refine Go.ifNo X1 hx hby k15_4 ((if0 _ _).trans (feq (by decide : ¬ ((1 : Int32) = (0 : Int32)))).1) ?_
  refine Go.iloadN X1 hx hby k15_7 rfl ?_
  refine Go.aloadN X1 hx hby k15_8 rfl rfl ?_
  refine Go.getf X1 hx hZ hown (own_t hw 36 rfl) Via.refl e1 FV (hb hby k15_9) fun T2 X2 e2 => ?_
  refine Go.len X2 hx hZ e2 VT (hb hby k15_12) ?_
  refine Go.callSP (W := 0) (y := y_13) (argsL := [(.int (own_I i)), (.int (own_I n))]) (rest := []) (r := none) X2 hx hZ hown (own_t hw 77 rfl) (own_t hw 78 rfl) (own_t hw 10 rfl) (own_t hw 79 rfl) (by decide) (own_rmCk l Z a0 hw (own_I i) (own_I n) G h0 SG hG (own_I_in hi (by omega)).1 (own_I_in hi (by omega)).2) e2 (by rw [hml]; rfl) (lenOf own_dsc7 rfl) (hb hby k15_13) rfl (Nat.le_of_eq rfl) (by decide) (by decide) (by decide) (by decide) fun T3 X3 e3 => ?_
  show Go p e below _ T3 (mkF m 16 _ [])
  refine Go.aloadN X3 hx hby k15_16 rfl rfl ?_
  refine Go.getf X3 hx hZ hown (own_t hw 36 rfl) Via.refl e3 FV (hb hby k15_17) fun T4 X4 e4 => ?_
  refine Go.iloadN X4 hx hby k15_20 rfl ?_
  show Go p e below _ T4 (mkF m 21 _ [(.int (own_I i)), (.ref t)])
  refine Go.baload X4 hx hZ e4 VT (own_I_in hi (by omega)) (v := .int (lo8 (own_ch c0 c1 c2 i))) (own_atl hn hi) (hb hby k15_21) ?_
  show Go p e below _ T4 (mkF m 22 _ [(.int (lo8 (own_ch c0 c1 c2 i)))])
  refine Go.sipush 255 X4 hx hby k15_22 rfl ?_
  refine Go.iand X4 hx hby k15_25 rfl ?_
  exact Go.retI X4 hx hlk hret (hb hby k15_26) (by decide) (by decide) ⟨congrArg (fun z => some (Value.int z)) ((lo8_mask (own_chC r0 r1 r2 i).1 (own_latc hn hi la)).trans (show (own_ch c0 c1 c2 i) = own_F c0 c1 c2 n i by rw [own_Fif c0 c1 c2 hn (by omega), if_pos ((own_I_lt (by omega) (by omega)).mpr hi), own_l0 (own_latc hn hi la), ite_self])), rfl, e4⟩
theorem own_rmLn1 (l : Launch) (Z : State) (a0 : Array Value) (hw : ∀ d ∈ tables_1, d.before a0 Z = true) (x t : Addr) (kt : ClassId) (c0 c1 c2 : Int32) (cz : Int32) (G : Value) (n : Nat) (h0 : Heap) (EX : Exa Z h0 x "java/lang/String") (FC : Fld Z h0 x "java/lang/String" "coder" "B" (.int 1)) (FV : Fld Z h0 x "java/lang/String" "value" "[B" (.ref t)) (VT : Arv Z h0 t kt .byte (own_I (2 * n)) (own_wd c0 c1 c2 n) (.int 0)) (hn : n ≤ 3) (r0 : own_C c0) (r1 : own_C c1) (r2 : own_C c2) (SB : own_SB Z h0 cz) (hz : ¬ cz = (0 : Int32)) (SA : own_SA Z h0) (SH : own_SH Z h0) (SL : own_SL Z h0) (SG : own_SG Z h0 G) (hG : G.isRef = true) :
    MetAt l Z y_14 jdk_42_method_54_code 1 (some .int) ({ frames := 1, cells := 0, slots := 0, locals := 13 } : Room) #[(.ref x)] h0 (PQ h0 (some (.int (own_I n)))) := by
  refine goBodyM (plainFor_of_name (by first | (simp [plainName, overriddenIn]; done) | decide +kernel)) ?_
  intro p e s m below meth c T0 hx hZ hby hml hown hnm hret hlk X0 e0
  have hown : s.vm.findClass "java/lang/String" = some m.cls := hown
  refine Go.cast (g' := mkF m 0 #[.val (.ref x)] []) (by first | (simp [entryFrame, mkF, argsToLocals, Value.category]; done) | rfl) ?_
  show Go p e below _ T0 (mkF m 0 _ [])
  refine Go.aloadN X0 hx hby k14_0 rfl rfl ?_
  refine Go.getf X0 hx hZ hown (own_t hw 36 rfl) Via.refl e0 FV (hb hby k14_1) fun T1 X1 e1 => ?_
  refine Go.len X1 hx hZ e1 VT (hb hby k14_4) ?_
  refine Go.aloadN X1 hx hby k14_5 rfl rfl ?_
  refine Go.callVP (W := 1) (y := y_10) (z := y_10) (a := x) (argsL := []) (rest := [(.int (own_I (2 * n)))]) (r := some (.int 1)) X1 hx hZ hown (own_t hw 58 rfl) (own_t hw 59 rfl) (notFace_of_selects (args := #[]) (mvT hZ (own_t hw 61 rfl))) (own_t hw 61 rfl) (own_t hw 60 rfl) (own_t hw 10 rfl) (own_t hw 62 rfl) (by decide) (own_rmCo1 l Z a0 hw x cz h0 FC SB hz) e1 EX (by rw [hml]; rfl) (lenOf own_dsc5 rfl) (hb hby k14_6) rfl (Nat.le_of_eq rfl) (by decide) (by decide) (by decide) (by decide) fun T2 X2 e2 => ?_
  show Go p e below _ T2 (mkF m 9 _ [(.int 1), (.int (own_I (2 * n)))])
  refine Go.ishr X2 hx hby k14_9 rfl ?_
  show Go p e below _ T2 (mkF m 10 _ [(.int ((own_I (2 * n)) >>> ((1 : Int32) &&& 31)))])
  rw [own_half (i := n) (by omega)]
  show Go p e below _ T2 (mkF m 10 _ [(.int (own_I n))])
  exact Go.retI X2 hx hlk hret (hb hby k14_10) (by decide) (by decide) ⟨rfl, rfl, e2⟩
theorem k15_27 : decode jdk_42_method_57_code 27 = .ok (.aload_n 0, 1) := by decide +kernel
theorem k15_28 : decode jdk_42_method_57_code 28 = .ok (.getfield 9, 3) := by decide +kernel
theorem k15_31 : decode jdk_42_method_57_code 31 = .ok (.arraylength, 1) := by decide +kernel
theorem k15_32 : decode jdk_42_method_57_code 32 = .ok (.iconst 1, 1) := by decide +kernel
theorem k15_33 : decode jdk_42_method_57_code 33 = .ok (.ishr, 1) := by decide +kernel
theorem k15_34 : decode jdk_42_method_57_code 34 = .ok (.istore_n 2, 1) := by decide +kernel
theorem k15_35 : decode jdk_42_method_57_code 35 = .ok (.iload_n 1, 1) := by decide +kernel
theorem k15_36 : decode jdk_42_method_57_code 36 = .ok (.iload_n 2, 1) := by decide +kernel
theorem k15_37 : decode jdk_42_method_57_code 37 = .ok (.invokestatic 499, 3) := by decide +kernel
theorem k15_40 : decode jdk_42_method_57_code 40 = .ok (.aload_n 0, 1) := by decide +kernel
theorem k15_41 : decode jdk_42_method_57_code 41 = .ok (.getfield 9, 3) := by decide +kernel
theorem k15_44 : decode jdk_42_method_57_code 44 = .ok (.iload_n 1, 1) := by decide +kernel
theorem k15_45 : decode jdk_42_method_57_code 45 = .ok (.iload_n 2, 1) := by decide +kernel
theorem k15_46 : decode jdk_42_method_57_code 46 = .ok (.invokestatic 502, 3) := by decide +kernel
theorem k15_49 : decode jdk_42_method_57_code 49 = .ok (.ireturn, 1) := by decide +kernel
theorem own_rmPt1 (l : Launch) (Z : State) (a0 : Array Value) (hw : ∀ d ∈ tables_1, d.before a0 Z = true) (x t : Addr) (kt : ClassId) (c0 c1 c2 : Int32) (cz : Int32) (G : Value) (n : Nat) (i : Nat) (h0 : Heap) (EX : Exa Z h0 x "java/lang/String") (FC : Fld Z h0 x "java/lang/String" "coder" "B" (.int 1)) (FV : Fld Z h0 x "java/lang/String" "value" "[B" (.ref t)) (VT : Arv Z h0 t kt .byte (own_I (2 * n)) (own_wd c0 c1 c2 n) (.int 0)) (hn : n ≤ 3) (r0 : own_C c0) (r1 : own_C c1) (r2 : own_C c2) (SB : own_SB Z h0 cz) (hz : ¬ cz = (0 : Int32)) (SA : own_SA Z h0) (SH : own_SH Z h0) (SL : own_SL Z h0) (SG : own_SG Z h0 G) (hG : G.isRef = true) (hi : i < n) :
    MetAt l Z y_15 jdk_42_method_57_code 3 (some .int) ({ frames := 3, cells := 0, slots := 0, locals := 44 } : Room) #[(.ref x), (.int (own_I i))] h0 (PQ h0 (some (.int (own_F c0 c1 c2 n i)))) := by
  refine goBodyM (plainFor_of_name (by first | (simp [plainName, overriddenIn]; done) | decide +kernel)) ?_
  intro p e s m below meth c T0 hx hZ hby hml hown hnm hret hlk X0 e0
  have hown : s.vm.findClass "java/lang/String" = some m.cls := hown
  refine Go.cast (g' := mkF m 0 #[.val (.ref x), .val (.int (own_I i)), .unset] []) (by first | (simp [entryFrame, mkF, argsToLocals, Value.category]; done) | rfl) ?_
  show Go p e below _ T0 (mkF m 0 _ [])
  refine Go.aloadN X0 hx hby k15_0 rfl rfl ?_
  refine Go.callVP (W := 0) (y := y_11) (z := y_11) (a := x) (argsL := []) (rest := []) (r := some (.int 0)) X0 hx hZ hown (own_t hw 72 rfl) (own_t hw 73 rfl) (notFace_of_selects (args := #[]) (mvT hZ (own_t hw 75 rfl))) (own_t hw 75 rfl) (own_t hw 74 rfl) (own_t hw 10 rfl) (own_t hw 76 rfl) (by decide) (own_rmIL1 l Z a0 hw x cz h0 FC SB hz) e0 EX (by rw [hml]; rfl) (lenOf own_dsc6 rfl) (hb hby k15_1) rfl (Nat.le_of_eq rfl) (by decide) (by decide) (by decide) (by decide) fun T1 X1 e1 => ?_
  show Go p e below _ T1 (mkF m 4 _ [(.int 0)])
  refine Go.ifYes 27 X1 hx hby k15_4 ((if0 _ _).trans (teq (by decide : (0 : Int32) = (0 : Int32))).1) (by decide) (by decide) ?_
  refine Go.aloadN X1 hx hby k15_27 rfl rfl ?_
  refine Go.getf X1 hx hZ hown (own_t hw 36 rfl) Via.refl e1 FV (hb hby k15_28) fun T2 X2 e2 => ?_
  refine Go.len X2 hx hZ e2 VT (hb hby k15_31) ?_
  refine Go.iconst 1 X2 hx hby k15_32 rfl ?_
  refine Go.ishr X2 hx hby k15_33 rfl ?_
  show Go p e below _ T2 (mkF m 34 _ [(.int ((own_I (2 * n)) >>> ((1 : Int32) &&& 31)))])
  rw [own_half (i := n) (by omega)]
  show Go p e below _ T2 (mkF m 34 _ [(.int (own_I n))])
  refine Go.istoreN X2 hx hby k15_34 (l' := #[.val (.ref x), .val (.int (own_I i)), .val (.int (own_I n))]) rfl ?_
  refine Go.iloadN X2 hx hby k15_35 rfl ?_
  refine Go.iloadN X2 hx hby k15_36 rfl ?_
  refine Go.callSP (W := 0) (y := y_13) (argsL := [(.int (own_I i)), (.int (own_I n))]) (rest := []) (r := none) X2 hx hZ hown (own_t hw 77 rfl) (own_t hw 78 rfl) (own_t hw 10 rfl) (own_t hw 79 rfl) (by decide) (own_rmCk l Z a0 hw (own_I i) (own_I n) G h0 SG hG (own_I_in hi (by omega)).1 (own_I_in hi (by omega)).2) e2 (by rw [hml]; rfl) (lenOf own_dsc7 rfl) (hb hby k15_37) rfl (Nat.le_of_eq rfl) (by decide) (by decide) (by decide) (by decide) fun T3 X3 e3 => ?_
  show Go p e below _ T3 (mkF m 40 _ [])
  refine Go.aloadN X3 hx hby k15_40 rfl rfl ?_
  refine Go.getf X3 hx hZ hown (own_t hw 36 rfl) Via.refl e3 FV (hb hby k15_41) fun T4 X4 e4 => ?_
  refine Go.iloadN X4 hx hby k15_44 rfl ?_
  refine Go.iloadN X4 hx hby k15_45 rfl ?_
  refine Go.callSP (W := 0) (y := y_9) (argsL := [(.ref t), (.int (own_I i)), (.int (own_I n))]) (rest := []) (r := some (.int (own_F c0 c1 c2 n i))) X4 hx hZ hown (own_t hw 108 rfl) (own_t hw 109 rfl) (own_t hw 25 rfl) (own_t hw 110 rfl) (by decide) (own_rmP3 l Z a0 hw t kt c0 c1 c2 n i h0 VT SA SH SL r0 r1 r2 hn hi) e4 (by rw [hml]; rfl) (lenOf own_dsc8 rfl) (hb hby k15_46) rfl (Nat.le_of_eq rfl) (by decide) (by decide) (by decide) (by decide) fun T5 X5 e5 => ?_
  show Go p e below _ T5 (mkF m 49 _ [(.int (own_F c0 c1 c2 n i))])
  exact Go.retI X5 hx hlk hret (hb hby k15_49) (by decide) (by decide) ⟨rfl, rfl, e5⟩
theorem own_rmLn (l : Launch) (Z : State) (a0 : Array Value) (hw : ∀ d ∈ tables_1, d.before a0 Z = true) (x : Addr) (c0 c1 c2 : Int32) (cz : Int32) (G : Value) (n : Nat) (h0 : Heap) (XS' : own_Str Z h0 x c0 c1 c2 n) (hn : n ≤ 3) (r0 : own_C c0) (r1 : own_C c1) (r2 : own_C c2) (SB : own_SB Z h0 cz) (hz : ¬ cz = (0 : Int32)) (SA : own_SA Z h0) (SH : own_SH Z h0) (SL : own_SL Z h0) (SG : own_SG Z h0 G) (hG : G.isRef = true) :
    MetAt l Z y_14 jdk_42_method_54_code 1 (some .int) ({ frames := 1, cells := 0, slots := 0, locals := 13 } : Room) #[(.ref x)] h0 (PQ h0 (some (.int (own_I n)))) := by
  obtain ⟨EX, t, kt, FV, q⟩ := XS'
  rcases q with ⟨FC, la, VT⟩ | ⟨h0n, FC, VT⟩
  · exact own_rmLn0 l Z a0 hw x t kt c0 c1 c2 cz G n h0 EX FC FV VT la hn r0 r1 r2 SB hz SA SH SL SG hG
  · exact own_rmLn1 l Z a0 hw x t kt c0 c1 c2 cz G n h0 EX FC FV VT hn r0 r1 r2 SB hz SA SH SL SG hG
theorem own_rmPt (l : Launch) (Z : State) (a0 : Array Value) (hw : ∀ d ∈ tables_1, d.before a0 Z = true) (x : Addr) (c0 c1 c2 : Int32) (cz : Int32) (G : Value) (n : Nat) (i : Nat) (h0 : Heap) (XS' : own_Str Z h0 x c0 c1 c2 n) (hn : n ≤ 3) (r0 : own_C c0) (r1 : own_C c1) (r2 : own_C c2) (SB : own_SB Z h0 cz) (hz : ¬ cz = (0 : Int32)) (SA : own_SA Z h0) (SH : own_SH Z h0) (SL : own_SL Z h0) (SG : own_SG Z h0 G) (hG : G.isRef = true) (hi : i < n) :
    MetAt l Z y_15 jdk_42_method_57_code 3 (some .int) ({ frames := 3, cells := 0, slots := 0, locals := 44 } : Room) #[(.ref x), (.int (own_I i))] h0 (PQ h0 (some (.int (own_F c0 c1 c2 n i)))) := by
  obtain ⟨EX, t, kt, FV, q⟩ := XS'
  rcases q with ⟨FC, la, VT⟩ | ⟨h0n, FC, VT⟩
  · exact own_rmPt0 l Z a0 hw x t kt c0 c1 c2 cz G n i h0 EX FC FV VT la hn r0 r1 r2 SB hz SA SH SL SG hG hi
  · exact own_rmPt1 l Z a0 hw x t kt c0 c1 c2 cz G n i h0 EX FC FV VT hn r0 r1 r2 SB hz SA SH SL SG hG hi
theorem k16_0 : decode jdk_52_method_4_code 0 = .ok (.getstatic 44, 3) := by decide +kernel
theorem k16_3 : decode jdk_52_method_4_code 3 = .ok (.ifCond .ne 25, 3) := by decide +kernel
theorem k16_28 : decode jdk_52_method_4_code 28 = .ok (.iload_n 1, 1) := by decide +kernel
theorem k16_29 : decode jdk_52_method_4_code 29 = .ok (.iconst 1, 1) := by decide +kernel
theorem k16_30 : decode jdk_52_method_4_code 30 = .ok (.ishl, 1) := by decide +kernel
theorem k16_31 : decode jdk_52_method_4_code 31 = .ok (.istore_n 1, 1) := by decide +kernel
theorem k16_32 : decode jdk_52_method_4_code 32 = .ok (.aload_n 0, 1) := by decide +kernel
theorem k16_33 : decode jdk_52_method_4_code 33 = .ok (.iload_n 1, 1) := by decide +kernel
theorem k16_34 : decode jdk_52_method_4_code 34 = .ok (.iinc 1 1, 3) := by decide +kernel
theorem k16_37 : decode jdk_52_method_4_code 37 = .ok (.iload_n 2, 1) := by decide +kernel
theorem k16_38 : decode jdk_52_method_4_code 38 = .ok (.getstatic 59, 3) := by decide +kernel
theorem k16_41 : decode jdk_52_method_4_code 41 = .ok (.ishr, 1) := by decide +kernel
theorem k16_42 : decode jdk_52_method_4_code 42 = .ok (.i2b, 1) := by decide +kernel
theorem k16_43 : decode jdk_52_method_4_code 43 = .ok (.bastore, 1) := by decide +kernel
theorem k16_44 : decode jdk_52_method_4_code 44 = .ok (.aload_n 0, 1) := by decide +kernel
theorem k16_45 : decode jdk_52_method_4_code 45 = .ok (.iload_n 1, 1) := by decide +kernel
theorem k16_46 : decode jdk_52_method_4_code 46 = .ok (.iload_n 2, 1) := by decide +kernel
theorem k16_47 : decode jdk_52_method_4_code 47 = .ok (.getstatic 63, 3) := by decide +kernel
theorem k16_50 : decode jdk_52_method_4_code 50 = .ok (.ishr, 1) := by decide +kernel
theorem k16_51 : decode jdk_52_method_4_code 51 = .ok (.i2b, 1) := by decide +kernel
theorem k16_52 : decode jdk_52_method_4_code 52 = .ok (.bastore, 1) := by decide +kernel
theorem k16_53 : decode jdk_52_method_4_code 53 = .ok (.return_, 1) := by decide +kernel
abbrev own_rmPC10_Q (Z : State) (t : Addr) (kt : ClassId) (cc b0 b1 : Int32) (n0 : Nat) (h0 : Heap) : Option Value → Heap → List Loc → Prop := fun v h L => v = none ∧ Fr n0 L ∧ Keep h0 h [t] ∧ Arv Z h t kt .byte 2 [(.int (lo8 cc)), (.int (hi8 cc))] (.int 0)
theorem own_rmPC10 (l : Launch) (Z : State) (a0 : Array Value) (hw : ∀ d ∈ tables_1, d.before a0 Z = true) (t : Addr) (kt : ClassId) (cc b0 b1 : Int32) (n0 : Nat) (h0 : Heap) (Z0 : n0 ≤ h0.size) (gt : n0 ≤ t) (VT : Arv Z h0 t kt .byte 2 [(.int b0), (.int b1)] (.int 0)) (SA : own_SA Z h0) (SH : own_SH Z h0) (SL : own_SL Z h0) :
    MetAt l Z y_16 jdk_52_method_4_code 3 none ({ frames := 0, cells := 0, slots := 0, locals := 0 } : Room) #[(.ref t), (.int 0), (.int cc)] h0 ((own_rmPC10_Q Z t kt cc b0 b1 n0 h0)) := by
  refine goBodyM (plainFor_of_name (by first | (simp [plainName, overriddenIn]; done) | decide +kernel)) ?_
  intro p e s m below meth c T0 hx hZ hby hml hown hnm hret hlk X0 e0
  have hown : s.vm.findClass "java/lang/StringUTF16" = some m.cls := hown
  refine Go.cast (g' := mkF m 0 #[.val (.ref t), .val (.int 0), .val (.int cc)] []) (by first | (simp [entryFrame, mkF, argsToLocals, Value.category]; done) | rfl) ?_
  show Go p e below _ T0 (mkF m 0 _ [])
  refine Go.gets X0 hx hZ hown (own_t hw 101 rfl) Via.refl e0 SA (hb hby k16_0) fun T1 X1 e1 => ?_
  refine Go.ifYes 28 X1 hx hby k16_3 ((if0 _ _).trans (feq (by decide : ¬ ((1 : Int32) = (0 : Int32)))).2) (by decide) (by decide) ?_
  refine Go.iloadN X1 hx hby k16_28 rfl ?_
  refine Go.iconst 1 X1 hx hby k16_29 rfl ?_
  refine Go.ishl (v := 0) X1 hx hby k16_30 rfl ?_
  refine Go.istoreN X1 hx hby k16_31 (l' := #[.val (.ref t), .val (.int 0), .val (.int cc)]) rfl ?_
  refine Go.aloadN X1 hx hby k16_32 rfl rfl ?_
  refine Go.iloadN X1 hx hby k16_33 rfl ?_
  refine Go.iinc X1 hx hby k16_34 rfl (l' := #[.val (.ref t), .val (.int 1), .val (.int cc)]) rfl ?_
  refine Go.iloadN X1 hx hby k16_37 rfl ?_
  refine Go.gets X1 hx hZ hown (own_t hw 102 rfl) Via.refl e1 SH (hb hby k16_38) fun T2 X2 e2 => ?_
  refine Go.ishr X2 hx hby k16_41 rfl ?_
  refine Go.i2b X2 hx hby k16_42 rfl ?_
  refine Go.bastore X2 hx hZ e2 VT ⟨by decide, by decide⟩ 0 rfl (Nat.le_of_ble_eq_true rfl) (hb hby k16_43) fun T3 h3 X3 e3 W3 V3 => ?_
  have sz3 := Nat.le_trans Z0 (Keep.of_wr W3).1
  have kp3 := (Keep.refl h0 [t]).wr W3 own_i0
  have N3 := Fr.snoc X3 (Fr.nil n0) gt
  have V3 : Arv Z h3 t kt .byte (2 : Int32) [(.int (nar .byte ((cc >>> ((0 : Int32) &&& 31)).toInt8.toInt32))), (.int b1)] (.int 0) := V3
  show Go p e below _ T3 (mkF m 44 _ [])
  refine Go.aloadN X3 hx hby k16_44 rfl rfl ?_
  refine Go.iloadN X3 hx hby k16_45 rfl ?_
  refine Go.iloadN X3 hx hby k16_46 rfl ?_
  refine Go.gets X3 hx hZ hown (own_t hw 103 rfl) Via.refl e3 (SL.wr W3) (hb hby k16_47) fun T4 X4 e4 => ?_
  refine Go.ishr X4 hx hby k16_50 rfl ?_
  refine Go.i2b X4 hx hby k16_51 rfl ?_
  refine Go.bastore X4 hx hZ e4 V3 ⟨by decide, by decide⟩ 1 rfl (Nat.le_of_ble_eq_true rfl) (hb hby k16_52) fun T5 h5 X5 e5 W5 V5 => ?_
  have sz5 := Nat.le_trans sz3 (Keep.of_wr W5).1
  have kp5 := kp3.wr W5 own_i0
  have N5 := Fr.snoc X5 N3 gt
  have V5 : Arv Z h5 t kt .byte (2 : Int32) [(.int (nar .byte ((cc >>> ((0 : Int32) &&& 31)).toInt8.toInt32))), (.int (nar .byte ((cc >>> ((8 : Int32) &&& 31)).toInt8.toInt32)))] (.int 0) := V5
  exact Go.retV X5 hx hlk hret (hb hby k16_53) (by decide) (by decide) (by rw [e5]; exact ⟨rfl, N5, kp5, by have q := V5; rw [own_w0, own_w1] at q; exact q⟩)
theorem k17_0 : decode jdk_52_method_3_code 0 = .ok (.iload_n 0, 1) := by decide +kernel
theorem k17_1 : decode jdk_52_method_3_code 1 = .ok (.ifCond .ge 11, 3) := by decide +kernel
theorem k17_12 : decode jdk_52_method_3_code 12 = .ok (.iload_n 0, 1) := by decide +kernel
theorem k17_13 : decode jdk_52_method_3_code 13 = .ok (.ldc 20, 2) := by decide +kernel
theorem k17_15 : decode jdk_52_method_3_code 15 = .ok (.if_icmp .lt 40, 3) := by decide +kernel
theorem k17_55 : decode jdk_52_method_3_code 55 = .ok (.iload_n 0, 1) := by decide +kernel
theorem k17_56 : decode jdk_52_method_3_code 56 = .ok (.iconst 1, 1) := by decide +kernel
theorem k17_57 : decode jdk_52_method_3_code 57 = .ok (.ishl, 1) := by decide +kernel
theorem k17_58 : decode jdk_52_method_3_code 58 = .ok (.ireturn, 1) := by decide +kernel
theorem own_rmNL1 (l : Launch) (Z : State) (a0 : Array Value) (hw : ∀ d ∈ tables_1, d.before a0 Z = true)  (h0 : Heap)  :
    MetAt l Z y_17 jdk_52_method_3_code 1 (some .int) ({ frames := 0, cells := 0, slots := 0, locals := 0 } : Room) #[(.int 1)] h0 (PQ h0 (some (.int 2))) := by
  refine goBodyM (plainFor_of_name (by first | (simp [plainName, overriddenIn]; done) | decide +kernel)) ?_
  intro p e s m below meth c T0 hx hZ hby hml hown hnm hret hlk X0 e0
  have hown : s.vm.findClass "java/lang/StringUTF16" = some m.cls := hown
  refine Go.cast (g' := mkF m 0 #[.val (.int 1)] []) (by first | (simp [entryFrame, mkF, argsToLocals, Value.category]; done) | rfl) ?_
  show Go p e below _ T0 (mkF m 0 _ [])
  refine Go.iloadN X0 hx hby k17_0 rfl ?_
  refine Go.ifYes 12 X0 hx hby k17_1 ((if0 _ _).trans (flt (by decide : ¬ ((1 : Int32) < (0 : Int32)))).2.1) (by decide) (by decide) ?_
  refine Go.iloadN X0 hx hby k17_12 rfl ?_
  refine Go.of (X0.ldcInt hx hown (mvT hZ (own_t hw 97 rfl)) (g := (mkF m 13 #[.val (.int 1)] [(.int 1)])) rfl (hb hby k17_13)) ?_
  show Go p e below _ T0 (mkF m 15 _ [(.int 1073741823), (.int 1)])
  refine Go.icmpYes 55 X0 hx hby k17_15 (tlt (by decide : (1 : Int32) < (1073741823 : Int32))).1 (by decide) (by decide) ?_
  refine Go.iloadN X0 hx hby k17_55 rfl ?_
  refine Go.iconst 1 X0 hx hby k17_56 rfl ?_
  refine Go.ishl (v := 2) X0 hx hby k17_57 rfl ?_
  exact Go.retI X0 hx hlk hret (hb hby k17_58) (by decide) (by decide) ⟨rfl, rfl, e0⟩
theorem k18_0 : decode jdk_52_method_2_code 0 = .ok (.iload_n 0, 1) := by decide +kernel
theorem k18_1 : decode jdk_52_method_2_code 1 = .ok (.invokestatic 11, 3) := by decide +kernel
theorem k18_4 : decode jdk_52_method_2_code 4 = .ok (.newarray .byte, 2) := by decide +kernel
theorem k18_6 : decode jdk_52_method_2_code 6 = .ok (.areturn, 1) := by decide +kernel
abbrev own_rmNF1_Q (Z : State) (zz : Nat) (h0 : Heap) : Option Value → Heap → List Loc → Prop := fun v h L => ∃ b k, v = some (.ref b) ∧ L = [] ∧ Ext h0 h ∧ b = h0.size ∧ Arv Z h b k .byte 2 [(.int 0), (.int 0)] (.int 0)
theorem own_rmNF1 (l : Launch) (Z : State) (a0 : Array Value) (hw : ∀ d ∈ tables_1, d.before a0 Z = true) (zz : Nat) (h0 : Heap)  :
    MetAt l Z y_18 jdk_52_method_2_code 1 (some (.array .byte)) ({ frames := 1, cells := 1, slots := 2, locals := 12 } : Room) #[(.int 1)] h0 ((own_rmNF1_Q Z zz h0)) := by
  refine goBodyM (plainFor_of_name (by first | (simp [plainName, overriddenIn]; done) | decide +kernel)) ?_
  intro p e s m below meth c T0 hx hZ hby hml hown hnm hret hlk X0 e0
  have hown : s.vm.findClass "java/lang/StringUTF16" = some m.cls := hown
  refine Go.cast (g' := mkF m 0 #[.val (.int 1)] []) (by first | (simp [entryFrame, mkF, argsToLocals, Value.category]; done) | rfl) ?_
  show Go p e below _ T0 (mkF m 0 _ [])
  refine Go.iloadN X0 hx hby k18_0 rfl ?_
  refine Go.callSP (W := 0) (y := y_17) (argsL := [(.int 1)]) (rest := []) (r := some (.int 2)) X0 hx hZ hown (own_t hw 94 rfl) (own_t hw 95 rfl) (own_t hw 25 rfl) (own_t hw 96 rfl) (by decide) (own_rmNL1 l Z a0 hw h0) e0 (by rw [hml]; rfl) (lenOf own_dsc9 rfl) (hb hby k18_1) rfl (Nat.le_of_eq rfl) (by decide) (by decide) (by decide) (by decide) fun T1 X1 e1 => ?_
  show Go p e below _ T1 (mkF m 4 _ [(.int 2)])
  refine Go.newarr X1 hx hZ (own_t hw 27 rfl) e1 2 (by decide) (by decide) (by decide) (by decide) (by decide) (hb hby k18_4) fun T2 h2 b2 k2 g2 X2 e2 E2 V2 => ?_
  have ge_b2 : h0.size ≤ b2 := g2 ▸ (Nat.le_refl _)
  have sz2 := Nat.le_trans (Nat.le_refl _) E2.1
  have V2 : Arv Z h2 b2 k2 .byte (2 : Int32) [(.int 0), (.int 0)] (.int 0) := V2
  exact Go.retA X2 hx hlk hret rfl rfl rfl (hb hby k18_6) (by decide) (by decide) (by rw [e2]; exact ⟨b2, k2, rfl, rfl, E2, g2, V2⟩)
theorem k19_0 : decode jdk_52_method_14_code 0 = .ok (.iload_n 2, 1) := by decide +kernel
theorem k19_1 : decode jdk_52_method_14_code 1 = .ok (.invokestatic 107, 3) := by decide +kernel
theorem k19_4 : decode jdk_52_method_14_code 4 = .ok (.astore_n 3, 1) := by decide +kernel
theorem k19_5 : decode jdk_52_method_14_code 5 = .ok (.iconst 0, 1) := by decide +kernel
theorem k19_6 : decode jdk_52_method_14_code 6 = .ok (.istore 4, 2) := by decide +kernel
theorem k19_8 : decode jdk_52_method_14_code 8 = .ok (.iload 4, 2) := by decide +kernel
theorem k19_10 : decode jdk_52_method_14_code 10 = .ok (.iload_n 2, 1) := by decide +kernel
theorem k19_11 : decode jdk_52_method_14_code 11 = .ok (.if_icmp .ge 21, 3) := by decide +kernel
theorem k19_14 : decode jdk_52_method_14_code 14 = .ok (.aload_n 3, 1) := by decide +kernel
theorem k19_15 : decode jdk_52_method_14_code 15 = .ok (.iload 4, 2) := by decide +kernel
theorem k19_17 : decode jdk_52_method_14_code 17 = .ok (.aload_n 0, 1) := by decide +kernel
theorem k19_18 : decode jdk_52_method_14_code 18 = .ok (.iload_n 1, 1) := by decide +kernel
theorem k19_19 : decode jdk_52_method_14_code 19 = .ok (.caload, 1) := by decide +kernel
theorem k19_20 : decode jdk_52_method_14_code 20 = .ok (.invokestatic 111, 3) := by decide +kernel
theorem k19_23 : decode jdk_52_method_14_code 23 = .ok (.iinc 1 1, 3) := by decide +kernel
theorem k19_26 : decode jdk_52_method_14_code 26 = .ok (.iinc 4 1, 3) := by decide +kernel
theorem k19_29 : decode jdk_52_method_14_code 29 = .ok (.goto (-21), 3) := by decide +kernel
theorem k19_32 : decode jdk_52_method_14_code 32 = .ok (.aload_n 3, 1) := by decide +kernel
theorem k19_33 : decode jdk_52_method_14_code 33 = .ok (.areturn, 1) := by decide +kernel
abbrev own_rmTB1_Q (Z : State) (a : Addr) (ka : ClassId) (c0 c1 c2 : Int32) (cz : Int32) (G : Value) (n0 : Nat) (h0 : Heap) : Option Value → Heap → List Loc → Prop := fun v h L => ∃ b k, v = some (.ref b) ∧ Fr n0 L ∧ Keep h0 h [] ∧ h0.size ≤ b ∧ Arv Z h b k .byte 2 [(.int (lo8 c0)), (.int (hi8 c0))] (.int 0)
theorem own_rmTB1 (l : Launch) (Z : State) (a0 : Array Value) (hw : ∀ d ∈ tables_1, d.before a0 Z = true) (a : Addr) (ka : ClassId) (c0 c1 c2 : Int32) (cz : Int32) (G : Value) (n0 : Nat) (h0 : Heap) (Z0 : n0 ≤ h0.size) (OZ : Old Z n0 h0) (SB : own_SB Z Z.heap cz) (hz : ¬ cz = (0 : Int32)) (SA : own_SA Z Z.heap) (SH : own_SH Z Z.heap) (SL : own_SL Z Z.heap) (SG : own_SG Z Z.heap G) (hG : G.isRef = true) (VA : Arv Z h0 a ka .char 1 [(.int c0)] (.int 0)) :
    MetAt l Z y_19 jdk_52_method_14_code 5 (some (.array .byte)) ({ frames := 2, cells := 1, slots := 2, locals := 24 } : Room) #[(.ref a), (.int 0), (.int 1)] h0 ((own_rmTB1_Q Z a ka c0 c1 c2 cz G n0 h0)) := by
  refine goBodyM (plainFor_of_name (by first | (simp [plainName, overriddenIn]; done) | decide +kernel)) ?_
  intro p e s m below meth c T0 hx hZ hby hml hown hnm hret hlk X0 e0
  have hown : s.vm.findClass "java/lang/StringUTF16" = some m.cls := hown
  refine Go.cast (g' := mkF m 0 #[.val (.ref a), .val (.int 0), .val (.int 1), .unset, .unset] []) (by first | (simp [entryFrame, mkF, argsToLocals, Value.category]; done) | rfl) ?_
  show Go p e below _ T0 (mkF m 0 _ [])
  refine Go.iloadN X0 hx hby k19_0 rfl ?_
  refine Go.callS (W := 0) (y := y_18) (argsL := [(.int 1)]) (rest := []) X0 hx hZ hown (own_t hw 91 rfl) (own_t hw 92 rfl) (own_t hw 25 rfl) (own_t hw 93 rfl) (by decide) (own_rmNF1 l Z a0 hw 0 h0) e0 (by rw [hml]; rfl) (lenOf own_dsc10 rfl) (hb hby k19_1) rfl (Nat.le_of_eq rfl) (by decide) (by decide) (by decide) (by decide) fun _ T1 L1 X1 q1 => ?_
  obtain ⟨b1, k1, rfl, rfl, E1, g1, V1⟩ := q1
  rw [List.append_nil] at X1
  have lt_a_b1 : a < b1 := Nat.lt_of_lt_of_le VA.lt (Nat.le_of_eq g1.symm)
  have ge_b1 : n0 ≤ b1 := g1 ▸ Z0
  have hs_b1 : h0.size ≤ b1 := g1 ▸ (Keep.refl h0 []).1
  have sz1 := Nat.le_trans Z0 E1.1
  have kp1 := (Keep.refl h0 []).ext E1
  show Go p e below _ T1 (mkF m 4 _ [(.ref b1)])
  refine Go.astoreN X1 hx hby k19_4 rfl (l' := #[.val (.ref a), .val (.int 0), .val (.int 1), .val (.ref b1), .unset]) rfl ?_
  refine Go.iconst 0 X1 hx hby k19_5 rfl ?_
  refine Go.istore X1 hx hby k19_6 (l' := #[.val (.ref a), .val (.int 0), .val (.int 1), .val (.ref b1), .val (.int 0)]) rfl ?_
  refine Go.iload X1 hx hby k19_8 rfl ?_
  refine Go.iloadN X1 hx hby k19_10 rfl ?_
  refine Go.icmpNo X1 hx hby k19_11 (tlt (by decide : (0 : Int32) < (1 : Int32))).2.1 ?_
  refine Go.aloadN X1 hx hby k19_14 rfl rfl ?_
  refine Go.iload X1 hx hby k19_15 rfl ?_
  refine Go.aloadN X1 hx hby k19_17 rfl rfl ?_
  refine Go.iloadN X1 hx hby k19_18 rfl ?_
  refine Go.caload X1 hx hZ rfl (VA.ext E1) ⟨by decide, by decide⟩ (v := (.int c0)) rfl (hb hby k19_19) ?_
  refine Go.callS (W := 0) (y := y_16) (argsL := [(.ref b1), (.int 0), (.int c0)]) (rest := []) X1 hx hZ hown (own_t hw 98 rfl) (own_t hw 99 rfl) (own_t hw 25 rfl) (own_t hw 100 rfl) (by decide) (own_rmPC10 l Z a0 hw b1 k1 c0 (0 : Int32) (0 : Int32) n0 T1.heap sz1 ge_b1 V1 (SA.ext (OZ.ext E1).2) (SH.ext (OZ.ext E1).2) (SL.ext (OZ.ext E1).2)) rfl (by rw [hml]; rfl) (lenOf own_dsc11 rfl) (hb hby k19_20) rfl (Nat.le_of_eq rfl) (by decide) (by decide) (by decide) (by decide) fun _ T2 L2 X2 q2 => ?_
  obtain ⟨rfl, N2q, K2, V2⟩ := q2
  have N2 := Fr.app (Fr.nil n0) N2q
  have sz2 := Nat.le_trans sz1 K2.1
  have kp2 := kp1.trans K2 (allS (Or.inr hs_b1) all0)
  show Go p e below _ T2 (mkF m 23 _ [])
  refine Go.iinc X2 hx hby k19_23 rfl (l' := #[.val (.ref a), .val (.int 1), .val (.int 1), .val (.ref b1), .val (.int 0)]) rfl ?_
  refine Go.iinc X2 hx hby k19_26 rfl (l' := #[.val (.ref a), .val (.int 1), .val (.int 1), .val (.ref b1), .val (.int 1)]) rfl ?_
  refine Go.goto 8 X2 hx hby k19_29 (by decide) (by decide) ?_
  refine Go.iload X2 hx hby k19_8 rfl ?_
  refine Go.iloadN X2 hx hby k19_10 rfl ?_
  refine Go.icmpYes 32 X2 hx hby k19_11 (flt (by decide : ¬ ((1 : Int32) < (1 : Int32)))).2.1 (by decide) (by decide) ?_
  refine Go.aloadN X2 hx hby k19_32 rfl rfl ?_
  exact Go.retA X2 hx hlk hret rfl rfl rfl (hb hby k19_33) (by decide) (by decide) (by exact ⟨b1, k1, rfl, N2, kp2, hs_b1, V2⟩)
theorem k20_0 : decode jdk_52_method_15_code 0 = .ok (.iload_n 1, 1) := by decide +kernel
theorem k20_1 : decode jdk_52_method_15_code 1 = .ok (.aload_n 0, 1) := by decide +kernel
theorem k20_2 : decode jdk_52_method_15_code 2 = .ok (.arraylength, 1) := by decide +kernel
theorem k20_3 : decode jdk_52_method_15_code 3 = .ok (.isub, 1) := by decide +kernel
theorem k20_4 : decode jdk_52_method_15_code 4 = .ok (.bipush 31, 2) := by decide +kernel
theorem k20_6 : decode jdk_52_method_15_code 6 = .ok (.iushr, 1) := by decide +kernel
theorem k20_7 : decode jdk_52_method_15_code 7 = .ok (.i2b, 1) := by decide +kernel
theorem k20_8 : decode jdk_52_method_15_code 8 = .ok (.ireturn, 1) := by decide +kernel
theorem own_rmCd01 (l : Launch) (Z : State) (a0 : Array Value) (hw : ∀ d ∈ tables_1, d.before a0 Z = true) (t : Addr) (kt : ClassId) (c0 c1 c2 : Int32) (h0 : Heap) (VT : Arv Z h0 t kt .byte 1 [(.int (lo8 c0))] (.int 0)) :
    MetAt l Z y_20 jdk_52_method_15_code 2 (some .byte) ({ frames := 0, cells := 0, slots := 0, locals := 0 } : Room) #[(.ref t), (.int 1)] h0 (PQ h0 (some (.int 0))) := by
  refine goBodyM (plainFor_of_name (by first | (simp [plainName, overriddenIn]; done) | decide +kernel)) ?_
  intro p e s m below meth c T0 hx hZ hby hml hown hnm hret hlk X0 e0
  have hown : s.vm.findClass "java/lang/StringUTF16" = some m.cls := hown
  refine Go.cast (g' := mkF m 0 #[.val (.ref t), .val (.int 1)] []) (by first | (simp [entryFrame, mkF, argsToLocals, Value.category]; done) | rfl) ?_
  show Go p e below _ T0 (mkF m 0 _ [])
  refine Go.iloadN X0 hx hby k20_0 rfl ?_
  refine Go.aloadN X0 hx hby k20_1 rfl rfl ?_
  refine Go.len X0 hx hZ e0 VT (hb hby k20_2) ?_
  refine Go.isub (v := 0) X0 hx hby k20_3 rfl ?_
  refine Go.bipush 31 X0 hx hby k20_4 rfl ?_
  refine Go.iushr (v := 0) X0 hx hby k20_6 rfl ?_
  refine Go.i2b (v := 0) X0 hx hby k20_7 rfl ?_
  exact Go.retN X0 hx hlk (t := .byte) hret (by simp) (hb hby k20_8) (by decide) (by decide) ⟨rfl, rfl, e0⟩
theorem own_rmCd11 (l : Launch) (Z : State) (a0 : Array Value) (hw : ∀ d ∈ tables_1, d.before a0 Z = true) (t : Addr) (kt : ClassId) (c0 c1 c2 : Int32) (h0 : Heap) (VT : Arv Z h0 t kt .byte 2 [(.int (lo8 c0)), (.int (hi8 c0))] (.int 0)) :
    MetAt l Z y_20 jdk_52_method_15_code 2 (some .byte) ({ frames := 0, cells := 0, slots := 0, locals := 0 } : Room) #[(.ref t), (.int 1)] h0 (PQ h0 (some (.int 1))) := by
  refine goBodyM (plainFor_of_name (by first | (simp [plainName, overriddenIn]; done) | decide +kernel)) ?_
  intro p e s m below meth c T0 hx hZ hby hml hown hnm hret hlk X0 e0
  have hown : s.vm.findClass "java/lang/StringUTF16" = some m.cls := hown
  refine Go.cast (g' := mkF m 0 #[.val (.ref t), .val (.int 1)] []) (by first | (simp [entryFrame, mkF, argsToLocals, Value.category]; done) | rfl) ?_
  show Go p e below _ T0 (mkF m 0 _ [])
  refine Go.iloadN X0 hx hby k20_0 rfl ?_
  refine Go.aloadN X0 hx hby k20_1 rfl rfl ?_
  refine Go.len X0 hx hZ e0 VT (hb hby k20_2) ?_
  refine Go.isub (v := (-1)) X0 hx hby k20_3 rfl ?_
  refine Go.bipush 31 X0 hx hby k20_4 rfl ?_
  refine Go.iushr (v := 1) X0 hx hby k20_6 rfl ?_
  refine Go.i2b (v := 1) X0 hx hby k20_7 rfl ?_
  exact Go.retN X0 hx hlk (t := .byte) hret (by simp) (hb hby k20_8) (by decide) (by decide) ⟨rfl, rfl, e0⟩
theorem k21_0 : decode jdk_52_method_21_code 0 = .ok (.iconst 0, 1) := by decide +kernel
theorem k21_1 : decode jdk_52_method_21_code 1 = .ok (.istore 5, 2) := by decide +kernel
theorem k21_3 : decode jdk_52_method_21_code 3 = .ok (.iload 5, 2) := by decide +kernel
theorem k21_5 : decode jdk_52_method_21_code 5 = .ok (.iload 4, 2) := by decide +kernel
theorem k21_7 : decode jdk_52_method_21_code 7 = .ok (.if_icmp .ge 37, 3) := by decide +kernel
theorem k21_10 : decode jdk_52_method_21_code 10 = .ok (.aload_n 0, 1) := by decide +kernel
theorem k21_11 : decode jdk_52_method_21_code 11 = .ok (.iload_n 1, 1) := by decide +kernel
theorem k21_12 : decode jdk_52_method_21_code 12 = .ok (.caload, 1) := by decide +kernel
theorem k21_13 : decode jdk_52_method_21_code 13 = .ok (.istore 6, 2) := by decide +kernel
theorem k21_15 : decode jdk_52_method_21_code 15 = .ok (.iload 6, 2) := by decide +kernel
theorem k21_17 : decode jdk_52_method_21_code 17 = .ok (.sipush 255, 3) := by decide +kernel
theorem k21_20 : decode jdk_52_method_21_code 20 = .ok (.if_icmp .le 6, 3) := by decide +kernel
theorem k21_23 : decode jdk_52_method_21_code 23 = .ok (.iload 5, 2) := by decide +kernel
theorem k21_25 : decode jdk_52_method_21_code 25 = .ok (.ireturn, 1) := by decide +kernel
abbrev own_rmC510_Q (Z : State) (a : Addr) (ka : ClassId) (d : Addr) (kd : ClassId) (c0 c1 c2 : Int32) (n0 : Nat) (h0 : Heap) : Option Value → Heap → List Loc → Prop := fun v h L => v = some (.int 0) ∧ Fr n0 L ∧ Keep h0 h [d]
theorem own_rmC510 (l : Launch) (Z : State) (a0 : Array Value) (hw : ∀ d ∈ tables_1, d.before a0 Z = true) (a : Addr) (ka : ClassId) (d : Addr) (kd : ClassId) (c0 c1 c2 : Int32) (n0 : Nat) (h0 : Heap) (Z0 : n0 ≤ h0.size) (gd : n0 ≤ d) (hne : a ≠ d) (VA : Arv Z h0 a ka .char 1 [(.int c0)] (.int 0)) (VD : Arv Z h0 d kd .byte 1 [(.int 0)] (.int 0))  (gr : (255 : Int32) < c0) :
    MetAt l Z y_21 jdk_52_method_21_code 7 (some .int) ({ frames := 0, cells := 0, slots := 0, locals := 0 } : Room) #[(.ref a), (.int 0), (.ref d), (.int 0), (.int 1)] h0 ((own_rmC510_Q Z a ka d kd c0 c1 c2 n0 h0)) := by
  refine goBodyM (plainFor_of_name (by first | (simp [plainName, overriddenIn]; done) | decide +kernel)) ?_
  intro p e s m below meth c T0 hx hZ hby hml hown hnm hret hlk X0 e0
  have hown : s.vm.findClass "java/lang/StringUTF16" = some m.cls := hown
  refine Go.cast (g' := mkF m 0 #[.val (.ref a), .val (.int 0), .val (.ref d), .val (.int 0), .val (.int 1), .unset, .unset] []) (by first | (simp [entryFrame, mkF, argsToLocals, Value.category]; done) | rfl) ?_
  show Go p e below _ T0 (mkF m 0 _ [])
  refine Go.iconst 0 X0 hx hby k21_0 rfl ?_
  refine Go.istore X0 hx hby k21_1 (l' := #[.val (.ref a), .val (.int 0), .val (.ref d), .val (.int 0), .val (.int 1), .val (.int 0), .unset]) rfl ?_
  refine Go.iload X0 hx hby k21_3 rfl ?_
  refine Go.iload X0 hx hby k21_5 rfl ?_
  refine Go.icmpNo X0 hx hby k21_7 (tlt (by decide : (0 : Int32) < (1 : Int32))).2.1 ?_
  refine Go.aloadN X0 hx hby k21_10 rfl rfl ?_
  refine Go.iloadN X0 hx hby k21_11 rfl ?_
  refine Go.caload X0 hx hZ e0 VA ⟨by decide, by decide⟩ (v := (.int c0)) rfl (hb hby k21_12) ?_
  refine Go.istore X0 hx hby k21_13 (l' := #[.val (.ref a), .val (.int 0), .val (.ref d), .val (.int 0), .val (.int 1), .val (.int 0), .val (.int c0)]) rfl ?_
  refine Go.iload X0 hx hby k21_15 rfl ?_
  refine Go.sipush 255 X0 hx hby k21_17 rfl ?_
  refine Go.icmpNo X0 hx hby k21_20 (tlt gr).2.2.2 ?_
  refine Go.iload X0 hx hby k21_23 rfl ?_
  exact Go.retI X0 hx hlk hret (hb hby k21_25) (by decide) (by decide) (by rw [e0]; exact ⟨rfl, (Fr.nil n0), (Keep.refl h0 [d])⟩)
theorem k22_0 : decode jdk_52_method_16_code 0 = .ok (.iload_n 2, 1) := by decide +kernel
theorem k22_1 : decode jdk_52_method_16_code 1 = .ok (.newarray .byte, 2) := by decide +kernel
theorem k22_3 : decode jdk_52_method_16_code 3 = .ok (.astore_n 3, 1) := by decide +kernel
theorem k22_4 : decode jdk_52_method_16_code 4 = .ok (.aload_n 0, 1) := by decide +kernel
theorem k22_5 : decode jdk_52_method_16_code 5 = .ok (.iload_n 1, 1) := by decide +kernel
theorem k22_6 : decode jdk_52_method_16_code 6 = .ok (.aload_n 3, 1) := by decide +kernel
theorem k22_7 : decode jdk_52_method_16_code 7 = .ok (.iconst 0, 1) := by decide +kernel
theorem k22_8 : decode jdk_52_method_16_code 8 = .ok (.iload_n 2, 1) := by decide +kernel
theorem k22_9 : decode jdk_52_method_16_code 9 = .ok (.invokestatic 115, 3) := by decide +kernel
theorem k22_12 : decode jdk_52_method_16_code 12 = .ok (.istore 4, 2) := by decide +kernel
theorem k22_14 : decode jdk_52_method_16_code 14 = .ok (.iload 4, 2) := by decide +kernel
theorem k22_16 : decode jdk_52_method_16_code 16 = .ok (.iload_n 2, 1) := by decide +kernel
theorem k22_17 : decode jdk_52_method_16_code 17 = .ok (.if_icmp .eq 40, 3) := by decide +kernel
theorem k22_20 : decode jdk_52_method_16_code 20 = .ok (.aload_n 0, 1) := by decide +kernel
theorem k22_21 : decode jdk_52_method_16_code 21 = .ok (.iload_n 1, 1) := by decide +kernel
theorem k22_22 : decode jdk_52_method_16_code 22 = .ok (.iload_n 2, 1) := by decide +kernel
theorem k22_23 : decode jdk_52_method_16_code 23 = .ok (.invokestatic 119, 3) := by decide +kernel
theorem k22_26 : decode jdk_52_method_16_code 26 = .ok (.astore 5, 2) := by decide +kernel
theorem k22_28 : decode jdk_52_method_16_code 28 = .ok (.aload 5, 2) := by decide +kernel
theorem k22_30 : decode jdk_52_method_16_code 30 = .ok (.iload 4, 2) := by decide +kernel
theorem k22_32 : decode jdk_52_method_16_code 32 = .ok (.invokestatic 71, 3) := by decide +kernel
theorem k22_35 : decode jdk_52_method_16_code 35 = .ok (.sipush 255, 3) := by decide +kernel
theorem k22_38 : decode jdk_52_method_16_code 38 = .ok (.if_icmp .gt 16, 3) := by decide +kernel
theorem k22_54 : decode jdk_52_method_16_code 54 = .ok (.aload 5, 2) := by decide +kernel
theorem k22_56 : decode jdk_52_method_16_code 56 = .ok (.areturn, 1) := by decide +kernel
abbrev own_rmC310_Q (Z : State) (a : Addr) (ka : ClassId) (c0 c1 c2 : Int32) (cz : Int32) (G : Value) (n0 : Nat) (h0 : Heap) : Option Value → Heap → List Loc → Prop := fun v h L => ∃ b k, v = some (.ref b) ∧ Fr n0 L ∧ Keep h0 h [] ∧ h0.size ≤ b ∧ Arv Z h b k .byte 2 [(.int (lo8 c0)), (.int (hi8 c0))] (.int 0)
theorem own_rmC310 (l : Launch) (Z : State) (a0 : Array Value) (hw : ∀ d ∈ tables_1, d.before a0 Z = true) (a : Addr) (ka : ClassId) (c0 c1 c2 : Int32) (cz : Int32) (G : Value) (n0 : Nat) (h0 : Heap) (Z0 : n0 ≤ h0.size) (OZ : Old Z n0 h0) (SB : own_SB Z Z.heap cz) (hz : ¬ cz = (0 : Int32)) (SA : own_SA Z Z.heap) (SH : own_SH Z Z.heap) (SL : own_SL Z Z.heap) (SG : own_SG Z Z.heap G) (hG : G.isRef = true) (VA : Arv Z h0 a ka .char 1 [(.int c0)] (.int 0)) (r0 : own_C c0) (r1 : own_C c1) (r2 : own_C c2)  (gr : (255 : Int32) < c0) :
    MetAt l Z y_22 jdk_52_method_16_code 6 (some (.array .byte)) ({ frames := 3, cells := 2, slots := 3, locals := 40 } : Room) #[(.ref a), (.int 0), (.int 1)] h0 ((own_rmC310_Q Z a ka c0 c1 c2 cz G n0 h0)) := by
  refine goBodyM (plainFor_of_name (by first | (simp [plainName, overriddenIn]; done) | decide +kernel)) ?_
  intro p e s m below meth c T0 hx hZ hby hml hown hnm hret hlk X0 e0
  have hown : s.vm.findClass "java/lang/StringUTF16" = some m.cls := hown
  refine Go.cast (g' := mkF m 0 #[.val (.ref a), .val (.int 0), .val (.int 1), .unset, .unset, .unset] []) (by first | (simp [entryFrame, mkF, argsToLocals, Value.category]; done) | rfl) ?_
  show Go p e below _ T0 (mkF m 0 _ [])
  refine Go.iloadN X0 hx hby k22_0 rfl ?_
  refine Go.newarr X0 hx hZ (own_t hw 27 rfl) e0 1 (by decide) (by decide) (by decide) (by decide) (by decide) (hb hby k22_1) fun T1 h1 b1 k1 g1 X1 e1 E1 V1 => ?_
  have lt_a_b1 : a < b1 := Nat.lt_of_lt_of_le VA.lt (Nat.le_of_eq g1.symm)
  have ge_b1 : n0 ≤ b1 := g1 ▸ Z0
  have hs_b1 : h0.size ≤ b1 := g1 ▸ (Keep.refl h0 []).1
  have sz1 := Nat.le_trans Z0 E1.1
  have kp1 := (Keep.refl h0 []).ext E1
  have V1 : Arv Z h1 b1 k1 .byte (1 : Int32) [(.int 0)] (.int 0) := V1
  refine Go.astoreN X1 hx hby k22_3 rfl (l' := #[.val (.ref a), .val (.int 0), .val (.int 1), .val (.ref b1), .unset, .unset]) rfl ?_
  refine Go.aloadN X1 hx hby k22_4 rfl rfl ?_
  refine Go.iloadN X1 hx hby k22_5 rfl ?_
  refine Go.aloadN X1 hx hby k22_6 rfl rfl ?_
  refine Go.iconst 0 X1 hx hby k22_7 rfl ?_
  refine Go.iloadN X1 hx hby k22_8 rfl ?_
  refine Go.callS (W := 0) (y := y_21) (argsL := [(.ref a), (.int 0), (.ref b1), (.int 0), (.int 1)]) (rest := []) X1 hx hZ hown (own_t hw 28 rfl) (own_t hw 29 rfl) (own_t hw 25 rfl) (own_t hw 30 rfl) (by decide) (own_rmC510 l Z a0 hw a ka b1 k1 c0 c1 c2 n0 h1 sz1 ge_b1 (Nat.ne_of_lt lt_a_b1) (VA.ext E1) V1 gr) e1 (by rw [hml]; rfl) (lenOf own_dsc12 rfl) (hb hby k22_9) rfl (Nat.le_of_eq rfl) (by decide) (by decide) (by decide) (by decide) fun _ T2 L2 X2 q2 => ?_
  obtain ⟨rfl, N2q, K2⟩ := q2
  have N2 := Fr.app (Fr.nil n0) N2q
  have sz2 := Nat.le_trans sz1 K2.1
  have kp2 := kp1.trans K2 (allS (Or.inr hs_b1) all0)
  show Go p e below _ T2 (mkF m 12 _ [(.int 0)])
  refine Go.istore X2 hx hby k22_12 (l' := #[.val (.ref a), .val (.int 0), .val (.int 1), .val (.ref b1), .val (.int 0), .unset]) rfl ?_
  refine Go.iload X2 hx hby k22_14 rfl ?_
  refine Go.iloadN X2 hx hby k22_16 rfl ?_
  refine Go.icmpNo X2 hx hby k22_17 (feq (by decide : ¬ ((0 : Int32) = (1 : Int32)))).1 ?_
  refine Go.aloadN X2 hx hby k22_20 rfl rfl ?_
  refine Go.iloadN X2 hx hby k22_21 rfl ?_
  refine Go.iloadN X2 hx hby k22_22 rfl ?_
  refine Go.callS (W := 0) (y := y_19) (argsL := [(.ref a), (.int 0), (.int 1)]) (rest := []) X2 hx hZ hown (own_t hw 88 rfl) (own_t hw 89 rfl) (own_t hw 25 rfl) (own_t hw 90 rfl) (by decide) (own_rmTB1 l Z a0 hw a ka c0 c1 c2 cz G n0 T2.heap sz2 ((OZ.ext E1).keep K2 (allS ge_b1 all0)) SB hz SA SH SL SG hG ((VA.ext E1).keep K2 (ninS (Nat.ne_of_lt lt_a_b1) nin0))) rfl (by rw [hml]; rfl) (lenOf own_dsc13 rfl) (hb hby k22_23) rfl (Nat.le_of_eq rfl) (by decide) (by decide) (by decide) (by decide) fun _ T3 L3 X3 q3 => ?_
  obtain ⟨b3, k3, rfl, N3q, K3, g3, V3⟩ := q3
  have N3 := Fr.app N2 N3q
  have sz3 := Nat.le_trans sz2 K3.1
  have kp3 := kp2.trans K3 all0
  have hs_b3 : h0.size ≤ b3 := Nat.le_trans (kp2.1) g3
  show Go p e below _ T3 (mkF m 26 _ [(.ref b3)])
  refine Go.astore X3 hx hby k22_26 rfl (l' := #[.val (.ref a), .val (.int 0), .val (.int 1), .val (.ref b1), .val (.int 0), .val (.ref b3)]) rfl ?_
  refine Go.aload X3 hx hby k22_28 rfl rfl ?_
  refine Go.iload X3 hx hby k22_30 rfl ?_
  refine Go.callSP (W := 0) (y := y_7) (argsL := [(.ref b3), (.int 0)]) (rest := []) (r := some (.int c0)) X3 hx hZ hown (own_t hw 104 rfl) (own_t hw 105 rfl) (own_t hw 25 rfl) (own_t hw 106 rfl) (by decide) (own_rmGC l Z a0 hw b3 k3 c0 c1 c2 1 0 T3.heap V3 (SA.ext (((OZ.ext E1).keep K2 (allS ge_b1 all0)).keep K3 all0).2) (SH.ext (((OZ.ext E1).keep K2 (allS ge_b1 all0)).keep K3 all0).2) (SL.ext (((OZ.ext E1).keep K2 (allS ge_b1 all0)).keep K3 all0).2) r0 r1 r2 (by decide) (by decide)) rfl (by rw [hml]; rfl) (lenOf own_dsc0 rfl) (hb hby k22_32) rfl (Nat.le_of_eq rfl) (by decide) (by decide) (by decide) (by decide) fun T4 X4 e4 => ?_
  show Go p e below _ T4 (mkF m 35 _ [(.int c0)])
  refine Go.sipush 255 X4 hx hby k22_35 rfl ?_
  refine Go.icmpYes 54 X4 hx hby k22_38 (tlt gr).2.2.1 (by decide) (by decide) ?_
  refine Go.aload X4 hx hby k22_54 rfl rfl ?_
  exact Go.retA X4 hx hlk hret rfl rfl rfl (hb hby k22_56) (by decide) (by decide) (by rw [e4]; exact ⟨b3, k3, rfl, N3, kp3, hs_b3, V3⟩)
theorem k23_0 : decode jdk_42_method_149_code 0 = .ok (.aload_n 0, 1) := by decide +kernel
theorem k23_1 : decode jdk_42_method_149_code 1 = .ok (.invokespecial 1, 3) := by decide +kernel
theorem k23_4 : decode jdk_42_method_149_code 4 = .ok (.iload_n 3, 1) := by decide +kernel
theorem k23_5 : decode jdk_42_method_149_code 5 = .ok (.ifCond .ne 22, 3) := by decide +kernel
theorem k23_27 : decode jdk_42_method_149_code 27 = .ok (.getstatic 38, 3) := by decide +kernel
theorem k23_30 : decode jdk_42_method_149_code 30 = .ok (.ifCond .eq 28, 3) := by decide +kernel
theorem k23_33 : decode jdk_42_method_149_code 33 = .ok (.aload_n 1, 1) := by decide +kernel
theorem k23_34 : decode jdk_42_method_149_code 34 = .ok (.iload_n 2, 1) := by decide +kernel
theorem k23_35 : decode jdk_42_method_149_code 35 = .ok (.iload_n 3, 1) := by decide +kernel
theorem k23_36 : decode jdk_42_method_149_code 36 = .ok (.invokestatic 177, 3) := by decide +kernel
theorem k23_39 : decode jdk_42_method_149_code 39 = .ok (.astore 5, 2) := by decide +kernel
theorem k23_41 : decode jdk_42_method_149_code 41 = .ok (.aload_n 0, 1) := by decide +kernel
theorem k23_42 : decode jdk_42_method_149_code 42 = .ok (.aload 5, 2) := by decide +kernel
theorem k23_44 : decode jdk_42_method_149_code 44 = .ok (.iload_n 3, 1) := by decide +kernel
theorem k23_45 : decode jdk_42_method_149_code 45 = .ok (.invokestatic 47, 3) := by decide +kernel
theorem k23_48 : decode jdk_42_method_149_code 48 = .ok (.putfield 15, 3) := by decide +kernel
theorem k23_51 : decode jdk_42_method_149_code 51 = .ok (.aload_n 0, 1) := by decide +kernel
theorem k23_52 : decode jdk_42_method_149_code 52 = .ok (.aload 5, 2) := by decide +kernel
theorem k23_54 : decode jdk_42_method_149_code 54 = .ok (.putfield 9, 3) := by decide +kernel
theorem k23_57 : decode jdk_42_method_149_code 57 = .ok (.return_, 1) := by decide +kernel
abbrev own_rmS410_Q (Z : State) (x a : Addr) (ka : ClassId) (c0 c1 c2 : Int32) (cz : Int32) (G : Value) (n0 : Nat) (h0 : Heap) : Option Value → Heap → List Loc → Prop := fun v h L => v = none ∧ Fr n0 L ∧ Keep h0 h [x] ∧ Exa Z h x "java/lang/String" ∧ Fld Z h x "java/lang/String" "coder" "B" (.int 1) ∧ ∃ t kb, Fld Z h x "java/lang/String" "value" "[B" (.ref t) ∧ Arv Z h t kb .byte 2 [(.int (lo8 c0)), (.int (hi8 c0))] (.int 0)
theorem own_rmS410 (l : Launch) (Z : State) (a0 : Array Value) (hw : ∀ d ∈ tables_1, d.before a0 Z = true) (x a : Addr) (ka : ClassId) (c0 c1 c2 : Int32) (cz : Int32) (G : Value) (n0 : Nat) (h0 : Heap) (Z0 : n0 ≤ h0.size) (OZ : Old Z n0 h0) (SB : own_SB Z Z.heap cz) (hz : ¬ cz = (0 : Int32)) (SA : own_SA Z Z.heap) (SH : own_SH Z Z.heap) (SL : own_SL Z Z.heap) (SG : own_SG Z Z.heap G) (hG : G.isRef = true) (gx : n0 ≤ x) (hne : a ≠ x) (EX : Exa Z h0 x "java/lang/String") (FV : Fld Z h0 x "java/lang/String" "value" "[B" .null) (FC : Fld Z h0 x "java/lang/String" "coder" "B" (.int 0)) (VA : Arv Z h0 a ka .char 1 [(.int c0)] (.int 0)) (r0 : own_C c0) (r1 : own_C c1) (r2 : own_C c2)  (gr : (255 : Int32) < c0) :
    MetAt l Z y_23 jdk_42_method_149_code 6 none ({ frames := 4, cells := 2, slots := 3, locals := 57 } : Room) #[(.ref x), (.ref a), (.int 0), (.int 1), .null] h0 ((own_rmS410_Q Z x a ka c0 c1 c2 cz G n0 h0)) := by
  refine goBodyM (plainFor_of_name (by first | (simp [plainName, overriddenIn]; done) | decide +kernel)) ?_
  intro p e s m below meth c T0 hx hZ hby hml hown hnm hret hlk X0 e0
  have hown : s.vm.findClass "java/lang/String" = some m.cls := hown
  refine Go.cast (g' := mkF m 0 #[.val (.ref x), .val (.ref a), .val (.int 0), .val (.int 1), .val .null, .unset] []) (by first | (simp [entryFrame, mkF, argsToLocals, Value.category]; done) | rfl) ?_
  show Go p e below _ T0 (mkF m 0 _ [])
  refine Go.aloadN X0 hx hby k23_0 rfl rfl ?_
  refine Go.initObj X0 hx hZ hown (own_t hw 19 rfl) (own_t hw 20 rfl) (own_t hw 21 rfl) e0 (by rw [hml]; rfl) (hb hby k23_1) (by decide) (W := 0) (Nat.le_of_eq rfl) (by decide) fun T1 X1 e1 => ?_
  show Go p e below _ T1 (mkF m 4 _ [])
  refine Go.iloadN X1 hx hby k23_4 rfl ?_
  refine Go.ifYes 27 X1 hx hby k23_5 ((if0 _ _).trans (feq (by decide : ¬ ((1 : Int32) = (0 : Int32)))).2) (by decide) (by decide) ?_
  refine Go.gets X1 hx hZ hown (own_t hw 22 rfl) Via.refl e1 (SB.ext OZ.2) (hb hby k23_27) fun T2 X2 e2 => ?_
  refine Go.ifNo X2 hx hby k23_30 ((if0 _ _).trans (feq hz).1) ?_
  refine Go.aloadN X2 hx hby k23_33 rfl rfl ?_
  refine Go.iloadN X2 hx hby k23_34 rfl ?_
  refine Go.iloadN X2 hx hby k23_35 rfl ?_
  refine Go.callS (W := 0) (y := y_22) (argsL := [(.ref a), (.int 0), (.int 1)]) (rest := []) X2 hx hZ hown (own_t hw 23 rfl) (own_t hw 24 rfl) (own_t hw 25 rfl) (own_t hw 26 rfl) (by decide) (own_rmC310 l Z a0 hw a ka c0 c1 c2 cz G n0 h0 Z0 OZ SB hz SA SH SL SG hG VA r0 r1 r2 gr) e2 (by rw [hml]; rfl) (lenOf own_dsc13 rfl) (hb hby k23_36) rfl (Nat.le_of_eq rfl) (by decide) (by decide) (by decide) (by decide) fun _ T3 L3 X3 q3 => ?_
  obtain ⟨b3, k3, rfl, N3q, K3, g3, V3⟩ := q3
  have N3 := Fr.app (Fr.nil n0) N3q
  have sz3 := Nat.le_trans Z0 K3.1
  have kp3 := (Keep.refl h0 [x]).trans K3 all0
  have ne_b3 : b3 ≠ x := Nat.ne_of_gt (Nat.lt_of_lt_of_le EX.lt g3)
  show Go p e below _ T3 (mkF m 39 _ [(.ref b3)])
  refine Go.astore X3 hx hby k23_39 rfl (l' := #[.val (.ref x), .val (.ref a), .val (.int 0), .val (.int 1), .val .null, .val (.ref b3)]) rfl ?_
  refine Go.aloadN X3 hx hby k23_41 rfl rfl ?_
  refine Go.aload X3 hx hby k23_42 rfl rfl ?_
  refine Go.iloadN X3 hx hby k23_44 rfl ?_
  refine Go.callSP (W := 1) (y := y_20) (argsL := [(.ref b3), (.int 1)]) (rest := [(.ref x)]) (r := some (.int 1)) X3 hx hZ hown (own_t hw 31 rfl) (own_t hw 32 rfl) (own_t hw 25 rfl) (own_t hw 33 rfl) (by decide) (own_rmCd11 l Z a0 hw b3 k3 c0 c1 c2 T3.heap V3) rfl (by rw [hml]; rfl) (lenOf own_dsc14 rfl) (hb hby k23_45) rfl (Nat.le_of_eq rfl) (by decide) (by decide) (by decide) (by decide) fun T4 X4 e4 => ?_
  show Go p e below _ T4 (mkF m 48 _ [(.int 1), (.ref x)])
  refine Go.putf X4 hx hZ hown (own_t hw 34 rfl) Via.refl e4 (FC.keep K3 nin0) (EX.keep K3) (Or.inr ⟨(own_t hw 35 rfl), rfl, hnm⟩) (own_t hw 9 rfl) (ty := .byte) (by decide) rfl (fits_nar_byte _) (hb hby k23_48) fun T5 h5 X5 e5 W5 F5 A5 => ?_
  have sz5 := Nat.le_trans sz3 (Keep.of_wr W5).1
  have kp5 := kp3.wr W5 own_i0
  have N5 := Fr.snoc X5 N3 gx
  refine Go.aloadN X5 hx hby k23_51 rfl rfl ?_
  refine Go.aload X5 hx hby k23_52 rfl rfl ?_
  refine Go.putf X5 hx hZ hown (own_t hw 36 rfl) Via.refl e5 ((FV.keep K3 nin0).other W5 (Or.inr (slot_ne (Or.inr (own_t hw 37 rfl)) (Or.inr (own_t hw 35 rfl)) (by decide) (t := (.array .byte)) (t' := .byte) (by decide) (by decide)))) A5 (Or.inr ⟨(own_t hw 37 rfl), rfl, hnm⟩) (own_t hw 9 rfl) (ty := (.array .byte)) (by decide) rfl rfl (hb hby k23_54) fun T6 h6 X6 e6 W6 F6 A6 => ?_
  have sz6 := Nat.le_trans sz5 (Keep.of_wr W6).1
  have kp6 := kp5.wr W6 own_i0
  have N6 := Fr.snoc X6 N5 gx
  exact Go.retV X6 hx hlk hret (hb hby k23_57) (by decide) (by decide) (by rw [e6]; exact ⟨rfl, N6, kp6, A6, (F5.other W6 (Or.inr (slot_ne (Or.inr (own_t hw 35 rfl)) (Or.inr (own_t hw 37 rfl)) (by decide) (t := .byte) (t' := (.array .byte)) (by decide) (by decide)))), b3, k3, F6, ((V3.other W5 ne_b3).other W6 ne_b3)⟩)
theorem k24_0 : decode jdk_42_method_3_code 0 = .ok (.aload_n 0, 1) := by decide +kernel
theorem k24_1 : decode jdk_42_method_3_code 1 = .ok (.aload_n 1, 1) := by decide +kernel
theorem k24_2 : decode jdk_42_method_3_code 2 = .ok (.iconst 0, 1) := by decide +kernel
theorem k24_3 : decode jdk_42_method_3_code 3 = .ok (.aload_n 1, 1) := by decide +kernel
theorem k24_4 : decode jdk_42_method_3_code 4 = .ok (.arraylength, 1) := by decide +kernel
theorem k24_5 : decode jdk_42_method_3_code 5 = .ok (.aconst_null, 1) := by decide +kernel
theorem k24_6 : decode jdk_42_method_3_code 6 = .ok (.invokespecial 27, 3) := by decide +kernel
theorem k24_9 : decode jdk_42_method_3_code 9 = .ok (.return_, 1) := by decide +kernel
abbrev own_rmS110_Q (Z : State) (x a : Addr) (ka : ClassId) (c0 c1 c2 : Int32) (cz : Int32) (G : Value) (n0 : Nat) (h0 : Heap) : Option Value → Heap → List Loc → Prop := fun v h L => v = none ∧ Fr n0 L ∧ Keep h0 h [x] ∧ Exa Z h x "java/lang/String" ∧ Fld Z h x "java/lang/String" "coder" "B" (.int 1) ∧ ∃ t kb, Fld Z h x "java/lang/String" "value" "[B" (.ref t) ∧ Arv Z h t kb .byte 2 [(.int (lo8 c0)), (.int (hi8 c0))] (.int 0)
theorem own_rmS110 (l : Launch) (Z : State) (a0 : Array Value) (hw : ∀ d ∈ tables_1, d.before a0 Z = true) (x a : Addr) (ka : ClassId) (c0 c1 c2 : Int32) (cz : Int32) (G : Value) (n0 : Nat) (h0 : Heap) (Z0 : n0 ≤ h0.size) (OZ : Old Z n0 h0) (SB : own_SB Z Z.heap cz) (hz : ¬ cz = (0 : Int32)) (SA : own_SA Z Z.heap) (SH : own_SH Z Z.heap) (SL : own_SL Z Z.heap) (SG : own_SG Z Z.heap G) (hG : G.isRef = true) (gx : n0 ≤ x) (hne : a ≠ x) (EX : Exa Z h0 x "java/lang/String") (FV : Fld Z h0 x "java/lang/String" "value" "[B" .null) (FC : Fld Z h0 x "java/lang/String" "coder" "B" (.int 0)) (VA : Arv Z h0 a ka .char 1 [(.int c0)] (.int 0)) (r0 : own_C c0) (r1 : own_C c1) (r2 : own_C c2)  (gr : (255 : Int32) < c0) :
    MetAt l Z y_24 jdk_42_method_3_code 2 none ({ frames := 5, cells := 2, slots := 3, locals := 74 } : Room) #[(.ref x), (.ref a)] h0 ((own_rmS110_Q Z x a ka c0 c1 c2 cz G n0 h0)) := by
  refine goBodyM (plainFor_of_name (by first | (simp [plainName, overriddenIn]; done) | decide +kernel)) ?_
  intro p e s m below meth c T0 hx hZ hby hml hown hnm hret hlk X0 e0
  have hown : s.vm.findClass "java/lang/String" = some m.cls := hown
  refine Go.cast (g' := mkF m 0 #[.val (.ref x), .val (.ref a)] []) (by first | (simp [entryFrame, mkF, argsToLocals, Value.category]; done) | rfl) ?_
  show Go p e below _ T0 (mkF m 0 _ [])
  refine Go.aloadN X0 hx hby k24_0 rfl rfl ?_
  refine Go.aloadN X0 hx hby k24_1 rfl rfl ?_
  refine Go.iconst 0 X0 hx hby k24_2 rfl ?_
  refine Go.aloadN X0 hx hby k24_3 rfl rfl ?_
  refine Go.len X0 hx hZ e0 VA (hb hby k24_4) ?_
  refine Go.aconstNull X0 hx hby k24_5 ?_
  refine Go.callI (W := 0) (y := y_23) (a := x) (argsL := [(.ref a), (.int 0), (.int 1), .null]) (rest := []) X0 hx hZ rfl hown (own_t hw 15 rfl) (own_t hw 16 rfl) (own_t hw 10 rfl) (own_t hw 18 rfl) (by decide) (own_rmS410 l Z a0 hw x a ka c0 c1 c2 cz G n0 h0 Z0 OZ SB hz SA SH SL SG hG gx hne EX FV FC VA r0 r1 r2 gr) e0 (by rw [hml]; rfl) (lenOf own_dsc15 rfl) (hb hby k24_6) rfl (Nat.le_of_eq rfl) (by decide) (by decide) (by decide) (by decide) fun _ T1 L1 X1 q1 => ?_
  obtain ⟨rfl, N1q, K1, A1, C1, t1, kt1, D1, V1⟩ := q1
  have N1 := Fr.app (Fr.nil n0) N1q
  have sz1 := Nat.le_trans Z0 K1.1
  have kp1 := (Keep.refl h0 [x]).trans K1 (allS own_i0 all0)
  show Go p e below _ T1 (mkF m 9 _ [])
  exact Go.retV X1 hx hlk hret (hb hby k24_9) (by decide) (by decide) ⟨rfl, N1, kp1, A1, C1, t1, kt1, D1, V1⟩
theorem k21_26 : decode jdk_52_method_21_code 26 = .ok (.aload_n 2, 1) := by decide +kernel
theorem k21_27 : decode jdk_52_method_21_code 27 = .ok (.iload_n 3, 1) := by decide +kernel
theorem k21_28 : decode jdk_52_method_21_code 28 = .ok (.iload 6, 2) := by decide +kernel
theorem k21_30 : decode jdk_52_method_21_code 30 = .ok (.i2b, 1) := by decide +kernel
theorem k21_31 : decode jdk_52_method_21_code 31 = .ok (.bastore, 1) := by decide +kernel
theorem k21_32 : decode jdk_52_method_21_code 32 = .ok (.iinc 1 1, 3) := by decide +kernel
theorem k21_35 : decode jdk_52_method_21_code 35 = .ok (.iinc 3 1, 3) := by decide +kernel
theorem k21_38 : decode jdk_52_method_21_code 38 = .ok (.iinc 5 1, 3) := by decide +kernel
theorem k21_41 : decode jdk_52_method_21_code 41 = .ok (.goto (-38), 3) := by decide +kernel
theorem k21_44 : decode jdk_52_method_21_code 44 = .ok (.iload 4, 2) := by decide +kernel
theorem k21_46 : decode jdk_52_method_21_code 46 = .ok (.ireturn, 1) := by decide +kernel
abbrev own_rmC511_Q (Z : State) (a : Addr) (ka : ClassId) (d : Addr) (kd : ClassId) (c0 c1 c2 : Int32) (n0 : Nat) (h0 : Heap) : Option Value → Heap → List Loc → Prop := fun v h L => v = some (.int 1) ∧ Fr n0 L ∧ Keep h0 h [d] ∧ Arv Z h d kd .byte 1 [(.int (lo8 c0))] (.int 0)
theorem own_rmC511 (l : Launch) (Z : State) (a0 : Array Value) (hw : ∀ d ∈ tables_1, d.before a0 Z = true) (a : Addr) (ka : ClassId) (d : Addr) (kd : ClassId) (c0 c1 c2 : Int32) (n0 : Nat) (h0 : Heap) (Z0 : n0 ≤ h0.size) (gd : n0 ≤ d) (hne : a ≠ d) (VA : Arv Z h0 a ka .char 1 [(.int c0)] (.int 0)) (VD : Arv Z h0 d kd .byte 1 [(.int 0)] (.int 0)) (gq0 : ¬ (255 : Int32) < c0) :
    MetAt l Z y_21 jdk_52_method_21_code 7 (some .int) ({ frames := 0, cells := 0, slots := 0, locals := 0 } : Room) #[(.ref a), (.int 0), (.ref d), (.int 0), (.int 1)] h0 ((own_rmC511_Q Z a ka d kd c0 c1 c2 n0 h0)) := by
  refine goBodyM (plainFor_of_name (by first | (simp [plainName, overriddenIn]; done) | decide +kernel)) ?_
  intro p e s m below meth c T0 hx hZ hby hml hown hnm hret hlk X0 e0
  have hown : s.vm.findClass "java/lang/StringUTF16" = some m.cls := hown
  refine Go.cast (g' := mkF m 0 #[.val (.ref a), .val (.int 0), .val (.ref d), .val (.int 0), .val (.int 1), .unset, .unset] []) (by first | (simp [entryFrame, mkF, argsToLocals, Value.category]; done) | rfl) ?_
  show Go p e below _ T0 (mkF m 0 _ [])
  refine Go.iconst 0 X0 hx hby k21_0 rfl ?_
  refine Go.istore X0 hx hby k21_1 (l' := #[.val (.ref a), .val (.int 0), .val (.ref d), .val (.int 0), .val (.int 1), .val (.int 0), .unset]) rfl ?_
  refine Go.iload X0 hx hby k21_3 rfl ?_
  refine Go.iload X0 hx hby k21_5 rfl ?_
  refine Go.icmpNo X0 hx hby k21_7 (tlt (by decide : (0 : Int32) < (1 : Int32))).2.1 ?_
  refine Go.aloadN X0 hx hby k21_10 rfl rfl ?_
  refine Go.iloadN X0 hx hby k21_11 rfl ?_
  refine Go.caload X0 hx hZ e0 VA ⟨by decide, by decide⟩ (v := (.int c0)) rfl (hb hby k21_12) ?_
  refine Go.istore X0 hx hby k21_13 (l' := #[.val (.ref a), .val (.int 0), .val (.ref d), .val (.int 0), .val (.int 1), .val (.int 0), .val (.int c0)]) rfl ?_
  refine Go.iload X0 hx hby k21_15 rfl ?_
  refine Go.sipush 255 X0 hx hby k21_17 rfl ?_
  refine Go.icmpYes 26 X0 hx hby k21_20 (flt gq0).2.2.2 (by decide) (by decide) ?_
  refine Go.aloadN X0 hx hby k21_26 rfl rfl ?_
  refine Go.iloadN X0 hx hby k21_27 rfl ?_
  show Go p e below _ T0 (mkF m 28 _ [(.int 0), (.ref d)])
  refine Go.iload X0 hx hby k21_28 rfl ?_
  refine Go.i2b X0 hx hby k21_30 rfl ?_
  refine Go.bastore X0 hx hZ e0 VD ⟨by decide, by decide⟩ 0 rfl (Nat.le_of_ble_eq_true rfl) (hb hby k21_31) fun T1 h1 X1 e1 W1 V1 => ?_
  have sz1 := Nat.le_trans Z0 (Keep.of_wr W1).1
  have kp1 := (Keep.refl h0 [d]).wr W1 own_i0
  have N1 := Fr.snoc X1 (Fr.nil n0) gd
  have V1 : Arv Z h1 d kd .byte (1 : Int32) [(.int (nar .byte (c0.toInt8.toInt32)))] (.int 0) := V1
  refine Go.iinc X1 hx hby k21_32 rfl (l' := #[.val (.ref a), .val (.int 1), .val (.ref d), .val (.int 0), .val (.int 1), .val (.int 0), .val (.int c0)]) rfl ?_
  refine Go.iinc X1 hx hby k21_35 rfl (l' := #[.val (.ref a), .val (.int 1), .val (.ref d), .val (.int 1), .val (.int 1), .val (.int 0), .val (.int c0)]) rfl ?_
  refine Go.iinc X1 hx hby k21_38 rfl (l' := #[.val (.ref a), .val (.int 1), .val (.ref d), .val (.int 1), .val (.int 1), .val (.int 1), .val (.int c0)]) rfl ?_
  refine Go.goto 3 X1 hx hby k21_41 (by decide) (by decide) ?_
  refine Go.iload X1 hx hby k21_3 rfl ?_
  refine Go.iload X1 hx hby k21_5 rfl ?_
  refine Go.icmpYes 44 X1 hx hby k21_7 (flt (by decide : ¬ ((1 : Int32) < (1 : Int32)))).2.1 (by decide) (by decide) ?_
  refine Go.iload X1 hx hby k21_44 rfl ?_
  exact Go.retI X1 hx hlk hret (hb hby k21_46) (by decide) (by decide) (by rw [e1]; exact ⟨rfl, N1, kp1, by have q := V1; simp only [own_w2] at q; exact q⟩)
theorem k22_57 : decode jdk_52_method_16_code 57 = .ok (.aload_n 3, 1) := by decide +kernel
theorem k22_58 : decode jdk_52_method_16_code 58 = .ok (.areturn, 1) := by decide +kernel
abbrev own_rmC311_Q (Z : State) (a : Addr) (ka : ClassId) (c0 c1 c2 : Int32) (cz : Int32) (G : Value) (n0 : Nat) (h0 : Heap) : Option Value → Heap → List Loc → Prop := fun v h L => ∃ b k, v = some (.ref b) ∧ Fr n0 L ∧ Keep h0 h [] ∧ h0.size ≤ b ∧ Arv Z h b k .byte 1 [(.int (lo8 c0))] (.int 0)
theorem own_rmC311 (l : Launch) (Z : State) (a0 : Array Value) (hw : ∀ d ∈ tables_1, d.before a0 Z = true) (a : Addr) (ka : ClassId) (c0 c1 c2 : Int32) (cz : Int32) (G : Value) (n0 : Nat) (h0 : Heap) (Z0 : n0 ≤ h0.size) (OZ : Old Z n0 h0) (SB : own_SB Z Z.heap cz) (hz : ¬ cz = (0 : Int32)) (SA : own_SA Z Z.heap) (SH : own_SH Z Z.heap) (SL : own_SL Z Z.heap) (SG : own_SG Z Z.heap G) (hG : G.isRef = true) (VA : Arv Z h0 a ka .char 1 [(.int c0)] (.int 0)) (r0 : own_C c0) (r1 : own_C c1) (r2 : own_C c2) (gq0 : ¬ (255 : Int32) < c0) :
    MetAt l Z y_22 jdk_52_method_16_code 6 (some (.array .byte)) ({ frames := 3, cells := 2, slots := 3, locals := 40 } : Room) #[(.ref a), (.int 0), (.int 1)] h0 ((own_rmC311_Q Z a ka c0 c1 c2 cz G n0 h0)) := by
  refine goBodyM (plainFor_of_name (by first | (simp [plainName, overriddenIn]; done) | decide +kernel)) ?_
  intro p e s m below meth c T0 hx hZ hby hml hown hnm hret hlk X0 e0
  have hown : s.vm.findClass "java/lang/StringUTF16" = some m.cls := hown
  refine Go.cast (g' := mkF m 0 #[.val (.ref a), .val (.int 0), .val (.int 1), .unset, .unset, .unset] []) (by first | (simp [entryFrame, mkF, argsToLocals, Value.category]; done) | rfl) ?_
  show Go p e below _ T0 (mkF m 0 _ [])
  refine Go.iloadN X0 hx hby k22_0 rfl ?_
  refine Go.newarr X0 hx hZ (own_t hw 27 rfl) e0 1 (by decide) (by decide) (by decide) (by decide) (by decide) (hb hby k22_1) fun T1 h1 b1 k1 g1 X1 e1 E1 V1 => ?_
  have lt_a_b1 : a < b1 := Nat.lt_of_lt_of_le VA.lt (Nat.le_of_eq g1.symm)
  have ge_b1 : n0 ≤ b1 := g1 ▸ Z0
  have hs_b1 : h0.size ≤ b1 := g1 ▸ (Keep.refl h0 []).1
  have sz1 := Nat.le_trans Z0 E1.1
  have kp1 := (Keep.refl h0 []).ext E1
  have V1 : Arv Z h1 b1 k1 .byte (1 : Int32) [(.int 0)] (.int 0) := V1
  refine Go.astoreN X1 hx hby k22_3 rfl (l' := #[.val (.ref a), .val (.int 0), .val (.int 1), .val (.ref b1), .unset, .unset]) rfl ?_
  refine Go.aloadN X1 hx hby k22_4 rfl rfl ?_
  refine Go.iloadN X1 hx hby k22_5 rfl ?_
  refine Go.aloadN X1 hx hby k22_6 rfl rfl ?_
  refine Go.iconst 0 X1 hx hby k22_7 rfl ?_
  refine Go.iloadN X1 hx hby k22_8 rfl ?_
  refine Go.callS (W := 0) (y := y_21) (argsL := [(.ref a), (.int 0), (.ref b1), (.int 0), (.int 1)]) (rest := []) X1 hx hZ hown (own_t hw 28 rfl) (own_t hw 29 rfl) (own_t hw 25 rfl) (own_t hw 30 rfl) (by decide) (own_rmC511 l Z a0 hw a ka b1 k1 c0 c1 c2 n0 h1 sz1 ge_b1 (Nat.ne_of_lt lt_a_b1) (VA.ext E1) V1 gq0) e1 (by rw [hml]; rfl) (lenOf own_dsc12 rfl) (hb hby k22_9) rfl (Nat.le_of_eq rfl) (by decide) (by decide) (by decide) (by decide) fun _ T2 L2 X2 q2 => ?_
  obtain ⟨rfl, N2q, K2, V2⟩ := q2
  have N2 := Fr.app (Fr.nil n0) N2q
  have sz2 := Nat.le_trans sz1 K2.1
  have kp2 := kp1.trans K2 (allS (Or.inr hs_b1) all0)
  show Go p e below _ T2 (mkF m 12 _ [(.int 1)])
  refine Go.istore X2 hx hby k22_12 (l' := #[.val (.ref a), .val (.int 0), .val (.int 1), .val (.ref b1), .val (.int 1), .unset]) rfl ?_
  refine Go.iload X2 hx hby k22_14 rfl ?_
  refine Go.iloadN X2 hx hby k22_16 rfl ?_
  refine Go.icmpYes 57 X2 hx hby k22_17 (teq (by decide : (1 : Int32) = (1 : Int32))).1 (by decide) (by decide) ?_
  refine Go.aloadN X2 hx hby k22_57 rfl rfl ?_
  exact Go.retA X2 hx hlk hret rfl rfl rfl (hb hby k22_58) (by decide) (by decide) (by exact ⟨b1, k1, rfl, N2, kp2, hs_b1, V2⟩)
abbrev own_rmS411_Q (Z : State) (x a : Addr) (ka : ClassId) (c0 c1 c2 : Int32) (cz : Int32) (G : Value) (n0 : Nat) (h0 : Heap) : Option Value → Heap → List Loc → Prop := fun v h L => v = none ∧ Fr n0 L ∧ Keep h0 h [x] ∧ Exa Z h x "java/lang/String" ∧ Fld Z h x "java/lang/String" "coder" "B" (.int 0) ∧ ∃ t kb, Fld Z h x "java/lang/String" "value" "[B" (.ref t) ∧ Arv Z h t kb .byte 1 [(.int (lo8 c0))] (.int 0)
theorem own_rmS411 (l : Launch) (Z : State) (a0 : Array Value) (hw : ∀ d ∈ tables_1, d.before a0 Z = true) (x a : Addr) (ka : ClassId) (c0 c1 c2 : Int32) (cz : Int32) (G : Value) (n0 : Nat) (h0 : Heap) (Z0 : n0 ≤ h0.size) (OZ : Old Z n0 h0) (SB : own_SB Z Z.heap cz) (hz : ¬ cz = (0 : Int32)) (SA : own_SA Z Z.heap) (SH : own_SH Z Z.heap) (SL : own_SL Z Z.heap) (SG : own_SG Z Z.heap G) (hG : G.isRef = true) (gx : n0 ≤ x) (hne : a ≠ x) (EX : Exa Z h0 x "java/lang/String") (FV : Fld Z h0 x "java/lang/String" "value" "[B" .null) (FC : Fld Z h0 x "java/lang/String" "coder" "B" (.int 0)) (VA : Arv Z h0 a ka .char 1 [(.int c0)] (.int 0)) (r0 : own_C c0) (r1 : own_C c1) (r2 : own_C c2) (gq0 : ¬ (255 : Int32) < c0) :
    MetAt l Z y_23 jdk_42_method_149_code 6 none ({ frames := 4, cells := 2, slots := 3, locals := 57 } : Room) #[(.ref x), (.ref a), (.int 0), (.int 1), .null] h0 ((own_rmS411_Q Z x a ka c0 c1 c2 cz G n0 h0)) := by
  refine goBodyM (plainFor_of_name (by first | (simp [plainName, overriddenIn]; done) | decide +kernel)) ?_
  intro p e s m below meth c T0 hx hZ hby hml hown hnm hret hlk X0 e0
  have hown : s.vm.findClass "java/lang/String" = some m.cls := hown
  refine Go.cast (g' := mkF m 0 #[.val (.ref x), .val (.ref a), .val (.int 0), .val (.int 1), .val .null, .unset] []) (by first | (simp [entryFrame, mkF, argsToLocals, Value.category]; done) | rfl) ?_
  show Go p e below _ T0 (mkF m 0 _ [])
  refine Go.aloadN X0 hx hby k23_0 rfl rfl ?_
  refine Go.initObj X0 hx hZ hown (own_t hw 19 rfl) (own_t hw 20 rfl) (own_t hw 21 rfl) e0 (by rw [hml]; rfl) (hb hby k23_1) (by decide) (W := 0) (Nat.le_of_eq rfl) (by decide) fun T1 X1 e1 => ?_
  show Go p e below _ T1 (mkF m 4 _ [])
  refine Go.iloadN X1 hx hby k23_4 rfl ?_
  refine Go.ifYes 27 X1 hx hby k23_5 ((if0 _ _).trans (feq (by decide : ¬ ((1 : Int32) = (0 : Int32)))).2) (by decide) (by decide) ?_
  refine Go.gets X1 hx hZ hown (own_t hw 22 rfl) Via.refl e1 (SB.ext OZ.2) (hb hby k23_27) fun T2 X2 e2 => ?_
  refine Go.ifNo X2 hx hby k23_30 ((if0 _ _).trans (feq hz).1) ?_
  refine Go.aloadN X2 hx hby k23_33 rfl rfl ?_
  refine Go.iloadN X2 hx hby k23_34 rfl ?_
  refine Go.iloadN X2 hx hby k23_35 rfl ?_
  refine Go.callS (W := 0) (y := y_22) (argsL := [(.ref a), (.int 0), (.int 1)]) (rest := []) X2 hx hZ hown (own_t hw 23 rfl) (own_t hw 24 rfl) (own_t hw 25 rfl) (own_t hw 26 rfl) (by decide) (own_rmC311 l Z a0 hw a ka c0 c1 c2 cz G n0 h0 Z0 OZ SB hz SA SH SL SG hG VA r0 r1 r2 gq0) e2 (by rw [hml]; rfl) (lenOf own_dsc13 rfl) (hb hby k23_36) rfl (Nat.le_of_eq rfl) (by decide) (by decide) (by decide) (by decide) fun _ T3 L3 X3 q3 => ?_
  obtain ⟨b3, k3, rfl, N3q, K3, g3, V3⟩ := q3
  have N3 := Fr.app (Fr.nil n0) N3q
  have sz3 := Nat.le_trans Z0 K3.1
  have kp3 := (Keep.refl h0 [x]).trans K3 all0
  have ne_b3 : b3 ≠ x := Nat.ne_of_gt (Nat.lt_of_lt_of_le EX.lt g3)
  show Go p e below _ T3 (mkF m 39 _ [(.ref b3)])
  refine Go.astore X3 hx hby k23_39 rfl (l' := #[.val (.ref x), .val (.ref a), .val (.int 0), .val (.int 1), .val .null, .val (.ref b3)]) rfl ?_
  refine Go.aloadN X3 hx hby k23_41 rfl rfl ?_
  refine Go.aload X3 hx hby k23_42 rfl rfl ?_
  refine Go.iloadN X3 hx hby k23_44 rfl ?_
  refine Go.callSP (W := 1) (y := y_20) (argsL := [(.ref b3), (.int 1)]) (rest := [(.ref x)]) (r := some (.int 0)) X3 hx hZ hown (own_t hw 31 rfl) (own_t hw 32 rfl) (own_t hw 25 rfl) (own_t hw 33 rfl) (by decide) (own_rmCd01 l Z a0 hw b3 k3 c0 c1 c2 T3.heap V3) rfl (by rw [hml]; rfl) (lenOf own_dsc14 rfl) (hb hby k23_45) rfl (Nat.le_of_eq rfl) (by decide) (by decide) (by decide) (by decide) fun T4 X4 e4 => ?_
  show Go p e below _ T4 (mkF m 48 _ [(.int 0), (.ref x)])
  refine Go.putf X4 hx hZ hown (own_t hw 34 rfl) Via.refl e4 (FC.keep K3 nin0) (EX.keep K3) (Or.inr ⟨(own_t hw 35 rfl), rfl, hnm⟩) (own_t hw 9 rfl) (ty := .byte) (by decide) rfl (fits_nar_byte _) (hb hby k23_48) fun T5 h5 X5 e5 W5 F5 A5 => ?_
  have sz5 := Nat.le_trans sz3 (Keep.of_wr W5).1
  have kp5 := kp3.wr W5 own_i0
  have N5 := Fr.snoc X5 N3 gx
  refine Go.aloadN X5 hx hby k23_51 rfl rfl ?_
  refine Go.aload X5 hx hby k23_52 rfl rfl ?_
  refine Go.putf X5 hx hZ hown (own_t hw 36 rfl) Via.refl e5 ((FV.keep K3 nin0).other W5 (Or.inr (slot_ne (Or.inr (own_t hw 37 rfl)) (Or.inr (own_t hw 35 rfl)) (by decide) (t := (.array .byte)) (t' := .byte) (by decide) (by decide)))) A5 (Or.inr ⟨(own_t hw 37 rfl), rfl, hnm⟩) (own_t hw 9 rfl) (ty := (.array .byte)) (by decide) rfl rfl (hb hby k23_54) fun T6 h6 X6 e6 W6 F6 A6 => ?_
  have sz6 := Nat.le_trans sz5 (Keep.of_wr W6).1
  have kp6 := kp5.wr W6 own_i0
  have N6 := Fr.snoc X6 N5 gx
  exact Go.retV X6 hx hlk hret (hb hby k23_57) (by decide) (by decide) (by rw [e6]; exact ⟨rfl, N6, kp6, A6, (F5.other W6 (Or.inr (slot_ne (Or.inr (own_t hw 35 rfl)) (Or.inr (own_t hw 37 rfl)) (by decide) (t := .byte) (t' := (.array .byte)) (by decide) (by decide)))), b3, k3, F6, ((V3.other W5 ne_b3).other W6 ne_b3)⟩)
abbrev own_rmS111_Q (Z : State) (x a : Addr) (ka : ClassId) (c0 c1 c2 : Int32) (cz : Int32) (G : Value) (n0 : Nat) (h0 : Heap) : Option Value → Heap → List Loc → Prop := fun v h L => v = none ∧ Fr n0 L ∧ Keep h0 h [x] ∧ Exa Z h x "java/lang/String" ∧ Fld Z h x "java/lang/String" "coder" "B" (.int 0) ∧ ∃ t kb, Fld Z h x "java/lang/String" "value" "[B" (.ref t) ∧ Arv Z h t kb .byte 1 [(.int (lo8 c0))] (.int 0)
theorem own_rmS111 (l : Launch) (Z : State) (a0 : Array Value) (hw : ∀ d ∈ tables_1, d.before a0 Z = true) (x a : Addr) (ka : ClassId) (c0 c1 c2 : Int32) (cz : Int32) (G : Value) (n0 : Nat) (h0 : Heap) (Z0 : n0 ≤ h0.size) (OZ : Old Z n0 h0) (SB : own_SB Z Z.heap cz) (hz : ¬ cz = (0 : Int32)) (SA : own_SA Z Z.heap) (SH : own_SH Z Z.heap) (SL : own_SL Z Z.heap) (SG : own_SG Z Z.heap G) (hG : G.isRef = true) (gx : n0 ≤ x) (hne : a ≠ x) (EX : Exa Z h0 x "java/lang/String") (FV : Fld Z h0 x "java/lang/String" "value" "[B" .null) (FC : Fld Z h0 x "java/lang/String" "coder" "B" (.int 0)) (VA : Arv Z h0 a ka .char 1 [(.int c0)] (.int 0)) (r0 : own_C c0) (r1 : own_C c1) (r2 : own_C c2) (gq0 : ¬ (255 : Int32) < c0) :
    MetAt l Z y_24 jdk_42_method_3_code 2 none ({ frames := 5, cells := 2, slots := 3, locals := 74 } : Room) #[(.ref x), (.ref a)] h0 ((own_rmS111_Q Z x a ka c0 c1 c2 cz G n0 h0)) := by
  refine goBodyM (plainFor_of_name (by first | (simp [plainName, overriddenIn]; done) | decide +kernel)) ?_
  intro p e s m below meth c T0 hx hZ hby hml hown hnm hret hlk X0 e0
  have hown : s.vm.findClass "java/lang/String" = some m.cls := hown
  refine Go.cast (g' := mkF m 0 #[.val (.ref x), .val (.ref a)] []) (by first | (simp [entryFrame, mkF, argsToLocals, Value.category]; done) | rfl) ?_
  show Go p e below _ T0 (mkF m 0 _ [])
  refine Go.aloadN X0 hx hby k24_0 rfl rfl ?_
  refine Go.aloadN X0 hx hby k24_1 rfl rfl ?_
  refine Go.iconst 0 X0 hx hby k24_2 rfl ?_
  refine Go.aloadN X0 hx hby k24_3 rfl rfl ?_
  refine Go.len X0 hx hZ e0 VA (hb hby k24_4) ?_
  refine Go.aconstNull X0 hx hby k24_5 ?_
  refine Go.callI (W := 0) (y := y_23) (a := x) (argsL := [(.ref a), (.int 0), (.int 1), .null]) (rest := []) X0 hx hZ rfl hown (own_t hw 15 rfl) (own_t hw 16 rfl) (own_t hw 10 rfl) (own_t hw 18 rfl) (by decide) (own_rmS411 l Z a0 hw x a ka c0 c1 c2 cz G n0 h0 Z0 OZ SB hz SA SH SL SG hG gx hne EX FV FC VA r0 r1 r2 gq0) e0 (by rw [hml]; rfl) (lenOf own_dsc15 rfl) (hb hby k24_6) rfl (Nat.le_of_eq rfl) (by decide) (by decide) (by decide) (by decide) fun _ T1 L1 X1 q1 => ?_
  obtain ⟨rfl, N1q, K1, A1, C1, t1, kt1, D1, V1⟩ := q1
  have N1 := Fr.app (Fr.nil n0) N1q
  have sz1 := Nat.le_trans Z0 K1.1
  have kp1 := (Keep.refl h0 [x]).trans K1 (allS own_i0 all0)
  show Go p e below _ T1 (mkF m 9 _ [])
  exact Go.retV X1 hx hlk hret (hb hby k24_9) (by decide) (by decide) ⟨rfl, N1, kp1, A1, C1, t1, kt1, D1, V1⟩
abbrev own_rmPC20_Q (Z : State) (t : Addr) (kt : ClassId) (cc b0 b1 b2 b3 : Int32) (n0 : Nat) (h0 : Heap) : Option Value → Heap → List Loc → Prop := fun v h L => v = none ∧ Fr n0 L ∧ Keep h0 h [t] ∧ Arv Z h t kt .byte 4 [(.int (lo8 cc)), (.int (hi8 cc)), (.int b2), (.int b3)] (.int 0)
theorem own_rmPC20 (l : Launch) (Z : State) (a0 : Array Value) (hw : ∀ d ∈ tables_1, d.before a0 Z = true) (t : Addr) (kt : ClassId) (cc b0 b1 b2 b3 : Int32) (n0 : Nat) (h0 : Heap) (Z0 : n0 ≤ h0.size) (gt : n0 ≤ t) (VT : Arv Z h0 t kt .byte 4 [(.int b0), (.int b1), (.int b2), (.int b3)] (.int 0)) (SA : own_SA Z h0) (SH : own_SH Z h0) (SL : own_SL Z h0) :
    MetAt l Z y_16 jdk_52_method_4_code 3 none ({ frames := 0, cells := 0, slots := 0, locals := 0 } : Room) #[(.ref t), (.int 0), (.int cc)] h0 ((own_rmPC20_Q Z t kt cc b0 b1 b2 b3 n0 h0)) := by
  refine goBodyM (plainFor_of_name (by first | (simp [plainName, overriddenIn]; done) | decide +kernel)) ?_
  intro p e s m below meth c T0 hx hZ hby hml hown hnm hret hlk X0 e0
  have hown : s.vm.findClass "java/lang/StringUTF16" = some m.cls := hown
  refine Go.cast (g' := mkF m 0 #[.val (.ref t), .val (.int 0), .val (.int cc)] []) (by first | (simp [entryFrame, mkF, argsToLocals, Value.category]; done) | rfl) ?_
  show Go p e below _ T0 (mkF m 0 _ [])
  refine Go.gets X0 hx hZ hown (own_t hw 101 rfl) Via.refl e0 SA (hb hby k16_0) fun T1 X1 e1 => ?_
  refine Go.ifYes 28 X1 hx hby k16_3 ((if0 _ _).trans (feq (by decide : ¬ ((1 : Int32) = (0 : Int32)))).2) (by decide) (by decide) ?_
  refine Go.iloadN X1 hx hby k16_28 rfl ?_
  refine Go.iconst 1 X1 hx hby k16_29 rfl ?_
  refine Go.ishl (v := 0) X1 hx hby k16_30 rfl ?_
  refine Go.istoreN X1 hx hby k16_31 (l' := #[.val (.ref t), .val (.int 0), .val (.int cc)]) rfl ?_
  refine Go.aloadN X1 hx hby k16_32 rfl rfl ?_
  refine Go.iloadN X1 hx hby k16_33 rfl ?_
  refine Go.iinc X1 hx hby k16_34 rfl (l' := #[.val (.ref t), .val (.int 1), .val (.int cc)]) rfl ?_
  refine Go.iloadN X1 hx hby k16_37 rfl ?_
  refine Go.gets X1 hx hZ hown (own_t hw 102 rfl) Via.refl e1 SH (hb hby k16_38) fun T2 X2 e2 => ?_
  refine Go.ishr X2 hx hby k16_41 rfl ?_
  refine Go.i2b X2 hx hby k16_42 rfl ?_
  refine Go.bastore X2 hx hZ e2 VT ⟨by decide, by decide⟩ 0 rfl (Nat.le_of_ble_eq_true rfl) (hb hby k16_43) fun T3 h3 X3 e3 W3 V3 => ?_
  have sz3 := Nat.le_trans Z0 (Keep.of_wr W3).1
  have kp3 := (Keep.refl h0 [t]).wr W3 own_i0
  have N3 := Fr.snoc X3 (Fr.nil n0) gt
  have V3 : Arv Z h3 t kt .byte (4 : Int32) [(.int (nar .byte ((cc >>> ((0 : Int32) &&& 31)).toInt8.toInt32))), (.int b1), (.int b2), (.int b3)] (.int 0) := V3
  show Go p e below _ T3 (mkF m 44 _ [])
  refine Go.aloadN X3 hx hby k16_44 rfl rfl ?_
  refine Go.iloadN X3 hx hby k16_45 rfl ?_
  refine Go.iloadN X3 hx hby k16_46 rfl ?_
  refine Go.gets X3 hx hZ hown (own_t hw 103 rfl) Via.refl e3 (SL.wr W3) (hb hby k16_47) fun T4 X4 e4 => ?_
  refine Go.ishr X4 hx hby k16_50 rfl ?_
  refine Go.i2b X4 hx hby k16_51 rfl ?_
  refine Go.bastore X4 hx hZ e4 V3 ⟨by decide, by decide⟩ 1 rfl (Nat.le_of_ble_eq_true rfl) (hb hby k16_52) fun T5 h5 X5 e5 W5 V5 => ?_
  have sz5 := Nat.le_trans sz3 (Keep.of_wr W5).1
  have kp5 := kp3.wr W5 own_i0
  have N5 := Fr.snoc X5 N3 gt
  have V5 : Arv Z h5 t kt .byte (4 : Int32) [(.int (nar .byte ((cc >>> ((0 : Int32) &&& 31)).toInt8.toInt32))), (.int (nar .byte ((cc >>> ((8 : Int32) &&& 31)).toInt8.toInt32))), (.int b2), (.int b3)] (.int 0) := V5
  exact Go.retV X5 hx hlk hret (hb hby k16_53) (by decide) (by decide) (by rw [e5]; exact ⟨rfl, N5, kp5, by have q := V5; rw [own_w0, own_w1] at q; exact q⟩)
abbrev own_rmPC21_Q (Z : State) (t : Addr) (kt : ClassId) (cc b0 b1 b2 b3 : Int32) (n0 : Nat) (h0 : Heap) : Option Value → Heap → List Loc → Prop := fun v h L => v = none ∧ Fr n0 L ∧ Keep h0 h [t] ∧ Arv Z h t kt .byte 4 [(.int b0), (.int b1), (.int (lo8 cc)), (.int (hi8 cc))] (.int 0)
theorem own_rmPC21 (l : Launch) (Z : State) (a0 : Array Value) (hw : ∀ d ∈ tables_1, d.before a0 Z = true) (t : Addr) (kt : ClassId) (cc b0 b1 b2 b3 : Int32) (n0 : Nat) (h0 : Heap) (Z0 : n0 ≤ h0.size) (gt : n0 ≤ t) (VT : Arv Z h0 t kt .byte 4 [(.int b0), (.int b1), (.int b2), (.int b3)] (.int 0)) (SA : own_SA Z h0) (SH : own_SH Z h0) (SL : own_SL Z h0) :
    MetAt l Z y_16 jdk_52_method_4_code 3 none ({ frames := 0, cells := 0, slots := 0, locals := 0 } : Room) #[(.ref t), (.int 1), (.int cc)] h0 ((own_rmPC21_Q Z t kt cc b0 b1 b2 b3 n0 h0)) := by
  refine goBodyM (plainFor_of_name (by first | (simp [plainName, overriddenIn]; done) | decide +kernel)) ?_
  intro p e s m below meth c T0 hx hZ hby hml hown hnm hret hlk X0 e0
  have hown : s.vm.findClass "java/lang/StringUTF16" = some m.cls := hown
  refine Go.cast (g' := mkF m 0 #[.val (.ref t), .val (.int 1), .val (.int cc)] []) (by first | (simp [entryFrame, mkF, argsToLocals, Value.category]; done) | rfl) ?_
  show Go p e below _ T0 (mkF m 0 _ [])
  refine Go.gets X0 hx hZ hown (own_t hw 101 rfl) Via.refl e0 SA (hb hby k16_0) fun T1 X1 e1 => ?_
  refine Go.ifYes 28 X1 hx hby k16_3 ((if0 _ _).trans (feq (by decide : ¬ ((1 : Int32) = (0 : Int32)))).2) (by decide) (by decide) ?_
  refine Go.iloadN X1 hx hby k16_28 rfl ?_
  refine Go.iconst 1 X1 hx hby k16_29 rfl ?_
  refine Go.ishl (v := 2) X1 hx hby k16_30 rfl ?_
  refine Go.istoreN X1 hx hby k16_31 (l' := #[.val (.ref t), .val (.int 2), .val (.int cc)]) rfl ?_
  refine Go.aloadN X1 hx hby k16_32 rfl rfl ?_
  refine Go.iloadN X1 hx hby k16_33 rfl ?_
  refine Go.iinc X1 hx hby k16_34 rfl (l' := #[.val (.ref t), .val (.int 3), .val (.int cc)]) rfl ?_
  refine Go.iloadN X1 hx hby k16_37 rfl ?_
  refine Go.gets X1 hx hZ hown (own_t hw 102 rfl) Via.refl e1 SH (hb hby k16_38) fun T2 X2 e2 => ?_
  refine Go.ishr X2 hx hby k16_41 rfl ?_
  refine Go.i2b X2 hx hby k16_42 rfl ?_
  refine Go.bastore X2 hx hZ e2 VT ⟨by decide, by decide⟩ 2 rfl (Nat.le_of_ble_eq_true rfl) (hb hby k16_43) fun T3 h3 X3 e3 W3 V3 => ?_
  have sz3 := Nat.le_trans Z0 (Keep.of_wr W3).1
  have kp3 := (Keep.refl h0 [t]).wr W3 own_i0
  have N3 := Fr.snoc X3 (Fr.nil n0) gt
  have V3 : Arv Z h3 t kt .byte (4 : Int32) [(.int b0), (.int b1), (.int (nar .byte ((cc >>> ((0 : Int32) &&& 31)).toInt8.toInt32))), (.int b3)] (.int 0) := V3
  show Go p e below _ T3 (mkF m 44 _ [])
  refine Go.aloadN X3 hx hby k16_44 rfl rfl ?_
  refine Go.iloadN X3 hx hby k16_45 rfl ?_
  refine Go.iloadN X3 hx hby k16_46 rfl ?_
  refine Go.gets X3 hx hZ hown (own_t hw 103 rfl) Via.refl e3 (SL.wr W3) (hb hby k16_47) fun T4 X4 e4 => ?_
  refine Go.ishr X4 hx hby k16_50 rfl ?_
  refine Go.i2b X4 hx hby k16_51 rfl ?_
  refine Go.bastore X4 hx hZ e4 V3 ⟨by decide, by decide⟩ 3 rfl (Nat.le_of_ble_eq_true rfl) (hb hby k16_52) fun T5 h5 X5 e5 W5 V5 => ?_
  have sz5 := Nat.le_trans sz3 (Keep.of_wr W5).1
  have kp5 := kp3.wr W5 own_i0
  have N5 := Fr.snoc X5 N3 gt
  have V5 : Arv Z h5 t kt .byte (4 : Int32) [(.int b0), (.int b1), (.int (nar .byte ((cc >>> ((0 : Int32) &&& 31)).toInt8.toInt32))), (.int (nar .byte ((cc >>> ((8 : Int32) &&& 31)).toInt8.toInt32)))] (.int 0) := V5
  exact Go.retV X5 hx hlk hret (hb hby k16_53) (by decide) (by decide) (by rw [e5]; exact ⟨rfl, N5, kp5, by have q := V5; rw [own_w0, own_w1] at q; exact q⟩)
theorem own_rmNL2 (l : Launch) (Z : State) (a0 : Array Value) (hw : ∀ d ∈ tables_1, d.before a0 Z = true)  (h0 : Heap)  :
    MetAt l Z y_17 jdk_52_method_3_code 1 (some .int) ({ frames := 0, cells := 0, slots := 0, locals := 0 } : Room) #[(.int 2)] h0 (PQ h0 (some (.int 4))) := by
  refine goBodyM (plainFor_of_name (by first | (simp [plainName, overriddenIn]; done) | decide +kernel)) ?_
  intro p e s m below meth c T0 hx hZ hby hml hown hnm hret hlk X0 e0
  have hown : s.vm.findClass "java/lang/StringUTF16" = some m.cls := hown
  refine Go.cast (g' := mkF m 0 #[.val (.int 2)] []) (by first | (simp [entryFrame, mkF, argsToLocals, Value.category]; done) | rfl) ?_
  show Go p e below _ T0 (mkF m 0 _ [])
  refine Go.iloadN X0 hx hby k17_0 rfl ?_
  refine Go.ifYes 12 X0 hx hby k17_1 ((if0 _ _).trans (flt (by decide : ¬ ((2 : Int32) < (0 : Int32)))).2.1) (by decide) (by decide) ?_
  refine Go.iloadN X0 hx hby k17_12 rfl ?_
  refine Go.of (X0.ldcInt hx hown (mvT hZ (own_t hw 97 rfl)) (g := (mkF m 13 #[.val (.int 2)] [(.int 2)])) rfl (hb hby k17_13)) ?_
  show Go p e below _ T0 (mkF m 15 _ [(.int 1073741823), (.int 2)])
  refine Go.icmpYes 55 X0 hx hby k17_15 (tlt (by decide : (2 : Int32) < (1073741823 : Int32))).1 (by decide) (by decide) ?_
  refine Go.iloadN X0 hx hby k17_55 rfl ?_
  refine Go.iconst 1 X0 hx hby k17_56 rfl ?_
  refine Go.ishl (v := 4) X0 hx hby k17_57 rfl ?_
  exact Go.retI X0 hx hlk hret (hb hby k17_58) (by decide) (by decide) ⟨rfl, rfl, e0⟩
abbrev own_rmNF2_Q (Z : State) (zz : Nat) (h0 : Heap) : Option Value → Heap → List Loc → Prop := fun v h L => ∃ b k, v = some (.ref b) ∧ L = [] ∧ Ext h0 h ∧ b = h0.size ∧ Arv Z h b k .byte 4 [(.int 0), (.int 0), (.int 0), (.int 0)] (.int 0)
theorem own_rmNF2 (l : Launch) (Z : State) (a0 : Array Value) (hw : ∀ d ∈ tables_1, d.before a0 Z = true) (zz : Nat) (h0 : Heap)  :
    MetAt l Z y_18 jdk_52_method_2_code 1 (some (.array .byte)) ({ frames := 1, cells := 1, slots := 4, locals := 12 } : Room) #[(.int 2)] h0 ((own_rmNF2_Q Z zz h0)) := by
  refine goBodyM (plainFor_of_name (by first | (simp [plainName, overriddenIn]; done) | decide +kernel)) ?_
  intro p e s m below meth c T0 hx hZ hby hml hown hnm hret hlk X0 e0
  have hown : s.vm.findClass "java/lang/StringUTF16" = some m.cls := hown
  refine Go.cast (g' := mkF m 0 #[.val (.int 2)] []) (by first | (simp [entryFrame, mkF, argsToLocals, Value.category]; done) | rfl) ?_
  show Go p e below _ T0 (mkF m 0 _ [])
  refine Go.iloadN X0 hx hby k18_0 rfl ?_
  refine Go.callSP (W := 0) (y := y_17) (argsL := [(.int 2)]) (rest := []) (r := some (.int 4)) X0 hx hZ hown (own_t hw 94 rfl) (own_t hw 95 rfl) (own_t hw 25 rfl) (own_t hw 96 rfl) (by decide) (own_rmNL2 l Z a0 hw h0) e0 (by rw [hml]; rfl) (lenOf own_dsc9 rfl) (hb hby k18_1) rfl (Nat.le_of_eq rfl) (by decide) (by decide) (by decide) (by decide) fun T1 X1 e1 => ?_
  show Go p e below _ T1 (mkF m 4 _ [(.int 4)])
  refine Go.newarr X1 hx hZ (own_t hw 27 rfl) e1 4 (by decide) (by decide) (by decide) (by decide) (by decide) (hb hby k18_4) fun T2 h2 b2 k2 g2 X2 e2 E2 V2 => ?_
  have ge_b2 : h0.size ≤ b2 := g2 ▸ (Nat.le_refl _)
  have sz2 := Nat.le_trans (Nat.le_refl _) E2.1
  have V2 : Arv Z h2 b2 k2 .byte (4 : Int32) [(.int 0), (.int 0), (.int 0), (.int 0)] (.int 0) := V2
  exact Go.retA X2 hx hlk hret rfl rfl rfl (hb hby k18_6) (by decide) (by decide) (by rw [e2]; exact ⟨b2, k2, rfl, rfl, E2, g2, V2⟩)
abbrev own_rmTB2_Q (Z : State) (a : Addr) (ka : ClassId) (c0 c1 c2 : Int32) (cz : Int32) (G : Value) (n0 : Nat) (h0 : Heap) : Option Value → Heap → List Loc → Prop := fun v h L => ∃ b k, v = some (.ref b) ∧ Fr n0 L ∧ Keep h0 h [] ∧ h0.size ≤ b ∧ Arv Z h b k .byte 4 [(.int (lo8 c0)), (.int (hi8 c0)), (.int (lo8 c1)), (.int (hi8 c1))] (.int 0)
theorem own_rmTB2 (l : Launch) (Z : State) (a0 : Array Value) (hw : ∀ d ∈ tables_1, d.before a0 Z = true) (a : Addr) (ka : ClassId) (c0 c1 c2 : Int32) (cz : Int32) (G : Value) (n0 : Nat) (h0 : Heap) (Z0 : n0 ≤ h0.size) (OZ : Old Z n0 h0) (SB : own_SB Z Z.heap cz) (hz : ¬ cz = (0 : Int32)) (SA : own_SA Z Z.heap) (SH : own_SH Z Z.heap) (SL : own_SL Z Z.heap) (SG : own_SG Z Z.heap G) (hG : G.isRef = true) (VA : Arv Z h0 a ka .char 2 [(.int c0), (.int c1)] (.int 0)) :
    MetAt l Z y_19 jdk_52_method_14_code 5 (some (.array .byte)) ({ frames := 2, cells := 1, slots := 4, locals := 24 } : Room) #[(.ref a), (.int 0), (.int 2)] h0 ((own_rmTB2_Q Z a ka c0 c1 c2 cz G n0 h0)) := by
  refine goBodyM (plainFor_of_name (by first | (simp [plainName, overriddenIn]; done) | decide +kernel)) ?_
  intro p e s m below meth c T0 hx hZ hby hml hown hnm hret hlk X0 e0
  have hown : s.vm.findClass "java/lang/StringUTF16" = some m.cls := hown
  refine Go.cast (g' := mkF m 0 #[.val (.ref a), .val (.int 0), .val (.int 2), .unset, .unset] []) (by first | (simp [entryFrame, mkF, argsToLocals, Value.category]; done) | rfl) ?_
  show Go p e below _ T0 (mkF m 0 _ [])
  refine Go.iloadN X0 hx hby k19_0 rfl ?_
  refine Go.callS (W := 0) (y := y_18) (argsL := [(.int 2)]) (rest := []) X0 hx hZ hown (own_t hw 91 rfl) (own_t hw 92 rfl) (own_t hw 25 rfl) (own_t hw 93 rfl) (by decide) (own_rmNF2 l Z a0 hw 0 h0) e0 (by rw [hml]; rfl) (lenOf own_dsc10 rfl) (hb hby k19_1) rfl (Nat.le_of_eq rfl) (by decide) (by decide) (by decide) (by decide) fun _ T1 L1 X1 q1 => ?_
  obtain ⟨b1, k1, rfl, rfl, E1, g1, V1⟩ := q1
  rw [List.append_nil] at X1
  have lt_a_b1 : a < b1 := Nat.lt_of_lt_of_le VA.lt (Nat.le_of_eq g1.symm)
  have ge_b1 : n0 ≤ b1 := g1 ▸ Z0
  have hs_b1 : h0.size ≤ b1 := g1 ▸ (Keep.refl h0 []).1
  have sz1 := Nat.le_trans Z0 E1.1
  have kp1 := (Keep.refl h0 []).ext E1
  show Go p e below _ T1 (mkF m 4 _ [(.ref b1)])
  refine Go.astoreN X1 hx hby k19_4 rfl (l' := #[.val (.ref a), .val (.int 0), .val (.int 2), .val (.ref b1), .unset]) rfl ?_
  refine Go.iconst 0 X1 hx hby k19_5 rfl ?_
  refine Go.istore X1 hx hby k19_6 (l' := #[.val (.ref a), .val (.int 0), .val (.int 2), .val (.ref b1), .val (.int 0)]) rfl ?_
  refine Go.iload X1 hx hby k19_8 rfl ?_
  refine Go.iloadN X1 hx hby k19_10 rfl ?_
  refine Go.icmpNo X1 hx hby k19_11 (tlt (by decide : (0 : Int32) < (2 : Int32))).2.1 ?_
  refine Go.aloadN X1 hx hby k19_14 rfl rfl ?_
  refine Go.iload X1 hx hby k19_15 rfl ?_
  refine Go.aloadN X1 hx hby k19_17 rfl rfl ?_
  refine Go.iloadN X1 hx hby k19_18 rfl ?_
  refine Go.caload X1 hx hZ rfl (VA.ext E1) ⟨by decide, by decide⟩ (v := (.int c0)) rfl (hb hby k19_19) ?_
  refine Go.callS (W := 0) (y := y_16) (argsL := [(.ref b1), (.int 0), (.int c0)]) (rest := []) X1 hx hZ hown (own_t hw 98 rfl) (own_t hw 99 rfl) (own_t hw 25 rfl) (own_t hw 100 rfl) (by decide) (own_rmPC20 l Z a0 hw b1 k1 c0 (0 : Int32) (0 : Int32) (0 : Int32) (0 : Int32) n0 T1.heap sz1 ge_b1 V1 (SA.ext (OZ.ext E1).2) (SH.ext (OZ.ext E1).2) (SL.ext (OZ.ext E1).2)) rfl (by rw [hml]; rfl) (lenOf own_dsc11 rfl) (hb hby k19_20) rfl (Nat.le_of_eq rfl) (by decide) (by decide) (by decide) (by decide) fun _ T2 L2 X2 q2 => ?_
  obtain ⟨rfl, N2q, K2, V2⟩ := q2
  have N2 := Fr.app (Fr.nil n0) N2q
  have sz2 := Nat.le_trans sz1 K2.1
  have kp2 := kp1.trans K2 (allS (Or.inr hs_b1) all0)
  show Go p e below _ T2 (mkF m 23 _ [])
  refine Go.iinc X2 hx hby k19_23 rfl (l' := #[.val (.ref a), .val (.int 1), .val (.int 2), .val (.ref b1), .val (.int 0)]) rfl ?_
  refine Go.iinc X2 hx hby k19_26 rfl (l' := #[.val (.ref a), .val (.int 1), .val (.int 2), .val (.ref b1), .val (.int 1)]) rfl ?_
  refine Go.goto 8 X2 hx hby k19_29 (by decide) (by decide) ?_
  refine Go.iload X2 hx hby k19_8 rfl ?_
  refine Go.iloadN X2 hx hby k19_10 rfl ?_
  refine Go.icmpNo X2 hx hby k19_11 (tlt (by decide : (1 : Int32) < (2 : Int32))).2.1 ?_
  refine Go.aloadN X2 hx hby k19_14 rfl rfl ?_
  refine Go.iload X2 hx hby k19_15 rfl ?_
  refine Go.aloadN X2 hx hby k19_17 rfl rfl ?_
  refine Go.iloadN X2 hx hby k19_18 rfl ?_
  refine Go.caload X2 hx hZ rfl ((VA.ext E1).keep K2 (ninS (Nat.ne_of_lt lt_a_b1) nin0)) ⟨by decide, by decide⟩ (v := (.int c1)) rfl (hb hby k19_19) ?_
  refine Go.callS (W := 0) (y := y_16) (argsL := [(.ref b1), (.int 1), (.int c1)]) (rest := []) X2 hx hZ hown (own_t hw 98 rfl) (own_t hw 99 rfl) (own_t hw 25 rfl) (own_t hw 100 rfl) (by decide) (own_rmPC21 l Z a0 hw b1 k1 c1 (lo8 c0) (hi8 c0) (0 : Int32) (0 : Int32) n0 T2.heap sz2 ge_b1 V2 (SA.ext ((OZ.ext E1).keep K2 (allS ge_b1 all0)).2) (SH.ext ((OZ.ext E1).keep K2 (allS ge_b1 all0)).2) (SL.ext ((OZ.ext E1).keep K2 (allS ge_b1 all0)).2)) rfl (by rw [hml]; rfl) (lenOf own_dsc11 rfl) (hb hby k19_20) rfl (Nat.le_of_eq rfl) (by decide) (by decide) (by decide) (by decide) fun _ T3 L3 X3 q3 => ?_
  obtain ⟨rfl, N3q, K3, V3⟩ := q3
  have N3 := Fr.app N2 N3q
  have sz3 := Nat.le_trans sz2 K3.1
  have kp3 := kp2.trans K3 (allS (Or.inr hs_b1) all0)
  show Go p e below _ T3 (mkF m 23 _ [])
  refine Go.iinc X3 hx hby k19_23 rfl (l' := #[.val (.ref a), .val (.int 2), .val (.int 2), .val (.ref b1), .val (.int 1)]) rfl ?_
  refine Go.iinc X3 hx hby k19_26 rfl (l' := #[.val (.ref a), .val (.int 2), .val (.int 2), .val (.ref b1), .val (.int 2)]) rfl ?_
  refine Go.goto 8 X3 hx hby k19_29 (by decide) (by decide) ?_
  refine Go.iload X3 hx hby k19_8 rfl ?_
  refine Go.iloadN X3 hx hby k19_10 rfl ?_
  refine Go.icmpYes 32 X3 hx hby k19_11 (flt (by decide : ¬ ((2 : Int32) < (2 : Int32)))).2.1 (by decide) (by decide) ?_
  refine Go.aloadN X3 hx hby k19_32 rfl rfl ?_
  exact Go.retA X3 hx hlk hret rfl rfl rfl (hb hby k19_33) (by decide) (by decide) (by exact ⟨b1, k1, rfl, N3, kp3, hs_b1, V3⟩)
theorem own_rmCd02 (l : Launch) (Z : State) (a0 : Array Value) (hw : ∀ d ∈ tables_1, d.before a0 Z = true) (t : Addr) (kt : ClassId) (c0 c1 c2 : Int32) (h0 : Heap) (VT : Arv Z h0 t kt .byte 2 [(.int (lo8 c0)), (.int (lo8 c1))] (.int 0)) :
    MetAt l Z y_20 jdk_52_method_15_code 2 (some .byte) ({ frames := 0, cells := 0, slots := 0, locals := 0 } : Room) #[(.ref t), (.int 2)] h0 (PQ h0 (some (.int 0))) := by
  refine goBodyM (plainFor_of_name (by first | (simp [plainName, overriddenIn]; done) | decide +kernel)) ?_
  intro p e s m below meth c T0 hx hZ hby hml hown hnm hret hlk X0 e0
  have hown : s.vm.findClass "java/lang/StringUTF16" = some m.cls := hown
  refine Go.cast (g' := mkF m 0 #[.val (.ref t), .val (.int 2)] []) (by first | (simp [entryFrame, mkF, argsToLocals, Value.category]; done) | rfl) ?_
  show Go p e below _ T0 (mkF m 0 _ [])
  refine Go.iloadN X0 hx hby k20_0 rfl ?_
  refine Go.aloadN X0 hx hby k20_1 rfl rfl ?_
  refine Go.len X0 hx hZ e0 VT (hb hby k20_2) ?_
  refine Go.isub (v := 0) X0 hx hby k20_3 rfl ?_
  refine Go.bipush 31 X0 hx hby k20_4 rfl ?_
  refine Go.iushr (v := 0) X0 hx hby k20_6 rfl ?_
  refine Go.i2b (v := 0) X0 hx hby k20_7 rfl ?_
  exact Go.retN X0 hx hlk (t := .byte) hret (by simp) (hb hby k20_8) (by decide) (by decide) ⟨rfl, rfl, e0⟩
theorem own_rmCd12 (l : Launch) (Z : State) (a0 : Array Value) (hw : ∀ d ∈ tables_1, d.before a0 Z = true) (t : Addr) (kt : ClassId) (c0 c1 c2 : Int32) (h0 : Heap) (VT : Arv Z h0 t kt .byte 4 [(.int (lo8 c0)), (.int (hi8 c0)), (.int (lo8 c1)), (.int (hi8 c1))] (.int 0)) :
    MetAt l Z y_20 jdk_52_method_15_code 2 (some .byte) ({ frames := 0, cells := 0, slots := 0, locals := 0 } : Room) #[(.ref t), (.int 2)] h0 (PQ h0 (some (.int 1))) := by
  refine goBodyM (plainFor_of_name (by first | (simp [plainName, overriddenIn]; done) | decide +kernel)) ?_
  intro p e s m below meth c T0 hx hZ hby hml hown hnm hret hlk X0 e0
  have hown : s.vm.findClass "java/lang/StringUTF16" = some m.cls := hown
  refine Go.cast (g' := mkF m 0 #[.val (.ref t), .val (.int 2)] []) (by first | (simp [entryFrame, mkF, argsToLocals, Value.category]; done) | rfl) ?_
  show Go p e below _ T0 (mkF m 0 _ [])
  refine Go.iloadN X0 hx hby k20_0 rfl ?_
  refine Go.aloadN X0 hx hby k20_1 rfl rfl ?_
  refine Go.len X0 hx hZ e0 VT (hb hby k20_2) ?_
  refine Go.isub (v := (-2)) X0 hx hby k20_3 rfl ?_
  refine Go.bipush 31 X0 hx hby k20_4 rfl ?_
  refine Go.iushr (v := 1) X0 hx hby k20_6 rfl ?_
  refine Go.i2b (v := 1) X0 hx hby k20_7 rfl ?_
  exact Go.retN X0 hx hlk (t := .byte) hret (by simp) (hb hby k20_8) (by decide) (by decide) ⟨rfl, rfl, e0⟩
abbrev own_rmC520_Q (Z : State) (a : Addr) (ka : ClassId) (d : Addr) (kd : ClassId) (c0 c1 c2 : Int32) (n0 : Nat) (h0 : Heap) : Option Value → Heap → List Loc → Prop := fun v h L => v = some (.int 0) ∧ Fr n0 L ∧ Keep h0 h [d]
theorem own_rmC520 (l : Launch) (Z : State) (a0 : Array Value) (hw : ∀ d ∈ tables_1, d.before a0 Z = true) (a : Addr) (ka : ClassId) (d : Addr) (kd : ClassId) (c0 c1 c2 : Int32) (n0 : Nat) (h0 : Heap) (Z0 : n0 ≤ h0.size) (gd : n0 ≤ d) (hne : a ≠ d) (VA : Arv Z h0 a ka .char 2 [(.int c0), (.int c1)] (.int 0)) (VD : Arv Z h0 d kd .byte 2 [(.int 0), (.int 0)] (.int 0))  (gr : (255 : Int32) < c0) :
    MetAt l Z y_21 jdk_52_method_21_code 7 (some .int) ({ frames := 0, cells := 0, slots := 0, locals := 0 } : Room) #[(.ref a), (.int 0), (.ref d), (.int 0), (.int 2)] h0 ((own_rmC520_Q Z a ka d kd c0 c1 c2 n0 h0)) := by
  refine goBodyM (plainFor_of_name (by first | (simp [plainName, overriddenIn]; done) | decide +kernel)) ?_
  intro p e s m below meth c T0 hx hZ hby hml hown hnm hret hlk X0 e0
  have hown : s.vm.findClass "java/lang/StringUTF16" = some m.cls := hown
  refine Go.cast (g' := mkF m 0 #[.val (.ref a), .val (.int 0), .val (.ref d), .val (.int 0), .val (.int 2), .unset, .unset] []) (by first | (simp [entryFrame, mkF, argsToLocals, Value.category]; done) | rfl) ?_
  show Go p e below _ T0 (mkF m 0 _ [])
  refine Go.iconst 0 X0 hx hby k21_0 rfl ?_
  refine Go.istore X0 hx hby k21_1 (l' := #[.val (.ref a), .val (.int 0), .val (.ref d), .val (.int 0), .val (.int 2), .val (.int 0), .unset]) rfl ?_
  refine Go.iload X0 hx hby k21_3 rfl ?_
  refine Go.iload X0 hx hby k21_5 rfl ?_
  refine Go.icmpNo X0 hx hby k21_7 (tlt (by decide : (0 : Int32) < (2 : Int32))).2.1 ?_
  refine Go.aloadN X0 hx hby k21_10 rfl rfl ?_
  refine Go.iloadN X0 hx hby k21_11 rfl ?_
  refine Go.caload X0 hx hZ e0 VA ⟨by decide, by decide⟩ (v := (.int c0)) rfl (hb hby k21_12) ?_
  refine Go.istore X0 hx hby k21_13 (l' := #[.val (.ref a), .val (.int 0), .val (.ref d), .val (.int 0), .val (.int 2), .val (.int 0), .val (.int c0)]) rfl ?_
  refine Go.iload X0 hx hby k21_15 rfl ?_
  refine Go.sipush 255 X0 hx hby k21_17 rfl ?_
  refine Go.icmpNo X0 hx hby k21_20 (tlt gr).2.2.2 ?_
  refine Go.iload X0 hx hby k21_23 rfl ?_
  exact Go.retI X0 hx hlk hret (hb hby k21_25) (by decide) (by decide) (by rw [e0]; exact ⟨rfl, (Fr.nil n0), (Keep.refl h0 [d])⟩)
abbrev own_rmC320_Q (Z : State) (a : Addr) (ka : ClassId) (c0 c1 c2 : Int32) (cz : Int32) (G : Value) (n0 : Nat) (h0 : Heap) : Option Value → Heap → List Loc → Prop := fun v h L => ∃ b k, v = some (.ref b) ∧ Fr n0 L ∧ Keep h0 h [] ∧ h0.size ≤ b ∧ Arv Z h b k .byte 4 [(.int (lo8 c0)), (.int (hi8 c0)), (.int (lo8 c1)), (.int (hi8 c1))] (.int 0)
theorem own_rmC320 (l : Launch) (Z : State) (a0 : Array Value) (hw : ∀ d ∈ tables_1, d.before a0 Z = true) (a : Addr) (ka : ClassId) (c0 c1 c2 : Int32) (cz : Int32) (G : Value) (n0 : Nat) (h0 : Heap) (Z0 : n0 ≤ h0.size) (OZ : Old Z n0 h0) (SB : own_SB Z Z.heap cz) (hz : ¬ cz = (0 : Int32)) (SA : own_SA Z Z.heap) (SH : own_SH Z Z.heap) (SL : own_SL Z Z.heap) (SG : own_SG Z Z.heap G) (hG : G.isRef = true) (VA : Arv Z h0 a ka .char 2 [(.int c0), (.int c1)] (.int 0)) (r0 : own_C c0) (r1 : own_C c1) (r2 : own_C c2)  (gr : (255 : Int32) < c0) :
    MetAt l Z y_22 jdk_52_method_16_code 6 (some (.array .byte)) ({ frames := 3, cells := 2, slots := 6, locals := 40 } : Room) #[(.ref a), (.int 0), (.int 2)] h0 ((own_rmC320_Q Z a ka c0 c1 c2 cz G n0 h0)) := by
  refine goBodyM (plainFor_of_name (by first | (simp [plainName, overriddenIn]; done) | decide +kernel)) ?_
  intro p e s m below meth c T0 hx hZ hby hml hown hnm hret hlk X0 e0
  have hown : s.vm.findClass "java/lang/StringUTF16" = some m.cls := hown
  refine Go.cast (g' := mkF m 0 #[.val (.ref a), .val (.int 0), .val (.int 2), .unset, .unset, .unset] []) (by first | (simp [entryFrame, mkF, argsToLocals, Value.category]; done) | rfl) ?_
  show Go p e below _ T0 (mkF m 0 _ [])
  refine Go.iloadN X0 hx hby k22_0 rfl ?_
  refine Go.newarr X0 hx hZ (own_t hw 27 rfl) e0 2 (by decide) (by decide) (by decide) (by decide) (by decide) (hb hby k22_1) fun T1 h1 b1 k1 g1 X1 e1 E1 V1 => ?_
  have lt_a_b1 : a < b1 := Nat.lt_of_lt_of_le VA.lt (Nat.le_of_eq g1.symm)
  have ge_b1 : n0 ≤ b1 := g1 ▸ Z0
  have hs_b1 : h0.size ≤ b1 := g1 ▸ (Keep.refl h0 []).1
  have sz1 := Nat.le_trans Z0 E1.1
  have kp1 := (Keep.refl h0 []).ext E1
  have V1 : Arv Z h1 b1 k1 .byte (2 : Int32) [(.int 0), (.int 0)] (.int 0) := V1
  refine Go.astoreN X1 hx hby k22_3 rfl (l' := #[.val (.ref a), .val (.int 0), .val (.int 2), .val (.ref b1), .unset, .unset]) rfl ?_
  refine Go.aloadN X1 hx hby k22_4 rfl rfl ?_
  refine Go.iloadN X1 hx hby k22_5 rfl ?_
  refine Go.aloadN X1 hx hby k22_6 rfl rfl ?_
  refine Go.iconst 0 X1 hx hby k22_7 rfl ?_
  refine Go.iloadN X1 hx hby k22_8 rfl ?_
  refine Go.callS (W := 0) (y := y_21) (argsL := [(.ref a), (.int 0), (.ref b1), (.int 0), (.int 2)]) (rest := []) X1 hx hZ hown (own_t hw 28 rfl) (own_t hw 29 rfl) (own_t hw 25 rfl) (own_t hw 30 rfl) (by decide) (own_rmC520 l Z a0 hw a ka b1 k1 c0 c1 c2 n0 h1 sz1 ge_b1 (Nat.ne_of_lt lt_a_b1) (VA.ext E1) V1 gr) e1 (by rw [hml]; rfl) (lenOf own_dsc12 rfl) (hb hby k22_9) rfl (Nat.le_of_eq rfl) (by decide) (by decide) (by decide) (by decide) fun _ T2 L2 X2 q2 => ?_
  obtain ⟨rfl, N2q, K2⟩ := q2
  have N2 := Fr.app (Fr.nil n0) N2q
  have sz2 := Nat.le_trans sz1 K2.1
  have kp2 := kp1.trans K2 (allS (Or.inr hs_b1) all0)
  show Go p e below _ T2 (mkF m 12 _ [(.int 0)])
  refine Go.istore X2 hx hby k22_12 (l' := #[.val (.ref a), .val (.int 0), .val (.int 2), .val (.ref b1), .val (.int 0), .unset]) rfl ?_
  refine Go.iload X2 hx hby k22_14 rfl ?_
  refine Go.iloadN X2 hx hby k22_16 rfl ?_
  refine Go.icmpNo X2 hx hby k22_17 (feq (by decide : ¬ ((0 : Int32) = (2 : Int32)))).1 ?_
  refine Go.aloadN X2 hx hby k22_20 rfl rfl ?_
  refine Go.iloadN X2 hx hby k22_21 rfl ?_
  refine Go.iloadN X2 hx hby k22_22 rfl ?_
  refine Go.callS (W := 0) (y := y_19) (argsL := [(.ref a), (.int 0), (.int 2)]) (rest := []) X2 hx hZ hown (own_t hw 88 rfl) (own_t hw 89 rfl) (own_t hw 25 rfl) (own_t hw 90 rfl) (by decide) (own_rmTB2 l Z a0 hw a ka c0 c1 c2 cz G n0 T2.heap sz2 ((OZ.ext E1).keep K2 (allS ge_b1 all0)) SB hz SA SH SL SG hG ((VA.ext E1).keep K2 (ninS (Nat.ne_of_lt lt_a_b1) nin0))) rfl (by rw [hml]; rfl) (lenOf own_dsc13 rfl) (hb hby k22_23) rfl (Nat.le_of_eq rfl) (by decide) (by decide) (by decide) (by decide) fun _ T3 L3 X3 q3 => ?_
  obtain ⟨b3, k3, rfl, N3q, K3, g3, V3⟩ := q3
  have N3 := Fr.app N2 N3q
  have sz3 := Nat.le_trans sz2 K3.1
  have kp3 := kp2.trans K3 all0
  have hs_b3 : h0.size ≤ b3 := Nat.le_trans (kp2.1) g3
  show Go p e below _ T3 (mkF m 26 _ [(.ref b3)])
  refine Go.astore X3 hx hby k22_26 rfl (l' := #[.val (.ref a), .val (.int 0), .val (.int 2), .val (.ref b1), .val (.int 0), .val (.ref b3)]) rfl ?_
  refine Go.aload X3 hx hby k22_28 rfl rfl ?_
  refine Go.iload X3 hx hby k22_30 rfl ?_
  refine Go.callSP (W := 0) (y := y_7) (argsL := [(.ref b3), (.int 0)]) (rest := []) (r := some (.int c0)) X3 hx hZ hown (own_t hw 104 rfl) (own_t hw 105 rfl) (own_t hw 25 rfl) (own_t hw 106 rfl) (by decide) (own_rmGC l Z a0 hw b3 k3 c0 c1 c2 2 0 T3.heap V3 (SA.ext (((OZ.ext E1).keep K2 (allS ge_b1 all0)).keep K3 all0).2) (SH.ext (((OZ.ext E1).keep K2 (allS ge_b1 all0)).keep K3 all0).2) (SL.ext (((OZ.ext E1).keep K2 (allS ge_b1 all0)).keep K3 all0).2) r0 r1 r2 (by decide) (by decide)) rfl (by rw [hml]; rfl) (lenOf own_dsc0 rfl) (hb hby k22_32) rfl (Nat.le_of_eq rfl) (by decide) (by decide) (by decide) (by decide) fun T4 X4 e4 => ?_
  show Go p e below _ T4 (mkF m 35 _ [(.int c0)])
  refine Go.sipush 255 X4 hx hby k22_35 rfl ?_
  refine Go.icmpYes 54 X4 hx hby k22_38 (tlt gr).2.2.1 (by decide) (by decide) ?_
  refine Go.aload X4 hx hby k22_54 rfl rfl ?_
  exact Go.retA X4 hx hlk hret rfl rfl rfl (hb hby k22_56) (by decide) (by decide) (by rw [e4]; exact ⟨b3, k3, rfl, N3, kp3, hs_b3, V3⟩)
abbrev own_rmS420_Q (Z : State) (x a : Addr) (ka : ClassId) (c0 c1 c2 : Int32) (cz : Int32) (G : Value) (n0 : Nat) (h0 : Heap) : Option Value → Heap → List Loc → Prop := fun v h L => v = none ∧ Fr n0 L ∧ Keep h0 h [x] ∧ Exa Z h x "java/lang/String" ∧ Fld Z h x "java/lang/String" "coder" "B" (.int 1) ∧ ∃ t kb, Fld Z h x "java/lang/String" "value" "[B" (.ref t) ∧ Arv Z h t kb .byte 4 [(.int (lo8 c0)), (.int (hi8 c0)), (.int (lo8 c1)), (.int (hi8 c1))] (.int 0)
theorem own_rmS420 (l : Launch) (Z : State) (a0 : Array Value) (hw : ∀ d ∈ tables_1, d.before a0 Z = true) (x a : Addr) (ka : ClassId) (c0 c1 c2 : Int32) (cz : Int32) (G : Value) (n0 : Nat) (h0 : Heap) (Z0 : n0 ≤ h0.size) (OZ : Old Z n0 h0) (SB : own_SB Z Z.heap cz) (hz : ¬ cz = (0 : Int32)) (SA : own_SA Z Z.heap) (SH : own_SH Z Z.heap) (SL : own_SL Z Z.heap) (SG : own_SG Z Z.heap G) (hG : G.isRef = true) (gx : n0 ≤ x) (hne : a ≠ x) (EX : Exa Z h0 x "java/lang/String") (FV : Fld Z h0 x "java/lang/String" "value" "[B" .null) (FC : Fld Z h0 x "java/lang/String" "coder" "B" (.int 0)) (VA : Arv Z h0 a ka .char 2 [(.int c0), (.int c1)] (.int 0)) (r0 : own_C c0) (r1 : own_C c1) (r2 : own_C c2)  (gr : (255 : Int32) < c0) :
    MetAt l Z y_23 jdk_42_method_149_code 6 none ({ frames := 4, cells := 2, slots := 6, locals := 57 } : Room) #[(.ref x), (.ref a), (.int 0), (.int 2), .null] h0 ((own_rmS420_Q Z x a ka c0 c1 c2 cz G n0 h0)) := by
  refine goBodyM (plainFor_of_name (by first | (simp [plainName, overriddenIn]; done) | decide +kernel)) ?_
  intro p e s m below meth c T0 hx hZ hby hml hown hnm hret hlk X0 e0
  have hown : s.vm.findClass "java/lang/String" = some m.cls := hown
  refine Go.cast (g' := mkF m 0 #[.val (.ref x), .val (.ref a), .val (.int 0), .val (.int 2), .val .null, .unset] []) (by first | (simp [entryFrame, mkF, argsToLocals, Value.category]; done) | rfl) ?_
  show Go p e below _ T0 (mkF m 0 _ [])
  refine Go.aloadN X0 hx hby k23_0 rfl rfl ?_
  refine Go.initObj X0 hx hZ hown (own_t hw 19 rfl) (own_t hw 20 rfl) (own_t hw 21 rfl) e0 (by rw [hml]; rfl) (hb hby k23_1) (by decide) (W := 0) (Nat.le_of_eq rfl) (by decide) fun T1 X1 e1 => ?_
  show Go p e below _ T1 (mkF m 4 _ [])
  refine Go.iloadN X1 hx hby k23_4 rfl ?_
  refine Go.ifYes 27 X1 hx hby k23_5 ((if0 _ _).trans (feq (by decide : ¬ ((2 : Int32) = (0 : Int32)))).2) (by decide) (by decide) ?_
  refine Go.gets X1 hx hZ hown (own_t hw 22 rfl) Via.refl e1 (SB.ext OZ.2) (hb hby k23_27) fun T2 X2 e2 => ?_
  refine Go.ifNo X2 hx hby k23_30 ((if0 _ _).trans (feq hz).1) ?_
  refine Go.aloadN X2 hx hby k23_33 rfl rfl ?_
  refine Go.iloadN X2 hx hby k23_34 rfl ?_
  refine Go.iloadN X2 hx hby k23_35 rfl ?_
  refine Go.callS (W := 0) (y := y_22) (argsL := [(.ref a), (.int 0), (.int 2)]) (rest := []) X2 hx hZ hown (own_t hw 23 rfl) (own_t hw 24 rfl) (own_t hw 25 rfl) (own_t hw 26 rfl) (by decide) (own_rmC320 l Z a0 hw a ka c0 c1 c2 cz G n0 h0 Z0 OZ SB hz SA SH SL SG hG VA r0 r1 r2 gr) e2 (by rw [hml]; rfl) (lenOf own_dsc13 rfl) (hb hby k23_36) rfl (Nat.le_of_eq rfl) (by decide) (by decide) (by decide) (by decide) fun _ T3 L3 X3 q3 => ?_
  obtain ⟨b3, k3, rfl, N3q, K3, g3, V3⟩ := q3
  have N3 := Fr.app (Fr.nil n0) N3q
  have sz3 := Nat.le_trans Z0 K3.1
  have kp3 := (Keep.refl h0 [x]).trans K3 all0
  have ne_b3 : b3 ≠ x := Nat.ne_of_gt (Nat.lt_of_lt_of_le EX.lt g3)
  show Go p e below _ T3 (mkF m 39 _ [(.ref b3)])
  refine Go.astore X3 hx hby k23_39 rfl (l' := #[.val (.ref x), .val (.ref a), .val (.int 0), .val (.int 2), .val .null, .val (.ref b3)]) rfl ?_
  refine Go.aloadN X3 hx hby k23_41 rfl rfl ?_
  refine Go.aload X3 hx hby k23_42 rfl rfl ?_
  refine Go.iloadN X3 hx hby k23_44 rfl ?_
  refine Go.callSP (W := 1) (y := y_20) (argsL := [(.ref b3), (.int 2)]) (rest := [(.ref x)]) (r := some (.int 1)) X3 hx hZ hown (own_t hw 31 rfl) (own_t hw 32 rfl) (own_t hw 25 rfl) (own_t hw 33 rfl) (by decide) (own_rmCd12 l Z a0 hw b3 k3 c0 c1 c2 T3.heap V3) rfl (by rw [hml]; rfl) (lenOf own_dsc14 rfl) (hb hby k23_45) rfl (Nat.le_of_eq rfl) (by decide) (by decide) (by decide) (by decide) fun T4 X4 e4 => ?_
  show Go p e below _ T4 (mkF m 48 _ [(.int 1), (.ref x)])
  refine Go.putf X4 hx hZ hown (own_t hw 34 rfl) Via.refl e4 (FC.keep K3 nin0) (EX.keep K3) (Or.inr ⟨(own_t hw 35 rfl), rfl, hnm⟩) (own_t hw 9 rfl) (ty := .byte) (by decide) rfl (fits_nar_byte _) (hb hby k23_48) fun T5 h5 X5 e5 W5 F5 A5 => ?_
  have sz5 := Nat.le_trans sz3 (Keep.of_wr W5).1
  have kp5 := kp3.wr W5 own_i0
  have N5 := Fr.snoc X5 N3 gx
  refine Go.aloadN X5 hx hby k23_51 rfl rfl ?_
  refine Go.aload X5 hx hby k23_52 rfl rfl ?_
  refine Go.putf X5 hx hZ hown (own_t hw 36 rfl) Via.refl e5 ((FV.keep K3 nin0).other W5 (Or.inr (slot_ne (Or.inr (own_t hw 37 rfl)) (Or.inr (own_t hw 35 rfl)) (by decide) (t := (.array .byte)) (t' := .byte) (by decide) (by decide)))) A5 (Or.inr ⟨(own_t hw 37 rfl), rfl, hnm⟩) (own_t hw 9 rfl) (ty := (.array .byte)) (by decide) rfl rfl (hb hby k23_54) fun T6 h6 X6 e6 W6 F6 A6 => ?_
  have sz6 := Nat.le_trans sz5 (Keep.of_wr W6).1
  have kp6 := kp5.wr W6 own_i0
  have N6 := Fr.snoc X6 N5 gx
  exact Go.retV X6 hx hlk hret (hb hby k23_57) (by decide) (by decide) (by rw [e6]; exact ⟨rfl, N6, kp6, A6, (F5.other W6 (Or.inr (slot_ne (Or.inr (own_t hw 35 rfl)) (Or.inr (own_t hw 37 rfl)) (by decide) (t := .byte) (t' := (.array .byte)) (by decide) (by decide)))), b3, k3, F6, ((V3.other W5 ne_b3).other W6 ne_b3)⟩)
abbrev own_rmS120_Q (Z : State) (x a : Addr) (ka : ClassId) (c0 c1 c2 : Int32) (cz : Int32) (G : Value) (n0 : Nat) (h0 : Heap) : Option Value → Heap → List Loc → Prop := fun v h L => v = none ∧ Fr n0 L ∧ Keep h0 h [x] ∧ Exa Z h x "java/lang/String" ∧ Fld Z h x "java/lang/String" "coder" "B" (.int 1) ∧ ∃ t kb, Fld Z h x "java/lang/String" "value" "[B" (.ref t) ∧ Arv Z h t kb .byte 4 [(.int (lo8 c0)), (.int (hi8 c0)), (.int (lo8 c1)), (.int (hi8 c1))] (.int 0)
theorem own_rmS120 (l : Launch) (Z : State) (a0 : Array Value) (hw : ∀ d ∈ tables_1, d.before a0 Z = true) (x a : Addr) (ka : ClassId) (c0 c1 c2 : Int32) (cz : Int32) (G : Value) (n0 : Nat) (h0 : Heap) (Z0 : n0 ≤ h0.size) (OZ : Old Z n0 h0) (SB : own_SB Z Z.heap cz) (hz : ¬ cz = (0 : Int32)) (SA : own_SA Z Z.heap) (SH : own_SH Z Z.heap) (SL : own_SL Z Z.heap) (SG : own_SG Z Z.heap G) (hG : G.isRef = true) (gx : n0 ≤ x) (hne : a ≠ x) (EX : Exa Z h0 x "java/lang/String") (FV : Fld Z h0 x "java/lang/String" "value" "[B" .null) (FC : Fld Z h0 x "java/lang/String" "coder" "B" (.int 0)) (VA : Arv Z h0 a ka .char 2 [(.int c0), (.int c1)] (.int 0)) (r0 : own_C c0) (r1 : own_C c1) (r2 : own_C c2)  (gr : (255 : Int32) < c0) :
    MetAt l Z y_24 jdk_42_method_3_code 2 none ({ frames := 5, cells := 2, slots := 6, locals := 74 } : Room) #[(.ref x), (.ref a)] h0 ((own_rmS120_Q Z x a ka c0 c1 c2 cz G n0 h0)) := by
  refine goBodyM (plainFor_of_name (by first | (simp [plainName, overriddenIn]; done) | decide +kernel)) ?_
  intro p e s m below meth c T0 hx hZ hby hml hown hnm hret hlk X0 e0
  have hown : s.vm.findClass "java/lang/String" = some m.cls := hown
  refine Go.cast (g' := mkF m 0 #[.val (.ref x), .val (.ref a)] []) (by first | (simp [entryFrame, mkF, argsToLocals, Value.category]; done) | rfl) ?_
  show Go p e below _ T0 (mkF m 0 _ [])
  refine Go.aloadN X0 hx hby k24_0 rfl rfl ?_
  refine Go.aloadN X0 hx hby k24_1 rfl rfl ?_
  refine Go.iconst 0 X0 hx hby k24_2 rfl ?_
  refine Go.aloadN X0 hx hby k24_3 rfl rfl ?_
  refine Go.len X0 hx hZ e0 VA (hb hby k24_4) ?_
  refine Go.aconstNull X0 hx hby k24_5 ?_
  refine Go.callI (W := 0) (y := y_23) (a := x) (argsL := [(.ref a), (.int 0), (.int 2), .null]) (rest := []) X0 hx hZ rfl hown (own_t hw 15 rfl) (own_t hw 16 rfl) (own_t hw 10 rfl) (own_t hw 18 rfl) (by decide) (own_rmS420 l Z a0 hw x a ka c0 c1 c2 cz G n0 h0 Z0 OZ SB hz SA SH SL SG hG gx hne EX FV FC VA r0 r1 r2 gr) e0 (by rw [hml]; rfl) (lenOf own_dsc15 rfl) (hb hby k24_6) rfl (Nat.le_of_eq rfl) (by decide) (by decide) (by decide) (by decide) fun _ T1 L1 X1 q1 => ?_
  obtain ⟨rfl, N1q, K1, A1, C1, t1, kt1, D1, V1⟩ := q1
  have N1 := Fr.app (Fr.nil n0) N1q
  have sz1 := Nat.le_trans Z0 K1.1
  have kp1 := (Keep.refl h0 [x]).trans K1 (allS own_i0 all0)
  show Go p e below _ T1 (mkF m 9 _ [])
  exact Go.retV X1 hx hlk hret (hb hby k24_9) (by decide) (by decide) ⟨rfl, N1, kp1, A1, C1, t1, kt1, D1, V1⟩
abbrev own_rmC521_Q (Z : State) (a : Addr) (ka : ClassId) (d : Addr) (kd : ClassId) (c0 c1 c2 : Int32) (n0 : Nat) (h0 : Heap) : Option Value → Heap → List Loc → Prop := fun v h L => v = some (.int 1) ∧ Fr n0 L ∧ Keep h0 h [d]
theorem own_rmC521 (l : Launch) (Z : State) (a0 : Array Value) (hw : ∀ d ∈ tables_1, d.before a0 Z = true) (a : Addr) (ka : ClassId) (d : Addr) (kd : ClassId) (c0 c1 c2 : Int32) (n0 : Nat) (h0 : Heap) (Z0 : n0 ≤ h0.size) (gd : n0 ≤ d) (hne : a ≠ d) (VA : Arv Z h0 a ka .char 2 [(.int c0), (.int c1)] (.int 0)) (VD : Arv Z h0 d kd .byte 2 [(.int 0), (.int 0)] (.int 0)) (gq0 : ¬ (255 : Int32) < c0) (gr : (255 : Int32) < c1) :
    MetAt l Z y_21 jdk_52_method_21_code 7 (some .int) ({ frames := 0, cells := 0, slots := 0, locals := 0 } : Room) #[(.ref a), (.int 0), (.ref d), (.int 0), (.int 2)] h0 ((own_rmC521_Q Z a ka d kd c0 c1 c2 n0 h0)) := by
  refine goBodyM (plainFor_of_name (by first | (simp [plainName, overriddenIn]; done) | decide +kernel)) ?_
  intro p e s m below meth c T0 hx hZ hby hml hown hnm hret hlk X0 e0
  have hown : s.vm.findClass "java/lang/StringUTF16" = some m.cls := hown
  refine Go.cast (g' := mkF m 0 #[.val (.ref a), .val (.int 0), .val (.ref d), .val (.int 0), .val (.int 2), .unset, .unset] []) (by first | (simp [entryFrame, mkF, argsToLocals, Value.category]; done) | rfl) ?_
  show Go p e below _ T0 (mkF m 0 _ [])
  refine Go.iconst 0 X0 hx hby k21_0 rfl ?_
  refine Go.istore X0 hx hby k21_1 (l' := #[.val (.ref a), .val (.int 0), .val (.ref d), .val (.int 0), .val (.int 2), .val (.int 0), .unset]) rfl ?_
  refine Go.iload X0 hx hby k21_3 rfl ?_
  refine Go.iload X0 hx hby k21_5 rfl ?_
  refine Go.icmpNo X0 hx hby k21_7 (tlt (by decide : (0 : Int32) < (2 : Int32))).2.1 ?_
  refine Go.aloadN X0 hx hby k21_10 rfl rfl ?_
  refine Go.iloadN X0 hx hby k21_11 rfl ?_
  refine Go.caload X0 hx hZ e0 VA ⟨by decide, by decide⟩ (v := (.int c0)) rfl (hb hby k21_12) ?_
  refine Go.istore X0 hx hby k21_13 (l' := #[.val (.ref a), .val (.int 0), .val (.ref d), .val (.int 0), .val (.int 2), .val (.int 0), .val (.int c0)]) rfl ?_
  refine Go.iload X0 hx hby k21_15 rfl ?_
  refine Go.sipush 255 X0 hx hby k21_17 rfl ?_
  refine Go.icmpYes 26 X0 hx hby k21_20 (flt gq0).2.2.2 (by decide) (by decide) ?_
  refine Go.aloadN X0 hx hby k21_26 rfl rfl ?_
  refine Go.iloadN X0 hx hby k21_27 rfl ?_
  show Go p e below _ T0 (mkF m 28 _ [(.int 0), (.ref d)])
  refine Go.iload X0 hx hby k21_28 rfl ?_
  refine Go.i2b X0 hx hby k21_30 rfl ?_
  refine Go.bastore X0 hx hZ e0 VD ⟨by decide, by decide⟩ 0 rfl (Nat.le_of_ble_eq_true rfl) (hb hby k21_31) fun T1 h1 X1 e1 W1 V1 => ?_
  have sz1 := Nat.le_trans Z0 (Keep.of_wr W1).1
  have kp1 := (Keep.refl h0 [d]).wr W1 own_i0
  have N1 := Fr.snoc X1 (Fr.nil n0) gd
  have V1 : Arv Z h1 d kd .byte (2 : Int32) [(.int (nar .byte (c0.toInt8.toInt32))), (.int 0)] (.int 0) := V1
  refine Go.iinc X1 hx hby k21_32 rfl (l' := #[.val (.ref a), .val (.int 1), .val (.ref d), .val (.int 0), .val (.int 2), .val (.int 0), .val (.int c0)]) rfl ?_
  refine Go.iinc X1 hx hby k21_35 rfl (l' := #[.val (.ref a), .val (.int 1), .val (.ref d), .val (.int 1), .val (.int 2), .val (.int 0), .val (.int c0)]) rfl ?_
  refine Go.iinc X1 hx hby k21_38 rfl (l' := #[.val (.ref a), .val (.int 1), .val (.ref d), .val (.int 1), .val (.int 2), .val (.int 1), .val (.int c0)]) rfl ?_
  refine Go.goto 3 X1 hx hby k21_41 (by decide) (by decide) ?_
  refine Go.iload X1 hx hby k21_3 rfl ?_
  refine Go.iload X1 hx hby k21_5 rfl ?_
  refine Go.icmpNo X1 hx hby k21_7 (tlt (by decide : (1 : Int32) < (2 : Int32))).2.1 ?_
  refine Go.aloadN X1 hx hby k21_10 rfl rfl ?_
  refine Go.iloadN X1 hx hby k21_11 rfl ?_
  refine Go.caload X1 hx hZ e1 (VA.other W1 hne) ⟨by decide, by decide⟩ (v := (.int c1)) rfl (hb hby k21_12) ?_
  refine Go.istore X1 hx hby k21_13 (l' := #[.val (.ref a), .val (.int 1), .val (.ref d), .val (.int 1), .val (.int 2), .val (.int 1), .val (.int c1)]) rfl ?_
  show Go p e below _ T1 (mkF m 15 _ [])
  refine Go.iload X1 hx hby k21_15 rfl ?_
  refine Go.sipush 255 X1 hx hby k21_17 rfl ?_
  refine Go.icmpNo X1 hx hby k21_20 (tlt gr).2.2.2 ?_
  refine Go.iload X1 hx hby k21_23 rfl ?_
  exact Go.retI X1 hx hlk hret (hb hby k21_25) (by decide) (by decide) (by rw [e1]; exact ⟨rfl, N1, kp1⟩)
abbrev own_rmC321_Q (Z : State) (a : Addr) (ka : ClassId) (c0 c1 c2 : Int32) (cz : Int32) (G : Value) (n0 : Nat) (h0 : Heap) : Option Value → Heap → List Loc → Prop := fun v h L => ∃ b k, v = some (.ref b) ∧ Fr n0 L ∧ Keep h0 h [] ∧ h0.size ≤ b ∧ Arv Z h b k .byte 4 [(.int (lo8 c0)), (.int (hi8 c0)), (.int (lo8 c1)), (.int (hi8 c1))] (.int 0)
theorem own_rmC321 (l : Launch) (Z : State) (a0 : Array Value) (hw : ∀ d ∈ tables_1, d.before a0 Z = true) (a : Addr) (ka : ClassId) (c0 c1 c2 : Int32) (cz : Int32) (G : Value) (n0 : Nat) (h0 : Heap) (Z0 : n0 ≤ h0.size) (OZ : Old Z n0 h0) (SB : own_SB Z Z.heap cz) (hz : ¬ cz = (0 : Int32)) (SA : own_SA Z Z.heap) (SH : own_SH Z Z.heap) (SL : own_SL Z Z.heap) (SG : own_SG Z Z.heap G) (hG : G.isRef = true) (VA : Arv Z h0 a ka .char 2 [(.int c0), (.int c1)] (.int 0)) (r0 : own_C c0) (r1 : own_C c1) (r2 : own_C c2) (gq0 : ¬ (255 : Int32) < c0) (gr : (255 : Int32) < c1) :
    MetAt l Z y_22 jdk_52_method_16_code 6 (some (.array .byte)) ({ frames := 3, cells := 2, slots := 6, locals := 40 } : Room) #[(.ref a), (.int 0), (.int 2)] h0 ((own_rmC321_Q Z a ka c0 c1 c2 cz G n0 h0)) := by
  refine goBodyM (plainFor_of_name (by first | (simp [plainName, overriddenIn]; done) | decide +kernel)) ?_
  intro p e s m below meth c T0 hx hZ hby hml hown hnm hret hlk X0 e0
  have hown : s.vm.findClass "java/lang/StringUTF16" = some m.cls := hown
  refine Go.cast (g' := mkF m 0 #[.val (.ref a), .val (.int 0), .val (.int 2), .unset, .unset, .unset] []) (by first | (simp [entryFrame, mkF, argsToLocals, Value.category]; done) | rfl) ?_
  show Go p e below _ T0 (mkF m 0 _ [])
  refine Go.iloadN X0 hx hby k22_0 rfl ?_
  refine Go.newarr X0 hx hZ (own_t hw 27 rfl) e0 2 (by decide) (by decide) (by decide) (by decide) (by decide) (hb hby k22_1) fun T1 h1 b1 k1 g1 X1 e1 E1 V1 => ?_
  have lt_a_b1 : a < b1 := Nat.lt_of_lt_of_le VA.lt (Nat.le_of_eq g1.symm)
  have ge_b1 : n0 ≤ b1 := g1 ▸ Z0
  have hs_b1 : h0.size ≤ b1 := g1 ▸ (Keep.refl h0 []).1
  have sz1 := Nat.le_trans Z0 E1.1
  have kp1 := (Keep.refl h0 []).ext E1
  have V1 : Arv Z h1 b1 k1 .byte (2 : Int32) [(.int 0), (.int 0)] (.int 0) := V1
  refine Go.astoreN X1 hx hby k22_3 rfl (l' := #[.val (.ref a), .val (.int 0), .val (.int 2), .val (.ref b1), .unset, .unset]) rfl ?_
  refine Go.aloadN X1 hx hby k22_4 rfl rfl ?_
  refine Go.iloadN X1 hx hby k22_5 rfl ?_
  refine Go.aloadN X1 hx hby k22_6 rfl rfl ?_
  refine Go.iconst 0 X1 hx hby k22_7 rfl ?_
  refine Go.iloadN X1 hx hby k22_8 rfl ?_
  refine Go.callS (W := 0) (y := y_21) (argsL := [(.ref a), (.int 0), (.ref b1), (.int 0), (.int 2)]) (rest := []) X1 hx hZ hown (own_t hw 28 rfl) (own_t hw 29 rfl) (own_t hw 25 rfl) (own_t hw 30 rfl) (by decide) (own_rmC521 l Z a0 hw a ka b1 k1 c0 c1 c2 n0 h1 sz1 ge_b1 (Nat.ne_of_lt lt_a_b1) (VA.ext E1) V1 gq0 gr) e1 (by rw [hml]; rfl) (lenOf own_dsc12 rfl) (hb hby k22_9) rfl (Nat.le_of_eq rfl) (by decide) (by decide) (by decide) (by decide) fun _ T2 L2 X2 q2 => ?_
  obtain ⟨rfl, N2q, K2⟩ := q2
  have N2 := Fr.app (Fr.nil n0) N2q
  have sz2 := Nat.le_trans sz1 K2.1
  have kp2 := kp1.trans K2 (allS (Or.inr hs_b1) all0)
  show Go p e below _ T2 (mkF m 12 _ [(.int 1)])
  refine Go.istore X2 hx hby k22_12 (l' := #[.val (.ref a), .val (.int 0), .val (.int 2), .val (.ref b1), .val (.int 1), .unset]) rfl ?_
  refine Go.iload X2 hx hby k22_14 rfl ?_
  refine Go.iloadN X2 hx hby k22_16 rfl ?_
  refine Go.icmpNo X2 hx hby k22_17 (feq (by decide : ¬ ((1 : Int32) = (2 : Int32)))).1 ?_
  refine Go.aloadN X2 hx hby k22_20 rfl rfl ?_
  refine Go.iloadN X2 hx hby k22_21 rfl ?_
  refine Go.iloadN X2 hx hby k22_22 rfl ?_
  refine Go.callS (W := 0) (y := y_19) (argsL := [(.ref a), (.int 0), (.int 2)]) (rest := []) X2 hx hZ hown (own_t hw 88 rfl) (own_t hw 89 rfl) (own_t hw 25 rfl) (own_t hw 90 rfl) (by decide) (own_rmTB2 l Z a0 hw a ka c0 c1 c2 cz G n0 T2.heap sz2 ((OZ.ext E1).keep K2 (allS ge_b1 all0)) SB hz SA SH SL SG hG ((VA.ext E1).keep K2 (ninS (Nat.ne_of_lt lt_a_b1) nin0))) rfl (by rw [hml]; rfl) (lenOf own_dsc13 rfl) (hb hby k22_23) rfl (Nat.le_of_eq rfl) (by decide) (by decide) (by decide) (by decide) fun _ T3 L3 X3 q3 => ?_
  obtain ⟨b3, k3, rfl, N3q, K3, g3, V3⟩ := q3
  have N3 := Fr.app N2 N3q
  have sz3 := Nat.le_trans sz2 K3.1
  have kp3 := kp2.trans K3 all0
  have hs_b3 : h0.size ≤ b3 := Nat.le_trans (kp2.1) g3
  show Go p e below _ T3 (mkF m 26 _ [(.ref b3)])
  refine Go.astore X3 hx hby k22_26 rfl (l' := #[.val (.ref a), .val (.int 0), .val (.int 2), .val (.ref b1), .val (.int 1), .val (.ref b3)]) rfl ?_
  refine Go.aload X3 hx hby k22_28 rfl rfl ?_
  refine Go.iload X3 hx hby k22_30 rfl ?_
  refine Go.callSP (W := 0) (y := y_7) (argsL := [(.ref b3), (.int 1)]) (rest := []) (r := some (.int c1)) X3 hx hZ hown (own_t hw 104 rfl) (own_t hw 105 rfl) (own_t hw 25 rfl) (own_t hw 106 rfl) (by decide) (own_rmGC l Z a0 hw b3 k3 c0 c1 c2 2 1 T3.heap V3 (SA.ext (((OZ.ext E1).keep K2 (allS ge_b1 all0)).keep K3 all0).2) (SH.ext (((OZ.ext E1).keep K2 (allS ge_b1 all0)).keep K3 all0).2) (SL.ext (((OZ.ext E1).keep K2 (allS ge_b1 all0)).keep K3 all0).2) r0 r1 r2 (by decide) (by decide)) rfl (by rw [hml]; rfl) (lenOf own_dsc0 rfl) (hb hby k22_32) rfl (Nat.le_of_eq rfl) (by decide) (by decide) (by decide) (by decide) fun T4 X4 e4 => ?_
  show Go p e below _ T4 (mkF m 35 _ [(.int c1)])
  refine Go.sipush 255 X4 hx hby k22_35 rfl ?_
  refine Go.icmpYes 54 X4 hx hby k22_38 (tlt gr).2.2.1 (by decide) (by decide) ?_
  refine Go.aload X4 hx hby k22_54 rfl rfl ?_
  exact Go.retA X4 hx hlk hret rfl rfl rfl (hb hby k22_56) (by decide) (by decide) (by rw [e4]; exact ⟨b3, k3, rfl, N3, kp3, hs_b3, V3⟩)
abbrev own_rmS421_Q (Z : State) (x a : Addr) (ka : ClassId) (c0 c1 c2 : Int32) (cz : Int32) (G : Value) (n0 : Nat) (h0 : Heap) : Option Value → Heap → List Loc → Prop := fun v h L => v = none ∧ Fr n0 L ∧ Keep h0 h [x] ∧ Exa Z h x "java/lang/String" ∧ Fld Z h x "java/lang/String" "coder" "B" (.int 1) ∧ ∃ t kb, Fld Z h x "java/lang/String" "value" "[B" (.ref t) ∧ Arv Z h t kb .byte 4 [(.int (lo8 c0)), (.int (hi8 c0)), (.int (lo8 c1)), (.int (hi8 c1))] (.int 0)
theorem own_rmS421 (l : Launch) (Z : State) (a0 : Array Value) (hw : ∀ d ∈ tables_1, d.before a0 Z = true) (x a : Addr) (ka : ClassId) (c0 c1 c2 : Int32) (cz : Int32) (G : Value) (n0 : Nat) (h0 : Heap) (Z0 : n0 ≤ h0.size) (OZ : Old Z n0 h0) (SB : own_SB Z Z.heap cz) (hz : ¬ cz = (0 : Int32)) (SA : own_SA Z Z.heap) (SH : own_SH Z Z.heap) (SL : own_SL Z Z.heap) (SG : own_SG Z Z.heap G) (hG : G.isRef = true) (gx : n0 ≤ x) (hne : a ≠ x) (EX : Exa Z h0 x "java/lang/String") (FV : Fld Z h0 x "java/lang/String" "value" "[B" .null) (FC : Fld Z h0 x "java/lang/String" "coder" "B" (.int 0)) (VA : Arv Z h0 a ka .char 2 [(.int c0), (.int c1)] (.int 0)) (r0 : own_C c0) (r1 : own_C c1) (r2 : own_C c2) (gq0 : ¬ (255 : Int32) < c0) (gr : (255 : Int32) < c1) :
    MetAt l Z y_23 jdk_42_method_149_code 6 none ({ frames := 4, cells := 2, slots := 6, locals := 57 } : Room) #[(.ref x), (.ref a), (.int 0), (.int 2), .null] h0 ((own_rmS421_Q Z x a ka c0 c1 c2 cz G n0 h0)) := by
  refine goBodyM (plainFor_of_name (by first | (simp [plainName, overriddenIn]; done) | decide +kernel)) ?_
  intro p e s m below meth c T0 hx hZ hby hml hown hnm hret hlk X0 e0
  have hown : s.vm.findClass "java/lang/String" = some m.cls := hown
  refine Go.cast (g' := mkF m 0 #[.val (.ref x), .val (.ref a), .val (.int 0), .val (.int 2), .val .null, .unset] []) (by first | (simp [entryFrame, mkF, argsToLocals, Value.category]; done) | rfl) ?_
  show Go p e below _ T0 (mkF m 0 _ [])
  refine Go.aloadN X0 hx hby k23_0 rfl rfl ?_
  refine Go.initObj X0 hx hZ hown (own_t hw 19 rfl) (own_t hw 20 rfl) (own_t hw 21 rfl) e0 (by rw [hml]; rfl) (hb hby k23_1) (by decide) (W := 0) (Nat.le_of_eq rfl) (by decide) fun T1 X1 e1 => ?_
  show Go p e below _ T1 (mkF m 4 _ [])
  refine Go.iloadN X1 hx hby k23_4 rfl ?_
  refine Go.ifYes 27 X1 hx hby k23_5 ((if0 _ _).trans (feq (by decide : ¬ ((2 : Int32) = (0 : Int32)))).2) (by decide) (by decide) ?_
  refine Go.gets X1 hx hZ hown (own_t hw 22 rfl) Via.refl e1 (SB.ext OZ.2) (hb hby k23_27) fun T2 X2 e2 => ?_
  refine Go.ifNo X2 hx hby k23_30 ((if0 _ _).trans (feq hz).1) ?_
  refine Go.aloadN X2 hx hby k23_33 rfl rfl ?_
  refine Go.iloadN X2 hx hby k23_34 rfl ?_
  refine Go.iloadN X2 hx hby k23_35 rfl ?_
  refine Go.callS (W := 0) (y := y_22) (argsL := [(.ref a), (.int 0), (.int 2)]) (rest := []) X2 hx hZ hown (own_t hw 23 rfl) (own_t hw 24 rfl) (own_t hw 25 rfl) (own_t hw 26 rfl) (by decide) (own_rmC321 l Z a0 hw a ka c0 c1 c2 cz G n0 h0 Z0 OZ SB hz SA SH SL SG hG VA r0 r1 r2 gq0 gr) e2 (by rw [hml]; rfl) (lenOf own_dsc13 rfl) (hb hby k23_36) rfl (Nat.le_of_eq rfl) (by decide) (by decide) (by decide) (by decide) fun _ T3 L3 X3 q3 => ?_
  obtain ⟨b3, k3, rfl, N3q, K3, g3, V3⟩ := q3
  have N3 := Fr.app (Fr.nil n0) N3q
  have sz3 := Nat.le_trans Z0 K3.1
  have kp3 := (Keep.refl h0 [x]).trans K3 all0
  have ne_b3 : b3 ≠ x := Nat.ne_of_gt (Nat.lt_of_lt_of_le EX.lt g3)
  show Go p e below _ T3 (mkF m 39 _ [(.ref b3)])
  refine Go.astore X3 hx hby k23_39 rfl (l' := #[.val (.ref x), .val (.ref a), .val (.int 0), .val (.int 2), .val .null, .val (.ref b3)]) rfl ?_
  refine Go.aloadN X3 hx hby k23_41 rfl rfl ?_
  refine Go.aload X3 hx hby k23_42 rfl rfl ?_
  refine Go.iloadN X3 hx hby k23_44 rfl ?_
  refine Go.callSP (W := 1) (y := y_20) (argsL := [(.ref b3), (.int 2)]) (rest := [(.ref x)]) (r := some (.int 1)) X3 hx hZ hown (own_t hw 31 rfl) (own_t hw 32 rfl) (own_t hw 25 rfl) (own_t hw 33 rfl) (by decide) (own_rmCd12 l Z a0 hw b3 k3 c0 c1 c2 T3.heap V3) rfl (by rw [hml]; rfl) (lenOf own_dsc14 rfl) (hb hby k23_45) rfl (Nat.le_of_eq rfl) (by decide) (by decide) (by decide) (by decide) fun T4 X4 e4 => ?_
  show Go p e below _ T4 (mkF m 48 _ [(.int 1), (.ref x)])
  refine Go.putf X4 hx hZ hown (own_t hw 34 rfl) Via.refl e4 (FC.keep K3 nin0) (EX.keep K3) (Or.inr ⟨(own_t hw 35 rfl), rfl, hnm⟩) (own_t hw 9 rfl) (ty := .byte) (by decide) rfl (fits_nar_byte _) (hb hby k23_48) fun T5 h5 X5 e5 W5 F5 A5 => ?_
  have sz5 := Nat.le_trans sz3 (Keep.of_wr W5).1
  have kp5 := kp3.wr W5 own_i0
  have N5 := Fr.snoc X5 N3 gx
  refine Go.aloadN X5 hx hby k23_51 rfl rfl ?_
  refine Go.aload X5 hx hby k23_52 rfl rfl ?_
  refine Go.putf X5 hx hZ hown (own_t hw 36 rfl) Via.refl e5 ((FV.keep K3 nin0).other W5 (Or.inr (slot_ne (Or.inr (own_t hw 37 rfl)) (Or.inr (own_t hw 35 rfl)) (by decide) (t := (.array .byte)) (t' := .byte) (by decide) (by decide)))) A5 (Or.inr ⟨(own_t hw 37 rfl), rfl, hnm⟩) (own_t hw 9 rfl) (ty := (.array .byte)) (by decide) rfl rfl (hb hby k23_54) fun T6 h6 X6 e6 W6 F6 A6 => ?_
  have sz6 := Nat.le_trans sz5 (Keep.of_wr W6).1
  have kp6 := kp5.wr W6 own_i0
  have N6 := Fr.snoc X6 N5 gx
  exact Go.retV X6 hx hlk hret (hb hby k23_57) (by decide) (by decide) (by rw [e6]; exact ⟨rfl, N6, kp6, A6, (F5.other W6 (Or.inr (slot_ne (Or.inr (own_t hw 35 rfl)) (Or.inr (own_t hw 37 rfl)) (by decide) (t := .byte) (t' := (.array .byte)) (by decide) (by decide)))), b3, k3, F6, ((V3.other W5 ne_b3).other W6 ne_b3)⟩)
abbrev own_rmS121_Q (Z : State) (x a : Addr) (ka : ClassId) (c0 c1 c2 : Int32) (cz : Int32) (G : Value) (n0 : Nat) (h0 : Heap) : Option Value → Heap → List Loc → Prop := fun v h L => v = none ∧ Fr n0 L ∧ Keep h0 h [x] ∧ Exa Z h x "java/lang/String" ∧ Fld Z h x "java/lang/String" "coder" "B" (.int 1) ∧ ∃ t kb, Fld Z h x "java/lang/String" "value" "[B" (.ref t) ∧ Arv Z h t kb .byte 4 [(.int (lo8 c0)), (.int (hi8 c0)), (.int (lo8 c1)), (.int (hi8 c1))] (.int 0)
theorem own_rmS121 (l : Launch) (Z : State) (a0 : Array Value) (hw : ∀ d ∈ tables_1, d.before a0 Z = true) (x a : Addr) (ka : ClassId) (c0 c1 c2 : Int32) (cz : Int32) (G : Value) (n0 : Nat) (h0 : Heap) (Z0 : n0 ≤ h0.size) (OZ : Old Z n0 h0) (SB : own_SB Z Z.heap cz) (hz : ¬ cz = (0 : Int32)) (SA : own_SA Z Z.heap) (SH : own_SH Z Z.heap) (SL : own_SL Z Z.heap) (SG : own_SG Z Z.heap G) (hG : G.isRef = true) (gx : n0 ≤ x) (hne : a ≠ x) (EX : Exa Z h0 x "java/lang/String") (FV : Fld Z h0 x "java/lang/String" "value" "[B" .null) (FC : Fld Z h0 x "java/lang/String" "coder" "B" (.int 0)) (VA : Arv Z h0 a ka .char 2 [(.int c0), (.int c1)] (.int 0)) (r0 : own_C c0) (r1 : own_C c1) (r2 : own_C c2) (gq0 : ¬ (255 : Int32) < c0) (gr : (255 : Int32) < c1) :
    MetAt l Z y_24 jdk_42_method_3_code 2 none ({ frames := 5, cells := 2, slots := 6, locals := 74 } : Room) #[(.ref x), (.ref a)] h0 ((own_rmS121_Q Z x a ka c0 c1 c2 cz G n0 h0)) := by
  refine goBodyM (plainFor_of_name (by first | (simp [plainName, overriddenIn]; done) | decide +kernel)) ?_
  intro p e s m below meth c T0 hx hZ hby hml hown hnm hret hlk X0 e0
  have hown : s.vm.findClass "java/lang/String" = some m.cls := hown
  refine Go.cast (g' := mkF m 0 #[.val (.ref x), .val (.ref a)] []) (by first | (simp [entryFrame, mkF, argsToLocals, Value.category]; done) | rfl) ?_
  show Go p e below _ T0 (mkF m 0 _ [])
  refine Go.aloadN X0 hx hby k24_0 rfl rfl ?_
  refine Go.aloadN X0 hx hby k24_1 rfl rfl ?_
  refine Go.iconst 0 X0 hx hby k24_2 rfl ?_
  refine Go.aloadN X0 hx hby k24_3 rfl rfl ?_
  refine Go.len X0 hx hZ e0 VA (hb hby k24_4) ?_
  refine Go.aconstNull X0 hx hby k24_5 ?_
  refine Go.callI (W := 0) (y := y_23) (a := x) (argsL := [(.ref a), (.int 0), (.int 2), .null]) (rest := []) X0 hx hZ rfl hown (own_t hw 15 rfl) (own_t hw 16 rfl) (own_t hw 10 rfl) (own_t hw 18 rfl) (by decide) (own_rmS421 l Z a0 hw x a ka c0 c1 c2 cz G n0 h0 Z0 OZ SB hz SA SH SL SG hG gx hne EX FV FC VA r0 r1 r2 gq0 gr) e0 (by rw [hml]; rfl) (lenOf own_dsc15 rfl) (hb hby k24_6) rfl (Nat.le_of_eq rfl) (by decide) (by decide) (by decide) (by decide) fun _ T1 L1 X1 q1 => ?_
  obtain ⟨rfl, N1q, K1, A1, C1, t1, kt1, D1, V1⟩ := q1
  have N1 := Fr.app (Fr.nil n0) N1q
  have sz1 := Nat.le_trans Z0 K1.1
  have kp1 := (Keep.refl h0 [x]).trans K1 (allS own_i0 all0)
  show Go p e below _ T1 (mkF m 9 _ [])
  exact Go.retV X1 hx hlk hret (hb hby k24_9) (by decide) (by decide) ⟨rfl, N1, kp1, A1, C1, t1, kt1, D1, V1⟩
abbrev own_rmC522_Q (Z : State) (a : Addr) (ka : ClassId) (d : Addr) (kd : ClassId) (c0 c1 c2 : Int32) (n0 : Nat) (h0 : Heap) : Option Value → Heap → List Loc → Prop := fun v h L => v = some (.int 2) ∧ Fr n0 L ∧ Keep h0 h [d] ∧ Arv Z h d kd .byte 2 [(.int (lo8 c0)), (.int (lo8 c1))] (.int 0)
theorem own_rmC522 (l : Launch) (Z : State) (a0 : Array Value) (hw : ∀ d ∈ tables_1, d.before a0 Z = true) (a : Addr) (ka : ClassId) (d : Addr) (kd : ClassId) (c0 c1 c2 : Int32) (n0 : Nat) (h0 : Heap) (Z0 : n0 ≤ h0.size) (gd : n0 ≤ d) (hne : a ≠ d) (VA : Arv Z h0 a ka .char 2 [(.int c0), (.int c1)] (.int 0)) (VD : Arv Z h0 d kd .byte 2 [(.int 0), (.int 0)] (.int 0)) (gq0 : ¬ (255 : Int32) < c0) (gq1 : ¬ (255 : Int32) < c1) :
    MetAt l Z y_21 jdk_52_method_21_code 7 (some .int) ({ frames := 0, cells := 0, slots := 0, locals := 0 } : Room) #[(.ref a), (.int 0), (.ref d), (.int 0), (.int 2)] h0 ((own_rmC522_Q Z a ka d kd c0 c1 c2 n0 h0)) := by
  refine goBodyM (plainFor_of_name (by first | (simp [plainName, overriddenIn]; done) | decide +kernel)) ?_
  intro p e s m below meth c T0 hx hZ hby hml hown hnm hret hlk X0 e0
  have hown : s.vm.findClass "java/lang/StringUTF16" = some m.cls := hown
  refine Go.cast (g' := mkF m 0 #[.val (.ref a), .val (.int 0), .val (.ref d), .val (.int 0), .val (.int 2), .unset, .unset] []) (by first | (simp [entryFrame, mkF, argsToLocals, Value.category]; done) | rfl) ?_
  show Go p e below _ T0 (mkF m 0 _ [])
  refine Go.iconst 0 X0 hx hby k21_0 rfl ?_
  refine Go.istore X0 hx hby k21_1 (l' := #[.val (.ref a), .val (.int 0), .val (.ref d), .val (.int 0), .val (.int 2), .val (.int 0), .unset]) rfl ?_
  refine Go.iload X0 hx hby k21_3 rfl ?_
  refine Go.iload X0 hx hby k21_5 rfl ?_
  refine Go.icmpNo X0 hx hby k21_7 (tlt (by decide : (0 : Int32) < (2 : Int32))).2.1 ?_
  refine Go.aloadN X0 hx hby k21_10 rfl rfl ?_
  refine Go.iloadN X0 hx hby k21_11 rfl ?_
  refine Go.caload X0 hx hZ e0 VA ⟨by decide, by decide⟩ (v := (.int c0)) rfl (hb hby k21_12) ?_
  refine Go.istore X0 hx hby k21_13 (l' := #[.val (.ref a), .val (.int 0), .val (.ref d), .val (.int 0), .val (.int 2), .val (.int 0), .val (.int c0)]) rfl ?_
  refine Go.iload X0 hx hby k21_15 rfl ?_
  refine Go.sipush 255 X0 hx hby k21_17 rfl ?_
  refine Go.icmpYes 26 X0 hx hby k21_20 (flt gq0).2.2.2 (by decide) (by decide) ?_
  refine Go.aloadN X0 hx hby k21_26 rfl rfl ?_
  refine Go.iloadN X0 hx hby k21_27 rfl ?_
  show Go p e below _ T0 (mkF m 28 _ [(.int 0), (.ref d)])
  refine Go.iload X0 hx hby k21_28 rfl ?_
  refine Go.i2b X0 hx hby k21_30 rfl ?_
  refine Go.bastore X0 hx hZ e0 VD ⟨by decide, by decide⟩ 0 rfl (Nat.le_of_ble_eq_true rfl) (hb hby k21_31) fun T1 h1 X1 e1 W1 V1 => ?_
  have sz1 := Nat.le_trans Z0 (Keep.of_wr W1).1
  have kp1 := (Keep.refl h0 [d]).wr W1 own_i0
  have N1 := Fr.snoc X1 (Fr.nil n0) gd
  have V1 : Arv Z h1 d kd .byte (2 : Int32) [(.int (nar .byte (c0.toInt8.toInt32))), (.int 0)] (.int 0) := V1
  refine Go.iinc X1 hx hby k21_32 rfl (l' := #[.val (.ref a), .val (.int 1), .val (.ref d), .val (.int 0), .val (.int 2), .val (.int 0), .val (.int c0)]) rfl ?_
  refine Go.iinc X1 hx hby k21_35 rfl (l' := #[.val (.ref a), .val (.int 1), .val (.ref d), .val (.int 1), .val (.int 2), .val (.int 0), .val (.int c0)]) rfl ?_
  refine Go.iinc X1 hx hby k21_38 rfl (l' := #[.val (.ref a), .val (.int 1), .val (.ref d), .val (.int 1), .val (.int 2), .val (.int 1), .val (.int c0)]) rfl ?_
  refine Go.goto 3 X1 hx hby k21_41 (by decide) (by decide) ?_
  refine Go.iload X1 hx hby k21_3 rfl ?_
  refine Go.iload X1 hx hby k21_5 rfl ?_
  refine Go.icmpNo X1 hx hby k21_7 (tlt (by decide : (1 : Int32) < (2 : Int32))).2.1 ?_
  refine Go.aloadN X1 hx hby k21_10 rfl rfl ?_
  refine Go.iloadN X1 hx hby k21_11 rfl ?_
  refine Go.caload X1 hx hZ e1 (VA.other W1 hne) ⟨by decide, by decide⟩ (v := (.int c1)) rfl (hb hby k21_12) ?_
  refine Go.istore X1 hx hby k21_13 (l' := #[.val (.ref a), .val (.int 1), .val (.ref d), .val (.int 1), .val (.int 2), .val (.int 1), .val (.int c1)]) rfl ?_
  show Go p e below _ T1 (mkF m 15 _ [])
  refine Go.iload X1 hx hby k21_15 rfl ?_
  refine Go.sipush 255 X1 hx hby k21_17 rfl ?_
  refine Go.icmpYes 26 X1 hx hby k21_20 (flt gq1).2.2.2 (by decide) (by decide) ?_
  refine Go.aloadN X1 hx hby k21_26 rfl rfl ?_
  refine Go.iloadN X1 hx hby k21_27 rfl ?_
  refine Go.iload X1 hx hby k21_28 rfl ?_
  refine Go.i2b X1 hx hby k21_30 rfl ?_
  refine Go.bastore X1 hx hZ e1 V1 ⟨by decide, by decide⟩ 1 rfl (Nat.le_of_ble_eq_true rfl) (hb hby k21_31) fun T2 h2 X2 e2 W2 V2 => ?_
  have sz2 := Nat.le_trans sz1 (Keep.of_wr W2).1
  have kp2 := kp1.wr W2 own_i0
  have N2 := Fr.snoc X2 N1 gd
  have V2 : Arv Z h2 d kd .byte (2 : Int32) [(.int (nar .byte (c0.toInt8.toInt32))), (.int (nar .byte (c1.toInt8.toInt32)))] (.int 0) := V2
  refine Go.iinc X2 hx hby k21_32 rfl (l' := #[.val (.ref a), .val (.int 2), .val (.ref d), .val (.int 1), .val (.int 2), .val (.int 1), .val (.int c1)]) rfl ?_
  refine Go.iinc X2 hx hby k21_35 rfl (l' := #[.val (.ref a), .val (.int 2), .val (.ref d), .val (.int 2), .val (.int 2), .val (.int 1), .val (.int c1)]) rfl ?_
  refine Go.iinc X2 hx hby k21_38 rfl (l' := #[.val (.ref a), .val (.int 2), .val (.ref d), .val (.int 2), .val (.int 2), .val (.int 2), .val (.int c1)]) rfl ?_
  refine Go.goto 3 X2 hx hby k21_41 (by decide) (by decide) ?_
  refine Go.iload X2 hx hby k21_3 rfl ?_
  refine Go.iload X2 hx hby k21_5 rfl ?_
  show Go p e below _ T2 (mkF m 7 _ [(.int 2), (.int 2)])
  refine Go.icmpYes 44 X2 hx hby k21_7 (flt (by decide : ¬ ((2 : Int32) < (2 : Int32)))).2.1 (by decide) (by decide) ?_
  refine Go.iload X2 hx hby k21_44 rfl ?_
  exact Go.retI X2 hx hlk hret (hb hby k21_46) (by decide) (by decide) (by rw [e2]; exact ⟨rfl, N2, kp2, by have q := V2; simp only [own_w2] at q; exact q⟩)
abbrev own_rmC322_Q (Z : State) (a : Addr) (ka : ClassId) (c0 c1 c2 : Int32) (cz : Int32) (G : Value) (n0 : Nat) (h0 : Heap) : Option Value → Heap → List Loc → Prop := fun v h L => ∃ b k, v = some (.ref b) ∧ Fr n0 L ∧ Keep h0 h [] ∧ h0.size ≤ b ∧ Arv Z h b k .byte 2 [(.int (lo8 c0)), (.int (lo8 c1))] (.int 0)
theorem own_rmC322 (l : Launch) (Z : State) (a0 : Array Value) (hw : ∀ d ∈ tables_1, d.before a0 Z = true) (a : Addr) (ka : ClassId) (c0 c1 c2 : Int32) (cz : Int32) (G : Value) (n0 : Nat) (h0 : Heap) (Z0 : n0 ≤ h0.size) (OZ : Old Z n0 h0) (SB : own_SB Z Z.heap cz) (hz : ¬ cz = (0 : Int32)) (SA : own_SA Z Z.heap) (SH : own_SH Z Z.heap) (SL : own_SL Z Z.heap) (SG : own_SG Z Z.heap G) (hG : G.isRef = true) (VA : Arv Z h0 a ka .char 2 [(.int c0), (.int c1)] (.int 0)) (r0 : own_C c0) (r1 : own_C c1) (r2 : own_C c2) (gq0 : ¬ (255 : Int32) < c0) (gq1 : ¬ (255 : Int32) < c1) :
    MetAt l Z y_22 jdk_52_method_16_code 6 (some (.array .byte)) ({ frames := 3, cells := 2, slots := 6, locals := 40 } : Room) #[(.ref a), (.int 0), (.int 2)] h0 ((own_rmC322_Q Z a ka c0 c1 c2 cz G n0 h0)) := by
  refine goBodyM (plainFor_of_name (by first | (simp [plainName, overriddenIn]; done) | decide +kernel)) ?_
  intro p e s m below meth c T0 hx hZ hby hml hown hnm hret hlk X0 e0
  have hown : s.vm.findClass "java/lang/StringUTF16" = some m.cls := hown
  refine Go.cast (g' := mkF m 0 #[.val (.ref a), .val (.int 0), .val (.int 2), .unset, .unset, .unset] []) (by first | (simp [entryFrame, mkF, argsToLocals, Value.category]; done) | rfl) ?_
  show Go p e below _ T0 (mkF m 0 _ [])
  refine Go.iloadN X0 hx hby k22_0 rfl ?_
  refine Go.newarr X0 hx hZ (own_t hw 27 rfl) e0 2 (by decide) (by decide) (by decide) (by decide) (by decide) (hb hby k22_1) fun T1 h1 b1 k1 g1 X1 e1 E1 V1 => ?_
  have lt_a_b1 : a < b1 := Nat.lt_of_lt_of_le VA.lt (Nat.le_of_eq g1.symm)
  have ge_b1 : n0 ≤ b1 := g1 ▸ Z0
  have hs_b1 : h0.size ≤ b1 := g1 ▸ (Keep.refl h0 []).1
  have sz1 := Nat.le_trans Z0 E1.1
  have kp1 := (Keep.refl h0 []).ext E1
  have V1 : Arv Z h1 b1 k1 .byte (2 : Int32) [(.int 0), (.int 0)] (.int 0) := V1
  refine Go.astoreN X1 hx hby k22_3 rfl (l' := #[.val (.ref a), .val (.int 0), .val (.int 2), .val (.ref b1), .unset, .unset]) rfl ?_
  refine Go.aloadN X1 hx hby k22_4 rfl rfl ?_
  refine Go.iloadN X1 hx hby k22_5 rfl ?_
  refine Go.aloadN X1 hx hby k22_6 rfl rfl ?_
  refine Go.iconst 0 X1 hx hby k22_7 rfl ?_
  refine Go.iloadN X1 hx hby k22_8 rfl ?_
  refine Go.callS (W := 0) (y := y_21) (argsL := [(.ref a), (.int 0), (.ref b1), (.int 0), (.int 2)]) (rest := []) X1 hx hZ hown (own_t hw 28 rfl) (own_t hw 29 rfl) (own_t hw 25 rfl) (own_t hw 30 rfl) (by decide) (own_rmC522 l Z a0 hw a ka b1 k1 c0 c1 c2 n0 h1 sz1 ge_b1 (Nat.ne_of_lt lt_a_b1) (VA.ext E1) V1 gq0 gq1) e1 (by rw [hml]; rfl) (lenOf own_dsc12 rfl) (hb hby k22_9) rfl (Nat.le_of_eq rfl) (by decide) (by decide) (by decide) (by decide) fun _ T2 L2 X2 q2 => ?_
  obtain ⟨rfl, N2q, K2, V2⟩ := q2
  have N2 := Fr.app (Fr.nil n0) N2q
  have sz2 := Nat.le_trans sz1 K2.1
  have kp2 := kp1.trans K2 (allS (Or.inr hs_b1) all0)
  show Go p e below _ T2 (mkF m 12 _ [(.int 2)])
  refine Go.istore X2 hx hby k22_12 (l' := #[.val (.ref a), .val (.int 0), .val (.int 2), .val (.ref b1), .val (.int 2), .unset]) rfl ?_
  refine Go.iload X2 hx hby k22_14 rfl ?_
  refine Go.iloadN X2 hx hby k22_16 rfl ?_
  refine Go.icmpYes 57 X2 hx hby k22_17 (teq (by decide : (2 : Int32) = (2 : Int32))).1 (by decide) (by decide) ?_
  refine Go.aloadN X2 hx hby k22_57 rfl rfl ?_
  exact Go.retA X2 hx hlk hret rfl rfl rfl (hb hby k22_58) (by decide) (by decide) (by exact ⟨b1, k1, rfl, N2, kp2, hs_b1, V2⟩)
abbrev own_rmS422_Q (Z : State) (x a : Addr) (ka : ClassId) (c0 c1 c2 : Int32) (cz : Int32) (G : Value) (n0 : Nat) (h0 : Heap) : Option Value → Heap → List Loc → Prop := fun v h L => v = none ∧ Fr n0 L ∧ Keep h0 h [x] ∧ Exa Z h x "java/lang/String" ∧ Fld Z h x "java/lang/String" "coder" "B" (.int 0) ∧ ∃ t kb, Fld Z h x "java/lang/String" "value" "[B" (.ref t) ∧ Arv Z h t kb .byte 2 [(.int (lo8 c0)), (.int (lo8 c1))] (.int 0)
theorem own_rmS422 (l : Launch) (Z : State) (a0 : Array Value) (hw : ∀ d ∈ tables_1, d.before a0 Z = true) (x a : Addr) (ka : ClassId) (c0 c1 c2 : Int32) (cz : Int32) (G : Value) (n0 : Nat) (h0 : Heap) (Z0 : n0 ≤ h0.size) (OZ : Old Z n0 h0) (SB : own_SB Z Z.heap cz) (hz : ¬ cz = (0 : Int32)) (SA : own_SA Z Z.heap) (SH : own_SH Z Z.heap) (SL : own_SL Z Z.heap) (SG : own_SG Z Z.heap G) (hG : G.isRef = true) (gx : n0 ≤ x) (hne : a ≠ x) (EX : Exa Z h0 x "java/lang/String") (FV : Fld Z h0 x "java/lang/String" "value" "[B" .null) (FC : Fld Z h0 x "java/lang/String" "coder" "B" (.int 0)) (VA : Arv Z h0 a ka .char 2 [(.int c0), (.int c1)] (.int 0)) (r0 : own_C c0) (r1 : own_C c1) (r2 : own_C c2) (gq0 : ¬ (255 : Int32) < c0) (gq1 : ¬ (255 : Int32) < c1) :
    MetAt l Z y_23 jdk_42_method_149_code 6 none ({ frames := 4, cells := 2, slots := 6, locals := 57 } : Room) #[(.ref x), (.ref a), (.int 0), (.int 2), .null] h0 ((own_rmS422_Q Z x a ka c0 c1 c2 cz G n0 h0)) := by
  refine goBodyM (plainFor_of_name (by first | (simp [plainName, overriddenIn]; done) | decide +kernel)) ?_
  intro p e s m below meth c T0 hx hZ hby hml hown hnm hret hlk X0 e0
  have hown : s.vm.findClass "java/lang/String" = some m.cls := hown
  refine Go.cast (g' := mkF m 0 #[.val (.ref x), .val (.ref a), .val (.int 0), .val (.int 2), .val .null, .unset] []) (by first | (simp [entryFrame, mkF, argsToLocals, Value.category]; done) | rfl) ?_
  show Go p e below _ T0 (mkF m 0 _ [])
  refine Go.aloadN X0 hx hby k23_0 rfl rfl ?_
  refine Go.initObj X0 hx hZ hown (own_t hw 19 rfl) (own_t hw 20 rfl) (own_t hw 21 rfl) e0 (by rw [hml]; rfl) (hb hby k23_1) (by decide) (W := 0) (Nat.le_of_eq rfl) (by decide) fun T1 X1 e1 => ?_
  show Go p e below _ T1 (mkF m 4 _ [])
  refine Go.iloadN X1 hx hby k23_4 rfl ?_
  refine Go.ifYes 27 X1 hx hby k23_5 ((if0 _ _).trans (feq (by decide : ¬ ((2 : Int32) = (0 : Int32)))).2) (by decide) (by decide) ?_
  refine Go.gets X1 hx hZ hown (own_t hw 22 rfl) Via.refl e1 (SB.ext OZ.2) (hb hby k23_27) fun T2 X2 e2 => ?_
  refine Go.ifNo X2 hx hby k23_30 ((if0 _ _).trans (feq hz).1) ?_
  refine Go.aloadN X2 hx hby k23_33 rfl rfl ?_
  refine Go.iloadN X2 hx hby k23_34 rfl ?_
  refine Go.iloadN X2 hx hby k23_35 rfl ?_
  refine Go.callS (W := 0) (y := y_22) (argsL := [(.ref a), (.int 0), (.int 2)]) (rest := []) X2 hx hZ hown (own_t hw 23 rfl) (own_t hw 24 rfl) (own_t hw 25 rfl) (own_t hw 26 rfl) (by decide) (own_rmC322 l Z a0 hw a ka c0 c1 c2 cz G n0 h0 Z0 OZ SB hz SA SH SL SG hG VA r0 r1 r2 gq0 gq1) e2 (by rw [hml]; rfl) (lenOf own_dsc13 rfl) (hb hby k23_36) rfl (Nat.le_of_eq rfl) (by decide) (by decide) (by decide) (by decide) fun _ T3 L3 X3 q3 => ?_
  obtain ⟨b3, k3, rfl, N3q, K3, g3, V3⟩ := q3
  have N3 := Fr.app (Fr.nil n0) N3q
  have sz3 := Nat.le_trans Z0 K3.1
  have kp3 := (Keep.refl h0 [x]).trans K3 all0
  have ne_b3 : b3 ≠ x := Nat.ne_of_gt (Nat.lt_of_lt_of_le EX.lt g3)
  show Go p e below _ T3 (mkF m 39 _ [(.ref b3)])
  refine Go.astore X3 hx hby k23_39 rfl (l' := #[.val (.ref x), .val (.ref a), .val (.int 0), .val (.int 2), .val .null, .val (.ref b3)]) rfl ?_
  refine Go.aloadN X3 hx hby k23_41 rfl rfl ?_
  refine Go.aload X3 hx hby k23_42 rfl rfl ?_
  refine Go.iloadN X3 hx hby k23_44 rfl ?_
  refine Go.callSP (W := 1) (y := y_20) (argsL := [(.ref b3), (.int 2)]) (rest := [(.ref x)]) (r := some (.int 0)) X3 hx hZ hown (own_t hw 31 rfl) (own_t hw 32 rfl) (own_t hw 25 rfl) (own_t hw 33 rfl) (by decide) (own_rmCd02 l Z a0 hw b3 k3 c0 c1 c2 T3.heap V3) rfl (by rw [hml]; rfl) (lenOf own_dsc14 rfl) (hb hby k23_45) rfl (Nat.le_of_eq rfl) (by decide) (by decide) (by decide) (by decide) fun T4 X4 e4 => ?_
  show Go p e below _ T4 (mkF m 48 _ [(.int 0), (.ref x)])
  refine Go.putf X4 hx hZ hown (own_t hw 34 rfl) Via.refl e4 (FC.keep K3 nin0) (EX.keep K3) (Or.inr ⟨(own_t hw 35 rfl), rfl, hnm⟩) (own_t hw 9 rfl) (ty := .byte) (by decide) rfl (fits_nar_byte _) (hb hby k23_48) fun T5 h5 X5 e5 W5 F5 A5 => ?_
  have sz5 := Nat.le_trans sz3 (Keep.of_wr W5).1
  have kp5 := kp3.wr W5 own_i0
  have N5 := Fr.snoc X5 N3 gx
  refine Go.aloadN X5 hx hby k23_51 rfl rfl ?_
  refine Go.aload X5 hx hby k23_52 rfl rfl ?_
  refine Go.putf X5 hx hZ hown (own_t hw 36 rfl) Via.refl e5 ((FV.keep K3 nin0).other W5 (Or.inr (slot_ne (Or.inr (own_t hw 37 rfl)) (Or.inr (own_t hw 35 rfl)) (by decide) (t := (.array .byte)) (t' := .byte) (by decide) (by decide)))) A5 (Or.inr ⟨(own_t hw 37 rfl), rfl, hnm⟩) (own_t hw 9 rfl) (ty := (.array .byte)) (by decide) rfl rfl (hb hby k23_54) fun T6 h6 X6 e6 W6 F6 A6 => ?_
  have sz6 := Nat.le_trans sz5 (Keep.of_wr W6).1
  have kp6 := kp5.wr W6 own_i0
  have N6 := Fr.snoc X6 N5 gx
  exact Go.retV X6 hx hlk hret (hb hby k23_57) (by decide) (by decide) (by rw [e6]; exact ⟨rfl, N6, kp6, A6, (F5.other W6 (Or.inr (slot_ne (Or.inr (own_t hw 35 rfl)) (Or.inr (own_t hw 37 rfl)) (by decide) (t := .byte) (t' := (.array .byte)) (by decide) (by decide)))), b3, k3, F6, ((V3.other W5 ne_b3).other W6 ne_b3)⟩)
abbrev own_rmS122_Q (Z : State) (x a : Addr) (ka : ClassId) (c0 c1 c2 : Int32) (cz : Int32) (G : Value) (n0 : Nat) (h0 : Heap) : Option Value → Heap → List Loc → Prop := fun v h L => v = none ∧ Fr n0 L ∧ Keep h0 h [x] ∧ Exa Z h x "java/lang/String" ∧ Fld Z h x "java/lang/String" "coder" "B" (.int 0) ∧ ∃ t kb, Fld Z h x "java/lang/String" "value" "[B" (.ref t) ∧ Arv Z h t kb .byte 2 [(.int (lo8 c0)), (.int (lo8 c1))] (.int 0)
theorem own_rmS122 (l : Launch) (Z : State) (a0 : Array Value) (hw : ∀ d ∈ tables_1, d.before a0 Z = true) (x a : Addr) (ka : ClassId) (c0 c1 c2 : Int32) (cz : Int32) (G : Value) (n0 : Nat) (h0 : Heap) (Z0 : n0 ≤ h0.size) (OZ : Old Z n0 h0) (SB : own_SB Z Z.heap cz) (hz : ¬ cz = (0 : Int32)) (SA : own_SA Z Z.heap) (SH : own_SH Z Z.heap) (SL : own_SL Z Z.heap) (SG : own_SG Z Z.heap G) (hG : G.isRef = true) (gx : n0 ≤ x) (hne : a ≠ x) (EX : Exa Z h0 x "java/lang/String") (FV : Fld Z h0 x "java/lang/String" "value" "[B" .null) (FC : Fld Z h0 x "java/lang/String" "coder" "B" (.int 0)) (VA : Arv Z h0 a ka .char 2 [(.int c0), (.int c1)] (.int 0)) (r0 : own_C c0) (r1 : own_C c1) (r2 : own_C c2) (gq0 : ¬ (255 : Int32) < c0) (gq1 : ¬ (255 : Int32) < c1) :
    MetAt l Z y_24 jdk_42_method_3_code 2 none ({ frames := 5, cells := 2, slots := 6, locals := 74 } : Room) #[(.ref x), (.ref a)] h0 ((own_rmS122_Q Z x a ka c0 c1 c2 cz G n0 h0)) := by
  refine goBodyM (plainFor_of_name (by first | (simp [plainName, overriddenIn]; done) | decide +kernel)) ?_
  intro p e s m below meth c T0 hx hZ hby hml hown hnm hret hlk X0 e0
  have hown : s.vm.findClass "java/lang/String" = some m.cls := hown
  refine Go.cast (g' := mkF m 0 #[.val (.ref x), .val (.ref a)] []) (by first | (simp [entryFrame, mkF, argsToLocals, Value.category]; done) | rfl) ?_
  show Go p e below _ T0 (mkF m 0 _ [])
  refine Go.aloadN X0 hx hby k24_0 rfl rfl ?_
  refine Go.aloadN X0 hx hby k24_1 rfl rfl ?_
  refine Go.iconst 0 X0 hx hby k24_2 rfl ?_
  refine Go.aloadN X0 hx hby k24_3 rfl rfl ?_
  refine Go.len X0 hx hZ e0 VA (hb hby k24_4) ?_
  refine Go.aconstNull X0 hx hby k24_5 ?_
  refine Go.callI (W := 0) (y := y_23) (a := x) (argsL := [(.ref a), (.int 0), (.int 2), .null]) (rest := []) X0 hx hZ rfl hown (own_t hw 15 rfl) (own_t hw 16 rfl) (own_t hw 10 rfl) (own_t hw 18 rfl) (by decide) (own_rmS422 l Z a0 hw x a ka c0 c1 c2 cz G n0 h0 Z0 OZ SB hz SA SH SL SG hG gx hne EX FV FC VA r0 r1 r2 gq0 gq1) e0 (by rw [hml]; rfl) (lenOf own_dsc15 rfl) (hb hby k24_6) rfl (Nat.le_of_eq rfl) (by decide) (by decide) (by decide) (by decide) fun _ T1 L1 X1 q1 => ?_
  obtain ⟨rfl, N1q, K1, A1, C1, t1, kt1, D1, V1⟩ := q1
  have N1 := Fr.app (Fr.nil n0) N1q
  have sz1 := Nat.le_trans Z0 K1.1
  have kp1 := (Keep.refl h0 [x]).trans K1 (allS own_i0 all0)
  show Go p e below _ T1 (mkF m 9 _ [])
  exact Go.retV X1 hx hlk hret (hb hby k24_9) (by decide) (by decide) ⟨rfl, N1, kp1, A1, C1, t1, kt1, D1, V1⟩
abbrev own_rmPC30_Q (Z : State) (t : Addr) (kt : ClassId) (cc b0 b1 b2 b3 b4 b5 : Int32) (n0 : Nat) (h0 : Heap) : Option Value → Heap → List Loc → Prop := fun v h L => v = none ∧ Fr n0 L ∧ Keep h0 h [t] ∧ Arv Z h t kt .byte 6 [(.int (lo8 cc)), (.int (hi8 cc)), (.int b2), (.int b3), (.int b4), (.int b5)] (.int 0)
theorem own_rmPC30 (l : Launch) (Z : State) (a0 : Array Value) (hw : ∀ d ∈ tables_1, d.before a0 Z = true) (t : Addr) (kt : ClassId) (cc b0 b1 b2 b3 b4 b5 : Int32) (n0 : Nat) (h0 : Heap) (Z0 : n0 ≤ h0.size) (gt : n0 ≤ t) (VT : Arv Z h0 t kt .byte 6 [(.int b0), (.int b1), (.int b2), (.int b3), (.int b4), (.int b5)] (.int 0)) (SA : own_SA Z h0) (SH : own_SH Z h0) (SL : own_SL Z h0) :
    MetAt l Z y_16 jdk_52_method_4_code 3 none ({ frames := 0, cells := 0, slots := 0, locals := 0 } : Room) #[(.ref t), (.int 0), (.int cc)] h0 ((own_rmPC30_Q Z t kt cc b0 b1 b2 b3 b4 b5 n0 h0)) := by
  refine goBodyM (plainFor_of_name (by first | (simp [plainName, overriddenIn]; done) | decide +kernel)) ?_
  intro p e s m below meth c T0 hx hZ hby hml hown hnm hret hlk X0 e0
  have hown : s.vm.findClass "java/lang/StringUTF16" = some m.cls := hown
  refine Go.cast (g' := mkF m 0 #[.val (.ref t), .val (.int 0), .val (.int cc)] []) (by first | (simp [entryFrame, mkF, argsToLocals, Value.category]; done) | rfl) ?_
  show Go p e below _ T0 (mkF m 0 _ [])
  refine Go.gets X0 hx hZ hown (own_t hw 101 rfl) Via.refl e0 SA (hb hby k16_0) fun T1 X1 e1 => ?_
  refine Go.ifYes 28 X1 hx hby k16_3 ((if0 _ _).trans (feq (by decide : ¬ ((1 : Int32) = (0 : Int32)))).2) (by decide) (by decide) ?_
  refine Go.iloadN X1 hx hby k16_28 rfl ?_
  refine Go.iconst 1 X1 hx hby k16_29 rfl ?_
  refine Go.ishl (v := 0) X1 hx hby k16_30 rfl ?_
  refine Go.istoreN X1 hx hby k16_31 (l' := #[.val (.ref t), .val (.int 0), .val (.int cc)]) rfl ?_
  refine Go.aloadN X1 hx hby k16_32 rfl rfl ?_
  refine Go.iloadN X1 hx hby k16_33 rfl ?_
  refine Go.iinc X1 hx hby k16_34 rfl (l' := #[.val (.ref t), .val (.int 1), .val (.int cc)]) rfl ?_
  refine Go.iloadN X1 hx hby k16_37 rfl ?_
  refine Go.gets X1 hx hZ hown (own_t hw 102 rfl) Via.refl e1 SH (hb hby k16_38) fun T2 X2 e2 => ?_
  refine Go.ishr X2 hx hby k16_41 rfl ?_
  refine Go.i2b X2 hx hby k16_42 rfl ?_
  refine Go.bastore X2 hx hZ e2 VT ⟨by decide, by decide⟩ 0 rfl (Nat.le_of_ble_eq_true rfl) (hb hby k16_43) fun T3 h3 X3 e3 W3 V3 => ?_
  have sz3 := Nat.le_trans Z0 (Keep.of_wr W3).1
  have kp3 := (Keep.refl h0 [t]).wr W3 own_i0
  have N3 := Fr.snoc X3 (Fr.nil n0) gt
  have V3 : Arv Z h3 t kt .byte (6 : Int32) [(.int (nar .byte ((cc >>> ((0 : Int32) &&& 31)).toInt8.toInt32))), (.int b1), (.int b2), (.int b3), (.int b4), (.int b5)] (.int 0) := V3
  show Go p e below _ T3 (mkF m 44 _ [])
  refine Go.aloadN X3 hx hby k16_44 rfl rfl ?_
  refine Go.iloadN X3 hx hby k16_45 rfl ?_
  refine Go.iloadN X3 hx hby k16_46 rfl ?_
  refine Go.gets X3 hx hZ hown (own_t hw 103 rfl) Via.refl e3 (SL.wr W3) (hb hby k16_47) fun T4 X4 e4 => ?_
  refine Go.ishr X4 hx hby k16_50 rfl ?_
  refine Go.i2b X4 hx hby k16_51 rfl ?_
  refine Go.bastore X4 hx hZ e4 V3 ⟨by decide, by decide⟩ 1 rfl (Nat.le_of_ble_eq_true rfl) (hb hby k16_52) fun T5 h5 X5 e5 W5 V5 => ?_
  have sz5 := Nat.le_trans sz3 (Keep.of_wr W5).1
  have kp5 := kp3.wr W5 own_i0
  have N5 := Fr.snoc X5 N3 gt
  have V5 : Arv Z h5 t kt .byte (6 : Int32) [(.int (nar .byte ((cc >>> ((0 : Int32) &&& 31)).toInt8.toInt32))), (.int (nar .byte ((cc >>> ((8 : Int32) &&& 31)).toInt8.toInt32))), (.int b2), (.int b3), (.int b4), (.int b5)] (.int 0) := V5
  exact Go.retV X5 hx hlk hret (hb hby k16_53) (by decide) (by decide) (by rw [e5]; exact ⟨rfl, N5, kp5, by have q := V5; rw [own_w0, own_w1] at q; exact q⟩)
abbrev own_rmPC31_Q (Z : State) (t : Addr) (kt : ClassId) (cc b0 b1 b2 b3 b4 b5 : Int32) (n0 : Nat) (h0 : Heap) : Option Value → Heap → List Loc → Prop := fun v h L => v = none ∧ Fr n0 L ∧ Keep h0 h [t] ∧ Arv Z h t kt .byte 6 [(.int b0), (.int b1), (.int (lo8 cc)), (.int (hi8 cc)), (.int b4), (.int b5)] (.int 0)
theorem own_rmPC31 (l : Launch) (Z : State) (a0 : Array Value) (hw : ∀ d ∈ tables_1, d.before a0 Z = true) (t : Addr) (kt : ClassId) (cc b0 b1 b2 b3 b4 b5 : Int32) (n0 : Nat) (h0 : Heap) (Z0 : n0 ≤ h0.size) (gt : n0 ≤ t) (VT : Arv Z h0 t kt .byte 6 [(.int b0), (.int b1), (.int b2), (.int b3), (.int b4), (.int b5)] (.int 0)) (SA : own_SA Z h0) (SH : own_SH Z h0) (SL : own_SL Z h0) :
    MetAt l Z y_16 jdk_52_method_4_code 3 none ({ frames := 0, cells := 0, slots := 0, locals := 0 } : Room) #[(.ref t), (.int 1), (.int cc)] h0 ((own_rmPC31_Q Z t kt cc b0 b1 b2 b3 b4 b5 n0 h0)) := by
  refine goBodyM (plainFor_of_name (by first | (simp [plainName, overriddenIn]; done) | decide +kernel)) ?_
  intro p e s m below meth c T0 hx hZ hby hml hown hnm hret hlk X0 e0
  have hown : s.vm.findClass "java/lang/StringUTF16" = some m.cls := hown
  refine Go.cast (g' := mkF m 0 #[.val (.ref t), .val (.int 1), .val (.int cc)] []) (by first | (simp [entryFrame, mkF, argsToLocals, Value.category]; done) | rfl) ?_
  show Go p e below _ T0 (mkF m 0 _ [])
  refine Go.gets X0 hx hZ hown (own_t hw 101 rfl) Via.refl e0 SA (hb hby k16_0) fun T1 X1 e1 => ?_
  refine Go.ifYes 28 X1 hx hby k16_3 ((if0 _ _).trans (feq (by decide : ¬ ((1 : Int32) = (0 : Int32)))).2) (by decide) (by decide) ?_
  refine Go.iloadN X1 hx hby k16_28 rfl ?_
  refine Go.iconst 1 X1 hx hby k16_29 rfl ?_
  refine Go.ishl (v := 2) X1 hx hby k16_30 rfl ?_
  refine Go.istoreN X1 hx hby k16_31 (l' := #[.val (.ref t), .val (.int 2), .val (.int cc)]) rfl ?_
  refine Go.aloadN X1 hx hby k16_32 rfl rfl ?_
  refine Go.iloadN X1 hx hby k16_33 rfl ?_
  refine Go.iinc X1 hx hby k16_34 rfl (l' := #[.val (.ref t), .val (.int 3), .val (.int cc)]) rfl ?_
  refine Go.iloadN X1 hx hby k16_37 rfl ?_
  refine Go.gets X1 hx hZ hown (own_t hw 102 rfl) Via.refl e1 SH (hb hby k16_38) fun T2 X2 e2 => ?_
  refine Go.ishr X2 hx hby k16_41 rfl ?_
  refine Go.i2b X2 hx hby k16_42 rfl ?_
  refine Go.bastore X2 hx hZ e2 VT ⟨by decide, by decide⟩ 2 rfl (Nat.le_of_ble_eq_true rfl) (hb hby k16_43) fun T3 h3 X3 e3 W3 V3 => ?_
  have sz3 := Nat.le_trans Z0 (Keep.of_wr W3).1
  have kp3 := (Keep.refl h0 [t]).wr W3 own_i0
  have N3 := Fr.snoc X3 (Fr.nil n0) gt
  have V3 : Arv Z h3 t kt .byte (6 : Int32) [(.int b0), (.int b1), (.int (nar .byte ((cc >>> ((0 : Int32) &&& 31)).toInt8.toInt32))), (.int b3), (.int b4), (.int b5)] (.int 0) := V3
  show Go p e below _ T3 (mkF m 44 _ [])
  refine Go.aloadN X3 hx hby k16_44 rfl rfl ?_
  refine Go.iloadN X3 hx hby k16_45 rfl ?_
  refine Go.iloadN X3 hx hby k16_46 rfl ?_
  refine Go.gets X3 hx hZ hown (own_t hw 103 rfl) Via.refl e3 (SL.wr W3) (hb hby k16_47) fun T4 X4 e4 => ?_
  refine Go.ishr X4 hx hby k16_50 rfl ?_
  refine Go.i2b X4 hx hby k16_51 rfl ?_
  refine Go.bastore X4 hx hZ e4 V3 ⟨by decide, by decide⟩ 3 rfl (Nat.le_of_ble_eq_true rfl) (hb hby k16_52) fun T5 h5 X5 e5 W5 V5 => ?_
  have sz5 := Nat.le_trans sz3 (Keep.of_wr W5).1
  have kp5 := kp3.wr W5 own_i0
  have N5 := Fr.snoc X5 N3 gt
  have V5 : Arv Z h5 t kt .byte (6 : Int32) [(.int b0), (.int b1), (.int (nar .byte ((cc >>> ((0 : Int32) &&& 31)).toInt8.toInt32))), (.int (nar .byte ((cc >>> ((8 : Int32) &&& 31)).toInt8.toInt32))), (.int b4), (.int b5)] (.int 0) := V5
  exact Go.retV X5 hx hlk hret (hb hby k16_53) (by decide) (by decide) (by rw [e5]; exact ⟨rfl, N5, kp5, by have q := V5; rw [own_w0, own_w1] at q; exact q⟩)
abbrev own_rmPC32_Q (Z : State) (t : Addr) (kt : ClassId) (cc b0 b1 b2 b3 b4 b5 : Int32) (n0 : Nat) (h0 : Heap) : Option Value → Heap → List Loc → Prop := fun v h L => v = none ∧ Fr n0 L ∧ Keep h0 h [t] ∧ Arv Z h t kt .byte 6 [(.int b0), (.int b1), (.int b2), (.int b3), (.int (lo8 cc)), (.int (hi8 cc))] (.int 0)
theorem own_rmPC32 (l : Launch) (Z : State) (a0 : Array Value) (hw : ∀ d ∈ tables_1, d.before a0 Z = true) (t : Addr) (kt : ClassId) (cc b0 b1 b2 b3 b4 b5 : Int32) (n0 : Nat) (h0 : Heap) (Z0 : n0 ≤ h0.size) (gt : n0 ≤ t) (VT : Arv Z h0 t kt .byte 6 [(.int b0), (.int b1), (.int b2), (.int b3), (.int b4), (.int b5)] (.int 0)) (SA : own_SA Z h0) (SH : own_SH Z h0) (SL : own_SL Z h0) :
    MetAt l Z y_16 jdk_52_method_4_code 3 none ({ frames := 0, cells := 0, slots := 0, locals := 0 } : Room) #[(.ref t), (.int 2), (.int cc)] h0 ((own_rmPC32_Q Z t kt cc b0 b1 b2 b3 b4 b5 n0 h0)) := by
  refine goBodyM (plainFor_of_name (by first | (simp [plainName, overriddenIn]; done) | decide +kernel)) ?_
  intro p e s m below meth c T0 hx hZ hby hml hown hnm hret hlk X0 e0
  have hown : s.vm.findClass "java/lang/StringUTF16" = some m.cls := hown
  refine Go.cast (g' := mkF m 0 #[.val (.ref t), .val (.int 2), .val (.int cc)] []) (by first | (simp [entryFrame, mkF, argsToLocals, Value.category]; done) | rfl) ?_
  show Go p e below _ T0 (mkF m 0 _ [])
  refine Go.gets X0 hx hZ hown (own_t hw 101 rfl) Via.refl e0 SA (hb hby k16_0) fun T1 X1 e1 => ?_
  refine Go.ifYes 28 X1 hx hby k16_3 ((if0 _ _).trans (feq (by decide : ¬ ((1 : Int32) = (0 : Int32)))).2) (by decide) (by decide) ?_
  refine Go.iloadN X1 hx hby k16_28 rfl ?_
  refine Go.iconst 1 X1 hx hby k16_29 rfl ?_
  refine Go.ishl (v := 4) X1 hx hby k16_30 rfl ?_
  refine Go.istoreN X1 hx hby k16_31 (l' := #[.val (.ref t), .val (.int 4), .val (.int cc)]) rfl ?_
  refine Go.aloadN X1 hx hby k16_32 rfl rfl ?_
  refine Go.iloadN X1 hx hby k16_33 rfl ?_
  refine Go.iinc X1 hx hby k16_34 rfl (l' := #[.val (.ref t), .val (.int 5), .val (.int cc)]) rfl ?_
  refine Go.iloadN X1 hx hby k16_37 rfl ?_
  refine Go.gets X1 hx hZ hown (own_t hw 102 rfl) Via.refl e1 SH (hb hby k16_38) fun T2 X2 e2 => ?_
  refine Go.ishr X2 hx hby k16_41 rfl ?_
  refine Go.i2b X2 hx hby k16_42 rfl ?_
  refine Go.bastore X2 hx hZ e2 VT ⟨by decide, by decide⟩ 4 rfl (Nat.le_of_ble_eq_true rfl) (hb hby k16_43) fun T3 h3 X3 e3 W3 V3 => ?_
  have sz3 := Nat.le_trans Z0 (Keep.of_wr W3).1
  have kp3 := (Keep.refl h0 [t]).wr W3 own_i0
  have N3 := Fr.snoc X3 (Fr.nil n0) gt
  have V3 : Arv Z h3 t kt .byte (6 : Int32) [(.int b0), (.int b1), (.int b2), (.int b3), (.int (nar .byte ((cc >>> ((0 : Int32) &&& 31)).toInt8.toInt32))), (.int b5)] (.int 0) := V3
  show Go p e below _ T3 (mkF m 44 _ [])
  refine Go.aloadN X3 hx hby k16_44 rfl rfl ?_
  refine Go.iloadN X3 hx hby k16_45 rfl ?_
  refine Go.iloadN X3 hx hby k16_46 rfl ?_
  refine Go.gets X3 hx hZ hown (own_t hw 103 rfl) Via.refl e3 (SL.wr W3) (hb hby k16_47) fun T4 X4 e4 => ?_
  refine Go.ishr X4 hx hby k16_50 rfl ?_
  refine Go.i2b X4 hx hby k16_51 rfl ?_
  refine Go.bastore X4 hx hZ e4 V3 ⟨by decide, by decide⟩ 5 rfl (Nat.le_of_ble_eq_true rfl) (hb hby k16_52) fun T5 h5 X5 e5 W5 V5 => ?_
  have sz5 := Nat.le_trans sz3 (Keep.of_wr W5).1
  have kp5 := kp3.wr W5 own_i0
  have N5 := Fr.snoc X5 N3 gt
  have V5 : Arv Z h5 t kt .byte (6 : Int32) [(.int b0), (.int b1), (.int b2), (.int b3), (.int (nar .byte ((cc >>> ((0 : Int32) &&& 31)).toInt8.toInt32))), (.int (nar .byte ((cc >>> ((8 : Int32) &&& 31)).toInt8.toInt32)))] (.int 0) := V5
  exact Go.retV X5 hx hlk hret (hb hby k16_53) (by decide) (by decide) (by rw [e5]; exact ⟨rfl, N5, kp5, by have q := V5; rw [own_w0, own_w1] at q; exact q⟩)
theorem own_rmNL3 (l : Launch) (Z : State) (a0 : Array Value) (hw : ∀ d ∈ tables_1, d.before a0 Z = true)  (h0 : Heap)  :
    MetAt l Z y_17 jdk_52_method_3_code 1 (some .int) ({ frames := 0, cells := 0, slots := 0, locals := 0 } : Room) #[(.int 3)] h0 (PQ h0 (some (.int 6))) := by
  refine goBodyM (plainFor_of_name (by first | (simp [plainName, overriddenIn]; done) | decide +kernel)) ?_
  intro p e s m below meth c T0 hx hZ hby hml hown hnm hret hlk X0 e0
  have hown : s.vm.findClass "java/lang/StringUTF16" = some m.cls := hown
  refine Go.cast (g' := mkF m 0 #[.val (.int 3)] []) (by first | (simp [entryFrame, mkF, argsToLocals, Value.category]; done) | rfl) ?_
  show Go p e below _ T0 (mkF m 0 _ [])
  refine Go.iloadN X0 hx hby k17_0 rfl ?_
  refine Go.ifYes 12 X0 hx hby k17_1 ((if0 _ _).trans (flt (by decide : ¬ ((3 : Int32) < (0 : Int32)))).2.1) (by decide) (by decide) ?_
  refine Go.iloadN X0 hx hby k17_12 rfl ?_
  refine Go.of (X0.ldcInt hx hown (mvT hZ (own_t hw 97 rfl)) (g := (mkF m 13 #[.val (.int 3)] [(.int 3)])) rfl (hb hby k17_13)) ?_
  show Go p e below _ T0 (mkF m 15 _ [(.int 1073741823), (.int 3)])
  refine Go.icmpYes 55 X0 hx hby k17_15 (tlt (by decide : (3 : Int32) < (1073741823 : Int32))).1 (by decide) (by decide) ?_
  refine Go.iloadN X0 hx hby k17_55 rfl ?_
  refine Go.iconst 1 X0 hx hby k17_56 rfl ?_
  refine Go.ishl (v := 6) X0 hx hby k17_57 rfl ?_
  exact Go.retI X0 hx hlk hret (hb hby k17_58) (by decide) (by decide) ⟨rfl, rfl, e0⟩
abbrev own_rmNF3_Q (Z : State) (zz : Nat) (h0 : Heap) : Option Value → Heap → List Loc → Prop := fun v h L => ∃ b k, v = some (.ref b) ∧ L = [] ∧ Ext h0 h ∧ b = h0.size ∧ Arv Z h b k .byte 6 [(.int 0), (.int 0), (.int 0), (.int 0), (.int 0), (.int 0)] (.int 0)
theorem own_rmNF3 (l : Launch) (Z : State) (a0 : Array Value) (hw : ∀ d ∈ tables_1, d.before a0 Z = true) (zz : Nat) (h0 : Heap)  :
    MetAt l Z y_18 jdk_52_method_2_code 1 (some (.array .byte)) ({ frames := 1, cells := 1, slots := 6, locals := 12 } : Room) #[(.int 3)] h0 ((own_rmNF3_Q Z zz h0)) := by
  refine goBodyM (plainFor_of_name (by first | (simp [plainName, overriddenIn]; done) | decide +kernel)) ?_
  intro p e s m below meth c T0 hx hZ hby hml hown hnm hret hlk X0 e0
  have hown : s.vm.findClass "java/lang/StringUTF16" = some m.cls := hown
  refine Go.cast (g' := mkF m 0 #[.val (.int 3)] []) (by first | (simp [entryFrame, mkF, argsToLocals, Value.category]; done) | rfl) ?_
  show Go p e below _ T0 (mkF m 0 _ [])
  refine Go.iloadN X0 hx hby k18_0 rfl ?_
  refine Go.callSP (W := 0) (y := y_17) (argsL := [(.int 3)]) (rest := []) (r := some (.int 6)) X0 hx hZ hown (own_t hw 94 rfl) (own_t hw 95 rfl) (own_t hw 25 rfl) (own_t hw 96 rfl) (by decide) (own_rmNL3 l Z a0 hw h0) e0 (by rw [hml]; rfl) (lenOf own_dsc9 rfl) (hb hby k18_1) rfl (Nat.le_of_eq rfl) (by decide) (by decide) (by decide) (by decide) fun T1 X1 e1 => ?_
  show Go p e below _ T1 (mkF m 4 _ [(.int 6)])
  refine Go.newarr X1 hx hZ (own_t hw 27 rfl) e1 6 (by decide) (by decide) (by decide) (by decide) (by decide) (hb hby k18_4) fun T2 h2 b2 k2 g2 X2 e2 E2 V2 => ?_
  have ge_b2 : h0.size ≤ b2 := g2 ▸ (Nat.le_refl _)
  have sz2 := Nat.le_trans (Nat.le_refl _) E2.1
  have V2 : Arv Z h2 b2 k2 .byte (6 : Int32) [(.int 0), (.int 0), (.int 0), (.int 0), (.int 0), (.int 0)] (.int 0) := V2
  exact Go.retA X2 hx hlk hret rfl rfl rfl (hb hby k18_6) (by decide) (by decide) (by rw [e2]; exact ⟨b2, k2, rfl, rfl, E2, g2, V2⟩)
abbrev own_rmTB3_Q (Z : State) (a : Addr) (ka : ClassId) (c0 c1 c2 : Int32) (cz : Int32) (G : Value) (n0 : Nat) (h0 : Heap) : Option Value → Heap → List Loc → Prop := fun v h L => ∃ b k, v = some (.ref b) ∧ Fr n0 L ∧ Keep h0 h [] ∧ h0.size ≤ b ∧ Arv Z h b k .byte 6 [(.int (lo8 c0)), (.int (hi8 c0)), (.int (lo8 c1)), (.int (hi8 c1)), (.int (lo8 c2)), (.int (hi8 c2))] (.int 0)
theorem own_rmTB3 (l : Launch) (Z : State) (a0 : Array Value) (hw : ∀ d ∈ tables_1, d.before a0 Z = true) (a : Addr) (ka : ClassId) (c0 c1 c2 : Int32) (cz : Int32) (G : Value) (n0 : Nat) (h0 : Heap) (Z0 : n0 ≤ h0.size) (OZ : Old Z n0 h0) (SB : own_SB Z Z.heap cz) (hz : ¬ cz = (0 : Int32)) (SA : own_SA Z Z.heap) (SH : own_SH Z Z.heap) (SL : own_SL Z Z.heap) (SG : own_SG Z Z.heap G) (hG : G.isRef = true) (VA : Arv Z h0 a ka .char 3 [(.int c0), (.int c1), (.int c2)] (.int 0)) :
    MetAt l Z y_19 jdk_52_method_14_code 5 (some (.array .byte)) ({ frames := 2, cells := 1, slots := 6, locals := 24 } : Room) #[(.ref a), (.int 0), (.int 3)] h0 ((own_rmTB3_Q Z a ka c0 c1 c2 cz G n0 h0)) := by
  refine goBodyM (plainFor_of_name (by first | (simp [plainName, overriddenIn]; done) | decide +kernel)) ?_
  intro p e s m below meth c T0 hx hZ hby hml hown hnm hret hlk X0 e0
  have hown : s.vm.findClass "java/lang/StringUTF16" = some m.cls := hown
  refine Go.cast (g' := mkF m 0 #[.val (.ref a), .val (.int 0), .val (.int 3), .unset, .unset] []) (by first | (simp [entryFrame, mkF, argsToLocals, Value.category]; done) | rfl) ?_
  show Go p e below _ T0 (mkF m 0 _ [])
  refine Go.iloadN X0 hx hby k19_0 rfl ?_
  refine Go.callS (W := 0) (y := y_18) (argsL := [(.int 3)]) (rest := []) X0 hx hZ hown (own_t hw 91 rfl) (own_t hw 92 rfl) (own_t hw 25 rfl) (own_t hw 93 rfl) (by decide) (own_rmNF3 l Z a0 hw 0 h0) e0 (by rw [hml]; rfl) (lenOf own_dsc10 rfl) (hb hby k19_1) rfl (Nat.le_of_eq rfl) (by decide) (by decide) (by decide) (by decide) fun _ T1 L1 X1 q1 => ?_
  obtain ⟨b1, k1, rfl, rfl, E1, g1, V1⟩ := q1
  rw [List.append_nil] at X1
  have lt_a_b1 : a < b1 := Nat.lt_of_lt_of_le VA.lt (Nat.le_of_eq g1.symm)
  have ge_b1 : n0 ≤ b1 := g1 ▸ Z0
  have hs_b1 : h0.size ≤ b1 := g1 ▸ (Keep.refl h0 []).1
  have sz1 := Nat.le_trans Z0 E1.1
  have kp1 := (Keep.refl h0 []).ext E1
  show Go p e below _ T1 (mkF m 4 _ [(.ref b1)])
  refine Go.astoreN X1 hx hby k19_4 rfl (l' := #[.val (.ref a), .val (.int 0), .val (.int 3), .val (.ref b1), .unset]) rfl ?_
  refine Go.iconst 0 X1 hx hby k19_5 rfl ?_
  refine Go.istore X1 hx hby k19_6 (l' := #[.val (.ref a), .val (.int 0), .val (.int 3), .val (.ref b1), .val (.int 0)]) rfl ?_
  refine Go.iload X1 hx hby k19_8 rfl ?_
  refine Go.iloadN X1 hx hby k19_10 rfl ?_
  refine Go.icmpNo X1 hx hby k19_11 (tlt (by decide : (0 : Int32) < (3 : Int32))).2.1 ?_
  refine Go.aloadN X1 hx hby k19_14 rfl rfl ?_
  refine Go.iload X1 hx hby k19_15 rfl ?_
  refine Go.aloadN X1 hx hby k19_17 rfl rfl ?_
  refine Go.iloadN X1 hx hby k19_18 rfl ?_
  refine Go.caload X1 hx hZ rfl (VA.ext E1) ⟨by decide, by decide⟩ (v := (.int c0)) rfl (hb hby k19_19) ?_
  refine Go.callS (W := 0) (y := y_16) (argsL := [(.ref b1), (.int 0), (.int c0)]) (rest := []) X1 hx hZ hown (own_t hw 98 rfl) (own_t hw 99 rfl) (own_t hw 25 rfl) (own_t hw 100 rfl) (by decide) (own_rmPC30 l Z a0 hw b1 k1 c0 (0 : Int32) (0 : Int32) (0 : Int32) (0 : Int32) (0 : Int32) (0 : Int32) n0 T1.heap sz1 ge_b1 V1 (SA.ext (OZ.ext E1).2) (SH.ext (OZ.ext E1).2) (SL.ext (OZ.ext E1).2)) rfl (by rw [hml]; rfl) (lenOf own_dsc11 rfl) (hb hby k19_20) rfl (Nat.le_of_eq rfl) (by decide) (by decide) (by decide) (by decide) fun _ T2 L2 X2 q2 => ?_
  obtain ⟨rfl, N2q, K2, V2⟩ := q2
  have N2 := Fr.app (Fr.nil n0) N2q
  have sz2 := Nat.le_trans sz1 K2.1
  have kp2 := kp1.trans K2 (allS (Or.inr hs_b1) all0)
  show Go p e below _ T2 (mkF m 23 _ [])
  refine Go.iinc X2 hx hby k19_23 rfl (l' := #[.val (.ref a), .val (.int 1), .val (.int 3), .val (.ref b1), .val (.int 0)]) rfl ?_
  refine Go.iinc X2 hx hby k19_26 rfl (l' := #[.val (.ref a), .val (.int 1), .val (.int 3), .val (.ref b1), .val (.int 1)]) rfl ?_
  refine Go.goto 8 X2 hx hby k19_29 (by decide) (by decide) ?_
  refine Go.iload X2 hx hby k19_8 rfl ?_
  refine Go.iloadN X2 hx hby k19_10 rfl ?_
  refine Go.icmpNo X2 hx hby k19_11 (tlt (by decide : (1 : Int32) < (3 : Int32))).2.1 ?_
  refine Go.aloadN X2 hx hby k19_14 rfl rfl ?_
  refine Go.iload X2 hx hby k19_15 rfl ?_
  refine Go.aloadN X2 hx hby k19_17 rfl rfl ?_
  refine Go.iloadN X2 hx hby k19_18 rfl ?_
  refine Go.caload X2 hx hZ rfl ((VA.ext E1).keep K2 (ninS (Nat.ne_of_lt lt_a_b1) nin0)) ⟨by decide, by decide⟩ (v := (.int c1)) rfl (hb hby k19_19) ?_
  refine Go.callS (W := 0) (y := y_16) (argsL := [(.ref b1), (.int 1), (.int c1)]) (rest := []) X2 hx hZ hown (own_t hw 98 rfl) (own_t hw 99 rfl) (own_t hw 25 rfl) (own_t hw 100 rfl) (by decide) (own_rmPC31 l Z a0 hw b1 k1 c1 (lo8 c0) (hi8 c0) (0 : Int32) (0 : Int32) (0 : Int32) (0 : Int32) n0 T2.heap sz2 ge_b1 V2 (SA.ext ((OZ.ext E1).keep K2 (allS ge_b1 all0)).2) (SH.ext ((OZ.ext E1).keep K2 (allS ge_b1 all0)).2) (SL.ext ((OZ.ext E1).keep K2 (allS ge_b1 all0)).2)) rfl (by rw [hml]; rfl) (lenOf own_dsc11 rfl) (hb hby k19_20) rfl (Nat.le_of_eq rfl) (by decide) (by decide) (by decide) (by decide) fun _ T3 L3 X3 q3 => ?_
  obtain ⟨rfl, N3q, K3, V3⟩ := q3
  have N3 := Fr.app N2 N3q
  have sz3 := Nat.le_trans sz2 K3.1
  have kp3 := kp2.trans K3 (allS (Or.inr hs_b1) all0)
  show Go p e below _ T3 (mkF m 23 _ [])
  refine Go.iinc X3 hx hby k19_23 rfl (l' := #[.val (.ref a), .val (.int 2), .val (.int 3), .val (.ref b1), .val (.int 1)]) rfl ?_
  refine Go.iinc X3 hx hby k19_26 rfl (l' := #[.val (.ref a), .val (.int 2), .val (.int 3), .val (.ref b1), .val (.int 2)]) rfl ?_
  refine Go.goto 8 X3 hx hby k19_29 (by decide) (by decide) ?_
  refine Go.iload X3 hx hby k19_8 rfl ?_
  refine Go.iloadN X3 hx hby k19_10 rfl ?_
  refine Go.icmpNo X3 hx hby k19_11 (tlt (by decide : (2 : Int32) < (3 : Int32))).2.1 ?_
  refine Go.aloadN X3 hx hby k19_14 rfl rfl ?_
  refine Go.iload X3 hx hby k19_15 rfl ?_
  refine Go.aloadN X3 hx hby k19_17 rfl rfl ?_
  refine Go.iloadN X3 hx hby k19_18 rfl ?_
  refine Go.caload X3 hx hZ rfl (((VA.ext E1).keep K2 (ninS (Nat.ne_of_lt lt_a_b1) nin0)).keep K3 (ninS (Nat.ne_of_lt lt_a_b1) nin0)) ⟨by decide, by decide⟩ (v := (.int c2)) rfl (hb hby k19_19) ?_
  refine Go.callS (W := 0) (y := y_16) (argsL := [(.ref b1), (.int 2), (.int c2)]) (rest := []) X3 hx hZ hown (own_t hw 98 rfl) (own_t hw 99 rfl) (own_t hw 25 rfl) (own_t hw 100 rfl) (by decide) (own_rmPC32 l Z a0 hw b1 k1 c2 (lo8 c0) (hi8 c0) (lo8 c1) (hi8 c1) (0 : Int32) (0 : Int32) n0 T3.heap sz3 ge_b1 V3 (SA.ext (((OZ.ext E1).keep K2 (allS ge_b1 all0)).keep K3 (allS ge_b1 all0)).2) (SH.ext (((OZ.ext E1).keep K2 (allS ge_b1 all0)).keep K3 (allS ge_b1 all0)).2) (SL.ext (((OZ.ext E1).keep K2 (allS ge_b1 all0)).keep K3 (allS ge_b1 all0)).2)) rfl (by rw [hml]; rfl) (lenOf own_dsc11 rfl) (hb hby k19_20) rfl (Nat.le_of_eq rfl) (by decide) (by decide) (by decide) (by decide) fun _ T4 L4 X4 q4 => ?_
  obtain ⟨rfl, N4q, K4, V4⟩ := q4
  have N4 := Fr.app N3 N4q
  have sz4 := Nat.le_trans sz3 K4.1
  have kp4 := kp3.trans K4 (allS (Or.inr hs_b1) all0)
  show Go p e below _ T4 (mkF m 23 _ [])
  refine Go.iinc X4 hx hby k19_23 rfl (l' := #[.val (.ref a), .val (.int 3), .val (.int 3), .val (.ref b1), .val (.int 2)]) rfl ?_
  refine Go.iinc X4 hx hby k19_26 rfl (l' := #[.val (.ref a), .val (.int 3), .val (.int 3), .val (.ref b1), .val (.int 3)]) rfl ?_
  refine Go.goto 8 X4 hx hby k19_29 (by decide) (by decide) ?_
  refine Go.iload X4 hx hby k19_8 rfl ?_
  refine Go.iloadN X4 hx hby k19_10 rfl ?_
  refine Go.icmpYes 32 X4 hx hby k19_11 (flt (by decide : ¬ ((3 : Int32) < (3 : Int32)))).2.1 (by decide) (by decide) ?_
  refine Go.aloadN X4 hx hby k19_32 rfl rfl ?_
  exact Go.retA X4 hx hlk hret rfl rfl rfl (hb hby k19_33) (by decide) (by decide) (by exact ⟨b1, k1, rfl, N4, kp4, hs_b1, V4⟩)
theorem own_rmCd03 (l : Launch) (Z : State) (a0 : Array Value) (hw : ∀ d ∈ tables_1, d.before a0 Z = true) (t : Addr) (kt : ClassId) (c0 c1 c2 : Int32) (h0 : Heap) (VT : Arv Z h0 t kt .byte 3 [(.int (lo8 c0)), (.int (lo8 c1)), (.int (lo8 c2))] (.int 0)) :
    MetAt l Z y_20 jdk_52_method_15_code 2 (some .byte) ({ frames := 0, cells := 0, slots := 0, locals := 0 } : Room) #[(.ref t), (.int 3)] h0 (PQ h0 (some (.int 0))) := by
  refine goBodyM (plainFor_of_name (by first | (simp [plainName, overriddenIn]; done) | decide +kernel)) ?_
  intro p e s m below meth c T0 hx hZ hby hml hown hnm hret hlk X0 e0
  have hown : s.vm.findClass "java/lang/StringUTF16" = some m.cls := hown
  refine Go.cast (g' := mkF m 0 #[.val (.ref t), .val (.int 3)] []) (by first | (simp [entryFrame, mkF, argsToLocals, Value.category]; done) | rfl) ?_
  show Go p e below _ T0 (mkF m 0 _ [])
  refine Go.iloadN X0 hx hby k20_0 rfl ?_
  refine Go.aloadN X0 hx hby k20_1 rfl rfl ?_
  refine Go.len X0 hx hZ e0 VT (hb hby k20_2) ?_
  refine Go.isub (v := 0) X0 hx hby k20_3 rfl ?_
  refine Go.bipush 31 X0 hx hby k20_4 rfl ?_
  refine Go.iushr (v := 0) X0 hx hby k20_6 rfl ?_
  refine Go.i2b (v := 0) X0 hx hby k20_7 rfl ?_
  exact Go.retN X0 hx hlk (t := .byte) hret (by simp) (hb hby k20_8) (by decide) (by decide) ⟨rfl, rfl, e0⟩
theorem own_rmCd13 (l : Launch) (Z : State) (a0 : Array Value) (hw : ∀ d ∈ tables_1, d.before a0 Z = true) (t : Addr) (kt : ClassId) (c0 c1 c2 : Int32) (h0 : Heap) (VT : Arv Z h0 t kt .byte 6 [(.int (lo8 c0)), (.int (hi8 c0)), (.int (lo8 c1)), (.int (hi8 c1)), (.int (lo8 c2)), (.int (hi8 c2))] (.int 0)) :
    MetAt l Z y_20 jdk_52_method_15_code 2 (some .byte) ({ frames := 0, cells := 0, slots := 0, locals := 0 } : Room) #[(.ref t), (.int 3)] h0 (PQ h0 (some (.int 1))) := by
  refine goBodyM (plainFor_of_name (by first | (simp [plainName, overriddenIn]; done) | decide +kernel)) ?_
  intro p e s m below meth c T0 hx hZ hby hml hown hnm hret hlk X0 e0
  have hown : s.vm.findClass "java/lang/StringUTF16" = some m.cls := hown
  refine Go.cast (g' := mkF m 0 #[.val (.ref t), .val (.int 3)] []) (by first | (simp [entryFrame, mkF, argsToLocals, Value.category]; done) | rfl) ?_
  show Go p e below _ T0 (mkF m 0 _ [])
  refine Go.iloadN X0 hx hby k20_0 rfl ?_
  refine Go.aloadN X0 hx hby k20_1 rfl rfl ?_
  refine Go.len X0 hx hZ e0 VT (hb hby k20_2) ?_
  refine Go.isub (v := (-3)) X0 hx hby k20_3 rfl ?_
  refine Go.bipush 31 X0 hx hby k20_4 rfl ?_
  refine Go.iushr (v := 1) X0 hx hby k20_6 rfl ?_
  refine Go.i2b (v := 1) X0 hx hby k20_7 rfl ?_
  exact Go.retN X0 hx hlk (t := .byte) hret (by simp) (hb hby k20_8) (by decide) (by decide) ⟨rfl, rfl, e0⟩
abbrev own_rmC530_Q (Z : State) (a : Addr) (ka : ClassId) (d : Addr) (kd : ClassId) (c0 c1 c2 : Int32) (n0 : Nat) (h0 : Heap) : Option Value → Heap → List Loc → Prop := fun v h L => v = some (.int 0) ∧ Fr n0 L ∧ Keep h0 h [d]
theorem own_rmC530 (l : Launch) (Z : State) (a0 : Array Value) (hw : ∀ d ∈ tables_1, d.before a0 Z = true) (a : Addr) (ka : ClassId) (d : Addr) (kd : ClassId) (c0 c1 c2 : Int32) (n0 : Nat) (h0 : Heap) (Z0 : n0 ≤ h0.size) (gd : n0 ≤ d) (hne : a ≠ d) (VA : Arv Z h0 a ka .char 3 [(.int c0), (.int c1), (.int c2)] (.int 0)) (VD : Arv Z h0 d kd .byte 3 [(.int 0), (.int 0), (.int 0)] (.int 0))  (gr : (255 : Int32) < c0) :
    MetAt l Z y_21 jdk_52_method_21_code 7 (some .int) ({ frames := 0, cells := 0, slots := 0, locals := 0 } : Room) #[(.ref a), (.int 0), (.ref d), (.int 0), (.int 3)] h0 ((own_rmC530_Q Z a ka d kd c0 c1 c2 n0 h0)) := by
  refine goBodyM (plainFor_of_name (by first | (simp [plainName, overriddenIn]; done) | decide +kernel)) ?_
  intro p e s m below meth c T0 hx hZ hby hml hown hnm hret hlk X0 e0
  have hown : s.vm.findClass "java/lang/StringUTF16" = some m.cls := hown
  refine Go.cast (g' := mkF m 0 #[.val (.ref a), .val (.int 0), .val (.ref d), .val (.int 0), .val (.int 3), .unset, .unset] []) (by first | (simp [entryFrame, mkF, argsToLocals, Value.category]; done) | rfl) ?_
  show Go p e below _ T0 (mkF m 0 _ [])
  refine Go.iconst 0 X0 hx hby k21_0 rfl ?_
  refine Go.istore X0 hx hby k21_1 (l' := #[.val (.ref a), .val (.int 0), .val (.ref d), .val (.int 0), .val (.int 3), .val (.int 0), .unset]) rfl ?_
  refine Go.iload X0 hx hby k21_3 rfl ?_
  refine Go.iload X0 hx hby k21_5 rfl ?_
  refine Go.icmpNo X0 hx hby k21_7 (tlt (by decide : (0 : Int32) < (3 : Int32))).2.1 ?_
  refine Go.aloadN X0 hx hby k21_10 rfl rfl ?_
  refine Go.iloadN X0 hx hby k21_11 rfl ?_
  refine Go.caload X0 hx hZ e0 VA ⟨by decide, by decide⟩ (v := (.int c0)) rfl (hb hby k21_12) ?_
  refine Go.istore X0 hx hby k21_13 (l' := #[.val (.ref a), .val (.int 0), .val (.ref d), .val (.int 0), .val (.int 3), .val (.int 0), .val (.int c0)]) rfl ?_
  refine Go.iload X0 hx hby k21_15 rfl ?_
  refine Go.sipush 255 X0 hx hby k21_17 rfl ?_
  refine Go.icmpNo X0 hx hby k21_20 (tlt gr).2.2.2 ?_
  refine Go.iload X0 hx hby k21_23 rfl ?_
  exact Go.retI X0 hx hlk hret (hb hby k21_25) (by decide) (by decide) (by rw [e0]; exact ⟨rfl, (Fr.nil n0), (Keep.refl h0 [d])⟩)
abbrev own_rmC330_Q (Z : State) (a : Addr) (ka : ClassId) (c0 c1 c2 : Int32) (cz : Int32) (G : Value) (n0 : Nat) (h0 : Heap) : Option Value → Heap → List Loc → Prop := fun v h L => ∃ b k, v = some (.ref b) ∧ Fr n0 L ∧ Keep h0 h [] ∧ h0.size ≤ b ∧ Arv Z h b k .byte 6 [(.int (lo8 c0)), (.int (hi8 c0)), (.int (lo8 c1)), (.int (hi8 c1)), (.int (lo8 c2)), (.int (hi8 c2))] (.int 0)
theorem own_rmC330 (l : Launch) (Z : State) (a0 : Array Value) (hw : ∀ d ∈ tables_1, d.before a0 Z = true) (a : Addr) (ka : ClassId) (c0 c1 c2 : Int32) (cz : Int32) (G : Value) (n0 : Nat) (h0 : Heap) (Z0 : n0 ≤ h0.size) (OZ : Old Z n0 h0) (SB : own_SB Z Z.heap cz) (hz : ¬ cz = (0 : Int32)) (SA : own_SA Z Z.heap) (SH : own_SH Z Z.heap) (SL : own_SL Z Z.heap) (SG : own_SG Z Z.heap G) (hG : G.isRef = true) (VA : Arv Z h0 a ka .char 3 [(.int c0), (.int c1), (.int c2)] (.int 0)) (r0 : own_C c0) (r1 : own_C c1) (r2 : own_C c2)  (gr : (255 : Int32) < c0) :
    MetAt l Z y_22 jdk_52_method_16_code 6 (some (.array .byte)) ({ frames := 3, cells := 2, slots := 9, locals := 40 } : Room) #[(.ref a), (.int 0), (.int 3)] h0 ((own_rmC330_Q Z a ka c0 c1 c2 cz G n0 h0)) := by
  refine goBodyM (plainFor_of_name (by first | (simp [plainName, overriddenIn]; done) | decide +kernel)) ?_
  intro p e s m below meth c T0 hx hZ hby hml hown hnm hret hlk X0 e0
  have hown : s.vm.findClass "java/lang/StringUTF16" = some m.cls := hown
  refine Go.cast (g' := mkF m 0 #[.val (.ref a), .val (.int 0), .val (.int 3), .unset, .unset, .unset] []) (by first | (simp [entryFrame, mkF, argsToLocals, Value.category]; done) | rfl) ?_
  show Go p e below _ T0 (mkF m 0 _ [])
  refine Go.iloadN X0 hx hby k22_0 rfl ?_
  refine Go.newarr X0 hx hZ (own_t hw 27 rfl) e0 3 (by decide) (by decide) (by decide) (by decide) (by decide) (hb hby k22_1) fun T1 h1 b1 k1 g1 X1 e1 E1 V1 => ?_
  have lt_a_b1 : a < b1 := Nat.lt_of_lt_of_le VA.lt (Nat.le_of_eq g1.symm)
  have ge_b1 : n0 ≤ b1 := g1 ▸ Z0
  have hs_b1 : h0.size ≤ b1 := g1 ▸ (Keep.refl h0 []).1
  have sz1 := Nat.le_trans Z0 E1.1
  have kp1 := (Keep.refl h0 []).ext E1
  have V1 : Arv Z h1 b1 k1 .byte (3 : Int32) [(.int 0), (.int 0), (.int 0)] (.int 0) := V1
  refine Go.astoreN X1 hx hby k22_3 rfl (l' := #[.val (.ref a), .val (.int 0), .val (.int 3), .val (.ref b1), .unset, .unset]) rfl ?_
  refine Go.aloadN X1 hx hby k22_4 rfl rfl ?_
  refine Go.iloadN X1 hx hby k22_5 rfl ?_
  refine Go.aloadN X1 hx hby k22_6 rfl rfl ?_
  refine Go.iconst 0 X1 hx hby k22_7 rfl ?_
  refine Go.iloadN X1 hx hby k22_8 rfl ?_
  refine Go.callS (W := 0) (y := y_21) (argsL := [(.ref a), (.int 0), (.ref b1), (.int 0), (.int 3)]) (rest := []) X1 hx hZ hown (own_t hw 28 rfl) (own_t hw 29 rfl) (own_t hw 25 rfl) (own_t hw 30 rfl) (by decide) (own_rmC530 l Z a0 hw a ka b1 k1 c0 c1 c2 n0 h1 sz1 ge_b1 (Nat.ne_of_lt lt_a_b1) (VA.ext E1) V1 gr) e1 (by rw [hml]; rfl) (lenOf own_dsc12 rfl) (hb hby k22_9) rfl (Nat.le_of_eq rfl) (by decide) (by decide) (by decide) (by decide) fun _ T2 L2 X2 q2 => ?_
  obtain ⟨rfl, N2q, K2⟩ := q2
  have N2 := Fr.app (Fr.nil n0) N2q
  have sz2 := Nat.le_trans sz1 K2.1
  have kp2 := kp1.trans K2 (allS (Or.inr hs_b1) all0)
  show Go p e below _ T2 (mkF m 12 _ [(.int 0)])
  refine Go.istore X2 hx hby k22_12 (l' := #[.val (.ref a), .val (.int 0), .val (.int 3), .val (.ref b1), .val (.int 0), .unset]) rfl ?_
  refine Go.iload X2 hx hby k22_14 rfl ?_
  refine Go.iloadN X2 hx hby k22_16 rfl ?_
  refine Go.icmpNo X2 hx hby k22_17 (feq (by decide : ¬ ((0 : Int32) = (3 : Int32)))).1 ?_
  refine Go.aloadN X2 hx hby k22_20 rfl rfl ?_
  refine Go.iloadN X2 hx hby k22_21 rfl ?_
  refine Go.iloadN X2 hx hby k22_22 rfl ?_
  refine Go.callS (W := 0) (y := y_19) (argsL := [(.ref a), (.int 0), (.int 3)]) (rest := []) X2 hx hZ hown (own_t hw 88 rfl) (own_t hw 89 rfl) (own_t hw 25 rfl) (own_t hw 90 rfl) (by decide) (own_rmTB3 l Z a0 hw a ka c0 c1 c2 cz G n0 T2.heap sz2 ((OZ.ext E1).keep K2 (allS ge_b1 all0)) SB hz SA SH SL SG hG ((VA.ext E1).keep K2 (ninS (Nat.ne_of_lt lt_a_b1) nin0))) rfl (by rw [hml]; rfl) (lenOf own_dsc13 rfl) (hb hby k22_23) rfl (Nat.le_of_eq rfl) (by decide) (by decide) (by decide) (by decide) fun _ T3 L3 X3 q3 => ?_
  obtain ⟨b3, k3, rfl, N3q, K3, g3, V3⟩ := q3
  have N3 := Fr.app N2 N3q
  have sz3 := Nat.le_trans sz2 K3.1
  have kp3 := kp2.trans K3 all0
  have hs_b3 : h0.size ≤ b3 := Nat.le_trans (kp2.1) g3
  show Go p e below _ T3 (mkF m 26 _ [(.ref b3)])
  refine Go.astore X3 hx hby k22_26 rfl (l' := #[.val (.ref a), .val (.int 0), .val (.int 3), .val (.ref b1), .val (.int 0), .val (.ref b3)]) rfl ?_
  refine Go.aload X3 hx hby k22_28 rfl rfl ?_
  refine Go.iload X3 hx hby k22_30 rfl ?_
  refine Go.callSP (W := 0) (y := y_7) (argsL := [(.ref b3), (.int 0)]) (rest := []) (r := some (.int c0)) X3 hx hZ hown (own_t hw 104 rfl) (own_t hw 105 rfl) (own_t hw 25 rfl) (own_t hw 106 rfl) (by decide) (own_rmGC l Z a0 hw b3 k3 c0 c1 c2 3 0 T3.heap V3 (SA.ext (((OZ.ext E1).keep K2 (allS ge_b1 all0)).keep K3 all0).2) (SH.ext (((OZ.ext E1).keep K2 (allS ge_b1 all0)).keep K3 all0).2) (SL.ext (((OZ.ext E1).keep K2 (allS ge_b1 all0)).keep K3 all0).2) r0 r1 r2 (by decide) (by decide)) rfl (by rw [hml]; rfl) (lenOf own_dsc0 rfl) (hb hby k22_32) rfl (Nat.le_of_eq rfl) (by decide) (by decide) (by decide) (by decide) fun T4 X4 e4 => ?_
  show Go p e below _ T4 (mkF m 35 _ [(.int c0)])
  refine Go.sipush 255 X4 hx hby k22_35 rfl ?_
  refine Go.icmpYes 54 X4 hx hby k22_38 (tlt gr).2.2.1 (by decide) (by decide) ?_
  refine Go.aload X4 hx hby k22_54 rfl rfl ?_
  exact Go.retA X4 hx hlk hret rfl rfl rfl (hb hby k22_56) (by decide) (by decide) (by rw [e4]; exact ⟨b3, k3, rfl, N3, kp3, hs_b3, V3⟩)
abbrev own_rmS430_Q (Z : State) (x a : Addr) (ka : ClassId) (c0 c1 c2 : Int32) (cz : Int32) (G : Value) (n0 : Nat) (h0 : Heap) : Option Value → Heap → List Loc → Prop := fun v h L => v = none ∧ Fr n0 L ∧ Keep h0 h [x] ∧ Exa Z h x "java/lang/String" ∧ Fld Z h x "java/lang/String" "coder" "B" (.int 1) ∧ ∃ t kb, Fld Z h x "java/lang/String" "value" "[B" (.ref t) ∧ Arv Z h t kb .byte 6 [(.int (lo8 c0)), (.int (hi8 c0)), (.int (lo8 c1)), (.int (hi8 c1)), (.int (lo8 c2)), (.int (hi8 c2))] (.int 0)
theorem own_rmS430 (l : Launch) (Z : State) (a0 : Array Value) (hw : ∀ d ∈ tables_1, d.before a0 Z = true) (x a : Addr) (ka : ClassId) (c0 c1 c2 : Int32) (cz : Int32) (G : Value) (n0 : Nat) (h0 : Heap) (Z0 : n0 ≤ h0.size) (OZ : Old Z n0 h0) (SB : own_SB Z Z.heap cz) (hz : ¬ cz = (0 : Int32)) (SA : own_SA Z Z.heap) (SH : own_SH Z Z.heap) (SL : own_SL Z Z.heap) (SG : own_SG Z Z.heap G) (hG : G.isRef = true) (gx : n0 ≤ x) (hne : a ≠ x) (EX : Exa Z h0 x "java/lang/String") (FV : Fld Z h0 x "java/lang/String" "value" "[B" .null) (FC : Fld Z h0 x "java/lang/String" "coder" "B" (.int 0)) (VA : Arv Z h0 a ka .char 3 [(.int c0), (.int c1), (.int c2)] (.int 0)) (r0 : own_C c0) (r1 : own_C c1) (r2 : own_C c2)  (gr : (255 : Int32) < c0) :
    MetAt l Z y_23 jdk_42_method_149_code 6 none ({ frames := 4, cells := 2, slots := 9, locals := 57 } : Room) #[(.ref x), (.ref a), (.int 0), (.int 3), .null] h0 ((own_rmS430_Q Z x a ka c0 c1 c2 cz G n0 h0)) := by
  refine goBodyM (plainFor_of_name (by first | (simp [plainName, overriddenIn]; done) | decide +kernel)) ?_
  intro p e s m below meth c T0 hx hZ hby hml hown hnm hret hlk X0 e0
  have hown : s.vm.findClass "java/lang/String" = some m.cls := hown
  refine Go.cast (g' := mkF m 0 #[.val (.ref x), .val (.ref a), .val (.int 0), .val (.int 3), .val .null, .unset] []) (by first | (simp [entryFrame, mkF, argsToLocals, Value.category]; done) | rfl) ?_
  show Go p e below _ T0 (mkF m 0 _ [])
  refine Go.aloadN X0 hx hby k23_0 rfl rfl ?_
  refine Go.initObj X0 hx hZ hown (own_t hw 19 rfl) (own_t hw 20 rfl) (own_t hw 21 rfl) e0 (by rw [hml]; rfl) (hb hby k23_1) (by decide) (W := 0) (Nat.le_of_eq rfl) (by decide) fun T1 X1 e1 => ?_
  show Go p e below _ T1 (mkF m 4 _ [])
  refine Go.iloadN X1 hx hby k23_4 rfl ?_
  refine Go.ifYes 27 X1 hx hby k23_5 ((if0 _ _).trans (feq (by decide : ¬ ((3 : Int32) = (0 : Int32)))).2) (by decide) (by decide) ?_
  refine Go.gets X1 hx hZ hown (own_t hw 22 rfl) Via.refl e1 (SB.ext OZ.2) (hb hby k23_27) fun T2 X2 e2 => ?_
  refine Go.ifNo X2 hx hby k23_30 ((if0 _ _).trans (feq hz).1) ?_
  refine Go.aloadN X2 hx hby k23_33 rfl rfl ?_
  refine Go.iloadN X2 hx hby k23_34 rfl ?_
  refine Go.iloadN X2 hx hby k23_35 rfl ?_
  refine Go.callS (W := 0) (y := y_22) (argsL := [(.ref a), (.int 0), (.int 3)]) (rest := []) X2 hx hZ hown (own_t hw 23 rfl) (own_t hw 24 rfl) (own_t hw 25 rfl) (own_t hw 26 rfl) (by decide) (own_rmC330 l Z a0 hw a ka c0 c1 c2 cz G n0 h0 Z0 OZ SB hz SA SH SL SG hG VA r0 r1 r2 gr) e2 (by rw [hml]; rfl) (lenOf own_dsc13 rfl) (hb hby k23_36) rfl (Nat.le_of_eq rfl) (by decide) (by decide) (by decide) (by decide) fun _ T3 L3 X3 q3 => ?_
  obtain ⟨b3, k3, rfl, N3q, K3, g3, V3⟩ := q3
  have N3 := Fr.app (Fr.nil n0) N3q
  have sz3 := Nat.le_trans Z0 K3.1
  have kp3 := (Keep.refl h0 [x]).trans K3 all0
  have ne_b3 : b3 ≠ x := Nat.ne_of_gt (Nat.lt_of_lt_of_le EX.lt g3)
  show Go p e below _ T3 (mkF m 39 _ [(.ref b3)])
  refine Go.astore X3 hx hby k23_39 rfl (l' := #[.val (.ref x), .val (.ref a), .val (.int 0), .val (.int 3), .val .null, .val (.ref b3)]) rfl ?_
  refine Go.aloadN X3 hx hby k23_41 rfl rfl ?_
  refine Go.aload X3 hx hby k23_42 rfl rfl ?_
  refine Go.iloadN X3 hx hby k23_44 rfl ?_
  refine Go.callSP (W := 1) (y := y_20) (argsL := [(.ref b3), (.int 3)]) (rest := [(.ref x)]) (r := some (.int 1)) X3 hx hZ hown (own_t hw 31 rfl) (own_t hw 32 rfl) (own_t hw 25 rfl) (own_t hw 33 rfl) (by decide) (own_rmCd13 l Z a0 hw b3 k3 c0 c1 c2 T3.heap V3) rfl (by rw [hml]; rfl) (lenOf own_dsc14 rfl) (hb hby k23_45) rfl (Nat.le_of_eq rfl) (by decide) (by decide) (by decide) (by decide) fun T4 X4 e4 => ?_
  show Go p e below _ T4 (mkF m 48 _ [(.int 1), (.ref x)])
  refine Go.putf X4 hx hZ hown (own_t hw 34 rfl) Via.refl e4 (FC.keep K3 nin0) (EX.keep K3) (Or.inr ⟨(own_t hw 35 rfl), rfl, hnm⟩) (own_t hw 9 rfl) (ty := .byte) (by decide) rfl (fits_nar_byte _) (hb hby k23_48) fun T5 h5 X5 e5 W5 F5 A5 => ?_
  have sz5 := Nat.le_trans sz3 (Keep.of_wr W5).1
  have kp5 := kp3.wr W5 own_i0
  have N5 := Fr.snoc X5 N3 gx
  refine Go.aloadN X5 hx hby k23_51 rfl rfl ?_
  refine Go.aload X5 hx hby k23_52 rfl rfl ?_
  refine Go.putf X5 hx hZ hown (own_t hw 36 rfl) Via.refl e5 ((FV.keep K3 nin0).other W5 (Or.inr (slot_ne (Or.inr (own_t hw 37 rfl)) (Or.inr (own_t hw 35 rfl)) (by decide) (t := (.array .byte)) (t' := .byte) (by decide) (by decide)))) A5 (Or.inr ⟨(own_t hw 37 rfl), rfl, hnm⟩) (own_t hw 9 rfl) (ty := (.array .byte)) (by decide) rfl rfl (hb hby k23_54) fun T6 h6 X6 e6 W6 F6 A6 => ?_
  have sz6 := Nat.le_trans sz5 (Keep.of_wr W6).1
  have kp6 := kp5.wr W6 own_i0
  have N6 := Fr.snoc X6 N5 gx
  exact Go.retV X6 hx hlk hret (hb hby k23_57) (by decide) (by decide) (by rw [e6]; exact ⟨rfl, N6, kp6, A6, (F5.other W6 (Or.inr (slot_ne (Or.inr (own_t hw 35 rfl)) (Or.inr (own_t hw 37 rfl)) (by decide) (t := .byte) (t' := (.array .byte)) (by decide) (by decide)))), b3, k3, F6, ((V3.other W5 ne_b3).other W6 ne_b3)⟩)
abbrev own_rmS130_Q (Z : State) (x a : Addr) (ka : ClassId) (c0 c1 c2 : Int32) (cz : Int32) (G : Value) (n0 : Nat) (h0 : Heap) : Option Value → Heap → List Loc → Prop := fun v h L => v = none ∧ Fr n0 L ∧ Keep h0 h [x] ∧ Exa Z h x "java/lang/String" ∧ Fld Z h x "java/lang/String" "coder" "B" (.int 1) ∧ ∃ t kb, Fld Z h x "java/lang/String" "value" "[B" (.ref t) ∧ Arv Z h t kb .byte 6 [(.int (lo8 c0)), (.int (hi8 c0)), (.int (lo8 c1)), (.int (hi8 c1)), (.int (lo8 c2)), (.int (hi8 c2))] (.int 0)
theorem own_rmS130 (l : Launch) (Z : State) (a0 : Array Value) (hw : ∀ d ∈ tables_1, d.before a0 Z = true) (x a : Addr) (ka : ClassId) (c0 c1 c2 : Int32) (cz : Int32) (G : Value) (n0 : Nat) (h0 : Heap) (Z0 : n0 ≤ h0.size) (OZ : Old Z n0 h0) (SB : own_SB Z Z.heap cz) (hz : ¬ cz = (0 : Int32)) (SA : own_SA Z Z.heap) (SH : own_SH Z Z.heap) (SL : own_SL Z Z.heap) (SG : own_SG Z Z.heap G) (hG : G.isRef = true) (gx : n0 ≤ x) (hne : a ≠ x) (EX : Exa Z h0 x "java/lang/String") (FV : Fld Z h0 x "java/lang/String" "value" "[B" .null) (FC : Fld Z h0 x "java/lang/String" "coder" "B" (.int 0)) (VA : Arv Z h0 a ka .char 3 [(.int c0), (.int c1), (.int c2)] (.int 0)) (r0 : own_C c0) (r1 : own_C c1) (r2 : own_C c2)  (gr : (255 : Int32) < c0) :
    MetAt l Z y_24 jdk_42_method_3_code 2 none ({ frames := 5, cells := 2, slots := 9, locals := 74 } : Room) #[(.ref x), (.ref a)] h0 ((own_rmS130_Q Z x a ka c0 c1 c2 cz G n0 h0)) := by
  refine goBodyM (plainFor_of_name (by first | (simp [plainName, overriddenIn]; done) | decide +kernel)) ?_
  intro p e s m below meth c T0 hx hZ hby hml hown hnm hret hlk X0 e0
  have hown : s.vm.findClass "java/lang/String" = some m.cls := hown
  refine Go.cast (g' := mkF m 0 #[.val (.ref x), .val (.ref a)] []) (by first | (simp [entryFrame, mkF, argsToLocals, Value.category]; done) | rfl) ?_
  show Go p e below _ T0 (mkF m 0 _ [])
  refine Go.aloadN X0 hx hby k24_0 rfl rfl ?_
  refine Go.aloadN X0 hx hby k24_1 rfl rfl ?_
  refine Go.iconst 0 X0 hx hby k24_2 rfl ?_
  refine Go.aloadN X0 hx hby k24_3 rfl rfl ?_
  refine Go.len X0 hx hZ e0 VA (hb hby k24_4) ?_
  refine Go.aconstNull X0 hx hby k24_5 ?_
  refine Go.callI (W := 0) (y := y_23) (a := x) (argsL := [(.ref a), (.int 0), (.int 3), .null]) (rest := []) X0 hx hZ rfl hown (own_t hw 15 rfl) (own_t hw 16 rfl) (own_t hw 10 rfl) (own_t hw 18 rfl) (by decide) (own_rmS430 l Z a0 hw x a ka c0 c1 c2 cz G n0 h0 Z0 OZ SB hz SA SH SL SG hG gx hne EX FV FC VA r0 r1 r2 gr) e0 (by rw [hml]; rfl) (lenOf own_dsc15 rfl) (hb hby k24_6) rfl (Nat.le_of_eq rfl) (by decide) (by decide) (by decide) (by decide) fun _ T1 L1 X1 q1 => ?_
  obtain ⟨rfl, N1q, K1, A1, C1, t1, kt1, D1, V1⟩ := q1
  have N1 := Fr.app (Fr.nil n0) N1q
  have sz1 := Nat.le_trans Z0 K1.1
  have kp1 := (Keep.refl h0 [x]).trans K1 (allS own_i0 all0)
  show Go p e below _ T1 (mkF m 9 _ [])
  exact Go.retV X1 hx hlk hret (hb hby k24_9) (by decide) (by decide) ⟨rfl, N1, kp1, A1, C1, t1, kt1, D1, V1⟩
abbrev own_rmC531_Q (Z : State) (a : Addr) (ka : ClassId) (d : Addr) (kd : ClassId) (c0 c1 c2 : Int32) (n0 : Nat) (h0 : Heap) : Option Value → Heap → List Loc → Prop := fun v h L => v = some (.int 1) ∧ Fr n0 L ∧ Keep h0 h [d]
theorem own_rmC531 (l : Launch) (Z : State) (a0 : Array Value) (hw : ∀ d ∈ tables_1, d.before a0 Z = true) (a : Addr) (ka : ClassId) (d : Addr) (kd : ClassId) (c0 c1 c2 : Int32) (n0 : Nat) (h0 : Heap) (Z0 : n0 ≤ h0.size) (gd : n0 ≤ d) (hne : a ≠ d) (VA : Arv Z h0 a ka .char 3 [(.int c0), (.int c1), (.int c2)] (.int 0)) (VD : Arv Z h0 d kd .byte 3 [(.int 0), (.int 0), (.int 0)] (.int 0)) (gq0 : ¬ (255 : Int32) < c0) (gr : (255 : Int32) < c1) :
    MetAt l Z y_21 jdk_52_method_21_code 7 (some .int) ({ frames := 0, cells := 0, slots := 0, locals := 0 } : Room) #[(.ref a), (.int 0), (.ref d), (.int 0), (.int 3)] h0 ((own_rmC531_Q Z a ka d kd c0 c1 c2 n0 h0)) := by
  refine goBodyM (plainFor_of_name (by first | (simp [plainName, overriddenIn]; done) | decide +kernel)) ?_
  intro p e s m below meth c T0 hx hZ hby hml hown hnm hret hlk X0 e0
  have hown : s.vm.findClass "java/lang/StringUTF16" = some m.cls := hown
  refine Go.cast (g' := mkF m 0 #[.val (.ref a), .val (.int 0), .val (.ref d), .val (.int 0), .val (.int 3), .unset, .unset] []) (by first | (simp [entryFrame, mkF, argsToLocals, Value.category]; done) | rfl) ?_
  show Go p e below _ T0 (mkF m 0 _ [])
  refine Go.iconst 0 X0 hx hby k21_0 rfl ?_
  refine Go.istore X0 hx hby k21_1 (l' := #[.val (.ref a), .val (.int 0), .val (.ref d), .val (.int 0), .val (.int 3), .val (.int 0), .unset]) rfl ?_
  refine Go.iload X0 hx hby k21_3 rfl ?_
  refine Go.iload X0 hx hby k21_5 rfl ?_
  refine Go.icmpNo X0 hx hby k21_7 (tlt (by decide : (0 : Int32) < (3 : Int32))).2.1 ?_
  refine Go.aloadN X0 hx hby k21_10 rfl rfl ?_
  refine Go.iloadN X0 hx hby k21_11 rfl ?_
  refine Go.caload X0 hx hZ e0 VA ⟨by decide, by decide⟩ (v := (.int c0)) rfl (hb hby k21_12) ?_
  refine Go.istore X0 hx hby k21_13 (l' := #[.val (.ref a), .val (.int 0), .val (.ref d), .val (.int 0), .val (.int 3), .val (.int 0), .val (.int c0)]) rfl ?_
  refine Go.iload X0 hx hby k21_15 rfl ?_
  refine Go.sipush 255 X0 hx hby k21_17 rfl ?_
  refine Go.icmpYes 26 X0 hx hby k21_20 (flt gq0).2.2.2 (by decide) (by decide) ?_
  refine Go.aloadN X0 hx hby k21_26 rfl rfl ?_
  refine Go.iloadN X0 hx hby k21_27 rfl ?_
  show Go p e below _ T0 (mkF m 28 _ [(.int 0), (.ref d)])
  refine Go.iload X0 hx hby k21_28 rfl ?_
  refine Go.i2b X0 hx hby k21_30 rfl ?_
  refine Go.bastore X0 hx hZ e0 VD ⟨by decide, by decide⟩ 0 rfl (Nat.le_of_ble_eq_true rfl) (hb hby k21_31) fun T1 h1 X1 e1 W1 V1 => ?_
  have sz1 := Nat.le_trans Z0 (Keep.of_wr W1).1
  have kp1 := (Keep.refl h0 [d]).wr W1 own_i0
  have N1 := Fr.snoc X1 (Fr.nil n0) gd
  have V1 : Arv Z h1 d kd .byte (3 : Int32) [(.int (nar .byte (c0.toInt8.toInt32))), (.int 0), (.int 0)] (.int 0) := V1
  refine Go.iinc X1 hx hby k21_32 rfl (l' := #[.val (.ref a), .val (.int 1), .val (.ref d), .val (.int 0), .val (.int 3), .val (.int 0), .val (.int c0)]) rfl ?_
  refine Go.iinc X1 hx hby k21_35 rfl (l' := #[.val (.ref a), .val (.int 1), .val (.ref d), .val (.int 1), .val (.int 3), .val (.int 0), .val (.int c0)]) rfl ?_
  refine Go.iinc X1 hx hby k21_38 rfl (l' := #[.val (.ref a), .val (.int 1), .val (.ref d), .val (.int 1), .val (.int 3), .val (.int 1), .val (.int c0)]) rfl ?_
  refine Go.goto 3 X1 hx hby k21_41 (by decide) (by decide) ?_
  refine Go.iload X1 hx hby k21_3 rfl ?_
  refine Go.iload X1 hx hby k21_5 rfl ?_
  refine Go.icmpNo X1 hx hby k21_7 (tlt (by decide : (1 : Int32) < (3 : Int32))).2.1 ?_
  refine Go.aloadN X1 hx hby k21_10 rfl rfl ?_
  refine Go.iloadN X1 hx hby k21_11 rfl ?_
  refine Go.caload X1 hx hZ e1 (VA.other W1 hne) ⟨by decide, by decide⟩ (v := (.int c1)) rfl (hb hby k21_12) ?_
  refine Go.istore X1 hx hby k21_13 (l' := #[.val (.ref a), .val (.int 1), .val (.ref d), .val (.int 1), .val (.int 3), .val (.int 1), .val (.int c1)]) rfl ?_
  show Go p e below _ T1 (mkF m 15 _ [])
  refine Go.iload X1 hx hby k21_15 rfl ?_
  refine Go.sipush 255 X1 hx hby k21_17 rfl ?_
  refine Go.icmpNo X1 hx hby k21_20 (tlt gr).2.2.2 ?_
  refine Go.iload X1 hx hby k21_23 rfl ?_
  exact Go.retI X1 hx hlk hret (hb hby k21_25) (by decide) (by decide) (by rw [e1]; exact ⟨rfl, N1, kp1⟩)
abbrev own_rmC331_Q (Z : State) (a : Addr) (ka : ClassId) (c0 c1 c2 : Int32) (cz : Int32) (G : Value) (n0 : Nat) (h0 : Heap) : Option Value → Heap → List Loc → Prop := fun v h L => ∃ b k, v = some (.ref b) ∧ Fr n0 L ∧ Keep h0 h [] ∧ h0.size ≤ b ∧ Arv Z h b k .byte 6 [(.int (lo8 c0)), (.int (hi8 c0)), (.int (lo8 c1)), (.int (hi8 c1)), (.int (lo8 c2)), (.int (hi8 c2))] (.int 0)
theorem own_rmC331 (l : Launch) (Z : State) (a0 : Array Value) (hw : ∀ d ∈ tables_1, d.before a0 Z = true) (a : Addr) (ka : ClassId) (c0 c1 c2 : Int32) (cz : Int32) (G : Value) (n0 : Nat) (h0 : Heap) (Z0 : n0 ≤ h0.size) (OZ : Old Z n0 h0) (SB : own_SB Z Z.heap cz) (hz : ¬ cz = (0 : Int32)) (SA : own_SA Z Z.heap) (SH : own_SH Z Z.heap) (SL : own_SL Z Z.heap) (SG : own_SG Z Z.heap G) (hG : G.isRef = true) (VA : Arv Z h0 a ka .char 3 [(.int c0), (.int c1), (.int c2)] (.int 0)) (r0 : own_C c0) (r1 : own_C c1) (r2 : own_C c2) (gq0 : ¬ (255 : Int32) < c0) (gr : (255 : Int32) < c1) :
    MetAt l Z y_22 jdk_52_method_16_code 6 (some (.array .byte)) ({ frames := 3, cells := 2, slots := 9, locals := 40 } : Room) #[(.ref a), (.int 0), (.int 3)] h0 ((own_rmC331_Q Z a ka c0 c1 c2 cz G n0 h0)) := by
  refine goBodyM (plainFor_of_name (by first | (simp [plainName, overriddenIn]; done) | decide +kernel)) ?_
  intro p e s m below meth c T0 hx hZ hby hml hown hnm hret hlk X0 e0
  have hown : s.vm.findClass "java/lang/StringUTF16" = some m.cls := hown
  refine Go.cast (g' := mkF m 0 #[.val (.ref a), .val (.int 0), .val (.int 3), .unset, .unset, .unset] []) (by first | (simp [entryFrame, mkF, argsToLocals, Value.category]; done) | rfl) ?_
  show Go p e below _ T0 (mkF m 0 _ [])
  refine Go.iloadN X0 hx hby k22_0 rfl ?_
  refine Go.newarr X0 hx hZ (own_t hw 27 rfl) e0 3 (by decide) (by decide) (by decide) (by decide) (by decide) (hb hby k22_1) fun T1 h1 b1 k1 g1 X1 e1 E1 V1 => ?_
  have lt_a_b1 : a < b1 := Nat.lt_of_lt_of_le VA.lt (Nat.le_of_eq g1.symm)
  have ge_b1 : n0 ≤ b1 := g1 ▸ Z0
  have hs_b1 : h0.size ≤ b1 := g1 ▸ (Keep.refl h0 []).1
  have sz1 := Nat.le_trans Z0 E1.1
  have kp1 := (Keep.refl h0 []).ext E1
  have V1 : Arv Z h1 b1 k1 .byte (3 : Int32) [(.int 0), (.int 0), (.int 0)] (.int 0) := V1
  refine Go.astoreN X1 hx hby k22_3 rfl (l' := #[.val (.ref a), .val (.int 0), .val (.int 3), .val (.ref b1), .unset, .unset]) rfl ?_
  refine Go.aloadN X1 hx hby k22_4 rfl rfl ?_
  refine Go.iloadN X1 hx hby k22_5 rfl ?_
  refine Go.aloadN X1 hx hby k22_6 rfl rfl ?_
  refine Go.iconst 0 X1 hx hby k22_7 rfl ?_
  refine Go.iloadN X1 hx hby k22_8 rfl ?_
  refine Go.callS (W := 0) (y := y_21) (argsL := [(.ref a), (.int 0), (.ref b1), (.int 0), (.int 3)]) (rest := []) X1 hx hZ hown (own_t hw 28 rfl) (own_t hw 29 rfl) (own_t hw 25 rfl) (own_t hw 30 rfl) (by decide) (own_rmC531 l Z a0 hw a ka b1 k1 c0 c1 c2 n0 h1 sz1 ge_b1 (Nat.ne_of_lt lt_a_b1) (VA.ext E1) V1 gq0 gr) e1 (by rw [hml]; rfl) (lenOf own_dsc12 rfl) (hb hby k22_9) rfl (Nat.le_of_eq rfl) (by decide) (by decide) (by decide) (by decide) fun _ T2 L2 X2 q2 => ?_
  obtain ⟨rfl, N2q, K2⟩ := q2
  have N2 := Fr.app (Fr.nil n0) N2q
  have sz2 := Nat.le_trans sz1 K2.1
  have kp2 := kp1.trans K2 (allS (Or.inr hs_b1) all0)
  show Go p e below _ T2 (mkF m 12 _ [(.int 1)])
  refine Go.istore X2 hx hby k22_12 (l' := #[.val (.ref a), .val (.int 0), .val (.int 3), .val (.ref b1), .val (.int 1), .unset]) rfl ?_
  refine Go.iload X2 hx hby k22_14 rfl ?_
  refine Go.iloadN X2 hx hby k22_16 rfl ?_
  refine Go.icmpNo X2 hx hby k22_17 (feq (by decide : ¬ ((1 : Int32) = (3 : Int32)))).1 ?_
  refine Go.aloadN X2 hx hby k22_20 rfl rfl ?_
  refine Go.iloadN X2 hx hby k22_21 rfl ?_
  refine Go.iloadN X2 hx hby k22_22 rfl ?_
  refine Go.callS (W := 0) (y := y_19) (argsL := [(.ref a), (.int 0), (.int 3)]) (rest := []) X2 hx hZ hown (own_t hw 88 rfl) (own_t hw 89 rfl) (own_t hw 25 rfl) (own_t hw 90 rfl) (by decide) (own_rmTB3 l Z a0 hw a ka c0 c1 c2 cz G n0 T2.heap sz2 ((OZ.ext E1).keep K2 (allS ge_b1 all0)) SB hz SA SH SL SG hG ((VA.ext E1).keep K2 (ninS (Nat.ne_of_lt lt_a_b1) nin0))) rfl (by rw [hml]; rfl) (lenOf own_dsc13 rfl) (hb hby k22_23) rfl (Nat.le_of_eq rfl) (by decide) (by decide) (by decide) (by decide) fun _ T3 L3 X3 q3 => ?_
  obtain ⟨b3, k3, rfl, N3q, K3, g3, V3⟩ := q3
  have N3 := Fr.app N2 N3q
  have sz3 := Nat.le_trans sz2 K3.1
  have kp3 := kp2.trans K3 all0
  have hs_b3 : h0.size ≤ b3 := Nat.le_trans (kp2.1) g3
  show Go p e below _ T3 (mkF m 26 _ [(.ref b3)])
  refine Go.astore X3 hx hby k22_26 rfl (l' := #[.val (.ref a), .val (.int 0), .val (.int 3), .val (.ref b1), .val (.int 1), .val (.ref b3)]) rfl ?_
  refine Go.aload X3 hx hby k22_28 rfl rfl ?_
  refine Go.iload X3 hx hby k22_30 rfl ?_
  refine Go.callSP (W := 0) (y := y_7) (argsL := [(.ref b3), (.int 1)]) (rest := []) (r := some (.int c1)) X3 hx hZ hown (own_t hw 104 rfl) (own_t hw 105 rfl) (own_t hw 25 rfl) (own_t hw 106 rfl) (by decide) (own_rmGC l Z a0 hw b3 k3 c0 c1 c2 3 1 T3.heap V3 (SA.ext (((OZ.ext E1).keep K2 (allS ge_b1 all0)).keep K3 all0).2) (SH.ext (((OZ.ext E1).keep K2 (allS ge_b1 all0)).keep K3 all0).2) (SL.ext (((OZ.ext E1).keep K2 (allS ge_b1 all0)).keep K3 all0).2) r0 r1 r2 (by decide) (by decide)) rfl (by rw [hml]; rfl) (lenOf own_dsc0 rfl) (hb hby k22_32) rfl (Nat.le_of_eq rfl) (by decide) (by decide) (by decide) (by decide) fun T4 X4 e4 => ?_
  show Go p e below _ T4 (mkF m 35 _ [(.int c1)])
  refine Go.sipush 255 X4 hx hby k22_35 rfl ?_
  refine Go.icmpYes 54 X4 hx hby k22_38 (tlt gr).2.2.1 (by decide) (by decide) ?_
  refine Go.aload X4 hx hby k22_54 rfl rfl ?_
  exact Go.retA X4 hx hlk hret rfl rfl rfl (hb hby k22_56) (by decide) (by decide) (by rw [e4]; exact ⟨b3, k3, rfl, N3, kp3, hs_b3, V3⟩)
abbrev own_rmS431_Q (Z : State) (x a : Addr) (ka : ClassId) (c0 c1 c2 : Int32) (cz : Int32) (G : Value) (n0 : Nat) (h0 : Heap) : Option Value → Heap → List Loc → Prop := fun v h L => v = none ∧ Fr n0 L ∧ Keep h0 h [x] ∧ Exa Z h x "java/lang/String" ∧ Fld Z h x "java/lang/String" "coder" "B" (.int 1) ∧ ∃ t kb, Fld Z h x "java/lang/String" "value" "[B" (.ref t) ∧ Arv Z h t kb .byte 6 [(.int (lo8 c0)), (.int (hi8 c0)), (.int (lo8 c1)), (.int (hi8 c1)), (.int (lo8 c2)), (.int (hi8 c2))] (.int 0)
theorem own_rmS431 (l : Launch) (Z : State) (a0 : Array Value) (hw : ∀ d ∈ tables_1, d.before a0 Z = true) (x a : Addr) (ka : ClassId) (c0 c1 c2 : Int32) (cz : Int32) (G : Value) (n0 : Nat) (h0 : Heap) (Z0 : n0 ≤ h0.size) (OZ : Old Z n0 h0) (SB : own_SB Z Z.heap cz) (hz : ¬ cz = (0 : Int32)) (SA : own_SA Z Z.heap) (SH : own_SH Z Z.heap) (SL : own_SL Z Z.heap) (SG : own_SG Z Z.heap G) (hG : G.isRef = true) (gx : n0 ≤ x) (hne : a ≠ x) (EX : Exa Z h0 x "java/lang/String") (FV : Fld Z h0 x "java/lang/String" "value" "[B" .null) (FC : Fld Z h0 x "java/lang/String" "coder" "B" (.int 0)) (VA : Arv Z h0 a ka .char 3 [(.int c0), (.int c1), (.int c2)] (.int 0)) (r0 : own_C c0) (r1 : own_C c1) (r2 : own_C c2) (gq0 : ¬ (255 : Int32) < c0) (gr : (255 : Int32) < c1) :
    MetAt l Z y_23 jdk_42_method_149_code 6 none ({ frames := 4, cells := 2, slots := 9, locals := 57 } : Room) #[(.ref x), (.ref a), (.int 0), (.int 3), .null] h0 ((own_rmS431_Q Z x a ka c0 c1 c2 cz G n0 h0)) := by
  refine goBodyM (plainFor_of_name (by first | (simp [plainName, overriddenIn]; done) | decide +kernel)) ?_
  intro p e s m below meth c T0 hx hZ hby hml hown hnm hret hlk X0 e0
  have hown : s.vm.findClass "java/lang/String" = some m.cls := hown
  refine Go.cast (g' := mkF m 0 #[.val (.ref x), .val (.ref a), .val (.int 0), .val (.int 3), .val .null, .unset] []) (by first | (simp [entryFrame, mkF, argsToLocals, Value.category]; done) | rfl) ?_
  show Go p e below _ T0 (mkF m 0 _ [])
  refine Go.aloadN X0 hx hby k23_0 rfl rfl ?_
  refine Go.initObj X0 hx hZ hown (own_t hw 19 rfl) (own_t hw 20 rfl) (own_t hw 21 rfl) e0 (by rw [hml]; rfl) (hb hby k23_1) (by decide) (W := 0) (Nat.le_of_eq rfl) (by decide) fun T1 X1 e1 => ?_
  show Go p e below _ T1 (mkF m 4 _ [])
  refine Go.iloadN X1 hx hby k23_4 rfl ?_
  refine Go.ifYes 27 X1 hx hby k23_5 ((if0 _ _).trans (feq (by decide : ¬ ((3 : Int32) = (0 : Int32)))).2) (by decide) (by decide) ?_
  refine Go.gets X1 hx hZ hown (own_t hw 22 rfl) Via.refl e1 (SB.ext OZ.2) (hb hby k23_27) fun T2 X2 e2 => ?_
  refine Go.ifNo X2 hx hby k23_30 ((if0 _ _).trans (feq hz).1) ?_
  refine Go.aloadN X2 hx hby k23_33 rfl rfl ?_
  refine Go.iloadN X2 hx hby k23_34 rfl ?_
  refine Go.iloadN X2 hx hby k23_35 rfl ?_
  refine Go.callS (W := 0) (y := y_22) (argsL := [(.ref a), (.int 0), (.int 3)]) (rest := []) X2 hx hZ hown (own_t hw 23 rfl) (own_t hw 24 rfl) (own_t hw 25 rfl) (own_t hw 26 rfl) (by decide) (own_rmC331 l Z a0 hw a ka c0 c1 c2 cz G n0 h0 Z0 OZ SB hz SA SH SL SG hG VA r0 r1 r2 gq0 gr) e2 (by rw [hml]; rfl) (lenOf own_dsc13 rfl) (hb hby k23_36) rfl (Nat.le_of_eq rfl) (by decide) (by decide) (by decide) (by decide) fun _ T3 L3 X3 q3 => ?_
  obtain ⟨b3, k3, rfl, N3q, K3, g3, V3⟩ := q3
  have N3 := Fr.app (Fr.nil n0) N3q
  have sz3 := Nat.le_trans Z0 K3.1
  have kp3 := (Keep.refl h0 [x]).trans K3 all0
  have ne_b3 : b3 ≠ x := Nat.ne_of_gt (Nat.lt_of_lt_of_le EX.lt g3)
  show Go p e below _ T3 (mkF m 39 _ [(.ref b3)])
  refine Go.astore X3 hx hby k23_39 rfl (l' := #[.val (.ref x), .val (.ref a), .val (.int 0), .val (.int 3), .val .null, .val (.ref b3)]) rfl ?_
  refine Go.aloadN X3 hx hby k23_41 rfl rfl ?_
  refine Go.aload X3 hx hby k23_42 rfl rfl ?_
  refine Go.iloadN X3 hx hby k23_44 rfl ?_
  refine Go.callSP (W := 1) (y := y_20) (argsL := [(.ref b3), (.int 3)]) (rest := [(.ref x)]) (r := some (.int 1)) X3 hx hZ hown (own_t hw 31 rfl) (own_t hw 32 rfl) (own_t hw 25 rfl) (own_t hw 33 rfl) (by decide) (own_rmCd13 l Z a0 hw b3 k3 c0 c1 c2 T3.heap V3) rfl (by rw [hml]; rfl) (lenOf own_dsc14 rfl) (hb hby k23_45) rfl (Nat.le_of_eq rfl) (by decide) (by decide) (by decide) (by decide) fun T4 X4 e4 => ?_
  show Go p e below _ T4 (mkF m 48 _ [(.int 1), (.ref x)])
  refine Go.putf X4 hx hZ hown (own_t hw 34 rfl) Via.refl e4 (FC.keep K3 nin0) (EX.keep K3) (Or.inr ⟨(own_t hw 35 rfl), rfl, hnm⟩) (own_t hw 9 rfl) (ty := .byte) (by decide) rfl (fits_nar_byte _) (hb hby k23_48) fun T5 h5 X5 e5 W5 F5 A5 => ?_
  have sz5 := Nat.le_trans sz3 (Keep.of_wr W5).1
  have kp5 := kp3.wr W5 own_i0
  have N5 := Fr.snoc X5 N3 gx
  refine Go.aloadN X5 hx hby k23_51 rfl rfl ?_
  refine Go.aload X5 hx hby k23_52 rfl rfl ?_
  refine Go.putf X5 hx hZ hown (own_t hw 36 rfl) Via.refl e5 ((FV.keep K3 nin0).other W5 (Or.inr (slot_ne (Or.inr (own_t hw 37 rfl)) (Or.inr (own_t hw 35 rfl)) (by decide) (t := (.array .byte)) (t' := .byte) (by decide) (by decide)))) A5 (Or.inr ⟨(own_t hw 37 rfl), rfl, hnm⟩) (own_t hw 9 rfl) (ty := (.array .byte)) (by decide) rfl rfl (hb hby k23_54) fun T6 h6 X6 e6 W6 F6 A6 => ?_
  have sz6 := Nat.le_trans sz5 (Keep.of_wr W6).1
  have kp6 := kp5.wr W6 own_i0
  have N6 := Fr.snoc X6 N5 gx
  exact Go.retV X6 hx hlk hret (hb hby k23_57) (by decide) (by decide) (by rw [e6]; exact ⟨rfl, N6, kp6, A6, (F5.other W6 (Or.inr (slot_ne (Or.inr (own_t hw 35 rfl)) (Or.inr (own_t hw 37 rfl)) (by decide) (t := .byte) (t' := (.array .byte)) (by decide) (by decide)))), b3, k3, F6, ((V3.other W5 ne_b3).other W6 ne_b3)⟩)
abbrev own_rmS131_Q (Z : State) (x a : Addr) (ka : ClassId) (c0 c1 c2 : Int32) (cz : Int32) (G : Value) (n0 : Nat) (h0 : Heap) : Option Value → Heap → List Loc → Prop := fun v h L => v = none ∧ Fr n0 L ∧ Keep h0 h [x] ∧ Exa Z h x "java/lang/String" ∧ Fld Z h x "java/lang/String" "coder" "B" (.int 1) ∧ ∃ t kb, Fld Z h x "java/lang/String" "value" "[B" (.ref t) ∧ Arv Z h t kb .byte 6 [(.int (lo8 c0)), (.int (hi8 c0)), (.int (lo8 c1)), (.int (hi8 c1)), (.int (lo8 c2)), (.int (hi8 c2))] (.int 0)
theorem own_rmS131 (l : Launch) (Z : State) (a0 : Array Value) (hw : ∀ d ∈ tables_1, d.before a0 Z = true) (x a : Addr) (ka : ClassId) (c0 c1 c2 : Int32) (cz : Int32) (G : Value) (n0 : Nat) (h0 : Heap) (Z0 : n0 ≤ h0.size) (OZ : Old Z n0 h0) (SB : own_SB Z Z.heap cz) (hz : ¬ cz = (0 : Int32)) (SA : own_SA Z Z.heap) (SH : own_SH Z Z.heap) (SL : own_SL Z Z.heap) (SG : own_SG Z Z.heap G) (hG : G.isRef = true) (gx : n0 ≤ x) (hne : a ≠ x) (EX : Exa Z h0 x "java/lang/String") (FV : Fld Z h0 x "java/lang/String" "value" "[B" .null) (FC : Fld Z h0 x "java/lang/String" "coder" "B" (.int 0)) (VA : Arv Z h0 a ka .char 3 [(.int c0), (.int c1), (.int c2)] (.int 0)) (r0 : own_C c0) (r1 : own_C c1) (r2 : own_C c2) (gq0 : ¬ (255 : Int32) < c0) (gr : (255 : Int32) < c1) :
    MetAt l Z y_24 jdk_42_method_3_code 2 none ({ frames := 5, cells := 2, slots := 9, locals := 74 } : Room) #[(.ref x), (.ref a)] h0 ((own_rmS131_Q Z x a ka c0 c1 c2 cz G n0 h0)) := by
  refine goBodyM (plainFor_of_name (by first | (simp [plainName, overriddenIn]; done) | decide +kernel)) ?_
  intro p e s m below meth c T0 hx hZ hby hml hown hnm hret hlk X0 e0
  have hown : s.vm.findClass "java/lang/String" = some m.cls := hown
  refine Go.cast (g' := mkF m 0 #[.val (.ref x), .val (.ref a)] []) (by first | (simp [entryFrame, mkF, argsToLocals, Value.category]; done) | rfl) ?_
  show Go p e below _ T0 (mkF m 0 _ [])
  refine Go.aloadN X0 hx hby k24_0 rfl rfl ?_
  refine Go.aloadN X0 hx hby k24_1 rfl rfl ?_
  refine Go.iconst 0 X0 hx hby k24_2 rfl ?_
  refine Go.aloadN X0 hx hby k24_3 rfl rfl ?_
  refine Go.len X0 hx hZ e0 VA (hb hby k24_4) ?_
  refine Go.aconstNull X0 hx hby k24_5 ?_
  refine Go.callI (W := 0) (y := y_23) (a := x) (argsL := [(.ref a), (.int 0), (.int 3), .null]) (rest := []) X0 hx hZ rfl hown (own_t hw 15 rfl) (own_t hw 16 rfl) (own_t hw 10 rfl) (own_t hw 18 rfl) (by decide) (own_rmS431 l Z a0 hw x a ka c0 c1 c2 cz G n0 h0 Z0 OZ SB hz SA SH SL SG hG gx hne EX FV FC VA r0 r1 r2 gq0 gr) e0 (by rw [hml]; rfl) (lenOf own_dsc15 rfl) (hb hby k24_6) rfl (Nat.le_of_eq rfl) (by decide) (by decide) (by decide) (by decide) fun _ T1 L1 X1 q1 => ?_
  obtain ⟨rfl, N1q, K1, A1, C1, t1, kt1, D1, V1⟩ := q1
  have N1 := Fr.app (Fr.nil n0) N1q
  have sz1 := Nat.le_trans Z0 K1.1
  have kp1 := (Keep.refl h0 [x]).trans K1 (allS own_i0 all0)
  show Go p e below _ T1 (mkF m 9 _ [])
  exact Go.retV X1 hx hlk hret (hb hby k24_9) (by decide) (by decide) ⟨rfl, N1, kp1, A1, C1, t1, kt1, D1, V1⟩
abbrev own_rmC532_Q (Z : State) (a : Addr) (ka : ClassId) (d : Addr) (kd : ClassId) (c0 c1 c2 : Int32) (n0 : Nat) (h0 : Heap) : Option Value → Heap → List Loc → Prop := fun v h L => v = some (.int 2) ∧ Fr n0 L ∧ Keep h0 h [d]
theorem own_rmC532 (l : Launch) (Z : State) (a0 : Array Value) (hw : ∀ d ∈ tables_1, d.before a0 Z = true) (a : Addr) (ka : ClassId) (d : Addr) (kd : ClassId) (c0 c1 c2 : Int32) (n0 : Nat) (h0 : Heap) (Z0 : n0 ≤ h0.size) (gd : n0 ≤ d) (hne : a ≠ d) (VA : Arv Z h0 a ka .char 3 [(.int c0), (.int c1), (.int c2)] (.int 0)) (VD : Arv Z h0 d kd .byte 3 [(.int 0), (.int 0), (.int 0)] (.int 0)) (gq0 : ¬ (255 : Int32) < c0) (gq1 : ¬ (255 : Int32) < c1) (gr : (255 : Int32) < c2) :
    MetAt l Z y_21 jdk_52_method_21_code 7 (some .int) ({ frames := 0, cells := 0, slots := 0, locals := 0 } : Room) #[(.ref a), (.int 0), (.ref d), (.int 0), (.int 3)] h0 ((own_rmC532_Q Z a ka d kd c0 c1 c2 n0 h0)) := by
  refine goBodyM (plainFor_of_name (by first | (simp [plainName, overriddenIn]; done) | decide +kernel)) ?_
  intro p e s m below meth c T0 hx hZ hby hml hown hnm hret hlk X0 e0
  have hown : s.vm.findClass "java/lang/StringUTF16" = some m.cls := hown
  refine Go.cast (g' := mkF m 0 #[.val (.ref a), .val (.int 0), .val (.ref d), .val (.int 0), .val (.int 3), .unset, .unset] []) (by first | (simp [entryFrame, mkF, argsToLocals, Value.category]; done) | rfl) ?_
  show Go p e below _ T0 (mkF m 0 _ [])
  refine Go.iconst 0 X0 hx hby k21_0 rfl ?_
  refine Go.istore X0 hx hby k21_1 (l' := #[.val (.ref a), .val (.int 0), .val (.ref d), .val (.int 0), .val (.int 3), .val (.int 0), .unset]) rfl ?_
  refine Go.iload X0 hx hby k21_3 rfl ?_
  refine Go.iload X0 hx hby k21_5 rfl ?_
  refine Go.icmpNo X0 hx hby k21_7 (tlt (by decide : (0 : Int32) < (3 : Int32))).2.1 ?_
  refine Go.aloadN X0 hx hby k21_10 rfl rfl ?_
  refine Go.iloadN X0 hx hby k21_11 rfl ?_
  refine Go.caload X0 hx hZ e0 VA ⟨by decide, by decide⟩ (v := (.int c0)) rfl (hb hby k21_12) ?_
  refine Go.istore X0 hx hby k21_13 (l' := #[.val (.ref a), .val (.int 0), .val (.ref d), .val (.int 0), .val (.int 3), .val (.int 0), .val (.int c0)]) rfl ?_
  refine Go.iload X0 hx hby k21_15 rfl ?_
  refine Go.sipush 255 X0 hx hby k21_17 rfl ?_
  refine Go.icmpYes 26 X0 hx hby k21_20 (flt gq0).2.2.2 (by decide) (by decide) ?_
  refine Go.aloadN X0 hx hby k21_26 rfl rfl ?_
  refine Go.iloadN X0 hx hby k21_27 rfl ?_
  show Go p e below _ T0 (mkF m 28 _ [(.int 0), (.ref d)])
  refine Go.iload X0 hx hby k21_28 rfl ?_
  refine Go.i2b X0 hx hby k21_30 rfl ?_
  refine Go.bastore X0 hx hZ e0 VD ⟨by decide, by decide⟩ 0 rfl (Nat.le_of_ble_eq_true rfl) (hb hby k21_31) fun T1 h1 X1 e1 W1 V1 => ?_
  have sz1 := Nat.le_trans Z0 (Keep.of_wr W1).1
  have kp1 := (Keep.refl h0 [d]).wr W1 own_i0
  have N1 := Fr.snoc X1 (Fr.nil n0) gd
  have V1 : Arv Z h1 d kd .byte (3 : Int32) [(.int (nar .byte (c0.toInt8.toInt32))), (.int 0), (.int 0)] (.int 0) := V1
  refine Go.iinc X1 hx hby k21_32 rfl (l' := #[.val (.ref a), .val (.int 1), .val (.ref d), .val (.int 0), .val (.int 3), .val (.int 0), .val (.int c0)]) rfl ?_
  refine Go.iinc X1 hx hby k21_35 rfl (l' := #[.val (.ref a), .val (.int 1), .val (.ref d), .val (.int 1), .val (.int 3), .val (.int 0), .val (.int c0)]) rfl ?_
  refine Go.iinc X1 hx hby k21_38 rfl (l' := #[.val (.ref a), .val (.int 1), .val (.ref d), .val (.int 1), .val (.int 3), .val (.int 1), .val (.int c0)]) rfl ?_
  refine Go.goto 3 X1 hx hby k21_41 (by decide) (by decide) ?_
  refine Go.iload X1 hx hby k21_3 rfl ?_
  refine Go.iload X1 hx hby k21_5 rfl ?_
  refine Go.icmpNo X1 hx hby k21_7 (tlt (by decide : (1 : Int32) < (3 : Int32))).2.1 ?_
  refine Go.aloadN X1 hx hby k21_10 rfl rfl ?_
  refine Go.iloadN X1 hx hby k21_11 rfl ?_
  refine Go.caload X1 hx hZ e1 (VA.other W1 hne) ⟨by decide, by decide⟩ (v := (.int c1)) rfl (hb hby k21_12) ?_
  refine Go.istore X1 hx hby k21_13 (l' := #[.val (.ref a), .val (.int 1), .val (.ref d), .val (.int 1), .val (.int 3), .val (.int 1), .val (.int c1)]) rfl ?_
  show Go p e below _ T1 (mkF m 15 _ [])
  refine Go.iload X1 hx hby k21_15 rfl ?_
  refine Go.sipush 255 X1 hx hby k21_17 rfl ?_
  refine Go.icmpYes 26 X1 hx hby k21_20 (flt gq1).2.2.2 (by decide) (by decide) ?_
  refine Go.aloadN X1 hx hby k21_26 rfl rfl ?_
  refine Go.iloadN X1 hx hby k21_27 rfl ?_
  refine Go.iload X1 hx hby k21_28 rfl ?_
  refine Go.i2b X1 hx hby k21_30 rfl ?_
  refine Go.bastore X1 hx hZ e1 V1 ⟨by decide, by decide⟩ 1 rfl (Nat.le_of_ble_eq_true rfl) (hb hby k21_31) fun T2 h2 X2 e2 W2 V2 => ?_
  have sz2 := Nat.le_trans sz1 (Keep.of_wr W2).1
  have kp2 := kp1.wr W2 own_i0
  have N2 := Fr.snoc X2 N1 gd
  have V2 : Arv Z h2 d kd .byte (3 : Int32) [(.int (nar .byte (c0.toInt8.toInt32))), (.int (nar .byte (c1.toInt8.toInt32))), (.int 0)] (.int 0) := V2
  refine Go.iinc X2 hx hby k21_32 rfl (l' := #[.val (.ref a), .val (.int 2), .val (.ref d), .val (.int 1), .val (.int 3), .val (.int 1), .val (.int c1)]) rfl ?_
  refine Go.iinc X2 hx hby k21_35 rfl (l' := #[.val (.ref a), .val (.int 2), .val (.ref d), .val (.int 2), .val (.int 3), .val (.int 1), .val (.int c1)]) rfl ?_
  refine Go.iinc X2 hx hby k21_38 rfl (l' := #[.val (.ref a), .val (.int 2), .val (.ref d), .val (.int 2), .val (.int 3), .val (.int 2), .val (.int c1)]) rfl ?_
  refine Go.goto 3 X2 hx hby k21_41 (by decide) (by decide) ?_
  refine Go.iload X2 hx hby k21_3 rfl ?_
  refine Go.iload X2 hx hby k21_5 rfl ?_
  show Go p e below _ T2 (mkF m 7 _ [(.int 3), (.int 2)])
  refine Go.icmpNo X2 hx hby k21_7 (tlt (by decide : (2 : Int32) < (3 : Int32))).2.1 ?_
  refine Go.aloadN X2 hx hby k21_10 rfl rfl ?_
  refine Go.iloadN X2 hx hby k21_11 rfl ?_
  refine Go.caload X2 hx hZ e2 ((VA.other W1 hne).other W2 hne) ⟨by decide, by decide⟩ (v := (.int c2)) rfl (hb hby k21_12) ?_
  refine Go.istore X2 hx hby k21_13 (l' := #[.val (.ref a), .val (.int 2), .val (.ref d), .val (.int 2), .val (.int 3), .val (.int 2), .val (.int c2)]) rfl ?_
  refine Go.iload X2 hx hby k21_15 rfl ?_
  refine Go.sipush 255 X2 hx hby k21_17 rfl ?_
  refine Go.icmpNo X2 hx hby k21_20 (tlt gr).2.2.2 ?_
  refine Go.iload X2 hx hby k21_23 rfl ?_
  exact Go.retI X2 hx hlk hret (hb hby k21_25) (by decide) (by decide) (by rw [e2]; exact ⟨rfl, N2, kp2⟩)
abbrev own_rmC332_Q (Z : State) (a : Addr) (ka : ClassId) (c0 c1 c2 : Int32) (cz : Int32) (G : Value) (n0 : Nat) (h0 : Heap) : Option Value → Heap → List Loc → Prop := fun v h L => ∃ b k, v = some (.ref b) ∧ Fr n0 L ∧ Keep h0 h [] ∧ h0.size ≤ b ∧ Arv Z h b k .byte 6 [(.int (lo8 c0)), (.int (hi8 c0)), (.int (lo8 c1)), (.int (hi8 c1)), (.int (lo8 c2)), (.int (hi8 c2))] (.int 0)
theorem own_rmC332 (l : Launch) (Z : State) (a0 : Array Value) (hw : ∀ d ∈ tables_1, d.before a0 Z = true) (a : Addr) (ka : ClassId) (c0 c1 c2 : Int32) (cz : Int32) (G : Value) (n0 : Nat) (h0 : Heap) (Z0 : n0 ≤ h0.size) (OZ : Old Z n0 h0) (SB : own_SB Z Z.heap cz) (hz : ¬ cz = (0 : Int32)) (SA : own_SA Z Z.heap) (SH : own_SH Z Z.heap) (SL : own_SL Z Z.heap) (SG : own_SG Z Z.heap G) (hG : G.isRef = true) (VA : Arv Z h0 a ka .char 3 [(.int c0), (.int c1), (.int c2)] (.int 0)) (r0 : own_C c0) (r1 : own_C c1) (r2 : own_C c2) (gq0 : ¬ (255 : Int32) < c0) (gq1 : ¬ (255 : Int32) < c1) (gr : (255 : Int32) < c2) :
    MetAt l Z y_22 jdk_52_method_16_code 6 (some (.array .byte)) ({ frames := 3, cells := 2, slots := 9, locals := 40 } : Room) #[(.ref a), (.int 0), (.int 3)] h0 ((own_rmC332_Q Z a ka c0 c1 c2 cz G n0 h0)) := by
  refine goBodyM (plainFor_of_name (by first | (simp [plainName, overriddenIn]; done) | decide +kernel)) ?_
  intro p e s m below meth c T0 hx hZ hby hml hown hnm hret hlk X0 e0
  have hown : s.vm.findClass "java/lang/StringUTF16" = some m.cls := hown
  refine Go.cast (g' := mkF m 0 #[.val (.ref a), .val (.int 0), .val (.int 3), .unset, .unset, .unset] []) (by first | (simp [entryFrame, mkF, argsToLocals, Value.category]; done) | rfl) ?_
  show Go p e below _ T0 (mkF m 0 _ [])
  refine Go.iloadN X0 hx hby k22_0 rfl ?_
  refine Go.newarr X0 hx hZ (own_t hw 27 rfl) e0 3 (by decide) (by decide) (by decide) (by decide) (by decide) (hb hby k22_1) fun T1 h1 b1 k1 g1 X1 e1 E1 V1 => ?_
  have lt_a_b1 : a < b1 := Nat.lt_of_lt_of_le VA.lt (Nat.le_of_eq g1.symm)
  have ge_b1 : n0 ≤ b1 := g1 ▸ Z0
  have hs_b1 : h0.size ≤ b1 := g1 ▸ (Keep.refl h0 []).1
  have sz1 := Nat.le_trans Z0 E1.1
  have kp1 := (Keep.refl h0 []).ext E1
  have V1 : Arv Z h1 b1 k1 .byte (3 : Int32) [(.int 0), (.int 0), (.int 0)] (.int 0) := V1
  refine Go.astoreN X1 hx hby k22_3 rfl (l' := #[.val (.ref a), .val (.int 0), .val (.int 3), .val (.ref b1), .unset, .unset]) rfl ?_
  refine Go.aloadN X1 hx hby k22_4 rfl rfl ?_
  refine Go.iloadN X1 hx hby k22_5 rfl ?_
  refine Go.aloadN X1 hx hby k22_6 rfl rfl ?_
  refine Go.iconst 0 X1 hx hby k22_7 rfl ?_
  refine Go.iloadN X1 hx hby k22_8 rfl ?_
  refine Go.callS (W := 0) (y := y_21) (argsL := [(.ref a), (.int 0), (.ref b1), (.int 0), (.int 3)]) (rest := []) X1 hx hZ hown (own_t hw 28 rfl) (own_t hw 29 rfl) (own_t hw 25 rfl) (own_t hw 30 rfl) (by decide) (own_rmC532 l Z a0 hw a ka b1 k1 c0 c1 c2 n0 h1 sz1 ge_b1 (Nat.ne_of_lt lt_a_b1) (VA.ext E1) V1 gq0 gq1 gr) e1 (by rw [hml]; rfl) (lenOf own_dsc12 rfl) (hb hby k22_9) rfl (Nat.le_of_eq rfl) (by decide) (by decide) (by decide) (by decide) fun _ T2 L2 X2 q2 => ?_
  obtain ⟨rfl, N2q, K2⟩ := q2
  have N2 := Fr.app (Fr.nil n0) N2q
  have sz2 := Nat.le_trans sz1 K2.1
  have kp2 := kp1.trans K2 (allS (Or.inr hs_b1) all0)
  show Go p e below _ T2 (mkF m 12 _ [(.int 2)])
  refine Go.istore X2 hx hby k22_12 (l' := #[.val (.ref a), .val (.int 0), .val (.int 3), .val (.ref b1), .val (.int 2), .unset]) rfl ?_
  refine Go.iload X2 hx hby k22_14 rfl ?_
  refine Go.iloadN X2 hx hby k22_16 rfl ?_
  refine Go.icmpNo X2 hx hby k22_17 (feq (by decide : ¬ ((2 : Int32) = (3 : Int32)))).1 ?_
  refine Go.aloadN X2 hx hby k22_20 rfl rfl ?_
  refine Go.iloadN X2 hx hby k22_21 rfl ?_
  refine Go.iloadN X2 hx hby k22_22 rfl ?_
  refine Go.callS (W := 0) (y := y_19) (argsL := [(.ref a), (.int 0), (.int 3)]) (rest := []) X2 hx hZ hown (own_t hw 88 rfl) (own_t hw 89 rfl) (own_t hw 25 rfl) (own_t hw 90 rfl) (by decide) (own_rmTB3 l Z a0 hw a ka c0 c1 c2 cz G n0 T2.heap sz2 ((OZ.ext E1).keep K2 (allS ge_b1 all0)) SB hz SA SH SL SG hG ((VA.ext E1).keep K2 (ninS (Nat.ne_of_lt lt_a_b1) nin0))) rfl (by rw [hml]; rfl) (lenOf own_dsc13 rfl) (hb hby k22_23) rfl (Nat.le_of_eq rfl) (by decide) (by decide) (by decide) (by decide) fun _ T3 L3 X3 q3 => ?_
  obtain ⟨b3, k3, rfl, N3q, K3, g3, V3⟩ := q3
  have N3 := Fr.app N2 N3q
  have sz3 := Nat.le_trans sz2 K3.1
  have kp3 := kp2.trans K3 all0
  have hs_b3 : h0.size ≤ b3 := Nat.le_trans (kp2.1) g3
  show Go p e below _ T3 (mkF m 26 _ [(.ref b3)])
  refine Go.astore X3 hx hby k22_26 rfl (l' := #[.val (.ref a), .val (.int 0), .val (.int 3), .val (.ref b1), .val (.int 2), .val (.ref b3)]) rfl ?_
  refine Go.aload X3 hx hby k22_28 rfl rfl ?_
  refine Go.iload X3 hx hby k22_30 rfl ?_
  refine Go.callSP (W := 0) (y := y_7) (argsL := [(.ref b3), (.int 2)]) (rest := []) (r := some (.int c2)) X3 hx hZ hown (own_t hw 104 rfl) (own_t hw 105 rfl) (own_t hw 25 rfl) (own_t hw 106 rfl) (by decide) (own_rmGC l Z a0 hw b3 k3 c0 c1 c2 3 2 T3.heap V3 (SA.ext (((OZ.ext E1).keep K2 (allS ge_b1 all0)).keep K3 all0).2) (SH.ext (((OZ.ext E1).keep K2 (allS ge_b1 all0)).keep K3 all0).2) (SL.ext (((OZ.ext E1).keep K2 (allS ge_b1 all0)).keep K3 all0).2) r0 r1 r2 (by decide) (by decide)) rfl (by rw [hml]; rfl) (lenOf own_dsc0 rfl) (hb hby k22_32) rfl (Nat.le_of_eq rfl) (by decide) (by decide) (by decide) (by decide) fun T4 X4 e4 => ?_
  show Go p e below _ T4 (mkF m 35 _ [(.int c2)])
  refine Go.sipush 255 X4 hx hby k22_35 rfl ?_
  refine Go.icmpYes 54 X4 hx hby k22_38 (tlt gr).2.2.1 (by decide) (by decide) ?_
  refine Go.aload X4 hx hby k22_54 rfl rfl ?_
  exact Go.retA X4 hx hlk hret rfl rfl rfl (hb hby k22_56) (by decide) (by decide) (by rw [e4]; exact ⟨b3, k3, rfl, N3, kp3, hs_b3, V3⟩)
abbrev own_rmS432_Q (Z : State) (x a : Addr) (ka : ClassId) (c0 c1 c2 : Int32) (cz : Int32) (G : Value) (n0 : Nat) (h0 : Heap) : Option Value → Heap → List Loc → Prop := fun v h L => v = none ∧ Fr n0 L ∧ Keep h0 h [x] ∧ Exa Z h x "java/lang/String" ∧ Fld Z h x "java/lang/String" "coder" "B" (.int 1) ∧ ∃ t kb, Fld Z h x "java/lang/String" "value" "[B" (.ref t) ∧ Arv Z h t kb .byte 6 [(.int (lo8 c0)), (.int (hi8 c0)), (.int (lo8 c1)), (.int (hi8 c1)), (.int (lo8 c2)), (.int (hi8 c2))] (.int 0)
theorem own_rmS432 (l : Launch) (Z : State) (a0 : Array Value) (hw : ∀ d ∈ tables_1, d.before a0 Z = true) (x a : Addr) (ka : ClassId) (c0 c1 c2 : Int32) (cz : Int32) (G : Value) (n0 : Nat) (h0 : Heap) (Z0 : n0 ≤ h0.size) (OZ : Old Z n0 h0) (SB : own_SB Z Z.heap cz) (hz : ¬ cz = (0 : Int32)) (SA : own_SA Z Z.heap) (SH : own_SH Z Z.heap) (SL : own_SL Z Z.heap) (SG : own_SG Z Z.heap G) (hG : G.isRef = true) (gx : n0 ≤ x) (hne : a ≠ x) (EX : Exa Z h0 x "java/lang/String") (FV : Fld Z h0 x "java/lang/String" "value" "[B" .null) (FC : Fld Z h0 x "java/lang/String" "coder" "B" (.int 0)) (VA : Arv Z h0 a ka .char 3 [(.int c0), (.int c1), (.int c2)] (.int 0)) (r0 : own_C c0) (r1 : own_C c1) (r2 : own_C c2) (gq0 : ¬ (255 : Int32) < c0) (gq1 : ¬ (255 : Int32) < c1) (gr : (255 : Int32) < c2) :
    MetAt l Z y_23 jdk_42_method_149_code 6 none ({ frames := 4, cells := 2, slots := 9, locals := 57 } : Room) #[(.ref x), (.ref a), (.int 0), (.int 3), .null] h0 ((own_rmS432_Q Z x a ka c0 c1 c2 cz G n0 h0)) := by
  refine goBodyM (plainFor_of_name (by first | (simp [plainName, overriddenIn]; done) | decide +kernel)) ?_
  intro p e s m below meth c T0 hx hZ hby hml hown hnm hret hlk X0 e0
  have hown : s.vm.findClass "java/lang/String" = some m.cls := hown
  refine Go.cast (g' := mkF m 0 #[.val (.ref x), .val (.ref a), .val (.int 0), .val (.int 3), .val .null, .unset] []) (by first | (simp [entryFrame, mkF, argsToLocals, Value.category]; done) | rfl) ?_
  show Go p e below _ T0 (mkF m 0 _ [])
  refine Go.aloadN X0 hx hby k23_0 rfl rfl ?_
  refine Go.initObj X0 hx hZ hown (own_t hw 19 rfl) (own_t hw 20 rfl) (own_t hw 21 rfl) e0 (by rw [hml]; rfl) (hb hby k23_1) (by decide) (W := 0) (Nat.le_of_eq rfl) (by decide) fun T1 X1 e1 => ?_
  show Go p e below _ T1 (mkF m 4 _ [])
  refine Go.iloadN X1 hx hby k23_4 rfl ?_
  refine Go.ifYes 27 X1 hx hby k23_5 ((if0 _ _).trans (feq (by decide : ¬ ((3 : Int32) = (0 : Int32)))).2) (by decide) (by decide) ?_
  refine Go.gets X1 hx hZ hown (own_t hw 22 rfl) Via.refl e1 (SB.ext OZ.2) (hb hby k23_27) fun T2 X2 e2 => ?_
  refine Go.ifNo X2 hx hby k23_30 ((if0 _ _).trans (feq hz).1) ?_
  refine Go.aloadN X2 hx hby k23_33 rfl rfl ?_
  refine Go.iloadN X2 hx hby k23_34 rfl ?_
  refine Go.iloadN X2 hx hby k23_35 rfl ?_
  refine Go.callS (W := 0) (y := y_22) (argsL := [(.ref a), (.int 0), (.int 3)]) (rest := []) X2 hx hZ hown (own_t hw 23 rfl) (own_t hw 24 rfl) (own_t hw 25 rfl) (own_t hw 26 rfl) (by decide) (own_rmC332 l Z a0 hw a ka c0 c1 c2 cz G n0 h0 Z0 OZ SB hz SA SH SL SG hG VA r0 r1 r2 gq0 gq1 gr) e2 (by rw [hml]; rfl) (lenOf own_dsc13 rfl) (hb hby k23_36) rfl (Nat.le_of_eq rfl) (by decide) (by decide) (by decide) (by decide) fun _ T3 L3 X3 q3 => ?_
  obtain ⟨b3, k3, rfl, N3q, K3, g3, V3⟩ := q3
  have N3 := Fr.app (Fr.nil n0) N3q
  have sz3 := Nat.le_trans Z0 K3.1
  have kp3 := (Keep.refl h0 [x]).trans K3 all0
  have ne_b3 : b3 ≠ x := Nat.ne_of_gt (Nat.lt_of_lt_of_le EX.lt g3)
  show Go p e below _ T3 (mkF m 39 _ [(.ref b3)])
  refine Go.astore X3 hx hby k23_39 rfl (l' := #[.val (.ref x), .val (.ref a), .val (.int 0), .val (.int 3), .val .null, .val (.ref b3)]) rfl ?_
  refine Go.aloadN X3 hx hby k23_41 rfl rfl ?_
  refine Go.aload X3 hx hby k23_42 rfl rfl ?_
  refine Go.iloadN X3 hx hby k23_44 rfl ?_
  refine Go.callSP (W := 1) (y := y_20) (argsL := [(.ref b3), (.int 3)]) (rest := [(.ref x)]) (r := some (.int 1)) X3 hx hZ hown (own_t hw 31 rfl) (own_t hw 32 rfl) (own_t hw 25 rfl) (own_t hw 33 rfl) (by decide) (own_rmCd13 l Z a0 hw b3 k3 c0 c1 c2 T3.heap V3) rfl (by rw [hml]; rfl) (lenOf own_dsc14 rfl) (hb hby k23_45) rfl (Nat.le_of_eq rfl) (by decide) (by decide) (by decide) (by decide) fun T4 X4 e4 => ?_
  show Go p e below _ T4 (mkF m 48 _ [(.int 1), (.ref x)])
  refine Go.putf X4 hx hZ hown (own_t hw 34 rfl) Via.refl e4 (FC.keep K3 nin0) (EX.keep K3) (Or.inr ⟨(own_t hw 35 rfl), rfl, hnm⟩) (own_t hw 9 rfl) (ty := .byte) (by decide) rfl (fits_nar_byte _) (hb hby k23_48) fun T5 h5 X5 e5 W5 F5 A5 => ?_
  have sz5 := Nat.le_trans sz3 (Keep.of_wr W5).1
  have kp5 := kp3.wr W5 own_i0
  have N5 := Fr.snoc X5 N3 gx
  refine Go.aloadN X5 hx hby k23_51 rfl rfl ?_
  refine Go.aload X5 hx hby k23_52 rfl rfl ?_
  refine Go.putf X5 hx hZ hown (own_t hw 36 rfl) Via.refl e5 ((FV.keep K3 nin0).other W5 (Or.inr (slot_ne (Or.inr (own_t hw 37 rfl)) (Or.inr (own_t hw 35 rfl)) (by decide) (t := (.array .byte)) (t' := .byte) (by decide) (by decide)))) A5 (Or.inr ⟨(own_t hw 37 rfl), rfl, hnm⟩) (own_t hw 9 rfl) (ty := (.array .byte)) (by decide) rfl rfl (hb hby k23_54) fun T6 h6 X6 e6 W6 F6 A6 => ?_
  have sz6 := Nat.le_trans sz5 (Keep.of_wr W6).1
  have kp6 := kp5.wr W6 own_i0
  have N6 := Fr.snoc X6 N5 gx
  exact Go.retV X6 hx hlk hret (hb hby k23_57) (by decide) (by decide) (by rw [e6]; exact ⟨rfl, N6, kp6, A6, (F5.other W6 (Or.inr (slot_ne (Or.inr (own_t hw 35 rfl)) (Or.inr (own_t hw 37 rfl)) (by decide) (t := .byte) (t' := (.array .byte)) (by decide) (by decide)))), b3, k3, F6, ((V3.other W5 ne_b3).other W6 ne_b3)⟩)
abbrev own_rmS132_Q (Z : State) (x a : Addr) (ka : ClassId) (c0 c1 c2 : Int32) (cz : Int32) (G : Value) (n0 : Nat) (h0 : Heap) : Option Value → Heap → List Loc → Prop := fun v h L => v = none ∧ Fr n0 L ∧ Keep h0 h [x] ∧ Exa Z h x "java/lang/String" ∧ Fld Z h x "java/lang/String" "coder" "B" (.int 1) ∧ ∃ t kb, Fld Z h x "java/lang/String" "value" "[B" (.ref t) ∧ Arv Z h t kb .byte 6 [(.int (lo8 c0)), (.int (hi8 c0)), (.int (lo8 c1)), (.int (hi8 c1)), (.int (lo8 c2)), (.int (hi8 c2))] (.int 0)
theorem own_rmS132 (l : Launch) (Z : State) (a0 : Array Value) (hw : ∀ d ∈ tables_1, d.before a0 Z = true) (x a : Addr) (ka : ClassId) (c0 c1 c2 : Int32) (cz : Int32) (G : Value) (n0 : Nat) (h0 : Heap) (Z0 : n0 ≤ h0.size) (OZ : Old Z n0 h0) (SB : own_SB Z Z.heap cz) (hz : ¬ cz = (0 : Int32)) (SA : own_SA Z Z.heap) (SH : own_SH Z Z.heap) (SL : own_SL Z Z.heap) (SG : own_SG Z Z.heap G) (hG : G.isRef = true) (gx : n0 ≤ x) (hne : a ≠ x) (EX : Exa Z h0 x "java/lang/String") (FV : Fld Z h0 x "java/lang/String" "value" "[B" .null) (FC : Fld Z h0 x "java/lang/String" "coder" "B" (.int 0)) (VA : Arv Z h0 a ka .char 3 [(.int c0), (.int c1), (.int c2)] (.int 0)) (r0 : own_C c0) (r1 : own_C c1) (r2 : own_C c2) (gq0 : ¬ (255 : Int32) < c0) (gq1 : ¬ (255 : Int32) < c1) (gr : (255 : Int32) < c2) :
    MetAt l Z y_24 jdk_42_method_3_code 2 none ({ frames := 5, cells := 2, slots := 9, locals := 74 } : Room) #[(.ref x), (.ref a)] h0 ((own_rmS132_Q Z x a ka c0 c1 c2 cz G n0 h0)) := by
  refine goBodyM (plainFor_of_name (by first | (simp [plainName, overriddenIn]; done) | decide +kernel)) ?_
  intro p e s m below meth c T0 hx hZ hby hml hown hnm hret hlk X0 e0
  have hown : s.vm.findClass "java/lang/String" = some m.cls := hown
  refine Go.cast (g' := mkF m 0 #[.val (.ref x), .val (.ref a)] []) (by first | (simp [entryFrame, mkF, argsToLocals, Value.category]; done) | rfl) ?_
  show Go p e below _ T0 (mkF m 0 _ [])
  refine Go.aloadN X0 hx hby k24_0 rfl rfl ?_
  refine Go.aloadN X0 hx hby k24_1 rfl rfl ?_
  refine Go.iconst 0 X0 hx hby k24_2 rfl ?_
  refine Go.aloadN X0 hx hby k24_3 rfl rfl ?_
  refine Go.len X0 hx hZ e0 VA (hb hby k24_4) ?_
  refine Go.aconstNull X0 hx hby k24_5 ?_
  refine Go.callI (W := 0) (y := y_23) (a := x) (argsL := [(.ref a), (.int 0), (.int 3), .null]) (rest := []) X0 hx hZ rfl hown (own_t hw 15 rfl) (own_t hw 16 rfl) (own_t hw 10 rfl) (own_t hw 18 rfl) (by decide) (own_rmS432 l Z a0 hw x a ka c0 c1 c2 cz G n0 h0 Z0 OZ SB hz SA SH SL SG hG gx hne EX FV FC VA r0 r1 r2 gq0 gq1 gr) e0 (by rw [hml]; rfl) (lenOf own_dsc15 rfl) (hb hby k24_6) rfl (Nat.le_of_eq rfl) (by decide) (by decide) (by decide) (by decide) fun _ T1 L1 X1 q1 => ?_
  obtain ⟨rfl, N1q, K1, A1, C1, t1, kt1, D1, V1⟩ := q1
  have N1 := Fr.app (Fr.nil n0) N1q
  have sz1 := Nat.le_trans Z0 K1.1
  have kp1 := (Keep.refl h0 [x]).trans K1 (allS own_i0 all0)
  show Go p e below _ T1 (mkF m 9 _ [])
  exact Go.retV X1 hx hlk hret (hb hby k24_9) (by decide) (by decide) ⟨rfl, N1, kp1, A1, C1, t1, kt1, D1, V1⟩
abbrev own_rmC533_Q (Z : State) (a : Addr) (ka : ClassId) (d : Addr) (kd : ClassId) (c0 c1 c2 : Int32) (n0 : Nat) (h0 : Heap) : Option Value → Heap → List Loc → Prop := fun v h L => v = some (.int 3) ∧ Fr n0 L ∧ Keep h0 h [d] ∧ Arv Z h d kd .byte 3 [(.int (lo8 c0)), (.int (lo8 c1)), (.int (lo8 c2))] (.int 0)
theorem own_rmC533 (l : Launch) (Z : State) (a0 : Array Value) (hw : ∀ d ∈ tables_1, d.before a0 Z = true) (a : Addr) (ka : ClassId) (d : Addr) (kd : ClassId) (c0 c1 c2 : Int32) (n0 : Nat) (h0 : Heap) (Z0 : n0 ≤ h0.size) (gd : n0 ≤ d) (hne : a ≠ d) (VA : Arv Z h0 a ka .char 3 [(.int c0), (.int c1), (.int c2)] (.int 0)) (VD : Arv Z h0 d kd .byte 3 [(.int 0), (.int 0), (.int 0)] (.int 0)) (gq0 : ¬ (255 : Int32) < c0) (gq1 : ¬ (255 : Int32) < c1) (gq2 : ¬ (255 : Int32) < c2) :
    MetAt l Z y_21 jdk_52_method_21_code 7 (some .int) ({ frames := 0, cells := 0, slots := 0, locals := 0 } : Room) #[(.ref a), (.int 0), (.ref d), (.int 0), (.int 3)] h0 ((own_rmC533_Q Z a ka d kd c0 c1 c2 n0 h0)) := by
  refine goBodyM (plainFor_of_name (by first | (simp [plainName, overriddenIn]; done) | decide +kernel)) ?_
  intro p e s m below meth c T0 hx hZ hby hml hown hnm hret hlk X0 e0
  have hown : s.vm.findClass "java/lang/StringUTF16" = some m.cls := hown
  refine Go.cast (g' := mkF m 0 #[.val (.ref a), .val (.int 0), .val (.ref d), .val (.int 0), .val (.int 3), .unset, .unset] []) (by first | (simp [entryFrame, mkF, argsToLocals, Value.category]; done) | rfl) ?_
  show Go p e below _ T0 (mkF m 0 _ [])
  refine Go.iconst 0 X0 hx hby k21_0 rfl ?_
  refine Go.istore X0 hx hby k21_1 (l' := #[.val (.ref a), .val (.int 0), .val (.ref d), .val (.int 0), .val (.int 3), .val (.int 0), .unset]) rfl ?_
  refine Go.iload X0 hx hby k21_3 rfl ?_
  refine Go.iload X0 hx hby k21_5 rfl ?_
  refine Go.icmpNo X0 hx hby k21_7 (tlt (by decide : (0 : Int32) < (3 : Int32))).2.1 ?_
  refine Go.aloadN X0 hx hby k21_10 rfl rfl ?_
  refine Go.iloadN X0 hx hby k21_11 rfl ?_
  refine Go.caload X0 hx hZ e0 VA ⟨by decide, by decide⟩ (v := (.int c0)) rfl (hb hby k21_12) ?_
  refine Go.istore X0 hx hby k21_13 (l' := #[.val (.ref a), .val (.int 0), .val (.ref d), .val (.int 0), .val (.int 3), .val (.int 0), .val (.int c0)]) rfl ?_
  refine Go.iload X0 hx hby k21_15 rfl ?_
  refine Go.sipush 255 X0 hx hby k21_17 rfl ?_
  refine Go.icmpYes 26 X0 hx hby k21_20 (flt gq0).2.2.2 (by decide) (by decide) ?_
  refine Go.aloadN X0 hx hby k21_26 rfl rfl ?_
  refine Go.iloadN X0 hx hby k21_27 rfl ?_
  show Go p e below _ T0 (mkF m 28 _ [(.int 0), (.ref d)])
  refine Go.iload X0 hx hby k21_28 rfl ?_
  refine Go.i2b X0 hx hby k21_30 rfl ?_
  refine Go.bastore X0 hx hZ e0 VD ⟨by decide, by decide⟩ 0 rfl (Nat.le_of_ble_eq_true rfl) (hb hby k21_31) fun T1 h1 X1 e1 W1 V1 => ?_
  have sz1 := Nat.le_trans Z0 (Keep.of_wr W1).1
  have kp1 := (Keep.refl h0 [d]).wr W1 own_i0
  have N1 := Fr.snoc X1 (Fr.nil n0) gd
  have V1 : Arv Z h1 d kd .byte (3 : Int32) [(.int (nar .byte (c0.toInt8.toInt32))), (.int 0), (.int 0)] (.int 0) := V1
  refine Go.iinc X1 hx hby k21_32 rfl (l' := #[.val (.ref a), .val (.int 1), .val (.ref d), .val (.int 0), .val (.int 3), .val (.int 0), .val (.int c0)]) rfl ?_
  refine Go.iinc X1 hx hby k21_35 rfl (l' := #[.val (.ref a), .val (.int 1), .val (.ref d), .val (.int 1), .val (.int 3), .val (.int 0), .val (.int c0)]) rfl ?_
  refine Go.iinc X1 hx hby k21_38 rfl (l' := #[.val (.ref a), .val (.int 1), .val (.ref d), .val (.int 1), .val (.int 3), .val (.int 1), .val (.int c0)]) rfl ?_
  refine Go.goto 3 X1 hx hby k21_41 (by decide) (by decide) ?_
  refine Go.iload X1 hx hby k21_3 rfl ?_
  refine Go.iload X1 hx hby k21_5 rfl ?_
  refine Go.icmpNo X1 hx hby k21_7 (tlt (by decide : (1 : Int32) < (3 : Int32))).2.1 ?_
  refine Go.aloadN X1 hx hby k21_10 rfl rfl ?_
  refine Go.iloadN X1 hx hby k21_11 rfl ?_
  refine Go.caload X1 hx hZ e1 (VA.other W1 hne) ⟨by decide, by decide⟩ (v := (.int c1)) rfl (hb hby k21_12) ?_
  refine Go.istore X1 hx hby k21_13 (l' := #[.val (.ref a), .val (.int 1), .val (.ref d), .val (.int 1), .val (.int 3), .val (.int 1), .val (.int c1)]) rfl ?_
  show Go p e below _ T1 (mkF m 15 _ [])
  refine Go.iload X1 hx hby k21_15 rfl ?_
  refine Go.sipush 255 X1 hx hby k21_17 rfl ?_
  refine Go.icmpYes 26 X1 hx hby k21_20 (flt gq1).2.2.2 (by decide) (by decide) ?_
  refine Go.aloadN X1 hx hby k21_26 rfl rfl ?_
  refine Go.iloadN X1 hx hby k21_27 rfl ?_
  refine Go.iload X1 hx hby k21_28 rfl ?_
  refine Go.i2b X1 hx hby k21_30 rfl ?_
  refine Go.bastore X1 hx hZ e1 V1 ⟨by decide, by decide⟩ 1 rfl (Nat.le_of_ble_eq_true rfl) (hb hby k21_31) fun T2 h2 X2 e2 W2 V2 => ?_
  have sz2 := Nat.le_trans sz1 (Keep.of_wr W2).1
  have kp2 := kp1.wr W2 own_i0
  have N2 := Fr.snoc X2 N1 gd
  have V2 : Arv Z h2 d kd .byte (3 : Int32) [(.int (nar .byte (c0.toInt8.toInt32))), (.int (nar .byte (c1.toInt8.toInt32))), (.int 0)] (.int 0) := V2
  refine Go.iinc X2 hx hby k21_32 rfl (l' := #[.val (.ref a), .val (.int 2), .val (.ref d), .val (.int 1), .val (.int 3), .val (.int 1), .val (.int c1)]) rfl ?_
  refine Go.iinc X2 hx hby k21_35 rfl (l' := #[.val (.ref a), .val (.int 2), .val (.ref d), .val (.int 2), .val (.int 3), .val (.int 1), .val (.int c1)]) rfl ?_
  refine Go.iinc X2 hx hby k21_38 rfl (l' := #[.val (.ref a), .val (.int 2), .val (.ref d), .val (.int 2), .val (.int 3), .val (.int 2), .val (.int c1)]) rfl ?_
  refine Go.goto 3 X2 hx hby k21_41 (by decide) (by decide) ?_
  refine Go.iload X2 hx hby k21_3 rfl ?_
  refine Go.iload X2 hx hby k21_5 rfl ?_
  show Go p e below _ T2 (mkF m 7 _ [(.int 3), (.int 2)])
  refine Go.icmpNo X2 hx hby k21_7 (tlt (by decide : (2 : Int32) < (3 : Int32))).2.1 ?_
  refine Go.aloadN X2 hx hby k21_10 rfl rfl ?_
  refine Go.iloadN X2 hx hby k21_11 rfl ?_
  refine Go.caload X2 hx hZ e2 ((VA.other W1 hne).other W2 hne) ⟨by decide, by decide⟩ (v := (.int c2)) rfl (hb hby k21_12) ?_
  refine Go.istore X2 hx hby k21_13 (l' := #[.val (.ref a), .val (.int 2), .val (.ref d), .val (.int 2), .val (.int 3), .val (.int 2), .val (.int c2)]) rfl ?_
  refine Go.iload X2 hx hby k21_15 rfl ?_
  refine Go.sipush 255 X2 hx hby k21_17 rfl ?_
  refine Go.icmpYes 26 X2 hx hby k21_20 (flt gq2).2.2.2 (by decide) (by decide) ?_
  refine Go.aloadN X2 hx hby k21_26 rfl rfl ?_
  refine Go.iloadN X2 hx hby k21_27 rfl ?_
  refine Go.iload X2 hx hby k21_28 rfl ?_
  refine Go.i2b X2 hx hby k21_30 rfl ?_
  refine Go.bastore X2 hx hZ e2 V2 ⟨by decide, by decide⟩ 2 rfl (Nat.le_of_ble_eq_true rfl) (hb hby k21_31) fun T3 h3 X3 e3 W3 V3 => ?_
  have sz3 := Nat.le_trans sz2 (Keep.of_wr W3).1
  have kp3 := kp2.wr W3 own_i0
  have N3 := Fr.snoc X3 N2 gd
  have V3 : Arv Z h3 d kd .byte (3 : Int32) [(.int (nar .byte (c0.toInt8.toInt32))), (.int (nar .byte (c1.toInt8.toInt32))), (.int (nar .byte (c2.toInt8.toInt32)))] (.int 0) := V3
  refine Go.iinc X3 hx hby k21_32 rfl (l' := #[.val (.ref a), .val (.int 3), .val (.ref d), .val (.int 2), .val (.int 3), .val (.int 2), .val (.int c2)]) rfl ?_
  show Go p e below _ T3 (mkF m 35 _ [])
  refine Go.iinc X3 hx hby k21_35 rfl (l' := #[.val (.ref a), .val (.int 3), .val (.ref d), .val (.int 3), .val (.int 3), .val (.int 2), .val (.int c2)]) rfl ?_
  refine Go.iinc X3 hx hby k21_38 rfl (l' := #[.val (.ref a), .val (.int 3), .val (.ref d), .val (.int 3), .val (.int 3), .val (.int 3), .val (.int c2)]) rfl ?_
  refine Go.goto 3 X3 hx hby k21_41 (by decide) (by decide) ?_
  refine Go.iload X3 hx hby k21_3 rfl ?_
  refine Go.iload X3 hx hby k21_5 rfl ?_
  refine Go.icmpYes 44 X3 hx hby k21_7 (flt (by decide : ¬ ((3 : Int32) < (3 : Int32)))).2.1 (by decide) (by decide) ?_
  refine Go.iload X3 hx hby k21_44 rfl ?_
  exact Go.retI X3 hx hlk hret (hb hby k21_46) (by decide) (by decide) (by rw [e3]; exact ⟨rfl, N3, kp3, by have q := V3; simp only [own_w2] at q; exact q⟩)
abbrev own_rmC333_Q (Z : State) (a : Addr) (ka : ClassId) (c0 c1 c2 : Int32) (cz : Int32) (G : Value) (n0 : Nat) (h0 : Heap) : Option Value → Heap → List Loc → Prop := fun v h L => ∃ b k, v = some (.ref b) ∧ Fr n0 L ∧ Keep h0 h [] ∧ h0.size ≤ b ∧ Arv Z h b k .byte 3 [(.int (lo8 c0)), (.int (lo8 c1)), (.int (lo8 c2))] (.int 0)
theorem own_rmC333 (l : Launch) (Z : State) (a0 : Array Value) (hw : ∀ d ∈ tables_1, d.before a0 Z = true) (a : Addr) (ka : ClassId) (c0 c1 c2 : Int32) (cz : Int32) (G : Value) (n0 : Nat) (h0 : Heap) (Z0 : n0 ≤ h0.size) (OZ : Old Z n0 h0) (SB : own_SB Z Z.heap cz) (hz : ¬ cz = (0 : Int32)) (SA : own_SA Z Z.heap) (SH : own_SH Z Z.heap) (SL : own_SL Z Z.heap) (SG : own_SG Z Z.heap G) (hG : G.isRef = true) (VA : Arv Z h0 a ka .char 3 [(.int c0), (.int c1), (.int c2)] (.int 0)) (r0 : own_C c0) (r1 : own_C c1) (r2 : own_C c2) (gq0 : ¬ (255 : Int32) < c0) (gq1 : ¬ (255 : Int32) < c1) (gq2 : ¬ (255 : Int32) < c2) :
    MetAt l Z y_22 jdk_52_method_16_code 6 (some (.array .byte)) ({ frames := 3, cells := 2, slots := 9, locals := 40 } : Room) #[(.ref a), (.int 0), (.int 3)] h0 ((own_rmC333_Q Z a ka c0 c1 c2 cz G n0 h0)) := by
  refine goBodyM (plainFor_of_name (by first | (simp [plainName, overriddenIn]; done) | decide +kernel)) ?_
  intro p e s m below meth c T0 hx hZ hby hml hown hnm hret hlk X0 e0
  have hown : s.vm.findClass "java/lang/StringUTF16" = some m.cls := hown
  refine Go.cast (g' := mkF m 0 #[.val (.ref a), .val (.int 0), .val (.int 3), .unset, .unset, .unset] []) (by first | (simp [entryFrame, mkF, argsToLocals, Value.category]; done) | rfl) ?_
  show Go p e below _ T0 (mkF m 0 _ [])
  refine Go.iloadN X0 hx hby k22_0 rfl ?_
  refine Go.newarr X0 hx hZ (own_t hw 27 rfl) e0 3 (by decide) (by decide) (by decide) (by decide) (by decide) (hb hby k22_1) fun T1 h1 b1 k1 g1 X1 e1 E1 V1 => ?_
  have lt_a_b1 : a < b1 := Nat.lt_of_lt_of_le VA.lt (Nat.le_of_eq g1.symm)
  have ge_b1 : n0 ≤ b1 := g1 ▸ Z0
  have hs_b1 : h0.size ≤ b1 := g1 ▸ (Keep.refl h0 []).1
  have sz1 := Nat.le_trans Z0 E1.1
  have kp1 := (Keep.refl h0 []).ext E1
  have V1 : Arv Z h1 b1 k1 .byte (3 : Int32) [(.int 0), (.int 0), (.int 0)] (.int 0) := V1
  refine Go.astoreN X1 hx hby k22_3 rfl (l' := #[.val (.ref a), .val (.int 0), .val (.int 3), .val (.ref b1), .unset, .unset]) rfl ?_
  refine Go.aloadN X1 hx hby k22_4 rfl rfl ?_
  refine Go.iloadN X1 hx hby k22_5 rfl ?_
  refine Go.aloadN X1 hx hby k22_6 rfl rfl ?_
  refine Go.iconst 0 X1 hx hby k22_7 rfl ?_
  refine Go.iloadN X1 hx hby k22_8 rfl ?_
  refine Go.callS (W := 0) (y := y_21) (argsL := [(.ref a), (.int 0), (.ref b1), (.int 0), (.int 3)]) (rest := []) X1 hx hZ hown (own_t hw 28 rfl) (own_t hw 29 rfl) (own_t hw 25 rfl) (own_t hw 30 rfl) (by decide) (own_rmC533 l Z a0 hw a ka b1 k1 c0 c1 c2 n0 h1 sz1 ge_b1 (Nat.ne_of_lt lt_a_b1) (VA.ext E1) V1 gq0 gq1 gq2) e1 (by rw [hml]; rfl) (lenOf own_dsc12 rfl) (hb hby k22_9) rfl (Nat.le_of_eq rfl) (by decide) (by decide) (by decide) (by decide) fun _ T2 L2 X2 q2 => ?_
  obtain ⟨rfl, N2q, K2, V2⟩ := q2
  have N2 := Fr.app (Fr.nil n0) N2q
  have sz2 := Nat.le_trans sz1 K2.1
  have kp2 := kp1.trans K2 (allS (Or.inr hs_b1) all0)
  show Go p e below _ T2 (mkF m 12 _ [(.int 3)])
  refine Go.istore X2 hx hby k22_12 (l' := #[.val (.ref a), .val (.int 0), .val (.int 3), .val (.ref b1), .val (.int 3), .unset]) rfl ?_
  refine Go.iload X2 hx hby k22_14 rfl ?_
  refine Go.iloadN X2 hx hby k22_16 rfl ?_
  refine Go.icmpYes 57 X2 hx hby k22_17 (teq (by decide : (3 : Int32) = (3 : Int32))).1 (by decide) (by decide) ?_
  refine Go.aloadN X2 hx hby k22_57 rfl rfl ?_
  exact Go.retA X2 hx hlk hret rfl rfl rfl (hb hby k22_58) (by decide) (by decide) (by exact ⟨b1, k1, rfl, N2, kp2, hs_b1, V2⟩)
abbrev own_rmS433_Q (Z : State) (x a : Addr) (ka : ClassId) (c0 c1 c2 : Int32) (cz : Int32) (G : Value) (n0 : Nat) (h0 : Heap) : Option Value → Heap → List Loc → Prop := fun v h L => v = none ∧ Fr n0 L ∧ Keep h0 h [x] ∧ Exa Z h x "java/lang/String" ∧ Fld Z h x "java/lang/String" "coder" "B" (.int 0) ∧ ∃ t kb, Fld Z h x "java/lang/String" "value" "[B" (.ref t) ∧ Arv Z h t kb .byte 3 [(.int (lo8 c0)), (.int (lo8 c1)), (.int (lo8 c2))] (.int 0)
theorem own_rmS433 (l : Launch) (Z : State) (a0 : Array Value) (hw : ∀ d ∈ tables_1, d.before a0 Z = true) (x a : Addr) (ka : ClassId) (c0 c1 c2 : Int32) (cz : Int32) (G : Value) (n0 : Nat) (h0 : Heap) (Z0 : n0 ≤ h0.size) (OZ : Old Z n0 h0) (SB : own_SB Z Z.heap cz) (hz : ¬ cz = (0 : Int32)) (SA : own_SA Z Z.heap) (SH : own_SH Z Z.heap) (SL : own_SL Z Z.heap) (SG : own_SG Z Z.heap G) (hG : G.isRef = true) (gx : n0 ≤ x) (hne : a ≠ x) (EX : Exa Z h0 x "java/lang/String") (FV : Fld Z h0 x "java/lang/String" "value" "[B" .null) (FC : Fld Z h0 x "java/lang/String" "coder" "B" (.int 0)) (VA : Arv Z h0 a ka .char 3 [(.int c0), (.int c1), (.int c2)] (.int 0)) (r0 : own_C c0) (r1 : own_C c1) (r2 : own_C c2) (gq0 : ¬ (255 : Int32) < c0) (gq1 : ¬ (255 : Int32) < c1) (gq2 : ¬ (255 : Int32) < c2) :
    MetAt l Z y_23 jdk_42_method_149_code 6 none ({ frames := 4, cells := 2, slots := 9, locals := 57 } : Room) #[(.ref x), (.ref a), (.int 0), (.int 3), .null] h0 ((own_rmS433_Q Z x a ka c0 c1 c2 cz G n0 h0)) := by
  refine goBodyM (plainFor_of_name (by first | (simp [plainName, overriddenIn]; done) | decide +kernel)) ?_
  intro p e s m below meth c T0 hx hZ hby hml hown hnm hret hlk X0 e0
  have hown : s.vm.findClass "java/lang/String" = some m.cls := hown
  refine Go.cast (g' := mkF m 0 #[.val (.ref x), .val (.ref a), .val (.int 0), .val (.int 3), .val .null, .unset] []) (by first | (simp [entryFrame, mkF, argsToLocals, Value.category]; done) | rfl) ?_
  show Go p e below _ T0 (mkF m 0 _ [])
  refine Go.aloadN X0 hx hby k23_0 rfl rfl ?_
  refine Go.initObj X0 hx hZ hown (own_t hw 19 rfl) (own_t hw 20 rfl) (own_t hw 21 rfl) e0 (by rw [hml]; rfl) (hb hby k23_1) (by decide) (W := 0) (Nat.le_of_eq rfl) (by decide) fun T1 X1 e1 => ?_
  show Go p e below _ T1 (mkF m 4 _ [])
  refine Go.iloadN X1 hx hby k23_4 rfl ?_
  refine Go.ifYes 27 X1 hx hby k23_5 ((if0 _ _).trans (feq (by decide : ¬ ((3 : Int32) = (0 : Int32)))).2) (by decide) (by decide) ?_
  refine Go.gets X1 hx hZ hown (own_t hw 22 rfl) Via.refl e1 (SB.ext OZ.2) (hb hby k23_27) fun T2 X2 e2 => ?_
  refine Go.ifNo X2 hx hby k23_30 ((if0 _ _).trans (feq hz).1) ?_
  refine Go.aloadN X2 hx hby k23_33 rfl rfl ?_
  refine Go.iloadN X2 hx hby k23_34 rfl ?_
  refine Go.iloadN X2 hx hby k23_35 rfl ?_
  refine Go.callS (W := 0) (y := y_22) (argsL := [(.ref a), (.int 0), (.int 3)]) (rest := []) X2 hx hZ hown (own_t hw 23 rfl) (own_t hw 24 rfl) (own_t hw 25 rfl) (own_t hw 26 rfl) (by decide) (own_rmC333 l Z a0 hw a ka c0 c1 c2 cz G n0 h0 Z0 OZ SB hz SA SH SL SG hG VA r0 r1 r2 gq0 gq1 gq2) e2 (by rw [hml]; rfl) (lenOf own_dsc13 rfl) (hb hby k23_36) rfl (Nat.le_of_eq rfl) (by decide) (by decide) (by decide) (by decide) fun _ T3 L3 X3 q3 => ?_
  obtain ⟨b3, k3, rfl, N3q, K3, g3, V3⟩ := q3
  have N3 := Fr.app (Fr.nil n0) N3q
  have sz3 := Nat.le_trans Z0 K3.1
  have kp3 := (Keep.refl h0 [x]).trans K3 all0
  have ne_b3 : b3 ≠ x := Nat.ne_of_gt (Nat.lt_of_lt_of_le EX.lt g3)
  show Go p e below _ T3 (mkF m 39 _ [(.ref b3)])
  refine Go.astore X3 hx hby k23_39 rfl (l' := #[.val (.ref x), .val (.ref a), .val (.int 0), .val (.int 3), .val .null, .val (.ref b3)]) rfl ?_
  refine Go.aloadN X3 hx hby k23_41 rfl rfl ?_
  refine Go.aload X3 hx hby k23_42 rfl rfl ?_
  refine Go.iloadN X3 hx hby k23_44 rfl ?_
  refine Go.callSP (W := 1) (y := y_20) (argsL := [(.ref b3), (.int 3)]) (rest := [(.ref x)]) (r := some (.int 0)) X3 hx hZ hown (own_t hw 31 rfl) (own_t hw 32 rfl) (own_t hw 25 rfl) (own_t hw 33 rfl) (by decide) (own_rmCd03 l Z a0 hw b3 k3 c0 c1 c2 T3.heap V3) rfl (by rw [hml]; rfl) (lenOf own_dsc14 rfl) (hb hby k23_45) rfl (Nat.le_of_eq rfl) (by decide) (by decide) (by decide) (by decide) fun T4 X4 e4 => ?_
  show Go p e below _ T4 (mkF m 48 _ [(.int 0), (.ref x)])
  refine Go.putf X4 hx hZ hown (own_t hw 34 rfl) Via.refl e4 (FC.keep K3 nin0) (EX.keep K3) (Or.inr ⟨(own_t hw 35 rfl), rfl, hnm⟩) (own_t hw 9 rfl) (ty := .byte) (by decide) rfl (fits_nar_byte _) (hb hby k23_48) fun T5 h5 X5 e5 W5 F5 A5 => ?_
  have sz5 := Nat.le_trans sz3 (Keep.of_wr W5).1
  have kp5 := kp3.wr W5 own_i0
  have N5 := Fr.snoc X5 N3 gx
  refine Go.aloadN X5 hx hby k23_51 rfl rfl ?_
  refine Go.aload X5 hx hby k23_52 rfl rfl ?_
  refine Go.putf X5 hx hZ hown (own_t hw 36 rfl) Via.refl e5 ((FV.keep K3 nin0).other W5 (Or.inr (slot_ne (Or.inr (own_t hw 37 rfl)) (Or.inr (own_t hw 35 rfl)) (by decide) (t := (.array .byte)) (t' := .byte) (by decide) (by decide)))) A5 (Or.inr ⟨(own_t hw 37 rfl), rfl, hnm⟩) (own_t hw 9 rfl) (ty := (.array .byte)) (by decide) rfl rfl (hb hby k23_54) fun T6 h6 X6 e6 W6 F6 A6 => ?_
  have sz6 := Nat.le_trans sz5 (Keep.of_wr W6).1
  have kp6 := kp5.wr W6 own_i0
  have N6 := Fr.snoc X6 N5 gx
  exact Go.retV X6 hx hlk hret (hb hby k23_57) (by decide) (by decide) (by rw [e6]; exact ⟨rfl, N6, kp6, A6, (F5.other W6 (Or.inr (slot_ne (Or.inr (own_t hw 35 rfl)) (Or.inr (own_t hw 37 rfl)) (by decide) (t := .byte) (t' := (.array .byte)) (by decide) (by decide)))), b3, k3, F6, ((V3.other W5 ne_b3).other W6 ne_b3)⟩)
abbrev own_rmS133_Q (Z : State) (x a : Addr) (ka : ClassId) (c0 c1 c2 : Int32) (cz : Int32) (G : Value) (n0 : Nat) (h0 : Heap) : Option Value → Heap → List Loc → Prop := fun v h L => v = none ∧ Fr n0 L ∧ Keep h0 h [x] ∧ Exa Z h x "java/lang/String" ∧ Fld Z h x "java/lang/String" "coder" "B" (.int 0) ∧ ∃ t kb, Fld Z h x "java/lang/String" "value" "[B" (.ref t) ∧ Arv Z h t kb .byte 3 [(.int (lo8 c0)), (.int (lo8 c1)), (.int (lo8 c2))] (.int 0)
theorem own_rmS133 (l : Launch) (Z : State) (a0 : Array Value) (hw : ∀ d ∈ tables_1, d.before a0 Z = true) (x a : Addr) (ka : ClassId) (c0 c1 c2 : Int32) (cz : Int32) (G : Value) (n0 : Nat) (h0 : Heap) (Z0 : n0 ≤ h0.size) (OZ : Old Z n0 h0) (SB : own_SB Z Z.heap cz) (hz : ¬ cz = (0 : Int32)) (SA : own_SA Z Z.heap) (SH : own_SH Z Z.heap) (SL : own_SL Z Z.heap) (SG : own_SG Z Z.heap G) (hG : G.isRef = true) (gx : n0 ≤ x) (hne : a ≠ x) (EX : Exa Z h0 x "java/lang/String") (FV : Fld Z h0 x "java/lang/String" "value" "[B" .null) (FC : Fld Z h0 x "java/lang/String" "coder" "B" (.int 0)) (VA : Arv Z h0 a ka .char 3 [(.int c0), (.int c1), (.int c2)] (.int 0)) (r0 : own_C c0) (r1 : own_C c1) (r2 : own_C c2) (gq0 : ¬ (255 : Int32) < c0) (gq1 : ¬ (255 : Int32) < c1) (gq2 : ¬ (255 : Int32) < c2) :
    MetAt l Z y_24 jdk_42_method_3_code 2 none ({ frames := 5, cells := 2, slots := 9, locals := 74 } : Room) #[(.ref x), (.ref a)] h0 ((own_rmS133_Q Z x a ka c0 c1 c2 cz G n0 h0)) := by
  refine goBodyM (plainFor_of_name (by first | (simp [plainName, overriddenIn]; done) | decide +kernel)) ?_
  intro p e s m below meth c T0 hx hZ hby hml hown hnm hret hlk X0 e0
  have hown : s.vm.findClass "java/lang/String" = some m.cls := hown
  refine Go.cast (g' := mkF m 0 #[.val (.ref x), .val (.ref a)] []) (by first | (simp [entryFrame, mkF, argsToLocals, Value.category]; done) | rfl) ?_
  show Go p e below _ T0 (mkF m 0 _ [])
  refine Go.aloadN X0 hx hby k24_0 rfl rfl ?_
  refine Go.aloadN X0 hx hby k24_1 rfl rfl ?_
  refine Go.iconst 0 X0 hx hby k24_2 rfl ?_
  refine Go.aloadN X0 hx hby k24_3 rfl rfl ?_
  refine Go.len X0 hx hZ e0 VA (hb hby k24_4) ?_
  refine Go.aconstNull X0 hx hby k24_5 ?_
  refine Go.callI (W := 0) (y := y_23) (a := x) (argsL := [(.ref a), (.int 0), (.int 3), .null]) (rest := []) X0 hx hZ rfl hown (own_t hw 15 rfl) (own_t hw 16 rfl) (own_t hw 10 rfl) (own_t hw 18 rfl) (by decide) (own_rmS433 l Z a0 hw x a ka c0 c1 c2 cz G n0 h0 Z0 OZ SB hz SA SH SL SG hG gx hne EX FV FC VA r0 r1 r2 gq0 gq1 gq2) e0 (by rw [hml]; rfl) (lenOf own_dsc15 rfl) (hb hby k24_6) rfl (Nat.le_of_eq rfl) (by decide) (by decide) (by decide) (by decide) fun _ T1 L1 X1 q1 => ?_
  obtain ⟨rfl, N1q, K1, A1, C1, t1, kt1, D1, V1⟩ := q1
  have N1 := Fr.app (Fr.nil n0) N1q
  have sz1 := Nat.le_trans Z0 K1.1
  have kp1 := (Keep.refl h0 [x]).trans K1 (allS own_i0 all0)
  show Go p e below _ T1 (mkF m 9 _ [])
  exact Go.retV X1 hx hlk hret (hb hby k24_9) (by decide) (by decide) ⟨rfl, N1, kp1, A1, C1, t1, kt1, D1, V1⟩
theorem k23_8 : decode jdk_42_method_149_code 8 = .ok (.aload_n 0, 1) := by decide +kernel
theorem k23_9 : decode jdk_42_method_149_code 9 = .ok (.ldc 7, 2) := by decide +kernel
theorem k23_11 : decode jdk_42_method_149_code 11 = .ok (.getfield 9, 3) := by decide +kernel
theorem k23_14 : decode jdk_42_method_149_code 14 = .ok (.putfield 9, 3) := by decide +kernel
theorem k23_17 : decode jdk_42_method_149_code 17 = .ok (.aload_n 0, 1) := by decide +kernel
theorem k23_18 : decode jdk_42_method_149_code 18 = .ok (.ldc 7, 2) := by decide +kernel
theorem k23_20 : decode jdk_42_method_149_code 20 = .ok (.getfield 15, 3) := by decide +kernel
theorem k23_23 : decode jdk_42_method_149_code 23 = .ok (.putfield 15, 3) := by decide +kernel
theorem k23_26 : decode jdk_42_method_149_code 26 = .ok (.return_, 1) := by decide +kernel
abbrev own_rmS40_Q (Z : State) (x b : Addr) (n0 : Nat) (h0 : Heap) : Option Value → Heap → List Loc → Prop := fun v h L => v = none ∧ Fr n0 L ∧ Keep h0 h [x] ∧ Exa Z h x "java/lang/String" ∧ Fld Z h x "java/lang/String" "coder" "B" (.int 0) ∧ ∃ t kb, Fld Z h x "java/lang/String" "value" "[B" (.ref t) ∧ Arv Z h t kb .byte 0 [] (.int 0)
theorem own_rmS40 (l : Launch) (Z : State) (a0 : Array Value) (hw : ∀ d ∈ tables_1, d.before a0 Z = true) (x b : Addr) (n0 : Nat) (h0 : Heap) (Z0 : n0 ≤ h0.size) (gx : n0 ≤ x) (EX : Exa Z h0 x "java/lang/String") (FV : Fld Z h0 x "java/lang/String" "value" "[B" .null) (FC : Fld Z h0 x "java/lang/String" "coder" "B" (.int 0)) :
    MetFree l y_23 (head1 [Jvm.Cond.code y_23 jdk_42_method_149_code 6 none] ({ frames := 1, cells := 4, slots := 8, locals := 12 } : Room)) (fun aa U => aa = #[(.ref x), (.ref b), (.int 0), (.int 0), .null] ∧ Z.Warmed39 U.vm ∧ U.heap = h0 ∧ CHv Z consts_1 U.vm h0 ∧ Safe Z consts_1 U.vm h0 x) (fun _ _ _ _ _ => True) (fun _ U o U' => ∃ v L, o = .returned v ∧ ((own_rmS40_Q Z x b n0 h0)) v U'.heap L ∧ CHr Z consts_1 U.vm U.heap U'.vm U'.heap ∧ ReturnedEndW U o U' L ({ frames := 1, cells := 4, slots := 8, locals := 12 } : Room).cells ({ frames := 1, cells := 4, slots := 8, locals := 12 } : Room).slots) := by
  refine goBodyHS (y := y_23) (Q := (own_rmS40_Q Z x b n0 h0)) (plainFor_of_name (by first | (simp [plainName, overriddenIn]; done) | decide +kernel)) ?_
  intro p e s m below meth c T0 hx hZ hby hml hown hnm hret hlk X0 e0 hS hs0 hC hO
  have hEL := own_EW Z a0 hw
  have wS : ∀ d ∈ Bundle.stringAtoms, d.before a0 Z = true := fun d hd => by
    simp only [Bundle.stringAtoms, List.mem_cons, List.not_mem_nil, or_false] at hd
    rcases hd with rfl | rfl | rfl | rfl | rfl | rfl | rfl
    · exact (own_t hw 10 rfl)
    · exact (own_t hw 9 rfl)
    · exact (own_t hw 27 rfl)
    · exact (own_t hw 37 rfl)
    · exact (own_t hw 35 rfl)
    · exact (own_t hw 39 rfl)
    · exact (own_t hw 40 rfl)
  have hk : 0 ≤ h0.size := Nat.zero_le _
  have hown : s.vm.findClass "java/lang/String" = some m.cls := hown
  refine Go.cast (g' := mkF m 0 #[.val (.ref x), .val (.ref b), .val (.int 0), .val (.int 0), .val .null, .unset] []) (by first | (simp [entryFrame, mkF, argsToLocals, Value.category]; done) | rfl) ?_
  show Go p e below _ T0 (mkF m 0 _ [])
  refine Go.aloadN X0 hx hby k23_0 rfl rfl ?_
  refine Go.initObj X0 hx hZ hown (own_t hw 19 rfl) (own_t hw 20 rfl) (own_t hw 21 rfl) e0 (by rw [hml]; rfl) (hb hby k23_1) (by decide) (W := 0) (Nat.le_of_eq rfl) (by decide) fun T1 X1 e1 => ?_
  show Go p e below _ T1 (mkF m 4 _ [])
  refine Go.iloadN X1 hx hby k23_4 rfl ?_
  refine Go.ifNo X1 hx hby k23_5 ((if0 _ _).trans (teq (by decide : (0 : Int32) = (0 : Int32))).2) ?_
  refine Go.aloadN X1 hx hby k23_8 rfl rfl ?_
  refine Go.ldcH X1 hx hZ hown (own_t hw 38 rfl) wS e1 hS hk hEL (List.mem_of_getElem? (i := 0) rfl) hC (z := 0) (vs := []) own_txt0 (by decide) rfl (hb hby k23_9) 0 (by decide) (by decide) (by decide) (by decide) fun b2 T2 h2 k2 c2 kc2 X2 e2 E2 hS hk2 hZ hown A2 C2 D2 V2 hC M2 => ?_
  have sz2 := Nat.le_trans Z0 E2.1
  have kp2 := (Keep.refl h0 [x]).ext E2
  have sf2_x := hC.safe EX.lt hO
  show Go p e below _ T2 (mkF m 11 _ [(.ref b2), (.ref x)])
  refine Go.getf X2 hx hZ hown (own_t hw 36 rfl) Via.refl e2 D2 (hb hby k23_11) fun T3 X3 e3 => ?_
  refine Go.putf X3 hx hZ hown (own_t hw 36 rfl) Via.refl e3 (FV.ext E2) (EX.ext E2) (Or.inr ⟨(own_t hw 37 rfl), rfl, hnm⟩) (own_t hw 9 rfl) (ty := (.array .byte)) (by decide) rfl rfl (hb hby k23_14) fun T4 h4 X4 e4 W4 F4 A4 => ?_
  have sf4_x := Safe.wr W4 sf2_x hC.1 sf2_x
  have hC := hC.trans (CHr.wr W4 sf2_x hC.1)
  have sz4 := Nat.le_trans sz2 (Keep.of_wr W4).1
  have hk4 : k2 ≤ h4.size := Nat.le_trans hk2 (Keep.of_wr W4).1
  have kp4 := kp2.wr W4 own_i0
  have N4 := Fr.snoc X4 (Fr.nil n0) gx
  refine Go.aloadN X4 hx hby k23_17 rfl rfl ?_
  refine Go.ldcH X4 hx hZ hown (own_t hw 38 rfl) wS e4 hS hk4 hEL (List.mem_of_getElem? (i := 0) rfl) hC (z := 0) (vs := []) own_txt0 (by decide) rfl (hb hby k23_18) 0 (by decide) (by decide) (by decide) (by decide) fun b5 T5 h5 k5 c5 kc5 X5 e5 E5 hS hk5 hZ hown A5 C5 D5 V5 hC M5 => ?_
  have sz5 := Nat.le_trans sz4 E5.1
  have kp5 := kp4.ext E5
  have sf5_x := hC.safe EX.lt hO
  show Go p e below _ T5 (mkF m 20 _ [(.ref b5), (.ref x)])
  refine Go.getf X5 hx hZ hown (own_t hw 34 rfl) Via.refl e5 C5 (hb hby k23_20) fun T6 X6 e6 => ?_
  refine Go.putf X6 hx hZ hown (own_t hw 34 rfl) Via.refl e6 (((FC.ext E2).other W4 (Or.inr (slot_ne (Or.inr (own_t hw 35 rfl)) (Or.inr (own_t hw 37 rfl)) (by decide) (t := .byte) (t' := (.array .byte)) (by decide) (by decide)))).ext E5) (A4.ext E5) (Or.inr ⟨(own_t hw 35 rfl), rfl, hnm⟩) (own_t hw 9 rfl) (ty := .byte) (by decide) rfl (fits_nar_byte _) (hb hby k23_23) fun T7 h7 X7 e7 W7 F7 A7 => ?_
  have sf7_x := Safe.wr W7 sf5_x hC.1 sf5_x
  have hC := hC.trans (CHr.wr W7 sf5_x hC.1)
  have sz7 := Nat.le_trans sz5 (Keep.of_wr W7).1
  have hk7 : k5 ≤ h7.size := Nat.le_trans hk5 (Keep.of_wr W7).1
  have kp7 := kp5.wr W7 own_i0
  have N7 := Fr.snoc X7 N4 gx
  exact Go.retVH X7 hx hZ hEL hs0 e7 hC hS (by rw [e7]; exact hk7) hlk hret (hb hby k23_26) (by decide) (by decide) (by rw [e7]; exact ⟨rfl, N7, kp7, A7, F7, c2, kc2, ((F4.ext E5).other W7 (Or.inr (slot_ne (Or.inr (own_t hw 37 rfl)) (Or.inr (own_t hw 35 rfl)) (by decide) (t := (.array .byte)) (t' := .byte) (by decide) (by decide)))), (((V2.other W4 (Ne.symm (M2 _ sf2_x).2)).ext E5).other W7 (Ne.symm (M2 _ sf2_x).2))⟩)
abbrev own_rmS10_Q (Z : State) (x b : Addr) (kb : ClassId) (n0 : Nat) (h0 : Heap) : Option Value → Heap → List Loc → Prop := fun v h L => v = none ∧ Fr n0 L ∧ Keep h0 h [x] ∧ Exa Z h x "java/lang/String" ∧ Fld Z h x "java/lang/String" "coder" "B" (.int 0) ∧ ∃ t kb, Fld Z h x "java/lang/String" "value" "[B" (.ref t) ∧ Arv Z h t kb .byte 0 [] (.int 0)
theorem own_rmS10 (l : Launch) (Z : State) (a0 : Array Value) (hw : ∀ d ∈ tables_1, d.before a0 Z = true) (x b : Addr) (kb : ClassId) (n0 : Nat) (h0 : Heap) (Z0 : n0 ≤ h0.size) (gx : n0 ≤ x) (EX : Exa Z h0 x "java/lang/String") (FV : Fld Z h0 x "java/lang/String" "value" "[B" .null) (FC : Fld Z h0 x "java/lang/String" "coder" "B" (.int 0)) (VB : Arv Z h0 b kb .char 0 [] (.int 0)) :
    MetFree l y_24 (head1 [Jvm.Cond.code y_24 jdk_42_method_3_code 2 none] ({ frames := 2, cells := 4, slots := 8, locals := 29 } : Room)) (fun aa U => aa = #[(.ref x), (.ref b)] ∧ Z.Warmed39 U.vm ∧ U.heap = h0 ∧ CHv Z consts_1 U.vm h0 ∧ Safe Z consts_1 U.vm h0 x) (fun _ _ _ _ _ => True) (fun _ U o U' => ∃ v L, o = .returned v ∧ ((own_rmS10_Q Z x b kb n0 h0)) v U'.heap L ∧ CHr Z consts_1 U.vm U.heap U'.vm U'.heap ∧ ReturnedEndW U o U' L ({ frames := 2, cells := 4, slots := 8, locals := 29 } : Room).cells ({ frames := 2, cells := 4, slots := 8, locals := 29 } : Room).slots) := by
  refine goBodyHS (y := y_24) (Q := (own_rmS10_Q Z x b kb n0 h0)) (plainFor_of_name (by first | (simp [plainName, overriddenIn]; done) | decide +kernel)) ?_
  intro p e s m below meth c T0 hx hZ hby hml hown hnm hret hlk X0 e0 hS hs0 hC hO
  have hEL := own_EW Z a0 hw
  have wS : ∀ d ∈ Bundle.stringAtoms, d.before a0 Z = true := fun d hd => by
    simp only [Bundle.stringAtoms, List.mem_cons, List.not_mem_nil, or_false] at hd
    rcases hd with rfl | rfl | rfl | rfl | rfl | rfl | rfl
    · exact (own_t hw 10 rfl)
    · exact (own_t hw 9 rfl)
    · exact (own_t hw 27 rfl)
    · exact (own_t hw 37 rfl)
    · exact (own_t hw 35 rfl)
    · exact (own_t hw 39 rfl)
    · exact (own_t hw 40 rfl)
  have hk : 0 ≤ h0.size := Nat.zero_le _
  have hown : s.vm.findClass "java/lang/String" = some m.cls := hown
  refine Go.cast (g' := mkF m 0 #[.val (.ref x), .val (.ref b)] []) (by first | (simp [entryFrame, mkF, argsToLocals, Value.category]; done) | rfl) ?_
  show Go p e below _ T0 (mkF m 0 _ [])
  refine Go.aloadN X0 hx hby k24_0 rfl rfl ?_
  refine Go.aloadN X0 hx hby k24_1 rfl rfl ?_
  refine Go.iconst 0 X0 hx hby k24_2 rfl ?_
  refine Go.aloadN X0 hx hby k24_3 rfl rfl ?_
  refine Go.len X0 hx hZ e0 VB (hb hby k24_4) ?_
  refine Go.aconstNull X0 hx hby k24_5 ?_
  refine Go.callIHS (W := 0) (y := y_23) (a := x) (argsL := [(.ref b), (.int 0), (.int 0), .null]) (rest := []) X0 hx hZ rfl hown (own_t hw 15 rfl) (own_t hw 16 rfl) (own_t hw 10 rfl) (own_t hw 18 rfl) (by decide) (own_rmS40 l Z a0 hw x b n0 h0 Z0 gx EX FV FC) e0 hS hk hEL hC EX.lt hO (by rw [hml]; rfl) (lenOf own_dsc15 rfl) (hb hby k24_6) rfl (by decide) (by decide) (by decide) (by decide) (by decide) fun _ T1 L1 X1 hS hZ hown hC q1 => ?_
  obtain ⟨rfl, N1q, K1, A1, C1, t1, kt1, D1, V1⟩ := q1
  show Go p e below _ T1 (mkF m 9 _ [])
  exact Go.retVH X1 hx hZ hEL hs0 rfl hC hS (Nat.le_refl _) hlk hret (hb hby k24_9) (by decide) (by decide) ⟨rfl, Fr.app (Fr.nil _) N1q, K1, A1, C1, t1, kt1, D1, V1⟩
theorem k25_0 : decode method_4_code 0 = .ok (.iload_n 3, 1) := by decide +kernel
theorem k25_1 : decode method_4_code 1 = .ok (.ifCond .ne 14, 3) := by decide +kernel
theorem k25_4 : decode method_4_code 4 = .ok (.new 37, 3) := by decide +kernel
theorem k25_7 : decode method_4_code 7 = .ok (.dup, 1) := by decide +kernel
theorem k25_8 : decode method_4_code 8 = .ok (.iconst 0, 1) := by decide +kernel
theorem k25_9 : decode method_4_code 9 = .ok (.newarray .char, 2) := by decide +kernel
theorem k25_11 : decode method_4_code 11 = .ok (.invokespecial 39, 3) := by decide +kernel
theorem k25_14 : decode method_4_code 14 = .ok (.areturn, 1) := by decide +kernel
abbrev own_rmMk0_Q (Z : State) (c0 c1 c2 : Int32) (cz : Int32) (G : Value) (n0 : Nat) (h0 : Heap) : Option Value → Heap → List Loc → Prop := fun v h L => ∃ b, v = some (.ref b) ∧ Fr n0 L ∧ Keep h0 h [] ∧ own_Str Z h b c0 c1 c2 0
theorem own_rmMk0 (l : Launch) (Z : State) (a0 : Array Value) (hw : ∀ d ∈ tables_1, d.before a0 Z = true) (c0 c1 c2 : Int32) (cz : Int32) (G : Value) (n0 : Nat) (h0 : Heap) (Z0 : n0 ≤ h0.size) (OZ : Old Z n0 h0) (SB : own_SB Z Z.heap cz) (hz : ¬ cz = (0 : Int32)) (SA : own_SA Z Z.heap) (SH : own_SH Z Z.heap) (SL : own_SL Z Z.heap) (SG : own_SG Z Z.heap G) (hG : G.isRef = true) (r0 : own_C c0) (r1 : own_C c1) (r2 : own_C c2) :
    MetAtH l Z consts_1 y_25 method_4_code 4 (some (.object "java/lang/String")) ({ frames := 6, cells := 6, slots := 16, locals := 88 } : Room) #[(.int c0), (.int c1), (.int c2), (.int 0)] h0 ((own_rmMk0_Q Z c0 c1 c2 cz G n0 h0)) := by
  refine goBodyH (y := y_25) (Q := (own_rmMk0_Q Z c0 c1 c2 cz G n0 h0)) (plainFor_of_name (by first | (simp [plainName, overriddenIn]; done) | decide +kernel)) ?_
  intro p e s m below meth c T0 hx hZ hby hml hown hnm hret hlk X0 e0 hS hs0 hC
  have hEL := own_EW Z a0 hw
  have wS : ∀ d ∈ Bundle.stringAtoms, d.before a0 Z = true := fun d hd => by
    simp only [Bundle.stringAtoms, List.mem_cons, List.not_mem_nil, or_false] at hd
    rcases hd with rfl | rfl | rfl | rfl | rfl | rfl | rfl
    · exact (own_t hw 10 rfl)
    · exact (own_t hw 9 rfl)
    · exact (own_t hw 27 rfl)
    · exact (own_t hw 37 rfl)
    · exact (own_t hw 35 rfl)
    · exact (own_t hw 39 rfl)
    · exact (own_t hw 40 rfl)
  have hk : 0 ≤ h0.size := Nat.zero_le _
  have hown : s.vm.findClass "com/example/keen_guess/keenguess/text/CodePointOrderComparePinLaw" = some m.cls := hown
  refine Go.cast (g' := mkF m 0 #[.val (.int c0), .val (.int c1), .val (.int c2), .val (.int 0)] []) (by first | (simp [entryFrame, mkF, argsToLocals, Value.category]; done) | rfl) ?_
  show Go p e below _ T0 (mkF m 0 _ [])
  refine Go.iloadN X0 hx hby k25_0 rfl ?_
  refine Go.ifNo X0 hx hby k25_1 ((if0 _ _).trans (teq (by decide : (0 : Int32) = (0 : Int32))).2) ?_
  refine Go.new X0 hx hZ hown (own_t hw 8 rfl) (own_t hw 9 rfl) (own_t hw 10 rfl) e0 (hb hby k25_4) (by decide) (by decide) fun T1 h1 b1 g1 X1 e1 E1 A1 D1 => ?_
  have ge_b1 : n0 ≤ b1 := g1 ▸ Z0
  have hs_b1 : h0.size ≤ b1 := g1 ▸ (Keep.refl h0 []).1
  have sf_b1 := Safe.ext E1 hC.1 (Safe.new (Nat.le_of_eq g1.symm))
  have hC := hC.trans (CHr.ext E1 hC.1)
  have sz1 := Nat.le_trans Z0 E1.1
  have hk1 : 0 ≤ h1.size := Nat.le_trans hk E1.1
  have kp1 := (Keep.refl h0 []).ext E1
  have F1_coder : Fld Z h1 b1 "java/lang/String" "coder" "B" (.int 0) := D1 (Or.inr (own_t hw 35 rfl)) (ty := .byte) (by decide)
  have F1_value : Fld Z h1 b1 "java/lang/String" "value" "[B" .null := D1 (Or.inr (own_t hw 37 rfl)) (ty := (.array .byte)) (by decide)
  refine Go.dup X1 hx hby k25_7 rfl ?_
  refine Go.iconst 0 X1 hx hby k25_8 rfl ?_
  refine Go.newarr X1 hx hZ (own_t hw 11 rfl) e1 0 (by decide) (by decide) (by decide) (by decide) (by decide) (hb hby k25_9) fun T2 h2 b2 k2 g2 X2 e2 E2 V2 => ?_
  have lt_b1_b2 : b1 < b2 := Nat.lt_of_lt_of_le A1.lt (Nat.le_of_eq g2.symm)
  have ge_b2 : n0 ≤ b2 := g2 ▸ sz1
  have hs_b2 : h0.size ≤ b2 := g2 ▸ kp1.1
  have sf2_b1 := Safe.ext E2 hC.1 sf_b1
  have hC := hC.trans (CHr.ext E2 hC.1)
  have sz2 := Nat.le_trans sz1 E2.1
  have hk2 : 0 ≤ h2.size := Nat.le_trans hk1 E2.1
  have kp2 := kp1.ext E2
  have V2 : Arv Z h2 b2 k2 .char (0 : Int32) [] (.int 0) := V2
  refine Go.callIHS (W := 1) (y := y_24) (a := b1) (argsL := [.ref b2]) (rest := [(.ref b1)]) X2 hx hZ rfl hown (own_t hw 12 rfl) (own_t hw 13 rfl) (own_t hw 10 rfl) (own_t hw 14 rfl) (by decide) (own_rmS10 l Z a0 hw b1 b2 k2 n0 h2 sz2 ge_b1 (A1.ext E2) (F1_value.ext E2) (F1_coder.ext E2) V2) e2 hS hk2 hEL hC (A1.ext E2).lt sf2_b1 (by rw [hml]; rfl) (lenOf own_dsc16 rfl) (hb hby k25_11) rfl (Nat.le_of_eq rfl) (by decide) (by decide) (by decide) (by decide) fun _ T3 L3 X3 hS hZ hown hC q3 => ?_
  obtain ⟨rfl, N3q, K3, A3, C3, t3, kt3, D3, V3⟩ := q3
  have N3 := Fr.app (Fr.nil n0) N3q
  have sz3 := Nat.le_trans sz2 K3.1
  have kp3 := kp2.trans K3 (allS (Or.inr hs_b1) all0)
  show Go p e below _ T3 (mkF m 14 _ [(.ref b1)])
  exact Go.retAH X3 hx hZ hEL hs0 rfl hC hS (Nat.le_refl _) hlk hret rfl rfl rfl (hb hby k25_14) (by decide) (by decide) ⟨b1, rfl, N3, kp3, A3, t3, kt3, D3, Or.inl ⟨C3, trivial, V3⟩⟩
theorem k25_15 : decode method_4_code 15 = .ok (.iload_n 3, 1) := by decide +kernel
theorem k25_16 : decode method_4_code 16 = .ok (.iconst 1, 1) := by decide +kernel
theorem k25_17 : decode method_4_code 17 = .ok (.if_icmp .ne 18, 3) := by decide +kernel
theorem k25_20 : decode method_4_code 20 = .ok (.new 37, 3) := by decide +kernel
theorem k25_23 : decode method_4_code 23 = .ok (.dup, 1) := by decide +kernel
theorem k25_24 : decode method_4_code 24 = .ok (.iconst 1, 1) := by decide +kernel
theorem k25_25 : decode method_4_code 25 = .ok (.newarray .char, 2) := by decide +kernel
theorem k25_27 : decode method_4_code 27 = .ok (.dup, 1) := by decide +kernel
theorem k25_28 : decode method_4_code 28 = .ok (.iconst 0, 1) := by decide +kernel
theorem k25_29 : decode method_4_code 29 = .ok (.iload_n 0, 1) := by decide +kernel
theorem k25_30 : decode method_4_code 30 = .ok (.castore, 1) := by decide +kernel
theorem k25_31 : decode method_4_code 31 = .ok (.invokespecial 39, 3) := by decide +kernel
theorem k25_34 : decode method_4_code 34 = .ok (.areturn, 1) := by decide +kernel
abbrev own_rmMk1_Q (Z : State) (c0 c1 c2 : Int32) (cz : Int32) (G : Value) (n0 : Nat) (h0 : Heap) : Option Value → Heap → List Loc → Prop := fun v h L => ∃ b, v = some (.ref b) ∧ Fr n0 L ∧ Keep h0 h [] ∧ own_Str Z h b c0 c1 c2 1
theorem own_rmMk1 (l : Launch) (Z : State) (a0 : Array Value) (hw : ∀ d ∈ tables_1, d.before a0 Z = true) (c0 c1 c2 : Int32) (cz : Int32) (G : Value) (n0 : Nat) (h0 : Heap) (Z0 : n0 ≤ h0.size) (OZ : Old Z n0 h0) (SB : own_SB Z Z.heap cz) (hz : ¬ cz = (0 : Int32)) (SA : own_SA Z Z.heap) (SH : own_SH Z Z.heap) (SL : own_SL Z Z.heap) (SG : own_SG Z Z.heap G) (hG : G.isRef = true) (r0 : own_C c0) (r1 : own_C c1) (r2 : own_C c2) :
    MetAtH l Z consts_1 y_25 method_4_code 4 (some (.object "java/lang/String")) ({ frames := 6, cells := 6, slots := 16, locals := 88 } : Room) #[(.int c0), (.int c1), (.int c2), (.int 1)] h0 ((own_rmMk1_Q Z c0 c1 c2 cz G n0 h0)) := by
  refine goBodyH (y := y_25) (Q := (own_rmMk1_Q Z c0 c1 c2 cz G n0 h0)) (plainFor_of_name (by first | (simp [plainName, overriddenIn]; done) | decide +kernel)) ?_
  intro p e s m below meth c T0 hx hZ hby hml hown hnm hret hlk X0 e0 hS hs0 hC
  have hEL := own_EW Z a0 hw
  have wS : ∀ d ∈ Bundle.stringAtoms, d.before a0 Z = true := fun d hd => by
    simp only [Bundle.stringAtoms, List.mem_cons, List.not_mem_nil, or_false] at hd
    rcases hd with rfl | rfl | rfl | rfl | rfl | rfl | rfl
    · exact (own_t hw 10 rfl)
    · exact (own_t hw 9 rfl)
    · exact (own_t hw 27 rfl)
    · exact (own_t hw 37 rfl)
    · exact (own_t hw 35 rfl)
    · exact (own_t hw 39 rfl)
    · exact (own_t hw 40 rfl)
  have hk : 0 ≤ h0.size := Nat.zero_le _
  have hown : s.vm.findClass "com/example/keen_guess/keenguess/text/CodePointOrderComparePinLaw" = some m.cls := hown
  refine Go.cast (g' := mkF m 0 #[.val (.int c0), .val (.int c1), .val (.int c2), .val (.int 1)] []) (by first | (simp [entryFrame, mkF, argsToLocals, Value.category]; done) | rfl) ?_
  show Go p e below _ T0 (mkF m 0 _ [])
  refine Go.iloadN X0 hx hby k25_0 rfl ?_
  refine Go.ifYes 15 X0 hx hby k25_1 ((if0 _ _).trans (feq (by decide : ¬ ((1 : Int32) = (0 : Int32)))).2) (by decide) (by decide) ?_
  refine Go.iloadN X0 hx hby k25_15 rfl ?_
  refine Go.iconst 1 X0 hx hby k25_16 rfl ?_
  refine Go.icmpNo X0 hx hby k25_17 (teq (by decide : (1 : Int32) = (1 : Int32))).2 ?_
  refine Go.new X0 hx hZ hown (own_t hw 8 rfl) (own_t hw 9 rfl) (own_t hw 10 rfl) e0 (hb hby k25_20) (by decide) (by decide) fun T1 h1 b1 g1 X1 e1 E1 A1 D1 => ?_
  have ge_b1 : n0 ≤ b1 := g1 ▸ Z0
  have hs_b1 : h0.size ≤ b1 := g1 ▸ (Keep.refl h0 []).1
  have sf_b1 := Safe.ext E1 hC.1 (Safe.new (Nat.le_of_eq g1.symm))
  have hC := hC.trans (CHr.ext E1 hC.1)
  have sz1 := Nat.le_trans Z0 E1.1
  have hk1 : 0 ≤ h1.size := Nat.le_trans hk E1.1
  have kp1 := (Keep.refl h0 []).ext E1
  have F1_coder : Fld Z h1 b1 "java/lang/String" "coder" "B" (.int 0) := D1 (Or.inr (own_t hw 35 rfl)) (ty := .byte) (by decide)
  have F1_value : Fld Z h1 b1 "java/lang/String" "value" "[B" .null := D1 (Or.inr (own_t hw 37 rfl)) (ty := (.array .byte)) (by decide)
  refine Go.dup X1 hx hby k25_23 rfl ?_
  refine Go.iconst 1 X1 hx hby k25_24 rfl ?_
  refine Go.newarr X1 hx hZ (own_t hw 11 rfl) e1 1 (by decide) (by decide) (by decide) (by decide) (by decide) (hb hby k25_25) fun T2 h2 b2 k2 g2 X2 e2 E2 V2 => ?_
  have lt_b1_b2 : b1 < b2 := Nat.lt_of_lt_of_le A1.lt (Nat.le_of_eq g2.symm)
  have ge_b2 : n0 ≤ b2 := g2 ▸ sz1
  have hs_b2 : h0.size ≤ b2 := g2 ▸ kp1.1
  have sf2_b1 := Safe.ext E2 hC.1 sf_b1
  have hC := hC.trans (CHr.ext E2 hC.1)
  have sz2 := Nat.le_trans sz1 E2.1
  have hk2 : 0 ≤ h2.size := Nat.le_trans hk1 E2.1
  have kp2 := kp1.ext E2
  have V2 : Arv Z h2 b2 k2 .char (1 : Int32) [(.int 0)] (.int 0) := V2
  refine Go.dup X2 hx hby k25_27 rfl ?_
  refine Go.iconst 0 X2 hx hby k25_28 rfl ?_
  refine Go.iloadN X2 hx hby k25_29 rfl ?_
  refine Go.castore X2 hx hZ e2 V2 ⟨by decide, by decide⟩ 0 rfl (Nat.le_of_ble_eq_true rfl) (hb hby k25_30) fun T3 h3 X3 e3 W3 V3 => ?_
  have sf3_b1 := Safe.wr W3 (Safe.arv hZ.alike V2 (by decide)) hC.1 sf2_b1
  have hC := hC.trans (CHr.wr W3 (Safe.arv hZ.alike V2 (by decide)) hC.1)
  have sz3 := Nat.le_trans sz2 (Keep.of_wr W3).1
  have hk3 : 0 ≤ h3.size := Nat.le_trans hk2 (Keep.of_wr W3).1
  have kp3 := kp2.wr W3 (Or.inr hs_b2)
  have N3 := Fr.snoc X3 (Fr.nil n0) ge_b2
  have V3 : Arv Z h3 b2 k2 .char (1 : Int32) [(.int (nar .char c0))] (.int 0) := V3
  have VQ4 : Arv Z h3 b2 k2 .char 1 [(.int c0)] (.int 0) := by have q := V3; rw [own_nc r0] at q; exact q
  by_cases gq0 : (255 : Int32) < c0
  ·
    refine Go.callI (W := 1) (y := y_24) (a := b1) (argsL := [(.ref b2)]) (rest := [(.ref b1)]) X3 hx hZ rfl hown (own_t hw 12 rfl) (own_t hw 13 rfl) (own_t hw 10 rfl) (own_t hw 14 rfl) (by decide) (own_rmS110 l Z a0 hw b1 b2 k2 c0 c1 c2 cz G n0 h3 sz3 (((OZ.ext E1).ext E2).wr W3 ge_b2) SB hz SA SH SL SG hG ge_b1 (Nat.ne_of_gt lt_b1_b2) ((A1.ext E2).wr W3) ((F1_value.ext E2).other W3 (Or.inl (Nat.ne_of_lt lt_b1_b2))) ((F1_coder.ext E2).other W3 (Or.inl (Nat.ne_of_lt lt_b1_b2))) VQ4 r0 r1 r2 gq0) e3 (by rw [hml]; rfl) (lenOf own_dsc16 rfl) (hb hby k25_31) rfl (Nat.le_of_eq rfl) (by decide) (by decide) (by decide) (by decide) fun _ T5 L5 X5 q5 => ?_
    obtain ⟨rfl, N5q, K5, A5, C5, t5, kt5, D5, V5⟩ := q5
    have N5 := Fr.app N3 N5q
    have sf5_b1 := Safe.keep K5 (allS sf3_b1 all0) hC.1 sf3_b1
    have hC := hC.trans (CHr.keep K5 (allS sf3_b1 all0) hC.1)
    have sz5 := Nat.le_trans sz3 K5.1
    have hk5 : 0 ≤ T5.heap.size := Nat.le_trans hk3 K5.1
    have kp5 := kp3.trans K5 (allS (Or.inr hs_b1) all0)
    show Go p e below _ T5 (mkF m 34 _ [(.ref b1)])
    exact Go.retAH X5 hx hZ hEL hs0 rfl hC hS hk5 hlk hret rfl rfl rfl (hb hby k25_34) (by decide) (by decide) ⟨b1, rfl, N5, kp5, A5, t5, kt5, D5, Or.inr ⟨by decide, C5, V5⟩⟩
  ·
    refine Go.callI (W := 1) (y := y_24) (a := b1) (argsL := [(.ref b2)]) (rest := [(.ref b1)]) X3 hx hZ rfl hown (own_t hw 12 rfl) (own_t hw 13 rfl) (own_t hw 10 rfl) (own_t hw 14 rfl) (by decide) (own_rmS111 l Z a0 hw b1 b2 k2 c0 c1 c2 cz G n0 h3 sz3 (((OZ.ext E1).ext E2).wr W3 ge_b2) SB hz SA SH SL SG hG ge_b1 (Nat.ne_of_gt lt_b1_b2) ((A1.ext E2).wr W3) ((F1_value.ext E2).other W3 (Or.inl (Nat.ne_of_lt lt_b1_b2))) ((F1_coder.ext E2).other W3 (Or.inl (Nat.ne_of_lt lt_b1_b2))) VQ4 r0 r1 r2 gq0) e3 (by rw [hml]; rfl) (lenOf own_dsc16 rfl) (hb hby k25_31) rfl (Nat.le_of_eq rfl) (by decide) (by decide) (by decide) (by decide) fun _ T6 L6 X6 q6 => ?_
    obtain ⟨rfl, N6q, K6, A6, C6, t6, kt6, D6, V6⟩ := q6
    have N6 := Fr.app N3 N6q
    have sf6_b1 := Safe.keep K6 (allS sf3_b1 all0) hC.1 sf3_b1
    have hC := hC.trans (CHr.keep K6 (allS sf3_b1 all0) hC.1)
    have sz6 := Nat.le_trans sz3 K6.1
    have hk6 : 0 ≤ T6.heap.size := Nat.le_trans hk3 K6.1
    have kp6 := kp3.trans K6 (allS (Or.inr hs_b1) all0)
    show Go p e below _ T6 (mkF m 34 _ [(.ref b1)])
    exact Go.retAH X6 hx hZ hEL hs0 rfl hC hS hk6 hlk hret rfl rfl rfl (hb hby k25_34) (by decide) (by decide) ⟨b1, rfl, N6, kp6, A6, t6, kt6, D6, Or.inl ⟨C6, gq0, V6⟩⟩
theorem k25_35 : decode method_4_code 35 = .ok (.iload_n 3, 1) := by decide +kernel
theorem k25_36 : decode method_4_code 36 = .ok (.iconst 2, 1) := by decide +kernel
theorem k25_37 : decode method_4_code 37 = .ok (.if_icmp .ne 22, 3) := by decide +kernel
theorem k25_40 : decode method_4_code 40 = .ok (.new 37, 3) := by decide +kernel
theorem k25_43 : decode method_4_code 43 = .ok (.dup, 1) := by decide +kernel
theorem k25_44 : decode method_4_code 44 = .ok (.iconst 2, 1) := by decide +kernel
theorem k25_45 : decode method_4_code 45 = .ok (.newarray .char, 2) := by decide +kernel
theorem k25_47 : decode method_4_code 47 = .ok (.dup, 1) := by decide +kernel
theorem k25_48 : decode method_4_code 48 = .ok (.iconst 0, 1) := by decide +kernel
theorem k25_49 : decode method_4_code 49 = .ok (.iload_n 0, 1) := by decide +kernel
theorem k25_50 : decode method_4_code 50 = .ok (.castore, 1) := by decide +kernel
theorem k25_51 : decode method_4_code 51 = .ok (.dup, 1) := by decide +kernel
theorem k25_52 : decode method_4_code 52 = .ok (.iconst 1, 1) := by decide +kernel
theorem k25_53 : decode method_4_code 53 = .ok (.iload_n 1, 1) := by decide +kernel
theorem k25_54 : decode method_4_code 54 = .ok (.castore, 1) := by decide +kernel
theorem k25_55 : decode method_4_code 55 = .ok (.invokespecial 39, 3) := by decide +kernel
theorem k25_58 : decode method_4_code 58 = .ok (.areturn, 1) := by decide +kernel
abbrev own_rmMk2_Q (Z : State) (c0 c1 c2 : Int32) (cz : Int32) (G : Value) (n0 : Nat) (h0 : Heap) : Option Value → Heap → List Loc → Prop := fun v h L => ∃ b, v = some (.ref b) ∧ Fr n0 L ∧ Keep h0 h [] ∧ own_Str Z h b c0 c1 c2 2
theorem own_rmMk2 (l : Launch) (Z : State) (a0 : Array Value) (hw : ∀ d ∈ tables_1, d.before a0 Z = true) (c0 c1 c2 : Int32) (cz : Int32) (G : Value) (n0 : Nat) (h0 : Heap) (Z0 : n0 ≤ h0.size) (OZ : Old Z n0 h0) (SB : own_SB Z Z.heap cz) (hz : ¬ cz = (0 : Int32)) (SA : own_SA Z Z.heap) (SH : own_SH Z Z.heap) (SL : own_SL Z Z.heap) (SG : own_SG Z Z.heap G) (hG : G.isRef = true) (r0 : own_C c0) (r1 : own_C c1) (r2 : own_C c2) :
    MetAtH l Z consts_1 y_25 method_4_code 4 (some (.object "java/lang/String")) ({ frames := 6, cells := 6, slots := 16, locals := 88 } : Room) #[(.int c0), (.int c1), (.int c2), (.int 2)] h0 ((own_rmMk2_Q Z c0 c1 c2 cz G n0 h0)) := by
  refine goBodyH (y := y_25) (Q := (own_rmMk2_Q Z c0 c1 c2 cz G n0 h0)) (plainFor_of_name (by first | (simp [plainName, overriddenIn]; done) | decide +kernel)) ?_
  intro p e s m below meth c T0 hx hZ hby hml hown hnm hret hlk X0 e0 hS hs0 hC
  have hEL := own_EW Z a0 hw
  have wS : ∀ d ∈ Bundle.stringAtoms, d.before a0 Z = true := fun d hd => by
    simp only [Bundle.stringAtoms, List.mem_cons, List.not_mem_nil, or_false] at hd
    rcases hd with rfl | rfl | rfl | rfl | rfl | rfl | rfl
    · exact (own_t hw 10 rfl)
    · exact (own_t hw 9 rfl)
    · exact (own_t hw 27 rfl)
    · exact (own_t hw 37 rfl)
    · exact (own_t hw 35 rfl)
    · exact (own_t hw 39 rfl)
    · exact (own_t hw 40 rfl)
  have hk : 0 ≤ h0.size := Nat.zero_le _
  have hown : s.vm.findClass "com/example/keen_guess/keenguess/text/CodePointOrderComparePinLaw" = some m.cls := hown
  refine Go.cast (g' := mkF m 0 #[.val (.int c0), .val (.int c1), .val (.int c2), .val (.int 2)] []) (by first | (simp [entryFrame, mkF, argsToLocals, Value.category]; done) | rfl) ?_
  show Go p e below _ T0 (mkF m 0 _ [])
  refine Go.iloadN X0 hx hby k25_0 rfl ?_
  refine Go.ifYes 15 X0 hx hby k25_1 ((if0 _ _).trans (feq (by decide : ¬ ((2 : Int32) = (0 : Int32)))).2) (by decide) (by decide) ?_
  refine Go.iloadN X0 hx hby k25_15 rfl ?_
  refine Go.iconst 1 X0 hx hby k25_16 rfl ?_
  refine Go.icmpYes 35 X0 hx hby k25_17 (feq (by decide : ¬ ((2 : Int32) = (1 : Int32)))).2 (by decide) (by decide) ?_
  refine Go.iloadN X0 hx hby k25_35 rfl ?_
  refine Go.iconst 2 X0 hx hby k25_36 rfl ?_
  refine Go.icmpNo X0 hx hby k25_37 (teq (by decide : (2 : Int32) = (2 : Int32))).2 ?_
  refine Go.new X0 hx hZ hown (own_t hw 8 rfl) (own_t hw 9 rfl) (own_t hw 10 rfl) e0 (hb hby k25_40) (by decide) (by decide) fun T1 h1 b1 g1 X1 e1 E1 A1 D1 => ?_
  have ge_b1 : n0 ≤ b1 := g1 ▸ Z0
  have hs_b1 : h0.size ≤ b1 := g1 ▸ (Keep.refl h0 []).1
  have sf_b1 := Safe.ext E1 hC.1 (Safe.new (Nat.le_of_eq g1.symm))
  have hC := hC.trans (CHr.ext E1 hC.1)
  have sz1 := Nat.le_trans Z0 E1.1
  have hk1 : 0 ≤ h1.size := Nat.le_trans hk E1.1
  have kp1 := (Keep.refl h0 []).ext E1
  have F1_coder : Fld Z h1 b1 "java/lang/String" "coder" "B" (.int 0) := D1 (Or.inr (own_t hw 35 rfl)) (ty := .byte) (by decide)
  have F1_value : Fld Z h1 b1 "java/lang/String" "value" "[B" .null := D1 (Or.inr (own_t hw 37 rfl)) (ty := (.array .byte)) (by decide)
  refine Go.dup X1 hx hby k25_43 rfl ?_
  refine Go.iconst 2 X1 hx hby k25_44 rfl ?_
  refine Go.newarr X1 hx hZ (own_t hw 11 rfl) e1 2 (by decide) (by decide) (by decide) (by decide) (by decide) (hb hby k25_45) fun T2 h2 b2 k2 g2 X2 e2 E2 V2 => ?_
  have lt_b1_b2 : b1 < b2 := Nat.lt_of_lt_of_le A1.lt (Nat.le_of_eq g2.symm)
  have ge_b2 : n0 ≤ b2 := g2 ▸ sz1
  have hs_b2 : h0.size ≤ b2 := g2 ▸ kp1.1
  have sf2_b1 := Safe.ext E2 hC.1 sf_b1
  have hC := hC.trans (CHr.ext E2 hC.1)
  have sz2 := Nat.le_trans sz1 E2.1
  have hk2 : 0 ≤ h2.size := Nat.le_trans hk1 E2.1
  have kp2 := kp1.ext E2
  have V2 : Arv Z h2 b2 k2 .char (2 : Int32) [(.int 0), (.int 0)] (.int 0) := V2
  refine Go.dup X2 hx hby k25_47 rfl ?_
  refine Go.iconst 0 X2 hx hby k25_48 rfl ?_
  show Go p e below _ T2 (mkF m 49 _ [(.int 0), (.ref b2), (.ref b2), (.ref b1), (.ref b1)])
  refine Go.iloadN X2 hx hby k25_49 rfl ?_
  refine Go.castore X2 hx hZ e2 V2 ⟨by decide, by decide⟩ 0 rfl (Nat.le_of_ble_eq_true rfl) (hb hby k25_50) fun T3 h3 X3 e3 W3 V3 => ?_
  have sf3_b1 := Safe.wr W3 (Safe.arv hZ.alike V2 (by decide)) hC.1 sf2_b1
  have hC := hC.trans (CHr.wr W3 (Safe.arv hZ.alike V2 (by decide)) hC.1)
  have sz3 := Nat.le_trans sz2 (Keep.of_wr W3).1
  have hk3 : 0 ≤ h3.size := Nat.le_trans hk2 (Keep.of_wr W3).1
  have kp3 := kp2.wr W3 (Or.inr hs_b2)
  have N3 := Fr.snoc X3 (Fr.nil n0) ge_b2
  have V3 : Arv Z h3 b2 k2 .char (2 : Int32) [(.int (nar .char c0)), (.int 0)] (.int 0) := V3
  refine Go.dup X3 hx hby k25_51 rfl ?_
  refine Go.iconst 1 X3 hx hby k25_52 rfl ?_
  refine Go.iloadN X3 hx hby k25_53 rfl ?_
  refine Go.castore X3 hx hZ e3 V3 ⟨by decide, by decide⟩ 1 rfl (Nat.le_of_ble_eq_true rfl) (hb hby k25_54) fun T4 h4 X4 e4 W4 V4 => ?_
  have sf4_b1 := Safe.wr W4 (Safe.arv hZ.alike V3 (by decide)) hC.1 sf3_b1
  have hC := hC.trans (CHr.wr W4 (Safe.arv hZ.alike V3 (by decide)) hC.1)
  have sz4 := Nat.le_trans sz3 (Keep.of_wr W4).1
  have hk4 : 0 ≤ h4.size := Nat.le_trans hk3 (Keep.of_wr W4).1
  have kp4 := kp3.wr W4 (Or.inr hs_b2)
  have N4 := Fr.snoc X4 N3 ge_b2
  have V4 : Arv Z h4 b2 k2 .char (2 : Int32) [(.int (nar .char c0)), (.int (nar .char c1))] (.int 0) := V4
  have VQ5 : Arv Z h4 b2 k2 .char 2 [(.int c0), (.int c1)] (.int 0) := by have q := V4; rw [own_nc r0, own_nc r1] at q; exact q
  by_cases gq0 : (255 : Int32) < c0
  ·
    refine Go.callI (W := 1) (y := y_24) (a := b1) (argsL := [(.ref b2)]) (rest := [(.ref b1)]) X4 hx hZ rfl hown (own_t hw 12 rfl) (own_t hw 13 rfl) (own_t hw 10 rfl) (own_t hw 14 rfl) (by decide) (own_rmS120 l Z a0 hw b1 b2 k2 c0 c1 c2 cz G n0 h4 sz4 ((((OZ.ext E1).ext E2).wr W3 ge_b2).wr W4 ge_b2) SB hz SA SH SL SG hG ge_b1 (Nat.ne_of_gt lt_b1_b2) (((A1.ext E2).wr W3).wr W4) (((F1_value.ext E2).other W3 (Or.inl (Nat.ne_of_lt lt_b1_b2))).other W4 (Or.inl (Nat.ne_of_lt lt_b1_b2))) (((F1_coder.ext E2).other W3 (Or.inl (Nat.ne_of_lt lt_b1_b2))).other W4 (Or.inl (Nat.ne_of_lt lt_b1_b2))) VQ5 r0 r1 r2 gq0) e4 (by rw [hml]; rfl) (lenOf own_dsc16 rfl) (hb hby k25_55) rfl (Nat.le_of_eq rfl) (by decide) (by decide) (by decide) (by decide) fun _ T6 L6 X6 q6 => ?_
    obtain ⟨rfl, N6q, K6, A6, C6, t6, kt6, D6, V6⟩ := q6
    have N6 := Fr.app N4 N6q
    have sf6_b1 := Safe.keep K6 (allS sf4_b1 all0) hC.1 sf4_b1
    have hC := hC.trans (CHr.keep K6 (allS sf4_b1 all0) hC.1)
    have sz6 := Nat.le_trans sz4 K6.1
    have hk6 : 0 ≤ T6.heap.size := Nat.le_trans hk4 K6.1
    have kp6 := kp4.trans K6 (allS (Or.inr hs_b1) all0)
    show Go p e below _ T6 (mkF m 58 _ [(.ref b1)])
    exact Go.retAH X6 hx hZ hEL hs0 rfl hC hS hk6 hlk hret rfl rfl rfl (hb hby k25_58) (by decide) (by decide) ⟨b1, rfl, N6, kp6, A6, t6, kt6, D6, Or.inr ⟨by decide, C6, V6⟩⟩
  ·
    by_cases gq1 : (255 : Int32) < c1
    ·
      refine Go.callI (W := 1) (y := y_24) (a := b1) (argsL := [(.ref b2)]) (rest := [(.ref b1)]) X4 hx hZ rfl hown (own_t hw 12 rfl) (own_t hw 13 rfl) (own_t hw 10 rfl) (own_t hw 14 rfl) (by decide) (own_rmS121 l Z a0 hw b1 b2 k2 c0 c1 c2 cz G n0 h4 sz4 ((((OZ.ext E1).ext E2).wr W3 ge_b2).wr W4 ge_b2) SB hz SA SH SL SG hG ge_b1 (Nat.ne_of_gt lt_b1_b2) (((A1.ext E2).wr W3).wr W4) (((F1_value.ext E2).other W3 (Or.inl (Nat.ne_of_lt lt_b1_b2))).other W4 (Or.inl (Nat.ne_of_lt lt_b1_b2))) (((F1_coder.ext E2).other W3 (Or.inl (Nat.ne_of_lt lt_b1_b2))).other W4 (Or.inl (Nat.ne_of_lt lt_b1_b2))) VQ5 r0 r1 r2 gq0 gq1) e4 (by rw [hml]; rfl) (lenOf own_dsc16 rfl) (hb hby k25_55) rfl (Nat.le_of_eq rfl) (by decide) (by decide) (by decide) (by decide) fun _ T7 L7 X7 q7 => ?_
      obtain ⟨rfl, N7q, K7, A7, C7, t7, kt7, D7, V7⟩ := q7
      have N7 := Fr.app N4 N7q
      have sf7_b1 := Safe.keep K7 (allS sf4_b1 all0) hC.1 sf4_b1
      have hC := hC.trans (CHr.keep K7 (allS sf4_b1 all0) hC.1)
      have sz7 := Nat.le_trans sz4 K7.1
      have hk7 : 0 ≤ T7.heap.size := Nat.le_trans hk4 K7.1
      have kp7 := kp4.trans K7 (allS (Or.inr hs_b1) all0)
      show Go p e below _ T7 (mkF m 58 _ [(.ref b1)])
      exact Go.retAH X7 hx hZ hEL hs0 rfl hC hS hk7 hlk hret rfl rfl rfl (hb hby k25_58) (by decide) (by decide) ⟨b1, rfl, N7, kp7, A7, t7, kt7, D7, Or.inr ⟨by decide, C7, V7⟩⟩
    ·
      refine Go.callI (W := 1) (y := y_24) (a := b1) (argsL := [(.ref b2)]) (rest := [(.ref b1)]) X4 hx hZ rfl hown (own_t hw 12 rfl) (own_t hw 13 rfl) (own_t hw 10 rfl) (own_t hw 14 rfl) (by decide) (own_rmS122 l Z a0 hw b1 b2 k2 c0 c1 c2 cz G n0 h4 sz4 ((((OZ.ext E1).ext E2).wr W3 ge_b2).wr W4 ge_b2) SB hz SA SH SL SG hG ge_b1 (Nat.ne_of_gt lt_b1_b2) (((A1.ext E2).wr W3).wr W4) (((F1_value.ext E2).other W3 (Or.inl (Nat.ne_of_lt lt_b1_b2))).other W4 (Or.inl (Nat.ne_of_lt lt_b1_b2))) (((F1_coder.ext E2).other W3 (Or.inl (Nat.ne_of_lt lt_b1_b2))).other W4 (Or.inl (Nat.ne_of_lt lt_b1_b2))) VQ5 r0 r1 r2 gq0 gq1) e4 (by rw [hml]; rfl) (lenOf own_dsc16 rfl) (hb hby k25_55) rfl (Nat.le_of_eq rfl) (by decide) (by decide) (by decide) (by decide) fun _ T8 L8 X8 q8 => ?_
      obtain ⟨rfl, N8q, K8, A8, C8, t8, kt8, D8, V8⟩ := q8
      have N8 := Fr.app N4 N8q
      have sf8_b1 := Safe.keep K8 (allS sf4_b1 all0) hC.1 sf4_b1
      have hC := hC.trans (CHr.keep K8 (allS sf4_b1 all0) hC.1)
      have sz8 := Nat.le_trans sz4 K8.1
      have hk8 : 0 ≤ T8.heap.size := Nat.le_trans hk4 K8.1
      have kp8 := kp4.trans K8 (allS (Or.inr hs_b1) all0)
      show Go p e below _ T8 (mkF m 58 _ [(.ref b1)])
      exact Go.retAH X8 hx hZ hEL hs0 rfl hC hS hk8 hlk hret rfl rfl rfl (hb hby k25_58) (by decide) (by decide) ⟨b1, rfl, N8, kp8, A8, t8, kt8, D8, Or.inl ⟨C8, ⟨gq0, gq1⟩, V8⟩⟩
theorem k25_59 : decode method_4_code 59 = .ok (.new 37, 3) := by decide +kernel
theorem k25_62 : decode method_4_code 62 = .ok (.dup, 1) := by decide +kernel
theorem k25_63 : decode method_4_code 63 = .ok (.iconst 3, 1) := by decide +kernel
theorem k25_64 : decode method_4_code 64 = .ok (.newarray .char, 2) := by decide +kernel
theorem k25_66 : decode method_4_code 66 = .ok (.dup, 1) := by decide +kernel
theorem k25_67 : decode method_4_code 67 = .ok (.iconst 0, 1) := by decide +kernel
theorem k25_68 : decode method_4_code 68 = .ok (.iload_n 0, 1) := by decide +kernel
theorem k25_69 : decode method_4_code 69 = .ok (.castore, 1) := by decide +kernel
theorem k25_70 : decode method_4_code 70 = .ok (.dup, 1) := by decide +kernel
theorem k25_71 : decode method_4_code 71 = .ok (.iconst 1, 1) := by decide +kernel
theorem k25_72 : decode method_4_code 72 = .ok (.iload_n 1, 1) := by decide +kernel
theorem k25_73 : decode method_4_code 73 = .ok (.castore, 1) := by decide +kernel
theorem k25_74 : decode method_4_code 74 = .ok (.dup, 1) := by decide +kernel
theorem k25_75 : decode method_4_code 75 = .ok (.iconst 2, 1) := by decide +kernel
theorem k25_76 : decode method_4_code 76 = .ok (.iload_n 2, 1) := by decide +kernel
theorem k25_77 : decode method_4_code 77 = .ok (.castore, 1) := by decide +kernel
theorem k25_78 : decode method_4_code 78 = .ok (.invokespecial 39, 3) := by decide +kernel
theorem k25_81 : decode method_4_code 81 = .ok (.areturn, 1) := by decide +kernel
abbrev own_rmMk3_Q (Z : State) (c0 c1 c2 : Int32) (cz : Int32) (G : Value) (n0 : Nat) (h0 : Heap) : Option Value → Heap → List Loc → Prop := fun v h L => ∃ b, v = some (.ref b) ∧ Fr n0 L ∧ Keep h0 h [] ∧ own_Str Z h b c0 c1 c2 3
theorem own_rmMk3 (l : Launch) (Z : State) (a0 : Array Value) (hw : ∀ d ∈ tables_1, d.before a0 Z = true) (c0 c1 c2 : Int32) (cz : Int32) (G : Value) (n0 : Nat) (h0 : Heap) (Z0 : n0 ≤ h0.size) (OZ : Old Z n0 h0) (SB : own_SB Z Z.heap cz) (hz : ¬ cz = (0 : Int32)) (SA : own_SA Z Z.heap) (SH : own_SH Z Z.heap) (SL : own_SL Z Z.heap) (SG : own_SG Z Z.heap G) (hG : G.isRef = true) (r0 : own_C c0) (r1 : own_C c1) (r2 : own_C c2) :
    MetAtH l Z consts_1 y_25 method_4_code 4 (some (.object "java/lang/String")) ({ frames := 6, cells := 6, slots := 16, locals := 88 } : Room) #[(.int c0), (.int c1), (.int c2), (.int 3)] h0 ((own_rmMk3_Q Z c0 c1 c2 cz G n0 h0)) := by
  refine goBodyH (y := y_25) (Q := (own_rmMk3_Q Z c0 c1 c2 cz G n0 h0)) (plainFor_of_name (by first | (simp [plainName, overriddenIn]; done) | decide +kernel)) ?_
  intro p e s m below meth c T0 hx hZ hby hml hown hnm hret hlk X0 e0 hS hs0 hC
  have hEL := own_EW Z a0 hw
  have wS : ∀ d ∈ Bundle.stringAtoms, d.before a0 Z = true := fun d hd => by
    simp only [Bundle.stringAtoms, List.mem_cons, List.not_mem_nil, or_false] at hd
    rcases hd with rfl | rfl | rfl | rfl | rfl | rfl | rfl
    · exact (own_t hw 10 rfl)
    · exact (own_t hw 9 rfl)
    · exact (own_t hw 27 rfl)
    · exact (own_t hw 37 rfl)
    · exact (own_t hw 35 rfl)
    · exact (own_t hw 39 rfl)
    · exact (own_t hw 40 rfl)
  have hk : 0 ≤ h0.size := Nat.zero_le _
  have hown : s.vm.findClass "com/example/keen_guess/keenguess/text/CodePointOrderComparePinLaw" = some m.cls := hown
  refine Go.cast (g' := mkF m 0 #[.val (.int c0), .val (.int c1), .val (.int c2), .val (.int 3)] []) (by first | (simp [entryFrame, mkF, argsToLocals, Value.category]; done) | rfl) ?_
  show Go p e below _ T0 (mkF m 0 _ [])
  refine Go.iloadN X0 hx hby k25_0 rfl ?_
  refine Go.ifYes 15 X0 hx hby k25_1 ((if0 _ _).trans (feq (by decide : ¬ ((3 : Int32) = (0 : Int32)))).2) (by decide) (by decide) ?_
  refine Go.iloadN X0 hx hby k25_15 rfl ?_
  refine Go.iconst 1 X0 hx hby k25_16 rfl ?_
  refine Go.icmpYes 35 X0 hx hby k25_17 (feq (by decide : ¬ ((3 : Int32) = (1 : Int32)))).2 (by decide) (by decide) ?_
  refine Go.iloadN X0 hx hby k25_35 rfl ?_
  refine Go.iconst 2 X0 hx hby k25_36 rfl ?_
  refine Go.icmpYes 59 X0 hx hby k25_37 (feq (by decide : ¬ ((3 : Int32) = (2 : Int32)))).2 (by decide) (by decide) ?_
  refine Go.new X0 hx hZ hown (own_t hw 8 rfl) (own_t hw 9 rfl) (own_t hw 10 rfl) e0 (hb hby k25_59) (by decide) (by decide) fun T1 h1 b1 g1 X1 e1 E1 A1 D1 => ?_
  have ge_b1 : n0 ≤ b1 := g1 ▸ Z0
  have hs_b1 : h0.size ≤ b1 := g1 ▸ (Keep.refl h0 []).1
  have sf_b1 := Safe.ext E1 hC.1 (Safe.new (Nat.le_of_eq g1.symm))
  have hC := hC.trans (CHr.ext E1 hC.1)
  have sz1 := Nat.le_trans Z0 E1.1
  have hk1 : 0 ≤ h1.size := Nat.le_trans hk E1.1
  have kp1 := (Keep.refl h0 []).ext E1
  have F1_coder : Fld Z h1 b1 "java/lang/String" "coder" "B" (.int 0) := D1 (Or.inr (own_t hw 35 rfl)) (ty := .byte) (by decide)
  have F1_value : Fld Z h1 b1 "java/lang/String" "value" "[B" .null := D1 (Or.inr (own_t hw 37 rfl)) (ty := (.array .byte)) (by decide)
  refine Go.dup X1 hx hby k25_62 rfl ?_
  refine Go.iconst 3 X1 hx hby k25_63 rfl ?_
  refine Go.newarr X1 hx hZ (own_t hw 11 rfl) e1 3 (by decide) (by decide) (by decide) (by decide) (by decide) (hb hby k25_64) fun T2 h2 b2 k2 g2 X2 e2 E2 V2 => ?_
  have lt_b1_b2 : b1 < b2 := Nat.lt_of_lt_of_le A1.lt (Nat.le_of_eq g2.symm)
  have ge_b2 : n0 ≤ b2 := g2 ▸ sz1
  have hs_b2 : h0.size ≤ b2 := g2 ▸ kp1.1
  have sf2_b1 := Safe.ext E2 hC.1 sf_b1
  have hC := hC.trans (CHr.ext E2 hC.1)
  have sz2 := Nat.le_trans sz1 E2.1
  have hk2 : 0 ≤ h2.size := Nat.le_trans hk1 E2.1
  have kp2 := kp1.ext E2
  have V2 : Arv Z h2 b2 k2 .char (3 : Int32) [(.int 0), (.int 0), (.int 0)] (.int 0) := V2
  refine Go.dup X2 hx hby k25_66 rfl ?_
  refine Go.iconst 0 X2 hx hby k25_67 rfl ?_
  show Go p e below _ T2 (mkF m 68 _ [(.int 0), (.ref b2), (.ref b2), (.ref b1), (.ref b1)])
  refine Go.iloadN X2 hx hby k25_68 rfl ?_
  refine Go.castore X2 hx hZ e2 V2 ⟨by decide, by decide⟩ 0 rfl (Nat.le_of_ble_eq_true rfl) (hb hby k25_69) fun T3 h3 X3 e3 W3 V3 => ?_
  have sf3_b1 := Safe.wr W3 (Safe.arv hZ.alike V2 (by decide)) hC.1 sf2_b1
  have hC := hC.trans (CHr.wr W3 (Safe.arv hZ.alike V2 (by decide)) hC.1)
  have sz3 := Nat.le_trans sz2 (Keep.of_wr W3).1
  have hk3 : 0 ≤ h3.size := Nat.le_trans hk2 (Keep.of_wr W3).1
  have kp3 := kp2.wr W3 (Or.inr hs_b2)
  have N3 := Fr.snoc X3 (Fr.nil n0) ge_b2
  have V3 : Arv Z h3 b2 k2 .char (3 : Int32) [(.int (nar .char c0)), (.int 0), (.int 0)] (.int 0) := V3
  refine Go.dup X3 hx hby k25_70 rfl ?_
  refine Go.iconst 1 X3 hx hby k25_71 rfl ?_
  refine Go.iloadN X3 hx hby k25_72 rfl ?_
  refine Go.castore X3 hx hZ e3 V3 ⟨by decide, by decide⟩ 1 rfl (Nat.le_of_ble_eq_true rfl) (hb hby k25_73) fun T4 h4 X4 e4 W4 V4 => ?_
  have sf4_b1 := Safe.wr W4 (Safe.arv hZ.alike V3 (by decide)) hC.1 sf3_b1
  have hC := hC.trans (CHr.wr W4 (Safe.arv hZ.alike V3 (by decide)) hC.1)
  have sz4 := Nat.le_trans sz3 (Keep.of_wr W4).1
  have hk4 : 0 ≤ h4.size := Nat.le_trans hk3 (Keep.of_wr W4).1
  have kp4 := kp3.wr W4 (Or.inr hs_b2)
  have N4 := Fr.snoc X4 N3 ge_b2
  have V4 : Arv Z h4 b2 k2 .char (3 : Int32) [(.int (nar .char c0)), (.int (nar .char c1)), (.int 0)] (.int 0) := V4
  refine Go.dup X4 hx hby k25_74 rfl ?_
  refine Go.iconst 2 X4 hx hby k25_75 rfl ?_
  refine Go.iloadN X4 hx hby k25_76 rfl ?_
  refine Go.castore X4 hx hZ e4 V4 ⟨by decide, by decide⟩ 2 rfl (Nat.le_of_ble_eq_true rfl) (hb hby k25_77) fun T5 h5 X5 e5 W5 V5 => ?_
  have sf5_b1 := Safe.wr W5 (Safe.arv hZ.alike V4 (by decide)) hC.1 sf4_b1
  have hC := hC.trans (CHr.wr W5 (Safe.arv hZ.alike V4 (by decide)) hC.1)
  have sz5 := Nat.le_trans sz4 (Keep.of_wr W5).1
  have hk5 : 0 ≤ h5.size := Nat.le_trans hk4 (Keep.of_wr W5).1
  have kp5 := kp4.wr W5 (Or.inr hs_b2)
  have N5 := Fr.snoc X5 N4 ge_b2
  have V5 : Arv Z h5 b2 k2 .char (3 : Int32) [(.int (nar .char c0)), (.int (nar .char c1)), (.int (nar .char c2))] (.int 0) := V5
  have VQ6 : Arv Z h5 b2 k2 .char 3 [(.int c0), (.int c1), (.int c2)] (.int 0) := by have q := V5; rw [own_nc r0, own_nc r1, own_nc r2] at q; exact q
  by_cases gq0 : (255 : Int32) < c0
  ·
    refine Go.callI (W := 1) (y := y_24) (a := b1) (argsL := [(.ref b2)]) (rest := [(.ref b1)]) X5 hx hZ rfl hown (own_t hw 12 rfl) (own_t hw 13 rfl) (own_t hw 10 rfl) (own_t hw 14 rfl) (by decide) (own_rmS130 l Z a0 hw b1 b2 k2 c0 c1 c2 cz G n0 h5 sz5 (((((OZ.ext E1).ext E2).wr W3 ge_b2).wr W4 ge_b2).wr W5 ge_b2) SB hz SA SH SL SG hG ge_b1 (Nat.ne_of_gt lt_b1_b2) ((((A1.ext E2).wr W3).wr W4).wr W5) ((((F1_value.ext E2).other W3 (Or.inl (Nat.ne_of_lt lt_b1_b2))).other W4 (Or.inl (Nat.ne_of_lt lt_b1_b2))).other W5 (Or.inl (Nat.ne_of_lt lt_b1_b2))) ((((F1_coder.ext E2).other W3 (Or.inl (Nat.ne_of_lt lt_b1_b2))).other W4 (Or.inl (Nat.ne_of_lt lt_b1_b2))).other W5 (Or.inl (Nat.ne_of_lt lt_b1_b2))) VQ6 r0 r1 r2 gq0) e5 (by rw [hml]; rfl) (lenOf own_dsc16 rfl) (hb hby k25_78) rfl (Nat.le_of_eq rfl) (by decide) (by decide) (by decide) (by decide) fun _ T7 L7 X7 q7 => ?_
    obtain ⟨rfl, N7q, K7, A7, C7, t7, kt7, D7, V7⟩ := q7
    have N7 := Fr.app N5 N7q
    have sf7_b1 := Safe.keep K7 (allS sf5_b1 all0) hC.1 sf5_b1
    have hC := hC.trans (CHr.keep K7 (allS sf5_b1 all0) hC.1)
    have sz7 := Nat.le_trans sz5 K7.1
    have hk7 : 0 ≤ T7.heap.size := Nat.le_trans hk5 K7.1
    have kp7 := kp5.trans K7 (allS (Or.inr hs_b1) all0)
    show Go p e below _ T7 (mkF m 81 _ [(.ref b1)])
    exact Go.retAH X7 hx hZ hEL hs0 rfl hC hS hk7 hlk hret rfl rfl rfl (hb hby k25_81) (by decide) (by decide) ⟨b1, rfl, N7, kp7, A7, t7, kt7, D7, Or.inr ⟨by decide, C7, V7⟩⟩
  ·
    by_cases gq1 : (255 : Int32) < c1
    ·
      refine Go.callI (W := 1) (y := y_24) (a := b1) (argsL := [(.ref b2)]) (rest := [(.ref b1)]) X5 hx hZ rfl hown (own_t hw 12 rfl) (own_t hw 13 rfl) (own_t hw 10 rfl) (own_t hw 14 rfl) (by decide) (own_rmS131 l Z a0 hw b1 b2 k2 c0 c1 c2 cz G n0 h5 sz5 (((((OZ.ext E1).ext E2).wr W3 ge_b2).wr W4 ge_b2).wr W5 ge_b2) SB hz SA SH SL SG hG ge_b1 (Nat.ne_of_gt lt_b1_b2) ((((A1.ext E2).wr W3).wr W4).wr W5) ((((F1_value.ext E2).other W3 (Or.inl (Nat.ne_of_lt lt_b1_b2))).other W4 (Or.inl (Nat.ne_of_lt lt_b1_b2))).other W5 (Or.inl (Nat.ne_of_lt lt_b1_b2))) ((((F1_coder.ext E2).other W3 (Or.inl (Nat.ne_of_lt lt_b1_b2))).other W4 (Or.inl (Nat.ne_of_lt lt_b1_b2))).other W5 (Or.inl (Nat.ne_of_lt lt_b1_b2))) VQ6 r0 r1 r2 gq0 gq1) e5 (by rw [hml]; rfl) (lenOf own_dsc16 rfl) (hb hby k25_78) rfl (Nat.le_of_eq rfl) (by decide) (by decide) (by decide) (by decide) fun _ T8 L8 X8 q8 => ?_
      obtain ⟨rfl, N8q, K8, A8, C8, t8, kt8, D8, V8⟩ := q8
      have N8 := Fr.app N5 N8q
      have sf8_b1 := Safe.keep K8 (allS sf5_b1 all0) hC.1 sf5_b1
      have hC := hC.trans (CHr.keep K8 (allS sf5_b1 all0) hC.1)
      have sz8 := Nat.le_trans sz5 K8.1
      have hk8 : 0 ≤ T8.heap.size := Nat.le_trans hk5 K8.1
      have kp8 := kp5.trans K8 (allS (Or.inr hs_b1) all0)
      show Go p e below _ T8 (mkF m 81 _ [(.ref b1)])
      exact Go.retAH X8 hx hZ hEL hs0 rfl hC hS hk8 hlk hret rfl rfl rfl (hb hby k25_81) (by decide) (by decide) ⟨b1, rfl, N8, kp8, A8, t8, kt8, D8, Or.inr ⟨by decide, C8, V8⟩⟩
    ·
      by_cases gq2 : (255 : Int32) < c2
      ·
        refine Go.callI (W := 1) (y := y_24) (a := b1) (argsL := [(.ref b2)]) (rest := [(.ref b1)]) X5 hx hZ rfl hown (own_t hw 12 rfl) (own_t hw 13 rfl) (own_t hw 10 rfl) (own_t hw 14 rfl) (by decide) (own_rmS132 l Z a0 hw b1 b2 k2 c0 c1 c2 cz G n0 h5 sz5 (((((OZ.ext E1).ext E2).wr W3 ge_b2).wr W4 ge_b2).wr W5 ge_b2) SB hz SA SH SL SG hG ge_b1 (Nat.ne_of_gt lt_b1_b2) ((((A1.ext E2).wr W3).wr W4).wr W5) ((((F1_value.ext E2).other W3 (Or.inl (Nat.ne_of_lt lt_b1_b2))).other W4 (Or.inl (Nat.ne_of_lt lt_b1_b2))).other W5 (Or.inl (Nat.ne_of_lt lt_b1_b2))) ((((F1_coder.ext E2).other W3 (Or.inl (Nat.ne_of_lt lt_b1_b2))).other W4 (Or.inl (Nat.ne_of_lt lt_b1_b2))).other W5 (Or.inl (Nat.ne_of_lt lt_b1_b2))) VQ6 r0 r1 r2 gq0 gq1 gq2) e5 (by rw [hml]; rfl) (lenOf own_dsc16 rfl) (hb hby k25_78) rfl (Nat.le_of_eq rfl) (by decide) (by decide) (by decide) (by decide) fun _ T9 L9 X9 q9 => ?_
        obtain ⟨rfl, N9q, K9, A9, C9, t9, kt9, D9, V9⟩ := q9
        have N9 := Fr.app N5 N9q
        have sf9_b1 := Safe.keep K9 (allS sf5_b1 all0) hC.1 sf5_b1
        have hC := hC.trans (CHr.keep K9 (allS sf5_b1 all0) hC.1)
        have sz9 := Nat.le_trans sz5 K9.1
        have hk9 : 0 ≤ T9.heap.size := Nat.le_trans hk5 K9.1
        have kp9 := kp5.trans K9 (allS (Or.inr hs_b1) all0)
        show Go p e below _ T9 (mkF m 81 _ [(.ref b1)])
        exact Go.retAH X9 hx hZ hEL hs0 rfl hC hS hk9 hlk hret rfl rfl rfl (hb hby k25_81) (by decide) (by decide) ⟨b1, rfl, N9, kp9, A9, t9, kt9, D9, Or.inr ⟨by decide, C9, V9⟩⟩
      ·
        refine Go.callI (W := 1) (y := y_24) (a := b1) (argsL := [(.ref b2)]) (rest := [(.ref b1)]) X5 hx hZ rfl hown (own_t hw 12 rfl) (own_t hw 13 rfl) (own_t hw 10 rfl) (own_t hw 14 rfl) (by decide) (own_rmS133 l Z a0 hw b1 b2 k2 c0 c1 c2 cz G n0 h5 sz5 (((((OZ.ext E1).ext E2).wr W3 ge_b2).wr W4 ge_b2).wr W5 ge_b2) SB hz SA SH SL SG hG ge_b1 (Nat.ne_of_gt lt_b1_b2) ((((A1.ext E2).wr W3).wr W4).wr W5) ((((F1_value.ext E2).other W3 (Or.inl (Nat.ne_of_lt lt_b1_b2))).other W4 (Or.inl (Nat.ne_of_lt lt_b1_b2))).other W5 (Or.inl (Nat.ne_of_lt lt_b1_b2))) ((((F1_coder.ext E2).other W3 (Or.inl (Nat.ne_of_lt lt_b1_b2))).other W4 (Or.inl (Nat.ne_of_lt lt_b1_b2))).other W5 (Or.inl (Nat.ne_of_lt lt_b1_b2))) VQ6 r0 r1 r2 gq0 gq1 gq2) e5 (by rw [hml]; rfl) (lenOf own_dsc16 rfl) (hb hby k25_78) rfl (Nat.le_of_eq rfl) (by decide) (by decide) (by decide) (by decide) fun _ T10 L10 X10 q10 => ?_
        obtain ⟨rfl, N10q, K10, A10, C10, t10, kt10, D10, V10⟩ := q10
        have N10 := Fr.app N5 N10q
        have sf10_b1 := Safe.keep K10 (allS sf5_b1 all0) hC.1 sf5_b1
        have hC := hC.trans (CHr.keep K10 (allS sf5_b1 all0) hC.1)
        have sz10 := Nat.le_trans sz5 K10.1
        have hk10 : 0 ≤ T10.heap.size := Nat.le_trans hk5 K10.1
        have kp10 := kp5.trans K10 (allS (Or.inr hs_b1) all0)
        show Go p e below _ T10 (mkF m 81 _ [(.ref b1)])
        exact Go.retAH X10 hx hZ hEL hs0 rfl hC hS hk10 hlk hret rfl rfl rfl (hb hby k25_81) (by decide) (by decide) ⟨b1, rfl, N10, kp10, A10, t10, kt10, D10, Or.inl ⟨C10, ⟨gq0, gq1, gq2⟩, V10⟩⟩
abbrev own_rmMk_Q (Z : State) (c0 c1 c2 : Int32) (n0 n : Nat) (h0 : Heap) : Option Value → Heap → List Loc → Prop := fun v h L => ∃ b, v = some (.ref b) ∧ Fr n0 L ∧ Keep h0 h [] ∧ own_Str Z h b c0 c1 c2 n
theorem own_rmMk (l : Launch) (Z : State) (a0 : Array Value) (hw : ∀ d ∈ tables_1, d.before a0 Z = true) (c0 c1 c2 : Int32) (cz : Int32) (G : Value) (n0 : Nat) (n : Nat) (h0 : Heap) (Z0 : n0 ≤ h0.size) (OZ : Old Z n0 h0) (SB : own_SB Z Z.heap cz) (hz : ¬ cz = (0 : Int32)) (SA : own_SA Z Z.heap) (SH : own_SH Z Z.heap) (SL : own_SL Z Z.heap) (SG : own_SG Z Z.heap G) (hG : G.isRef = true) (r0 : own_C c0) (r1 : own_C c1) (r2 : own_C c2) (hn : n ≤ 3) :
    MetAtH l Z consts_1 y_25 method_4_code 4 (some (.object "java/lang/String")) ({ frames := 6, cells := 6, slots := 16, locals := 88 } : Room) #[(.int c0), (.int c1), (.int c2), (.int (own_I n))] h0 (own_rmMk_Q Z c0 c1 c2 n0 n h0) := by
  rcases (by omega : n = 0 ∨ n = 1 ∨ n = 2 ∨ n = 3) with rfl | rfl | rfl | rfl
  · exact own_rmMk0 l Z a0 hw c0 c1 c2 cz G n0 h0 Z0 OZ SB hz SA SH SL SG hG r0 r1 r2
  · exact own_rmMk1 l Z a0 hw c0 c1 c2 cz G n0 h0 Z0 OZ SB hz SA SH SL SG hG r0 r1 r2
  · exact own_rmMk2 l Z a0 hw c0 c1 c2 cz G n0 h0 Z0 OZ SB hz SA SH SL SG hG r0 r1 r2
  · exact own_rmMk3 l Z a0 hw c0 c1 c2 cz G n0 h0 Z0 OZ SB hz SA SH SL SG hG r0 r1 r2
theorem own_ccnx (i : Nat) (x : Int32) : own_I i + own_cc x = own_I (own_nx i x) := by
  unfold own_cc own_nx
  split
  · exact own_I_up i
  · exact own_I_add i 2
theorem own_nxge (i : Nat) (x : Int32) : i + 1 ≤ own_nx i x := by unfold own_nx; split <;> omega
theorem k26_0 : decode prog_48_method_2_code 0 = .ok (.aload_n 0, 1) := by decide +kernel
theorem k26_1 : decode prog_48_method_2_code 1 = .ok (.invokevirtual 7, 3) := by decide +kernel
theorem k26_4 : decode prog_48_method_2_code 4 = .ok (.istore_n 2, 1) := by decide +kernel
theorem k26_5 : decode prog_48_method_2_code 5 = .ok (.aload_n 1, 1) := by decide +kernel
theorem k26_6 : decode prog_48_method_2_code 6 = .ok (.invokevirtual 7, 3) := by decide +kernel
theorem k26_9 : decode prog_48_method_2_code 9 = .ok (.istore_n 3, 1) := by decide +kernel
theorem k26_10 : decode prog_48_method_2_code 10 = .ok (.iconst 0, 1) := by decide +kernel
theorem k26_11 : decode prog_48_method_2_code 11 = .ok (.istore 4, 2) := by decide +kernel
theorem k26_13 : decode prog_48_method_2_code 13 = .ok (.iload 4, 2) := by decide +kernel
theorem k26_15 : decode prog_48_method_2_code 15 = .ok (.iload_n 2, 1) := by decide +kernel
theorem k26_16 : decode prog_48_method_2_code 16 = .ok (.if_icmp .ge 53, 3) := by decide +kernel
theorem k26_19 : decode prog_48_method_2_code 19 = .ok (.iload 4, 2) := by decide +kernel
theorem k26_21 : decode prog_48_method_2_code 21 = .ok (.iload_n 3, 1) := by decide +kernel
theorem k26_22 : decode prog_48_method_2_code 22 = .ok (.if_icmp .ge 47, 3) := by decide +kernel
theorem k26_25 : decode prog_48_method_2_code 25 = .ok (.aload_n 0, 1) := by decide +kernel
theorem k26_26 : decode prog_48_method_2_code 26 = .ok (.iload 4, 2) := by decide +kernel
theorem k26_28 : decode prog_48_method_2_code 28 = .ok (.invokevirtual 13, 3) := by decide +kernel
theorem k26_31 : decode prog_48_method_2_code 31 = .ok (.istore 5, 2) := by decide +kernel
theorem k26_33 : decode prog_48_method_2_code 33 = .ok (.aload_n 1, 1) := by decide +kernel
theorem k26_34 : decode prog_48_method_2_code 34 = .ok (.iload 4, 2) := by decide +kernel
theorem k26_36 : decode prog_48_method_2_code 36 = .ok (.invokevirtual 13, 3) := by decide +kernel
theorem k26_39 : decode prog_48_method_2_code 39 = .ok (.istore 6, 2) := by decide +kernel
theorem k26_41 : decode prog_48_method_2_code 41 = .ok (.iload 5, 2) := by decide +kernel
theorem k26_43 : decode prog_48_method_2_code 43 = .ok (.iload 6, 2) := by decide +kernel
theorem k26_45 : decode prog_48_method_2_code 45 = .ok (.if_icmp .eq 11, 3) := by decide +kernel
theorem k26_48 : decode prog_48_method_2_code 48 = .ok (.iload 5, 2) := by decide +kernel
theorem k26_50 : decode prog_48_method_2_code 50 = .ok (.iload 6, 2) := by decide +kernel
theorem k26_52 : decode prog_48_method_2_code 52 = .ok (.invokestatic 17, 3) := by decide +kernel
theorem k26_55 : decode prog_48_method_2_code 55 = .ok (.ireturn, 1) := by decide +kernel
theorem k26_56 : decode prog_48_method_2_code 56 = .ok (.iload 4, 2) := by decide +kernel
theorem k26_58 : decode prog_48_method_2_code 58 = .ok (.iload 5, 2) := by decide +kernel
theorem k26_60 : decode prog_48_method_2_code 60 = .ok (.invokestatic 23, 3) := by decide +kernel
theorem k26_63 : decode prog_48_method_2_code 63 = .ok (.iadd, 1) := by decide +kernel
theorem k26_64 : decode prog_48_method_2_code 64 = .ok (.istore 4, 2) := by decide +kernel
theorem k26_66 : decode prog_48_method_2_code 66 = .ok (.goto (-53), 3) := by decide +kernel
theorem k26_69 : decode prog_48_method_2_code 69 = .ok (.iload_n 2, 1) := by decide +kernel
theorem k26_70 : decode prog_48_method_2_code 70 = .ok (.iload 4, 2) := by decide +kernel
theorem k26_72 : decode prog_48_method_2_code 72 = .ok (.isub, 1) := by decide +kernel
theorem k26_73 : decode prog_48_method_2_code 73 = .ok (.iload_n 3, 1) := by decide +kernel
theorem k26_74 : decode prog_48_method_2_code 74 = .ok (.iload 4, 2) := by decide +kernel
theorem k26_76 : decode prog_48_method_2_code 76 = .ok (.isub, 1) := by decide +kernel
theorem k26_77 : decode prog_48_method_2_code 77 = .ok (.invokestatic 17, 3) := by decide +kernel
theorem k26_80 : decode prog_48_method_2_code 80 = .ok (.ireturn, 1) := by decide +kernel
theorem own_k26_os31 {z0 : Value} {z1 : Value} {z2 : Value} {z3 : Value} {z4 : Value} {s5 : Slot} {s6 : Slot} {v : Int32} (h : One s5) : storeLocals #[.val z0, .val z1, .val z2, .val z3, .val z4, s5, s6] 5 (.int v) = some #[.val z0, .val z1, .val z2, .val z3, .val z4, .val (.int v), s6] := by
  rcases h with rfl | ⟨w, rfl, hw⟩
  · rfl
  · cases w <;> first | rfl | (simp [Value.category] at hw)
theorem own_k26_os39 {z0 : Value} {z1 : Value} {z2 : Value} {z3 : Value} {z4 : Value} {z5 : Value} {s6 : Slot} {v : Int32} (h : One s6) : storeLocals #[.val z0, .val z1, .val z2, .val z3, .val z4, .val z5, s6] 6 (.int v) = some #[.val z0, .val z1, .val z2, .val z3, .val z4, .val z5, .val (.int v)] := by
  rcases h with rfl | ⟨w, rfl, hw⟩
  · rfl
  · cases w <;> first | rfl | (simp [Value.category] at hw)
theorem own_rmCm (l : Launch) (Z : State) (a0 : Array Value) (hw : ∀ d ∈ tables_1, d.before a0 Z = true) (x y : Addr) (c0 c1 c2 : Int32) (d0 d1 d2 : Int32) (cz : Int32) (G : Value) (n k : Nat) (h0 : Heap) (XS' : own_Str Z h0 x c0 c1 c2 n) (YS' : own_Str Z h0 y d0 d1 d2 k) (hn : n ≤ 3) (hk : k ≤ 3) (r0 : own_C c0) (r1 : own_C c1) (r2 : own_C c2) (e0' : own_C d0) (e1' : own_C d1) (e2' : own_C d2) (SB : own_SB Z h0 cz) (hz : ¬ cz = (0 : Int32)) (SA : own_SA Z h0) (SH : own_SH Z h0) (SL : own_SL Z h0) (SG : own_SG Z h0 G) (hG : G.isRef = true) :
    MetAt l Z y_26 prog_48_method_2_code 7 (some .int) ({ frames := 4, cells := 0, slots := 0, locals := 58 } : Room) #[(.ref x), (.ref y)] h0 (PQ h0 (some (.int (own_go (own_F c0 c1 c2 n) (own_F d0 d1 d2 k) n k 3 0)))) := by
  refine goBodyM (plainFor_of_name (by first | (simp [plainName, overriddenIn]; done) | decide +kernel)) ?_
  intro p e s m below meth c T0 hx hZ hby hml hown hnm hret hlk X0 e0
  have hown : s.vm.findClass "com/example/keen_guess/keenguess/text/CodePointOrder" = some m.cls := hown
  refine Go.cast (g' := mkF m 0 #[.val (.ref x), .val (.ref y), .unset, .unset, .unset, .unset, .unset] []) (by first | (simp [entryFrame, mkF, argsToLocals, Value.category]; done) | rfl) ?_
  show Go p e below _ T0 (mkF m 0 _ [])
  have loop : ∀ (f i : Nat) (T : State) (s5 s6 : Slot), One s5 → One s6 → n ≤ i + f → k ≤ i + f → i + 2 * f ≤ 6 → Stand p l e ({ frames := 4, cells := 0, slots := 0, locals := 58 } : Room) s m #[.ref x, .ref y] below meth c T [] 0 0 → T.heap = h0 → own_go (own_F c0 c1 c2 n) (own_F d0 d1 d2 k) n k f i = own_go (own_F c0 c1 c2 n) (own_F d0 d1 d2 k) n k 3 0 → Go p e below (GoEnd s ({ frames := 4, cells := 0, slots := 0, locals := 58 } : Room).cells ({ frames := 4, cells := 0, slots := 0, locals := 58 } : Room).slots (PQ h0 (some (.int (own_go (own_F c0 c1 c2 n) (own_F d0 d1 d2 k) n k 3 0))))) T (mkF m 13 #[.val (.ref x), .val (.ref y), .val (.int (own_I n)), .val (.int (own_I k)), .val (.int (own_I i)), s5, s6] []) := by
    intro f
    induction f with
    | zero =>
      intro i T s5 s6 hs5 hs6 h1' h2' h3' X e' hR
      show Go p e below _ T (mkF m 13 _ [])
      refine Go.iload X hx hby k26_13 rfl ?_
      refine Go.iloadN X hx hby k26_15 rfl ?_
      refine Go.icmpYes 69 X hx hby k26_16 (flt (fun z => absurd ((own_I_lt (by omega) (by omega)).mp z) (by omega))).2.1 (by decide) (by decide) ?_
      refine Go.iloadN X hx hby k26_69 rfl ?_
      refine Go.iload X hx hby k26_70 rfl ?_
      refine Go.isub X hx hby k26_72 rfl ?_
      refine Go.iloadN X hx hby k26_73 rfl ?_
      refine Go.iload X hx hby k26_74 rfl ?_
      refine Go.isub X hx hby k26_76 rfl ?_
      refine Go.callSP (W := 0) (y := y_4) (argsL := [(.int ((own_I n) - (own_I i))), (.int ((own_I k) - (own_I i)))]) (rest := []) (r := some (.int (own_ic ((own_I n) - (own_I i)) ((own_I k) - (own_I i))))) X hx hZ hown (own_t hw 63 rfl) (own_t hw 64 rfl) (own_t hw 65 rfl) (own_t hw 66 rfl) (by decide) (own_rmIC l Z a0 hw ((own_I n) - (own_I i)) ((own_I k) - (own_I i)) h0) e' (by rw [hml]; rfl) (lenOf own_dsc17 rfl) (hb hby k26_77) rfl (Nat.le_of_eq rfl) (by decide) (by decide) (by decide) (by decide) fun T1 X1 e1 => ?_
      show Go p e below _ T1 (mkF m 80 _ [(.int (own_ic ((own_I n) - (own_I i)) ((own_I k) - (own_I i))))])
      exact Go.retI X1 hx hlk hret (hb hby k26_80) (by decide) (by decide) ⟨congrArg (fun z => some (Value.int z)) (hR), rfl, e1⟩
    | succ f ih =>
      intro i T s5 s6 hs5 hs6 h1' h2' h3' X e' hR
      show Go p e below _ T (mkF m 13 _ [])
      refine Go.iload X hx hby k26_13 rfl ?_
      refine Go.iloadN X hx hby k26_15 rfl ?_
      by_cases hc16 : (own_I i) < (own_I n)
      ·
        refine Go.icmpNo X hx hby k26_16 (tlt hc16).2.1 ?_
        refine Go.iload X hx hby k26_19 rfl ?_
        refine Go.iloadN X hx hby k26_21 rfl ?_
        by_cases hc22 : (own_I i) < (own_I k)
        ·
          refine Go.icmpNo X hx hby k26_22 (tlt hc22).2.1 ?_
          refine Go.aloadN X hx hby k26_25 rfl rfl ?_
          refine Go.iload X hx hby k26_26 rfl ?_
          refine Go.callVP (W := 0) (y := y_15) (z := y_15) (a := x) (argsL := [(.int (own_I i))]) (rest := []) (r := some (.int (own_F c0 c1 c2 n i))) X hx hZ hown (own_t hw 67 rfl) (own_t hw 68 rfl) (notFace_of_selects (args := #[]) (mvT hZ (own_t hw 70 rfl))) (own_t hw 70 rfl) (own_t hw 69 rfl) (own_t hw 10 rfl) (own_t hw 71 rfl) (by decide) (own_rmPt l Z a0 hw x c0 c1 c2 cz G n i h0 XS' hn r0 r1 r2 SB hz SA SH SL SG hG ((own_I_lt (by omega) (by omega)).mp hc16)) e' XS'.1 (by rw [hml]; rfl) (lenOf own_dsc9 rfl) (hb hby k26_28) rfl (Nat.le_of_eq rfl) (by decide) (by decide) (by decide) (by decide) fun T2 X2 e2 => ?_
          show Go p e below _ T2 (mkF m 31 _ [(.int (own_F c0 c1 c2 n i))])
          refine Go.istore X2 hx hby k26_31 (l' := #[.val (.ref x), .val (.ref y), .val (.int (own_I n)), .val (.int (own_I k)), .val (.int (own_I i)), .val (.int (own_F c0 c1 c2 n i)), s6]) (own_k26_os31 hs5) ?_
          refine Go.aloadN X2 hx hby k26_33 rfl rfl ?_
          refine Go.iload X2 hx hby k26_34 rfl ?_
          refine Go.callVP (W := 0) (y := y_15) (z := y_15) (a := y) (argsL := [(.int (own_I i))]) (rest := []) (r := some (.int (own_F d0 d1 d2 k i))) X2 hx hZ hown (own_t hw 67 rfl) (own_t hw 68 rfl) (notFace_of_selects (args := #[]) (mvT hZ (own_t hw 70 rfl))) (own_t hw 70 rfl) (own_t hw 69 rfl) (own_t hw 10 rfl) (own_t hw 71 rfl) (by decide) (own_rmPt l Z a0 hw y d0 d1 d2 cz G k i h0 YS' hk e0' e1' e2' SB hz SA SH SL SG hG ((own_I_lt (by omega) (by omega)).mp hc22)) e2 YS'.1 (by rw [hml]; rfl) (lenOf own_dsc9 rfl) (hb hby k26_36) rfl (Nat.le_of_eq rfl) (by decide) (by decide) (by decide) (by decide) fun T3 X3 e3 => ?_
          show Go p e below _ T3 (mkF m 39 _ [(.int (own_F d0 d1 d2 k i))])
          refine Go.istore X3 hx hby k26_39 (l' := #[.val (.ref x), .val (.ref y), .val (.int (own_I n)), .val (.int (own_I k)), .val (.int (own_I i)), .val (.int (own_F c0 c1 c2 n i)), .val (.int (own_F d0 d1 d2 k i))]) (own_k26_os39 hs6) ?_
          refine Go.iload X3 hx hby k26_41 rfl ?_
          refine Go.iload X3 hx hby k26_43 rfl ?_
          by_cases hc45 : (own_F c0 c1 c2 n i) = (own_F d0 d1 d2 k i)
          ·
            refine Go.icmpYes 56 X3 hx hby k26_45 (teq hc45).1 (by decide) (by decide) ?_
            refine Go.iload X3 hx hby k26_56 rfl ?_
            refine Go.iload X3 hx hby k26_58 rfl ?_
            refine Go.callSP (W := 1) (y := y_3) (argsL := [(.int (own_F c0 c1 c2 n i))]) (rest := [(.int (own_I i))]) (r := some (.int (own_cc (own_F c0 c1 c2 n i)))) X3 hx hZ hown (own_t hw 120 rfl) (own_t hw 121 rfl) (own_t hw 116 rfl) (own_t hw 122 rfl) (by decide) (own_rmCC l Z a0 hw (own_F c0 c1 c2 n i) h0) e3 (by rw [hml]; rfl) (lenOf own_dsc9 rfl) (hb hby k26_60) rfl (Nat.le_of_eq rfl) (by decide) (by decide) (by decide) (by decide) fun T4 X4 e4 => ?_
            show Go p e below _ T4 (mkF m 63 _ [(.int (own_cc (own_F c0 c1 c2 n i))), (.int (own_I i))])
            refine Go.iadd X4 hx hby k26_63 rfl ?_
            show Go p e below _ T4 (mkF m 64 _ [(.int ((own_I i) + (own_cc (own_F c0 c1 c2 n i))))])
            rw [own_ccnx i (own_F c0 c1 c2 n i)]
            show Go p e below _ T4 (mkF m 64 _ [(.int (own_I (own_nx i (own_F c0 c1 c2 n i))))])
            refine Go.istore X4 hx hby k26_64 (l' := #[.val (.ref x), .val (.ref y), .val (.int (own_I n)), .val (.int (own_I k)), .val (.int (own_I (own_nx i (own_F c0 c1 c2 n i)))), .val (.int (own_F c0 c1 c2 n i)), .val (.int (own_F d0 d1 d2 k i))]) rfl ?_
            refine Go.goto 13 X4 hx hby k26_66 (by decide) (by decide) ?_
            exact ih (own_nx i (own_F c0 c1 c2 n i)) T4 _ _ (One.val rfl) (One.val rfl) (by have := own_nxge i (own_F c0 c1 c2 n i); omega) (by have := own_nxge i (own_F c0 c1 c2 n i); omega) (by have := own_nxle i (own_F c0 c1 c2 n i); omega) X4 e4 (by have q := hR; unfold own_go at q; simp only [if_pos hc16, if_pos hc22, if_pos hc45] at q; exact q)
          ·
            refine Go.icmpNo X3 hx hby k26_45 (feq hc45).1 ?_
            refine Go.iload X3 hx hby k26_48 rfl ?_
            refine Go.iload X3 hx hby k26_50 rfl ?_
            refine Go.callSP (W := 0) (y := y_4) (argsL := [(.int (own_F c0 c1 c2 n i)), (.int (own_F d0 d1 d2 k i))]) (rest := []) (r := some (.int (own_ic (own_F c0 c1 c2 n i) (own_F d0 d1 d2 k i)))) X3 hx hZ hown (own_t hw 63 rfl) (own_t hw 64 rfl) (own_t hw 65 rfl) (own_t hw 66 rfl) (by decide) (own_rmIC l Z a0 hw (own_F c0 c1 c2 n i) (own_F d0 d1 d2 k i) h0) e3 (by rw [hml]; rfl) (lenOf own_dsc17 rfl) (hb hby k26_52) rfl (Nat.le_of_eq rfl) (by decide) (by decide) (by decide) (by decide) fun T5 X5 e5 => ?_
            show Go p e below _ T5 (mkF m 55 _ [(.int (own_ic (own_F c0 c1 c2 n i) (own_F d0 d1 d2 k i)))])
            exact Go.retI X5 hx hlk hret (hb hby k26_55) (by decide) (by decide) ⟨congrArg (fun z => some (Value.int z)) ((by have q := hR; unfold own_go at q; simp only [if_pos hc16, if_pos hc22, if_neg hc45] at q; exact q)), rfl, e5⟩
        ·
          refine Go.icmpYes 69 X hx hby k26_22 (flt hc22).2.1 (by decide) (by decide) ?_
          refine Go.iloadN X hx hby k26_69 rfl ?_
          refine Go.iload X hx hby k26_70 rfl ?_
          refine Go.isub X hx hby k26_72 rfl ?_
          refine Go.iloadN X hx hby k26_73 rfl ?_
          refine Go.iload X hx hby k26_74 rfl ?_
          refine Go.isub X hx hby k26_76 rfl ?_
          refine Go.callSP (W := 0) (y := y_4) (argsL := [(.int ((own_I n) - (own_I i))), (.int ((own_I k) - (own_I i)))]) (rest := []) (r := some (.int (own_ic ((own_I n) - (own_I i)) ((own_I k) - (own_I i))))) X hx hZ hown (own_t hw 63 rfl) (own_t hw 64 rfl) (own_t hw 65 rfl) (own_t hw 66 rfl) (by decide) (own_rmIC l Z a0 hw ((own_I n) - (own_I i)) ((own_I k) - (own_I i)) h0) e' (by rw [hml]; rfl) (lenOf own_dsc17 rfl) (hb hby k26_77) rfl (Nat.le_of_eq rfl) (by decide) (by decide) (by decide) (by decide) fun T6 X6 e6 => ?_
          show Go p e below _ T6 (mkF m 80 _ [(.int (own_ic ((own_I n) - (own_I i)) ((own_I k) - (own_I i))))])
          exact Go.retI X6 hx hlk hret (hb hby k26_80) (by decide) (by decide) ⟨congrArg (fun z => some (Value.int z)) ((by have q := hR; unfold own_go at q; simp only [if_pos hc16, if_neg hc22] at q; exact q)), rfl, e6⟩
      ·
        refine Go.icmpYes 69 X hx hby k26_16 (flt hc16).2.1 (by decide) (by decide) ?_
        refine Go.iloadN X hx hby k26_69 rfl ?_
        refine Go.iload X hx hby k26_70 rfl ?_
        refine Go.isub X hx hby k26_72 rfl ?_
        refine Go.iloadN X hx hby k26_73 rfl ?_
        refine Go.iload X hx hby k26_74 rfl ?_
        refine Go.isub X hx hby k26_76 rfl ?_
        refine Go.callSP (W := 0) (y := y_4) (argsL := [(.int ((own_I n) - (own_I i))), (.int ((own_I k) - (own_I i)))]) (rest := []) (r := some (.int (own_ic ((own_I n) - (own_I i)) ((own_I k) - (own_I i))))) X hx hZ hown (own_t hw 63 rfl) (own_t hw 64 rfl) (own_t hw 65 rfl) (own_t hw 66 rfl) (by decide) (own_rmIC l Z a0 hw ((own_I n) - (own_I i)) ((own_I k) - (own_I i)) h0) e' (by rw [hml]; rfl) (lenOf own_dsc17 rfl) (hb hby k26_77) rfl (Nat.le_of_eq rfl) (by decide) (by decide) (by decide) (by decide) fun T7 X7 e7 => ?_
        show Go p e below _ T7 (mkF m 80 _ [(.int (own_ic ((own_I n) - (own_I i)) ((own_I k) - (own_I i))))])
        exact Go.retI X7 hx hlk hret (hb hby k26_80) (by decide) (by decide) ⟨congrArg (fun z => some (Value.int z)) ((by have q := hR; unfold own_go at q; simp only [if_neg hc16] at q; exact q)), rfl, e7⟩
  refine Go.aloadN X0 hx hby k26_0 rfl rfl ?_
  refine Go.callVP (W := 0) (y := y_14) (z := y_14) (a := x) (argsL := []) (rest := []) (r := some (.int (own_I n))) X0 hx hZ hown (own_t hw 53 rfl) (own_t hw 54 rfl) (notFace_of_selects (args := #[]) (mvT hZ (own_t hw 56 rfl))) (own_t hw 56 rfl) (own_t hw 55 rfl) (own_t hw 10 rfl) (own_t hw 57 rfl) (by decide) (own_rmLn l Z a0 hw x c0 c1 c2 cz G n h0 XS' hn r0 r1 r2 SB hz SA SH SL SG hG) e0 XS'.1 (by rw [hml]; rfl) (lenOf own_dsc18 rfl) (hb hby k26_1) rfl (Nat.le_of_eq rfl) (by decide) (by decide) (by decide) (by decide) fun T8 X8 e8 => ?_
  show Go p e below _ T8 (mkF m 4 _ [(.int (own_I n))])
  refine Go.istoreN X8 hx hby k26_4 (l' := #[.val (.ref x), .val (.ref y), .val (.int (own_I n)), .unset, .unset, .unset, .unset]) rfl ?_
  refine Go.aloadN X8 hx hby k26_5 rfl rfl ?_
  refine Go.callVP (W := 0) (y := y_14) (z := y_14) (a := y) (argsL := []) (rest := []) (r := some (.int (own_I k))) X8 hx hZ hown (own_t hw 53 rfl) (own_t hw 54 rfl) (notFace_of_selects (args := #[]) (mvT hZ (own_t hw 56 rfl))) (own_t hw 56 rfl) (own_t hw 55 rfl) (own_t hw 10 rfl) (own_t hw 57 rfl) (by decide) (own_rmLn l Z a0 hw y d0 d1 d2 cz G k h0 YS' hk e0' e1' e2' SB hz SA SH SL SG hG) e8 YS'.1 (by rw [hml]; rfl) (lenOf own_dsc18 rfl) (hb hby k26_6) rfl (Nat.le_of_eq rfl) (by decide) (by decide) (by decide) (by decide) fun T9 X9 e9 => ?_
  show Go p e below _ T9 (mkF m 9 _ [(.int (own_I k))])
  refine Go.istoreN X9 hx hby k26_9 (l' := #[.val (.ref x), .val (.ref y), .val (.int (own_I n)), .val (.int (own_I k)), .unset, .unset, .unset]) rfl ?_
  refine Go.iconst 0 X9 hx hby k26_10 rfl ?_
  refine Go.istore X9 hx hby k26_11 (l' := #[.val (.ref x), .val (.ref y), .val (.int (own_I n)), .val (.int (own_I k)), .val (.int 0), .unset, .unset]) rfl ?_
  exact loop 3 0 T9 _ _ (Or.inl rfl) (Or.inl rfl) (by omega) (by omega) (by omega) X9 e9 rfl
theorem k27_0 : decode method_3_code 0 = .ok (.iload_n 0, 1) := by decide +kernel
theorem k27_1 : decode method_3_code 1 = .ok (.ldc 31, 2) := by decide +kernel
theorem k27_3 : decode method_3_code 3 = .ok (.iand, 1) := by decide +kernel
theorem k27_4 : decode method_3_code 4 = .ok (.istore_n 3, 1) := by decide +kernel
theorem k27_5 : decode method_3_code 5 = .ok (.iload_n 1, 1) := by decide +kernel
theorem k27_6 : decode method_3_code 6 = .ok (.iload_n 2, 1) := by decide +kernel
theorem k27_7 : decode method_3_code 7 = .ok (.iushr, 1) := by decide +kernel
theorem k27_8 : decode method_3_code 8 = .ok (.iconst 1, 1) := by decide +kernel
theorem k27_9 : decode method_3_code 9 = .ok (.iand, 1) := by decide +kernel
theorem k27_10 : decode method_3_code 10 = .ok (.ifCond .ne 6, 3) := by decide +kernel
theorem k27_13 : decode method_3_code 13 = .ok (.iload_n 3, 1) := by decide +kernel
theorem k27_14 : decode method_3_code 14 = .ok (.i2c, 1) := by decide +kernel
theorem k27_15 : decode method_3_code 15 = .ok (.ireturn, 1) := by decide +kernel
theorem k27_16 : decode method_3_code 16 = .ok (.iload_n 3, 1) := by decide +kernel
theorem k27_17 : decode method_3_code 17 = .ok (.iconst 3, 1) := by decide +kernel
theorem k27_18 : decode method_3_code 18 = .ok (.iand, 1) := by decide +kernel
theorem k27_19 : decode method_3_code 19 = .ok (.istore 4, 2) := by decide +kernel
theorem k27_21 : decode method_3_code 21 = .ok (.iload_n 3, 1) := by decide +kernel
theorem k27_22 : decode method_3_code 22 = .ok (.iconst 4, 1) := by decide +kernel
theorem k27_23 : decode method_3_code 23 = .ok (.iand, 1) := by decide +kernel
theorem k27_24 : decode method_3_code 24 = .ok (.ifCond .eq 7, 3) := by decide +kernel
theorem k27_27 : decode method_3_code 27 = .ok (.iconst 1, 1) := by decide +kernel
theorem k27_28 : decode method_3_code 28 = .ok (.goto 4, 3) := by decide +kernel
theorem k27_31 : decode method_3_code 31 = .ok (.iconst 0, 1) := by decide +kernel
theorem k27_32 : decode method_3_code 32 = .ok (.istore 5, 2) := by decide +kernel
theorem k27_34 : decode method_3_code 34 = .ok (.iload 4, 2) := by decide +kernel
theorem k27_36 : decode method_3_code 36 = .ok (.ifCond .ne 16, 3) := by decide +kernel
theorem k27_39 : decode method_3_code 39 = .ok (.iload 5, 2) := by decide +kernel
theorem k27_41 : decode method_3_code 41 = .ok (.ifCond .eq 8, 3) := by decide +kernel
theorem k27_44 : decode method_3_code 44 = .ok (.bipush 66, 2) := by decide +kernel
theorem k27_46 : decode method_3_code 46 = .ok (.goto 5, 3) := by decide +kernel
theorem k27_49 : decode method_3_code 49 = .ok (.bipush 65, 2) := by decide +kernel
theorem k27_51 : decode method_3_code 51 = .ok (.ireturn, 1) := by decide +kernel
theorem k27_52 : decode method_3_code 52 = .ok (.iload 4, 2) := by decide +kernel
theorem k27_54 : decode method_3_code 54 = .ok (.iconst 1, 1) := by decide +kernel
theorem k27_55 : decode method_3_code 55 = .ok (.if_icmp .ne 16, 3) := by decide +kernel
theorem k27_58 : decode method_3_code 58 = .ok (.iload 5, 2) := by decide +kernel
theorem k27_60 : decode method_3_code 60 = .ok (.ifCond .eq 8, 3) := by decide +kernel
theorem k27_63 : decode method_3_code 63 = .ok (.ldc 32, 2) := by decide +kernel
theorem k27_65 : decode method_3_code 65 = .ok (.goto 5, 3) := by decide +kernel
theorem k27_68 : decode method_3_code 68 = .ok (.ldc 33, 2) := by decide +kernel
theorem k27_70 : decode method_3_code 70 = .ok (.ireturn, 1) := by decide +kernel
theorem k27_71 : decode method_3_code 71 = .ok (.iload 4, 2) := by decide +kernel
theorem k27_73 : decode method_3_code 73 = .ok (.iconst 2, 1) := by decide +kernel
theorem k27_74 : decode method_3_code 74 = .ok (.if_icmp .ne 16, 3) := by decide +kernel
theorem k27_77 : decode method_3_code 77 = .ok (.iload 5, 2) := by decide +kernel
theorem k27_79 : decode method_3_code 79 = .ok (.ifCond .eq 8, 3) := by decide +kernel
theorem k27_82 : decode method_3_code 82 = .ok (.ldc 34, 2) := by decide +kernel
theorem k27_84 : decode method_3_code 84 = .ok (.goto 5, 3) := by decide +kernel
theorem k27_87 : decode method_3_code 87 = .ok (.ldc 35, 2) := by decide +kernel
theorem k27_89 : decode method_3_code 89 = .ok (.ireturn, 1) := by decide +kernel
theorem k27_90 : decode method_3_code 90 = .ok (.iload 5, 2) := by decide +kernel
theorem k27_92 : decode method_3_code 92 = .ok (.ifCond .eq 8, 3) := by decide +kernel
theorem k27_95 : decode method_3_code 95 = .ok (.ldc 31, 2) := by decide +kernel
theorem k27_97 : decode method_3_code 97 = .ok (.goto 5, 3) := by decide +kernel
theorem k27_100 : decode method_3_code 100 = .ok (.ldc 36, 2) := by decide +kernel
theorem k27_102 : decode method_3_code 102 = .ok (.ireturn, 1) := by decide +kernel
abbrev own_rmPk_Q (Z : State) (ra sb bi : Int32) (h0 : Heap) : Option Value → Heap → List Loc → Prop := fun v h L => (∃ z, v = some (.int z) ∧ own_C z) ∧ L = [] ∧ h = h0
theorem own_rmPk (l : Launch) (Z : State) (a0 : Array Value) (hw : ∀ d ∈ tables_1, d.before a0 Z = true) (ra sb bi : Int32) (h0 : Heap)  :
    MetAt l Z y_27 method_3_code 6 (some .char) ({ frames := 0, cells := 0, slots := 0, locals := 0 } : Room) #[(.int ra), (.int sb), (.int bi)] h0 ((own_rmPk_Q Z ra sb bi h0)) := by
  refine goBodyM (plainFor_of_name (by first | (simp [plainName, overriddenIn]; done) | decide +kernel)) ?_
  intro p e s m below meth c T0 hx hZ hby hml hown hnm hret hlk X0 e0
  have hown : s.vm.findClass "com/example/keen_guess/keenguess/text/CodePointOrderComparePinLaw" = some m.cls := hown
  refine Go.cast (g' := mkF m 0 #[.val (.int ra), .val (.int sb), .val (.int bi), .unset, .unset, .unset] []) (by first | (simp [entryFrame, mkF, argsToLocals, Value.category]; done) | rfl) ?_
  show Go p e below _ T0 (mkF m 0 _ [])
  refine Go.iloadN X0 hx hby k27_0 rfl ?_
  refine Go.of (X0.ldcInt hx hown (mvT hZ (own_t hw 4 rfl)) (g := (mkF m 1 #[.val (.int ra), .val (.int sb), .val (.int bi), .unset, .unset, .unset] [(.int ra)])) rfl (hb hby k27_1)) ?_
  show Go p e below _ T0 (mkF m 3 _ [(.int 65535), (.int ra)])
  refine Go.iand X0 hx hby k27_3 rfl ?_
  refine Go.istoreN X0 hx hby k27_4 (l' := #[.val (.int ra), .val (.int sb), .val (.int bi), .val (.int (ra &&& (65535 : Int32))), .unset, .unset]) rfl ?_
  refine Go.iloadN X0 hx hby k27_5 rfl ?_
  refine Go.iloadN X0 hx hby k27_6 rfl ?_
  refine Go.iushr X0 hx hby k27_7 rfl ?_
  refine Go.iconst 1 X0 hx hby k27_8 rfl ?_
  refine Go.iand X0 hx hby k27_9 rfl ?_
  by_cases hc10 : ((XS.ushr sb bi) &&& (1 : Int32)) = (0 : Int32)
  ·
    refine Go.ifNo X0 hx hby k27_10 ((if0 _ _).trans (teq hc10).2) ?_
    refine Go.iloadN X0 hx hby k27_13 rfl ?_
    refine Go.i2c X0 hx hby k27_14 rfl ?_
    exact Go.retN X0 hx hlk (t := .char) hret (by simp) (hb hby k27_15) (by decide) (by decide) ⟨⟨_, rfl, own_n16 _⟩, rfl, e0⟩
  ·
    refine Go.ifYes 16 X0 hx hby k27_10 ((if0 _ _).trans (feq hc10).2) (by decide) (by decide) ?_
    refine Go.iloadN X0 hx hby k27_16 rfl ?_
    refine Go.iconst 3 X0 hx hby k27_17 rfl ?_
    refine Go.iand X0 hx hby k27_18 rfl ?_
    refine Go.istore X0 hx hby k27_19 (l' := #[.val (.int ra), .val (.int sb), .val (.int bi), .val (.int (ra &&& (65535 : Int32))), .val (.int ((ra &&& (65535 : Int32)) &&& (3 : Int32))), .unset]) rfl ?_
    refine Go.iloadN X0 hx hby k27_21 rfl ?_
    refine Go.iconst 4 X0 hx hby k27_22 rfl ?_
    show Go p e below _ T0 (mkF m 23 _ [(.int 4), (.int (ra &&& (65535 : Int32)))])
    refine Go.iand X0 hx hby k27_23 rfl ?_
    by_cases hc24 : ((ra &&& (65535 : Int32)) &&& (4 : Int32)) = (0 : Int32)
    ·
      refine Go.ifYes 31 X0 hx hby k27_24 ((if0 _ _).trans (teq hc24).1) (by decide) (by decide) ?_
      refine Go.iconst 0 X0 hx hby k27_31 rfl ?_
      refine Go.istore X0 hx hby k27_32 (l' := #[.val (.int ra), .val (.int sb), .val (.int bi), .val (.int (ra &&& (65535 : Int32))), .val (.int ((ra &&& (65535 : Int32)) &&& (3 : Int32))), .val (.int 0)]) rfl ?_
      refine Go.iload X0 hx hby k27_34 rfl ?_
      by_cases hc36 : ((ra &&& (65535 : Int32)) &&& (3 : Int32)) = (0 : Int32)
      ·
        refine Go.ifNo X0 hx hby k27_36 ((if0 _ _).trans (teq hc36).2) ?_
        refine Go.iload X0 hx hby k27_39 rfl ?_
        refine Go.ifYes 49 X0 hx hby k27_41 ((if0 _ _).trans (teq (by decide : (0 : Int32) = (0 : Int32))).1) (by decide) (by decide) ?_
        refine Go.bipush 65 X0 hx hby k27_49 rfl ?_
        exact Go.retN X0 hx hlk (t := .char) hret (by simp) (hb hby k27_51) (by decide) (by decide) ⟨⟨_, rfl, own_n16 _⟩, rfl, e0⟩
      ·
        refine Go.ifYes 52 X0 hx hby k27_36 ((if0 _ _).trans (feq hc36).2) (by decide) (by decide) ?_
        refine Go.iload X0 hx hby k27_52 rfl ?_
        refine Go.iconst 1 X0 hx hby k27_54 rfl ?_
        by_cases hc55 : ((ra &&& (65535 : Int32)) &&& (3 : Int32)) = (1 : Int32)
        ·
          refine Go.icmpNo X0 hx hby k27_55 (teq hc55).2 ?_
          refine Go.iload X0 hx hby k27_58 rfl ?_
          refine Go.ifYes 68 X0 hx hby k27_60 ((if0 _ _).trans (teq (by decide : (0 : Int32) = (0 : Int32))).1) (by decide) (by decide) ?_
          refine Go.of (X0.ldcInt hx hown (mvT hZ (own_t hw 44 rfl)) (g := (mkF m 68 #[.val (.int ra), .val (.int sb), .val (.int bi), .val (.int (ra &&& (65535 : Int32))), .val (.int ((ra &&& (65535 : Int32)) &&& (3 : Int32))), .val (.int 0)] [])) rfl (hb hby k27_68)) ?_
          show Go p e below _ T0 (mkF m 70 _ [(.int 55296)])
          exact Go.retN X0 hx hlk (t := .char) hret (by simp) (hb hby k27_70) (by decide) (by decide) ⟨⟨_, rfl, own_n16 _⟩, rfl, e0⟩
        ·
          refine Go.icmpYes 71 X0 hx hby k27_55 (feq hc55).2 (by decide) (by decide) ?_
          refine Go.iload X0 hx hby k27_71 rfl ?_
          refine Go.iconst 2 X0 hx hby k27_73 rfl ?_
          by_cases hc74 : ((ra &&& (65535 : Int32)) &&& (3 : Int32)) = (2 : Int32)
          ·
            refine Go.icmpNo X0 hx hby k27_74 (teq hc74).2 ?_
            refine Go.iload X0 hx hby k27_77 rfl ?_
            refine Go.ifYes 87 X0 hx hby k27_79 ((if0 _ _).trans (teq (by decide : (0 : Int32) = (0 : Int32))).1) (by decide) (by decide) ?_
            refine Go.of (X0.ldcInt hx hown (mvT hZ (own_t hw 107 rfl)) (g := (mkF m 87 #[.val (.int ra), .val (.int sb), .val (.int bi), .val (.int (ra &&& (65535 : Int32))), .val (.int ((ra &&& (65535 : Int32)) &&& (3 : Int32))), .val (.int 0)] [])) rfl (hb hby k27_87)) ?_
            show Go p e below _ T0 (mkF m 89 _ [(.int 56320)])
            exact Go.retN X0 hx hlk (t := .char) hret (by simp) (hb hby k27_89) (by decide) (by decide) ⟨⟨_, rfl, own_n16 _⟩, rfl, e0⟩
          ·
            refine Go.icmpYes 90 X0 hx hby k27_74 (feq hc74).2 (by decide) (by decide) ?_
            refine Go.iload X0 hx hby k27_90 rfl ?_
            refine Go.ifYes 100 X0 hx hby k27_92 ((if0 _ _).trans (teq (by decide : (0 : Int32) = (0 : Int32))).1) (by decide) (by decide) ?_
            refine Go.of (X0.ldcInt hx hown (mvT hZ (own_t hw 87 rfl)) (g := (mkF m 100 #[.val (.int ra), .val (.int sb), .val (.int bi), .val (.int (ra &&& (65535 : Int32))), .val (.int ((ra &&& (65535 : Int32)) &&& (3 : Int32))), .val (.int 0)] [])) rfl (hb hby k27_100)) ?_
            show Go p e below _ T0 (mkF m 102 _ [(.int 57344)])
            exact Go.retN X0 hx hlk (t := .char) hret (by simp) (hb hby k27_102) (by decide) (by decide) ⟨⟨_, rfl, own_n16 _⟩, rfl, e0⟩
    ·
      refine Go.ifNo X0 hx hby k27_24 ((if0 _ _).trans (feq hc24).1) ?_
      refine Go.iconst 1 X0 hx hby k27_27 rfl ?_
      refine Go.goto 32 X0 hx hby k27_28 (by decide) (by decide) ?_
      refine Go.istore X0 hx hby k27_32 (l' := #[.val (.int ra), .val (.int sb), .val (.int bi), .val (.int (ra &&& (65535 : Int32))), .val (.int ((ra &&& (65535 : Int32)) &&& (3 : Int32))), .val (.int 1)]) rfl ?_
      refine Go.iload X0 hx hby k27_34 rfl ?_
      by_cases hc36 : ((ra &&& (65535 : Int32)) &&& (3 : Int32)) = (0 : Int32)
      ·
        refine Go.ifNo X0 hx hby k27_36 ((if0 _ _).trans (teq hc36).2) ?_
        refine Go.iload X0 hx hby k27_39 rfl ?_
        refine Go.ifNo X0 hx hby k27_41 ((if0 _ _).trans (feq (by decide : ¬ ((1 : Int32) = (0 : Int32)))).1) ?_
        refine Go.bipush 66 X0 hx hby k27_44 rfl ?_
        refine Go.goto 51 X0 hx hby k27_46 (by decide) (by decide) ?_
        exact Go.retN X0 hx hlk (t := .char) hret (by simp) (hb hby k27_51) (by decide) (by decide) ⟨⟨_, rfl, own_n16 _⟩, rfl, e0⟩
      ·
        refine Go.ifYes 52 X0 hx hby k27_36 ((if0 _ _).trans (feq hc36).2) (by decide) (by decide) ?_
        refine Go.iload X0 hx hby k27_52 rfl ?_
        refine Go.iconst 1 X0 hx hby k27_54 rfl ?_
        by_cases hc55 : ((ra &&& (65535 : Int32)) &&& (3 : Int32)) = (1 : Int32)
        ·
          refine Go.icmpNo X0 hx hby k27_55 (teq hc55).2 ?_
          refine Go.iload X0 hx hby k27_58 rfl ?_
          refine Go.ifNo X0 hx hby k27_60 ((if0 _ _).trans (feq (by decide : ¬ ((1 : Int32) = (0 : Int32)))).1) ?_
          refine Go.of (X0.ldcInt hx hown (mvT hZ (own_t hw 86 rfl)) (g := (mkF m 63 #[.val (.int ra), .val (.int sb), .val (.int bi), .val (.int (ra &&& (65535 : Int32))), .val (.int ((ra &&& (65535 : Int32)) &&& (3 : Int32))), .val (.int 1)] [])) rfl (hb hby k27_63)) ?_
          show Go p e below _ T0 (mkF m 65 _ [(.int 56319)])
          refine Go.goto 70 X0 hx hby k27_65 (by decide) (by decide) ?_
          exact Go.retN X0 hx hlk (t := .char) hret (by simp) (hb hby k27_70) (by decide) (by decide) ⟨⟨_, rfl, own_n16 _⟩, rfl, e0⟩
        ·
          refine Go.icmpYes 71 X0 hx hby k27_55 (feq hc55).2 (by decide) (by decide) ?_
          refine Go.iload X0 hx hby k27_71 rfl ?_
          refine Go.iconst 2 X0 hx hby k27_73 rfl ?_
          by_cases hc74 : ((ra &&& (65535 : Int32)) &&& (3 : Int32)) = (2 : Int32)
          ·
            refine Go.icmpNo X0 hx hby k27_74 (teq hc74).2 ?_
            refine Go.iload X0 hx hby k27_77 rfl ?_
            show Go p e below _ T0 (mkF m 79 _ [(.int 1)])
            refine Go.ifNo X0 hx hby k27_79 ((if0 _ _).trans (feq (by decide : ¬ ((1 : Int32) = (0 : Int32)))).1) ?_
            refine Go.of (X0.ldcInt hx hown (mvT hZ (own_t hw 85 rfl)) (g := (mkF m 82 #[.val (.int ra), .val (.int sb), .val (.int bi), .val (.int (ra &&& (65535 : Int32))), .val (.int ((ra &&& (65535 : Int32)) &&& (3 : Int32))), .val (.int 1)] [])) rfl (hb hby k27_82)) ?_
            show Go p e below _ T0 (mkF m 84 _ [(.int 57343)])
            refine Go.goto 89 X0 hx hby k27_84 (by decide) (by decide) ?_
            exact Go.retN X0 hx hlk (t := .char) hret (by simp) (hb hby k27_89) (by decide) (by decide) ⟨⟨_, rfl, own_n16 _⟩, rfl, e0⟩
          ·
            refine Go.icmpYes 90 X0 hx hby k27_74 (feq hc74).2 (by decide) (by decide) ?_
            refine Go.iload X0 hx hby k27_90 rfl ?_
            show Go p e below _ T0 (mkF m 92 _ [(.int 1)])
            refine Go.ifNo X0 hx hby k27_92 ((if0 _ _).trans (feq (by decide : ¬ ((1 : Int32) = (0 : Int32)))).1) ?_
            refine Go.of (X0.ldcInt hx hown (mvT hZ (own_t hw 4 rfl)) (g := (mkF m 95 #[.val (.int ra), .val (.int sb), .val (.int bi), .val (.int (ra &&& (65535 : Int32))), .val (.int ((ra &&& (65535 : Int32)) &&& (3 : Int32))), .val (.int 1)] [])) rfl (hb hby k27_95)) ?_
            show Go p e below _ T0 (mkF m 97 _ [(.int 65535)])
            refine Go.goto 102 X0 hx hby k27_97 (by decide) (by decide) ?_
            exact Go.retN X0 hx hlk (t := .char) hret (by simp) (hb hby k27_102) (by decide) (by decide) ⟨⟨_, rfl, own_n16 _⟩, rfl, e0⟩
theorem own_and3 (y : Int32) : ∃ n, n ≤ 3 ∧ y &&& 3 = own_I n := by
  have e : (y &&& 3).toInt = ((y.toBitVec &&& 3#32).toInt) := rfl
  have k : (y.toBitVec &&& 3#32).toNat < 4 := by
    rw [BitVec.toNat_and]; exact Nat.lt_of_le_of_lt Nat.and_le_right (by decide)
  have h : 0 ≤ (y &&& 3).toInt ∧ (y &&& 3).toInt < 4 := by rw [e, BitVec.toInt_eq_toNat_cond]; split <;> omega
  refine ⟨(y &&& 3).toInt.toNat, by omega, ?_⟩
  apply Int32.toInt_inj.mp
  rw [own_I_toInt (by omega)]; omega
theorem own_StrK {Z : State} {h h' : Heap} {x : Addr} {c0 c1 c2 : Int32} {n : Nat} (K : Keep h h' []) (S : own_Str Z h x c0 c1 c2 n) : own_Str Z h' x c0 c1 c2 n := by
  obtain ⟨E, t, kb, F, q⟩ := S
  refine ⟨E.keep K, t, kb, F.keep K nin0, ?_⟩
  rcases q with ⟨q1, q2, q3⟩ | ⟨q1, q2, q3⟩
  · exact Or.inl ⟨q1.keep K nin0, q2, q3.keep K nin0⟩
  · exact Or.inr ⟨q1, q2.keep K nin0, q3.keep K nin0⟩
theorem own_staI {args : Array Value} {s : State} {C n d : String} {k : Int32} (h : (Cond.eq (Term.static C n d) (Term.int k)).value args s none s [] = some true) (hi : (Cond.initializedFor C n d).before args s = true) : Sta s s.heap C n d (.int k) := by
  obtain ⟨x, y, e1, e2, k1, k2⟩ := cmp_v (Or.inl h)
  cases e2
  obtain ⟨z, rfl⟩ := k2
  have e3 : z = k := of_decide_eq_true (Option.some.inj ((Cond.eq_ints e1 (Term.int_eval k)).symm.trans h))
  subst e3
  exact Sta.start e1 (Or.inl hi)
theorem own_D2 (l : Launch) (Z : State) (a0 : Array Value) (hw : ∀ d ∈ tables_1, d.before a0 Z = true) (p : Program) (e : Env) (s : State) (vm0 : Vm) (m : MethodId) (args : Array Value) (below : List Frame) (meth : Method) (c : Code) (T0 : State) (locs : List Loc) (k0 : Nat) (h0 hst : Heap) (x y : Addr) (xp xq xr xs : Int32) (n k : Nat) (c0 c1 c2 : Int32) (d0 d1 d2 : Int32) (cz : Int32) (G : Value)
    (hx : p.tables.exec = Jvm.exec) (hZ : Z.Warmed39 vm0) (hby : c.code = code) (hml : c.maxLocals = 29) (hown : vm0.findClass "com/example/keen_guess/keenguess/text/CodePointOrderComparePinLaw" = some m.cls) (hret : meth.sig.returnType = some .boolean) (hlk : meth.locks = false) (hS : s.Since vm0 k0) (hk : k0 ≤ h0.size) (hs0 : s.heap = hst) (hC : CHr Z consts_1 s.vm hst vm0 h0) (X0 : Stand p l e room_1 (s.setVm vm0) m args below meth c T0 locs 12 32) (e0 : T0.heap = h0) (N0 : Fr hst.size locs) (Z0 : hst.size ≤ h0.size) (OZ : Old Z hst.size h0) (XS' : own_Str Z h0 x c0 c1 c2 n) (YS' : own_Str Z h0 y d0 d1 d2 k) (hn : n ≤ 3) (hk' : k ≤ 3) (r0 : own_C c0) (r1 : own_C c1) (r2 : own_C c2) (e0' : own_C d0) (e1' : own_C d1) (e2' : own_C d2) (SB : own_SB Z Z.heap cz) (hz : ¬ cz = (0 : Int32)) (SA : own_SA Z Z.heap) (SH : own_SH Z Z.heap) (SL : own_SL Z Z.heap) (SG : own_SG Z Z.heap G) (hG : G.isRef = true) :
    Go p e below (GoEndH Z consts_1 s room_1.cells room_1.slots (fun v _ L => v = some (.int 1) ∧ Fr hst.size L)) T0 (mkF m 138 #[.val (.int xp), .val (.int xq), .val (.int xr), .val (.int xs), .val (.int (own_I n)), .val (.int (own_I k)), .val (.int c0), .val (.int c1), .val (.int c2), .val (.int d0), .val (.int d1), .val (.int d2), .val (.ref x), .val (.ref y), .unset, .unset, .unset, .unset, .unset, .unset, .unset, .unset, .unset, .unset, .unset, .unset, .unset, .unset, .unset] []) := by
  have hEL := own_EW Z a0 hw
  have wS : ∀ d ∈ Bundle.stringAtoms, d.before a0 Z = true := fun d hd => by
    simp only [Bundle.stringAtoms, List.mem_cons, List.not_mem_nil, or_false] at hd
    rcases hd with rfl | rfl | rfl | rfl | rfl | rfl | rfl
    · exact (own_t hw 10 rfl)
    · exact (own_t hw 9 rfl)
    · exact (own_t hw 27 rfl)
    · exact (own_t hw 37 rfl)
    · exact (own_t hw 35 rfl)
    · exact (own_t hw 39 rfl)
    · exact (own_t hw 40 rfl)
  show Go p e below _ T0 (mkF m 138 _ [])
  refine Go.iconst 3 X0 hx hby at_138 rfl ?_
  refine Go.newarr X0 hx hZ (own_t hw 11 rfl) e0 3 (by decide) (by decide) (by decide) (by decide) (by decide) (hb hby at_139) fun T1 h1 b1 k1 g1 X1 e1 E1 V1 => ?_
  have ge_b1 : hst.size ≤ b1 := g1 ▸ Z0
  have hs_b1 : h0.size ≤ b1 := g1 ▸ (Keep.refl h0 []).1
  have hC := hC.trans (CHr.ext E1 hC.1)
  have sz1 := Nat.le_trans Z0 E1.1
  have hk1 : k0 ≤ h1.size := Nat.le_trans hk E1.1
  have kp1 := (Keep.refl h0 []).ext E1
  have V1 : Arv Z h1 b1 k1 .char (3 : Int32) [(.int 0), (.int 0), (.int 0)] (.int 0) := V1
  refine Go.dup X1 hx hby at_141 rfl ?_
  refine Go.iconst 0 X1 hx hby at_142 rfl ?_
  refine Go.iload X1 hx hby at_143 rfl ?_
  refine Go.castore X1 hx hZ e1 V1 ⟨by decide, by decide⟩ 0 rfl (Nat.le_of_ble_eq_true rfl) (hb hby at_145) fun T2 h2 X2 e2 W2 V2 => ?_
  have hC := hC.trans (CHr.wr W2 (Safe.arv hZ.alike V1 (by decide)) hC.1)
  have sz2 := Nat.le_trans sz1 (Keep.of_wr W2).1
  have hk2 : k0 ≤ h2.size := Nat.le_trans hk1 (Keep.of_wr W2).1
  have kp2 := kp1.wr W2 (Or.inr hs_b1)
  have N2 := Fr.snoc X2 N0 ge_b1
  have V2 : Arv Z h2 b1 k1 .char (3 : Int32) [(.int (nar .char c0)), (.int 0), (.int 0)] (.int 0) := V2
  refine Go.dup X2 hx hby at_146 rfl ?_
  refine Go.iconst 1 X2 hx hby at_147 rfl ?_
  refine Go.iload X2 hx hby at_148 rfl ?_
  refine Go.castore X2 hx hZ e2 V2 ⟨by decide, by decide⟩ 1 rfl (Nat.le_of_ble_eq_true rfl) (hb hby at_150) fun T3 h3 X3 e3 W3 V3 => ?_
  have hC := hC.trans (CHr.wr W3 (Safe.arv hZ.alike V2 (by decide)) hC.1)
  have sz3 := Nat.le_trans sz2 (Keep.of_wr W3).1
  have hk3 : k0 ≤ h3.size := Nat.le_trans hk2 (Keep.of_wr W3).1
  have kp3 := kp2.wr W3 (Or.inr hs_b1)
  have N3 := Fr.snoc X3 N2 ge_b1
  have V3 : Arv Z h3 b1 k1 .char (3 : Int32) [(.int (nar .char c0)), (.int (nar .char c1)), (.int 0)] (.int 0) := V3
  refine Go.dup X3 hx hby at_151 rfl ?_
  refine Go.iconst 2 X3 hx hby at_152 rfl ?_
  refine Go.iload X3 hx hby at_153 rfl ?_
  refine Go.castore X3 hx hZ e3 V3 ⟨by decide, by decide⟩ 2 rfl (Nat.le_of_ble_eq_true rfl) (hb hby at_155) fun T4 h4 X4 e4 W4 V4 => ?_
  have hC := hC.trans (CHr.wr W4 (Safe.arv hZ.alike V3 (by decide)) hC.1)
  have sz4 := Nat.le_trans sz3 (Keep.of_wr W4).1
  have hk4 : k0 ≤ h4.size := Nat.le_trans hk3 (Keep.of_wr W4).1
  have kp4 := kp3.wr W4 (Or.inr hs_b1)
  have N4 := Fr.snoc X4 N3 ge_b1
  have V4 : Arv Z h4 b1 k1 .char (3 : Int32) [(.int (nar .char c0)), (.int (nar .char c1)), (.int (nar .char c2))] (.int 0) := V4
  show Go p e below _ T4 (mkF m 156 _ [(.ref b1)])
  have VQ5 : Arv Z h4 b1 k1 .char 3 [(.int c0), (.int c1), (.int c2)] (.int 0) := by have q := V4; rw [own_nc r0, own_nc r1, own_nc r2] at q; exact q
  refine Go.astore X4 hx hby at_156 rfl (l' := #[.val (.int xp), .val (.int xq), .val (.int xr), .val (.int xs), .val (.int (own_I n)), .val (.int (own_I k)), .val (.int c0), .val (.int c1), .val (.int c2), .val (.int d0), .val (.int d1), .val (.int d2), .val (.ref x), .val (.ref y), .val (.ref b1), .unset, .unset, .unset, .unset, .unset, .unset, .unset, .unset, .unset, .unset, .unset, .unset, .unset, .unset]) rfl ?_
  refine Go.iconst 3 X4 hx hby at_158 rfl ?_
  refine Go.newarr X4 hx hZ (own_t hw 11 rfl) e4 3 (by decide) (by decide) (by decide) (by decide) (by decide) (hb hby at_159) fun T6 h6 b6 k6 g6 X6 e6 E6 V6 => ?_
  have lt_b1_b6 : b1 < b6 := Nat.lt_of_lt_of_le VQ5.lt (Nat.le_of_eq g6.symm)
  have ge_b6 : hst.size ≤ b6 := g6 ▸ sz4
  have hs_b6 : h0.size ≤ b6 := g6 ▸ kp4.1
  have hC := hC.trans (CHr.ext E6 hC.1)
  have sz6 := Nat.le_trans sz4 E6.1
  have hk6 : k0 ≤ h6.size := Nat.le_trans hk4 E6.1
  have kp6 := kp4.ext E6
  have V6 : Arv Z h6 b6 k6 .char (3 : Int32) [(.int 0), (.int 0), (.int 0)] (.int 0) := V6
  refine Go.dup X6 hx hby at_161 rfl ?_
  refine Go.iconst 0 X6 hx hby at_162 rfl ?_
  refine Go.iload X6 hx hby at_163 rfl ?_
  refine Go.castore X6 hx hZ e6 V6 ⟨by decide, by decide⟩ 0 rfl (Nat.le_of_ble_eq_true rfl) (hb hby at_165) fun T7 h7 X7 e7 W7 V7 => ?_
  have hC := hC.trans (CHr.wr W7 (Safe.arv hZ.alike V6 (by decide)) hC.1)
  have sz7 := Nat.le_trans sz6 (Keep.of_wr W7).1
  have hk7 : k0 ≤ h7.size := Nat.le_trans hk6 (Keep.of_wr W7).1
  have kp7 := kp6.wr W7 (Or.inr hs_b6)
  have N7 := Fr.snoc X7 N4 ge_b6
  have V7 : Arv Z h7 b6 k6 .char (3 : Int32) [(.int (nar .char d0)), (.int 0), (.int 0)] (.int 0) := V7
  refine Go.dup X7 hx hby at_166 rfl ?_
  refine Go.iconst 1 X7 hx hby at_167 rfl ?_
  refine Go.iload X7 hx hby at_168 rfl ?_
  refine Go.castore X7 hx hZ e7 V7 ⟨by decide, by decide⟩ 1 rfl (Nat.le_of_ble_eq_true rfl) (hb hby at_170) fun T8 h8 X8 e8 W8 V8 => ?_
  have hC := hC.trans (CHr.wr W8 (Safe.arv hZ.alike V7 (by decide)) hC.1)
  have sz8 := Nat.le_trans sz7 (Keep.of_wr W8).1
  have hk8 : k0 ≤ h8.size := Nat.le_trans hk7 (Keep.of_wr W8).1
  have kp8 := kp7.wr W8 (Or.inr hs_b6)
  have N8 := Fr.snoc X8 N7 ge_b6
  have V8 : Arv Z h8 b6 k6 .char (3 : Int32) [(.int (nar .char d0)), (.int (nar .char d1)), (.int 0)] (.int 0) := V8
  refine Go.dup X8 hx hby at_171 rfl ?_
  refine Go.iconst 2 X8 hx hby at_172 rfl ?_
  refine Go.iload X8 hx hby at_173 rfl ?_
  show Go p e below _ T8 (mkF m 175 _ [(.int d2), (.int 2), (.ref b6), (.ref b6)])
  refine Go.castore X8 hx hZ e8 V8 ⟨by decide, by decide⟩ 2 rfl (Nat.le_of_ble_eq_true rfl) (hb hby at_175) fun T9 h9 X9 e9 W9 V9 => ?_
  have hC := hC.trans (CHr.wr W9 (Safe.arv hZ.alike V8 (by decide)) hC.1)
  have sz9 := Nat.le_trans sz8 (Keep.of_wr W9).1
  have hk9 : k0 ≤ h9.size := Nat.le_trans hk8 (Keep.of_wr W9).1
  have kp9 := kp8.wr W9 (Or.inr hs_b6)
  have N9 := Fr.snoc X9 N8 ge_b6
  have V9 : Arv Z h9 b6 k6 .char (3 : Int32) [(.int (nar .char d0)), (.int (nar .char d1)), (.int (nar .char d2))] (.int 0) := V9
  show Go p e below _ T9 (mkF m 176 _ [(.ref b6)])
  have VQ10 : Arv Z h9 b6 k6 .char 3 [(.int d0), (.int d1), (.int d2)] (.int 0) := by have q := V9; rw [own_nc e0', own_nc e1', own_nc e2'] at q; exact q
  refine Go.astore X9 hx hby at_176 rfl (l' := #[.val (.int xp), .val (.int xq), .val (.int xr), .val (.int xs), .val (.int (own_I n)), .val (.int (own_I k)), .val (.int c0), .val (.int c1), .val (.int c2), .val (.int d0), .val (.int d1), .val (.int d2), .val (.ref x), .val (.ref y), .val (.ref b1), .val (.ref b6), .unset, .unset, .unset, .unset, .unset, .unset, .unset, .unset, .unset, .unset, .unset, .unset, .unset]) rfl ?_
  refine Go.aload X9 hx hby at_178 rfl rfl ?_
  refine Go.iload X9 hx hby at_180 rfl ?_
  refine Go.iconst 0 X9 hx hby at_182 rfl ?_
  refine Go.callSP (W := 0) (y := y_6) (argsL := [(.ref b1), (.int (own_I n)), (.int 0)]) (rest := []) (r := some (.int (own_F c0 c1 c2 n 0))) X9 hx hZ hown (own_t hw 41 rfl) (own_t hw 42 rfl) (own_t hw 2 rfl) (own_t hw 43 rfl) (by decide) (own_rmCA l Z a0 hw b1 k1 c0 c1 c2 n 0 h9 ((((VQ5.ext E6).other W7 (Nat.ne_of_lt lt_b1_b6)).other W8 (Nat.ne_of_lt lt_b1_b6)).other W9 (Nat.ne_of_lt lt_b1_b6)) hn (by omega)) e9 (by rw [hml]; rfl) (lenOf own_dsc19 rfl) (hb hby at_183) rfl (Nat.le_of_eq rfl) (by decide) (by decide) (by decide) (by decide) fun T11 X11 e11 => ?_
  show Go p e below _ T11 (mkF m 186 _ [(.int (own_F c0 c1 c2 n 0))])
  generalize h_x0 : (own_F c0 c1 c2 n 0) = x0
  refine Go.istore X11 hx hby at_186 (l' := #[.val (.int xp), .val (.int xq), .val (.int xr), .val (.int xs), .val (.int (own_I n)), .val (.int (own_I k)), .val (.int c0), .val (.int c1), .val (.int c2), .val (.int d0), .val (.int d1), .val (.int d2), .val (.ref x), .val (.ref y), .val (.ref b1), .val (.ref b6), .val (.int x0), .unset, .unset, .unset, .unset, .unset, .unset, .unset, .unset, .unset, .unset, .unset, .unset]) rfl ?_
  refine Go.iconst 0 X11 hx hby at_188 rfl ?_
  refine Go.iload X11 hx hby at_189 rfl ?_
  refine Go.callSP (W := 0) (y := y_5) (argsL := [(.int 0), (.int x0)]) (rest := []) (r := some (.int (own_I (own_nx 0 x0)))) X11 hx hZ hown (own_t hw 45 rfl) (own_t hw 46 rfl) (own_t hw 2 rfl) (own_t hw 47 rfl) (by decide) (own_rmNx l Z a0 hw 0 x0 h9) e11 (by rw [hml]; rfl) (lenOf own_dsc17 rfl) (hb hby at_191) rfl (Nat.le_of_eq rfl) (by decide) (by decide) (by decide) (by decide) fun T12 X12 e12 => ?_
  show Go p e below _ T12 (mkF m 194 _ [(.int (own_I (own_nx 0 x0)))])
  have li1 := own_nxle 0 x0
  generalize h_i1 : own_nx 0 x0 = i1 at li1 ⊢
  show Go p e below _ T12 (mkF m 194 _ [(.int (own_I i1))])
  refine Go.istore X12 hx hby at_194 (l' := #[.val (.int xp), .val (.int xq), .val (.int xr), .val (.int xs), .val (.int (own_I n)), .val (.int (own_I k)), .val (.int c0), .val (.int c1), .val (.int c2), .val (.int d0), .val (.int d1), .val (.int d2), .val (.ref x), .val (.ref y), .val (.ref b1), .val (.ref b6), .val (.int x0), .val (.int (own_I i1)), .unset, .unset, .unset, .unset, .unset, .unset, .unset, .unset, .unset, .unset, .unset]) rfl ?_
  refine Go.aload X12 hx hby at_196 rfl rfl ?_
  refine Go.iload X12 hx hby at_198 rfl ?_
  refine Go.iload X12 hx hby at_200 rfl ?_
  refine Go.callSP (W := 0) (y := y_6) (argsL := [(.ref b1), (.int (own_I n)), (.int (own_I i1))]) (rest := []) (r := some (.int (own_F c0 c1 c2 n i1))) X12 hx hZ hown (own_t hw 41 rfl) (own_t hw 42 rfl) (own_t hw 2 rfl) (own_t hw 43 rfl) (by decide) (own_rmCA l Z a0 hw b1 k1 c0 c1 c2 n i1 h9 ((((VQ5.ext E6).other W7 (Nat.ne_of_lt lt_b1_b6)).other W8 (Nat.ne_of_lt lt_b1_b6)).other W9 (Nat.ne_of_lt lt_b1_b6)) hn (by omega)) e12 (by rw [hml]; rfl) (lenOf own_dsc19 rfl) (hb hby at_202) rfl (Nat.le_of_eq rfl) (by decide) (by decide) (by decide) (by decide) fun T13 X13 e13 => ?_
  show Go p e below _ T13 (mkF m 205 _ [(.int (own_F c0 c1 c2 n i1))])
  generalize h_x1 : (own_F c0 c1 c2 n i1) = x1
  refine Go.istore X13 hx hby at_205 (l' := #[.val (.int xp), .val (.int xq), .val (.int xr), .val (.int xs), .val (.int (own_I n)), .val (.int (own_I k)), .val (.int c0), .val (.int c1), .val (.int c2), .val (.int d0), .val (.int d1), .val (.int d2), .val (.ref x), .val (.ref y), .val (.ref b1), .val (.ref b6), .val (.int x0), .val (.int (own_I i1)), .val (.int x1), .unset, .unset, .unset, .unset, .unset, .unset, .unset, .unset, .unset, .unset]) rfl ?_
  refine Go.iload X13 hx hby at_207 rfl ?_
  refine Go.iload X13 hx hby at_209 rfl ?_
  refine Go.callSP (W := 0) (y := y_5) (argsL := [(.int (own_I i1)), (.int x1)]) (rest := []) (r := some (.int (own_I (own_nx i1 x1)))) X13 hx hZ hown (own_t hw 45 rfl) (own_t hw 46 rfl) (own_t hw 2 rfl) (own_t hw 47 rfl) (by decide) (own_rmNx l Z a0 hw i1 x1 h9) e13 (by rw [hml]; rfl) (lenOf own_dsc17 rfl) (hb hby at_211) rfl (Nat.le_of_eq rfl) (by decide) (by decide) (by decide) (by decide) fun T14 X14 e14 => ?_
  show Go p e below _ T14 (mkF m 214 _ [(.int (own_I (own_nx i1 x1)))])
  have li2 := own_nxle i1 x1
  generalize h_i2 : own_nx i1 x1 = i2 at li2 ⊢
  show Go p e below _ T14 (mkF m 214 _ [(.int (own_I i2))])
  refine Go.istore X14 hx hby at_214 (l' := #[.val (.int xp), .val (.int xq), .val (.int xr), .val (.int xs), .val (.int (own_I n)), .val (.int (own_I k)), .val (.int c0), .val (.int c1), .val (.int c2), .val (.int d0), .val (.int d1), .val (.int d2), .val (.ref x), .val (.ref y), .val (.ref b1), .val (.ref b6), .val (.int x0), .val (.int (own_I i1)), .val (.int x1), .val (.int (own_I i2)), .unset, .unset, .unset, .unset, .unset, .unset, .unset, .unset, .unset]) rfl ?_
  refine Go.aload X14 hx hby at_216 rfl rfl ?_
  refine Go.iload X14 hx hby at_218 rfl ?_
  refine Go.iload X14 hx hby at_220 rfl ?_
  refine Go.callSP (W := 0) (y := y_6) (argsL := [(.ref b1), (.int (own_I n)), (.int (own_I i2))]) (rest := []) (r := some (.int (own_F c0 c1 c2 n i2))) X14 hx hZ hown (own_t hw 41 rfl) (own_t hw 42 rfl) (own_t hw 2 rfl) (own_t hw 43 rfl) (by decide) (own_rmCA l Z a0 hw b1 k1 c0 c1 c2 n i2 h9 ((((VQ5.ext E6).other W7 (Nat.ne_of_lt lt_b1_b6)).other W8 (Nat.ne_of_lt lt_b1_b6)).other W9 (Nat.ne_of_lt lt_b1_b6)) hn (by omega)) e14 (by rw [hml]; rfl) (lenOf own_dsc19 rfl) (hb hby at_222) rfl (Nat.le_of_eq rfl) (by decide) (by decide) (by decide) (by decide) fun T15 X15 e15 => ?_
  show Go p e below _ T15 (mkF m 225 _ [(.int (own_F c0 c1 c2 n i2))])
  generalize h_x2 : (own_F c0 c1 c2 n i2) = x2
  refine Go.istore X15 hx hby at_225 (l' := #[.val (.int xp), .val (.int xq), .val (.int xr), .val (.int xs), .val (.int (own_I n)), .val (.int (own_I k)), .val (.int c0), .val (.int c1), .val (.int c2), .val (.int d0), .val (.int d1), .val (.int d2), .val (.ref x), .val (.ref y), .val (.ref b1), .val (.ref b6), .val (.int x0), .val (.int (own_I i1)), .val (.int x1), .val (.int (own_I i2)), .val (.int x2), .unset, .unset, .unset, .unset, .unset, .unset, .unset, .unset]) rfl ?_
  refine Go.aload X15 hx hby at_227 rfl rfl ?_
  refine Go.iload X15 hx hby at_229 rfl ?_
  refine Go.iconst 0 X15 hx hby at_231 rfl ?_
  refine Go.callSP (W := 0) (y := y_6) (argsL := [(.ref b6), (.int (own_I k)), (.int 0)]) (rest := []) (r := some (.int (own_F d0 d1 d2 k 0))) X15 hx hZ hown (own_t hw 41 rfl) (own_t hw 42 rfl) (own_t hw 2 rfl) (own_t hw 43 rfl) (by decide) (own_rmCA l Z a0 hw b6 k6 d0 d1 d2 k 0 h9 VQ10 hk' (by omega)) e15 (by rw [hml]; rfl) (lenOf own_dsc19 rfl) (hb hby at_232) rfl (Nat.le_of_eq rfl) (by decide) (by decide) (by decide) (by decide) fun T16 X16 e16 => ?_
  show Go p e below _ T16 (mkF m 235 _ [(.int (own_F d0 d1 d2 k 0))])
  generalize h_y0 : (own_F d0 d1 d2 k 0) = y0
  refine Go.istore X16 hx hby at_235 (l' := #[.val (.int xp), .val (.int xq), .val (.int xr), .val (.int xs), .val (.int (own_I n)), .val (.int (own_I k)), .val (.int c0), .val (.int c1), .val (.int c2), .val (.int d0), .val (.int d1), .val (.int d2), .val (.ref x), .val (.ref y), .val (.ref b1), .val (.ref b6), .val (.int x0), .val (.int (own_I i1)), .val (.int x1), .val (.int (own_I i2)), .val (.int x2), .val (.int y0), .unset, .unset, .unset, .unset, .unset, .unset, .unset]) rfl ?_
  refine Go.iconst 0 X16 hx hby at_237 rfl ?_
  refine Go.iload X16 hx hby at_238 rfl ?_
  refine Go.callSP (W := 0) (y := y_5) (argsL := [(.int 0), (.int y0)]) (rest := []) (r := some (.int (own_I (own_nx 0 y0)))) X16 hx hZ hown (own_t hw 45 rfl) (own_t hw 46 rfl) (own_t hw 2 rfl) (own_t hw 47 rfl) (by decide) (own_rmNx l Z a0 hw 0 y0 h9) e16 (by rw [hml]; rfl) (lenOf own_dsc17 rfl) (hb hby at_240) rfl (Nat.le_of_eq rfl) (by decide) (by decide) (by decide) (by decide) fun T17 X17 e17 => ?_
  show Go p e below _ T17 (mkF m 243 _ [(.int (own_I (own_nx 0 y0)))])
  have lj1 := own_nxle 0 y0
  generalize h_j1 : own_nx 0 y0 = j1 at lj1 ⊢
  show Go p e below _ T17 (mkF m 243 _ [(.int (own_I j1))])
  refine Go.istore X17 hx hby at_243 (l' := #[.val (.int xp), .val (.int xq), .val (.int xr), .val (.int xs), .val (.int (own_I n)), .val (.int (own_I k)), .val (.int c0), .val (.int c1), .val (.int c2), .val (.int d0), .val (.int d1), .val (.int d2), .val (.ref x), .val (.ref y), .val (.ref b1), .val (.ref b6), .val (.int x0), .val (.int (own_I i1)), .val (.int x1), .val (.int (own_I i2)), .val (.int x2), .val (.int y0), .val (.int (own_I j1)), .unset, .unset, .unset, .unset, .unset, .unset]) rfl ?_
  refine Go.aload X17 hx hby at_245 rfl rfl ?_
  refine Go.iload X17 hx hby at_247 rfl ?_
  refine Go.iload X17 hx hby at_249 rfl ?_
  refine Go.callSP (W := 0) (y := y_6) (argsL := [(.ref b6), (.int (own_I k)), (.int (own_I j1))]) (rest := []) (r := some (.int (own_F d0 d1 d2 k j1))) X17 hx hZ hown (own_t hw 41 rfl) (own_t hw 42 rfl) (own_t hw 2 rfl) (own_t hw 43 rfl) (by decide) (own_rmCA l Z a0 hw b6 k6 d0 d1 d2 k j1 h9 VQ10 hk' (by omega)) e17 (by rw [hml]; rfl) (lenOf own_dsc19 rfl) (hb hby at_251) rfl (Nat.le_of_eq rfl) (by decide) (by decide) (by decide) (by decide) fun T18 X18 e18 => ?_
  show Go p e below _ T18 (mkF m 254 _ [(.int (own_F d0 d1 d2 k j1))])
  generalize h_y1 : (own_F d0 d1 d2 k j1) = y1
  refine Go.istore X18 hx hby at_254 (l' := #[.val (.int xp), .val (.int xq), .val (.int xr), .val (.int xs), .val (.int (own_I n)), .val (.int (own_I k)), .val (.int c0), .val (.int c1), .val (.int c2), .val (.int d0), .val (.int d1), .val (.int d2), .val (.ref x), .val (.ref y), .val (.ref b1), .val (.ref b6), .val (.int x0), .val (.int (own_I i1)), .val (.int x1), .val (.int (own_I i2)), .val (.int x2), .val (.int y0), .val (.int (own_I j1)), .val (.int y1), .unset, .unset, .unset, .unset, .unset]) rfl ?_
  refine Go.iload X18 hx hby at_256 rfl ?_
  refine Go.iload X18 hx hby at_258 rfl ?_
  refine Go.callSP (W := 0) (y := y_5) (argsL := [(.int (own_I j1)), (.int y1)]) (rest := []) (r := some (.int (own_I (own_nx j1 y1)))) X18 hx hZ hown (own_t hw 45 rfl) (own_t hw 46 rfl) (own_t hw 2 rfl) (own_t hw 47 rfl) (by decide) (own_rmNx l Z a0 hw j1 y1 h9) e18 (by rw [hml]; rfl) (lenOf own_dsc17 rfl) (hb hby at_260) rfl (Nat.le_of_eq rfl) (by decide) (by decide) (by decide) (by decide) fun T19 X19 e19 => ?_
  show Go p e below _ T19 (mkF m 263 _ [(.int (own_I (own_nx j1 y1)))])
  have lj2 := own_nxle j1 y1
  generalize h_j2 : own_nx j1 y1 = j2 at lj2 ⊢
  show Go p e below _ T19 (mkF m 263 _ [(.int (own_I j2))])
  refine Go.istore X19 hx hby at_263 (l' := #[.val (.int xp), .val (.int xq), .val (.int xr), .val (.int xs), .val (.int (own_I n)), .val (.int (own_I k)), .val (.int c0), .val (.int c1), .val (.int c2), .val (.int d0), .val (.int d1), .val (.int d2), .val (.ref x), .val (.ref y), .val (.ref b1), .val (.ref b6), .val (.int x0), .val (.int (own_I i1)), .val (.int x1), .val (.int (own_I i2)), .val (.int x2), .val (.int y0), .val (.int (own_I j1)), .val (.int y1), .val (.int (own_I j2)), .unset, .unset, .unset, .unset]) rfl ?_
  refine Go.aload X19 hx hby at_265 rfl rfl ?_
  refine Go.iload X19 hx hby at_267 rfl ?_
  refine Go.iload X19 hx hby at_269 rfl ?_
  refine Go.callSP (W := 0) (y := y_6) (argsL := [(.ref b6), (.int (own_I k)), (.int (own_I j2))]) (rest := []) (r := some (.int (own_F d0 d1 d2 k j2))) X19 hx hZ hown (own_t hw 41 rfl) (own_t hw 42 rfl) (own_t hw 2 rfl) (own_t hw 43 rfl) (by decide) (own_rmCA l Z a0 hw b6 k6 d0 d1 d2 k j2 h9 VQ10 hk' (by omega)) e19 (by rw [hml]; rfl) (lenOf own_dsc19 rfl) (hb hby at_271) rfl (Nat.le_of_eq rfl) (by decide) (by decide) (by decide) (by decide) fun T20 X20 e20 => ?_
  show Go p e below _ T20 (mkF m 274 _ [(.int (own_F d0 d1 d2 k j2))])
  generalize h_y2 : (own_F d0 d1 d2 k j2) = y2
  refine Go.istore X20 hx hby at_274 (l' := #[.val (.int xp), .val (.int xq), .val (.int xr), .val (.int xs), .val (.int (own_I n)), .val (.int (own_I k)), .val (.int c0), .val (.int c1), .val (.int c2), .val (.int d0), .val (.int d1), .val (.int d2), .val (.ref x), .val (.ref y), .val (.ref b1), .val (.ref b6), .val (.int x0), .val (.int (own_I i1)), .val (.int x1), .val (.int (own_I i2)), .val (.int x2), .val (.int y0), .val (.int (own_I j1)), .val (.int y1), .val (.int (own_I j2)), .val (.int y2), .unset, .unset, .unset]) rfl ?_
  show Go p e below _ T20 (mkF m 276 _ [])
  have hLaw := own_law (own_okF r0 r1 r2 hn) (own_okF e0' e1' e2' hk') hn hk'
  rw [h_x0, h_i1, h_x1, h_i2, h_x2, h_y0, h_j1, h_y1, h_j2, h_y2] at hLaw
  suffices k351 : ∀ ev : Int32, ev = own_ex x0 x1 x2 y0 y1 y2 → Go p e below (GoEndH Z consts_1 s room_1.cells room_1.slots (fun v _ L => v = some (.int 1) ∧ Fr hst.size L)) T20 (mkF m 351 #[.val (.int xp), .val (.int xq), .val (.int xr), .val (.int xs), .val (.int (own_I n)), .val (.int (own_I k)), .val (.int c0), .val (.int c1), .val (.int c2), .val (.int d0), .val (.int d1), .val (.int d2), .val (.ref x), .val (.ref y), .val (.ref b1), .val (.ref b6), .val (.int x0), .val (.int (own_I i1)), .val (.int x1), .val (.int (own_I i2)), .val (.int x2), .val (.int y0), .val (.int (own_I j1)), .val (.int y1), .val (.int (own_I j2)), .val (.int y2), .val (.int ev), .unset, .unset] []) by
    refine Go.iload X20 hx hby at_276 rfl ?_
    refine Go.iload X20 hx hby at_278 rfl ?_
    by_cases hc280 : x0 = y0
    ·
      refine Go.icmpYes 300 X20 hx hby at_280 (teq hc280).1 (by decide) (by decide) ?_
      refine Go.iload X20 hx hby at_300 rfl ?_
      refine Go.iload X20 hx hby at_302 rfl ?_
      by_cases hc304 : x1 = y1
      ·
        refine Go.icmpYes 324 X20 hx hby at_304 (teq hc304).1 (by decide) (by decide) ?_
        refine Go.iload X20 hx hby at_324 rfl ?_
        refine Go.iload X20 hx hby at_326 rfl ?_
        by_cases hc328 : x2 = y2
        ·
          refine Go.icmpYes 348 X20 hx hby at_328 (teq hc328).1 (by decide) (by decide) ?_
          refine Go.iconst 0 X20 hx hby at_348 rfl ?_
          refine Go.istore X20 hx hby at_349 (l' := #[.val (.int xp), .val (.int xq), .val (.int xr), .val (.int xs), .val (.int (own_I n)), .val (.int (own_I k)), .val (.int c0), .val (.int c1), .val (.int c2), .val (.int d0), .val (.int d1), .val (.int d2), .val (.ref x), .val (.ref y), .val (.ref b1), .val (.ref b6), .val (.int x0), .val (.int (own_I i1)), .val (.int x1), .val (.int (own_I i2)), .val (.int x2), .val (.int y0), .val (.int (own_I j1)), .val (.int y1), .val (.int (own_I j2)), .val (.int y2), .val (.int 0), .unset, .unset]) rfl ?_
          exact k351 _ (show (0 : Int32) = own_ex x0 x1 x2 y0 y1 y2 by rw [own_ex, if_pos hc280, if_pos hc304, if_pos hc328])
        ·
          refine Go.icmpNo X20 hx hby at_328 (feq hc328).1 ?_
          refine Go.iload X20 hx hby at_331 rfl ?_
          refine Go.iload X20 hx hby at_333 rfl ?_
          by_cases hc335 : x2 < y2
          ·
            refine Go.icmpNo X20 hx hby at_335 (tlt hc335).2.1 ?_
            refine Go.iconst (-1) X20 hx hby at_338 rfl ?_
            refine Go.goto 343 X20 hx hby at_339 (by decide) (by decide) ?_
            show Go p e below _ T20 (mkF m 343 _ [(.int (-1))])
            refine Go.istore X20 hx hby at_343 (l' := #[.val (.int xp), .val (.int xq), .val (.int xr), .val (.int xs), .val (.int (own_I n)), .val (.int (own_I k)), .val (.int c0), .val (.int c1), .val (.int c2), .val (.int d0), .val (.int d1), .val (.int d2), .val (.ref x), .val (.ref y), .val (.ref b1), .val (.ref b6), .val (.int x0), .val (.int (own_I i1)), .val (.int x1), .val (.int (own_I i2)), .val (.int x2), .val (.int y0), .val (.int (own_I j1)), .val (.int y1), .val (.int (own_I j2)), .val (.int y2), .val (.int (-1)), .unset, .unset]) rfl ?_
            refine Go.goto 351 X20 hx hby at_345 (by decide) (by decide) ?_
            exact k351 _ (show (-1 : Int32) = own_ex x0 x1 x2 y0 y1 y2 by rw [own_ex, if_pos hc280, if_pos hc304, if_neg hc328, if_pos hc335])
          ·
            refine Go.icmpYes 342 X20 hx hby at_335 (flt hc335).2.1 (by decide) (by decide) ?_
            refine Go.iconst 1 X20 hx hby at_342 rfl ?_
            refine Go.istore X20 hx hby at_343 (l' := #[.val (.int xp), .val (.int xq), .val (.int xr), .val (.int xs), .val (.int (own_I n)), .val (.int (own_I k)), .val (.int c0), .val (.int c1), .val (.int c2), .val (.int d0), .val (.int d1), .val (.int d2), .val (.ref x), .val (.ref y), .val (.ref b1), .val (.ref b6), .val (.int x0), .val (.int (own_I i1)), .val (.int x1), .val (.int (own_I i2)), .val (.int x2), .val (.int y0), .val (.int (own_I j1)), .val (.int y1), .val (.int (own_I j2)), .val (.int y2), .val (.int 1), .unset, .unset]) rfl ?_
            show Go p e below _ T20 (mkF m 345 _ [])
            refine Go.goto 351 X20 hx hby at_345 (by decide) (by decide) ?_
            exact k351 _ (show (1 : Int32) = own_ex x0 x1 x2 y0 y1 y2 by rw [own_ex, if_pos hc280, if_pos hc304, if_neg hc328, if_neg hc335])
      ·
        refine Go.icmpNo X20 hx hby at_304 (feq hc304).1 ?_
        refine Go.iload X20 hx hby at_307 rfl ?_
        refine Go.iload X20 hx hby at_309 rfl ?_
        by_cases hc311 : x1 < y1
        ·
          refine Go.icmpNo X20 hx hby at_311 (tlt hc311).2.1 ?_
          refine Go.iconst (-1) X20 hx hby at_314 rfl ?_
          refine Go.goto 319 X20 hx hby at_315 (by decide) (by decide) ?_
          refine Go.istore X20 hx hby at_319 (l' := #[.val (.int xp), .val (.int xq), .val (.int xr), .val (.int xs), .val (.int (own_I n)), .val (.int (own_I k)), .val (.int c0), .val (.int c1), .val (.int c2), .val (.int d0), .val (.int d1), .val (.int d2), .val (.ref x), .val (.ref y), .val (.ref b1), .val (.ref b6), .val (.int x0), .val (.int (own_I i1)), .val (.int x1), .val (.int (own_I i2)), .val (.int x2), .val (.int y0), .val (.int (own_I j1)), .val (.int y1), .val (.int (own_I j2)), .val (.int y2), .val (.int (-1)), .unset, .unset]) rfl ?_
          refine Go.goto 351 X20 hx hby at_321 (by decide) (by decide) ?_
          exact k351 _ (show (-1 : Int32) = own_ex x0 x1 x2 y0 y1 y2 by rw [own_ex, if_pos hc280, if_neg hc304, if_pos hc311])
        ·
          refine Go.icmpYes 318 X20 hx hby at_311 (flt hc311).2.1 (by decide) (by decide) ?_
          refine Go.iconst 1 X20 hx hby at_318 rfl ?_
          refine Go.istore X20 hx hby at_319 (l' := #[.val (.int xp), .val (.int xq), .val (.int xr), .val (.int xs), .val (.int (own_I n)), .val (.int (own_I k)), .val (.int c0), .val (.int c1), .val (.int c2), .val (.int d0), .val (.int d1), .val (.int d2), .val (.ref x), .val (.ref y), .val (.ref b1), .val (.ref b6), .val (.int x0), .val (.int (own_I i1)), .val (.int x1), .val (.int (own_I i2)), .val (.int x2), .val (.int y0), .val (.int (own_I j1)), .val (.int y1), .val (.int (own_I j2)), .val (.int y2), .val (.int 1), .unset, .unset]) rfl ?_
          refine Go.goto 351 X20 hx hby at_321 (by decide) (by decide) ?_
          exact k351 _ (show (1 : Int32) = own_ex x0 x1 x2 y0 y1 y2 by rw [own_ex, if_pos hc280, if_neg hc304, if_neg hc311])
    ·
      refine Go.icmpNo X20 hx hby at_280 (feq hc280).1 ?_
      refine Go.iload X20 hx hby at_283 rfl ?_
      refine Go.iload X20 hx hby at_285 rfl ?_
      by_cases hc287 : x0 < y0
      ·
        refine Go.icmpNo X20 hx hby at_287 (tlt hc287).2.1 ?_
        refine Go.iconst (-1) X20 hx hby at_290 rfl ?_
        refine Go.goto 295 X20 hx hby at_291 (by decide) (by decide) ?_
        refine Go.istore X20 hx hby at_295 (l' := #[.val (.int xp), .val (.int xq), .val (.int xr), .val (.int xs), .val (.int (own_I n)), .val (.int (own_I k)), .val (.int c0), .val (.int c1), .val (.int c2), .val (.int d0), .val (.int d1), .val (.int d2), .val (.ref x), .val (.ref y), .val (.ref b1), .val (.ref b6), .val (.int x0), .val (.int (own_I i1)), .val (.int x1), .val (.int (own_I i2)), .val (.int x2), .val (.int y0), .val (.int (own_I j1)), .val (.int y1), .val (.int (own_I j2)), .val (.int y2), .val (.int (-1)), .unset, .unset]) rfl ?_
        refine Go.goto 351 X20 hx hby at_297 (by decide) (by decide) ?_
        exact k351 _ (show (-1 : Int32) = own_ex x0 x1 x2 y0 y1 y2 by rw [own_ex, if_neg hc280, if_pos hc287])
      ·
        refine Go.icmpYes 294 X20 hx hby at_287 (flt hc287).2.1 (by decide) (by decide) ?_
        refine Go.iconst 1 X20 hx hby at_294 rfl ?_
        refine Go.istore X20 hx hby at_295 (l' := #[.val (.int xp), .val (.int xq), .val (.int xr), .val (.int xs), .val (.int (own_I n)), .val (.int (own_I k)), .val (.int c0), .val (.int c1), .val (.int c2), .val (.int d0), .val (.int d1), .val (.int d2), .val (.ref x), .val (.ref y), .val (.ref b1), .val (.ref b6), .val (.int x0), .val (.int (own_I i1)), .val (.int x1), .val (.int (own_I i2)), .val (.int x2), .val (.int y0), .val (.int (own_I j1)), .val (.int y1), .val (.int (own_I j2)), .val (.int y2), .val (.int 1), .unset, .unset]) rfl ?_
        refine Go.goto 351 X20 hx hby at_297 (by decide) (by decide) ?_
        exact k351 _ (show (1 : Int32) = own_ex x0 x1 x2 y0 y1 y2 by rw [own_ex, if_neg hc280, if_neg hc287])
  intro ev hev
  show Go p e below _ T20 (mkF m 351 _ [])
  refine Go.aload X20 hx hby at_351 rfl rfl ?_
  refine Go.aload X20 hx hby at_353 rfl rfl ?_
  refine Go.callSP (W := 0) (y := y_26) (argsL := [(.ref x), (.ref y)]) (rest := []) (r := some (.int (own_go (own_F c0 c1 c2 n) (own_F d0 d1 d2 k) n k 3 0))) X20 hx hZ hown (own_t hw 49 rfl) (own_t hw 50 rfl) (own_t hw 51 rfl) (own_t hw 52 rfl) (by decide) (own_rmCm l Z a0 hw x y c0 c1 c2 d0 d1 d2 cz G n k h9 (own_StrK kp9 XS') (own_StrK kp9 YS') hn hk' r0 r1 r2 e0' e1' e2' (SB.ext ((((((((OZ.ext E1).wr W2 ge_b1).wr W3 ge_b1).wr W4 ge_b1).ext E6).wr W7 ge_b6).wr W8 ge_b6).wr W9 ge_b6).2) hz (SA.ext ((((((((OZ.ext E1).wr W2 ge_b1).wr W3 ge_b1).wr W4 ge_b1).ext E6).wr W7 ge_b6).wr W8 ge_b6).wr W9 ge_b6).2) (SH.ext ((((((((OZ.ext E1).wr W2 ge_b1).wr W3 ge_b1).wr W4 ge_b1).ext E6).wr W7 ge_b6).wr W8 ge_b6).wr W9 ge_b6).2) (SL.ext ((((((((OZ.ext E1).wr W2 ge_b1).wr W3 ge_b1).wr W4 ge_b1).ext E6).wr W7 ge_b6).wr W8 ge_b6).wr W9 ge_b6).2) (SG.ext ((((((((OZ.ext E1).wr W2 ge_b1).wr W3 ge_b1).wr W4 ge_b1).ext E6).wr W7 ge_b6).wr W8 ge_b6).wr W9 ge_b6).2) hG) e20 (by rw [hml]; rfl) (lenOf own_dsc20 rfl) (hb hby at_355) rfl (Nat.le_of_eq rfl) (by decide) (by decide) (by decide) (by decide) fun T21 X21 e21 => ?_
  show Go p e below _ T21 (mkF m 358 _ [(.int (own_go (own_F c0 c1 c2 n) (own_F d0 d1 d2 k) n k 3 0))])
  generalize h_gt : (own_go (own_F c0 c1 c2 n) (own_F d0 d1 d2 k) n k 3 0) = gt
  refine Go.istore X21 hx hby at_358 (l' := #[.val (.int xp), .val (.int xq), .val (.int xr), .val (.int xs), .val (.int (own_I n)), .val (.int (own_I k)), .val (.int c0), .val (.int c1), .val (.int c2), .val (.int d0), .val (.int d1), .val (.int d2), .val (.ref x), .val (.ref y), .val (.ref b1), .val (.ref b6), .val (.int x0), .val (.int (own_I i1)), .val (.int x1), .val (.int (own_I i2)), .val (.int x2), .val (.int y0), .val (.int (own_I j1)), .val (.int y1), .val (.int (own_I j2)), .val (.int y2), .val (.int ev), .val (.int gt), .unset]) rfl ?_
  refine Go.iload X21 hx hby at_360 rfl ?_
  by_cases hc362 : gt < (0 : Int32)
  ·
    refine Go.ifNo X21 hx hby at_362 ((if0 _ _).trans (tlt hc362).2.1) ?_
    refine Go.iconst (-1) X21 hx hby at_365 rfl ?_
    refine Go.goto 379 X21 hx hby at_366 (by decide) (by decide) ?_
    refine Go.istore X21 hx hby at_379 (l' := #[.val (.int xp), .val (.int xq), .val (.int xr), .val (.int xs), .val (.int (own_I n)), .val (.int (own_I k)), .val (.int c0), .val (.int c1), .val (.int c2), .val (.int d0), .val (.int d1), .val (.int d2), .val (.ref x), .val (.ref y), .val (.ref b1), .val (.ref b6), .val (.int x0), .val (.int (own_I i1)), .val (.int x1), .val (.int (own_I i2)), .val (.int x2), .val (.int y0), .val (.int (own_I j1)), .val (.int y1), .val (.int (own_I j2)), .val (.int y2), .val (.int ev), .val (.int gt), .val (.int (-1))]) rfl ?_
    refine Go.iload X21 hx hby at_381 rfl ?_
    refine Go.iload X21 hx hby at_383 rfl ?_
    refine Go.icmpNo X21 hx hby at_385 (teq (show (-1 : Int32) = ev by rw [hev, ← hLaw, h_gt, own_sg, if_pos hc362])).2 ?_
    refine Go.iconst 1 X21 hx hby at_388 rfl ?_
    refine Go.goto 393 X21 hx hby at_389 (by decide) (by decide) ?_
    exact Go.retNH X21 hx hZ hEL hs0 e21 hC hS (by rw [e21]; exact hk9) hlk (t := .boolean) hret (by simp) (hb hby at_393) (by decide) (by decide) ⟨rfl, N9⟩
  ·
    refine Go.ifYes 369 X21 hx hby at_362 ((if0 _ _).trans (flt hc362).2.1) (by decide) (by decide) ?_
    refine Go.iload X21 hx hby at_369 rfl ?_
    by_cases hc371 : (0 : Int32) < gt
    ·
      refine Go.ifNo X21 hx hby at_371 ((if0 _ _).trans (tlt hc371).2.2.2) ?_
      refine Go.iconst 1 X21 hx hby at_374 rfl ?_
      refine Go.goto 379 X21 hx hby at_375 (by decide) (by decide) ?_
      refine Go.istore X21 hx hby at_379 (l' := #[.val (.int xp), .val (.int xq), .val (.int xr), .val (.int xs), .val (.int (own_I n)), .val (.int (own_I k)), .val (.int c0), .val (.int c1), .val (.int c2), .val (.int d0), .val (.int d1), .val (.int d2), .val (.ref x), .val (.ref y), .val (.ref b1), .val (.ref b6), .val (.int x0), .val (.int (own_I i1)), .val (.int x1), .val (.int (own_I i2)), .val (.int x2), .val (.int y0), .val (.int (own_I j1)), .val (.int y1), .val (.int (own_I j2)), .val (.int y2), .val (.int ev), .val (.int gt), .val (.int 1)]) rfl ?_
      refine Go.iload X21 hx hby at_381 rfl ?_
      refine Go.iload X21 hx hby at_383 rfl ?_
      refine Go.icmpNo X21 hx hby at_385 (teq (show (1 : Int32) = ev by rw [hev, ← hLaw, h_gt, own_sg, if_neg hc362, if_pos hc371])).2 ?_
      refine Go.iconst 1 X21 hx hby at_388 rfl ?_
      refine Go.goto 393 X21 hx hby at_389 (by decide) (by decide) ?_
      exact Go.retNH X21 hx hZ hEL hs0 e21 hC hS (by rw [e21]; exact hk9) hlk (t := .boolean) hret (by simp) (hb hby at_393) (by decide) (by decide) ⟨rfl, N9⟩
    ·
      refine Go.ifYes 378 X21 hx hby at_371 ((if0 _ _).trans (flt hc371).2.2.2) (by decide) (by decide) ?_
      refine Go.iconst 0 X21 hx hby at_378 rfl ?_
      refine Go.istore X21 hx hby at_379 (l' := #[.val (.int xp), .val (.int xq), .val (.int xr), .val (.int xs), .val (.int (own_I n)), .val (.int (own_I k)), .val (.int c0), .val (.int c1), .val (.int c2), .val (.int d0), .val (.int d1), .val (.int d2), .val (.ref x), .val (.ref y), .val (.ref b1), .val (.ref b6), .val (.int x0), .val (.int (own_I i1)), .val (.int x1), .val (.int (own_I i2)), .val (.int x2), .val (.int y0), .val (.int (own_I j1)), .val (.int y1), .val (.int (own_I j2)), .val (.int y2), .val (.int ev), .val (.int gt), .val (.int 0)]) rfl ?_
      refine Go.iload X21 hx hby at_381 rfl ?_
      refine Go.iload X21 hx hby at_383 rfl ?_
      refine Go.icmpNo X21 hx hby at_385 (teq (show (0 : Int32) = ev by rw [hev, ← hLaw, h_gt, own_sg, if_neg hc362, if_neg hc371])).2 ?_
      refine Go.iconst 1 X21 hx hby at_388 rfl ?_
      refine Go.goto 393 X21 hx hby at_389 (by decide) (by decide) ?_
      exact Go.retNH X21 hx hZ hEL hs0 e21 hC hS (by rw [e21]; exact hk9) hlk (t := .boolean) hret (by simp) (hb hby at_393) (by decide) (by decide) ⟨rfl, N9⟩
theorem own_D (l : Launch) (Z : State) (a0 : Array Value) (hw : ∀ d ∈ tables_1, d.before a0 Z = true) (p : Program) (e : Env) (s : State) (vm0 : Vm) (m : MethodId) (args : Array Value) (below : List Frame) (meth : Method) (c : Code) (T0 : State) (locs : List Loc) (k0 : Nat) (h0 hst : Heap) (xp xq xr xs : Int32) (n k : Nat) (c0 c1 c2 : Int32) (d0 d1 d2 : Int32) (cz : Int32) (G : Value)
    (hx : p.tables.exec = Jvm.exec) (hZ : Z.Warmed39 vm0) (hby : c.code = code) (hml : c.maxLocals = 29) (hown : vm0.findClass "com/example/keen_guess/keenguess/text/CodePointOrderComparePinLaw" = some m.cls) (hret : meth.sig.returnType = some .boolean) (hlk : meth.locks = false) (hS : s.Since vm0 k0) (hk : k0 ≤ h0.size) (hs0 : s.heap = hst) (hC : CHr Z consts_1 s.vm hst vm0 h0) (X0 : Stand p l e room_1 (s.setVm vm0) m args below meth c T0 locs 0 0) (e0 : T0.heap = h0) (N0 : Fr hst.size locs) (Z0 : hst.size ≤ h0.size) (OZ : Old Z hst.size h0) (hn : n ≤ 3) (hk' : k ≤ 3) (r0 : own_C c0) (r1 : own_C c1) (r2 : own_C c2) (e0' : own_C d0) (e1' : own_C d1) (e2' : own_C d2) (SB : own_SB Z Z.heap cz) (hz : ¬ cz = (0 : Int32)) (SA : own_SA Z Z.heap) (SH : own_SH Z Z.heap) (SL : own_SL Z Z.heap) (SG : own_SG Z Z.heap G) (hG : G.isRef = true) :
    Go p e below (GoEndH Z consts_1 s room_1.cells room_1.slots (fun v _ L => v = some (.int 1) ∧ Fr hst.size L)) T0 (mkF m 112 #[.val (.int xp), .val (.int xq), .val (.int xr), .val (.int xs), .val (.int (own_I n)), .val (.int (own_I k)), .val (.int c0), .val (.int c1), .val (.int c2), .val (.int d0), .val (.int d1), .val (.int d2), .unset, .unset, .unset, .unset, .unset, .unset, .unset, .unset, .unset, .unset, .unset, .unset, .unset, .unset, .unset, .unset, .unset] []) := by
  have hEL := own_EW Z a0 hw
  have wS : ∀ d ∈ Bundle.stringAtoms, d.before a0 Z = true := fun d hd => by
    simp only [Bundle.stringAtoms, List.mem_cons, List.not_mem_nil, or_false] at hd
    rcases hd with rfl | rfl | rfl | rfl | rfl | rfl | rfl
    · exact (own_t hw 10 rfl)
    · exact (own_t hw 9 rfl)
    · exact (own_t hw 27 rfl)
    · exact (own_t hw 37 rfl)
    · exact (own_t hw 35 rfl)
    · exact (own_t hw 39 rfl)
    · exact (own_t hw 40 rfl)
  show Go p e below _ T0 (mkF m 112 _ [])
  refine Go.iload X0 hx hby at_112 rfl ?_
  refine Go.iload X0 hx hby at_114 rfl ?_
  refine Go.iload X0 hx hby at_116 rfl ?_
  refine Go.iload X0 hx hby at_118 rfl ?_
  refine Go.callSH (W := 0) (y := y_25) (argsL := [(.int c0), (.int c1), (.int c2), (.int (own_I n))]) (rest := []) X0 hx hZ hown (own_t hw 5 rfl) (own_t hw 6 rfl) (own_t hw 2 rfl) (own_t hw 7 rfl) (by decide) (own_rmMk l Z a0 hw c0 c1 c2 cz G hst.size n h0 Z0 OZ SB hz SA SH SL SG hG r0 r1 r2 hn) e0 hS hk hEL hC (by rw [hml]; rfl) (lenOf own_dsc21 rfl) (hb hby at_120) rfl (Nat.le_of_eq rfl) (by decide) (by decide) (by decide) (by decide) fun _ T1 L1 X1 hS hZ hown hC q1 => ?_
  obtain ⟨b1, rfl, N1q, K1, S1⟩ := q1
  have N1 := Fr.app N0 N1q
  have sz1 := Nat.le_trans Z0 K1.1
  show Go p e below _ T1 (mkF m 123 _ [(.ref b1)])
  refine Go.astore X1 hx hby at_123 rfl (l' := #[.val (.int xp), .val (.int xq), .val (.int xr), .val (.int xs), .val (.int (own_I n)), .val (.int (own_I k)), .val (.int c0), .val (.int c1), .val (.int c2), .val (.int d0), .val (.int d1), .val (.int d2), .val (.ref b1), .unset, .unset, .unset, .unset, .unset, .unset, .unset, .unset, .unset, .unset, .unset, .unset, .unset, .unset, .unset, .unset]) rfl ?_
  refine Go.iload X1 hx hby at_125 rfl ?_
  refine Go.iload X1 hx hby at_127 rfl ?_
  refine Go.iload X1 hx hby at_129 rfl ?_
  refine Go.iload X1 hx hby at_131 rfl ?_
  refine Go.callSH (W := 0) (y := y_25) (argsL := [(.int d0), (.int d1), (.int d2), (.int (own_I k))]) (rest := []) X1 hx hZ hown (own_t hw 5 rfl) (own_t hw 6 rfl) (own_t hw 2 rfl) (own_t hw 7 rfl) (by decide) (own_rmMk l Z a0 hw d0 d1 d2 cz G hst.size k T1.heap sz1 (OZ.keep K1 all0) SB hz SA SH SL SG hG e0' e1' e2' hk') rfl hS (Nat.le_refl _) hEL hC (by rw [hml]; rfl) (lenOf own_dsc21 rfl) (hb hby at_133) rfl (Nat.le_of_eq rfl) (by decide) (by decide) (by decide) (by decide) fun _ T2 L2 X2 hS hZ hown hC q2 => ?_
  obtain ⟨b2, rfl, N2q, K2, S2⟩ := q2
  have N2 := Fr.app N1 N2q
  have sz2 := Nat.le_trans sz1 K2.1
  show Go p e below _ T2 (mkF m 136 _ [(.ref b2)])
  refine Go.astore X2 hx hby at_136 rfl (l' := #[.val (.int xp), .val (.int xq), .val (.int xr), .val (.int xs), .val (.int (own_I n)), .val (.int (own_I k)), .val (.int c0), .val (.int c1), .val (.int c2), .val (.int d0), .val (.int d1), .val (.int d2), .val (.ref b1), .val (.ref b2), .unset, .unset, .unset, .unset, .unset, .unset, .unset, .unset, .unset, .unset, .unset, .unset, .unset, .unset, .unset]) rfl ?_
  exact own_D2 l Z a0 hw p e s _ m _ below meth c _ _ _ _ _ b1 b2 xp xq xr xs n k c0 c1 c2 d0 d1 d2 cz G hx hZ hby hml hown hret hlk hS (Nat.le_refl _) hs0 hC (X2.mono (by decide) (by decide)) rfl N2 sz2 ((OZ.keep K1 all0).keep K2 all0) (own_StrK K2 S1) S2 hn hk' r0 r1 r2 e0' e1' e2' SB hz SA SH SL SG hG
theorem own_C3 (l : Launch) (Z : State) (a0 : Array Value) (hw : ∀ d ∈ tables_1, d.before a0 Z = true) (p : Program) (e : Env) (s : State) (vm0 : Vm) (m : MethodId) (args : Array Value) (below : List Frame) (meth : Method) (c : Code) (T0 : State) (locs : List Loc) (k0 : Nat) (h0 hst : Heap) (xp xq xr xs : Int32) (n k : Nat) (c0 c1 c2 : Int32) (d0 d1 d2 : Int32) (cz : Int32) (G : Value)
    (hx : p.tables.exec = Jvm.exec) (hZ : Z.Warmed39 vm0) (hby : c.code = code) (hml : c.maxLocals = 29) (hown : vm0.findClass "com/example/keen_guess/keenguess/text/CodePointOrderComparePinLaw" = some m.cls) (hret : meth.sig.returnType = some .boolean) (hlk : meth.locks = false) (hS : s.Since vm0 k0) (hk : k0 ≤ h0.size) (hs0 : s.heap = hst) (hC : CHr Z consts_1 s.vm hst vm0 h0) (X0 : Stand p l e room_1 (s.setVm vm0) m args below meth c T0 locs 0 0) (e0 : T0.heap = h0) (N0 : Fr hst.size locs) (Z0 : hst.size ≤ h0.size) (OZ : Old Z hst.size h0) (hn : n ≤ 3) (hk' : k ≤ 3) (r0 : own_C c0) (r1 : own_C c1) (r2 : own_C c2) (e0' : own_C d0) (e1' : own_C d1) (e2' : own_C d2) (SB : own_SB Z Z.heap cz) (hz : ¬ cz = (0 : Int32)) (SA : own_SA Z Z.heap) (SH : own_SH Z Z.heap) (SL : own_SL Z Z.heap) (SG : own_SG Z Z.heap G) (hG : G.isRef = true) :
    Go p e below (GoEndH Z consts_1 s room_1.cells room_1.slots (fun v _ L => v = some (.int 1) ∧ Fr hst.size L)) T0 (mkF m 99 #[.val (.int xp), .val (.int xq), .val (.int xr), .val (.int xs), .val (.int (own_I n)), .val (.int (own_I k)), .val (.int c0), .val (.int c1), .val (.int c2), .val (.int d0), .val (.int d1), .val (.int d2), .unset, .unset, .unset, .unset, .unset, .unset, .unset, .unset, .unset, .unset, .unset, .unset, .unset, .unset, .unset, .unset, .unset] []) := by
  have hEL := own_EW Z a0 hw
  have wS : ∀ d ∈ Bundle.stringAtoms, d.before a0 Z = true := fun d hd => by
    simp only [Bundle.stringAtoms, List.mem_cons, List.not_mem_nil, or_false] at hd
    rcases hd with rfl | rfl | rfl | rfl | rfl | rfl | rfl
    · exact (own_t hw 10 rfl)
    · exact (own_t hw 9 rfl)
    · exact (own_t hw 27 rfl)
    · exact (own_t hw 37 rfl)
    · exact (own_t hw 35 rfl)
    · exact (own_t hw 39 rfl)
    · exact (own_t hw 40 rfl)
  show Go p e below _ T0 (mkF m 99 _ [])
  refine Go.iloadN X0 hx hby at_99 rfl ?_
  refine Go.bipush 12 X0 hx hby at_100 rfl ?_
  refine Go.iushr X0 hx hby at_102 rfl ?_
  refine Go.iconst 1 X0 hx hby at_103 rfl ?_
  refine Go.iand X0 hx hby at_104 rfl ?_
  by_cases hc105 : ((XS.ushr xs (12 : Int32)) &&& (1 : Int32)) = (0 : Int32)
  ·
    refine Go.ifYes 112 X0 hx hby at_105 ((if0 _ _).trans (teq hc105).1) (by decide) (by decide) ?_
    exact own_D l Z a0 hw p e s _ m _ below meth c _ _ _ _ _ xp xq xr xs n k c0 c1 c2 d0 d1 d2 cz G hx hZ hby hml hown hret hlk hS hk hs0 hC (X0.mono (by decide) (by decide)) e0 N0 Z0 OZ hn hk' r0 r1 r2 e0' e1' e2' SB hz SA SH SL SG hG
  ·
    refine Go.ifNo X0 hx hby at_105 ((if0 _ _).trans (feq hc105).1) ?_
    refine Go.iload X0 hx hby at_108 rfl ?_
    refine Go.istore X0 hx hby at_110 (l' := #[.val (.int xp), .val (.int xq), .val (.int xr), .val (.int xs), .val (.int (own_I n)), .val (.int (own_I k)), .val (.int c0), .val (.int c1), .val (.int c2), .val (.int d0), .val (.int d1), .val (.int c2), .unset, .unset, .unset, .unset, .unset, .unset, .unset, .unset, .unset, .unset, .unset, .unset, .unset, .unset, .unset, .unset, .unset]) rfl ?_
    exact own_D l Z a0 hw p e s _ m _ below meth c _ _ _ _ _ xp xq xr xs n k c0 c1 c2 d0 d1 c2 cz G hx hZ hby hml hown hret hlk hS hk hs0 hC (X0.mono (by decide) (by decide)) e0 N0 Z0 OZ hn hk' r0 r1 r2 e0' e1' r2 SB hz SA SH SL SG hG
theorem own_C2 (l : Launch) (Z : State) (a0 : Array Value) (hw : ∀ d ∈ tables_1, d.before a0 Z = true) (p : Program) (e : Env) (s : State) (vm0 : Vm) (m : MethodId) (args : Array Value) (below : List Frame) (meth : Method) (c : Code) (T0 : State) (locs : List Loc) (k0 : Nat) (h0 hst : Heap) (xp xq xr xs : Int32) (n k : Nat) (c0 c1 c2 : Int32) (d0 d1 d2 : Int32) (cz : Int32) (G : Value)
    (hx : p.tables.exec = Jvm.exec) (hZ : Z.Warmed39 vm0) (hby : c.code = code) (hml : c.maxLocals = 29) (hown : vm0.findClass "com/example/keen_guess/keenguess/text/CodePointOrderComparePinLaw" = some m.cls) (hret : meth.sig.returnType = some .boolean) (hlk : meth.locks = false) (hS : s.Since vm0 k0) (hk : k0 ≤ h0.size) (hs0 : s.heap = hst) (hC : CHr Z consts_1 s.vm hst vm0 h0) (X0 : Stand p l e room_1 (s.setVm vm0) m args below meth c T0 locs 0 0) (e0 : T0.heap = h0) (N0 : Fr hst.size locs) (Z0 : hst.size ≤ h0.size) (OZ : Old Z hst.size h0) (hn : n ≤ 3) (hk' : k ≤ 3) (r0 : own_C c0) (r1 : own_C c1) (r2 : own_C c2) (e0' : own_C d0) (e1' : own_C d1) (e2' : own_C d2) (SB : own_SB Z Z.heap cz) (hz : ¬ cz = (0 : Int32)) (SA : own_SA Z Z.heap) (SH : own_SH Z Z.heap) (SL : own_SL Z Z.heap) (SG : own_SG Z Z.heap G) (hG : G.isRef = true) :
    Go p e below (GoEndH Z consts_1 s room_1.cells room_1.slots (fun v _ L => v = some (.int 1) ∧ Fr hst.size L)) T0 (mkF m 86 #[.val (.int xp), .val (.int xq), .val (.int xr), .val (.int xs), .val (.int (own_I n)), .val (.int (own_I k)), .val (.int c0), .val (.int c1), .val (.int c2), .val (.int d0), .val (.int d1), .val (.int d2), .unset, .unset, .unset, .unset, .unset, .unset, .unset, .unset, .unset, .unset, .unset, .unset, .unset, .unset, .unset, .unset, .unset] []) := by
  have hEL := own_EW Z a0 hw
  have wS : ∀ d ∈ Bundle.stringAtoms, d.before a0 Z = true := fun d hd => by
    simp only [Bundle.stringAtoms, List.mem_cons, List.not_mem_nil, or_false] at hd
    rcases hd with rfl | rfl | rfl | rfl | rfl | rfl | rfl
    · exact (own_t hw 10 rfl)
    · exact (own_t hw 9 rfl)
    · exact (own_t hw 27 rfl)
    · exact (own_t hw 37 rfl)
    · exact (own_t hw 35 rfl)
    · exact (own_t hw 39 rfl)
    · exact (own_t hw 40 rfl)
  show Go p e below _ T0 (mkF m 86 _ [])
  refine Go.iloadN X0 hx hby at_86 rfl ?_
  refine Go.bipush 11 X0 hx hby at_87 rfl ?_
  refine Go.iushr X0 hx hby at_89 rfl ?_
  refine Go.iconst 1 X0 hx hby at_90 rfl ?_
  refine Go.iand X0 hx hby at_91 rfl ?_
  by_cases hc92 : ((XS.ushr xs (11 : Int32)) &&& (1 : Int32)) = (0 : Int32)
  ·
    refine Go.ifYes 99 X0 hx hby at_92 ((if0 _ _).trans (teq hc92).1) (by decide) (by decide) ?_
    exact own_C3 l Z a0 hw p e s _ m _ below meth c _ _ _ _ _ xp xq xr xs n k c0 c1 c2 d0 d1 d2 cz G hx hZ hby hml hown hret hlk hS hk hs0 hC (X0.mono (by decide) (by decide)) e0 N0 Z0 OZ hn hk' r0 r1 r2 e0' e1' e2' SB hz SA SH SL SG hG
  ·
    refine Go.ifNo X0 hx hby at_92 ((if0 _ _).trans (feq hc92).1) ?_
    refine Go.iload X0 hx hby at_95 rfl ?_
    refine Go.istore X0 hx hby at_97 (l' := #[.val (.int xp), .val (.int xq), .val (.int xr), .val (.int xs), .val (.int (own_I n)), .val (.int (own_I k)), .val (.int c0), .val (.int c1), .val (.int c2), .val (.int d0), .val (.int c1), .val (.int d2), .unset, .unset, .unset, .unset, .unset, .unset, .unset, .unset, .unset, .unset, .unset, .unset, .unset, .unset, .unset, .unset, .unset]) rfl ?_
    exact own_C3 l Z a0 hw p e s _ m _ below meth c _ _ _ _ _ xp xq xr xs n k c0 c1 c2 d0 c1 d2 cz G hx hZ hby hml hown hret hlk hS hk hs0 hC (X0.mono (by decide) (by decide)) e0 N0 Z0 OZ hn hk' r0 r1 r2 e0' r1 e2' SB hz SA SH SL SG hG
theorem own_C1 (l : Launch) (Z : State) (a0 : Array Value) (hw : ∀ d ∈ tables_1, d.before a0 Z = true) (p : Program) (e : Env) (s : State) (vm0 : Vm) (m : MethodId) (args : Array Value) (below : List Frame) (meth : Method) (c : Code) (T0 : State) (locs : List Loc) (k0 : Nat) (h0 hst : Heap) (xp xq xr xs : Int32) (n k : Nat) (c0 c1 c2 : Int32) (d0 d1 d2 : Int32) (cz : Int32) (G : Value)
    (hx : p.tables.exec = Jvm.exec) (hZ : Z.Warmed39 vm0) (hby : c.code = code) (hml : c.maxLocals = 29) (hown : vm0.findClass "com/example/keen_guess/keenguess/text/CodePointOrderComparePinLaw" = some m.cls) (hret : meth.sig.returnType = some .boolean) (hlk : meth.locks = false) (hS : s.Since vm0 k0) (hk : k0 ≤ h0.size) (hs0 : s.heap = hst) (hC : CHr Z consts_1 s.vm hst vm0 h0) (X0 : Stand p l e room_1 (s.setVm vm0) m args below meth c T0 locs 0 0) (e0 : T0.heap = h0) (N0 : Fr hst.size locs) (Z0 : hst.size ≤ h0.size) (OZ : Old Z hst.size h0) (hn : n ≤ 3) (hk' : k ≤ 3) (r0 : own_C c0) (r1 : own_C c1) (r2 : own_C c2) (e0' : own_C d0) (e1' : own_C d1) (e2' : own_C d2) (SB : own_SB Z Z.heap cz) (hz : ¬ cz = (0 : Int32)) (SA : own_SA Z Z.heap) (SH : own_SH Z Z.heap) (SL : own_SL Z Z.heap) (SG : own_SG Z Z.heap G) (hG : G.isRef = true) :
    Go p e below (GoEndH Z consts_1 s room_1.cells room_1.slots (fun v _ L => v = some (.int 1) ∧ Fr hst.size L)) T0 (mkF m 73 #[.val (.int xp), .val (.int xq), .val (.int xr), .val (.int xs), .val (.int (own_I n)), .val (.int (own_I k)), .val (.int c0), .val (.int c1), .val (.int c2), .val (.int d0), .val (.int d1), .val (.int d2), .unset, .unset, .unset, .unset, .unset, .unset, .unset, .unset, .unset, .unset, .unset, .unset, .unset, .unset, .unset, .unset, .unset] []) := by
  have hEL := own_EW Z a0 hw
  have wS : ∀ d ∈ Bundle.stringAtoms, d.before a0 Z = true := fun d hd => by
    simp only [Bundle.stringAtoms, List.mem_cons, List.not_mem_nil, or_false] at hd
    rcases hd with rfl | rfl | rfl | rfl | rfl | rfl | rfl
    · exact (own_t hw 10 rfl)
    · exact (own_t hw 9 rfl)
    · exact (own_t hw 27 rfl)
    · exact (own_t hw 37 rfl)
    · exact (own_t hw 35 rfl)
    · exact (own_t hw 39 rfl)
    · exact (own_t hw 40 rfl)
  show Go p e below _ T0 (mkF m 73 _ [])
  refine Go.iloadN X0 hx hby at_73 rfl ?_
  refine Go.bipush 10 X0 hx hby at_74 rfl ?_
  refine Go.iushr X0 hx hby at_76 rfl ?_
  refine Go.iconst 1 X0 hx hby at_77 rfl ?_
  refine Go.iand X0 hx hby at_78 rfl ?_
  by_cases hc79 : ((XS.ushr xs (10 : Int32)) &&& (1 : Int32)) = (0 : Int32)
  ·
    refine Go.ifYes 86 X0 hx hby at_79 ((if0 _ _).trans (teq hc79).1) (by decide) (by decide) ?_
    exact own_C2 l Z a0 hw p e s _ m _ below meth c _ _ _ _ _ xp xq xr xs n k c0 c1 c2 d0 d1 d2 cz G hx hZ hby hml hown hret hlk hS hk hs0 hC (X0.mono (by decide) (by decide)) e0 N0 Z0 OZ hn hk' r0 r1 r2 e0' e1' e2' SB hz SA SH SL SG hG
  ·
    refine Go.ifNo X0 hx hby at_79 ((if0 _ _).trans (feq hc79).1) ?_
    refine Go.iload X0 hx hby at_82 rfl ?_
    refine Go.istore X0 hx hby at_84 (l' := #[.val (.int xp), .val (.int xq), .val (.int xr), .val (.int xs), .val (.int (own_I n)), .val (.int (own_I k)), .val (.int c0), .val (.int c1), .val (.int c2), .val (.int c0), .val (.int d1), .val (.int d2), .unset, .unset, .unset, .unset, .unset, .unset, .unset, .unset, .unset, .unset, .unset, .unset, .unset, .unset, .unset, .unset, .unset]) rfl ?_
    exact own_C2 l Z a0 hw p e s _ m _ below meth c _ _ _ _ _ xp xq xr xs n k c0 c1 c2 c0 d1 d2 cz G hx hZ hby hml hown hret hlk hS hk hs0 hC (X0.mono (by decide) (by decide)) e0 N0 Z0 OZ hn hk' r0 r1 r2 r0 e1' e2' SB hz SA SH SL SG hG
theorem rm0 (l : Launch) (Z : State) (a0 : Array Value) (hw : ∀ d ∈ tables_1, d.before a0 Z = true) (ws : List Jvm.Cond) (xp xq xr xs : Int32) (cz : Int32) (G : Value) (h0 : Heap) (OZ : Old Z h0.size h0) (SB : own_SB Z Z.heap cz) (hz : ¬ cz = (0 : Int32)) (SA : own_SA Z Z.heap) (SH : own_SH Z Z.heap) (SL : own_SL Z Z.heap) (SG : own_SG Z Z.heap G) (hG : G.isRef = true) :
    MetFree l x (head1 (Jvm.Cond.code x code maxLocals ret :: ws) room_1) (fun aa U => aa = #[(.int xp), (.int xq), (.int xr), (.int xs)] ∧ Z.Warmed39 U.vm ∧ U.heap = h0 ∧ CHv Z consts_1 U.vm h0) (fun _ _ _ _ _ => True) (fun _ U o U' => ∃ v L, o = .returned v ∧ (fun v _ L => v = some (.int 1) ∧ Fr h0.size L) v U'.heap L ∧ CHr Z consts_1 U.vm U.heap U'.vm U'.heap ∧ ReturnedEndW U o U' L room_1.cells room_1.slots) := by
  refine goBodyH (y := x) (Q := fun v _ L => v = some (.int 1) ∧ Fr h0.size L) (plainFor_of_name (by first | (simp [plainName, overriddenIn]; done) | decide +kernel)) ?_
  intro p e s m below meth c T0 hx hZ hby hml hown hnm hret hlk X0 e0 hS hs0 hC
  have hEL := own_EW Z a0 hw
  have wS : ∀ d ∈ Bundle.stringAtoms, d.before a0 Z = true := fun d hd => by
    simp only [Bundle.stringAtoms, List.mem_cons, List.not_mem_nil, or_false] at hd
    rcases hd with rfl | rfl | rfl | rfl | rfl | rfl | rfl
    · exact (own_t hw 10 rfl)
    · exact (own_t hw 9 rfl)
    · exact (own_t hw 27 rfl)
    · exact (own_t hw 37 rfl)
    · exact (own_t hw 35 rfl)
    · exact (own_t hw 39 rfl)
    · exact (own_t hw 40 rfl)
  have hk : 0 ≤ h0.size := Nat.zero_le _
  have hown : s.vm.findClass "com/example/keen_guess/keenguess/text/CodePointOrderComparePinLaw" = some m.cls := hown
  have hml : c.maxLocals = 29 := hml
  refine Go.cast (g' := mkF m 0 #[.val (.int xp), .val (.int xq), .val (.int xr), .val (.int xs), .unset, .unset, .unset, .unset, .unset, .unset, .unset, .unset, .unset, .unset, .unset, .unset, .unset, .unset, .unset, .unset, .unset, .unset, .unset, .unset, .unset, .unset, .unset, .unset, .unset] []) (by first | (simp [entryFrame, mkF, argsToLocals, Value.category, maxLocals]; done) | rfl) ?_
  show Go p e below _ T0 (mkF m 0 _ [])
  refine Go.iloadN X0 hx hby at_0 rfl ?_
  refine Go.iconst 3 X0 hx hby at_1 rfl ?_
  refine Go.iand X0 hx hby at_2 rfl ?_
  show Go p e below _ T0 (mkF m 3 _ [(.int (xs &&& (3 : Int32)))])
  obtain ⟨n, hn, e_n⟩ := own_and3 xs
  rw [e_n]
  show Go p e below _ T0 (mkF m 3 _ [(.int (own_I n))])
  refine Go.istore X0 hx hby at_3 (l' := #[.val (.int xp), .val (.int xq), .val (.int xr), .val (.int xs), .val (.int (own_I n)), .unset, .unset, .unset, .unset, .unset, .unset, .unset, .unset, .unset, .unset, .unset, .unset, .unset, .unset, .unset, .unset, .unset, .unset, .unset, .unset, .unset, .unset, .unset, .unset]) rfl ?_
  refine Go.iloadN X0 hx hby at_5 rfl ?_
  refine Go.iconst 2 X0 hx hby at_6 rfl ?_
  refine Go.iushr X0 hx hby at_7 rfl ?_
  refine Go.iconst 3 X0 hx hby at_8 rfl ?_
  refine Go.iand X0 hx hby at_9 rfl ?_
  show Go p e below _ T0 (mkF m 10 _ [(.int ((XS.ushr xs (2 : Int32)) &&& (3 : Int32)))])
  obtain ⟨k, hk', e_k⟩ := own_and3 (XS.ushr xs (2 : Int32))
  rw [e_k]
  show Go p e below _ T0 (mkF m 10 _ [(.int (own_I k))])
  refine Go.istore X0 hx hby at_10 (l' := #[.val (.int xp), .val (.int xq), .val (.int xr), .val (.int xs), .val (.int (own_I n)), .val (.int (own_I k)), .unset, .unset, .unset, .unset, .unset, .unset, .unset, .unset, .unset, .unset, .unset, .unset, .unset, .unset, .unset, .unset, .unset, .unset, .unset, .unset, .unset, .unset, .unset]) rfl ?_
  refine Go.iloadN X0 hx hby at_12 rfl ?_
  refine Go.iloadN X0 hx hby at_13 rfl ?_
  refine Go.iconst 4 X0 hx hby at_14 rfl ?_
  refine Go.callS (W := 0) (y := y_27) (argsL := [(.int xp), (.int xs), (.int 4)]) (rest := []) X0 hx hZ hown (own_t hw 0 rfl) (own_t hw 1 rfl) (own_t hw 2 rfl) (own_t hw 3 rfl) (by decide) (own_rmPk l Z a0 hw xp xs (4 : Int32) h0) e0 (by rw [hml]; rfl) (lenOf own_dsc22 rfl) (hb hby at_15) rfl (Nat.le_of_eq rfl) (by decide) (by decide) (by decide) (by decide) fun _ T1 L1 X1 q1 => ?_
  obtain ⟨⟨z1, rfl, hz1⟩, rfl, e1⟩ := q1
  rw [List.append_nil] at X1
  show Go p e below _ T1 (mkF m 18 _ [(.int z1)])
  refine Go.istore X1 hx hby at_18 (l' := #[.val (.int xp), .val (.int xq), .val (.int xr), .val (.int xs), .val (.int (own_I n)), .val (.int (own_I k)), .val (.int z1), .unset, .unset, .unset, .unset, .unset, .unset, .unset, .unset, .unset, .unset, .unset, .unset, .unset, .unset, .unset, .unset, .unset, .unset, .unset, .unset, .unset, .unset]) rfl ?_
  refine Go.iloadN X1 hx hby at_20 rfl ?_
  refine Go.bipush 16 X1 hx hby at_21 rfl ?_
  refine Go.iushr X1 hx hby at_23 rfl ?_
  refine Go.iloadN X1 hx hby at_24 rfl ?_
  refine Go.iconst 5 X1 hx hby at_25 rfl ?_
  refine Go.callS (W := 0) (y := y_27) (argsL := [(.int (XS.ushr xp (16 : Int32))), (.int xs), (.int 5)]) (rest := []) X1 hx hZ hown (own_t hw 0 rfl) (own_t hw 1 rfl) (own_t hw 2 rfl) (own_t hw 3 rfl) (by decide) (own_rmPk l Z a0 hw (XS.ushr xp (16 : Int32)) xs (5 : Int32) h0) e1 (by rw [hml]; rfl) (lenOf own_dsc22 rfl) (hb hby at_26) rfl (Nat.le_of_eq rfl) (by decide) (by decide) (by decide) (by decide) fun _ T2 L2 X2 q2 => ?_
  obtain ⟨⟨z2, rfl, hz2⟩, rfl, e2⟩ := q2
  rw [List.append_nil] at X2
  show Go p e below _ T2 (mkF m 29 _ [(.int z2)])
  refine Go.istore X2 hx hby at_29 (l' := #[.val (.int xp), .val (.int xq), .val (.int xr), .val (.int xs), .val (.int (own_I n)), .val (.int (own_I k)), .val (.int z1), .val (.int z2), .unset, .unset, .unset, .unset, .unset, .unset, .unset, .unset, .unset, .unset, .unset, .unset, .unset, .unset, .unset, .unset, .unset, .unset, .unset, .unset, .unset]) rfl ?_
  refine Go.iloadN X2 hx hby at_31 rfl ?_
  refine Go.iloadN X2 hx hby at_32 rfl ?_
  refine Go.bipush 6 X2 hx hby at_33 rfl ?_
  refine Go.callS (W := 0) (y := y_27) (argsL := [(.int xq), (.int xs), (.int 6)]) (rest := []) X2 hx hZ hown (own_t hw 0 rfl) (own_t hw 1 rfl) (own_t hw 2 rfl) (own_t hw 3 rfl) (by decide) (own_rmPk l Z a0 hw xq xs (6 : Int32) h0) e2 (by rw [hml]; rfl) (lenOf own_dsc22 rfl) (hb hby at_35) rfl (Nat.le_of_eq rfl) (by decide) (by decide) (by decide) (by decide) fun _ T3 L3 X3 q3 => ?_
  obtain ⟨⟨z3, rfl, hz3⟩, rfl, e3⟩ := q3
  rw [List.append_nil] at X3
  show Go p e below _ T3 (mkF m 38 _ [(.int z3)])
  refine Go.istore X3 hx hby at_38 (l' := #[.val (.int xp), .val (.int xq), .val (.int xr), .val (.int xs), .val (.int (own_I n)), .val (.int (own_I k)), .val (.int z1), .val (.int z2), .val (.int z3), .unset, .unset, .unset, .unset, .unset, .unset, .unset, .unset, .unset, .unset, .unset, .unset, .unset, .unset, .unset, .unset, .unset, .unset, .unset, .unset]) rfl ?_
  refine Go.iloadN X3 hx hby at_40 rfl ?_
  refine Go.bipush 16 X3 hx hby at_41 rfl ?_
  refine Go.iushr X3 hx hby at_43 rfl ?_
  refine Go.iloadN X3 hx hby at_44 rfl ?_
  refine Go.bipush 7 X3 hx hby at_45 rfl ?_
  refine Go.callS (W := 0) (y := y_27) (argsL := [(.int (XS.ushr xq (16 : Int32))), (.int xs), (.int 7)]) (rest := []) X3 hx hZ hown (own_t hw 0 rfl) (own_t hw 1 rfl) (own_t hw 2 rfl) (own_t hw 3 rfl) (by decide) (own_rmPk l Z a0 hw (XS.ushr xq (16 : Int32)) xs (7 : Int32) h0) e3 (by rw [hml]; rfl) (lenOf own_dsc22 rfl) (hb hby at_47) rfl (Nat.le_of_eq rfl) (by decide) (by decide) (by decide) (by decide) fun _ T4 L4 X4 q4 => ?_
  obtain ⟨⟨z4, rfl, hz4⟩, rfl, e4⟩ := q4
  rw [List.append_nil] at X4
  show Go p e below _ T4 (mkF m 50 _ [(.int z4)])
  refine Go.istore X4 hx hby at_50 (l' := #[.val (.int xp), .val (.int xq), .val (.int xr), .val (.int xs), .val (.int (own_I n)), .val (.int (own_I k)), .val (.int z1), .val (.int z2), .val (.int z3), .val (.int z4), .unset, .unset, .unset, .unset, .unset, .unset, .unset, .unset, .unset, .unset, .unset, .unset, .unset, .unset, .unset, .unset, .unset, .unset, .unset]) rfl ?_
  refine Go.iloadN X4 hx hby at_52 rfl ?_
  refine Go.iloadN X4 hx hby at_53 rfl ?_
  refine Go.bipush 8 X4 hx hby at_54 rfl ?_
  refine Go.callS (W := 0) (y := y_27) (argsL := [(.int xr), (.int xs), (.int 8)]) (rest := []) X4 hx hZ hown (own_t hw 0 rfl) (own_t hw 1 rfl) (own_t hw 2 rfl) (own_t hw 3 rfl) (by decide) (own_rmPk l Z a0 hw xr xs (8 : Int32) h0) e4 (by rw [hml]; rfl) (lenOf own_dsc22 rfl) (hb hby at_56) rfl (Nat.le_of_eq rfl) (by decide) (by decide) (by decide) (by decide) fun _ T5 L5 X5 q5 => ?_
  obtain ⟨⟨z5, rfl, hz5⟩, rfl, e5⟩ := q5
  rw [List.append_nil] at X5
  show Go p e below _ T5 (mkF m 59 _ [(.int z5)])
  refine Go.istore X5 hx hby at_59 (l' := #[.val (.int xp), .val (.int xq), .val (.int xr), .val (.int xs), .val (.int (own_I n)), .val (.int (own_I k)), .val (.int z1), .val (.int z2), .val (.int z3), .val (.int z4), .val (.int z5), .unset, .unset, .unset, .unset, .unset, .unset, .unset, .unset, .unset, .unset, .unset, .unset, .unset, .unset, .unset, .unset, .unset, .unset]) rfl ?_
  refine Go.iloadN X5 hx hby at_61 rfl ?_
  refine Go.bipush 16 X5 hx hby at_62 rfl ?_
  refine Go.iushr X5 hx hby at_64 rfl ?_
  refine Go.iloadN X5 hx hby at_65 rfl ?_
  refine Go.bipush 9 X5 hx hby at_66 rfl ?_
  refine Go.callS (W := 0) (y := y_27) (argsL := [(.int (XS.ushr xr (16 : Int32))), (.int xs), (.int 9)]) (rest := []) X5 hx hZ hown (own_t hw 0 rfl) (own_t hw 1 rfl) (own_t hw 2 rfl) (own_t hw 3 rfl) (by decide) (own_rmPk l Z a0 hw (XS.ushr xr (16 : Int32)) xs (9 : Int32) h0) e5 (by rw [hml]; rfl) (lenOf own_dsc22 rfl) (hb hby at_68) rfl (Nat.le_of_eq rfl) (by decide) (by decide) (by decide) (by decide) fun _ T6 L6 X6 q6 => ?_
  obtain ⟨⟨z6, rfl, hz6⟩, rfl, e6⟩ := q6
  rw [List.append_nil] at X6
  show Go p e below _ T6 (mkF m 71 _ [(.int z6)])
  refine Go.istore X6 hx hby at_71 (l' := #[.val (.int xp), .val (.int xq), .val (.int xr), .val (.int xs), .val (.int (own_I n)), .val (.int (own_I k)), .val (.int z1), .val (.int z2), .val (.int z3), .val (.int z4), .val (.int z5), .val (.int z6), .unset, .unset, .unset, .unset, .unset, .unset, .unset, .unset, .unset, .unset, .unset, .unset, .unset, .unset, .unset, .unset, .unset]) rfl ?_
  exact own_C1 l Z a0 hw p e s _ m _ below meth c _ _ _ _ _ xp xq xr xs n k z1 z2 z3 z4 z5 z6 cz G hx hZ hby hml hown hret hlk hS hk hs0 hC (X6.mono (by decide) (by decide)) e6 (Fr.nil _) (Nat.le_refl _) OZ hn hk' hz1 hz2 hz3 hz4 hz5 hz6 SB hz SA SH SL SG hG
theorem comes_1 {Post : Tables → Env → Array Value → State → Outcome → State → Prop} (hpost : ∀ tb e args s v u, (limb_1_1.after args s (.returned v) u = true ∧ limb_1_2.after args s (.returned v) u = true ∧ True) → ReturnedEndW s (.returned v) u (Jvm.fieldLocs frame_1_writes args s ++ Jvm.arrayLocs frame_1_arrays args s ++ Jvm.staticLocs frame_1_statics s) 32 1216 → Post tb e args s (.returned v) u) :
    ArmFor flags0 classFile x code maxLocals ret World_1 tables_1 room_1 Calls_1 rest_1 Pre_1 Post := by
  intro l hfl _ _ p e ha hc hk s m args below hf hA hF happ hP
  obtain ⟨hcalls, hrest, hpre⟩ := hP
  obtain ⟨-, -, -, hnamed, -, -, -, hat⟩ := (Spec.applies_iff hf).mp happ
  obtain ⟨hg, hn⟩ := and_e (Cond.before_iff.mp (show (Jvm.Cond.and given_1 narrow_1).before args s = true from hpre))
  obtain ⟨g0, gg0⟩ := and_e hg
  obtain ⟨ga0, gg1⟩ := and_e gg0
  obtain ⟨ga1, gg2⟩ := and_e gg1
  obtain ⟨ga2, gg3⟩ := and_e gg2
  have ga3 := gg3
  obtain ⟨w0, w1, w2, w3, rfl⟩ : ∃ w0 w1 w2 w3 : Value, args = #[w0, w1, w2, w3] := by
    have hs : args.size = 4 := by simpa [Cond.value, given_1] using g0
    obtain ⟨L⟩ := args
    match L, hs with
    | [w0, w1, w2, w3], _ => exact ⟨w0, w1, w2, w3, rfl⟩
  have hw := fun d (hd : d ∈ tables_1) => atoms_spec (ws := Jvm.Cond.code x code maxLocals ret :: tables_1) hat d (List.mem_cons_of_mem _ hd)
  have hfit : Fit s := fun {y c} hc i hi => by
    obtain ⟨ha, rfl⟩ := Array.getElem?_eq_some_iff.mp hc
    have q := List.all_eq_true.mp ((Array.all_eq_true_iff_forall_mem.mp hF) _ (Array.getElem_mem ha)) i (List.mem_range.mpr hi)
    simpa [Array.getElem?_eq_getElem hi] using q
  obtain ⟨i0, ei0⟩ := is_v ga0
  obtain rfl : w0 = (.int i0) := Option.some.inj ei0
  obtain ⟨i1, ei1⟩ := is_v ga1
  obtain rfl : w1 = (.int i1) := Option.some.inj ei1
  obtain ⟨i2, ei2⟩ := is_v ga2
  obtain rfl : w2 = (.int i2) := Option.some.inj ei2
  obtain ⟨i3, ei3⟩ := is_v ga3
  obtain rfl : w3 = (.int i3) := Option.some.inj ei3
  obtain ⟨hsets, hown0⟩ := atoms_of _ (rest_1_c_eq ▸ (show rest_1_c.before _ s = true from hrest))
  have n3 := not_v (Cond.before_iff.mp (hsets _ (List.mem_of_getElem? (i := 2) rfl)))
  obtain ⟨cz, e6⟩ := is_v (Cond.before_iff.mp (hsets _ (List.mem_of_getElem? (i := 1) rfl)))
  have SB : Sta s s.heap "java/lang/String" "COMPACT_STRINGS" "Z" (.int cz) := Sta.start e6 (Or.inl (hsets _ (List.mem_of_getElem? (i := 0) rfl)))
  have hz : ¬ (cz = (0 : Int32)) := gotF (Cond.eq_ints e6 (Term.int_eval (0))) n3
  have hCH : CHv s consts_1 s.vm s.heap := CHv.start (own_EW s _ hw) (fun p hp => hcalls.1 p hp) (hsets _ (List.mem_of_getElem? (i := 2) rfl)) (own_t hw 27 rfl) (own_t hw 9 rfl)
  obtain ⟨G, eG, hG⟩ := isR_v (Cond.before_iff.mp (hsets _ (List.mem_of_getElem? (i := 8) rfl)))
  have SG : Sta s s.heap "jdk/internal/util/Preconditions" "SIOOBE_FORMATTER" "Ljava/util/function/BiFunction;" G := Sta.start eG (Or.inl (hsets _ (List.mem_of_getElem? (i := 7) rfl)))
  have SA : Sta s s.heap "java/lang/StringUTF16" "$assertionsDisabled" "Z" (.int 1) := own_staI (Cond.before_iff.mp (hsets _ (List.mem_of_getElem? (i := 12) rfl))) (hsets _ (List.mem_of_getElem? (i := 11) rfl))
  have SH : Sta s s.heap "java/lang/StringUTF16" "HI_BYTE_SHIFT" "I" (.int 0) := own_staI (Cond.before_iff.mp (hsets _ (List.mem_of_getElem? (i := 15) rfl))) (hsets _ (List.mem_of_getElem? (i := 14) rfl))
  have SL : Sta s s.heap "java/lang/StringUTF16" "LO_BYTE_SHIFT" "I" (.int 8) := own_staI (Cond.before_iff.mp (hsets _ (List.mem_of_getElem? (i := 18) rfl))) (hsets _ (List.mem_of_getElem? (i := 17) rfl))
  obtain ⟨n, o, h1, h2, h3, _, L, rfl, ⟨rfl, N⟩, -, hq⟩ := rm0 l s _ hw tables_1 i0 i1 i2 i3 cz G s.heap (Old.start s) SB hz SA SH SL SG hG p e ha hc hk s m _ below hf ((Spec.applies_iff_loose hf).mp happ).1 ⟨rfl, State.Warmed39.refl s, rfl, hCH⟩ trivial
  refine ⟨n, _, h1, h2, h3, hpost _ _ _ _ _ _ ⟨Cond.after_iff.mpr rfl, Cond.after_iff.mpr (eq_i res_at (Term.int_eval (1)) rfl), trivial⟩ ⟨hq.1, hq.2.1, hq.2.2.1, (hq.2.2.2.sift fun y hy => Or.inr (N y hy)).mono (by decide) (by decide)⟩⟩
theorem main_1_1 : Claimed_1_1 := comes_1 fun _ _ _ _ _ _ h hF => ⟨h.1, hF⟩
theorem main_1_2 : Claimed_1_2 := comes_1 fun _ _ _ _ _ _ h hF => ⟨h.2.1, hF⟩
end Jvm.Pilot.@@N@@
namespace Jvm.Pilot.@@N@@
open Jvm Jvm.ClassFile Sem Op Lib Jvm.Free Jvm.Stand Jvm.Pilot.@@N@@.Jvm.D
/-! MADE BY PROGRAM (witnessworld.py) out of the Statement's table words and the real class files: 23 classes; the members and pool entries that the words name. The judged class is class 1, her method 1. -/
namespace start1
open Jvm.ClassFile
def u (s : String) : CpInfo := .utf8 (stringToUtf16 s)
/-- a pool by its gaps: so many unusable entries, then the entry; so many at the end -/
def gap : Nat → List CpInfo → List CpInfo
  | 0, r => r
  | n + 1, r => .unusable :: gap n r
def poolList (es : List (Nat × CpInfo)) (last : Nat) : List CpInfo := es.foldr (fun e r => gap e.1 (e.2 :: r)) (gap last [])
def pool (es : List (Nat × CpInfo)) (last : Nat) : Array CpInfo := ⟨poolList es last⟩
def fileOf (pool : Array CpInfo) (this : Nat) (attrs : Array Attribute := #[]) (ms : Array MethodInfo := #[]) (fl : Nat := 33) (sup : Nat := 0) (ifs : Array Nat := #[]) (fds : Array FieldInfo := #[]) : ClassFile where
  minorVersion := 0
  majorVersion := 65
  constantPool := pool
  accessFlags := fl
  thisClass := this
  superClass := sup
  interfaces := ifs
  fields := fds
  methods := ms
  attributes := attrs
def plain (name : String) (sup : Option ClassId) : Class where
  name := name
  kind := .ordinary
  loader := none
  accessFlags := 33
  super := sup
  interfaces := #[]
  cf := none
  fields := #[]
  methods := #[]
  instanceTypes := #[]
  staticTypes := #[]
  resolved := #[]
  callSites := []
  init := .initialized
  statics := none
  mirror := none

def pool0 : Array CpInfo := pool [(5, u "<init>"), (0, u "()V"), (1, .class_ 10), (1, u "java/lang/Object")] 113

def k0c0 : Code := { maxStack := 0, maxLocals := 1, code := object_method_1_code, exceptionTable := #[], attributes := #[] }
def k0m0 : Method := { name := "<init>", desc := "()V", sig := { parameters := [], returnType := none }, accessFlags := 1, code := some k0c0 }
/-- java/lang/Object -/
def k0 : Class := { plain "java/lang/Object" none with
  accessFlags := 33
  interfaces := #[]
  cf := some (fileOf pool0 8 #[] #[{ accessFlags := 1, nameIndex := 5, descriptorIndex := 6, attributes := #[] }] 33 0 #[] #[])
  fields := #[]
  methods := #[k0m0]
  instanceTypes := #[]
  staticTypes := #[]
  resolved := Array.replicate 124 none
  statics := none }

def pool1 : Array CpInfo := pool [(2, .class_ 4), (1, u "java/lang/Object"), (0, u "<init>"), (0, u "()V"), (0, .methodref 8 9), (0, .class_ 10), (0, .nameAndType 11 12), (0, u "com/example/keen_guess/keenguess/text/CodePointOrderComparePinLaw"), (0, u "pick"), (0, u "(III)C"), (0, .methodref 8 14), (0, .nameAndType 15 16), (0, u "make"), (0, u "(CCCI)Ljava/lang/String;"), (0, .methodref 8 18), (0, .nameAndType 19 20), (0, u "cpAt"), (0, u "([CII)I"), (0, .methodref 8 22), (0, .nameAndType 23 24), (0, u "next"), (0, u "(II)I"), (0, .methodref 26 27), (0, .class_ 28), (0, .nameAndType 29 30), (0, u "com/example/keen_guess/keenguess/text/CodePointOrder"), (0, u "compare"), (0, u "(Ljava/lang/String;Ljava/lang/String;)I"), (0, .integer 65535), (0, .integer 56319), (0, .integer 55296), (0, .integer 57343), (0, .integer 56320), (0, .integer 57344), (0, .class_ 38), (0, u "java/lang/String"), (0, .methodref 37 40), (0, .nameAndType 5 41), (0, u "([C)V"), (0, .integer 65536), (2, u "law"), (0, u "(IIII)Z")] 5

def k1m0 : Method := { name := "<init>", desc := "()V", sig := { parameters := [], returnType := none }, accessFlags := 1, code := none }
def k1c1 : Code := { maxStack := 4, maxLocals := 29, code := code, exceptionTable := #[], attributes := #[] }
def k1m1 : Method := { name := "law", desc := "(IIII)Z", sig := { parameters := [.int, .int, .int, .int], returnType := some .boolean }, accessFlags := 9, code := some k1c1 }
def k1c2 : Code := { maxStack := 2, maxLocals := 6, code := method_3_code, exceptionTable := #[], attributes := #[] }
def k1m2 : Method := { name := "pick", desc := "(III)C", sig := { parameters := [.int, .int, .int], returnType := some .char }, accessFlags := 10, code := some k1c2 }
def k1c3 : Code := { maxStack := 6, maxLocals := 4, code := method_4_code, exceptionTable := #[], attributes := #[] }
def k1m3 : Method := { name := "make", desc := "(CCCI)Ljava/lang/String;", sig := { parameters := [.char, .char, .char, .int], returnType := some (.object "java/lang/String") }, accessFlags := 10, code := some k1c3 }
def k1c4 : Code := { maxStack := 2, maxLocals := 2, code := method_5_code, exceptionTable := #[], attributes := #[] }
def k1m4 : Method := { name := "next", desc := "(II)I", sig := { parameters := [.int, .int], returnType := some .int }, accessFlags := 10, code := some k1c4 }
def k1c5 : Code := { maxStack := 3, maxLocals := 5, code := method_6_code, exceptionTable := #[], attributes := #[] }
def k1m5 : Method := { name := "cpAt", desc := "([CII)I", sig := { parameters := [(.array .char), .int, .int], returnType := some .int }, accessFlags := 10, code := some k1c5 }
/-- com/example/keen_guess/keenguess/text/CodePointOrderComparePinLaw -/
def k1 : Class := { plain "com/example/keen_guess/keenguess/text/CodePointOrderComparePinLaw" (some 0) with
  accessFlags := 49
  interfaces := #[]
  cf := some (fileOf pool1 8 #[] #[{ accessFlags := 1, nameIndex := 5, descriptorIndex := 6, attributes := #[] }, { accessFlags := 9, nameIndex := 45, descriptorIndex := 46, attributes := #[] }, { accessFlags := 10, nameIndex := 11, descriptorIndex := 12, attributes := #[] }, { accessFlags := 10, nameIndex := 15, descriptorIndex := 16, attributes := #[] }, { accessFlags := 10, nameIndex := 23, descriptorIndex := 24, attributes := #[] }, { accessFlags := 10, nameIndex := 19, descriptorIndex := 20, attributes := #[] }] 49 2 #[] #[])
  fields := #[]
  methods := #[k1m0, k1m1, k1m2, k1m3, k1m4, k1m5]
  instanceTypes := #[]
  staticTypes := #[]
  resolved := Array.replicate 52 none
  statics := none }

def pool2 : Array CpInfo := pool [(1, .class_ 2), (0, u "java/io/Serializable"), (0, .class_ 4), (0, u "java/lang/Object")] 2

/-- java/io/Serializable -/
def k2 : Class := { plain "java/io/Serializable" (some 0) with
  accessFlags := 1537
  interfaces := #[]
  cf := some (fileOf pool2 1 #[] #[] 1537 3 #[] #[])
  fields := #[]
  methods := #[]
  instanceTypes := #[]
  staticTypes := #[]
  resolved := Array.replicate 7 none
  statics := none }

def pool3 : Array CpInfo := pool [(1, .class_ 2), (0, u "java/lang/Comparable"), (0, .class_ 4), (0, u "java/lang/Object")] 7

/-- java/lang/Comparable -/
def k3 : Class := { plain "java/lang/Comparable" (some 0) with
  accessFlags := 1537
  interfaces := #[]
  cf := some (fileOf pool3 1 #[] #[] 1537 3 #[] #[])
  fields := #[]
  methods := #[]
  instanceTypes := #[]
  staticTypes := #[]
  resolved := Array.replicate 12 none
  statics := none }

def pool4 : Array CpInfo := pool [(2, .class_ 4), (1, u "java/lang/CharSequence"), (42, .class_ 48), (0, u "java/lang/CharSequence$1CodePointIterator"), (10, .class_ 60), (0, u "java/lang/CharSequence$1CharIterator"), (5, .class_ 67), (0, u "java/lang/Object")] 63

/-- java/lang/CharSequence -/
def k4 : Class := { plain "java/lang/CharSequence" (some 0) with
  accessFlags := 1537
  interfaces := #[]
  cf := some (fileOf pool4 2 #[.nestMembers #[47, 59]] #[] 1537 66 #[] #[])
  fields := #[]
  methods := #[]
  instanceTypes := #[]
  staticTypes := #[]
  resolved := Array.replicate 131 none
  statics := none }

def pool5 : Array CpInfo := pool [(1, .class_ 2), (0, u "java/lang/constant/Constable"), (0, .class_ 4), (0, u "java/lang/Object")] 6

/-- java/lang/constant/Constable -/
def k5 : Class := { plain "java/lang/constant/Constable" (some 0) with
  accessFlags := 1537
  interfaces := #[]
  cf := some (fileOf pool5 1 #[] #[] 1537 3 #[] #[])
  fields := #[]
  methods := #[]
  instanceTypes := #[]
  staticTypes := #[]
  resolved := Array.replicate 11 none
  statics := none }

def pool6 : Array CpInfo := pool [(1, .class_ 2), (0, u "java/lang/constant/ConstantDesc"), (0, .class_ 4), (0, u "java/lang/Object")] 32

/-- java/lang/constant/ConstantDesc -/
def k6 : Class := { plain "java/lang/constant/ConstantDesc" (some 0) with
  accessFlags := 1537
  interfaces := #[]
  cf := some (fileOf pool6 1 #[] #[] 1537 3 #[] #[])
  fields := #[]
  methods := #[]
  instanceTypes := #[]
  staticTypes := #[]
  resolved := Array.replicate 37 none
  statics := none }

def pool7 : Array CpInfo := pool [(1, .methodref 2 3), (0, .class_ 4), (0, .nameAndType 5 6), (0, u "java/lang/Object"), (0, u "<init>"), (0, u "()V"), (0, .string 8), (0, u ""), (0, .fieldref 10 11), (0, .class_ 12), (0, .nameAndType 13 14), (0, u "java/lang/String"), (0, u "value"), (0, u "[B"), (0, .fieldref 10 16), (0, .nameAndType 17 18), (0, u "coder"), (0, u "B"), (2, u "hash"), (0, u "I"), (2, u "hashIsZero"), (0, u "Z"), (0, .methodref 10 28), (0, .nameAndType 5 29), (0, u "([CIILjava/lang/Void;)V"), (8, .fieldref 10 39), (0, .nameAndType 40 26), (0, u "COMPACT_STRINGS"), (1, .class_ 44), (1, u "java/lang/StringUTF16"), (0, u "compress"), (1, .methodref 42 48), (0, .nameAndType 49 50), (0, u "coderFromArrayLen"), (0, u "([BI)B"), (46, u "([BII)I"), (44, u "()Z"), (34, .methodref 42 178), (0, .nameAndType 45 179), (0, u "([CII)[B"), (154, u "()I"), (0, .methodref 10 336), (0, .nameAndType 17 337), (0, u "()B"), (53, u "(II)V"), (100, .methodref 10 493), (0, .nameAndType 494 142), (0, u "isLatin1"), (4, .methodref 10 500), (0, .nameAndType 501 391), (0, u "checkIndex"), (0, .methodref 42 503), (0, .nameAndType 504 97), (0, u "codePointAt"), (2, u "length"), (67, .class_ 576), (0, u "java/lang/CharSequence"), (22, u "CASE_INSENSITIVE_ORDER"), (0, u "Ljava/util/Comparator;"), (164, u "(I)I"), (244, u "([C)V"), (42, .fieldref 1054 1055), (0, .class_ 1056), (0, .nameAndType 1057 1058), (0, u "jdk/internal/util/Preconditions"), (0, u "SIOOBE_FORMATTER"), (0, u "Ljava/util/function/BiFunction;"), (0, .methodref 1054 1060), (0, .nameAndType 501 1061), (0, u "(IILjava/util/function/BiFunction;)I"), (39, u "serialPersistentFields"), (0, u "[Ljava/io/ObjectStreamField;"), (0, .class_ 1104), (0, u "java/lang/String$CaseInsensitiveComparator"), (1, .class_ 1107), (0, u "java/io/Serializable"), (0, .class_ 1109), (0, u "java/lang/Comparable"), (0, .class_ 1111), (0, u "java/lang/constant/Constable"), (0, .class_ 1113), (0, u "java/lang/constant/ConstantDesc"), (2, u "serialVersionUID"), (0, u "J"), (3, u "REPL"), (0, u "C"), (2, u "LATIN1"), (1, u "UTF16")] 323

def k7m0 : Method := { name := "<init>", desc := "()V", sig := { parameters := [], returnType := none }, accessFlags := 1, code := none }
def k7c1 : Code := { maxStack := 5, maxLocals := 2, code := jdk_42_method_3_code, exceptionTable := #[], attributes := #[] }
def k7m1 : Method := { name := "<init>", desc := "([C)V", sig := { parameters := [(.array .char)], returnType := none }, accessFlags := 1, code := some k7c1 }
def k7c2 : Code := { maxStack := 2, maxLocals := 1, code := jdk_42_method_54_code, exceptionTable := #[], attributes := #[] }
def k7m2 : Method := { name := "length", desc := "()I", sig := { parameters := [], returnType := some .int }, accessFlags := 1, code := some k7c2 }
def k7c3 : Code := { maxStack := 3, maxLocals := 3, code := jdk_42_method_57_code, exceptionTable := #[], attributes := #[] }
def k7m3 : Method := { name := "codePointAt", desc := "(I)I", sig := { parameters := [.int], returnType := some .int }, accessFlags := 1, code := some k7c3 }
def k7c4 : Code := { maxStack := 4, maxLocals := 6, code := jdk_42_method_149_code, exceptionTable := #[], attributes := #[] }
def k7m4 : Method := { name := "<init>", desc := "([CIILjava/lang/Void;)V", sig := { parameters := [(.array .char), .int, .int, (.object "java/lang/Void")], returnType := none }, accessFlags := 2, code := some k7c4 }
def k7c5 : Code := { maxStack := 1, maxLocals := 1, code := jdk_42_method_152_code, exceptionTable := #[], attributes := #[] }
def k7m5 : Method := { name := "coder", desc := "()B", sig := { parameters := [], returnType := some .byte }, accessFlags := 0, code := some k7c5 }
def k7c6 : Code := { maxStack := 1, maxLocals := 1, code := jdk_42_method_154_code, exceptionTable := #[], attributes := #[] }
def k7m6 : Method := { name := "isLatin1", desc := "()Z", sig := { parameters := [], returnType := some .boolean }, accessFlags := 0, code := some k7c6 }
def k7c7 : Code := { maxStack := 3, maxLocals := 2, code := jdk_42_method_155_code, exceptionTable := #[], attributes := #[] }
def k7m7 : Method := { name := "checkIndex", desc := "(II)V", sig := { parameters := [.int, .int], returnType := none }, accessFlags := 8, code := some k7c7 }
/-- java/lang/String -/
def k7 : Class := { plain "java/lang/String" (some 0) with
  accessFlags := 49
  interfaces := #[2, 3, 4, 5, 6]
  cf := some (fileOf pool7 10 #[.nestMembers #[1103]] #[{ accessFlags := 1, nameIndex := 5, descriptorIndex := 6, attributes := #[] }, { accessFlags := 1, nameIndex := 5, descriptorIndex := 1010, attributes := #[] }, { accessFlags := 1, nameIndex := 507, descriptorIndex := 334, attributes := #[] }, { accessFlags := 1, nameIndex := 504, descriptorIndex := 765, attributes := #[] }, { accessFlags := 2, nameIndex := 5, descriptorIndex := 29, attributes := #[] }, { accessFlags := 0, nameIndex := 17, descriptorIndex := 337, attributes := #[] }, { accessFlags := 0, nameIndex := 494, descriptorIndex := 142, attributes := #[] }, { accessFlags := 8, nameIndex := 501, descriptorIndex := 391, attributes := #[] }] 49 2 #[1106, 1108, 575, 1110, 1112] #[{ accessFlags := 18, nameIndex := 13, descriptorIndex := 14, attributes := #[] }, { accessFlags := 18, nameIndex := 17, descriptorIndex := 18, attributes := #[] }, { accessFlags := 2, nameIndex := 21, descriptorIndex := 22, attributes := #[] }, { accessFlags := 2, nameIndex := 25, descriptorIndex := 26, attributes := #[] }, { accessFlags := 26, nameIndex := 1116, descriptorIndex := 1117, attributes := #[] }, { accessFlags := 24, nameIndex := 40, descriptorIndex := 26, attributes := #[] }, { accessFlags := 26, nameIndex := 1101, descriptorIndex := 1102, attributes := #[] }, { accessFlags := 26, nameIndex := 1121, descriptorIndex := 1122, attributes := #[] }, { accessFlags := 25, nameIndex := 599, descriptorIndex := 600, attributes := #[] }, { accessFlags := 24, nameIndex := 1125, descriptorIndex := 18, attributes := #[] }, { accessFlags := 24, nameIndex := 1127, descriptorIndex := 18, attributes := #[] }])
  fields := #[{ name := "value", type := (.array .byte), accessFlags := 18, slot := 0, constantValue := 0 }, { name := "coder", type := .byte, accessFlags := 18, slot := 1, constantValue := 0 }, { name := "hash", type := .int, accessFlags := 2, slot := 2, constantValue := 0 }, { name := "hashIsZero", type := .boolean, accessFlags := 2, slot := 3, constantValue := 0 }, { name := "serialVersionUID", type := .long, accessFlags := 26, slot := 0, constantValue := 0 }, { name := "COMPACT_STRINGS", type := .boolean, accessFlags := 24, slot := 1, constantValue := 0 }, { name := "serialPersistentFields", type := (.array (.object "java/io/ObjectStreamField")), accessFlags := 26, slot := 2, constantValue := 0 }, { name := "REPL", type := .char, accessFlags := 26, slot := 3, constantValue := 0 }, { name := "CASE_INSENSITIVE_ORDER", type := (.object "java/util/Comparator"), accessFlags := 25, slot := 4, constantValue := 0 }, { name := "LATIN1", type := .byte, accessFlags := 24, slot := 5, constantValue := 0 }, { name := "UTF16", type := .byte, accessFlags := 24, slot := 6, constantValue := 0 }]
  methods := #[k7m0, k7m1, k7m2, k7m3, k7m4, k7m5, k7m6, k7m7]
  instanceTypes := #[(.array .byte), .byte, .int, .boolean]
  staticTypes := #[.long, .boolean, (.array (.object "java/io/ObjectStreamField")), .char, (.object "java/util/Comparator"), .byte, .byte]
  resolved := Array.replicate 1451 none
  statics := some 0 }

def pool8 : Array CpInfo := pool [(6, .class_ 8), (1, u "java/lang/Object"), (0, u "<init>"), (0, u "()V"), (0, .methodref 12 13), (0, .class_ 14), (0, .nameAndType 15 16), (0, u "java/lang/StringUTF16"), (0, u "newBytesLength"), (0, u "(I)I"), (3, .integer 1073741823), (23, .fieldref 12 45), (0, .nameAndType 46 47), (0, u "$assertionsDisabled"), (0, u "Z"), (11, .fieldref 12 60), (0, .nameAndType 61 62), (0, u "HI_BYTE_SHIFT"), (0, u "I"), (0, .fieldref 12 64), (0, .nameAndType 65 62), (0, u "LO_BYTE_SHIFT"), (5, .methodref 12 72), (0, .nameAndType 73 74), (0, u "getChar"), (0, u "([BI)C"), (0, .methodref 76 77), (0, .class_ 78), (0, .nameAndType 79 80), (0, u "java/lang/Character"), (0, u "isHighSurrogate"), (0, u "(C)Z"), (0, .methodref 76 82), (0, .nameAndType 83 80), (0, u "isLowSurrogate"), (0, .methodref 76 85), (0, .nameAndType 86 87), (0, u "toCodePoint"), (0, u "(CC)I"), (0, .methodref 12 89), (0, .nameAndType 90 91), (0, u "codePointAt"), (0, u "([BIIZ)I"), (15, .methodref 12 108), (0, .nameAndType 109 110), (0, u "newBytesFor"), (0, u "(I)[B"), (0, .methodref 12 112), (0, .nameAndType 113 114), (0, u "putChar"), (0, u "([BII)V"), (0, .methodref 12 116), (0, .nameAndType 117 118), (0, u "compress"), (0, u "([CI[BII)I"), (0, .methodref 12 120), (0, .nameAndType 121 122), (0, u "toBytes"), (0, u "([CII)[B"), (127, u "([BII)I"), (10, u "coderFromArrayLen"), (0, u "([BI)B"), (106, .class_ 371), (1, u "java/lang/StringUTF16$LinesSpliterator"), (58, u "MAX_LENGTH"), (196, .class_ 628), (0, u "java/lang/StringUTF16$CodePointsSpliterator"), (0, .class_ 630), (0, u "java/lang/StringUTF16$CharsSpliterator")] 4

def k8m0 : Method := { name := "<init>", desc := "()V", sig := { parameters := [], returnType := none }, accessFlags := 0, code := none }
def k8c1 : Code := { maxStack := 1, maxLocals := 1, code := jdk_52_method_2_code, exceptionTable := #[], attributes := #[] }
def k8m1 : Method := { name := "newBytesFor", desc := "(I)[B", sig := { parameters := [.int], returnType := some (.array .byte) }, accessFlags := 9, code := some k8c1 }
def k8c2 : Code := { maxStack := 4, maxLocals := 1, code := jdk_52_method_3_code, exceptionTable := #[], attributes := #[] }
def k8m2 : Method := { name := "newBytesLength", desc := "(I)I", sig := { parameters := [.int], returnType := some .int }, accessFlags := 9, code := some k8c2 }
def k8c3 : Code := { maxStack := 4, maxLocals := 3, code := jdk_52_method_4_code, exceptionTable := #[], attributes := #[] }
def k8m3 : Method := { name := "putChar", desc := "([BII)V", sig := { parameters := [(.array .byte), .int, .int], returnType := none }, accessFlags := 8, code := some k8c3 }
def k8c4 : Code := { maxStack := 3, maxLocals := 2, code := jdk_52_method_5_code, exceptionTable := #[], attributes := #[] }
def k8m4 : Method := { name := "getChar", desc := "([BI)C", sig := { parameters := [(.array .byte), .int], returnType := some .char }, accessFlags := 8, code := some k8c4 }
def k8c5 : Code := { maxStack := 2, maxLocals := 6, code := jdk_52_method_7_code, exceptionTable := #[], attributes := #[] }
def k8m5 : Method := { name := "codePointAt", desc := "([BIIZ)I", sig := { parameters := [(.array .byte), .int, .int, .boolean], returnType := some .int }, accessFlags := 10, code := some k8c5 }
def k8c6 : Code := { maxStack := 4, maxLocals := 3, code := jdk_52_method_8_code, exceptionTable := #[], attributes := #[] }
def k8m6 : Method := { name := "codePointAt", desc := "([BII)I", sig := { parameters := [(.array .byte), .int, .int], returnType := some .int }, accessFlags := 9, code := some k8c6 }
def k8c7 : Code := { maxStack := 4, maxLocals := 5, code := jdk_52_method_14_code, exceptionTable := #[], attributes := #[] }
def k8m7 : Method := { name := "toBytes", desc := "([CII)[B", sig := { parameters := [(.array .char), .int, .int], returnType := some (.array .byte) }, accessFlags := 9, code := some k8c7 }
def k8c8 : Code := { maxStack := 2, maxLocals := 2, code := jdk_52_method_15_code, exceptionTable := #[], attributes := #[] }
def k8m8 : Method := { name := "coderFromArrayLen", desc := "([BI)B", sig := { parameters := [(.array .byte), .int], returnType := some .byte }, accessFlags := 8, code := some k8c8 }
def k8c9 : Code := { maxStack := 5, maxLocals := 6, code := jdk_52_method_16_code, exceptionTable := #[], attributes := #[] }
def k8m9 : Method := { name := "compress", desc := "([CII)[B", sig := { parameters := [(.array .char), .int, .int], returnType := some (.array .byte) }, accessFlags := 9, code := some k8c9 }
def k8c10 : Code := { maxStack := 3, maxLocals := 7, code := jdk_52_method_21_code, exceptionTable := #[], attributes := #[] }
def k8m10 : Method := { name := "compress", desc := "([CI[BII)I", sig := { parameters := [(.array .char), .int, (.array .byte), .int, .int], returnType := some .int }, accessFlags := 9, code := some k8c10 }
/-- java/lang/StringUTF16 -/
def k8 : Class := { plain "java/lang/StringUTF16" (some 0) with
  accessFlags := 48
  interfaces := #[]
  cf := some (fileOf pool8 12 #[.nestMembers #[627, 629, 369]] #[{ accessFlags := 0, nameIndex := 9, descriptorIndex := 10, attributes := #[] }, { accessFlags := 9, nameIndex := 109, descriptorIndex := 110, attributes := #[] }, { accessFlags := 9, nameIndex := 15, descriptorIndex := 16, attributes := #[] }, { accessFlags := 8, nameIndex := 113, descriptorIndex := 114, attributes := #[] }, { accessFlags := 8, nameIndex := 73, descriptorIndex := 74, attributes := #[] }, { accessFlags := 10, nameIndex := 90, descriptorIndex := 91, attributes := #[] }, { accessFlags := 9, nameIndex := 90, descriptorIndex := 250, attributes := #[] }, { accessFlags := 9, nameIndex := 121, descriptorIndex := 122, attributes := #[] }, { accessFlags := 8, nameIndex := 261, descriptorIndex := 262, attributes := #[] }, { accessFlags := 9, nameIndex := 117, descriptorIndex := 122, attributes := #[] }, { accessFlags := 9, nameIndex := 117, descriptorIndex := 118, attributes := #[] }] 48 6 #[] #[{ accessFlags := 26, nameIndex := 61, descriptorIndex := 62, attributes := #[] }, { accessFlags := 26, nameIndex := 65, descriptorIndex := 62, attributes := #[] }, { accessFlags := 24, nameIndex := 430, descriptorIndex := 62, attributes := #[] }, { accessFlags := 4120, nameIndex := 46, descriptorIndex := 47, attributes := #[] }])
  fields := #[{ name := "HI_BYTE_SHIFT", type := .int, accessFlags := 26, slot := 0, constantValue := 0 }, { name := "LO_BYTE_SHIFT", type := .int, accessFlags := 26, slot := 1, constantValue := 0 }, { name := "MAX_LENGTH", type := .int, accessFlags := 24, slot := 2, constantValue := 0 }, { name := "$assertionsDisabled", type := .boolean, accessFlags := 4120, slot := 3, constantValue := 0 }]
  methods := #[k8m0, k8m1, k8m2, k8m3, k8m4, k8m5, k8m6, k8m7, k8m8, k8m9, k8m10]
  instanceTypes := #[]
  staticTypes := #[.int, .int, .int, .boolean]
  resolved := Array.replicate 635 none
  statics := some 1 }

def pool9 : Array CpInfo := pool [(2, .class_ 4), (1, u "java/lang/Object"), (0, u "<init>"), (0, u "()V"), (0, .methodref 8 9), (0, .class_ 10), (0, .nameAndType 11 12), (0, u "java/lang/String"), (0, u "length"), (0, u "()I"), (0, .methodref 8 14), (0, .nameAndType 15 16), (0, u "codePointAt"), (0, u "(I)I"), (0, .methodref 18 19), (0, .class_ 20), (0, .nameAndType 21 22), (0, u "java/lang/Integer"), (0, u "compare"), (0, u "(II)I"), (0, .methodref 24 25), (0, .class_ 26), (0, .nameAndType 27 16), (0, u "java/lang/Character"), (0, u "charCount"), (0, .class_ 29), (0, u "com/example/keen_guess/keenguess/text/CodePointOrder"), (2, u "(Ljava/lang/String;Ljava/lang/String;)I")] 3

def k9m0 : Method := { name := "<init>", desc := "()V", sig := { parameters := [], returnType := none }, accessFlags := 2, code := none }
def k9c1 : Code := { maxStack := 3, maxLocals := 7, code := prog_48_method_2_code, exceptionTable := #[], attributes := #[] }
def k9m1 : Method := { name := "compare", desc := "(Ljava/lang/String;Ljava/lang/String;)I", sig := { parameters := [(.object "java/lang/String"), (.object "java/lang/String")], returnType := some .int }, accessFlags := 9, code := some k9c1 }
/-- com/example/keen_guess/keenguess/text/CodePointOrder -/
def k9 : Class := { plain "com/example/keen_guess/keenguess/text/CodePointOrder" (some 0) with
  accessFlags := 33
  interfaces := #[]
  cf := some (fileOf pool9 28 #[] #[{ accessFlags := 2, nameIndex := 5, descriptorIndex := 6, attributes := #[] }, { accessFlags := 9, nameIndex := 21, descriptorIndex := 32, attributes := #[] }] 33 2 #[] #[])
  fields := #[]
  methods := #[k9m0, k9m1]
  instanceTypes := #[]
  staticTypes := #[]
  resolved := Array.replicate 36 none
  statics := none }

def pool10 : Array CpInfo := pool [(2, .class_ 4), (1, u "java/lang/Object"), (0, u "<init>"), (0, u "()V"), (1, .class_ 10), (1, u "java/lang/Number"), (2, .class_ 14), (0, u "java/io/Serializable"), (0, u "serialVersionUID"), (0, u "J")] 20

def k10m0 : Method := { name := "<init>", desc := "()V", sig := { parameters := [], returnType := none }, accessFlags := 1, code := none }
/-- java/lang/Number -/
def k10 : Class := { plain "java/lang/Number" (some 0) with
  accessFlags := 1057
  interfaces := #[2]
  cf := some (fileOf pool10 8 #[] #[{ accessFlags := 1, nameIndex := 5, descriptorIndex := 6, attributes := #[] }] 1057 2 #[13] #[{ accessFlags := 26, nameIndex := 15, descriptorIndex := 16, attributes := #[] }])
  fields := #[{ name := "serialVersionUID", type := .long, accessFlags := 26, slot := 0, constantValue := 0 }]
  methods := #[k10m0]
  instanceTypes := #[]
  staticTypes := #[.long]
  resolved := Array.replicate 37 none
  statics := none }

def pool11 : Array CpInfo := pool [(1, .class_ 2), (0, u "java/lang/Integer"), (16, u "digits"), (0, u "[C"), (39, u "(II)I"), (24, u "DigitOnes"), (0, u "[B"), (2, u "DigitTens"), (99, .class_ 190), (0, u "java/lang/Integer$IntegerCache"), (3, u "I"), (8, .class_ 204), (0, u "java/lang/Number"), (2, u "value"), (53, u "compare"), (40, u "TYPE"), (0, u "Ljava/lang/Class;"), (0, .class_ 305), (0, u "java/lang/Comparable"), (0, .class_ 307), (0, u "java/lang/constant/Constable"), (0, .class_ 309), (0, u "java/lang/constant/ConstantDesc"), (0, u "MIN_VALUE"), (1, u "MAX_VALUE"), (3, u "SIZE"), (1, u "BYTES"), (1, u "serialVersionUID"), (0, u "J")] 131

def k11c0 : Code := { maxStack := 2, maxLocals := 2, code := jdk_33_method_40_code, exceptionTable := #[], attributes := #[] }
def k11m0 : Method := { name := "compare", desc := "(II)I", sig := { parameters := [.int, .int], returnType := some .int }, accessFlags := 9, code := some k11c0 }
/-- java/lang/Integer -/
def k11 : Class := { plain "java/lang/Integer" (some 10) with
  accessFlags := 49
  interfaces := #[3, 5, 6]
  cf := some (fileOf pool11 1 #[.nestMembers #[189]] #[{ accessFlags := 9, nameIndex := 261, descriptorIndex := 60, attributes := #[] }] 49 203 #[304, 306, 308] #[{ accessFlags := 25, nameIndex := 310, descriptorIndex := 194, attributes := #[] }, { accessFlags := 25, nameIndex := 312, descriptorIndex := 194, attributes := #[] }, { accessFlags := 25, nameIndex := 302, descriptorIndex := 303, attributes := #[] }, { accessFlags := 24, nameIndex := 19, descriptorIndex := 20, attributes := #[] }, { accessFlags := 24, nameIndex := 89, descriptorIndex := 86, attributes := #[] }, { accessFlags := 24, nameIndex := 85, descriptorIndex := 86, attributes := #[] }, { accessFlags := 18, nameIndex := 207, descriptorIndex := 194, attributes := #[] }, { accessFlags := 25, nameIndex := 316, descriptorIndex := 194, attributes := #[] }, { accessFlags := 25, nameIndex := 318, descriptorIndex := 194, attributes := #[] }, { accessFlags := 26, nameIndex := 320, descriptorIndex := 321, attributes := #[] }])
  fields := #[{ name := "MIN_VALUE", type := .int, accessFlags := 25, slot := 0, constantValue := 0 }, { name := "MAX_VALUE", type := .int, accessFlags := 25, slot := 1, constantValue := 0 }, { name := "TYPE", type := (.object "java/lang/Class"), accessFlags := 25, slot := 2, constantValue := 0 }, { name := "digits", type := (.array .char), accessFlags := 24, slot := 3, constantValue := 0 }, { name := "DigitTens", type := (.array .byte), accessFlags := 24, slot := 4, constantValue := 0 }, { name := "DigitOnes", type := (.array .byte), accessFlags := 24, slot := 5, constantValue := 0 }, { name := "value", type := .int, accessFlags := 18, slot := 0, constantValue := 0 }, { name := "SIZE", type := .int, accessFlags := 25, slot := 6, constantValue := 0 }, { name := "BYTES", type := .int, accessFlags := 25, slot := 7, constantValue := 0 }, { name := "serialVersionUID", type := .long, accessFlags := 26, slot := 8, constantValue := 0 }]
  methods := #[k11m0]
  instanceTypes := #[.int]
  staticTypes := #[.int, .int, (.object "java/lang/Class"), (.array .char), (.array .byte), (.array .byte), .int, .int, .long]
  resolved := Array.replicate 453 none
  statics := none }

def pool12 : Array CpInfo := pool [(2, .class_ 4), (1, u "java/lang/Object"), (0, u "<init>"), (0, u "()V"), (17, .class_ 26), (1, u "jdk/internal/util/Preconditions"), (6, u "checkIndex"), (21, .class_ 56), (0, u "jdk/internal/util/Preconditions$4"), (57, .class_ 115), (0, u "jdk/internal/util/Preconditions$1"), (7, u "SIOOBE_FORMATTER"), (0, u "Ljava/util/function/BiFunction;"), (0, .class_ 126), (0, u "jdk/internal/util/Preconditions$2"), (3, u "AIOOBE_FORMATTER"), (0, .class_ 132), (0, u "jdk/internal/util/Preconditions$3"), (3, u "IOOBE_FORMATTER"), (41, u "(IILjava/util/function/BiFunction;)I")] 15

def k12m0 : Method := { name := "<init>", desc := "()V", sig := { parameters := [], returnType := none }, accessFlags := 1, code := none }
def k12c1 : Code := { maxStack := 3, maxLocals := 3, code := jdk_41_method_11_code, exceptionTable := #[], attributes := #[] }
def k12m1 : Method := { name := "checkIndex", desc := "(IILjava/util/function/BiFunction;)I", sig := { parameters := [.int, .int, (.object "java/util/function/BiFunction")], returnType := some .int }, accessFlags := 9, code := some k12c1 }
/-- jdk/internal/util/Preconditions -/
def k12 : Class := { plain "jdk/internal/util/Preconditions" (some 0) with
  accessFlags := 33
  interfaces := #[]
  cf := some (fileOf pool12 24 #[.nestMembers #[55, 131, 125, 114]] #[{ accessFlags := 1, nameIndex := 5, descriptorIndex := 6, attributes := #[] }, { accessFlags := 9, nameIndex := 33, descriptorIndex := 178, attributes := #[] }] 33 2 #[] #[{ accessFlags := 25, nameIndex := 123, descriptorIndex := 124, attributes := #[] }, { accessFlags := 25, nameIndex := 130, descriptorIndex := 124, attributes := #[] }, { accessFlags := 25, nameIndex := 136, descriptorIndex := 124, attributes := #[] }])
  fields := #[{ name := "SIOOBE_FORMATTER", type := (.object "java/util/function/BiFunction"), accessFlags := 25, slot := 0, constantValue := 0 }, { name := "AIOOBE_FORMATTER", type := (.object "java/util/function/BiFunction"), accessFlags := 25, slot := 1, constantValue := 0 }, { name := "IOOBE_FORMATTER", type := (.object "java/util/function/BiFunction"), accessFlags := 25, slot := 2, constantValue := 0 }]
  methods := #[k12m0, k12m1]
  instanceTypes := #[]
  staticTypes := #[(.object "java/util/function/BiFunction"), (.object "java/util/function/BiFunction"), (.object "java/util/function/BiFunction")]
  resolved := Array.replicate 194 none
  statics := some 2 }

def pool13 : Array CpInfo := pool [(1, .class_ 2), (0, u "java/lang/Character"), (18, u "value"), (0, u "C"), (19, .class_ 44), (1, u "java/lang/Object"), (3, .class_ 50), (1, u "java/lang/Character$CharacterCache"), (22, .integer 65536), (1, .integer 55296), (0, .integer 56320), (0, .integer 57344), (2, u "isHighSurrogate"), (0, u "(C)Z"), (2, u "isLowSurrogate"), (0, .integer 4238353408), (12, u "toCodePoint"), (0, u "(CC)I"), (74, u "(I)I"), (109, u "$assertionsDisabled"), (0, u "Z"), (21, .class_ 309), (1, u "java/lang/Character$UnicodeBlock"), (73, u "TYPE"), (0, u "Ljava/lang/Class;"), (0, .class_ 386), (0, u "java/io/Serializable"), (0, .class_ 388), (0, u "java/lang/Comparable"), (0, .class_ 390), (0, u "java/lang/constant/Constable"), (0, u "MIN_RADIX"), (0, u "I"), (2, u "MAX_RADIX"), (1, u "MIN_VALUE"), (1, u "MAX_VALUE"), (3, u "UNASSIGNED"), (0, u "B"), (0, u "UPPERCASE_LETTER"), (1, u "LOWERCASE_LETTER"), (0, u "TITLECASE_LETTER"), (1, u "MODIFIER_LETTER"), (1, u "OTHER_LETTER"), (1, u "NON_SPACING_MARK"), (1, u "ENCLOSING_MARK"), (1, u "COMBINING_SPACING_MARK"), (1, u "DECIMAL_DIGIT_NUMBER"), (1, u "LETTER_NUMBER"), (1, u "OTHER_NUMBER"), (1, u "SPACE_SEPARATOR"), (1, u "LINE_SEPARATOR"), (1, u "PARAGRAPH_SEPARATOR"), (1, u "CONTROL"), (1, u "FORMAT"), (1, u "PRIVATE_USE"), (1, u "SURROGATE"), (1, u "DASH_PUNCTUATION"), (1, u "START_PUNCTUATION"), (1, u "END_PUNCTUATION"), (1, u "CONNECTOR_PUNCTUATION"), (1, u "OTHER_PUNCTUATION"), (1, u "MATH_SYMBOL"), (1, u "CURRENCY_SYMBOL"), (1, u "MODIFIER_SYMBOL"), (1, u "OTHER_SYMBOL"), (1, u "INITIAL_QUOTE_PUNCTUATION"), (1, u "FINAL_QUOTE_PUNCTUATION"), (1, u "ERROR"), (1, u "DIRECTIONALITY_UNDEFINED"), (0, u "DIRECTIONALITY_LEFT_TO_RIGHT"), (0, u "DIRECTIONALITY_RIGHT_TO_LEFT"), (0, u "DIRECTIONALITY_RIGHT_TO_LEFT_ARABIC"), (0, u "DIRECTIONALITY_EUROPEAN_NUMBER"), (0, u "DIRECTIONALITY_EUROPEAN_NUMBER_SEPARATOR"), (0, u "DIRECTIONALITY_EUROPEAN_NUMBER_TERMINATOR"), (0, u "DIRECTIONALITY_ARABIC_NUMBER"), (0, u "DIRECTIONALITY_COMMON_NUMBER_SEPARATOR"), (0, u "DIRECTIONALITY_NONSPACING_MARK"), (0, u "DIRECTIONALITY_BOUNDARY_NEUTRAL"), (0, u "DIRECTIONALITY_PARAGRAPH_SEPARATOR"), (0, u "DIRECTIONALITY_SEGMENT_SEPARATOR"), (0, u "DIRECTIONALITY_WHITESPACE"), (0, u "DIRECTIONALITY_OTHER_NEUTRALS"), (0, u "DIRECTIONALITY_LEFT_TO_RIGHT_EMBEDDING"), (0, u "DIRECTIONALITY_LEFT_TO_RIGHT_OVERRIDE"), (0, u "DIRECTIONALITY_RIGHT_TO_LEFT_EMBEDDING"), (0, u "DIRECTIONALITY_RIGHT_TO_LEFT_OVERRIDE"), (1, u "DIRECTIONALITY_POP_DIRECTIONAL_FORMAT"), (0, u "DIRECTIONALITY_LEFT_TO_RIGHT_ISOLATE"), (0, u "DIRECTIONALITY_RIGHT_TO_LEFT_ISOLATE"), (0, u "DIRECTIONALITY_FIRST_STRONG_ISOLATE"), (0, u "DIRECTIONALITY_POP_DIRECTIONAL_ISOLATE"), (0, u "MIN_HIGH_SURROGATE"), (0, u "MAX_HIGH_SURROGATE"), (1, u "MIN_LOW_SURROGATE"), (0, u "MAX_LOW_SURROGATE"), (1, u "MIN_SURROGATE"), (0, u "MAX_SURROGATE"), (0, u "MIN_SUPPLEMENTARY_CODE_POINT"), (0, u "MIN_CODE_POINT"), (0, u "MAX_CODE_POINT"), (1, u "serialVersionUID"), (0, u "J"), (2, u "SIZE"), (0, u "BYTES"), (29, u "charCount"), (58, .class_ 596), (0, u "java/lang/Character$UnicodeScript"), (0, .class_ 598), (0, u "java/lang/Character$Subset")] 5

def k13c0 : Code := { maxStack := 2, maxLocals := 1, code := jdk_89_method_14_code, exceptionTable := #[], attributes := #[] }
def k13m0 : Method := { name := "isHighSurrogate", desc := "(C)Z", sig := { parameters := [.char], returnType := some .boolean }, accessFlags := 9, code := some k13c0 }
def k13c1 : Code := { maxStack := 2, maxLocals := 1, code := jdk_89_method_15_code, exceptionTable := #[], attributes := #[] }
def k13m1 : Method := { name := "isLowSurrogate", desc := "(C)Z", sig := { parameters := [.char], returnType := some .boolean }, accessFlags := 9, code := some k13c1 }
def k13c2 : Code := { maxStack := 2, maxLocals := 1, code := jdk_89_method_18_code, exceptionTable := #[], attributes := #[] }
def k13m2 : Method := { name := "charCount", desc := "(I)I", sig := { parameters := [.int], returnType := some .int }, accessFlags := 9, code := some k13c2 }
def k13c3 : Code := { maxStack := 2, maxLocals := 2, code := jdk_89_method_19_code, exceptionTable := #[], attributes := #[] }
def k13m3 : Method := { name := "toCodePoint", desc := "(CC)I", sig := { parameters := [.char, .char], returnType := some .int }, accessFlags := 9, code := some k13c3 }
/-- java/lang/Character -/
def k13 : Class := { plain "java/lang/Character" (some 0) with
  accessFlags := 49
  interfaces := #[2, 3, 5]
  cf := some (fileOf pool13 1 #[.nestMembers #[48, 595, 307, 597]] #[{ accessFlags := 9, nameIndex := 80, descriptorIndex := 81, attributes := #[] }, { accessFlags := 9, nameIndex := 84, descriptorIndex := 81, attributes := #[] }, { accessFlags := 9, nameIndex := 536, descriptorIndex := 174, attributes := #[] }, { accessFlags := 9, nameIndex := 98, descriptorIndex := 99, attributes := #[] }] 49 42 #[385, 387, 389] #[{ accessFlags := 25, nameIndex := 391, descriptorIndex := 392, attributes := #[] }, { accessFlags := 25, nameIndex := 395, descriptorIndex := 392, attributes := #[] }, { accessFlags := 25, nameIndex := 397, descriptorIndex := 22, attributes := #[] }, { accessFlags := 25, nameIndex := 399, descriptorIndex := 22, attributes := #[] }, { accessFlags := 25, nameIndex := 383, descriptorIndex := 384, attributes := #[] }, { accessFlags := 25, nameIndex := 403, descriptorIndex := 404, attributes := #[] }, { accessFlags := 25, nameIndex := 405, descriptorIndex := 404, attributes := #[] }, { accessFlags := 25, nameIndex := 407, descriptorIndex := 404, attributes := #[] }, { accessFlags := 25, nameIndex := 408, descriptorIndex := 404, attributes := #[] }, { accessFlags := 25, nameIndex := 410, descriptorIndex := 404, attributes := #[] }, { accessFlags := 25, nameIndex := 412, descriptorIndex := 404, attributes := #[] }, { accessFlags := 25, nameIndex := 414, descriptorIndex := 404, attributes := #[] }, { accessFlags := 25, nameIndex := 416, descriptorIndex := 404, attributes := #[] }, { accessFlags := 25, nameIndex := 418, descriptorIndex := 404, attributes := #[] }, { accessFlags := 25, nameIndex := 420, descriptorIndex := 404, attributes := #[] }, { accessFlags := 25, nameIndex := 422, descriptorIndex := 404, attributes := #[] }, { accessFlags := 25, nameIndex := 424, descriptorIndex := 404, attributes := #[] }, { accessFlags := 25, nameIndex := 426, descriptorIndex := 404, attributes := #[] }, { accessFlags := 25, nameIndex := 428, descriptorIndex := 404, attributes := #[] }, { accessFlags := 25, nameIndex := 430, descriptorIndex := 404, attributes := #[] }, { accessFlags := 25, nameIndex := 432, descriptorIndex := 404, attributes := #[] }, { accessFlags := 25, nameIndex := 434, descriptorIndex := 404, attributes := #[] }, { accessFlags := 25, nameIndex := 436, descriptorIndex := 404, attributes := #[] }, { accessFlags := 25, nameIndex := 438, descriptorIndex := 404, attributes := #[] }, { accessFlags := 25, nameIndex := 440, descriptorIndex := 404, attributes := #[] }, { accessFlags := 25, nameIndex := 442, descriptorIndex := 404, attributes := #[] }, { accessFlags := 25, nameIndex := 444, descriptorIndex := 404, attributes := #[] }, { accessFlags := 25, nameIndex := 446, descriptorIndex := 404, attributes := #[] }, { accessFlags := 25, nameIndex := 448, descriptorIndex := 404, attributes := #[] }, { accessFlags := 25, nameIndex := 450, descriptorIndex := 404, attributes := #[] }, { accessFlags := 25, nameIndex := 452, descriptorIndex := 404, attributes := #[] }, { accessFlags := 25, nameIndex := 454, descriptorIndex := 404, attributes := #[] }, { accessFlags := 25, nameIndex := 456, descriptorIndex := 404, attributes := #[] }, { accessFlags := 25, nameIndex := 458, descriptorIndex := 404, attributes := #[] }, { accessFlags := 25, nameIndex := 460, descriptorIndex := 404, attributes := #[] }, { accessFlags := 24, nameIndex := 462, descriptorIndex := 392, attributes := #[] }, { accessFlags := 25, nameIndex := 464, descriptorIndex := 404, attributes := #[] }, { accessFlags := 25, nameIndex := 465, descriptorIndex := 404, attributes := #[] }, { accessFlags := 25, nameIndex := 466, descriptorIndex := 404, attributes := #[] }, { accessFlags := 25, nameIndex := 467, descriptorIndex := 404, attributes := #[] }, { accessFlags := 25, nameIndex := 468, descriptorIndex := 404, attributes := #[] }, { accessFlags := 25, nameIndex := 469, descriptorIndex := 404, attributes := #[] }, { accessFlags := 25, nameIndex := 470, descriptorIndex := 404, attributes := #[] }, { accessFlags := 25, nameIndex := 471, descriptorIndex := 404, attributes := #[] }, { accessFlags := 25, nameIndex := 472, descriptorIndex := 404, attributes := #[] }, { accessFlags := 25, nameIndex := 473, descriptorIndex := 404, attributes := #[] }, { accessFlags := 25, nameIndex := 474, descriptorIndex := 404, attributes := #[] }, { accessFlags := 25, nameIndex := 475, descriptorIndex := 404, attributes := #[] }, { accessFlags := 25, nameIndex := 476, descriptorIndex := 404, attributes := #[] }, { accessFlags := 25, nameIndex := 477, descriptorIndex := 404, attributes := #[] }, { accessFlags := 25, nameIndex := 478, descriptorIndex := 404, attributes := #[] }, { accessFlags := 25, nameIndex := 479, descriptorIndex := 404, attributes := #[] }, { accessFlags := 25, nameIndex := 480, descriptorIndex := 404, attributes := #[] }, { accessFlags := 25, nameIndex := 481, descriptorIndex := 404, attributes := #[] }, { accessFlags := 25, nameIndex := 482, descriptorIndex := 404, attributes := #[] }, { accessFlags := 25, nameIndex := 484, descriptorIndex := 404, attributes := #[] }, { accessFlags := 25, nameIndex := 485, descriptorIndex := 404, attributes := #[] }, { accessFlags := 25, nameIndex := 486, descriptorIndex := 404, attributes := #[] }, { accessFlags := 25, nameIndex := 487, descriptorIndex := 404, attributes := #[] }, { accessFlags := 25, nameIndex := 488, descriptorIndex := 404, attributes := #[] }, { accessFlags := 25, nameIndex := 489, descriptorIndex := 22, attributes := #[] }, { accessFlags := 25, nameIndex := 490, descriptorIndex := 22, attributes := #[] }, { accessFlags := 25, nameIndex := 492, descriptorIndex := 22, attributes := #[] }, { accessFlags := 25, nameIndex := 493, descriptorIndex := 22, attributes := #[] }, { accessFlags := 25, nameIndex := 495, descriptorIndex := 22, attributes := #[] }, { accessFlags := 25, nameIndex := 496, descriptorIndex := 22, attributes := #[] }, { accessFlags := 25, nameIndex := 497, descriptorIndex := 392, attributes := #[] }, { accessFlags := 25, nameIndex := 498, descriptorIndex := 392, attributes := #[] }, { accessFlags := 25, nameIndex := 499, descriptorIndex := 392, attributes := #[] }, { accessFlags := 18, nameIndex := 21, descriptorIndex := 22, attributes := #[] }, { accessFlags := 26, nameIndex := 501, descriptorIndex := 502, attributes := #[] }, { accessFlags := 25, nameIndex := 505, descriptorIndex := 392, attributes := #[] }, { accessFlags := 25, nameIndex := 506, descriptorIndex := 392, attributes := #[] }, { accessFlags := 4120, nameIndex := 284, descriptorIndex := 285, attributes := #[] }])
  fields := #[{ name := "MIN_RADIX", type := .int, accessFlags := 25, slot := 0, constantValue := 0 }, { name := "MAX_RADIX", type := .int, accessFlags := 25, slot := 1, constantValue := 0 }, { name := "MIN_VALUE", type := .char, accessFlags := 25, slot := 2, constantValue := 0 }, { name := "MAX_VALUE", type := .char, accessFlags := 25, slot := 3, constantValue := 0 }, { name := "TYPE", type := (.object "java/lang/Class"), accessFlags := 25, slot := 4, constantValue := 0 }, { name := "UNASSIGNED", type := .byte, accessFlags := 25, slot := 5, constantValue := 0 }, { name := "UPPERCASE_LETTER", type := .byte, accessFlags := 25, slot := 6, constantValue := 0 }, { name := "LOWERCASE_LETTER", type := .byte, accessFlags := 25, slot := 7, constantValue := 0 }, { name := "TITLECASE_LETTER", type := .byte, accessFlags := 25, slot := 8, constantValue := 0 }, { name := "MODIFIER_LETTER", type := .byte, accessFlags := 25, slot := 9, constantValue := 0 }, { name := "OTHER_LETTER", type := .byte, accessFlags := 25, slot := 10, constantValue := 0 }, { name := "NON_SPACING_MARK", type := .byte, accessFlags := 25, slot := 11, constantValue := 0 }, { name := "ENCLOSING_MARK", type := .byte, accessFlags := 25, slot := 12, constantValue := 0 }, { name := "COMBINING_SPACING_MARK", type := .byte, accessFlags := 25, slot := 13, constantValue := 0 }, { name := "DECIMAL_DIGIT_NUMBER", type := .byte, accessFlags := 25, slot := 14, constantValue := 0 }, { name := "LETTER_NUMBER", type := .byte, accessFlags := 25, slot := 15, constantValue := 0 }, { name := "OTHER_NUMBER", type := .byte, accessFlags := 25, slot := 16, constantValue := 0 }, { name := "SPACE_SEPARATOR", type := .byte, accessFlags := 25, slot := 17, constantValue := 0 }, { name := "LINE_SEPARATOR", type := .byte, accessFlags := 25, slot := 18, constantValue := 0 }, { name := "PARAGRAPH_SEPARATOR", type := .byte, accessFlags := 25, slot := 19, constantValue := 0 }, { name := "CONTROL", type := .byte, accessFlags := 25, slot := 20, constantValue := 0 }, { name := "FORMAT", type := .byte, accessFlags := 25, slot := 21, constantValue := 0 }, { name := "PRIVATE_USE", type := .byte, accessFlags := 25, slot := 22, constantValue := 0 }, { name := "SURROGATE", type := .byte, accessFlags := 25, slot := 23, constantValue := 0 }, { name := "DASH_PUNCTUATION", type := .byte, accessFlags := 25, slot := 24, constantValue := 0 }, { name := "START_PUNCTUATION", type := .byte, accessFlags := 25, slot := 25, constantValue := 0 }, { name := "END_PUNCTUATION", type := .byte, accessFlags := 25, slot := 26, constantValue := 0 }, { name := "CONNECTOR_PUNCTUATION", type := .byte, accessFlags := 25, slot := 27, constantValue := 0 }, { name := "OTHER_PUNCTUATION", type := .byte, accessFlags := 25, slot := 28, constantValue := 0 }, { name := "MATH_SYMBOL", type := .byte, accessFlags := 25, slot := 29, constantValue := 0 }, { name := "CURRENCY_SYMBOL", type := .byte, accessFlags := 25, slot := 30, constantValue := 0 }, { name := "MODIFIER_SYMBOL", type := .byte, accessFlags := 25, slot := 31, constantValue := 0 }, { name := "OTHER_SYMBOL", type := .byte, accessFlags := 25, slot := 32, constantValue := 0 }, { name := "INITIAL_QUOTE_PUNCTUATION", type := .byte, accessFlags := 25, slot := 33, constantValue := 0 }, { name := "FINAL_QUOTE_PUNCTUATION", type := .byte, accessFlags := 25, slot := 34, constantValue := 0 }, { name := "ERROR", type := .int, accessFlags := 24, slot := 35, constantValue := 0 }, { name := "DIRECTIONALITY_UNDEFINED", type := .byte, accessFlags := 25, slot := 36, constantValue := 0 }, { name := "DIRECTIONALITY_LEFT_TO_RIGHT", type := .byte, accessFlags := 25, slot := 37, constantValue := 0 }, { name := "DIRECTIONALITY_RIGHT_TO_LEFT", type := .byte, accessFlags := 25, slot := 38, constantValue := 0 }, { name := "DIRECTIONALITY_RIGHT_TO_LEFT_ARABIC", type := .byte, accessFlags := 25, slot := 39, constantValue := 0 }, { name := "DIRECTIONALITY_EUROPEAN_NUMBER", type := .byte, accessFlags := 25, slot := 40, constantValue := 0 }, { name := "DIRECTIONALITY_EUROPEAN_NUMBER_SEPARATOR", type := .byte, accessFlags := 25, slot := 41, constantValue := 0 }, { name := "DIRECTIONALITY_EUROPEAN_NUMBER_TERMINATOR", type := .byte, accessFlags := 25, slot := 42, constantValue := 0 }, { name := "DIRECTIONALITY_ARABIC_NUMBER", type := .byte, accessFlags := 25, slot := 43, constantValue := 0 }, { name := "DIRECTIONALITY_COMMON_NUMBER_SEPARATOR", type := .byte, accessFlags := 25, slot := 44, constantValue := 0 }, { name := "DIRECTIONALITY_NONSPACING_MARK", type := .byte, accessFlags := 25, slot := 45, constantValue := 0 }, { name := "DIRECTIONALITY_BOUNDARY_NEUTRAL", type := .byte, accessFlags := 25, slot := 46, constantValue := 0 }, { name := "DIRECTIONALITY_PARAGRAPH_SEPARATOR", type := .byte, accessFlags := 25, slot := 47, constantValue := 0 }, { name := "DIRECTIONALITY_SEGMENT_SEPARATOR", type := .byte, accessFlags := 25, slot := 48, constantValue := 0 }, { name := "DIRECTIONALITY_WHITESPACE", type := .byte, accessFlags := 25, slot := 49, constantValue := 0 }, { name := "DIRECTIONALITY_OTHER_NEUTRALS", type := .byte, accessFlags := 25, slot := 50, constantValue := 0 }, { name := "DIRECTIONALITY_LEFT_TO_RIGHT_EMBEDDING", type := .byte, accessFlags := 25, slot := 51, constantValue := 0 }, { name := "DIRECTIONALITY_LEFT_TO_RIGHT_OVERRIDE", type := .byte, accessFlags := 25, slot := 52, constantValue := 0 }, { name := "DIRECTIONALITY_RIGHT_TO_LEFT_EMBEDDING", type := .byte, accessFlags := 25, slot := 53, constantValue := 0 }, { name := "DIRECTIONALITY_RIGHT_TO_LEFT_OVERRIDE", type := .byte, accessFlags := 25, slot := 54, constantValue := 0 }, { name := "DIRECTIONALITY_POP_DIRECTIONAL_FORMAT", type := .byte, accessFlags := 25, slot := 55, constantValue := 0 }, { name := "DIRECTIONALITY_LEFT_TO_RIGHT_ISOLATE", type := .byte, accessFlags := 25, slot := 56, constantValue := 0 }, { name := "DIRECTIONALITY_RIGHT_TO_LEFT_ISOLATE", type := .byte, accessFlags := 25, slot := 57, constantValue := 0 }, { name := "DIRECTIONALITY_FIRST_STRONG_ISOLATE", type := .byte, accessFlags := 25, slot := 58, constantValue := 0 }, { name := "DIRECTIONALITY_POP_DIRECTIONAL_ISOLATE", type := .byte, accessFlags := 25, slot := 59, constantValue := 0 }, { name := "MIN_HIGH_SURROGATE", type := .char, accessFlags := 25, slot := 60, constantValue := 0 }, { name := "MAX_HIGH_SURROGATE", type := .char, accessFlags := 25, slot := 61, constantValue := 0 }, { name := "MIN_LOW_SURROGATE", type := .char, accessFlags := 25, slot := 62, constantValue := 0 }, { name := "MAX_LOW_SURROGATE", type := .char, accessFlags := 25, slot := 63, constantValue := 0 }, { name := "MIN_SURROGATE", type := .char, accessFlags := 25, slot := 64, constantValue := 0 }, { name := "MAX_SURROGATE", type := .char, accessFlags := 25, slot := 65, constantValue := 0 }, { name := "MIN_SUPPLEMENTARY_CODE_POINT", type := .int, accessFlags := 25, slot := 66, constantValue := 0 }, { name := "MIN_CODE_POINT", type := .int, accessFlags := 25, slot := 67, constantValue := 0 }, { name := "MAX_CODE_POINT", type := .int, accessFlags := 25, slot := 68, constantValue := 0 }, { name := "value", type := .char, accessFlags := 18, slot := 0, constantValue := 0 }, { name := "serialVersionUID", type := .long, accessFlags := 26, slot := 69, constantValue := 0 }, { name := "SIZE", type := .int, accessFlags := 25, slot := 70, constantValue := 0 }, { name := "BYTES", type := .int, accessFlags := 25, slot := 71, constantValue := 0 }, { name := "$assertionsDisabled", type := .boolean, accessFlags := 4120, slot := 72, constantValue := 0 }]
  methods := #[k13m0, k13m1, k13m2, k13m3]
  instanceTypes := #[.char]
  staticTypes := #[.int, .int, .char, .char, (.object "java/lang/Class"), .byte, .byte, .byte, .byte, .byte, .byte, .byte, .byte, .byte, .byte, .byte, .byte, .byte, .byte, .byte, .byte, .byte, .byte, .byte, .byte, .byte, .byte, .byte, .byte, .byte, .byte, .byte, .byte, .byte, .byte, .int, .byte, .byte, .byte, .byte, .byte, .byte, .byte, .byte, .byte, .byte, .byte, .byte, .byte, .byte, .byte, .byte, .byte, .byte, .byte, .byte, .byte, .byte, .byte, .byte, .char, .char, .char, .char, .char, .char, .int, .int, .int, .long, .int, .int, .boolean]
  resolved := Array.replicate 604 none
  statics := none }

def pool14 : Array CpInfo := pool [(4, .class_ 6), (1, u "java/lang/Object"), (0, u "<init>"), (0, u "()V"), (5, .class_ 16), (1, u "java/lang/StringLatin1"), (104, u "$assertionsDisabled"), (0, u "Z"), (98, .class_ 223), (1, u "java/lang/StringLatin1$LinesSpliterator"), (166, .class_ 391), (0, u "java/lang/StringLatin1$CharsSpliterator")] 3

def k14m0 : Method := { name := "<init>", desc := "()V", sig := { parameters := [], returnType := none }, accessFlags := 0, code := none }
/-- java/lang/StringLatin1 -/
def k14 : Class := { plain "java/lang/StringLatin1" (some 0) with
  accessFlags := 48
  interfaces := #[]
  cf := some (fileOf pool14 14 #[.nestMembers #[390, 221]] #[{ accessFlags := 0, nameIndex := 7, descriptorIndex := 8, attributes := #[] }] 48 4 #[] #[{ accessFlags := 4120, nameIndex := 121, descriptorIndex := 122, attributes := #[] }])
  fields := #[{ name := "$assertionsDisabled", type := .boolean, accessFlags := 4120, slot := 0, constantValue := 0 }]
  methods := #[k14m0]
  instanceTypes := #[]
  staticTypes := #[.boolean]
  resolved := Array.replicate 395 none
  statics := none }

def pool15 : Array CpInfo := pool [(9, u "<init>"), (6, .class_ 18), (1, u "java/lang/Object"), (0, u "()V"), (1, .class_ 23), (1, u "jdk/internal/util/ArraysSupport"), (0, u "LOG2_ARRAY_LONG_INDEX_SCALE"), (0, u "I"), (2, u "U"), (0, u "Ljdk/internal/misc/Unsafe;"), (8, u "BIG_ENDIAN"), (0, u "Z"), (8, u "LOG2_BYTE_BIT_SIZE"), (4, u "LOG2_ARRAY_INT_INDEX_SCALE"), (54, u "JLA"), (0, u "Ljdk/internal/access/JavaLangAccess;"), (11, u "LOG2_ARRAY_BOOLEAN_INDEX_SCALE"), (9, u "LOG2_ARRAY_BYTE_INDEX_SCALE"), (5, u "LOG2_ARRAY_CHAR_INDEX_SCALE"), (5, u "LOG2_ARRAY_SHORT_INDEX_SCALE"), (18, u "LOG2_ARRAY_FLOAT_INDEX_SCALE"), (24, u "LOG2_ARRAY_DOUBLE_INDEX_SCALE"), (89, u "T_BOOLEAN"), (2, u "T_CHAR"), (1, u "T_FLOAT"), (1, u "T_DOUBLE"), (1, u "T_BYTE"), (1, u "T_SHORT"), (1, u "T_INT"), (1, u "T_LONG"), (1, u "SOFT_MAX_ARRAY_LENGTH")] 83

def k15m0 : Method := { name := "<init>", desc := "()V", sig := { parameters := [], returnType := none }, accessFlags := 2, code := none }
/-- jdk/internal/util/ArraysSupport -/
def k15 : Class := { plain "jdk/internal/util/ArraysSupport" (some 0) with
  accessFlags := 33
  interfaces := #[]
  cf := some (fileOf pool15 21 #[] #[{ accessFlags := 2, nameIndex := 9, descriptorIndex := 19, attributes := #[] }] 33 16 #[] #[{ accessFlags := 24, nameIndex := 28, descriptorIndex := 29, attributes := #[] }, { accessFlags := 26, nameIndex := 38, descriptorIndex := 39, attributes := #[] }, { accessFlags := 25, nameIndex := 121, descriptorIndex := 25, attributes := #[] }, { accessFlags := 25, nameIndex := 131, descriptorIndex := 25, attributes := #[] }, { accessFlags := 25, nameIndex := 137, descriptorIndex := 25, attributes := #[] }, { accessFlags := 25, nameIndex := 143, descriptorIndex := 25, attributes := #[] }, { accessFlags := 25, nameIndex := 53, descriptorIndex := 25, attributes := #[] }, { accessFlags := 25, nameIndex := 24, descriptorIndex := 25, attributes := #[] }, { accessFlags := 25, nameIndex := 162, descriptorIndex := 25, attributes := #[] }, { accessFlags := 25, nameIndex := 187, descriptorIndex := 25, attributes := #[] }, { accessFlags := 26, nameIndex := 48, descriptorIndex := 25, attributes := #[] }, { accessFlags := 25, nameIndex := 277, descriptorIndex := 25, attributes := #[] }, { accessFlags := 25, nameIndex := 280, descriptorIndex := 25, attributes := #[] }, { accessFlags := 25, nameIndex := 282, descriptorIndex := 25, attributes := #[] }, { accessFlags := 25, nameIndex := 284, descriptorIndex := 25, attributes := #[] }, { accessFlags := 25, nameIndex := 286, descriptorIndex := 25, attributes := #[] }, { accessFlags := 25, nameIndex := 288, descriptorIndex := 25, attributes := #[] }, { accessFlags := 25, nameIndex := 290, descriptorIndex := 25, attributes := #[] }, { accessFlags := 25, nameIndex := 292, descriptorIndex := 25, attributes := #[] }, { accessFlags := 26, nameIndex := 108, descriptorIndex := 109, attributes := #[] }, { accessFlags := 25, nameIndex := 294, descriptorIndex := 25, attributes := #[] }])
  fields := #[{ name := "U", type := (.object "jdk/internal/misc/Unsafe"), accessFlags := 24, slot := 0, constantValue := 0 }, { name := "BIG_ENDIAN", type := .boolean, accessFlags := 26, slot := 1, constantValue := 0 }, { name := "LOG2_ARRAY_BOOLEAN_INDEX_SCALE", type := .int, accessFlags := 25, slot := 2, constantValue := 0 }, { name := "LOG2_ARRAY_BYTE_INDEX_SCALE", type := .int, accessFlags := 25, slot := 3, constantValue := 0 }, { name := "LOG2_ARRAY_CHAR_INDEX_SCALE", type := .int, accessFlags := 25, slot := 4, constantValue := 0 }, { name := "LOG2_ARRAY_SHORT_INDEX_SCALE", type := .int, accessFlags := 25, slot := 5, constantValue := 0 }, { name := "LOG2_ARRAY_INT_INDEX_SCALE", type := .int, accessFlags := 25, slot := 6, constantValue := 0 }, { name := "LOG2_ARRAY_LONG_INDEX_SCALE", type := .int, accessFlags := 25, slot := 7, constantValue := 0 }, { name := "LOG2_ARRAY_FLOAT_INDEX_SCALE", type := .int, accessFlags := 25, slot := 8, constantValue := 0 }, { name := "LOG2_ARRAY_DOUBLE_INDEX_SCALE", type := .int, accessFlags := 25, slot := 9, constantValue := 0 }, { name := "LOG2_BYTE_BIT_SIZE", type := .int, accessFlags := 26, slot := 10, constantValue := 0 }, { name := "T_BOOLEAN", type := .int, accessFlags := 25, slot := 11, constantValue := 0 }, { name := "T_CHAR", type := .int, accessFlags := 25, slot := 12, constantValue := 0 }, { name := "T_FLOAT", type := .int, accessFlags := 25, slot := 13, constantValue := 0 }, { name := "T_DOUBLE", type := .int, accessFlags := 25, slot := 14, constantValue := 0 }, { name := "T_BYTE", type := .int, accessFlags := 25, slot := 15, constantValue := 0 }, { name := "T_SHORT", type := .int, accessFlags := 25, slot := 16, constantValue := 0 }, { name := "T_INT", type := .int, accessFlags := 25, slot := 17, constantValue := 0 }, { name := "T_LONG", type := .int, accessFlags := 25, slot := 18, constantValue := 0 }, { name := "JLA", type := (.object "jdk/internal/access/JavaLangAccess"), accessFlags := 26, slot := 19, constantValue := 0 }, { name := "SOFT_MAX_ARRAY_LENGTH", type := .int, accessFlags := 25, slot := 20, constantValue := 0 }]
  methods := #[k15m0]
  instanceTypes := #[]
  staticTypes := #[(.object "jdk/internal/misc/Unsafe"), .boolean, .int, .int, .int, .int, .int, .int, .int, .int, .int, .int, .int, .int, .int, .int, .int, .int, .int, (.object "jdk/internal/access/JavaLangAccess"), .int]
  resolved := Array.replicate 378 none
  statics := none }

def pool16 : Array CpInfo := pool [(1, u "java/lang/Cloneable"), (0, .class_ 1), (0, u "java/lang/Object"), (0, .class_ 3)] 3

/-- java/lang/Cloneable -/
def k16 : Class := { plain "java/lang/Cloneable" (some 0) with
  accessFlags := 1537
  interfaces := #[]
  cf := some (fileOf pool16 2 #[] #[] 1537 4 #[] #[])
  fields := #[]
  methods := #[]
  instanceTypes := #[]
  staticTypes := #[]
  resolved := Array.replicate 8 none
  statics := none }

/-- the primitive byte -/
def k17 : Class := { plain "byte" none with kind := .primitive 'B', accessFlags := 0x411 }
/-- [B -/
def k18 : Class := { plain "[B" (some 0) with kind := .array 17 .byte, interfaces := #[16, 2], accessFlags := 1041 }

/-- the primitive char -/
def k19 : Class := { plain "char" none with kind := .primitive 'C', accessFlags := 0x411 }
/-- [C -/
def k20 : Class := { plain "[C" (some 0) with kind := .array 19 .char, interfaces := #[16, 2], accessFlags := 1041 }

/-- the primitive int -/
def k21 : Class := { plain "int" none with kind := .primitive 'I', accessFlags := 0x411 }
/-- [I -/
def k22 : Class := { plain "[I" (some 0) with kind := .array 21 .int, interfaces := #[16, 2], accessFlags := 1041 }

def heap : Heap := #[{ cls := 7, slots := #[.long 0, .int 1, .null, .int 0, .null, .int 0, .int 0], vm := .statics 7 },
  { cls := 8, slots := #[.int 0, .int 8, .int 0, .int 1], vm := .statics 8 },
  { cls := 12, slots := #[.null, .null, .null], vm := .statics 12 }]
def classes : Array Class := #[k0, k1, k2, k3, k4, k5, k6, k7, k8, k9, k10, k11, k12, k13, k14, k15, k16, k17, k18, k19, k20, k21, k22]
def interned : List (Array UInt16 × Addr) := []
def slotsUsed : Nat := 14
def theMethod : MethodId := ⟨1, 1⟩
def args0 : Array Value := #[.int 5, .int 7, .int 3, .int 2]
def aboutOver (below : List Frame) : State where
  vm := { classes := classes, interned := interned.toArray }
  heap := heap
  slotsUsed := slotsUsed
  threads := #[{ frames := .invoking theMethod args0 :: below }]
def below0 : List Frame := [.native { method := ⟨0, 0⟩, args := #[] }]
def about1 : State := aboutOver below0
def p0 : Program := .bare "" "" ""
def e0 : Env := launch0.env 0 0 0
theorem w_frames : about1.frames = Frame.invoking theMethod args0 :: below0 := rfl
set_option maxRecDepth 65536 in
theorem w_args : argsFit about1.vm theMethod args0 = true := by decide +kernel
set_option maxRecDepth 65536 in
theorem w_heap : heapFits about1 = true := by decide +kernel
set_option maxRecDepth 65536 in
theorem w_runnable : about1.curStatus? = some .runnable := by decide +kernel
set_option maxRecDepth 65536 in
theorem w_alone : about1.alone = true := by decide +kernel
set_option maxRecDepth 65536 in
theorem w_named : about1.methodNamed? x = some theMethod := by decide +kernel
set_option maxRecDepth 65536 in
theorem w_hears : about1.hears theMethod below0 = true := by decide +kernel
set_option maxRecDepth 65536 in
theorem w_ripe : about1.ripe theMethod args0 below0 = true := by decide +kernel
theorem w_running : about1.status = .running := rfl
set_option maxRecDepth 65536 in
theorem w_room : about1.hasRoom e0.platform room_1 = true :=
  launch0.hasRoom_least _ room_1 (by decide +kernel) (by decide +kernel) (by decide +kernel) (by decide +kernel) (by decide +kernel) (by decide +kernel)
theorem allAtoms_all (ts : List Jvm.Cond) (a : Array Jvm.Value) (st : Jvm.State) : (allAtoms ts).before a st = ts.all (fun c => c.before a st) := by
  induction ts with
  | nil => rfl
  | cons c t ih =>
    show (Jvm.Cond.and c (allAtoms t)).before a st = _
    rw [Jvm.Cond.before_and, ih, List.all_cons]
def words1 : List Jvm.Cond := Jvm.Cond.code x code maxLocals ret :: tables_1
/-- a 'code' word, met by the world's own term for the bytes: nothing is compared byte by byte -/
theorem code_word {y : MethodName} {bytes : ByteArray} {mx : Nat} {rt : Option FieldType} {a : Array Value} {s : State} {m : MethodId} {meth : Method} {c : Code} (h1 : s.methodNamed? y = some m) (h2 : s.vm.method? m = some meth) (h3 : meth.code = some c) (h4 : c.code = bytes)
    (h5 : (c.maxLocals == mx && c.exceptionTable.isEmpty && decide (c.maxStack ≤ mostOperands) && decide (meth.sig.returnType = rt) && !meth.locks && decide (parseMethodDescriptor y.desc = some meth.sig)) = true) : (Jvm.Cond.code y bytes mx rt).before a s = true := by
  simp only [Bool.and_eq_true, beq_iff_eq, Bool.not_eq_true', decide_eq_true_eq] at h5
  obtain ⟨⟨⟨⟨⟨g1, g2⟩, g3⟩, g4⟩, g5⟩, g6⟩ := h5
  simp [Cond.before, Cond.holds, Cond.value, h1, h2, h3, h4, g1, g2, g3, g4, g5, g6]
def isCode : Jvm.Cond → Bool
  | .code _ _ _ _ => true
  | _ => false
theorem all_split {L : List Jvm.Cond} {P : Jvm.Cond → Bool} (h1 : L.all (fun c => isCode c || P c) = true) (h2 : ∀ c ∈ L.filter isCode, P c = true) : L.all P = true := by
  refine List.all_eq_true.mpr fun c hc => ?_
  have h := List.all_eq_true.mp h1 c hc
  rcases Bool.eq_false_or_eq_true (isCode c) with hi | hi
  · exact h2 c (List.mem_filter.mpr ⟨hc, hi⟩)
  · simpa [hi] using h
set_option maxRecDepth 65536 in
theorem w_c0 : (Jvm.Cond.code x code maxLocals ret).before args0 about1 = true := code_word (m := ⟨1, 1⟩) (meth := k1m1) (c := k1c1) (by decide +kernel) rfl rfl rfl (by decide +kernel)
set_option maxRecDepth 65536 in
theorem w_c1 : (Jvm.Cond.code ({ cls := "com/example/keen_guess/keenguess/text/CodePointOrderComparePinLaw", name := "pick", desc := "(III)C" } : Jvm.MethodName) method_3_code (6 : Nat) (Option.some Jvm.ClassFile.FieldType.char)).before args0 about1 = true := code_word (m := ⟨1, 2⟩) (meth := k1m2) (c := k1c2) (by decide +kernel) rfl rfl rfl (by decide +kernel)
set_option maxRecDepth 65536 in
theorem w_c2 : (Jvm.Cond.code ({ cls := "com/example/keen_guess/keenguess/text/CodePointOrderComparePinLaw", name := "make", desc := "(CCCI)Ljava/lang/String;" } : Jvm.MethodName) method_4_code (4 : Nat) (Option.some (Jvm.ClassFile.FieldType.object "java/lang/String"))).before args0 about1 = true := code_word (m := ⟨1, 3⟩) (meth := k1m3) (c := k1c3) (by decide +kernel) rfl rfl rfl (by decide +kernel)
set_option maxRecDepth 65536 in
theorem w_c3 : (Jvm.Cond.code ({ cls := "java/lang/String", name := "<init>", desc := "([C)V" } : Jvm.MethodName) jdk_42_method_3_code (2 : Nat) (Option.none : Option Jvm.ClassFile.FieldType)).before args0 about1 = true := code_word (m := ⟨7, 1⟩) (meth := k7m1) (c := k7c1) (by decide +kernel) rfl rfl rfl (by decide +kernel)
set_option maxRecDepth 65536 in
theorem w_c4 : (Jvm.Cond.code ({ cls := "java/lang/String", name := "<init>", desc := "([CIILjava/lang/Void;)V" } : Jvm.MethodName) jdk_42_method_149_code (6 : Nat) (Option.none : Option Jvm.ClassFile.FieldType)).before args0 about1 = true := code_word (m := ⟨7, 4⟩) (meth := k7m4) (c := k7c4) (by decide +kernel) rfl rfl rfl (by decide +kernel)
set_option maxRecDepth 65536 in
theorem w_c5 : (Jvm.Cond.code ({ cls := "java/lang/Object", name := "<init>", desc := "()V" } : Jvm.MethodName) object_method_1_code (1 : Nat) (Option.none : Option Jvm.ClassFile.FieldType)).before args0 about1 = true := code_word (m := ⟨0, 0⟩) (meth := k0m0) (c := k0c0) (by decide +kernel) rfl rfl rfl (by decide +kernel)
set_option maxRecDepth 65536 in
theorem w_c6 : (Jvm.Cond.code ({ cls := "java/lang/StringUTF16", name := "compress", desc := "([CII)[B" } : Jvm.MethodName) jdk_52_method_16_code (6 : Nat) (Option.some (Jvm.ClassFile.FieldType.array Jvm.ClassFile.FieldType.byte))).before args0 about1 = true := code_word (m := ⟨8, 9⟩) (meth := k8m9) (c := k8c9) (by decide +kernel) rfl rfl rfl (by decide +kernel)
set_option maxRecDepth 65536 in
theorem w_c7 : (Jvm.Cond.code ({ cls := "java/lang/StringUTF16", name := "compress", desc := "([CI[BII)I" } : Jvm.MethodName) jdk_52_method_21_code (7 : Nat) (Option.some Jvm.ClassFile.FieldType.int)).before args0 about1 = true := code_word (m := ⟨8, 10⟩) (meth := k8m10) (c := k8c10) (by decide +kernel) rfl rfl rfl (by decide +kernel)
set_option maxRecDepth 65536 in
theorem w_c8 : (Jvm.Cond.code ({ cls := "java/lang/StringUTF16", name := "coderFromArrayLen", desc := "([BI)B" } : Jvm.MethodName) jdk_52_method_15_code (2 : Nat) (Option.some Jvm.ClassFile.FieldType.byte)).before args0 about1 = true := code_word (m := ⟨8, 8⟩) (meth := k8m8) (c := k8c8) (by decide +kernel) rfl rfl rfl (by decide +kernel)
set_option maxRecDepth 65536 in
theorem w_c9 : (Jvm.Cond.code ({ cls := "com/example/keen_guess/keenguess/text/CodePointOrderComparePinLaw", name := "cpAt", desc := "([CII)I" } : Jvm.MethodName) method_6_code (5 : Nat) (Option.some Jvm.ClassFile.FieldType.int)).before args0 about1 = true := code_word (m := ⟨1, 5⟩) (meth := k1m5) (c := k1c5) (by decide +kernel) rfl rfl rfl (by decide +kernel)
set_option maxRecDepth 65536 in
theorem w_c10 : (Jvm.Cond.code ({ cls := "com/example/keen_guess/keenguess/text/CodePointOrderComparePinLaw", name := "next", desc := "(II)I" } : Jvm.MethodName) method_5_code (2 : Nat) (Option.some Jvm.ClassFile.FieldType.int)).before args0 about1 = true := code_word (m := ⟨1, 4⟩) (meth := k1m4) (c := k1c4) (by decide +kernel) rfl rfl rfl (by decide +kernel)
set_option maxRecDepth 65536 in
theorem w_c11 : (Jvm.Cond.code ({ cls := "com/example/keen_guess/keenguess/text/CodePointOrder", name := "compare", desc := "(Ljava/lang/String;Ljava/lang/String;)I" } : Jvm.MethodName) prog_48_method_2_code (7 : Nat) (Option.some Jvm.ClassFile.FieldType.int)).before args0 about1 = true := code_word (m := ⟨9, 1⟩) (meth := k9m1) (c := k9c1) (by decide +kernel) rfl rfl rfl (by decide +kernel)
set_option maxRecDepth 65536 in
theorem w_c12 : (Jvm.Cond.code ({ cls := "java/lang/String", name := "length", desc := "()I" } : Jvm.MethodName) jdk_42_method_54_code (1 : Nat) (Option.some Jvm.ClassFile.FieldType.int)).before args0 about1 = true := code_word (m := ⟨7, 2⟩) (meth := k7m2) (c := k7c2) (by decide +kernel) rfl rfl rfl (by decide +kernel)
set_option maxRecDepth 65536 in
theorem w_c13 : (Jvm.Cond.code ({ cls := "java/lang/String", name := "coder", desc := "()B" } : Jvm.MethodName) jdk_42_method_152_code (1 : Nat) (Option.some Jvm.ClassFile.FieldType.byte)).before args0 about1 = true := code_word (m := ⟨7, 5⟩) (meth := k7m5) (c := k7c5) (by decide +kernel) rfl rfl rfl (by decide +kernel)
set_option maxRecDepth 65536 in
theorem w_c14 : (Jvm.Cond.code ({ cls := "java/lang/Integer", name := "compare", desc := "(II)I" } : Jvm.MethodName) jdk_33_method_40_code (2 : Nat) (Option.some Jvm.ClassFile.FieldType.int)).before args0 about1 = true := code_word (m := ⟨11, 0⟩) (meth := k11m0) (c := k11c0) (by decide +kernel) rfl rfl rfl (by decide +kernel)
set_option maxRecDepth 65536 in
theorem w_c15 : (Jvm.Cond.code ({ cls := "java/lang/String", name := "codePointAt", desc := "(I)I" } : Jvm.MethodName) jdk_42_method_57_code (3 : Nat) (Option.some Jvm.ClassFile.FieldType.int)).before args0 about1 = true := code_word (m := ⟨7, 3⟩) (meth := k7m3) (c := k7c3) (by decide +kernel) rfl rfl rfl (by decide +kernel)
set_option maxRecDepth 65536 in
theorem w_c16 : (Jvm.Cond.code ({ cls := "java/lang/String", name := "isLatin1", desc := "()Z" } : Jvm.MethodName) jdk_42_method_154_code (1 : Nat) (Option.some Jvm.ClassFile.FieldType.boolean)).before args0 about1 = true := code_word (m := ⟨7, 6⟩) (meth := k7m6) (c := k7c6) (by decide +kernel) rfl rfl rfl (by decide +kernel)
set_option maxRecDepth 65536 in
theorem w_c17 : (Jvm.Cond.code ({ cls := "java/lang/String", name := "checkIndex", desc := "(II)V" } : Jvm.MethodName) jdk_42_method_155_code (2 : Nat) (Option.none : Option Jvm.ClassFile.FieldType)).before args0 about1 = true := code_word (m := ⟨7, 7⟩) (meth := k7m7) (c := k7c7) (by decide +kernel) rfl rfl rfl (by decide +kernel)
set_option maxRecDepth 65536 in
theorem w_c18 : (Jvm.Cond.code ({ cls := "jdk/internal/util/Preconditions", name := "checkIndex", desc := "(IILjava/util/function/BiFunction;)I" } : Jvm.MethodName) jdk_41_method_11_code (3 : Nat) (Option.some Jvm.ClassFile.FieldType.int)).before args0 about1 = true := code_word (m := ⟨12, 1⟩) (meth := k12m1) (c := k12c1) (by decide +kernel) rfl rfl rfl (by decide +kernel)
set_option maxRecDepth 65536 in
theorem w_c19 : (Jvm.Cond.code ({ cls := "java/lang/StringUTF16", name := "toBytes", desc := "([CII)[B" } : Jvm.MethodName) jdk_52_method_14_code (5 : Nat) (Option.some (Jvm.ClassFile.FieldType.array Jvm.ClassFile.FieldType.byte))).before args0 about1 = true := code_word (m := ⟨8, 7⟩) (meth := k8m7) (c := k8c7) (by decide +kernel) rfl rfl rfl (by decide +kernel)
set_option maxRecDepth 65536 in
theorem w_c20 : (Jvm.Cond.code ({ cls := "java/lang/StringUTF16", name := "newBytesFor", desc := "(I)[B" } : Jvm.MethodName) jdk_52_method_2_code (1 : Nat) (Option.some (Jvm.ClassFile.FieldType.array Jvm.ClassFile.FieldType.byte))).before args0 about1 = true := code_word (m := ⟨8, 1⟩) (meth := k8m1) (c := k8c1) (by decide +kernel) rfl rfl rfl (by decide +kernel)
set_option maxRecDepth 65536 in
theorem w_c21 : (Jvm.Cond.code ({ cls := "java/lang/StringUTF16", name := "newBytesLength", desc := "(I)I" } : Jvm.MethodName) jdk_52_method_3_code (1 : Nat) (Option.some Jvm.ClassFile.FieldType.int)).before args0 about1 = true := code_word (m := ⟨8, 2⟩) (meth := k8m2) (c := k8c2) (by decide +kernel) rfl rfl rfl (by decide +kernel)
set_option maxRecDepth 65536 in
theorem w_c22 : (Jvm.Cond.code ({ cls := "java/lang/StringUTF16", name := "putChar", desc := "([BII)V" } : Jvm.MethodName) jdk_52_method_4_code (3 : Nat) (Option.none : Option Jvm.ClassFile.FieldType)).before args0 about1 = true := code_word (m := ⟨8, 3⟩) (meth := k8m3) (c := k8c3) (by decide +kernel) rfl rfl rfl (by decide +kernel)
set_option maxRecDepth 65536 in
theorem w_c23 : (Jvm.Cond.code ({ cls := "java/lang/StringUTF16", name := "getChar", desc := "([BI)C" } : Jvm.MethodName) jdk_52_method_5_code (2 : Nat) (Option.some Jvm.ClassFile.FieldType.char)).before args0 about1 = true := code_word (m := ⟨8, 4⟩) (meth := k8m4) (c := k8c4) (by decide +kernel) rfl rfl rfl (by decide +kernel)
set_option maxRecDepth 65536 in
theorem w_c24 : (Jvm.Cond.code ({ cls := "java/lang/StringUTF16", name := "codePointAt", desc := "([BII)I" } : Jvm.MethodName) jdk_52_method_8_code (3 : Nat) (Option.some Jvm.ClassFile.FieldType.int)).before args0 about1 = true := code_word (m := ⟨8, 6⟩) (meth := k8m6) (c := k8c6) (by decide +kernel) rfl rfl rfl (by decide +kernel)
set_option maxRecDepth 65536 in
theorem w_c25 : (Jvm.Cond.code ({ cls := "java/lang/StringUTF16", name := "codePointAt", desc := "([BIIZ)I" } : Jvm.MethodName) jdk_52_method_7_code (6 : Nat) (Option.some Jvm.ClassFile.FieldType.int)).before args0 about1 = true := code_word (m := ⟨8, 5⟩) (meth := k8m5) (c := k8c5) (by decide +kernel) rfl rfl rfl (by decide +kernel)
set_option maxRecDepth 65536 in
theorem w_c26 : (Jvm.Cond.code ({ cls := "java/lang/Character", name := "isHighSurrogate", desc := "(C)Z" } : Jvm.MethodName) jdk_89_method_14_code (1 : Nat) (Option.some Jvm.ClassFile.FieldType.boolean)).before args0 about1 = true := code_word (m := ⟨13, 0⟩) (meth := k13m0) (c := k13c0) (by decide +kernel) rfl rfl rfl (by decide +kernel)
set_option maxRecDepth 65536 in
theorem w_c27 : (Jvm.Cond.code ({ cls := "java/lang/Character", name := "charCount", desc := "(I)I" } : Jvm.MethodName) jdk_89_method_18_code (1 : Nat) (Option.some Jvm.ClassFile.FieldType.int)).before args0 about1 = true := code_word (m := ⟨13, 2⟩) (meth := k13m2) (c := k13c2) (by decide +kernel) rfl rfl rfl (by decide +kernel)
set_option maxRecDepth 65536 in
theorem w_c28 : (Jvm.Cond.code ({ cls := "java/lang/Character", name := "isLowSurrogate", desc := "(C)Z" } : Jvm.MethodName) jdk_89_method_15_code (1 : Nat) (Option.some Jvm.ClassFile.FieldType.boolean)).before args0 about1 = true := code_word (m := ⟨13, 1⟩) (meth := k13m1) (c := k13c1) (by decide +kernel) rfl rfl rfl (by decide +kernel)
set_option maxRecDepth 65536 in
theorem w_c29 : (Jvm.Cond.code ({ cls := "java/lang/Character", name := "toCodePoint", desc := "(CC)I" } : Jvm.MethodName) jdk_89_method_19_code (2 : Nat) (Option.some Jvm.ClassFile.FieldType.int)).before args0 about1 = true := code_word (m := ⟨13, 3⟩) (meth := k13m3) (c := k13c3) (by decide +kernel) rfl rfl rfl (by decide +kernel)
def codes1 : List Jvm.Cond := [Jvm.Cond.code x code maxLocals ret, Jvm.Cond.code ({ cls := "com/example/keen_guess/keenguess/text/CodePointOrderComparePinLaw", name := "pick", desc := "(III)C" } : Jvm.MethodName) method_3_code (6 : Nat) (Option.some Jvm.ClassFile.FieldType.char), Jvm.Cond.code ({ cls := "com/example/keen_guess/keenguess/text/CodePointOrderComparePinLaw", name := "make", desc := "(CCCI)Ljava/lang/String;" } : Jvm.MethodName) method_4_code (4 : Nat) (Option.some (Jvm.ClassFile.FieldType.object "java/lang/String")), Jvm.Cond.code ({ cls := "java/lang/String", name := "<init>", desc := "([C)V" } : Jvm.MethodName) jdk_42_method_3_code (2 : Nat) (Option.none : Option Jvm.ClassFile.FieldType), Jvm.Cond.code ({ cls := "java/lang/String", name := "<init>", desc := "([CIILjava/lang/Void;)V" } : Jvm.MethodName) jdk_42_method_149_code (6 : Nat) (Option.none : Option Jvm.ClassFile.FieldType), Jvm.Cond.code ({ cls := "java/lang/Object", name := "<init>", desc := "()V" } : Jvm.MethodName) object_method_1_code (1 : Nat) (Option.none : Option Jvm.ClassFile.FieldType), Jvm.Cond.code ({ cls := "java/lang/StringUTF16", name := "compress", desc := "([CII)[B" } : Jvm.MethodName) jdk_52_method_16_code (6 : Nat) (Option.some (Jvm.ClassFile.FieldType.array Jvm.ClassFile.FieldType.byte)), Jvm.Cond.code ({ cls := "java/lang/StringUTF16", name := "compress", desc := "([CI[BII)I" } : Jvm.MethodName) jdk_52_method_21_code (7 : Nat) (Option.some Jvm.ClassFile.FieldType.int), Jvm.Cond.code ({ cls := "java/lang/StringUTF16", name := "coderFromArrayLen", desc := "([BI)B" } : Jvm.MethodName) jdk_52_method_15_code (2 : Nat) (Option.some Jvm.ClassFile.FieldType.byte), Jvm.Cond.code ({ cls := "com/example/keen_guess/keenguess/text/CodePointOrderComparePinLaw", name := "cpAt", desc := "([CII)I" } : Jvm.MethodName) method_6_code (5 : Nat) (Option.some Jvm.ClassFile.FieldType.int), Jvm.Cond.code ({ cls := "com/example/keen_guess/keenguess/text/CodePointOrderComparePinLaw", name := "next", desc := "(II)I" } : Jvm.MethodName) method_5_code (2 : Nat) (Option.some Jvm.ClassFile.FieldType.int), Jvm.Cond.code ({ cls := "com/example/keen_guess/keenguess/text/CodePointOrder", name := "compare", desc := "(Ljava/lang/String;Ljava/lang/String;)I" } : Jvm.MethodName) prog_48_method_2_code (7 : Nat) (Option.some Jvm.ClassFile.FieldType.int), Jvm.Cond.code ({ cls := "java/lang/String", name := "length", desc := "()I" } : Jvm.MethodName) jdk_42_method_54_code (1 : Nat) (Option.some Jvm.ClassFile.FieldType.int), Jvm.Cond.code ({ cls := "java/lang/String", name := "coder", desc := "()B" } : Jvm.MethodName) jdk_42_method_152_code (1 : Nat) (Option.some Jvm.ClassFile.FieldType.byte), Jvm.Cond.code ({ cls := "java/lang/Integer", name := "compare", desc := "(II)I" } : Jvm.MethodName) jdk_33_method_40_code (2 : Nat) (Option.some Jvm.ClassFile.FieldType.int), Jvm.Cond.code ({ cls := "java/lang/String", name := "codePointAt", desc := "(I)I" } : Jvm.MethodName) jdk_42_method_57_code (3 : Nat) (Option.some Jvm.ClassFile.FieldType.int), Jvm.Cond.code ({ cls := "java/lang/String", name := "isLatin1", desc := "()Z" } : Jvm.MethodName) jdk_42_method_154_code (1 : Nat) (Option.some Jvm.ClassFile.FieldType.boolean), Jvm.Cond.code ({ cls := "java/lang/String", name := "checkIndex", desc := "(II)V" } : Jvm.MethodName) jdk_42_method_155_code (2 : Nat) (Option.none : Option Jvm.ClassFile.FieldType), Jvm.Cond.code ({ cls := "jdk/internal/util/Preconditions", name := "checkIndex", desc := "(IILjava/util/function/BiFunction;)I" } : Jvm.MethodName) jdk_41_method_11_code (3 : Nat) (Option.some Jvm.ClassFile.FieldType.int), Jvm.Cond.code ({ cls := "java/lang/StringUTF16", name := "toBytes", desc := "([CII)[B" } : Jvm.MethodName) jdk_52_method_14_code (5 : Nat) (Option.some (Jvm.ClassFile.FieldType.array Jvm.ClassFile.FieldType.byte)), Jvm.Cond.code ({ cls := "java/lang/StringUTF16", name := "newBytesFor", desc := "(I)[B" } : Jvm.MethodName) jdk_52_method_2_code (1 : Nat) (Option.some (Jvm.ClassFile.FieldType.array Jvm.ClassFile.FieldType.byte)), Jvm.Cond.code ({ cls := "java/lang/StringUTF16", name := "newBytesLength", desc := "(I)I" } : Jvm.MethodName) jdk_52_method_3_code (1 : Nat) (Option.some Jvm.ClassFile.FieldType.int), Jvm.Cond.code ({ cls := "java/lang/StringUTF16", name := "putChar", desc := "([BII)V" } : Jvm.MethodName) jdk_52_method_4_code (3 : Nat) (Option.none : Option Jvm.ClassFile.FieldType), Jvm.Cond.code ({ cls := "java/lang/StringUTF16", name := "getChar", desc := "([BI)C" } : Jvm.MethodName) jdk_52_method_5_code (2 : Nat) (Option.some Jvm.ClassFile.FieldType.char), Jvm.Cond.code ({ cls := "java/lang/StringUTF16", name := "codePointAt", desc := "([BII)I" } : Jvm.MethodName) jdk_52_method_8_code (3 : Nat) (Option.some Jvm.ClassFile.FieldType.int), Jvm.Cond.code ({ cls := "java/lang/StringUTF16", name := "codePointAt", desc := "([BIIZ)I" } : Jvm.MethodName) jdk_52_method_7_code (6 : Nat) (Option.some Jvm.ClassFile.FieldType.int), Jvm.Cond.code ({ cls := "java/lang/Character", name := "isHighSurrogate", desc := "(C)Z" } : Jvm.MethodName) jdk_89_method_14_code (1 : Nat) (Option.some Jvm.ClassFile.FieldType.boolean), Jvm.Cond.code ({ cls := "java/lang/Character", name := "charCount", desc := "(I)I" } : Jvm.MethodName) jdk_89_method_18_code (1 : Nat) (Option.some Jvm.ClassFile.FieldType.int), Jvm.Cond.code ({ cls := "java/lang/Character", name := "isLowSurrogate", desc := "(C)Z" } : Jvm.MethodName) jdk_89_method_15_code (1 : Nat) (Option.some Jvm.ClassFile.FieldType.boolean), Jvm.Cond.code ({ cls := "java/lang/Character", name := "toCodePoint", desc := "(CC)I" } : Jvm.MethodName) jdk_89_method_19_code (2 : Nat) (Option.some Jvm.ClassFile.FieldType.int)]
set_option maxRecDepth 65536 in
theorem codes_eq : words1.filter isCode = codes1 := rfl
theorem w_codes : ∀ c ∈ words1.filter isCode, c.before args0 about1 = true := by
  rw [codes_eq]
  intro c hc
  simp only [codes1, List.mem_cons, List.not_mem_nil, or_false] at hc
  rcases hc with rfl | rfl | rfl | rfl | rfl | rfl | rfl | rfl | rfl | rfl | rfl | rfl | rfl | rfl | rfl | rfl | rfl | rfl | rfl | rfl | rfl | rfl | rfl | rfl | rfl | rfl | rfl | rfl | rfl | rfl
  · exact w_c0
  · exact w_c1
  · exact w_c2
  · exact w_c3
  · exact w_c4
  · exact w_c5
  · exact w_c6
  · exact w_c7
  · exact w_c8
  · exact w_c9
  · exact w_c10
  · exact w_c11
  · exact w_c12
  · exact w_c13
  · exact w_c14
  · exact w_c15
  · exact w_c16
  · exact w_c17
  · exact w_c18
  · exact w_c19
  · exact w_c20
  · exact w_c21
  · exact w_c22
  · exact w_c23
  · exact w_c24
  · exact w_c25
  · exact w_c26
  · exact w_c27
  · exact w_c28
  · exact w_c29
set_option maxRecDepth 65536 in
theorem w_t1 : (words1.take 24).all (fun c => isCode c || c.before args0 about1) = true := by decide +kernel
set_option maxRecDepth 65536 in
theorem w_t2 : ((words1.drop 24).take 24).all (fun c => isCode c || c.before args0 about1) = true := by decide +kernel
set_option maxRecDepth 65536 in
theorem w_t3 : (((words1.drop 24).drop 24).take 24).all (fun c => isCode c || c.before args0 about1) = true := by decide +kernel
set_option maxRecDepth 65536 in
theorem w_t4 : ((((words1.drop 24).drop 24).drop 24).take 24).all (fun c => isCode c || c.before args0 about1) = true := by decide +kernel
set_option maxRecDepth 65536 in
theorem w_t5 : (((((words1.drop 24).drop 24).drop 24).drop 24).take 24).all (fun c => isCode c || c.before args0 about1) = true := by decide +kernel
set_option maxRecDepth 65536 in
theorem w_t6 : (((((words1.drop 24).drop 24).drop 24).drop 24).drop 24).all (fun c => isCode c || c.before args0 about1) = true := by decide +kernel
theorem w_tables : (allAtoms (Jvm.Cond.code x code maxLocals ret :: tables_1)).before args0 about1 = true := by
  rw [allAtoms_all]
  show words1.all (fun c => c.before args0 about1) = true
  refine all_split ?_ w_codes
  rw [← List.take_append_drop 24 words1, List.all_append, w_t1, ← List.take_append_drop 24 (words1.drop 24), List.all_append, w_t2, ← List.take_append_drop 24 ((words1.drop 24).drop 24), List.all_append, w_t3, ← List.take_append_drop 24 (((words1.drop 24).drop 24).drop 24), List.all_append, w_t4, ← List.take_append_drop 24 ((((words1.drop 24).drop 24).drop 24).drop 24), List.all_append, w_t5, w_t6]
  rfl
set_option maxRecDepth 65536 in
theorem w_rest : rest_1_c.before args0 about1 = true := by decide +kernel
set_option maxRecDepth 65536 in
theorem w_case : (Jvm.Cond.and given_1 narrow_1).before args0 about1 = true := by decide +kernel
set_option maxRecDepth 65536 in
theorem w_consts : constsHeld consts_1 about1 := Jvm.Lit.constsHeldB_iff.mp (by decide +kernel)
theorem w_applies : (headSpec (Jvm.Cond.code x code maxLocals ret :: tables_1) room_1).applies x e0.platform about1 = true :=
  (Spec.applies_iff w_frames).mpr ⟨w_running, w_runnable, w_alone, w_named, w_hears, w_ripe, w_room, w_tables⟩
theorem atStart : AtStart classFile x code maxLocals ret World_1 tables_1 room_1 Calls_1 rest_1 Pre_1 launch0 p0 e0 about1 theMethod args0 below0 :=
  ⟨lists_1, trivial, launch0.admits_env _ _ _, launch0.least_env, fairChoices_fair.cas, fairChoices_fair.clock, w_frames, w_args, w_heap, w_applies, ⟨w_consts, trivial⟩, w_rest, w_case⟩
end start1
theorem witness_1 : WitnessClaimed_1 := ⟨start1.p0, start1.e0, start1.about1, start1.theMethod, start1.args0, start1.below0, start1.atStart⟩
end Jvm.Pilot.@@N@@
