import JvmDerived
import JvmDerived.Pilot.@@N@@Statement
import JvmDerived.Pilot.@@N@@Code
set_option linter.unusedVariables false
set_option linter.unusedSimpArgs false
namespace Jvm.Free.XS
/-- lcmp's int; iushr's int -/
def cmpL (x y : Int64) : Int32 := if x > y then 1 else if x = y then 0 else -1
def ushr (x y : Int32) : Int32 := (x.toUInt32 >>> (y &&& 31).toUInt32).toInt32
end Jvm.Free.XS
namespace Jvm.RoadKit
open Sem ClassFile Op Lib Jvm.Stand Jvm.Free Jvm.LawKit
section Going
variable {p : Program} {l : Launch} {e : Env} {R : Room} {s : State} {m : MethodId} {args : Array Value} {below : List Frame} {meth : Method} {c : Code} {T T' : State} {locs : List Loc} {cells slots : Nat} {K N : Nat} {Q : Option Value → Heap → List Loc → Prop} {F : Option Value → State → Prop} {g g' : JFrame} {Z : State} {a0 : Array Value} {h : Heap}
/-- from this frame the run comes to the method's return, with what F says of the value and the end -/
def Go (p : Program) (e : Env) (below : List Frame) (F : Option Value → State → Prop) (T : State) (g : JFrame) : Prop :=
  ∃ s₂ o, Steps p.tables e below (T.setTop g) s₂ ∧ s₂.status = .running ∧ Ended s₂ below o ∧ ∃ v, o = .returned v ∧ F v s₂
/-- what is said of an end: Q of the value, the heap and the places written; and the frame -/
def GoEnd (s : State) (K N : Nat) (Q : Option Value → Heap → List Loc → Prop) (v : Option Value) (t : State) : Prop := ∃ L, Q v t.heap L ∧ FrameEnd s (.returned v) t L K N
theorem Go.of (q : ∀ t, Steps p.tables e below (T'.setTop g') t → Steps p.tables e below (T.setTop g) t) (k : Go p e below F T' g') : Go p e below F T g := by
  obtain ⟨s₂, o, h1, r⟩ := k; exact ⟨s₂, o, q _ h1, r⟩
theorem Go.via (q : Steps p.tables e below (T.setTop g) (T'.setTop g')) (k : Go p e below F T' g') : Go p e below F T g := Go.of (fun _ r => q.trans r) k
theorem Go.cast (q : g = g') (k : Go p e below F T g') : Go p e below F T g := q ▸ k
/-- a body's contract out of its walk -/
theorem goBody {y : MethodName} {bytes : ByteArray} {maxL : Nat} {ret : Option FieldType} {ws : List Cond} {rm : Room} {as' : Array Value} (hp : plainFor y = true)
    (body : ∀ p e s m below meth c s₁, p.tables.exec = Jvm.exec → Z.Warmed39 s.vm → c.code = bytes → c.maxLocals = maxL → s.vm.findClass y.cls = some m.cls → meth.name = y.name → meth.sig.returnType = ret → meth.locks = false →
      Stand p l e rm s m as' below meth c s₁ [] 0 0 → s₁.heap = h → Go p e below (GoEnd s rm.cells rm.slots Q) s₁ (entryFrame m as' maxL)) :
    MetFree l y (head1 (Cond.code y bytes maxL ret :: ws) rm) (fun a U => a = as' ∧ Z.Warmed39 U.vm ∧ U.heap = h) (fun _ _ _ _ _ => True) (fun _ U o U' => ∃ v L, o = .returned v ∧ Q v U'.heap L ∧ FrameEnd U o U' L rm.cells rm.slots) := by
  refine MetFree.of_bodySF hp hisR ?_
  intro p e s m args below meth c s₁ Bd hml hP hK
  obtain ⟨rfl, hZ, hh⟩ := hP
  obtain ⟨s₂, o, h1, h2, h3, v, rfl, L, h4, h5⟩ := body p e s m below meth c s₁ Bd.exec hZ Bd.bytes hml (findClass_of_methodNamed Bd.named) (name_of_methodNamed Bd.named Bd.method).1 Bd.returns Bd.notSynchronized (Stand.of_body Bd) (by rw [← hh, Bd.state]; rfl)
  exact ⟨s₂, _, h1, h2, h3, v, L, rfl, h4, h5⟩
theorem Go.retI (X : Stand p l e R s m args below meth c T locs cells slots) (hx : p.tables.exec = Jvm.exec) (hlk : meth.locks = false) {pc : Nat} {Ls : Array Slot} {z : Int32} {rest : List Value} (hret : meth.sig.returnType = some .int) (hd : decode c.code pc = .ok (.ireturn, 1)) (hK : cells ≤ K) (hN : slots ≤ N) (hq : Q (some (.int z)) T.heap locs) : Go p e below (GoEnd s K N Q) T (mkF m pc Ls (.int z :: rest)) := by
  obtain ⟨fs, hr, hrun, hended, hW, hsame⟩ := X.leave (v := some (.int z)) (fun h => by rw [hret] at h; cases h) hlk
  exact ⟨_, _, retOut X hx (t := .int) (i := .ireturn) hret rfl (Or.inl ⟨rfl, Or.inl rfl, z, rfl⟩) hd hr, hrun, hended, _, rfl, _, hq, ⟨_, rfl⟩, hW, hsame.mono hK hN⟩
theorem Go.retN (X : Stand p l e R s m args below meth c T locs cells slots) (hx : p.tables.exec = Jvm.exec) (hlk : meth.locks = false) {pc : Nat} {Ls : Array Slot} {z : Int32} {t : FieldType} {rest : List Value} (hret : meth.sig.returnType = some t) (ht : t = .boolean ∨ t = .byte ∨ t = .char ∨ t = .short) (hd : decode c.code pc = .ok (.ireturn, 1)) (hK : cells ≤ K) (hN : slots ≤ N) (hq : Q (some (.int (nar t z))) T.heap locs) : Go p e below (GoEnd s K N Q) T (mkF m pc Ls (.int z :: rest)) := by
  obtain ⟨fs, hr, hrun, hended, hW, hsame⟩ := X.leave (v := some (.int (nar t z))) (fun h => by rw [hret] at h; cases h) hlk
  exact ⟨_, _, Jvm.RoadKit.retN X hx (t := t) hret ht hd hr, hrun, hended, _, rfl, _, hq, ⟨_, rfl⟩, hW, hsame.mono hK hN⟩
theorem Go.retJ (X : Stand p l e R s m args below meth c T locs cells slots) (hx : p.tables.exec = Jvm.exec) (hlk : meth.locks = false) {pc : Nat} {Ls : Array Slot} {z : Int64} {rest : List Value} (hret : meth.sig.returnType = some .long) (hd : decode c.code pc = .ok (.lreturn, 1)) (hK : cells ≤ K) (hN : slots ≤ N) (hq : Q (some (.long z)) T.heap locs) : Go p e below (GoEnd s K N Q) T (mkF m pc Ls (.long z :: rest)) := by
  obtain ⟨fs, hr, hrun, hended, hW, hsame⟩ := X.leave (v := some (.long z)) (fun h => by rw [hret] at h; cases h) hlk
  exact ⟨_, _, retOut X hx (t := .long) (i := .lreturn) hret rfl (Or.inr (Or.inl ⟨rfl, rfl, z, rfl⟩)) hd hr, hrun, hended, _, rfl, _, hq, ⟨_, rfl⟩, hW, hsame.mono hK hN⟩
theorem Go.retD (X : Stand p l e R s m args below meth c T locs cells slots) (hx : p.tables.exec = Jvm.exec) (hlk : meth.locks = false) {pc : Nat} {Ls : Array Slot} {z : UInt64} {rest : List Value} (hret : meth.sig.returnType = some .double) (hd : decode c.code pc = .ok (.dreturn, 1)) (hK : cells ≤ K) (hN : slots ≤ N) (hq : Q (some (.double z)) T.heap locs) : Go p e below (GoEnd s K N Q) T (mkF m pc Ls (.double z :: rest)) := by
  obtain ⟨fs, hr, hrun, hended, hW, hsame⟩ := X.leave (v := some (.double z)) (fun h => by rw [hret] at h; cases h) hlk
  exact ⟨_, _, retOut X hx (t := .double) (i := .dreturn) hret rfl (Or.inr (Or.inr (Or.inl ⟨rfl, rfl, z, rfl⟩))) hd hr, hrun, hended, _, rfl, _, hq, ⟨_, rfl⟩, hW, hsame.mono hK hN⟩
theorem Go.retA (X : Stand p l e R s m args below meth c T locs cells slots) (hx : p.tables.exec = Jvm.exec) (hlk : meth.locks = false) {pc : Nat} {Ls : Array Slot} {v : Value} {t : FieldType} {rest : List Value} (hret : meth.sig.returnType = some t) (ht : t.isReference = true) (hv : v.isRef = true) (hn : narrow t v = v) (hd : decode c.code pc = .ok (.areturn, 1)) (hK : cells ≤ K) (hN : slots ≤ N) (hq : Q (some v) T.heap locs) : Go p e below (GoEnd s K N Q) T (mkF m pc Ls (v :: rest)) := by
  obtain ⟨fs, hr, hrun, hended, hW, hsame⟩ := X.leave (v := some v) (fun h => by rw [hret] at h; cases h) hlk
  exact ⟨_, _, retOut X hx (t := t) (i := .areturn) hret hn (Or.inr (Or.inr (Or.inr (Or.inr ⟨rfl, ht, hv⟩)))) hd hr, hrun, hended, _, rfl, _, hq, ⟨_, rfl⟩, hW, hsame.mono hK hN⟩
theorem Go.retV (X : Stand p l e R s m args below meth c T locs cells slots) (hx : p.tables.exec = Jvm.exec) (hlk : meth.locks = false) {pc : Nat} {Ls : Array Slot} (hret : meth.sig.returnType = none) (hd : decode c.code pc = .ok (.return_, 1)) (hK : cells ≤ K) (hN : slots ≤ N) (hq : Q none T.heap locs) : Go p e below (GoEnd s K N Q) T (mkF m pc Ls []) := by
  obtain ⟨fs, hr, hrun, hended, hW, hsame⟩ := X.leave (v := none) (fun _ => rfl) hlk
  exact ⟨_, _, X.returnOut hx hret hd hr, hrun, hended, _, rfl, _, hq, ⟨_, rfl⟩, hW, hsame.mono hK hN⟩
/-- what a callee that writes and makes nothing leaves -/
def PQ (h : Heap) (r : Option Value) (v : Option Value) (h' : Heap) (L : List Loc) : Prop := v = r ∧ L = [] ∧ h' = h
/-- a contract in the form in which a call takes it -/
abbrev MetAt (l : Launch) (Z : State) (y : MethodName) (bytes : ByteArray) (maxL : Nat) (ret : Option FieldType) (rm : Room) (as' : Array Value) (h : Heap) (Q : Option Value → Heap → List Loc → Prop) : Prop :=
  MetFree l y (head1 [Cond.code y bytes maxL ret] rm) (fun a U => a = as' ∧ Z.Warmed39 U.vm ∧ U.heap = h) (fun _ _ _ _ _ => True) (fun _ U o U' => ∃ v L, o = .returned v ∧ Q v U'.heap L ∧ FrameEnd U o U' L rm.cells rm.slots)
variable {own : String} {index : Nat} {y z : MethodName} {bytes : ByteArray} {maxL W pc : Nat} {ret : Option FieldType} {rm : Room} {Qc : Option Value → Heap → List Loc → Prop} {argsL rest st : List Value} {Ls : Array Slot}
theorem Go.callS (X : Stand p l e R s m args below meth c T locs cells slots) (hx : p.tables.exec = Jvm.exec) (hZ : Z.Warmed39 s.vm) (hown : s.vm.findClass own = some m.cls)
    (wl : (Cond.methodLink own index y).before a0 Z = true) (ws : (Cond.static y).before a0 Z = true) (wz : (Cond.initialized y.cls).before a0 Z = true) (wc : (Cond.code y bytes maxL ret).before a0 Z = true)
    (hy : y.cls ≠ "java/lang/invoke/MethodHandle" ∧ y.cls ≠ "java/lang/invoke/VarHandle") (hM : MetAt l Z y bytes maxL ret rm argsL.toArray h Qc) (eT : T.heap = h) (hsize : Ls.size = c.maxLocals)
    (hlen : ∀ sig, parseMethodDescriptor y.desc = some sig → argsL.length = sig.parameters.length) (hd : decode c.code pc = .ok (.invokestatic index, 3)) (hst : st = argsL.reverse ++ rest)
    (hW : (rest.map fun v => v.category).sum ≤ W) (hf : rm.frames + 1 ≤ R.frames) (hl : W + (maxL + 11) + rm.locals ≤ R.locals) (hc : cells + rm.cells ≤ R.cells) (hs : slots + rm.slots ≤ R.slots)
    (k : ∀ v T' L', Stand p l e R s m args below meth c T' (locs ++ L') (cells + rm.cells) (slots + rm.slots) → Qc v T'.heap L' → Go p e below F T' (mkF m (pc + 3) Ls (v.toList ++ rest))) : Go p e below F T (mkF m pc Ls st) := by
  obtain ⟨v, vm₁, ⟨T', L', k', n'⟩, -, X', ⟨Lc, hQ, l1, y1, z1⟩, stp⟩ := Jvm.LawKit.callS X hx hown (mvT hZ wl) (mvT hZ ws) (mvT hZ wz) (mvT hZ wc) hy (backOf (W := W) hM hZ wc wz hf hl) (g := mkF m pc Ls st) rfl hsize hlen hst (by show 2 * 0 + _ ≤ _; omega) hd (fun _ _ => ⟨rfl, eT, hc, hs⟩)
  dsimp only [Pt.U, Pt.locs, Pt.cells, Pt.slots] at X' l1 y1 z1 stp hQ
  subst l1 y1 z1
  exact Go.of stp (k v T' Lc X' hQ)
theorem Go.callSP (X : Stand p l e R s m args below meth c T locs cells slots) (hx : p.tables.exec = Jvm.exec) (hZ : Z.Warmed39 s.vm) (hown : s.vm.findClass own = some m.cls)
    (wl : (Cond.methodLink own index y).before a0 Z = true) (ws : (Cond.static y).before a0 Z = true) (wz : (Cond.initialized y.cls).before a0 Z = true) (wc : (Cond.code y bytes maxL ret).before a0 Z = true)
    (hy : y.cls ≠ "java/lang/invoke/MethodHandle" ∧ y.cls ≠ "java/lang/invoke/VarHandle") {r : Option Value} {fr lo : Nat} (hM : MetAt l Z y bytes maxL ret { frames := fr, cells := 0, slots := 0, locals := lo } argsL.toArray h (PQ h r)) (eT : T.heap = h) (hsize : Ls.size = c.maxLocals)
    (hlen : ∀ sig, parseMethodDescriptor y.desc = some sig → argsL.length = sig.parameters.length) (hd : decode c.code pc = .ok (.invokestatic index, 3)) (hst : st = argsL.reverse ++ rest)
    (hW : (rest.map fun v => v.category).sum ≤ W) (hf : fr + 1 ≤ R.frames) (hl : W + (maxL + 11) + lo ≤ R.locals) (hc : cells ≤ R.cells) (hs : slots ≤ R.slots)
    (k : ∀ T', Stand p l e R s m args below meth c T' locs cells slots → T'.heap = h → Go p e below F T' (mkF m (pc + 3) Ls (r.toList ++ rest))) : Go p e below F T (mkF m pc Ls st) := by
  refine Go.callS X hx hZ hown wl ws wz wc hy hM eT hsize hlen hd hst hW hf hl hc hs fun v T' L' X' q => ?_
  obtain ⟨rfl, rfl, e'⟩ := q
  rw [List.append_nil] at X'
  exact k T' X' e'
theorem Go.callI (X : Stand p l e R s m args below meth c T locs cells slots) (hx : p.tables.exec = Jvm.exec) (hZ : Z.Warmed39 s.vm) (hy1 : y.name = "<init>") (hown : s.vm.findClass own = some m.cls)
    (wl : (Cond.methodLink own index y).before a0 Z = true) (wi : (Cond.instanceMethod y).before a0 Z = true) (wz : (Cond.initialized y.cls).before a0 Z = true) (wc : (Cond.code y bytes maxL none).before a0 Z = true)
    (hy : y.cls ≠ "java/lang/invoke/MethodHandle" ∧ y.cls ≠ "java/lang/invoke/VarHandle") {a : Addr} (hM : MetAt l Z y bytes maxL none rm (.ref a :: argsL).toArray h Qc) (eT : T.heap = h) (hsize : Ls.size = c.maxLocals)
    (hlen : ∀ sig, parseMethodDescriptor y.desc = some sig → argsL.length = sig.parameters.length) (hd : decode c.code pc = .ok (.invokespecial index, 3)) (hst : st = argsL.reverse ++ .ref a :: rest)
    (hW : (rest.map fun v => v.category).sum ≤ W) (hf : rm.frames + 1 ≤ R.frames) (hl : W + (maxL + 11) + rm.locals ≤ R.locals) (hc : cells + rm.cells ≤ R.cells) (hs : slots + rm.slots ≤ R.slots)
    (k : ∀ v T' L', Stand p l e R s m args below meth c T' (locs ++ L') (cells + rm.cells) (slots + rm.slots) → Qc v T'.heap L' → Go p e below F T' (mkF m (pc + 3) Ls (v.toList ++ rest))) : Go p e below F T (mkF m pc Ls st) := by
  obtain ⟨v, vm₁, ⟨T', L', k', n'⟩, -, X', ⟨Lc, hQ, l1, y1, z1⟩, stp⟩ := X.specialBack hx hy1 hown (mvT hZ wl) (mvT hZ wi) (mvT hZ wc) hy (backOf (W := W) hM hZ wc wz hf hl) (g := mkF m pc Ls st) rfl hsize (Steps.refl _) (a := a) hlen hst (by show 2 * 0 + _ ≤ _; omega) hd (fun _ _ => ⟨rfl, eT, hc, hs⟩)
  dsimp only [Pt.U, Pt.locs, Pt.cells, Pt.slots] at X' l1 y1 z1 stp hQ
  subst l1 y1 z1
  exact Go.via stp (k v T' Lc X' hQ)
theorem Go.callV (X : Stand p l e R s m args below meth c T locs cells slots) (hx : p.tables.exec = Jvm.exec) (hZ : Z.Warmed39 s.vm) (hown : s.vm.findClass own = some m.cls) {C : String}
    (wl : (Cond.methodLink own index y).before a0 Z = true) (wd : (Cond.declares y).before a0 Z = true) (hnf : NotFace s y) (wse : (Cond.selects C y z).before a0 Z = true) (wi : (Cond.instanceMethod z).before a0 Z = true) (wz : (Cond.initialized z.cls).before a0 Z = true) (wc : (Cond.code z bytes maxL ret).before a0 Z = true)
    (hy : y.cls ≠ "java/lang/invoke/MethodHandle" ∧ y.cls ≠ "java/lang/invoke/VarHandle") {a : Addr} (hM : MetAt l Z z bytes maxL ret rm (.ref a :: argsL).toArray h Qc) (eT : T.heap = h) (hE : Exa Z h a C) (hsize : Ls.size = c.maxLocals)
    (hlen : ∀ sig, parseMethodDescriptor y.desc = some sig → argsL.length = sig.parameters.length) (hd : decode c.code pc = .ok (.invokevirtual index, 3)) (hst : st = argsL.reverse ++ .ref a :: rest)
    (hW : (rest.map fun v => v.category).sum ≤ W) (hf : rm.frames + 1 ≤ R.frames) (hl : W + (maxL + 11) + rm.locals ≤ R.locals) (hc : cells + rm.cells ≤ R.cells) (hs : slots + rm.slots ≤ R.slots)
    (k : ∀ v T' L', Stand p l e R s m args below meth c T' (locs ++ L') (cells + rm.cells) (slots + rm.slots) → Qc v T'.heap L' → Go p e below F T' (mkF m (pc + 3) Ls (v.toList ++ rest))) : Go p e below F T (mkF m pc Ls st) := by
  obtain ⟨cq, kq, q1, q2, q3⟩ := isOf hZ eT hE
  obtain ⟨v, vm₁, ⟨T', L', k', n'⟩, -, X', ⟨Lc, hQ, l1, y1, z1⟩, stp⟩ := X.virtualBack hx (y := y) (z := z) hown (mvT hZ wl) (mvT hZ wd) hnf (mvT hZ wse) (mvT hZ wi) hy (backOf (W := W) hM hZ wc wz hf hl) q1 q3 (g := mkF m pc Ls st) rfl hsize (Steps.refl _) hlen hst (by show 2 * 0 + _ ≤ _; omega) hd (fun _ _ => ⟨rfl, eT, hc, hs⟩)
  dsimp only [Pt.U, Pt.locs, Pt.cells, Pt.slots] at X' l1 y1 z1 stp hQ
  subst l1 y1 z1
  exact Go.via stp (k v T' Lc X' hQ)
theorem Go.callVP (X : Stand p l e R s m args below meth c T locs cells slots) (hx : p.tables.exec = Jvm.exec) (hZ : Z.Warmed39 s.vm) (hown : s.vm.findClass own = some m.cls) {C : String}
    (wl : (Cond.methodLink own index y).before a0 Z = true) (wd : (Cond.declares y).before a0 Z = true) (hnf : NotFace s y) (wse : (Cond.selects C y z).before a0 Z = true) (wi : (Cond.instanceMethod z).before a0 Z = true) (wz : (Cond.initialized z.cls).before a0 Z = true) (wc : (Cond.code z bytes maxL ret).before a0 Z = true)
    (hy : y.cls ≠ "java/lang/invoke/MethodHandle" ∧ y.cls ≠ "java/lang/invoke/VarHandle") {a : Addr} {r : Option Value} {fr lo : Nat} (hM : MetAt l Z z bytes maxL ret { frames := fr, cells := 0, slots := 0, locals := lo } (.ref a :: argsL).toArray h (PQ h r)) (eT : T.heap = h) (hE : Exa Z h a C) (hsize : Ls.size = c.maxLocals)
    (hlen : ∀ sig, parseMethodDescriptor y.desc = some sig → argsL.length = sig.parameters.length) (hd : decode c.code pc = .ok (.invokevirtual index, 3)) (hst : st = argsL.reverse ++ .ref a :: rest)
    (hW : (rest.map fun v => v.category).sum ≤ W) (hf : fr + 1 ≤ R.frames) (hl : W + (maxL + 11) + lo ≤ R.locals) (hc : cells ≤ R.cells) (hs : slots ≤ R.slots)
    (k : ∀ T', Stand p l e R s m args below meth c T' locs cells slots → T'.heap = h → Go p e below F T' (mkF m (pc + 3) Ls (r.toList ++ rest))) : Go p e below F T (mkF m pc Ls st) := by
  refine Go.callV X hx hZ hown wl wd hnf wse wi wz wc hy hM eT hE hsize hlen hd hst hW hf hl hc hs fun v T' L' X' q => ?_
  obtain ⟨rfl, rfl, e'⟩ := q
  rw [List.append_nil] at X'
  exact k T' X' e'
theorem Go.callIP (X : Stand p l e R s m args below meth c T locs cells slots) (hx : p.tables.exec = Jvm.exec) (hZ : Z.Warmed39 s.vm) (hy1 : y.name = "<init>") (hown : s.vm.findClass own = some m.cls)
    (wl : (Cond.methodLink own index y).before a0 Z = true) (wi : (Cond.instanceMethod y).before a0 Z = true) (wz : (Cond.initialized y.cls).before a0 Z = true) (wc : (Cond.code y bytes maxL none).before a0 Z = true)
    (hy : y.cls ≠ "java/lang/invoke/MethodHandle" ∧ y.cls ≠ "java/lang/invoke/VarHandle") {a : Addr} {fr lo : Nat} (hM : MetAt l Z y bytes maxL none { frames := fr, cells := 0, slots := 0, locals := lo } (.ref a :: argsL).toArray h (PQ h none)) (eT : T.heap = h) (hsize : Ls.size = c.maxLocals)
    (hlen : ∀ sig, parseMethodDescriptor y.desc = some sig → argsL.length = sig.parameters.length) (hd : decode c.code pc = .ok (.invokespecial index, 3)) (hst : st = argsL.reverse ++ .ref a :: rest)
    (hW : (rest.map fun v => v.category).sum ≤ W) (hf : fr + 1 ≤ R.frames) (hl : W + (maxL + 11) + lo ≤ R.locals) (hc : cells ≤ R.cells) (hs : slots ≤ R.slots)
    (k : ∀ T', Stand p l e R s m args below meth c T' locs cells slots → T'.heap = h → Go p e below F T' (mkF m (pc + 3) Ls rest)) : Go p e below F T (mkF m pc Ls st) := by
  refine Go.callI X hx hZ hy1 hown wl wi wz wc hy hM eT hsize hlen hd hst hW hf hl hc hs fun v T' L' X' q => ?_
  obtain ⟨rfl, rfl, e'⟩ := q
  rw [List.append_nil] at X'
  exact k T' X' e'
end Going
end Jvm.RoadKit
namespace Jvm.RoadKit
open Sem ClassFile Op Lib Jvm.Stand Jvm.Free Jvm.LawKit
section Heaping
variable {p : Program} {l : Launch} {e : Env} {R : Room} {s : State} {m : MethodId} {args : Array Value} {below : List Frame} {meth : Method} {c : Code} {T : State} {locs : List Loc} {cells slots : Nat} {Fi : Option Value → State → Prop} {Z : State} {a0 : Array Value} {h : Heap} {a : Addr} {k : ClassId} {ty : FieldType} {z j x : Int32} {vs rest st : List Value} {dv v : Value} {pc : Nat} {Ls : Array Slot} {own C O n d host : String} {index nn : Nat}
theorem Arv.load (F : Arv Z h a k ty z vs dv) (hj : ¬ j < 0 ∧ j < z) : ∃ cl, Arr Z h a cl ty ∧ ¬ (j < 0 ∨ cl.slots.size ≤ j.toNatClampNeg) ∧ cl.slots[j.toNatClampNeg]? = some (vs.getD j.toNatClampNeg dv) := by
  obtain ⟨cl, A, -, S, -, H, -⟩ := F
  exact ⟨cl, A, inb_of S hj, H.at (inb_of S hj) rfl⟩
theorem Go.iaload (X : Stand p l e R s m args below meth c T locs cells slots) (hx : p.tables.exec = Jvm.exec) (hZ : Z.Warmed39 s.vm) (eT : T.heap = h) (F : Arv Z h a k .int z vs dv) (hj : ¬ j < 0 ∧ j < z) (hv : vs.getD j.toNatClampNeg dv = v) (hd : decode c.code pc = .ok (.iaload, 1)) (kk : Go p e below Fi T (mkF m (pc + 1) Ls (v :: rest))) : Go p e below Fi T (mkF m pc Ls (.int j :: .ref a :: rest)) := by
  obtain ⟨cl, A, i1, i2⟩ := F.load hj
  rw [hv] at i2
  exact Go.of (fun t q => X.iaload hx (by rw [eT]; exact A.1) (State.isArrayOf_alike hZ.alike A.2.1) A.2.2 i1 i2 (g := mkF m pc Ls (.int j :: .ref a :: rest)) rfl rfl hd t q) kk
theorem Go.laload (X : Stand p l e R s m args below meth c T locs cells slots) (hx : p.tables.exec = Jvm.exec) (hZ : Z.Warmed39 s.vm) (eT : T.heap = h) (F : Arv Z h a k .long z vs dv) (hj : ¬ j < 0 ∧ j < z) (hv : vs.getD j.toNatClampNeg dv = v) (hd : decode c.code pc = .ok (.laload, 1)) (kk : Go p e below Fi T (mkF m (pc + 1) Ls (v :: rest))) : Go p e below Fi T (mkF m pc Ls (.int j :: .ref a :: rest)) := by
  obtain ⟨cl, A, i1, i2⟩ := F.load hj
  rw [hv] at i2
  exact Go.of (fun t q => X.laload hx (by rw [eT]; exact A.1) (State.isArrayOf_alike hZ.alike A.2.1) A.2.2 i1 i2 (g := mkF m pc Ls (.int j :: .ref a :: rest)) rfl rfl hd t q) kk
theorem Go.baload (X : Stand p l e R s m args below meth c T locs cells slots) (hx : p.tables.exec = Jvm.exec) (hZ : Z.Warmed39 s.vm) (eT : T.heap = h) (F : Arv Z h a k .byte z vs dv) (hj : ¬ j < 0 ∧ j < z) (hv : vs.getD j.toNatClampNeg dv = v) (hd : decode c.code pc = .ok (.baload, 1)) (kk : Go p e below Fi T (mkF m (pc + 1) Ls (v :: rest))) : Go p e below Fi T (mkF m pc Ls (.int j :: .ref a :: rest)) := by
  obtain ⟨cl, A, i1, i2⟩ := F.load hj
  rw [hv] at i2
  exact Go.of (fun t q => X.baloadBytes hx (by rw [eT]; exact A.1) (State.isArrayOf_alike hZ.alike A.2.1) A.2.2 i1 i2 (g := mkF m pc Ls (.int j :: .ref a :: rest)) rfl rfl hd t q) kk
theorem Go.caload (X : Stand p l e R s m args below meth c T locs cells slots) (hx : p.tables.exec = Jvm.exec) (hZ : Z.Warmed39 s.vm) (eT : T.heap = h) (F : Arv Z h a k .char z vs dv) (hj : ¬ j < 0 ∧ j < z) (hv : vs.getD j.toNatClampNeg dv = v) (hd : decode c.code pc = .ok (.caload, 1)) (kk : Go p e below Fi T (mkF m (pc + 1) Ls (v :: rest))) : Go p e below Fi T (mkF m pc Ls (.int j :: .ref a :: rest)) := by
  obtain ⟨cl, A, i1, i2⟩ := F.load hj
  rw [hv] at i2
  exact Go.of (fun t q => X.caload hx (by rw [eT]; exact A.1) (State.isArrayOf_alike hZ.alike A.2.1) A.2.2 i1 i2 (g := mkF m pc Ls (.int j :: .ref a :: rest)) rfl rfl hd t q) kk
theorem Go.aaload (X : Stand p l e R s m args below meth c T locs cells slots) (hx : p.tables.exec = Jvm.exec) (hZ : Z.Warmed39 s.vm) (eT : T.heap = h) (F : Arv Z h a k ty z vs dv) (hty : ty.isReference = true) (hj : ¬ j < 0 ∧ j < z) (hv : vs.getD j.toNatClampNeg dv = v) (hd : decode c.code pc = .ok (.aaload, 1)) (kk : Go p e below Fi T (mkF m (pc + 1) Ls (v :: rest))) : Go p e below Fi T (mkF m pc Ls (.int j :: .ref a :: rest)) := by
  obtain ⟨cl, A, i1, i2⟩ := F.load hj
  rw [hv] at i2
  exact Go.of (fun t q => X.aaload hx (by rw [eT]; exact A.1) (State.isArrayOf_alike hZ.alike A.2.1) hty A.2.2 i1 i2 (g := mkF m pc Ls (.int j :: .ref a :: rest)) rfl rfl hd t q) kk
theorem Go.daload (X : Stand p l e R s m args below meth c T locs cells slots) (hx : p.tables.exec = Jvm.exec) (hZ : Z.Warmed39 s.vm) (eT : T.heap = h) (F : Arv Z h a k .double z vs dv) (hj : ¬ j < 0 ∧ j < z) (hv : vs.getD j.toNatClampNeg dv = v) (hd : decode c.code pc = .ok (.daload, 1)) (kk : Go p e below Fi T (mkF m (pc + 1) Ls (v :: rest))) : Go p e below Fi T (mkF m pc Ls (.int j :: .ref a :: rest)) := by
  obtain ⟨cl, A, i1, i2⟩ := F.load hj
  rw [hv] at i2
  exact Go.of (fun t q => X.daload hx (by rw [eT]; exact A.1) (State.isArrayOf_alike hZ.alike A.2.1) A.2.2 i1 i2 (g := mkF m pc Ls (.int j :: .ref a :: rest)) rfl rfl hd t q) kk
theorem Go.dastore {x : UInt64} (X : Stand p l e R s m args below meth c T locs cells slots) (hx : p.tables.exec = Jvm.exec) (hZ : Z.Warmed39 s.vm) (eT : T.heap = h) (F : Arv Z h a k .double z vs dv) (hj : ¬ j < 0 ∧ j < z) (i : Nat) (hji : j.toNatClampNeg = i) (hi : i < vs.length) (hd : decode c.code pc = .ok (.dastore, 1))
    (kk : ∀ T' h', Stand p l e R s m args below meth c T' (locs ++ [⟨a, i⟩]) cells slots → T'.heap = h' → Wr h h' a i (.double x) → Arv Z h' a k .double z (vs.set i (.double x)) dv → Go p e below Fi T' (mkF m (pc + 1) Ls rest)) : Go p e below Fi T (mkF m pc Ls (.double x :: .int j :: .ref a :: rest)) := by
  obtain ⟨cl, A, q, S, M, H, G⟩ := F
  subst hji
  obtain ⟨T', h', X', e', W', st⟩ := stD X hx hZ eT A (inb_of S hj) (g := mkF m pc Ls (.double x :: .int j :: .ref a :: rest)) rfl rfl hd
  exact Go.of st (kk T' h' X' e' W' (Arv.set A q S M H G rfl W' _ rfl hi))
theorem Go.len (X : Stand p l e R s m args below meth c T locs cells slots) (hx : p.tables.exec = Jvm.exec) (hZ : Z.Warmed39 s.vm) (eT : T.heap = h) (F : Arv Z h a k ty z vs dv) (hd : decode c.code pc = .ok (.arraylength, 1)) (kk : Go p e below Fi T (mkF m (pc + 1) Ls (.int z :: rest))) : Go p e below Fi T (mkF m pc Ls (.ref a :: rest)) := by
  obtain ⟨cl, A, -, S, M, -, -⟩ := F
  exact Go.of (fun t q => X.arraylength hx (a := a) (cell := cl) (ty := ty) (by rw [eT]; exact A.1) (State.isArrayOf_alike hZ.alike A.2.1) (g := mkF m pc Ls (.ref a :: rest)) rfl (rest := rest) rfl hd t (by rw [len_of S M]; exact q)) kk
theorem Go.iastore (X : Stand p l e R s m args below meth c T locs cells slots) (hx : p.tables.exec = Jvm.exec) (hZ : Z.Warmed39 s.vm) (eT : T.heap = h) (F : Arv Z h a k .int z vs dv) (hj : ¬ j < 0 ∧ j < z) (i : Nat) (hji : j.toNatClampNeg = i) (hi : i < vs.length) (hd : decode c.code pc = .ok (.iastore, 1))
    (kk : ∀ T' h', Stand p l e R s m args below meth c T' (locs ++ [⟨a, i⟩]) cells slots → T'.heap = h' → Wr h h' a i (.int x) → Arv Z h' a k .int z (vs.set i (.int x)) dv → Go p e below Fi T' (mkF m (pc + 1) Ls rest)) : Go p e below Fi T (mkF m pc Ls (.int x :: .int j :: .ref a :: rest)) := by
  obtain ⟨cl, A, q, S, M, H, G⟩ := F
  subst hji
  obtain ⟨T', h', X', e', W', st⟩ := stI X hx hZ eT A (inb_of S hj) (g := mkF m pc Ls (.int x :: .int j :: .ref a :: rest)) rfl rfl hd
  exact Go.of st (kk T' h' X' e' W' (Arv.set A q S M H G rfl W' _ rfl hi))
theorem Go.lastore {x : Int64} (X : Stand p l e R s m args below meth c T locs cells slots) (hx : p.tables.exec = Jvm.exec) (hZ : Z.Warmed39 s.vm) (eT : T.heap = h) (F : Arv Z h a k .long z vs dv) (hj : ¬ j < 0 ∧ j < z) (i : Nat) (hji : j.toNatClampNeg = i) (hi : i < vs.length) (hd : decode c.code pc = .ok (.lastore, 1))
    (kk : ∀ T' h', Stand p l e R s m args below meth c T' (locs ++ [⟨a, i⟩]) cells slots → T'.heap = h' → Wr h h' a i (.long x) → Arv Z h' a k .long z (vs.set i (.long x)) dv → Go p e below Fi T' (mkF m (pc + 1) Ls rest)) : Go p e below Fi T (mkF m pc Ls (.long x :: .int j :: .ref a :: rest)) := by
  obtain ⟨cl, A, q, S, M, H, G⟩ := F
  subst hji
  obtain ⟨T', h', X', e', W', st⟩ := stJ X hx hZ eT A (inb_of S hj) (g := mkF m pc Ls (.long x :: .int j :: .ref a :: rest)) rfl rfl hd
  exact Go.of st (kk T' h' X' e' W' (Arv.set A q S M H G rfl W' _ rfl hi))
theorem Go.bastore (X : Stand p l e R s m args below meth c T locs cells slots) (hx : p.tables.exec = Jvm.exec) (hZ : Z.Warmed39 s.vm) (eT : T.heap = h) (F : Arv Z h a k .byte z vs dv) (hj : ¬ j < 0 ∧ j < z) (i : Nat) (hji : j.toNatClampNeg = i) (hi : i < vs.length) (hd : decode c.code pc = .ok (.bastore, 1))
    (kk : ∀ T' h', Stand p l e R s m args below meth c T' (locs ++ [⟨a, i⟩]) cells slots → T'.heap = h' → Wr h h' a i (.int (nar .byte x)) → Arv Z h' a k .byte z (vs.set i (.int (nar .byte x))) dv → Go p e below Fi T' (mkF m (pc + 1) Ls rest)) : Go p e below Fi T (mkF m pc Ls (.int x :: .int j :: .ref a :: rest)) := by
  obtain ⟨cl, A, q, S, M, H, G⟩ := F
  subst hji
  obtain ⟨T', h', X', e', W', st⟩ := stB X hx hZ eT A (inb_of S hj) (g := mkF m pc Ls (.int x :: .int j :: .ref a :: rest)) rfl rfl hd
  exact Go.of st (kk T' h' X' e' W' (Arv.set A q S M H G (fits_nar_byte _) W' _ rfl hi))
theorem Go.castore (X : Stand p l e R s m args below meth c T locs cells slots) (hx : p.tables.exec = Jvm.exec) (hZ : Z.Warmed39 s.vm) (eT : T.heap = h) (F : Arv Z h a k .char z vs dv) (hj : ¬ j < 0 ∧ j < z) (i : Nat) (hji : j.toNatClampNeg = i) (hi : i < vs.length) (hd : decode c.code pc = .ok (.castore, 1))
    (kk : ∀ T' h', Stand p l e R s m args below meth c T' (locs ++ [⟨a, i⟩]) cells slots → T'.heap = h' → Wr h h' a i (.int (nar .char x)) → Arv Z h' a k .char z (vs.set i (.int (nar .char x))) dv → Go p e below Fi T' (mkF m (pc + 1) Ls rest)) : Go p e below Fi T (mkF m pc Ls (.int x :: .int j :: .ref a :: rest)) := by
  obtain ⟨cl, A, q, S, M, H, G⟩ := F
  subst hji
  obtain ⟨T', h', X', e', W', st⟩ := stC X hx hZ eT A (inb_of S hj) (g := mkF m pc Ls (.int x :: .int j :: .ref a :: rest)) rfl rfl hd
  exact Go.of st (kk T' h' X' e' W' (Arv.set A q S M H G (fits_nar_char _) W' _ rfl hi))
theorem Go.newarr (X : Stand p l e R s m args below meth c T locs cells slots) (hx : p.tables.exec = Jvm.exec) (hZ : Z.Warmed39 s.vm) {aty : ArrayType} (w : (Cond.arrayClass (newarray.typeOf aty)).before a0 Z = true) (eT : T.heap = h) (cap : Nat) (hn : ¬ z < 0) (hcap : z.toNatClampNeg = cap) (hb : cap * 8 ≤ 536870912) (hc : cells + 1 ≤ R.cells) (hl : slots + cap ≤ R.slots) (hd : decode c.code pc = .ok (.newarray aty, 2))
    (kk : ∀ T' h' b k, b = h.size → Stand p l e R s m args below meth c T' locs (cells + 1) (slots + cap) → T'.heap = h' → Ext h h' → Arv Z h' b k (newarray.typeOf aty) z (List.replicate cap (defaultValue (newarray.typeOf aty))) (defaultValue (newarray.typeOf aty)) → Go p e below Fi T' (mkF m (pc + 2) Ls (.ref b :: rest))) : Go p e below Fi T (mkF m pc Ls (.int z :: rest)) := by
  obtain ⟨T', h', kA, X', e', E', A', st⟩ := newP X hx hZ w eT (g := mkF m pc Ls (.int z :: rest)) rfl hd rfl hn (cap := cap) (Nat.le_of_eq hcap) hb hc hl
  exact Go.of st (kk T' h' _ kA rfl X' e' E' ((Arv.new A' hn).pad (pad_rep [] _ cap)))
theorem Go.newarrE (X : Stand p l e R s m args below meth c T locs cells slots) (hx : p.tables.exec = Jvm.exec) (hZ : Z.Warmed39 s.vm) {aty : ArrayType} {ad : String} (had : "[" ++ (newarray.typeOf aty).toString = ad) (w : (Cond.arrayClass (newarray.typeOf aty)).before a0 Z = true) (eT : T.heap = h) (cap : Nat) (hn : ¬ z < 0) (hcap : z.toNatClampNeg = cap) (hb : cap * 8 ≤ 536870912) (hc : cells + 1 ≤ R.cells) (hl : slots + cap ≤ R.slots) (hd : decode c.code pc = .ok (.newarray aty, 2))
    (kk : ∀ T' h' b k, b = h.size → Stand p l e R s m args below meth c T' locs (cells + 1) (slots + cap) → T'.heap = h' → Ext h h' → Arv Z h' b k (newarray.typeOf aty) z (List.replicate cap (defaultValue (newarray.typeOf aty))) (defaultValue (newarray.typeOf aty)) → Exa Z h' b ad → Go p e below Fi T' (mkF m (pc + 2) Ls (.ref b :: rest))) : Go p e below Fi T (mkF m pc Ls (.int z :: rest)) := by
  obtain ⟨T', h', kA, X', e', E', A', EA, st⟩ := newPE X hx hZ w eT (g := mkF m pc Ls (.int z :: rest)) rfl hd rfl hn (cap := cap) (Nat.le_of_eq hcap) hb hc hl had
  exact Go.of st (kk T' h' _ kA rfl X' e' E' ((Arv.new A' hn).pad (pad_rep [] _ cap)) EA)
theorem Go.clone (X : Stand p l e R s m args below meth c T locs cells slots) (hx : p.tables.exec = Jvm.exec) (hZ : Z.Warmed39 s.vm) {ad : String} (hown : s.vm.findClass own = some m.cls)
    (w1 : (Cond.methodLink own index ⟨ad, "clone", "()Ljava/lang/Object;"⟩).before a0 Z = true) (w2 : (Cond.sameMethod ad "java/lang/Object" "clone" "()Ljava/lang/Object;").before a0 Z = true) (w3 : (Cond.native ⟨"java/lang/Object", "clone", "()Ljava/lang/Object;"⟩).before a0 Z = true)
    (w4 : (Cond.instanceMethod ⟨"java/lang/Object", "clone", "()Ljava/lang/Object;"⟩).before a0 Z = true) (w5 : (Cond.selects ad ⟨ad, "clone", "()Ljava/lang/Object;"⟩ ⟨"java/lang/Object", "clone", "()Ljava/lang/Object;"⟩).before a0 Z = true) (w6 : (Cond.castable ad "java/lang/Cloneable").before a0 Z = true)
    (eT : T.heap = h) (F : Arv Z h a k ty z vs dv) (E : Exa Z h a ad) (hsize : Ls.size = c.maxLocals) (hd : decode c.code pc = .ok (.invokevirtual index, 3)) (hf : 1 ≤ R.frames) {W cap : Nat} (hW : (rest.map fun v => v.category).sum ≤ W) (hl : W + 14 ≤ R.locals) (hcap : z.toNatClampNeg ≤ cap) (hc : cells + 1 ≤ R.cells) (hsl : slots + cap ≤ R.slots)
    (kk : ∀ T' h' b, b = h.size → Stand p l e R s m args below meth c T' locs (cells + 1) (slots + cap) → T'.heap = h' → Ext h h' → Arv Z h' b k ty z vs dv → Exa Z h' b ad → Go p e below Fi T' (mkF m (pc + 3) Ls (.ref b :: rest))) : Go p e below Fi T (mkF m pc Ls (.ref a :: rest)) := by
  obtain ⟨cl, A, q1, S, q3, H, G⟩ := F
  have FC : FitC Z cl := fitC_of A fun i hi v hv => by rw [H i hi] at hv; cases hv; exact G i hi
  obtain ⟨T', h', X', e', ex, A', E', st⟩ := cloneA X hx hZ hown w1 w2 w3 w4 w5 w6 eT A E FC (g := mkF m pc Ls (.ref a :: rest)) rfl hsize rfl hd hf (by show 2 * 0 + _ ≤ W; omega) hl (by rw [S]; exact hcap) hc hsl
  exact Go.of st (kk T' h' _ rfl X' e' ex ⟨cloneOf cl, A', q1, S, q3, H, G⟩ E')
theorem Go.castTo (X : Stand p l e R s m args below meth c T locs cells slots) (hx : p.tables.exec = Jvm.exec) (hZ : Z.Warmed39 s.vm) (hown : s.vm.findClass own = some m.cls) {K : String} (w : (Cond.classLink own index K).before a0 Z = true) (eT : T.heap = h) (I : Ins Z h a K true) (hd : decode c.code pc = .ok (.checkcast index, 3))
    (kk : ∀ T', Stand p l e R s m args below meth c T' locs cells slots → T'.heap = h → Go p e below Fi T' (mkF m (pc + 3) Ls (.ref a :: rest))) : Go p e below Fi T (mkF m pc Ls (.ref a :: rest)) := by
  obtain ⟨T', X', e', st⟩ := castY X hx hZ hown w eT I (g := mkF m pc Ls (.ref a :: rest)) rfl rfl hd
  exact Go.of st (kk T' X' e')
theorem Go.new (X : Stand p l e R s m args below meth c T locs cells slots) (hx : p.tables.exec = Jvm.exec) (hZ : Z.Warmed39 s.vm) (hown : s.vm.findClass own = some m.cls) (w : (Cond.classLink own index C).before a0 Z = true) (wi : (Cond.instantiable C nn).before a0 Z = true) (wz : (Cond.initialized C).before a0 Z = true) (eT : T.heap = h) (hd : decode c.code pc = .ok (.new index, 3)) (hc : cells + 1 ≤ R.cells) (hl : slots + nn ≤ R.slots)
    (kk : ∀ T' h' b, b = h.size → Stand p l e R s m args below meth c T' locs (cells + 1) (slots + nn) → T'.heap = h' → Ext h h' → Exa Z h' b C → (∀ {O nm d : String} {ty : FieldType}, Laid Z a0 C O nm d → parseFieldDescriptor d = some ty → Fld Z h' b O nm d (defaultValue ty)) → Go p e below Fi T' (mkF m (pc + 3) Ls (.ref b :: st))) : Go p e below Fi T (mkF m pc Ls st) := by
  obtain ⟨T', h', X', e', E', A', D', -, stp⟩ := newO X hx hZ hown w wi wz eT (g := mkF m pc Ls st) rfl hd hc hl
  exact Go.of stp (kk T' h' _ rfl X' e' E' A' D')
theorem Go.getf (X : Stand p l e R s m args below meth c T locs cells slots) (hx : p.tables.exec = Jvm.exec) (hZ : Z.Warmed39 s.vm) (hown : s.vm.findClass own = some m.cls) {R0 : String} (w : (Cond.fieldLink own index R0 n d).before a0 Z = true) (via : Via Z R0 O n d) (eT : T.heap = h) (F : Fld Z h a O n d v) (hd : decode c.code pc = .ok (.getfield index, 3))
    (kk : ∀ T', Stand p l e R s m args below meth c T' locs cells slots → T'.heap = h → Go p e below Fi T' (mkF m (pc + 3) Ls (v :: rest))) : Go p e below Fi T (mkF m pc Ls (.ref a :: rest)) := by
  obtain ⟨T', X', e', st⟩ := getF X hx hZ hown (host := "") (Or.inl w) via eT F (g := mkF m pc Ls (.ref a :: rest)) rfl rfl hd
  exact Go.of st (kk T' X' e')
theorem Go.gets (X : Stand p l e R s m args below meth c T locs cells slots) (hx : p.tables.exec = Jvm.exec) (hZ : Z.Warmed39 s.vm) (hown : s.vm.findClass own = some m.cls) {R0 : String} (w : (Cond.fieldLink own index R0 n d).before a0 Z = true) (via : Via Z R0 O n d) (eT : T.heap = h) (F : Sta Z h O n d v) (hd : decode c.code pc = .ok (.getstatic index, 3))
    (kk : ∀ T', Stand p l e R s m args below meth c T' locs cells slots → T'.heap = h → Go p e below Fi T' (mkF m (pc + 3) Ls (v :: st))) : Go p e below Fi T (mkF m pc Ls st) := by
  obtain ⟨T', X', e', stp⟩ := getS2 X hx hZ hown (host := "") (Or.inl w) via eT F (g := mkF m pc Ls st) rfl hd
  exact Go.of stp (kk T' X' e')
theorem Go.putf (X : Stand p l e R s m args below meth c T locs cells slots) (hx : p.tables.exec = Jvm.exec) (hZ : Z.Warmed39 s.vm) (hown : s.vm.findClass own = some m.cls) {R0 : String} (w : (Cond.fieldLink own index R0 n d).before a0 Z = true) (via : Via Z R0 O n d) (eT : T.heap = h) {old : Value} (F : Fld Z h a O n d old) (E : Exa Z h a C) (L : (Cond.lays C O n d).before a0 Z = true ∨ ((Cond.laysFinal C O n d).before a0 Z = true ∧ own = O ∧ meth.name = "<init>")) (wi : (Cond.instantiable C nn).before a0 Z = true) (hty : parseFieldDescriptor d = some ty) {v' : Value} (hn : narrow ty v = v') (hf : fits ty v' = true) (hd : decode c.code pc = .ok (.putfield index, 3))
    (kk : ∀ T' h', Stand p l e R s m args below meth c T' (locs ++ [⟨a, slotOf Z O n d⟩]) cells slots → T'.heap = h' → Wr h h' a (slotOf Z O n d) v' → Fld Z h' a O n d v' → Exa Z h' a C → Go p e below Fi T' (mkF m (pc + 3) Ls rest)) : Go p e below Fi T (mkF m pc Ls (v :: .ref a :: rest)) := by
  obtain ⟨T', h', X', e', W', st⟩ := putFN X hx hZ hown w via eT F E L wi hty hn hf (g := mkF m pc Ls (v :: .ref a :: rest)) rfl rfl hd
  exact Go.of st (kk T' h' X' e' W' (F.same W') (E.wr W'))
theorem Go.initObj (X : Stand p l e R s m args below meth c T locs cells slots) (hx : p.tables.exec = Jvm.exec) (hZ : Z.Warmed39 s.vm) (hown : s.vm.findClass own = some m.cls) (w1 : (Cond.methodLink own index Lib.objectInit).before a0 Z = true) (w2 : (Cond.instanceMethod Lib.objectInit).before a0 Z = true) (w3 : (Cond.code Lib.objectInit ⟨#[0xb1]⟩ 1 none).before a0 Z = true) (eT : T.heap = h) (hsize : Ls.size = c.maxLocals) (hd : decode c.code pc = .ok (.invokespecial index, 3)) (hf : 1 ≤ R.frames) {W : Nat} (hW : (rest.map fun v => v.category).sum ≤ W) (hl : W + 12 ≤ R.locals)
    (kk : ∀ T', Stand p l e R s m args below meth c T' locs cells slots → T'.heap = h → Go p e below Fi T' (mkF m (pc + 3) Ls rest)) : Go p e below Fi T (mkF m pc Ls (.ref a :: rest)) := by
  obtain ⟨T', X', e', st⟩ := initO X hx hZ hown w1 w2 w3 eT (g := mkF m pc Ls (.ref a :: rest)) rfl hsize rfl hd hf (W := W) (by show 2 * 0 + _ ≤ _; omega) hl
  exact Go.of st (kk T' X' e')
end Heaping
end Jvm.RoadKit
namespace Jvm.RoadKit
open Sem ClassFile Op Lib Jvm.Stand Jvm.Free Jvm.LawKit
section Wide
variable {p : Program} {l : Launch} {e : Env} {R : Room} {s : State} {vm0 : Vm} {m : MethodId} {args : Array Value} {below : List Frame} {meth : Method} {c : Code} {T : State} {locs : List Loc} {cells slots : Nat} {K N k0 : Nat} {Q : Option Value → Heap → List Loc → Prop} {F : Option Value → State → Prop} {Z : State} {a0 : Array Value} {h : Heap}
/-- what is said of an end where Strings may have been interned -/
def GoEndW (s : State) (K N : Nat) (Q : Option Value → Heap → List Loc → Prop) (v : Option Value) (t : State) : Prop := ∃ L, Q v t.heap L ∧ ReturnedEndW s (.returned v) t L K N
abbrev MetAtW (l : Launch) (Z : State) (y : MethodName) (bytes : ByteArray) (maxL : Nat) (ret : Option FieldType) (rm : Room) (as' : Array Value) (h : Heap) (Q : Option Value → Heap → List Loc → Prop) : Prop :=
  MetFree l y (head1 [Cond.code y bytes maxL ret] rm) (fun a U => a = as' ∧ Z.Warmed39 U.vm ∧ U.heap = h) (fun _ _ _ _ _ => True) (fun _ U o U' => ∃ v L, o = .returned v ∧ Q v U'.heap L ∧ ReturnedEndW U o U' L rm.cells rm.slots)
theorem goBodyW {y : MethodName} {bytes : ByteArray} {maxL : Nat} {ret : Option FieldType} {ws : List Cond} {rm : Room} {as' : Array Value} (hp : plainFor y = true)
    (body : ∀ p e s m below meth c s₁, p.tables.exec = Jvm.exec → Z.Warmed39 s.vm → c.code = bytes → c.maxLocals = maxL → s.vm.findClass y.cls = some m.cls → meth.name = y.name → meth.sig.returnType = ret → meth.locks = false →
      Stand p l e rm (s.setVm s.vm) m as' below meth c s₁ [] 0 0 → s₁.heap = h → s.Since s.vm 0 → Go p e below (GoEndW s rm.cells rm.slots Q) s₁ (entryFrame m as' maxL)) :
    MetFree l y (head1 (Cond.code y bytes maxL ret :: ws) rm) (fun a U => a = as' ∧ Z.Warmed39 U.vm ∧ U.heap = h) (fun _ _ _ _ _ => True) (fun _ U o U' => ∃ v L, o = .returned v ∧ Q v U'.heap L ∧ ReturnedEndW U o U' L rm.cells rm.slots) := by
  refine MetFree.of_bodySF hp hisR ?_
  intro p e s m args below meth c s₁ Bd hml hP hK
  obtain ⟨rfl, hZ, hh⟩ := hP
  obtain ⟨s₂, o, h1, h2, h3, v, rfl, L, h4, h5⟩ := body p e s m below meth c s₁ Bd.exec hZ Bd.bytes hml (findClass_of_methodNamed Bd.named) (name_of_methodNamed Bd.named Bd.method).1 Bd.returns Bd.notSynchronized (Stand.of_body Bd) (by rw [← hh, Bd.state]; rfl) ((State.WarmedH.refl s).since 0)
  exact ⟨s₂, _, h1, h2, h3, v, L, rfl, h4, h5⟩
theorem endW_mono {s t : State} {o : Outcome} {L : List Loc} {k n k' n' : Nat} (hE : ReturnedEndW s o t L k n) (hk : k ≤ k') (hn : n ≤ n') : ReturnedEndW s o t L k' n' := ⟨hE.1, hE.2.1, hE.2.2.1, hE.2.2.2.mono hk hn⟩
theorem Go.retNW (X : Stand p l e R (s.setVm vm0) m args below meth c T locs cells slots) (hx : p.tables.exec = Jvm.exec) (hS : s.Since vm0 k0) (hk : k0 ≤ T.heap.size) (hlk : meth.locks = false) {pc : Nat} {Ls : Array Slot} {z : Int32} {t : FieldType} {rest : List Value} (hret : meth.sig.returnType = some t) (ht : t = .boolean ∨ t = .byte ∨ t = .char ∨ t = .short) (hd : decode c.code pc = .ok (.ireturn, 1)) (hK : cells ≤ K) (hN : slots ≤ N) (hq : Q (some (.int (nar t z))) T.heap locs) : Go p e below (GoEndW s K N Q) T (mkF m pc Ls (.int z :: rest)) := by
  obtain ⟨fs, hr, hrun, hended, hE⟩ := X.leaveW hS hk (v := some (.int (nar t z))) (fun h => by rw [hret] at h; cases h) hlk
  exact ⟨_, _, Jvm.RoadKit.retN X hx (t := t) hret ht hd hr, hrun, hended, _, rfl, _, hq, endW_mono hE hK hN⟩
theorem Go.retAW (X : Stand p l e R (s.setVm vm0) m args below meth c T locs cells slots) (hx : p.tables.exec = Jvm.exec) (hS : s.Since vm0 k0) (hk : k0 ≤ T.heap.size) (hlk : meth.locks = false) {pc : Nat} {Ls : Array Slot} {v : Value} {t : FieldType} {rest : List Value} (hret : meth.sig.returnType = some t) (ht : t.isReference = true) (hv : v.isRef = true) (hn : narrow t v = v) (hd : decode c.code pc = .ok (.areturn, 1)) (hK : cells ≤ K) (hN : slots ≤ N) (hq : Q (some v) T.heap locs) : Go p e below (GoEndW s K N Q) T (mkF m pc Ls (v :: rest)) := by
  obtain ⟨fs, hr, hrun, hended, hE⟩ := X.leaveW hS hk (v := some v) (fun h => by rw [hret] at h; cases h) hlk
  exact ⟨_, _, retOut X hx (t := t) (i := .areturn) hret hn (Or.inr (Or.inr (Or.inr (Or.inr ⟨rfl, ht, hv⟩)))) hd hr, hrun, hended, _, rfl, _, hq, endW_mono hE hK hN⟩
theorem Go.retVW (X : Stand p l e R (s.setVm vm0) m args below meth c T locs cells slots) (hx : p.tables.exec = Jvm.exec) (hS : s.Since vm0 k0) (hk : k0 ≤ T.heap.size) (hlk : meth.locks = false) {pc : Nat} {Ls : Array Slot} (hret : meth.sig.returnType = none) (hd : decode c.code pc = .ok (.return_, 1)) (hK : cells ≤ K) (hN : slots ≤ N) (hq : Q none T.heap locs) : Go p e below (GoEndW s K N Q) T (mkF m pc Ls []) := by
  obtain ⟨fs, hr, hrun, hended, hE⟩ := X.leaveW hS hk (v := none) (fun _ => rfl) hlk
  exact ⟨_, _, X.returnOut hx hret hd hr, hrun, hended, _, rfl, _, hq, endW_mono hE hK hN⟩
variable {own : String} {index : Nat} {y z : MethodName} {bytes : ByteArray} {maxL W pc : Nat} {ret : Option FieldType} {rm : Room} {Qc : Option Value → Heap → List Loc → Prop} {argsL rest st : List Value} {Ls : Array Slot}
theorem Go.ldcS (X : Stand p l e R (s.setVm vm0) m args below meth c T locs cells slots) (hx : p.tables.exec = Jvm.exec) (hZ : Z.Warmed39 vm0) (hown : vm0.findClass own = some m.cls) {text : String} (w : (Cond.stringLink own index text).before a0 Z = true) (wS : ∀ a ∈ Bundle.stringAtoms, a.before a0 Z = true) (eT : T.heap = h) (hS : s.Since vm0 k0) (hk : k0 ≤ h.size) (hd : decode c.code pc = .ok (.ldc index, 2)) (n : Nat) (hn : 4 * text.toList.length ≤ n) (hbig : n ≤ 536870912) (hc : cells + 2 ≤ R.cells) (hl : slots + (n + 4) ≤ R.slots)
    (kk : ∀ a T' h' k1, Stand p l e R (s.setVm T'.vm) m args below meth c T' locs (cells + 2) (slots + (n + 4)) → T'.heap = h' → Ext h h' → s.Since T'.vm k1 → k1 ≤ h'.size → Z.Warmed39 T'.vm → T'.vm.findClass own = some m.cls → Go p e below F T' (mkF m (pc + 2) Ls (.ref a :: st))) : Go p e below F T (mkF m pc Ls st) := by
  obtain ⟨a, T', h', k1, X', e', E', hS', hk', hZ', hown', stp⟩ := Jvm.RoadKit.ldcS X hx hZ hown w wS eT hS hk (g := mkF m pc Ls st) rfl hd hn hbig hc hl
  exact Go.of stp (kk a T' h' k1 X' e' E' hS' hk' hZ' hown')
theorem backOfW {len : Nat} {as' : Array Value} (hM : MetAtW l Z y bytes maxL ret rm as' h Qc) (hZ : Z.Warmed39 s.vm) (wc : (Cond.code y bytes maxL ret).before a0 Z = true) (wz : (Cond.initialized y.cls).before a0 Z = true) (hf : rm.frames + 1 ≤ R.frames) (hl : W + (maxL + 11) + rm.locals ≤ R.locals) :
    BackS l R p e below s args y len W (fun A a => a = as' ∧ A.U.heap = h ∧ A.cells + rm.cells ≤ R.cells ∧ A.slots + rm.slots ≤ R.slots)
      (fun A _ v B => ∃ L, Qc v B.U.heap L ∧ B.locs = A.locs ++ L ∧ B.cells = A.cells + rm.cells ∧ B.slots = A.slots + rm.slots) :=
  BackS.of_freeW (bytes := bytes) (maxL := maxL) (ret := ret) (E := fun _ _ o t L k n => k = rm.cells ∧ n = rm.slots ∧ ∃ v, o = .returned v ∧ Qc v t.heap L) hM hf hl
    (fun m meth c A a Y hp => have hU : Z.Warmed39 A.U.vm := wtrans hZ Y.warmed
      ⟨by show (Cond.and _ .tt).before a A.U = true; rw [Cond.before_and, mv hU wc]; rfl, mv hU wc, mv hU wz, hp.2.2.1, hp.2.2.2⟩)
    (fun m meth c A a g mk Y hp => ⟨hp.1, wtrans hZ Y.warmed, hp.2.1⟩) (fun _ _ _ _ _ _ _ _ _ => trivial)
    (fun _ _ _ _ ⟨v, L, h1, h2, h3⟩ => ⟨L, _, _, h3, rfl, rfl, v, h1, h2⟩)
    (fun m meth c A a g mk v t L k n Y hp _ _ ⟨e1, e2, v', e3, e4⟩ => by cases e3; subst e1 e2; exact ⟨L, e4, rfl, rfl, rfl⟩)
theorem Go.callIW (X : Stand p l e R (s.setVm vm0) m args below meth c T locs cells slots) (hx : p.tables.exec = Jvm.exec) (hZ : Z.Warmed39 vm0) (hy1 : y.name = "<init>") (hown : vm0.findClass own = some m.cls)
    (wl : (Cond.methodLink own index y).before a0 Z = true) (wi : (Cond.instanceMethod y).before a0 Z = true) (wz : (Cond.initialized y.cls).before a0 Z = true) (wc : (Cond.code y bytes maxL none).before a0 Z = true)
    (hy : y.cls ≠ "java/lang/invoke/MethodHandle" ∧ y.cls ≠ "java/lang/invoke/VarHandle") {a : Addr} (hM : MetAtW l Z y bytes maxL none rm (.ref a :: argsL).toArray h Qc) (eT : T.heap = h) (hS : s.Since vm0 k0) (hk : k0 ≤ h.size) (hsize : Ls.size = c.maxLocals)
    (hlen : ∀ sig, parseMethodDescriptor y.desc = some sig → argsL.length = sig.parameters.length) (hd : decode c.code pc = .ok (.invokespecial index, 3)) (hst : st = argsL.reverse ++ .ref a :: rest)
    (hW : (rest.map fun v => v.category).sum ≤ W) (hf : rm.frames + 1 ≤ R.frames) (hl : W + (maxL + 11) + rm.locals ≤ R.locals) (hc : cells + rm.cells ≤ R.cells) (hs : slots + rm.slots ≤ R.slots)
    (kk : ∀ v T' L', Stand p l e R (s.setVm T'.vm) m args below meth c T' (locs ++ L') (cells + rm.cells) (slots + rm.slots) → s.Since T'.vm T'.heap.size → Z.Warmed39 T'.vm → T'.vm.findClass own = some m.cls → Qc v T'.heap L' → Go p e below F T' (mkF m (pc + 3) Ls (v.toList ++ rest))) : Go p e below F T (mkF m pc Ls st) := by
  have hZ' : Z.Warmed39 (s.setVm vm0).vm := hZ
  obtain ⟨v, vm₁, ⟨T', L', k', n'⟩, -, X', hS', hgr, ⟨Lc, hQ, l1, y1, z1⟩, stp⟩ := X.specialBackS hx hy1 hown (mvT hZ' wl) (mvT hZ' wi) (mvT hZ' wc) hy (backOfW (W := W) hM hZ' wc wz hf hl) (g := mkF m pc Ls st) rfl hsize (Steps.refl _) (a := a) hlen hst (by show 2 * 0 + _ ≤ _; omega) hd (fun _ _ => ⟨rfl, eT, hc, hs⟩)
  dsimp only [Pt.U, Pt.locs, Pt.cells, Pt.slots] at X' l1 y1 z1 stp hQ hS' hgr
  subst l1 y1 z1
  exact Go.via stp (kk v T' Lc X' (hS.trans hS' (Nat.le_trans hk (by rw [← eT]; exact hgr))) (State.Warmed39.trans (t := s.setVm vm0) hZ' hS'.1) (by rw [hS'.1.alike.findClass]; exact hown) hQ)
theorem Go.callVW (X : Stand p l e R (s.setVm vm0) m args below meth c T locs cells slots) (hx : p.tables.exec = Jvm.exec) (hZ : Z.Warmed39 vm0) (hown : vm0.findClass own = some m.cls) {C : String}
    (wl : (Cond.methodLink own index y).before a0 Z = true) (wd : (Cond.declares y).before a0 Z = true) (hnf : NotFace (s.setVm vm0) y) (wse : (Cond.selects C y z).before a0 Z = true) (wi : (Cond.instanceMethod z).before a0 Z = true) (wz : (Cond.initialized z.cls).before a0 Z = true) (wc : (Cond.code z bytes maxL ret).before a0 Z = true)
    (hy : y.cls ≠ "java/lang/invoke/MethodHandle" ∧ y.cls ≠ "java/lang/invoke/VarHandle") {a : Addr} (hM : MetAtW l Z z bytes maxL ret rm (.ref a :: argsL).toArray h Qc) (eT : T.heap = h) (hE : Exa Z h a C) (hS : s.Since vm0 k0) (hk : k0 ≤ h.size) (hsize : Ls.size = c.maxLocals)
    (hlen : ∀ sig, parseMethodDescriptor y.desc = some sig → argsL.length = sig.parameters.length) (hd : decode c.code pc = .ok (.invokevirtual index, 3)) (hst : st = argsL.reverse ++ .ref a :: rest)
    (hW : (rest.map fun v => v.category).sum ≤ W) (hf : rm.frames + 1 ≤ R.frames) (hl : W + (maxL + 11) + rm.locals ≤ R.locals) (hc : cells + rm.cells ≤ R.cells) (hs : slots + rm.slots ≤ R.slots)
    (kk : ∀ v T' L', Stand p l e R (s.setVm T'.vm) m args below meth c T' (locs ++ L') (cells + rm.cells) (slots + rm.slots) → s.Since T'.vm T'.heap.size → Z.Warmed39 T'.vm → T'.vm.findClass own = some m.cls → Qc v T'.heap L' → Go p e below F T' (mkF m (pc + 3) Ls (v.toList ++ rest))) : Go p e below F T (mkF m pc Ls st) := by
  have hZ' : Z.Warmed39 (s.setVm vm0).vm := hZ
  obtain ⟨cq, kq, q1, q2, q3⟩ := isOf hZ' eT hE
  obtain ⟨v, vm₁, ⟨T', L', k', n'⟩, -, X', hS', hgr, ⟨Lc, hQ, l1, y1, z1⟩, stp⟩ := X.virtualBackS hx (y := y) (z := z) hown (mvT hZ' wl) (mvT hZ' wd) hnf (mvT hZ' wse) (mvT hZ' wi) hy (backOfW (W := W) hM hZ' wc wz hf hl) q1 q3 (g := mkF m pc Ls st) rfl hsize (Steps.refl _) hlen hst (by show 2 * 0 + _ ≤ _; omega) hd (fun _ _ => ⟨rfl, eT, hc, hs⟩)
  dsimp only [Pt.U, Pt.locs, Pt.cells, Pt.slots] at X' l1 y1 z1 stp hQ hS' hgr
  subst l1 y1 z1
  exact Go.via stp (kk v T' Lc X' (hS.trans hS' (Nat.le_trans hk (by rw [← eT]; exact hgr))) (State.Warmed39.trans (t := s.setVm vm0) hZ' hS'.1) (by rw [hS'.1.alike.findClass]; exact hown) hQ)
end Wide
end Jvm.RoadKit
namespace Jvm.RoadKit
open Sem ClassFile Op Lib Jvm.Stand Jvm.Free Jvm.LawKit
section HeldGo
variable {p : Program} {l : Launch} {e : Env} {R : Room} {s : State} {vm0 : Vm} {m : MethodId} {args : Array Value} {below : List Frame} {meth : Method} {c : Code} {T : State} {locs : List Loc} {cells slots : Nat} {K N k0 : Nat} {Q : Option Value → Heap → List Loc → Prop} {F : Option Value → State → Prop} {Z : State} {a0 : Array Value} {h hs : Heap} {EL : List (String × Nat)}
/-- what is said of an end where Strings may have been read -/
def GoEndH (Z : State) (EL : List (String × Nat)) (s : State) (K N : Nat) (Q : Option Value → Heap → List Loc → Prop) (v : Option Value) (t : State) : Prop := ∃ L, Q v t.heap L ∧ CHr Z EL s.vm s.heap t.vm t.heap ∧ ReturnedEndW s (.returned v) t L K N
abbrev MetAtH (l : Launch) (Z : State) (EL : List (String × Nat)) (y : MethodName) (bytes : ByteArray) (maxL : Nat) (ret : Option FieldType) (rm : Room) (as' : Array Value) (h : Heap) (Q : Option Value → Heap → List Loc → Prop) : Prop :=
  MetFree l y (head1 [Cond.code y bytes maxL ret] rm) (fun a U => a = as' ∧ Z.Warmed39 U.vm ∧ U.heap = h ∧ CHv Z EL U.vm h) (fun _ _ _ _ _ => True) (fun _ U o U' => ∃ v L, o = .returned v ∧ Q v U'.heap L ∧ CHr Z EL U.vm U.heap U'.vm U'.heap ∧ ReturnedEndW U o U' L rm.cells rm.slots)
theorem goBodyH {y : MethodName} {bytes : ByteArray} {maxL : Nat} {ret : Option FieldType} {ws : List Cond} {rm : Room} {as' : Array Value} (hp : plainFor y = true)
    (body : ∀ p e s m below meth c s₁, p.tables.exec = Jvm.exec → Z.Warmed39 s.vm → c.code = bytes → c.maxLocals = maxL → s.vm.findClass y.cls = some m.cls → meth.name = y.name → meth.sig.returnType = ret → meth.locks = false →
      Stand p l e rm (s.setVm s.vm) m as' below meth c s₁ [] 0 0 → s₁.heap = h → s.Since s.vm 0 → s.heap = h → CHr Z EL s.vm h s.vm h → Go p e below (GoEndH Z EL s rm.cells rm.slots Q) s₁ (entryFrame m as' maxL)) :
    MetFree l y (head1 (Cond.code y bytes maxL ret :: ws) rm) (fun a U => a = as' ∧ Z.Warmed39 U.vm ∧ U.heap = h ∧ CHv Z EL U.vm h) (fun _ _ _ _ _ => True) (fun _ U o U' => ∃ v L, o = .returned v ∧ Q v U'.heap L ∧ CHr Z EL U.vm U.heap U'.vm U'.heap ∧ ReturnedEndW U o U' L rm.cells rm.slots) := by
  refine MetFree.of_bodySF hp hisR ?_
  intro p e s m args below meth c s₁ Bd hml hP hK
  obtain ⟨rfl, hZ, hh, hC⟩ := hP
  obtain ⟨s₂, o, h1, h2, h3, v, rfl, L, h4, h5, h6⟩ := body p e s m below meth c s₁ Bd.exec hZ Bd.bytes hml (findClass_of_methodNamed Bd.named) (name_of_methodNamed Bd.named Bd.method).1 Bd.returns Bd.notSynchronized (Stand.of_body Bd) (by rw [← hh, Bd.state]; rfl) ((State.WarmedH.refl s).since 0) hh (CHr.refl hC)
  exact ⟨s₂, _, h1, h2, h3, v, L, rfl, h4, h5, h6⟩
theorem endCH (X : Stand p l e R (s.setVm vm0) m args below meth c T locs cells slots) (hZ : Z.Warmed39 vm0) (hEL : EW Z a0 EL) (hs0 : s.heap = hs) (eT : T.heap = h) (hC : CHr Z EL s.vm hs vm0 h) : CHr Z EL s.vm s.heap T.vm T.heap := by
  subst hs0 eT; exact hC.trans (CHv.at X hZ hEL hC.1)
theorem Go.retNH (X : Stand p l e R (s.setVm vm0) m args below meth c T locs cells slots) (hx : p.tables.exec = Jvm.exec) (hZ : Z.Warmed39 vm0) (hEL : EW Z a0 EL) (hs0 : s.heap = hs) (eT : T.heap = h) (hC : CHr Z EL s.vm hs vm0 h) (hS : s.Since vm0 k0) (hk : k0 ≤ T.heap.size) (hlk : meth.locks = false) {pc : Nat} {Ls : Array Slot} {z : Int32} {t : FieldType} {rest : List Value} (hret : meth.sig.returnType = some t) (ht : t = .boolean ∨ t = .byte ∨ t = .char ∨ t = .short) (hd : decode c.code pc = .ok (.ireturn, 1)) (hK : cells ≤ K) (hN : slots ≤ N) (hq : Q (some (.int (nar t z))) T.heap locs) : Go p e below (GoEndH Z EL s K N Q) T (mkF m pc Ls (.int z :: rest)) := by
  obtain ⟨fs, hr, hrun, hended, hE⟩ := X.leaveW hS hk (v := some (.int (nar t z))) (fun h => by rw [hret] at h; cases h) hlk
  exact ⟨_, _, Jvm.RoadKit.retN X hx (t := t) hret ht hd hr, hrun, hended, _, rfl, _, hq, endCH (T := T) X hZ hEL hs0 eT hC, endW_mono hE hK hN⟩
theorem Go.retAH (X : Stand p l e R (s.setVm vm0) m args below meth c T locs cells slots) (hx : p.tables.exec = Jvm.exec) (hZ : Z.Warmed39 vm0) (hEL : EW Z a0 EL) (hs0 : s.heap = hs) (eT : T.heap = h) (hC : CHr Z EL s.vm hs vm0 h) (hS : s.Since vm0 k0) (hk : k0 ≤ T.heap.size) (hlk : meth.locks = false) {pc : Nat} {Ls : Array Slot} {v : Value} {t : FieldType} {rest : List Value} (hret : meth.sig.returnType = some t) (ht : t.isReference = true) (hv : v.isRef = true) (hn : narrow t v = v) (hd : decode c.code pc = .ok (.areturn, 1)) (hK : cells ≤ K) (hN : slots ≤ N) (hq : Q (some v) T.heap locs) : Go p e below (GoEndH Z EL s K N Q) T (mkF m pc Ls (v :: rest)) := by
  obtain ⟨fs, hr, hrun, hended, hE⟩ := X.leaveW hS hk (v := some v) (fun h => by rw [hret] at h; cases h) hlk
  exact ⟨_, _, retOut X hx (t := t) (i := .areturn) hret hn (Or.inr (Or.inr (Or.inr (Or.inr ⟨rfl, ht, hv⟩)))) hd hr, hrun, hended, _, rfl, _, hq, endCH (T := T) X hZ hEL hs0 eT hC, endW_mono hE hK hN⟩
variable {own : String} {index : Nat} {y z : MethodName} {bytes : ByteArray} {maxL W pc : Nat} {ret : Option FieldType} {rm : Room} {Qc : Option Value → Heap → List Loc → Prop} {argsL rest st : List Value} {Ls : Array Slot}
theorem Go.ldcH (X : Stand p l e R (s.setVm vm0) m args below meth c T locs cells slots) (hx : p.tables.exec = Jvm.exec) (hZ : Z.Warmed39 vm0) (hown : vm0.findClass own = some m.cls) {text : String} (w : (Cond.stringLink own index text).before a0 Z = true) (wS : ∀ a ∈ Bundle.stringAtoms, a.before a0 Z = true) (eT : T.heap = h) (hS : s.Since vm0 k0) (hk : k0 ≤ h.size) (hEL : EW Z a0 EL) (hmem : (own, index) ∈ EL) (hC : CHr Z EL s.vm hs vm0 h) {vs : List Value} {z : Int32} (ht : (∀ c ∈ text.toList, c.toNat < 256) ∧ text.toList.map (fun c => Value.int (Jvm.Lit.byteI c.toNat.toUInt16)) = vs) (hz : ¬ z < 0) (hlz : z.toNatClampNeg = vs.length)
    (hd : decode c.code pc = .ok (.ldc index, 2)) (n : Nat) (hn : 4 * text.toList.length ≤ n) (hbig : n ≤ 536870912) (hc : cells + 2 ≤ R.cells) (hl : slots + (n + 4) ≤ R.slots)
    (kk : ∀ a T' h' k1 b k, Stand p l e R (s.setVm T'.vm) m args below meth c T' locs (cells + 2) (slots + (n + 4)) → T'.heap = h' → Ext h h' → s.Since T'.vm k1 → k1 ≤ h'.size → Z.Warmed39 T'.vm → T'.vm.findClass own = some m.cls → Exa Z h' a "java/lang/String" → Fld Z h' a "java/lang/String" "coder" "B" (.int 0) → Fld Z h' a "java/lang/String" "value" "[B" (.ref b) → Arv Z h' b k .byte z vs (.int 0) → CHr Z EL s.vm hs T'.vm h' → (∀ x, Safe Z EL T'.vm h' x → x ≠ a ∧ x ≠ b) → Go p e below F T' (mkF m (pc + 2) Ls (.ref a :: st))) : Go p e below F T (mkF m pc Ls st) := by
  obtain ⟨a, T', h', k1, b, k, X', e', E', hS', hk', hZ', hown', A, Cd, Vl, Ar, -, -, hC', -, hM, stp⟩ := ldcCH X hx hZ hown w wS eT hS hk hEL hmem hC.1 ht hz hlz (g := mkF m pc Ls st) rfl hd hn hbig hc hl
  exact Go.of stp (kk a T' h' k1 b k X' e' E' hS' hk' hZ' hown' A Cd Vl Ar (hC.trans hC') hM)
theorem Go.callVH (X : Stand p l e R (s.setVm vm0) m args below meth c T locs cells slots) (hx : p.tables.exec = Jvm.exec) (hZ : Z.Warmed39 vm0) (hown : vm0.findClass own = some m.cls) {C : String}
    (wl : (Cond.methodLink own index y).before a0 Z = true) (wd : (Cond.declares y).before a0 Z = true) (hnf : NotFace (s.setVm vm0) y) (wse : (Cond.selects C y z).before a0 Z = true) (wi : (Cond.instanceMethod z).before a0 Z = true) (wz : (Cond.initialized z.cls).before a0 Z = true) (wc : (Cond.code z bytes maxL ret).before a0 Z = true)
    (hy : y.cls ≠ "java/lang/invoke/MethodHandle" ∧ y.cls ≠ "java/lang/invoke/VarHandle") {a : Addr} (hM : MetAtH l Z EL z bytes maxL ret rm (.ref a :: argsL).toArray h Qc) (eT : T.heap = h) (hE : Exa Z h a C) (hS : s.Since vm0 k0) (hk : k0 ≤ h.size) (hEL : EW Z a0 EL) (hC : CHr Z EL s.vm hs vm0 h) (hsize : Ls.size = c.maxLocals)
    (hlen : ∀ sig, parseMethodDescriptor y.desc = some sig → argsL.length = sig.parameters.length) (hd : decode c.code pc = .ok (.invokevirtual index, 3)) (hst : st = argsL.reverse ++ .ref a :: rest)
    (hW : (rest.map fun v => v.category).sum ≤ W) (hf : rm.frames + 1 ≤ R.frames) (hl : W + (maxL + 11) + rm.locals ≤ R.locals) (hc : cells + rm.cells ≤ R.cells) (hs' : slots + rm.slots ≤ R.slots)
    (kk : ∀ v T' L', Stand p l e R (s.setVm T'.vm) m args below meth c T' (locs ++ L') (cells + rm.cells) (slots + rm.slots) → s.Since T'.vm T'.heap.size → Z.Warmed39 T'.vm → T'.vm.findClass own = some m.cls → CHr Z EL s.vm hs T'.vm T'.heap → Qc v T'.heap L' → Go p e below F T' (mkF m (pc + 3) Ls (v.toList ++ rest))) : Go p e below F T (mkF m pc Ls st) := by
  have hZ' : Z.Warmed39 (s.setVm vm0).vm := hZ
  obtain ⟨cq, kq, q1, q2, q3⟩ := isOf hZ' eT hE
  obtain ⟨v, vm₁, ⟨T', L', k', n'⟩, -, X', hS', hgr, ⟨Lc, hQ, l1, y1, z1, hC'⟩, stp⟩ := X.virtualBackS hx (y := y) (z := z) hown (mvT hZ' wl) (mvT hZ' wd) hnf (mvT hZ' wse) (mvT hZ' wi) hy (backOfSH (W := W) hM hZ wc wz hf hl hEL hC.1) q1 q3 (g := mkF m pc Ls st) rfl hsize (Steps.refl _) hlen hst (by show 2 * 0 + _ ≤ _; omega) hd (fun _ _ => ⟨rfl, eT, hc, hs'⟩)
  dsimp only [Pt.U, Pt.locs, Pt.cells, Pt.slots] at X' l1 y1 z1 stp hQ hS' hgr hC'
  subst l1 y1 z1
  exact Go.via stp (kk v T' Lc X' (hS.trans hS' (Nat.le_trans hk (by rw [← eT]; exact hgr))) (State.Warmed39.trans (t := s.setVm vm0) hZ' hS'.1) (by rw [hS'.1.alike.findClass]; exact hown) (hC.trans hC') hQ)
theorem Go.callFH (X : Stand p l e R (s.setVm vm0) m args below meth c T locs cells slots) (hx : p.tables.exec = Jvm.exec) (hZ : Z.Warmed39 vm0) (hown : vm0.findClass own = some m.cls) {C : String} {count : Nat}
    (wl : (Cond.methodLink own index y).before a0 Z = true) (wd : (Cond.declares y).before a0 Z = true) (wfa : (Cond.interfaceMethod y.cls y.cls y.name y.desc).before a0 Z = true) (hfa : ((Cond.interfaceMethod y.cls y.cls y.name y.desc).onTables && (Cond.interfaceMethod y.cls y.cls y.name y.desc).keepsFace) = true) (wse : (Cond.selects C y z).before a0 Z = true) (wi : (Cond.instanceMethod z).before a0 Z = true) (wp : (Cond.publicMethod z).before a0 Z = true) (wu : (Cond.unhidden C y.name y.desc).before a0 Z = true) (wca : (Cond.castable C y.cls).before a0 Z = true) (wz : (Cond.initialized z.cls).before a0 Z = true) (wc : (Cond.code z bytes maxL ret).before a0 Z = true)
    (hy : y.cls ≠ "java/lang/invoke/MethodHandle" ∧ y.cls ≠ "java/lang/invoke/VarHandle") {a : Addr} (hM : MetAtH l Z EL z bytes maxL ret rm (.ref a :: argsL).toArray h Qc) (eT : T.heap = h) (hE : Exa Z h a C) (hS : s.Since vm0 k0) (hk : k0 ≤ h.size) (hEL : EW Z a0 EL) (hC : CHr Z EL s.vm hs vm0 h) (hsize : Ls.size = c.maxLocals)
    (hlen : ∀ sig, parseMethodDescriptor y.desc = some sig → argsL.length = sig.parameters.length) (hd : decode c.code pc = .ok (.invokeinterface index count, 5)) (hst : st = argsL.reverse ++ .ref a :: rest)
    (hW : (rest.map fun v => v.category).sum ≤ W) (hf : rm.frames + 1 ≤ R.frames) (hl : W + (maxL + 11) + rm.locals ≤ R.locals) (hc : cells + rm.cells ≤ R.cells) (hs' : slots + rm.slots ≤ R.slots)
    (kk : ∀ v T' L', Stand p l e R (s.setVm T'.vm) m args below meth c T' (locs ++ L') (cells + rm.cells) (slots + rm.slots) → s.Since T'.vm T'.heap.size → Z.Warmed39 T'.vm → T'.vm.findClass own = some m.cls → CHr Z EL s.vm hs T'.vm T'.heap → Qc v T'.heap L' → Go p e below F T' (mkF m (pc + 5) Ls (v.toList ++ rest))) : Go p e below F T (mkF m pc Ls st) := by
  have hZ' : Z.Warmed39 (s.setVm vm0).vm := hZ
  obtain ⟨cq, kq, q1, q2, q3⟩ := isOf hZ' eT hE
  obtain ⟨v, vm₁, ⟨T', L', k', n'⟩, -, X', hS', hgr, ⟨Lc, hQ, l1, y1, z1, hC'⟩, stp⟩ := X.interfaceBackS hx (xi := y) (y := z) hown (mvT hZ' wl) (mvT hZ' wd) (mvT hZ' wfa hfa) (mvT hZ' wse) (mvT hZ' wi) (mvT hZ' wp) (mvT hZ' wu) (mvT hZ' wca) hy (backOfSH (W := W) hM hZ wc wz hf hl hEL hC.1) q1 q2 q3 (g := mkF m pc Ls st) rfl hsize (Steps.refl _) hlen hst (by show 2 * 0 + _ ≤ _; omega) hd (fun _ _ => ⟨rfl, eT, hc, hs'⟩)
  dsimp only [Pt.U, Pt.locs, Pt.cells, Pt.slots] at X' l1 y1 z1 stp hQ hS' hgr hC'
  subst l1 y1 z1
  exact Go.via stp (kk v T' Lc X' (hS.trans hS' (Nat.le_trans hk (by rw [← eT]; exact hgr))) (State.Warmed39.trans (t := s.setVm vm0) hZ' hS'.1) (by rw [hS'.1.alike.findClass]; exact hown) (hC.trans hC') hQ)
end HeldGo
section InstGo
variable {p : Program} {l : Launch} {e : Env} {R : Room} {s : State} {m : MethodId} {args : Array Value} {below : List Frame} {meth : Method} {c : Code} {T : State} {locs : List Loc} {cells slots : Nat} {F : Option Value → State → Prop} {Z : State} {a0 : Array Value} {h : Heap} {own : String} {index pc : Nat} {rest : List Value} {Ls : Array Slot} {a : Addr}
theorem Go.instOf (X : Stand p l e R s m args below meth c T locs cells slots) (hx : p.tables.exec = Jvm.exec) (hZ : Z.Warmed39 s.vm) (hown : s.vm.findClass own = some m.cls) {K : String} (w : (Cond.classLink own index K).before a0 Z = true) (eT : T.heap = h) (I : Ins Z h a K true) (hd : decode c.code pc = .ok (.instanceof index, 3))
    (kk : ∀ T', Stand p l e R s m args below meth c T' locs cells slots → T'.heap = h → Go p e below F T' (mkF m (pc + 3) Ls (.int 1 :: rest))) : Go p e below F T (mkF m pc Ls (.ref a :: rest)) := by
  obtain ⟨T', X', e', stp⟩ := instY X hx hZ hown w eT I (g := mkF m pc Ls (.ref a :: rest)) rfl rfl hd
  exact Go.of stp (kk T' X' e')
end InstGo
end Jvm.RoadKit
namespace Jvm.Pilot.@@N@@
open Jvm Jvm.ClassFile Sem Op Lib Jvm.Free Jvm.Stand Jvm.LawKit Jvm.RoadKit Bundle Jvm.Pilot.@@N@@.Jvm.D
theorem own_fld {Z : State} {h : Heap} {a : Addr} {C n d : String} {v w : Value} (F : Fld Z h a C n d v) (G : Fld Z h a C n d w) : v = w := by
  obtain ⟨c1, f1, k1, i1, g1, p1, p2, -, -, -, -, p3⟩ := F
  obtain ⟨c2, f2, k2, i2, g2, q1, q2, -, -, -, -, q3⟩ := G
  cases p1.symm.trans q1; cases p2.symm.trans q2
  exact Option.some.inj (p3.symm.trans q3)
theorem own_ne {Z : State} {h : Heap} {x y b b' : Addr} {k k' : ClassId} {n n' : Int32} {vs vs' : List Value} {d d' : Value} {C f t : String} {ty ty' : FieldType} (F : Fld Z h x C f t (.ref b)) (G : Fld Z h y C f t (.ref b')) (A : Arv Z h b k ty n vs d) (B : Arv Z h b' k' ty' n' vs' d') (hn : n.toNatClampNeg ≠ n'.toNatClampNeg) : x ≠ y := by
  rintro rfl
  have := own_fld F G
  cases this
  obtain ⟨c1, p1, -, p2, -⟩ := A
  obtain ⟨c2, q1, -, q2, -⟩ := B
  cases p1.1.symm.trans q1.1
  exact hn (p2.symm.trans q2)
theorem own_dsc0 : parseMethodDescriptor "(Z)V" = some ⟨[.boolean], none⟩ := by decide +kernel
theorem own_dsc1 : parseMethodDescriptor "([B[B)Z" = some ⟨[(.array .byte), (.array .byte)], some .boolean⟩ := by decide +kernel
theorem own_dsc2 : parseMethodDescriptor "()V" = some ⟨[], none⟩ := by decide +kernel
theorem own_dsc3 : parseMethodDescriptor "()Ljava/lang/String;" = some ⟨[], some (.object "java/lang/String")⟩ := by decide +kernel
theorem own_dsc4 : parseMethodDescriptor "(Ljava/lang/Object;)Z" = some ⟨[(.object "java/lang/Object")], some .boolean⟩ := by decide +kernel
theorem own_dsc5 : parseMethodDescriptor "()Lcom/example/rorqual/rorqual/index/Analyzer;" = some ⟨[], some (.object "com/example/rorqual/rorqual/index/Analyzer")⟩ := by decide +kernel
theorem own_txt0 : (∀ c ∈ ("english" : String).toList, c.toNat < 256) ∧ ("english" : String).toList.map (fun c => Value.int (Jvm.Lit.byteI c.toNat.toUInt16)) = [(.int 101), (.int 110), (.int 103), (.int 108), (.int 105), (.int 115), (.int 104)] := ⟨by decide +kernel, by decide +kernel⟩
theorem own_txt1 : (∀ c ∈ ("english (stop words kept)" : String).toList, c.toNat < 256) ∧ ("english (stop words kept)" : String).toList.map (fun c => Value.int (Jvm.Lit.byteI c.toNat.toUInt16)) = [(.int 101), (.int 110), (.int 103), (.int 108), (.int 105), (.int 115), (.int 104), (.int 32), (.int 40), (.int 115), (.int 116), (.int 111), (.int 112), (.int 32), (.int 119), (.int 111), (.int 114), (.int 100), (.int 115), (.int 32), (.int 107), (.int 101), (.int 112), (.int 116), (.int 41)] := ⟨by decide +kernel, by decide +kernel⟩
theorem own_EW (Z : State) (a0 : Array Value) (hw : ∀ d ∈ tables_1, d.before a0 Z = true) : EW Z a0 consts_1 := (EW.cons (hw _ (List.mem_of_getElem? (i := 23) rfl)) own_txt0.1 (EW.cons (hw _ (List.mem_of_getElem? (i := 43) rfl)) own_txt1.1 (EW.cons (hw _ (List.mem_of_getElem? (i := 44) rfl)) own_txt1.1 (EW.cons (hw _ (List.mem_of_getElem? (i := 31) rfl)) own_txt0.1 EW.nil))))
theorem own_zd0 : decode prog_40_method_2_code 0 = .ok (.aload_n 0, 1) := by decide +kernel
theorem own_zd1 : decode prog_40_method_2_code 1 = .ok (.invokespecial 7, 3) := by decide +kernel
theorem own_zd4 : decode prog_40_method_2_code 4 = .ok (.aload_n 0, 1) := by decide +kernel
theorem own_zd5 : decode prog_40_method_2_code 5 = .ok (.iload_n 1, 1) := by decide +kernel
theorem own_zd6 : decode prog_40_method_2_code 6 = .ok (.putfield 12, 3) := by decide +kernel
theorem own_zd9 : decode prog_40_method_2_code 9 = .ok (.return_, 1) := by decide +kernel
abbrev own_rmZ_Q (Z : State) (a : Addr) (b : Int32) (n0 : Nat) (h0 : Heap) : Option Value → Heap → List Loc → Prop := fun v h L => v = none ∧ Fr n0 L ∧ Keep h0 h [a] ∧ Exa Z h a "com/example/rorqual/rorqual/index/EnglishAnalyzer" ∧ Fld Z h a "com/example/rorqual/rorqual/index/EnglishAnalyzer" "removesStopWords" "Z" (.int (nar .boolean b))
set_option maxRecDepth 65536 in
set_option maxHeartbeats 40000000 in
theorem own_rmZ (l : Launch) (Z : State) (a0 : Array Value) (hw : ∀ d ∈ tables_1, d.before a0 Z = true) (a : Addr) (b : Int32) (n0 : Nat) (h0 : Heap) (Z0 : n0 ≤ h0.size) (ga : n0 ≤ a) (EA : Exa Z h0 a "com/example/rorqual/rorqual/index/EnglishAnalyzer") (FA : Fld Z h0 a "com/example/rorqual/rorqual/index/EnglishAnalyzer" "removesStopWords" "Z" (.int (0 : Int32))) :
    MetFree l (⟨"com/example/rorqual/rorqual/index/EnglishAnalyzer", "<init>", "(Z)V"⟩ : MethodName) (head1 [Jvm.Cond.code (⟨"com/example/rorqual/rorqual/index/EnglishAnalyzer", "<init>", "(Z)V"⟩ : MethodName) prog_40_method_2_code 2 none] ({ frames := 1, cells := 0, slots := 0, locals := 12 } : Room)) (fun aa U => aa = #[(.ref a), (.int b)] ∧ Z.Warmed39 U.vm ∧ U.heap = h0) (fun _ _ _ _ _ => True) (fun _ U o U' => ∃ v L, o = .returned v ∧ ((own_rmZ_Q Z a b n0 h0)) v U'.heap L ∧ FrameEnd U o U' L ({ frames := 1, cells := 0, slots := 0, locals := 12 } : Room).cells ({ frames := 1, cells := 0, slots := 0, locals := 12 } : Room).slots) := by
  refine goBody (y := (⟨"com/example/rorqual/rorqual/index/EnglishAnalyzer", "<init>", "(Z)V"⟩ : MethodName)) (Q := (own_rmZ_Q Z a b n0 h0)) (plainFor_of_name (by first | (simp [plainName, overriddenIn]; done) | decide +kernel)) ?_
  intro p e s m below meth c T0 hx hZ hby hml hown hnm hret hlk X0 e0
  have hown : s.vm.findClass "com/example/rorqual/rorqual/index/EnglishAnalyzer" = some m.cls := hown
  refine Go.cast (g' := mkF m 0 #[.val (.ref a), .val (.int b)] []) (by first | (simp [entryFrame, mkF, argsToLocals, Value.category]; done) | rfl) ?_
  show Go p e below _ T0 (mkF m 0 #[.val (.ref a), .val (.int b)] [])
  refine Go.of (fun _ kz => XS.aloadN X0.here hx rfl (hb hby own_zd0) rfl rfl kz) ?_
  show Go p e below _ T0 (mkF m 1 #[.val (.ref a), .val (.int b)] [(.ref a)])
  refine Go.initObj X0 hx hZ hown (hw _ (List.mem_of_getElem? (i := 9) rfl)) (hw _ (List.mem_of_getElem? (i := 10) rfl)) (hw _ (List.mem_of_getElem? (i := 11) rfl)) e0 (by rw [hml]; rfl) (hb hby own_zd1) (by decide) (W := 0) (Nat.le_of_eq rfl) (by decide) fun T1 X1 e1 => ?_
  show Go p e below _ T1 (mkF m 4 #[.val (.ref a), .val (.int b)] [])
  refine Go.of (fun _ kz => XS.aloadN X1.here hx rfl (hb hby own_zd4) rfl rfl kz) ?_
  show Go p e below _ T1 (mkF m 5 #[.val (.ref a), .val (.int b)] [(.ref a)])
  refine Go.of (fun _ kz => XS.iloadN X1.here hx rfl (hb hby own_zd5) rfl kz) ?_
  show Go p e below _ T1 (mkF m 6 #[.val (.ref a), .val (.int b)] [(.int b), (.ref a)])
  refine Go.putf X1 hx hZ hown (hw _ (List.mem_of_getElem? (i := 12) rfl)) Via.refl e1 FA EA (Or.inr ⟨(hw _ (List.mem_of_getElem? (i := 13) rfl)), rfl, hnm⟩) (hw _ (List.mem_of_getElem? (i := 1) rfl)) (ty := .boolean) (by decide) rfl (fits_nar_bool _) (hb hby own_zd6) fun T2 h2 X2 e2 W2 F2 A2 => ?_
  have sz2 : n0 ≤ h2.size := Nat.le_trans Z0 (Keep.of_wr W2).1
  have kp2 : Keep h0 h2 [a] := (Keep.refl h0 [a]).wr W2 (Or.inl (List.mem_of_getElem? (i := 0) rfl))
  have N2 := Fr.snoc X2 (Fr.nil n0) ga
  show Go p e below _ T2 (mkF m 9 #[.val (.ref a), .val (.int b)] [])
  exact Go.retV X2 hx hlk hret (hb hby own_zd9) (by decide) (by decide) (by rw [e2]; exact ⟨rfl, N2, kp2, A2, F2⟩)
theorem own_nd0 : decode prog_40_method_1_code 0 = .ok (.aload_n 0, 1) := by decide +kernel
theorem own_nd1 : decode prog_40_method_1_code 1 = .ok (.iconst 1, 1) := by decide +kernel
theorem own_nd2 : decode prog_40_method_1_code 2 = .ok (.invokespecial 1, 3) := by decide +kernel
theorem own_nd5 : decode prog_40_method_1_code 5 = .ok (.return_, 1) := by decide +kernel
abbrev own_rmN_Q (Z : State) (a : Addr) (n0 : Nat) (h0 : Heap) : Option Value → Heap → List Loc → Prop := fun v h L => v = none ∧ Fr n0 L ∧ Keep h0 h [a] ∧ Exa Z h a "com/example/rorqual/rorqual/index/EnglishAnalyzer" ∧ Fld Z h a "com/example/rorqual/rorqual/index/EnglishAnalyzer" "removesStopWords" "Z" (.int (1 : Int32))
set_option maxRecDepth 65536 in
set_option maxHeartbeats 40000000 in
theorem own_rmN (l : Launch) (Z : State) (a0 : Array Value) (hw : ∀ d ∈ tables_1, d.before a0 Z = true) (a : Addr) (n0 : Nat) (h0 : Heap) (Z0 : n0 ≤ h0.size) (ga : n0 ≤ a) (EA : Exa Z h0 a "com/example/rorqual/rorqual/index/EnglishAnalyzer") (FA : Fld Z h0 a "com/example/rorqual/rorqual/index/EnglishAnalyzer" "removesStopWords" "Z" (.int (0 : Int32))) :
    MetFree l (⟨"com/example/rorqual/rorqual/index/EnglishAnalyzer", "<init>", "()V"⟩ : MethodName) (head1 [Jvm.Cond.code (⟨"com/example/rorqual/rorqual/index/EnglishAnalyzer", "<init>", "()V"⟩ : MethodName) prog_40_method_1_code 1 none] ({ frames := 2, cells := 0, slots := 0, locals := 25 } : Room)) (fun aa U => aa = #[(.ref a)] ∧ Z.Warmed39 U.vm ∧ U.heap = h0) (fun _ _ _ _ _ => True) (fun _ U o U' => ∃ v L, o = .returned v ∧ ((own_rmN_Q Z a n0 h0)) v U'.heap L ∧ FrameEnd U o U' L ({ frames := 2, cells := 0, slots := 0, locals := 25 } : Room).cells ({ frames := 2, cells := 0, slots := 0, locals := 25 } : Room).slots) := by
  refine goBody (y := (⟨"com/example/rorqual/rorqual/index/EnglishAnalyzer", "<init>", "()V"⟩ : MethodName)) (Q := (own_rmN_Q Z a n0 h0)) (plainFor_of_name (by first | (simp [plainName, overriddenIn]; done) | decide +kernel)) ?_
  intro p e s m below meth c T0 hx hZ hby hml hown hnm hret hlk X0 e0
  have hown : s.vm.findClass "com/example/rorqual/rorqual/index/EnglishAnalyzer" = some m.cls := hown
  refine Go.cast (g' := mkF m 0 #[.val (.ref a)] []) (by first | (simp [entryFrame, mkF, argsToLocals, Value.category]; done) | rfl) ?_
  show Go p e below _ T0 (mkF m 0 #[.val (.ref a)] [])
  refine Go.of (fun _ kz => XS.aloadN X0.here hx rfl (hb hby own_nd0) rfl rfl kz) ?_
  show Go p e below _ T0 (mkF m 1 #[.val (.ref a)] [(.ref a)])
  refine Go.of (fun _ kz => XS.iconst X0.here hx rfl (hb hby own_nd1) kz) ?_
  show Go p e below _ T0 (mkF m 2 #[.val (.ref a)] [(.int (1 : Int32)), (.ref a)])
  refine Go.callI (W := 0) (y := (⟨"com/example/rorqual/rorqual/index/EnglishAnalyzer", "<init>", "(Z)V"⟩ : MethodName)) (a := a) (argsL := [(.int (1 : Int32))]) (rest := []) X0 hx hZ rfl hown (hw _ (List.mem_of_getElem? (i := 6) rfl)) (hw _ (List.mem_of_getElem? (i := 7) rfl)) (hw _ (List.mem_of_getElem? (i := 2) rfl)) (hw _ (List.mem_of_getElem? (i := 8) rfl)) (by decide) (own_rmZ l Z a0 hw a (1 : Int32) n0 h0 Z0 ga EA FA) e0 (by rw [hml]; rfl) (lenOf own_dsc0 rfl) (hb hby own_nd2) rfl (Nat.le_of_eq rfl) (by decide) (by decide) (by decide) (by decide) fun _ T1 L1 X1 q1 => ?_
  obtain ⟨rfl, N1q, K1, A1, F1⟩ := q1
  have N1 := Fr.app (Fr.nil n0) N1q
  have sz1 : n0 ≤ T1.heap.size := Nat.le_trans Z0 K1.1
  have kp1 : Keep h0 T1.heap [a] := (Keep.refl h0 [a]).trans K1 (allS (Or.inl (List.mem_of_getElem? (i := 0) rfl)) all0)
  show Go p e below _ T1 (mkF m 5 #[.val (.ref a)] [])
  exact Go.retV X1 hx hlk hret (hb hby own_nd5) (by decide) (by decide) (by exact ⟨rfl, N1, kp1, A1, F1⟩)
theorem own_pd0 : decode prog_40_method_6_code 0 = .ok (.new 2, 3) := by decide +kernel
theorem own_pd3 : decode prog_40_method_6_code 3 = .ok (.dup, 1) := by decide +kernel
theorem own_pd4 : decode prog_40_method_6_code 4 = .ok (.iconst 0, 1) := by decide +kernel
theorem own_pd5 : decode prog_40_method_6_code 5 = .ok (.invokespecial 1, 3) := by decide +kernel
theorem own_pd8 : decode prog_40_method_6_code 8 = .ok (.areturn, 1) := by decide +kernel
abbrev own_rmK_Q (Z : State) (a : Addr) (n0 : Nat) (h0 : Heap) : Option Value → Heap → List Loc → Prop := fun v h L => ∃ b, v = some (.ref b) ∧ Fr n0 L ∧ Keep h0 h [] ∧ h0.size ≤ b ∧ Exa Z h b "com/example/rorqual/rorqual/index/EnglishAnalyzer" ∧ Fld Z h b "com/example/rorqual/rorqual/index/EnglishAnalyzer" "removesStopWords" "Z" (.int (0 : Int32))
set_option maxRecDepth 65536 in
set_option maxHeartbeats 40000000 in
theorem own_rmK (l : Launch) (Z : State) (a0 : Array Value) (hw : ∀ d ∈ tables_1, d.before a0 Z = true) (a : Addr) (n0 : Nat) (h0 : Heap) (Z0 : n0 ≤ h0.size) :
    MetFree l (⟨"com/example/rorqual/rorqual/index/EnglishAnalyzer", "keepingStopWords", "()Lcom/example/rorqual/rorqual/index/Analyzer;"⟩ : MethodName) (head1 [Jvm.Cond.code (⟨"com/example/rorqual/rorqual/index/EnglishAnalyzer", "keepingStopWords", "()Lcom/example/rorqual/rorqual/index/Analyzer;"⟩ : MethodName) prog_40_method_6_code 1 (some (.object "com/example/rorqual/rorqual/index/Analyzer"))] ({ frames := 2, cells := 1, slots := 1, locals := 26 } : Room)) (fun aa U => aa = #[(.ref a)] ∧ Z.Warmed39 U.vm ∧ U.heap = h0) (fun _ _ _ _ _ => True) (fun _ U o U' => ∃ v L, o = .returned v ∧ ((own_rmK_Q Z a n0 h0)) v U'.heap L ∧ FrameEnd U o U' L ({ frames := 2, cells := 1, slots := 1, locals := 26 } : Room).cells ({ frames := 2, cells := 1, slots := 1, locals := 26 } : Room).slots) := by
  refine goBody (y := (⟨"com/example/rorqual/rorqual/index/EnglishAnalyzer", "keepingStopWords", "()Lcom/example/rorqual/rorqual/index/Analyzer;"⟩ : MethodName)) (Q := (own_rmK_Q Z a n0 h0)) (plainFor_of_name (by first | (simp [plainName, overriddenIn]; done) | decide +kernel)) ?_
  intro p e s m below meth c T0 hx hZ hby hml hown hnm hret hlk X0 e0
  have hown : s.vm.findClass "com/example/rorqual/rorqual/index/EnglishAnalyzer" = some m.cls := hown
  refine Go.cast (g' := mkF m 0 #[.val (.ref a)] []) (by first | (simp [entryFrame, mkF, argsToLocals, Value.category]; done) | rfl) ?_
  show Go p e below _ T0 (mkF m 0 #[.val (.ref a)] [])
  refine Go.new X0 hx hZ hown (hw _ (List.mem_of_getElem? (i := 42) rfl)) (hw _ (List.mem_of_getElem? (i := 1) rfl)) (hw _ (List.mem_of_getElem? (i := 2) rfl)) e0 (hb hby own_pd0) (by decide) (by decide) fun T1 h1 b1 g1 X1 e1 E1 A1 D1 => ?_
  have ge_b1 : n0 ≤ b1 := g1 ▸ Z0
  have hs_b1 : h0.size ≤ b1 := g1 ▸ (Keep.refl h0 []).1
  have sz1 : n0 ≤ h1.size := Nat.le_trans Z0 E1.1
  have kp1 : Keep h0 h1 [] := (Keep.refl h0 []).ext E1
  have F1_removesStopWords : Fld Z h1 b1 "com/example/rorqual/rorqual/index/EnglishAnalyzer" "removesStopWords" "Z" (.int (0 : Int32)) := D1 (Or.inr (hw _ (List.mem_of_getElem? (i := 13) rfl))) (ty := .boolean) (by decide)
  show Go p e below _ T1 (mkF m 3 #[.val (.ref a)] [(.ref b1)])
  refine Go.of (fun _ kz => XS.dup X1.here hx rfl (hb hby own_pd3) rfl rfl kz) ?_
  show Go p e below _ T1 (mkF m 4 #[.val (.ref a)] [(.ref b1), (.ref b1)])
  refine Go.of (fun _ kz => XS.iconst X1.here hx rfl (hb hby own_pd4) kz) ?_
  show Go p e below _ T1 (mkF m 5 #[.val (.ref a)] [(.int (0 : Int32)), (.ref b1), (.ref b1)])
  refine Go.callI (W := 1) (y := (⟨"com/example/rorqual/rorqual/index/EnglishAnalyzer", "<init>", "(Z)V"⟩ : MethodName)) (a := b1) (argsL := [(.int (0 : Int32))]) (rest := [(.ref b1)]) X1 hx hZ rfl hown (hw _ (List.mem_of_getElem? (i := 6) rfl)) (hw _ (List.mem_of_getElem? (i := 7) rfl)) (hw _ (List.mem_of_getElem? (i := 2) rfl)) (hw _ (List.mem_of_getElem? (i := 8) rfl)) (by decide) (own_rmZ l Z a0 hw b1 (0 : Int32) n0 h1 sz1 ge_b1 A1 F1_removesStopWords) e1 (by rw [hml]; rfl) (lenOf own_dsc0 rfl) (hb hby own_pd5) rfl (Nat.le_of_eq rfl) (by decide) (by decide) (by decide) (by decide) fun _ T2 L2 X2 q2 => ?_
  obtain ⟨rfl, N2q, K2, A2, F2⟩ := q2
  have N2 := Fr.app (Fr.nil n0) N2q
  have sz2 : n0 ≤ T2.heap.size := Nat.le_trans sz1 K2.1
  have kp2 : Keep h0 T2.heap [] := kp1.trans K2 (allS (Or.inr hs_b1) all0)
  show Go p e below _ T2 (mkF m 8 #[.val (.ref a)] [(.ref b1)])
  exact Go.retA X2 hx hlk hret rfl rfl rfl (hb hby own_pd8) (by decide) (by decide) (by exact ⟨b1, rfl, N2, kp2, hs_b1, A2, F2⟩)
theorem own_a1_d0 : decode prog_40_method_3_code 0 = .ok (.aload_n 0, 1) := by decide +kernel
theorem own_a1_d1 : decode prog_40_method_3_code 1 = .ok (.getfield 12, 3) := by decide +kernel
theorem own_a1_d4 : decode prog_40_method_3_code 4 = .ok (.ifCond .eq 9, 3) := by decide +kernel
theorem own_a1_d7 : decode prog_40_method_3_code 7 = .ok (.ldc 16, 2) := by decide +kernel
theorem own_a1_d9 : decode prog_40_method_3_code 9 = .ok (.astore_n 1, 1) := by decide +kernel
theorem own_a1_d10 : decode prog_40_method_3_code 10 = .ok (.goto 6, 3) := by decide +kernel
theorem own_a1_d16 : decode prog_40_method_3_code 16 = .ok (.aload_n 1, 1) := by decide +kernel
theorem own_a1_d17 : decode prog_40_method_3_code 17 = .ok (.areturn, 1) := by decide +kernel
abbrev own_rmA1_Q (Z : State) (a : Addr) (h0 : Heap) : Option Value → Heap → List Loc → Prop := fun v h L => ∃ b c k, v = some (.ref b) ∧ L = [] ∧ Ext h0 h ∧ Exa Z h b "java/lang/String" ∧ Fld Z h b "java/lang/String" "coder" "B" (.int 0) ∧ Fld Z h b "java/lang/String" "value" "[B" (.ref c) ∧ Arv Z h c k .byte 7 [(.int 101), (.int 110), (.int 103), (.int 108), (.int 105), (.int 115), (.int 104)] (.int 0)
set_option maxRecDepth 65536 in
set_option maxHeartbeats 40000000 in
theorem own_rmA1 (l : Launch) (Z : State) (a0 : Array Value) (hw : ∀ d ∈ tables_1, d.before a0 Z = true) (a : Addr) (h0 : Heap) (FA : Fld Z h0 a "com/example/rorqual/rorqual/index/EnglishAnalyzer" "removesStopWords" "Z" (.int (1 : Int32))) :
    MetFree l (⟨"com/example/rorqual/rorqual/index/EnglishAnalyzer", "name", "()Ljava/lang/String;"⟩ : MethodName) (head1 [Jvm.Cond.code (⟨"com/example/rorqual/rorqual/index/EnglishAnalyzer", "name", "()Ljava/lang/String;"⟩ : MethodName) prog_40_method_3_code 2 (some (.object "java/lang/String"))] ({ frames := 0, cells := 2, slots := 32, locals := 0 } : Room)) (fun aa U => aa = #[(.ref a)] ∧ Z.Warmed39 U.vm ∧ U.heap = h0 ∧ CHv Z consts_1 U.vm h0) (fun _ _ _ _ _ => True) (fun _ U o U' => ∃ v L, o = .returned v ∧ ((own_rmA1_Q Z a h0)) v U'.heap L ∧ CHr Z consts_1 U.vm U.heap U'.vm U'.heap ∧ ReturnedEndW U o U' L ({ frames := 0, cells := 2, slots := 32, locals := 0 } : Room).cells ({ frames := 0, cells := 2, slots := 32, locals := 0 } : Room).slots) := by
  refine goBodyH (y := (⟨"com/example/rorqual/rorqual/index/EnglishAnalyzer", "name", "()Ljava/lang/String;"⟩ : MethodName)) (Q := (own_rmA1_Q Z a h0)) (plainFor_of_name (by first | (simp [plainName, overriddenIn]; done) | decide +kernel)) ?_
  intro p e s m below meth c T0 hx hZ hby hml hown hnm hret hlk X0 e0 hS hs0 hC
  have hEL := own_EW Z a0 hw
  have wS : ∀ d ∈ Bundle.stringAtoms, d.before a0 Z = true := fun d hd => by
    simp only [Bundle.stringAtoms, List.mem_cons, List.not_mem_nil, or_false] at hd
    rcases hd with rfl | rfl | rfl | rfl | rfl | rfl | rfl
    · exact (hw _ (List.mem_of_getElem? (i := 24) rfl))
    · exact (hw _ (List.mem_of_getElem? (i := 25) rfl))
    · exact (hw _ (List.mem_of_getElem? (i := 26) rfl))
    · exact (hw _ (List.mem_of_getElem? (i := 27) rfl))
    · exact (hw _ (List.mem_of_getElem? (i := 28) rfl))
    · exact (hw _ (List.mem_of_getElem? (i := 29) rfl))
    · exact (hw _ (List.mem_of_getElem? (i := 30) rfl))
  have hk : 0 ≤ h0.size := Nat.zero_le _
  have hown : s.vm.findClass "com/example/rorqual/rorqual/index/EnglishAnalyzer" = some m.cls := hown
  refine Go.cast (g' := mkF m 0 #[.val (.ref a), .unset] []) (by first | (simp [entryFrame, mkF, argsToLocals, Value.category]; done) | rfl) ?_
  show Go p e below _ T0 (mkF m 0 #[.val (.ref a), .unset] [])
  refine Go.of (fun _ kz => XS.aloadN X0.here hx rfl (hb hby own_a1_d0) rfl rfl kz) ?_
  show Go p e below _ T0 (mkF m 1 #[.val (.ref a), .unset] [(.ref a)])
  refine Go.getf X0 hx hZ hown (hw _ (List.mem_of_getElem? (i := 12) rfl)) Via.refl e0 FA (hb hby own_a1_d1) fun T1 X1 e1 => ?_
  show Go p e below _ T1 (mkF m 4 #[.val (.ref a), .unset] [(.int (1 : Int32))])
  refine Go.of (fun _ kz => XS.ifNo X1.here hx rfl (hb hby own_a1_d4) rfl ((if0 _ _).trans (feq (by decide : ¬ ((1 : Int32) = (0 : Int32)))).1) kz) ?_
  show Go p e below _ T1 (mkF m 7 #[.val (.ref a), .unset] [])
  refine Go.ldcH X1 hx hZ hown (hw _ (List.mem_of_getElem? (i := 23) rfl)) wS e1 hS hk hEL (List.mem_of_getElem? (i := 0) rfl) hC (z := 7) (vs := [(.int 101), (.int 110), (.int 103), (.int 108), (.int 105), (.int 115), (.int 104)]) own_txt0 (by decide) rfl (hb hby own_a1_d7) 28 (by decide) (by decide) (by decide) (by decide) fun b2 T2 h2 k2 c2 kc2 X2 e2 E2 hS hk2 hZ hown A2 C2 D2 V2 hC M2 => ?_
  have sz2 : h0.size ≤ h2.size := Nat.le_trans (Nat.le_refl _) E2.1
  show Go p e below _ T2 (mkF m 9 #[.val (.ref a), .unset] [(.ref b2)])
  refine Go.of (fun _ kz => XS.astoreN X2.here hx rfl (hb hby own_a1_d9) rfl rfl (l' := #[.val (.ref a), .val (.ref b2)]) rfl kz) ?_
  show Go p e below _ T2 (mkF m 10 #[.val (.ref a), .val (.ref b2)] [])
  refine Go.of (fun _ kz => XS.goto X2.here hx rfl (pc0 := 10) (pc' := 16) rfl (hb hby own_a1_d10) (by decide) (by decide) kz) ?_
  show Go p e below _ T2 (mkF m 16 #[.val (.ref a), .val (.ref b2)] [])
  refine Go.of (fun _ kz => XS.aloadN X2.here hx rfl (hb hby own_a1_d16) rfl rfl kz) ?_
  show Go p e below _ T2 (mkF m 17 #[.val (.ref a), .val (.ref b2)] [(.ref b2)])
  exact Go.retAH X2 hx hZ hEL hs0 e2 hC hS (by rw [e2]; exact hk2) hlk hret rfl rfl rfl (hb hby own_a1_d17) (by decide) (by decide) (by rw [e2]; exact ⟨b2, c2, kc2, rfl, rfl, E2, A2, C2, D2, V2⟩)
theorem own_a0_d0 : decode prog_40_method_3_code 0 = .ok (.aload_n 0, 1) := by decide +kernel
theorem own_a0_d1 : decode prog_40_method_3_code 1 = .ok (.getfield 12, 3) := by decide +kernel
theorem own_a0_d4 : decode prog_40_method_3_code 4 = .ok (.ifCond .eq 9, 3) := by decide +kernel
theorem own_a0_d13 : decode prog_40_method_3_code 13 = .ok (.ldc 18, 2) := by decide +kernel
theorem own_a0_d15 : decode prog_40_method_3_code 15 = .ok (.astore_n 1, 1) := by decide +kernel
theorem own_a0_d16 : decode prog_40_method_3_code 16 = .ok (.aload_n 1, 1) := by decide +kernel
theorem own_a0_d17 : decode prog_40_method_3_code 17 = .ok (.areturn, 1) := by decide +kernel
abbrev own_rmA0_Q (Z : State) (a : Addr) (h0 : Heap) : Option Value → Heap → List Loc → Prop := fun v h L => ∃ b c k, v = some (.ref b) ∧ L = [] ∧ Ext h0 h ∧ Exa Z h b "java/lang/String" ∧ Fld Z h b "java/lang/String" "coder" "B" (.int 0) ∧ Fld Z h b "java/lang/String" "value" "[B" (.ref c) ∧ Arv Z h c k .byte 25 [(.int 101), (.int 110), (.int 103), (.int 108), (.int 105), (.int 115), (.int 104), (.int 32), (.int 40), (.int 115), (.int 116), (.int 111), (.int 112), (.int 32), (.int 119), (.int 111), (.int 114), (.int 100), (.int 115), (.int 32), (.int 107), (.int 101), (.int 112), (.int 116), (.int 41)] (.int 0)
set_option maxRecDepth 65536 in
set_option maxHeartbeats 40000000 in
theorem own_rmA0 (l : Launch) (Z : State) (a0 : Array Value) (hw : ∀ d ∈ tables_1, d.before a0 Z = true) (a : Addr) (h0 : Heap) (FA : Fld Z h0 a "com/example/rorqual/rorqual/index/EnglishAnalyzer" "removesStopWords" "Z" (.int (0 : Int32))) :
    MetFree l (⟨"com/example/rorqual/rorqual/index/EnglishAnalyzer", "name", "()Ljava/lang/String;"⟩ : MethodName) (head1 [Jvm.Cond.code (⟨"com/example/rorqual/rorqual/index/EnglishAnalyzer", "name", "()Ljava/lang/String;"⟩ : MethodName) prog_40_method_3_code 2 (some (.object "java/lang/String"))] ({ frames := 0, cells := 2, slots := 104, locals := 0 } : Room)) (fun aa U => aa = #[(.ref a)] ∧ Z.Warmed39 U.vm ∧ U.heap = h0 ∧ CHv Z consts_1 U.vm h0) (fun _ _ _ _ _ => True) (fun _ U o U' => ∃ v L, o = .returned v ∧ ((own_rmA0_Q Z a h0)) v U'.heap L ∧ CHr Z consts_1 U.vm U.heap U'.vm U'.heap ∧ ReturnedEndW U o U' L ({ frames := 0, cells := 2, slots := 104, locals := 0 } : Room).cells ({ frames := 0, cells := 2, slots := 104, locals := 0 } : Room).slots) := by
  refine goBodyH (y := (⟨"com/example/rorqual/rorqual/index/EnglishAnalyzer", "name", "()Ljava/lang/String;"⟩ : MethodName)) (Q := (own_rmA0_Q Z a h0)) (plainFor_of_name (by first | (simp [plainName, overriddenIn]; done) | decide +kernel)) ?_
  intro p e s m below meth c T0 hx hZ hby hml hown hnm hret hlk X0 e0 hS hs0 hC
  have hEL := own_EW Z a0 hw
  have wS : ∀ d ∈ Bundle.stringAtoms, d.before a0 Z = true := fun d hd => by
    simp only [Bundle.stringAtoms, List.mem_cons, List.not_mem_nil, or_false] at hd
    rcases hd with rfl | rfl | rfl | rfl | rfl | rfl | rfl
    · exact (hw _ (List.mem_of_getElem? (i := 24) rfl))
    · exact (hw _ (List.mem_of_getElem? (i := 25) rfl))
    · exact (hw _ (List.mem_of_getElem? (i := 26) rfl))
    · exact (hw _ (List.mem_of_getElem? (i := 27) rfl))
    · exact (hw _ (List.mem_of_getElem? (i := 28) rfl))
    · exact (hw _ (List.mem_of_getElem? (i := 29) rfl))
    · exact (hw _ (List.mem_of_getElem? (i := 30) rfl))
  have hk : 0 ≤ h0.size := Nat.zero_le _
  have hown : s.vm.findClass "com/example/rorqual/rorqual/index/EnglishAnalyzer" = some m.cls := hown
  refine Go.cast (g' := mkF m 0 #[.val (.ref a), .unset] []) (by first | (simp [entryFrame, mkF, argsToLocals, Value.category]; done) | rfl) ?_
  show Go p e below _ T0 (mkF m 0 #[.val (.ref a), .unset] [])
  refine Go.of (fun _ kz => XS.aloadN X0.here hx rfl (hb hby own_a0_d0) rfl rfl kz) ?_
  show Go p e below _ T0 (mkF m 1 #[.val (.ref a), .unset] [(.ref a)])
  refine Go.getf X0 hx hZ hown (hw _ (List.mem_of_getElem? (i := 12) rfl)) Via.refl e0 FA (hb hby own_a0_d1) fun T1 X1 e1 => ?_
  show Go p e below _ T1 (mkF m 4 #[.val (.ref a), .unset] [(.int (0 : Int32))])
  refine Go.of (fun _ kz => XS.ifYes X1.here hx rfl (pc0 := 4) (pc' := 13) rfl (hb hby own_a0_d4) rfl ((if0 _ _).trans (teq (by decide : (0 : Int32) = (0 : Int32))).1) (by decide) (by decide) kz) ?_
  show Go p e below _ T1 (mkF m 13 #[.val (.ref a), .unset] [])
  refine Go.ldcH X1 hx hZ hown (hw _ (List.mem_of_getElem? (i := 43) rfl)) wS e1 hS hk hEL (List.mem_of_getElem? (i := 1) rfl) hC (z := 25) (vs := [(.int 101), (.int 110), (.int 103), (.int 108), (.int 105), (.int 115), (.int 104), (.int 32), (.int 40), (.int 115), (.int 116), (.int 111), (.int 112), (.int 32), (.int 119), (.int 111), (.int 114), (.int 100), (.int 115), (.int 32), (.int 107), (.int 101), (.int 112), (.int 116), (.int 41)]) own_txt1 (by decide) rfl (hb hby own_a0_d13) 100 (by decide) (by decide) (by decide) (by decide) fun b2 T2 h2 k2 c2 kc2 X2 e2 E2 hS hk2 hZ hown A2 C2 D2 V2 hC M2 => ?_
  have sz2 : h0.size ≤ h2.size := Nat.le_trans (Nat.le_refl _) E2.1
  show Go p e below _ T2 (mkF m 15 #[.val (.ref a), .unset] [(.ref b2)])
  refine Go.of (fun _ kz => XS.astoreN X2.here hx rfl (hb hby own_a0_d15) rfl rfl (l' := #[.val (.ref a), .val (.ref b2)]) rfl kz) ?_
  show Go p e below _ T2 (mkF m 16 #[.val (.ref a), .val (.ref b2)] [])
  refine Go.of (fun _ kz => XS.aloadN X2.here hx rfl (hb hby own_a0_d16) rfl rfl kz) ?_
  show Go p e below _ T2 (mkF m 17 #[.val (.ref a), .val (.ref b2)] [(.ref b2)])
  exact Go.retAH X2 hx hZ hEL hs0 e2 hC hS (by rw [e2]; exact hk2) hlk hret rfl rfl rfl (hb hby own_a0_d17) (by decide) (by decide) (by rw [e2]; exact ⟨b2, c2, kc2, rfl, rfl, E2, A2, C2, D2, V2⟩)
theorem own_l7_d0 : decode jdk_43_method_13_code 0 = .ok (.aload_n 0, 1) := by decide +kernel
theorem own_l7_d1 : decode jdk_43_method_13_code 1 = .ok (.arraylength, 1) := by decide +kernel
theorem own_l7_d2 : decode jdk_43_method_13_code 2 = .ok (.aload_n 1, 1) := by decide +kernel
theorem own_l7_d3 : decode jdk_43_method_13_code 3 = .ok (.arraylength, 1) := by decide +kernel
theorem own_l7_d4 : decode jdk_43_method_13_code 4 = .ok (.if_icmp .ne 30, 3) := by decide +kernel
theorem own_l7_d7 : decode jdk_43_method_13_code 7 = .ok (.iconst 0, 1) := by decide +kernel
theorem own_l7_d8 : decode jdk_43_method_13_code 8 = .ok (.istore_n 2, 1) := by decide +kernel
theorem own_l7_d9 : decode jdk_43_method_13_code 9 = .ok (.iload_n 2, 1) := by decide +kernel
theorem own_l7_d10 : decode jdk_43_method_13_code 10 = .ok (.aload_n 0, 1) := by decide +kernel
theorem own_l7_d11 : decode jdk_43_method_13_code 11 = .ok (.arraylength, 1) := by decide +kernel
theorem own_l7_d12 : decode jdk_43_method_13_code 12 = .ok (.if_icmp .ge 20, 3) := by decide +kernel
theorem own_l7_d15 : decode jdk_43_method_13_code 15 = .ok (.aload_n 0, 1) := by decide +kernel
theorem own_l7_d16 : decode jdk_43_method_13_code 16 = .ok (.iload_n 2, 1) := by decide +kernel
theorem own_l7_d17 : decode jdk_43_method_13_code 17 = .ok (.baload, 1) := by decide +kernel
theorem own_l7_d18 : decode jdk_43_method_13_code 18 = .ok (.aload_n 1, 1) := by decide +kernel
theorem own_l7_d19 : decode jdk_43_method_13_code 19 = .ok (.iload_n 2, 1) := by decide +kernel
theorem own_l7_d20 : decode jdk_43_method_13_code 20 = .ok (.baload, 1) := by decide +kernel
theorem own_l7_d21 : decode jdk_43_method_13_code 21 = .ok (.if_icmp .eq 5, 3) := by decide +kernel
theorem own_l7_d26 : decode jdk_43_method_13_code 26 = .ok (.iinc 2 1, 3) := by decide +kernel
theorem own_l7_d29 : decode jdk_43_method_13_code 29 = .ok (.goto (-20), 3) := by decide +kernel
theorem own_l7_d32 : decode jdk_43_method_13_code 32 = .ok (.iconst 1, 1) := by decide +kernel
theorem own_l7_d33 : decode jdk_43_method_13_code 33 = .ok (.ireturn, 1) := by decide +kernel
set_option maxRecDepth 65536 in
set_option maxHeartbeats 40000000 in
theorem own_rmL7 (l : Launch) (Z : State) (a0 : Array Value) (hw : ∀ d ∈ tables_1, d.before a0 Z = true) (u v : Addr) (ku kv : ClassId) (h0 : Heap) (AU : Arv Z h0 u ku .byte 7 [(.int 101), (.int 110), (.int 103), (.int 108), (.int 105), (.int 115), (.int 104)] (.int 0)) (AV : Arv Z h0 v kv .byte 7 [(.int 101), (.int 110), (.int 103), (.int 108), (.int 105), (.int 115), (.int 104)] (.int 0)) :
    MetFree l (⟨"java/lang/StringLatin1", "equals", "([B[B)Z"⟩ : MethodName) (head1 [Jvm.Cond.code (⟨"java/lang/StringLatin1", "equals", "([B[B)Z"⟩ : MethodName) jdk_43_method_13_code 3 (some .boolean)] ({ frames := 0, cells := 0, slots := 0, locals := 0 } : Room)) (fun aa U => aa = #[(.ref u), (.ref v)] ∧ Z.Warmed39 U.vm ∧ U.heap = h0) (fun _ _ _ _ _ => True) (fun _ U o U' => ∃ v L, o = .returned v ∧ (PQ h0 (some (.int 1))) v U'.heap L ∧ FrameEnd U o U' L ({ frames := 0, cells := 0, slots := 0, locals := 0 } : Room).cells ({ frames := 0, cells := 0, slots := 0, locals := 0 } : Room).slots) := by
  refine goBody (y := (⟨"java/lang/StringLatin1", "equals", "([B[B)Z"⟩ : MethodName)) (Q := PQ h0 (some (.int 1))) (plainFor_of_name (by first | (simp [plainName, overriddenIn]; done) | decide +kernel)) ?_
  intro p e s m below meth c T0 hx hZ hby hml hown hnm hret hlk X0 e0
  have hown : s.vm.findClass "java/lang/StringLatin1" = some m.cls := hown
  refine Go.cast (g' := mkF m 0 #[.val (.ref u), .val (.ref v), .unset] []) (by first | (simp [entryFrame, mkF, argsToLocals, Value.category]; done) | rfl) ?_
  show Go p e below _ T0 (mkF m 0 #[.val (.ref u), .val (.ref v), .unset] [])
  refine Go.of (fun _ kz => XS.aloadN X0.here hx rfl (hb hby own_l7_d0) rfl rfl kz) ?_
  show Go p e below _ T0 (mkF m 1 #[.val (.ref u), .val (.ref v), .unset] [(.ref u)])
  refine Go.len X0 hx hZ e0 AU (hb hby own_l7_d1) ?_
  show Go p e below _ T0 (mkF m 2 #[.val (.ref u), .val (.ref v), .unset] [(.int (7 : Int32))])
  refine Go.of (fun _ kz => XS.aloadN X0.here hx rfl (hb hby own_l7_d2) rfl rfl kz) ?_
  show Go p e below _ T0 (mkF m 3 #[.val (.ref u), .val (.ref v), .unset] [(.ref v), (.int (7 : Int32))])
  refine Go.len X0 hx hZ e0 AV (hb hby own_l7_d3) ?_
  show Go p e below _ T0 (mkF m 4 #[.val (.ref u), .val (.ref v), .unset] [(.int (7 : Int32)), (.int (7 : Int32))])
  refine Go.of (fun _ kz => XS.icmpNo X0.here hx rfl (hb hby own_l7_d4) rfl (teq (by decide : (7 : Int32) = (7 : Int32))).2 kz) ?_
  show Go p e below _ T0 (mkF m 7 #[.val (.ref u), .val (.ref v), .unset] [])
  refine Go.of (fun _ kz => XS.iconst X0.here hx rfl (hb hby own_l7_d7) kz) ?_
  show Go p e below _ T0 (mkF m 8 #[.val (.ref u), .val (.ref v), .unset] [(.int (0 : Int32))])
  refine Go.of (fun _ kz => XS.istoreN X0.here hx rfl (hb hby own_l7_d8) rfl (l' := #[.val (.ref u), .val (.ref v), .val (.int (0 : Int32))]) rfl kz) ?_
  show Go p e below _ T0 (mkF m 9 #[.val (.ref u), .val (.ref v), .val (.int (0 : Int32))] [])
  refine Go.of (fun _ kz => XS.iloadN X0.here hx rfl (hb hby own_l7_d9) rfl kz) ?_
  show Go p e below _ T0 (mkF m 10 #[.val (.ref u), .val (.ref v), .val (.int (0 : Int32))] [(.int (0 : Int32))])
  refine Go.of (fun _ kz => XS.aloadN X0.here hx rfl (hb hby own_l7_d10) rfl rfl kz) ?_
  show Go p e below _ T0 (mkF m 11 #[.val (.ref u), .val (.ref v), .val (.int (0 : Int32))] [(.ref u), (.int (0 : Int32))])
  refine Go.len X0 hx hZ e0 AU (hb hby own_l7_d11) ?_
  show Go p e below _ T0 (mkF m 12 #[.val (.ref u), .val (.ref v), .val (.int (0 : Int32))] [(.int (7 : Int32)), (.int (0 : Int32))])
  refine Go.of (fun _ kz => XS.icmpNo X0.here hx rfl (hb hby own_l7_d12) rfl (tlt (by decide : (0 : Int32) < (7 : Int32))).2.1 kz) ?_
  show Go p e below _ T0 (mkF m 15 #[.val (.ref u), .val (.ref v), .val (.int (0 : Int32))] [])
  refine Go.of (fun _ kz => XS.aloadN X0.here hx rfl (hb hby own_l7_d15) rfl rfl kz) ?_
  show Go p e below _ T0 (mkF m 16 #[.val (.ref u), .val (.ref v), .val (.int (0 : Int32))] [(.ref u)])
  refine Go.of (fun _ kz => XS.iloadN X0.here hx rfl (hb hby own_l7_d16) rfl kz) ?_
  show Go p e below _ T0 (mkF m 17 #[.val (.ref u), .val (.ref v), .val (.int (0 : Int32))] [(.int (0 : Int32)), (.ref u)])
  refine Go.baload X0 hx hZ e0 AU ⟨by decide, by decide⟩ (v := (.int (101 : Int32))) rfl (hb hby own_l7_d17) ?_
  show Go p e below _ T0 (mkF m 18 #[.val (.ref u), .val (.ref v), .val (.int (0 : Int32))] [(.int (101 : Int32))])
  refine Go.of (fun _ kz => XS.aloadN X0.here hx rfl (hb hby own_l7_d18) rfl rfl kz) ?_
  show Go p e below _ T0 (mkF m 19 #[.val (.ref u), .val (.ref v), .val (.int (0 : Int32))] [(.ref v), (.int (101 : Int32))])
  refine Go.of (fun _ kz => XS.iloadN X0.here hx rfl (hb hby own_l7_d19) rfl kz) ?_
  show Go p e below _ T0 (mkF m 20 #[.val (.ref u), .val (.ref v), .val (.int (0 : Int32))] [(.int (0 : Int32)), (.ref v), (.int (101 : Int32))])
  refine Go.baload X0 hx hZ e0 AV ⟨by decide, by decide⟩ (v := (.int (101 : Int32))) rfl (hb hby own_l7_d20) ?_
  show Go p e below _ T0 (mkF m 21 #[.val (.ref u), .val (.ref v), .val (.int (0 : Int32))] [(.int (101 : Int32)), (.int (101 : Int32))])
  refine Go.of (fun _ kz => XS.icmpYes X0.here hx rfl (pc0 := 21) (pc' := 26) rfl (hb hby own_l7_d21) rfl (teq (by decide : (101 : Int32) = (101 : Int32))).1 (by decide) (by decide) kz) ?_
  show Go p e below _ T0 (mkF m 26 #[.val (.ref u), .val (.ref v), .val (.int (0 : Int32))] [])
  refine Go.of (fun _ kz => XS.iinc X0.here hx rfl (hb hby own_l7_d26) rfl (l' := #[.val (.ref u), .val (.ref v), .val (.int (1 : Int32))]) rfl kz) ?_
  show Go p e below _ T0 (mkF m 29 #[.val (.ref u), .val (.ref v), .val (.int (1 : Int32))] [])
  refine Go.of (fun _ kz => XS.goto X0.here hx rfl (pc0 := 29) (pc' := 9) rfl (hb hby own_l7_d29) (by decide) (by decide) kz) ?_
  show Go p e below _ T0 (mkF m 9 #[.val (.ref u), .val (.ref v), .val (.int (1 : Int32))] [])
  refine Go.of (fun _ kz => XS.iloadN X0.here hx rfl (hb hby own_l7_d9) rfl kz) ?_
  show Go p e below _ T0 (mkF m 10 #[.val (.ref u), .val (.ref v), .val (.int (1 : Int32))] [(.int (1 : Int32))])
  refine Go.of (fun _ kz => XS.aloadN X0.here hx rfl (hb hby own_l7_d10) rfl rfl kz) ?_
  show Go p e below _ T0 (mkF m 11 #[.val (.ref u), .val (.ref v), .val (.int (1 : Int32))] [(.ref u), (.int (1 : Int32))])
  refine Go.len X0 hx hZ e0 AU (hb hby own_l7_d11) ?_
  show Go p e below _ T0 (mkF m 12 #[.val (.ref u), .val (.ref v), .val (.int (1 : Int32))] [(.int (7 : Int32)), (.int (1 : Int32))])
  refine Go.of (fun _ kz => XS.icmpNo X0.here hx rfl (hb hby own_l7_d12) rfl (tlt (by decide : (1 : Int32) < (7 : Int32))).2.1 kz) ?_
  show Go p e below _ T0 (mkF m 15 #[.val (.ref u), .val (.ref v), .val (.int (1 : Int32))] [])
  refine Go.of (fun _ kz => XS.aloadN X0.here hx rfl (hb hby own_l7_d15) rfl rfl kz) ?_
  show Go p e below _ T0 (mkF m 16 #[.val (.ref u), .val (.ref v), .val (.int (1 : Int32))] [(.ref u)])
  refine Go.of (fun _ kz => XS.iloadN X0.here hx rfl (hb hby own_l7_d16) rfl kz) ?_
  show Go p e below _ T0 (mkF m 17 #[.val (.ref u), .val (.ref v), .val (.int (1 : Int32))] [(.int (1 : Int32)), (.ref u)])
  refine Go.baload X0 hx hZ e0 AU ⟨by decide, by decide⟩ (v := (.int (110 : Int32))) rfl (hb hby own_l7_d17) ?_
  show Go p e below _ T0 (mkF m 18 #[.val (.ref u), .val (.ref v), .val (.int (1 : Int32))] [(.int (110 : Int32))])
  refine Go.of (fun _ kz => XS.aloadN X0.here hx rfl (hb hby own_l7_d18) rfl rfl kz) ?_
  show Go p e below _ T0 (mkF m 19 #[.val (.ref u), .val (.ref v), .val (.int (1 : Int32))] [(.ref v), (.int (110 : Int32))])
  refine Go.of (fun _ kz => XS.iloadN X0.here hx rfl (hb hby own_l7_d19) rfl kz) ?_
  show Go p e below _ T0 (mkF m 20 #[.val (.ref u), .val (.ref v), .val (.int (1 : Int32))] [(.int (1 : Int32)), (.ref v), (.int (110 : Int32))])
  refine Go.baload X0 hx hZ e0 AV ⟨by decide, by decide⟩ (v := (.int (110 : Int32))) rfl (hb hby own_l7_d20) ?_
  show Go p e below _ T0 (mkF m 21 #[.val (.ref u), .val (.ref v), .val (.int (1 : Int32))] [(.int (110 : Int32)), (.int (110 : Int32))])
  refine Go.of (fun _ kz => XS.icmpYes X0.here hx rfl (pc0 := 21) (pc' := 26) rfl (hb hby own_l7_d21) rfl (teq (by decide : (110 : Int32) = (110 : Int32))).1 (by decide) (by decide) kz) ?_
  show Go p e below _ T0 (mkF m 26 #[.val (.ref u), .val (.ref v), .val (.int (1 : Int32))] [])
  refine Go.of (fun _ kz => XS.iinc X0.here hx rfl (hb hby own_l7_d26) rfl (l' := #[.val (.ref u), .val (.ref v), .val (.int (2 : Int32))]) rfl kz) ?_
  show Go p e below _ T0 (mkF m 29 #[.val (.ref u), .val (.ref v), .val (.int (2 : Int32))] [])
  refine Go.of (fun _ kz => XS.goto X0.here hx rfl (pc0 := 29) (pc' := 9) rfl (hb hby own_l7_d29) (by decide) (by decide) kz) ?_
  show Go p e below _ T0 (mkF m 9 #[.val (.ref u), .val (.ref v), .val (.int (2 : Int32))] [])
  refine Go.of (fun _ kz => XS.iloadN X0.here hx rfl (hb hby own_l7_d9) rfl kz) ?_
  show Go p e below _ T0 (mkF m 10 #[.val (.ref u), .val (.ref v), .val (.int (2 : Int32))] [(.int (2 : Int32))])
  refine Go.of (fun _ kz => XS.aloadN X0.here hx rfl (hb hby own_l7_d10) rfl rfl kz) ?_
  show Go p e below _ T0 (mkF m 11 #[.val (.ref u), .val (.ref v), .val (.int (2 : Int32))] [(.ref u), (.int (2 : Int32))])
  refine Go.len X0 hx hZ e0 AU (hb hby own_l7_d11) ?_
  show Go p e below _ T0 (mkF m 12 #[.val (.ref u), .val (.ref v), .val (.int (2 : Int32))] [(.int (7 : Int32)), (.int (2 : Int32))])
  refine Go.of (fun _ kz => XS.icmpNo X0.here hx rfl (hb hby own_l7_d12) rfl (tlt (by decide : (2 : Int32) < (7 : Int32))).2.1 kz) ?_
  show Go p e below _ T0 (mkF m 15 #[.val (.ref u), .val (.ref v), .val (.int (2 : Int32))] [])
  refine Go.of (fun _ kz => XS.aloadN X0.here hx rfl (hb hby own_l7_d15) rfl rfl kz) ?_
  show Go p e below _ T0 (mkF m 16 #[.val (.ref u), .val (.ref v), .val (.int (2 : Int32))] [(.ref u)])
  refine Go.of (fun _ kz => XS.iloadN X0.here hx rfl (hb hby own_l7_d16) rfl kz) ?_
  show Go p e below _ T0 (mkF m 17 #[.val (.ref u), .val (.ref v), .val (.int (2 : Int32))] [(.int (2 : Int32)), (.ref u)])
  refine Go.baload X0 hx hZ e0 AU ⟨by decide, by decide⟩ (v := (.int (103 : Int32))) rfl (hb hby own_l7_d17) ?_
  show Go p e below _ T0 (mkF m 18 #[.val (.ref u), .val (.ref v), .val (.int (2 : Int32))] [(.int (103 : Int32))])
  refine Go.of (fun _ kz => XS.aloadN X0.here hx rfl (hb hby own_l7_d18) rfl rfl kz) ?_
  show Go p e below _ T0 (mkF m 19 #[.val (.ref u), .val (.ref v), .val (.int (2 : Int32))] [(.ref v), (.int (103 : Int32))])
  refine Go.of (fun _ kz => XS.iloadN X0.here hx rfl (hb hby own_l7_d19) rfl kz) ?_
  show Go p e below _ T0 (mkF m 20 #[.val (.ref u), .val (.ref v), .val (.int (2 : Int32))] [(.int (2 : Int32)), (.ref v), (.int (103 : Int32))])
  refine Go.baload X0 hx hZ e0 AV ⟨by decide, by decide⟩ (v := (.int (103 : Int32))) rfl (hb hby own_l7_d20) ?_
  show Go p e below _ T0 (mkF m 21 #[.val (.ref u), .val (.ref v), .val (.int (2 : Int32))] [(.int (103 : Int32)), (.int (103 : Int32))])
  refine Go.of (fun _ kz => XS.icmpYes X0.here hx rfl (pc0 := 21) (pc' := 26) rfl (hb hby own_l7_d21) rfl (teq (by decide : (103 : Int32) = (103 : Int32))).1 (by decide) (by decide) kz) ?_
  show Go p e below _ T0 (mkF m 26 #[.val (.ref u), .val (.ref v), .val (.int (2 : Int32))] [])
  refine Go.of (fun _ kz => XS.iinc X0.here hx rfl (hb hby own_l7_d26) rfl (l' := #[.val (.ref u), .val (.ref v), .val (.int (3 : Int32))]) rfl kz) ?_
  show Go p e below _ T0 (mkF m 29 #[.val (.ref u), .val (.ref v), .val (.int (3 : Int32))] [])
  refine Go.of (fun _ kz => XS.goto X0.here hx rfl (pc0 := 29) (pc' := 9) rfl (hb hby own_l7_d29) (by decide) (by decide) kz) ?_
  show Go p e below _ T0 (mkF m 9 #[.val (.ref u), .val (.ref v), .val (.int (3 : Int32))] [])
  refine Go.of (fun _ kz => XS.iloadN X0.here hx rfl (hb hby own_l7_d9) rfl kz) ?_
  show Go p e below _ T0 (mkF m 10 #[.val (.ref u), .val (.ref v), .val (.int (3 : Int32))] [(.int (3 : Int32))])
  refine Go.of (fun _ kz => XS.aloadN X0.here hx rfl (hb hby own_l7_d10) rfl rfl kz) ?_
  show Go p e below _ T0 (mkF m 11 #[.val (.ref u), .val (.ref v), .val (.int (3 : Int32))] [(.ref u), (.int (3 : Int32))])
  refine Go.len X0 hx hZ e0 AU (hb hby own_l7_d11) ?_
  show Go p e below _ T0 (mkF m 12 #[.val (.ref u), .val (.ref v), .val (.int (3 : Int32))] [(.int (7 : Int32)), (.int (3 : Int32))])
  refine Go.of (fun _ kz => XS.icmpNo X0.here hx rfl (hb hby own_l7_d12) rfl (tlt (by decide : (3 : Int32) < (7 : Int32))).2.1 kz) ?_
  show Go p e below _ T0 (mkF m 15 #[.val (.ref u), .val (.ref v), .val (.int (3 : Int32))] [])
  refine Go.of (fun _ kz => XS.aloadN X0.here hx rfl (hb hby own_l7_d15) rfl rfl kz) ?_
  show Go p e below _ T0 (mkF m 16 #[.val (.ref u), .val (.ref v), .val (.int (3 : Int32))] [(.ref u)])
  refine Go.of (fun _ kz => XS.iloadN X0.here hx rfl (hb hby own_l7_d16) rfl kz) ?_
  show Go p e below _ T0 (mkF m 17 #[.val (.ref u), .val (.ref v), .val (.int (3 : Int32))] [(.int (3 : Int32)), (.ref u)])
  refine Go.baload X0 hx hZ e0 AU ⟨by decide, by decide⟩ (v := (.int (108 : Int32))) rfl (hb hby own_l7_d17) ?_
  show Go p e below _ T0 (mkF m 18 #[.val (.ref u), .val (.ref v), .val (.int (3 : Int32))] [(.int (108 : Int32))])
  refine Go.of (fun _ kz => XS.aloadN X0.here hx rfl (hb hby own_l7_d18) rfl rfl kz) ?_
  show Go p e below _ T0 (mkF m 19 #[.val (.ref u), .val (.ref v), .val (.int (3 : Int32))] [(.ref v), (.int (108 : Int32))])
  refine Go.of (fun _ kz => XS.iloadN X0.here hx rfl (hb hby own_l7_d19) rfl kz) ?_
  show Go p e below _ T0 (mkF m 20 #[.val (.ref u), .val (.ref v), .val (.int (3 : Int32))] [(.int (3 : Int32)), (.ref v), (.int (108 : Int32))])
  refine Go.baload X0 hx hZ e0 AV ⟨by decide, by decide⟩ (v := (.int (108 : Int32))) rfl (hb hby own_l7_d20) ?_
  show Go p e below _ T0 (mkF m 21 #[.val (.ref u), .val (.ref v), .val (.int (3 : Int32))] [(.int (108 : Int32)), (.int (108 : Int32))])
  refine Go.of (fun _ kz => XS.icmpYes X0.here hx rfl (pc0 := 21) (pc' := 26) rfl (hb hby own_l7_d21) rfl (teq (by decide : (108 : Int32) = (108 : Int32))).1 (by decide) (by decide) kz) ?_
  show Go p e below _ T0 (mkF m 26 #[.val (.ref u), .val (.ref v), .val (.int (3 : Int32))] [])
  refine Go.of (fun _ kz => XS.iinc X0.here hx rfl (hb hby own_l7_d26) rfl (l' := #[.val (.ref u), .val (.ref v), .val (.int (4 : Int32))]) rfl kz) ?_
  show Go p e below _ T0 (mkF m 29 #[.val (.ref u), .val (.ref v), .val (.int (4 : Int32))] [])
  refine Go.of (fun _ kz => XS.goto X0.here hx rfl (pc0 := 29) (pc' := 9) rfl (hb hby own_l7_d29) (by decide) (by decide) kz) ?_
  show Go p e below _ T0 (mkF m 9 #[.val (.ref u), .val (.ref v), .val (.int (4 : Int32))] [])
  refine Go.of (fun _ kz => XS.iloadN X0.here hx rfl (hb hby own_l7_d9) rfl kz) ?_
  show Go p e below _ T0 (mkF m 10 #[.val (.ref u), .val (.ref v), .val (.int (4 : Int32))] [(.int (4 : Int32))])
  refine Go.of (fun _ kz => XS.aloadN X0.here hx rfl (hb hby own_l7_d10) rfl rfl kz) ?_
  show Go p e below _ T0 (mkF m 11 #[.val (.ref u), .val (.ref v), .val (.int (4 : Int32))] [(.ref u), (.int (4 : Int32))])
  refine Go.len X0 hx hZ e0 AU (hb hby own_l7_d11) ?_
  show Go p e below _ T0 (mkF m 12 #[.val (.ref u), .val (.ref v), .val (.int (4 : Int32))] [(.int (7 : Int32)), (.int (4 : Int32))])
  refine Go.of (fun _ kz => XS.icmpNo X0.here hx rfl (hb hby own_l7_d12) rfl (tlt (by decide : (4 : Int32) < (7 : Int32))).2.1 kz) ?_
  show Go p e below _ T0 (mkF m 15 #[.val (.ref u), .val (.ref v), .val (.int (4 : Int32))] [])
  refine Go.of (fun _ kz => XS.aloadN X0.here hx rfl (hb hby own_l7_d15) rfl rfl kz) ?_
  show Go p e below _ T0 (mkF m 16 #[.val (.ref u), .val (.ref v), .val (.int (4 : Int32))] [(.ref u)])
  refine Go.of (fun _ kz => XS.iloadN X0.here hx rfl (hb hby own_l7_d16) rfl kz) ?_
  show Go p e below _ T0 (mkF m 17 #[.val (.ref u), .val (.ref v), .val (.int (4 : Int32))] [(.int (4 : Int32)), (.ref u)])
  refine Go.baload X0 hx hZ e0 AU ⟨by decide, by decide⟩ (v := (.int (105 : Int32))) rfl (hb hby own_l7_d17) ?_
  show Go p e below _ T0 (mkF m 18 #[.val (.ref u), .val (.ref v), .val (.int (4 : Int32))] [(.int (105 : Int32))])
  refine Go.of (fun _ kz => XS.aloadN X0.here hx rfl (hb hby own_l7_d18) rfl rfl kz) ?_
  show Go p e below _ T0 (mkF m 19 #[.val (.ref u), .val (.ref v), .val (.int (4 : Int32))] [(.ref v), (.int (105 : Int32))])
  refine Go.of (fun _ kz => XS.iloadN X0.here hx rfl (hb hby own_l7_d19) rfl kz) ?_
  show Go p e below _ T0 (mkF m 20 #[.val (.ref u), .val (.ref v), .val (.int (4 : Int32))] [(.int (4 : Int32)), (.ref v), (.int (105 : Int32))])
  refine Go.baload X0 hx hZ e0 AV ⟨by decide, by decide⟩ (v := (.int (105 : Int32))) rfl (hb hby own_l7_d20) ?_
  show Go p e below _ T0 (mkF m 21 #[.val (.ref u), .val (.ref v), .val (.int (4 : Int32))] [(.int (105 : Int32)), (.int (105 : Int32))])
  refine Go.of (fun _ kz => XS.icmpYes X0.here hx rfl (pc0 := 21) (pc' := 26) rfl (hb hby own_l7_d21) rfl (teq (by decide : (105 : Int32) = (105 : Int32))).1 (by decide) (by decide) kz) ?_
  show Go p e below _ T0 (mkF m 26 #[.val (.ref u), .val (.ref v), .val (.int (4 : Int32))] [])
  refine Go.of (fun _ kz => XS.iinc X0.here hx rfl (hb hby own_l7_d26) rfl (l' := #[.val (.ref u), .val (.ref v), .val (.int (5 : Int32))]) rfl kz) ?_
  show Go p e below _ T0 (mkF m 29 #[.val (.ref u), .val (.ref v), .val (.int (5 : Int32))] [])
  refine Go.of (fun _ kz => XS.goto X0.here hx rfl (pc0 := 29) (pc' := 9) rfl (hb hby own_l7_d29) (by decide) (by decide) kz) ?_
  show Go p e below _ T0 (mkF m 9 #[.val (.ref u), .val (.ref v), .val (.int (5 : Int32))] [])
  refine Go.of (fun _ kz => XS.iloadN X0.here hx rfl (hb hby own_l7_d9) rfl kz) ?_
  show Go p e below _ T0 (mkF m 10 #[.val (.ref u), .val (.ref v), .val (.int (5 : Int32))] [(.int (5 : Int32))])
  refine Go.of (fun _ kz => XS.aloadN X0.here hx rfl (hb hby own_l7_d10) rfl rfl kz) ?_
  show Go p e below _ T0 (mkF m 11 #[.val (.ref u), .val (.ref v), .val (.int (5 : Int32))] [(.ref u), (.int (5 : Int32))])
  refine Go.len X0 hx hZ e0 AU (hb hby own_l7_d11) ?_
  show Go p e below _ T0 (mkF m 12 #[.val (.ref u), .val (.ref v), .val (.int (5 : Int32))] [(.int (7 : Int32)), (.int (5 : Int32))])
  refine Go.of (fun _ kz => XS.icmpNo X0.here hx rfl (hb hby own_l7_d12) rfl (tlt (by decide : (5 : Int32) < (7 : Int32))).2.1 kz) ?_
  show Go p e below _ T0 (mkF m 15 #[.val (.ref u), .val (.ref v), .val (.int (5 : Int32))] [])
  refine Go.of (fun _ kz => XS.aloadN X0.here hx rfl (hb hby own_l7_d15) rfl rfl kz) ?_
  show Go p e below _ T0 (mkF m 16 #[.val (.ref u), .val (.ref v), .val (.int (5 : Int32))] [(.ref u)])
  refine Go.of (fun _ kz => XS.iloadN X0.here hx rfl (hb hby own_l7_d16) rfl kz) ?_
  show Go p e below _ T0 (mkF m 17 #[.val (.ref u), .val (.ref v), .val (.int (5 : Int32))] [(.int (5 : Int32)), (.ref u)])
  refine Go.baload X0 hx hZ e0 AU ⟨by decide, by decide⟩ (v := (.int (115 : Int32))) rfl (hb hby own_l7_d17) ?_
  show Go p e below _ T0 (mkF m 18 #[.val (.ref u), .val (.ref v), .val (.int (5 : Int32))] [(.int (115 : Int32))])
  refine Go.of (fun _ kz => XS.aloadN X0.here hx rfl (hb hby own_l7_d18) rfl rfl kz) ?_
  show Go p e below _ T0 (mkF m 19 #[.val (.ref u), .val (.ref v), .val (.int (5 : Int32))] [(.ref v), (.int (115 : Int32))])
  refine Go.of (fun _ kz => XS.iloadN X0.here hx rfl (hb hby own_l7_d19) rfl kz) ?_
  show Go p e below _ T0 (mkF m 20 #[.val (.ref u), .val (.ref v), .val (.int (5 : Int32))] [(.int (5 : Int32)), (.ref v), (.int (115 : Int32))])
  refine Go.baload X0 hx hZ e0 AV ⟨by decide, by decide⟩ (v := (.int (115 : Int32))) rfl (hb hby own_l7_d20) ?_
  show Go p e below _ T0 (mkF m 21 #[.val (.ref u), .val (.ref v), .val (.int (5 : Int32))] [(.int (115 : Int32)), (.int (115 : Int32))])
  refine Go.of (fun _ kz => XS.icmpYes X0.here hx rfl (pc0 := 21) (pc' := 26) rfl (hb hby own_l7_d21) rfl (teq (by decide : (115 : Int32) = (115 : Int32))).1 (by decide) (by decide) kz) ?_
  show Go p e below _ T0 (mkF m 26 #[.val (.ref u), .val (.ref v), .val (.int (5 : Int32))] [])
  refine Go.of (fun _ kz => XS.iinc X0.here hx rfl (hb hby own_l7_d26) rfl (l' := #[.val (.ref u), .val (.ref v), .val (.int (6 : Int32))]) rfl kz) ?_
  show Go p e below _ T0 (mkF m 29 #[.val (.ref u), .val (.ref v), .val (.int (6 : Int32))] [])
  refine Go.of (fun _ kz => XS.goto X0.here hx rfl (pc0 := 29) (pc' := 9) rfl (hb hby own_l7_d29) (by decide) (by decide) kz) ?_
  show Go p e below _ T0 (mkF m 9 #[.val (.ref u), .val (.ref v), .val (.int (6 : Int32))] [])
  refine Go.of (fun _ kz => XS.iloadN X0.here hx rfl (hb hby own_l7_d9) rfl kz) ?_
  show Go p e below _ T0 (mkF m 10 #[.val (.ref u), .val (.ref v), .val (.int (6 : Int32))] [(.int (6 : Int32))])
  refine Go.of (fun _ kz => XS.aloadN X0.here hx rfl (hb hby own_l7_d10) rfl rfl kz) ?_
  show Go p e below _ T0 (mkF m 11 #[.val (.ref u), .val (.ref v), .val (.int (6 : Int32))] [(.ref u), (.int (6 : Int32))])
  refine Go.len X0 hx hZ e0 AU (hb hby own_l7_d11) ?_
  show Go p e below _ T0 (mkF m 12 #[.val (.ref u), .val (.ref v), .val (.int (6 : Int32))] [(.int (7 : Int32)), (.int (6 : Int32))])
  refine Go.of (fun _ kz => XS.icmpNo X0.here hx rfl (hb hby own_l7_d12) rfl (tlt (by decide : (6 : Int32) < (7 : Int32))).2.1 kz) ?_
  show Go p e below _ T0 (mkF m 15 #[.val (.ref u), .val (.ref v), .val (.int (6 : Int32))] [])
  refine Go.of (fun _ kz => XS.aloadN X0.here hx rfl (hb hby own_l7_d15) rfl rfl kz) ?_
  show Go p e below _ T0 (mkF m 16 #[.val (.ref u), .val (.ref v), .val (.int (6 : Int32))] [(.ref u)])
  refine Go.of (fun _ kz => XS.iloadN X0.here hx rfl (hb hby own_l7_d16) rfl kz) ?_
  show Go p e below _ T0 (mkF m 17 #[.val (.ref u), .val (.ref v), .val (.int (6 : Int32))] [(.int (6 : Int32)), (.ref u)])
  refine Go.baload X0 hx hZ e0 AU ⟨by decide, by decide⟩ (v := (.int (104 : Int32))) rfl (hb hby own_l7_d17) ?_
  show Go p e below _ T0 (mkF m 18 #[.val (.ref u), .val (.ref v), .val (.int (6 : Int32))] [(.int (104 : Int32))])
  refine Go.of (fun _ kz => XS.aloadN X0.here hx rfl (hb hby own_l7_d18) rfl rfl kz) ?_
  show Go p e below _ T0 (mkF m 19 #[.val (.ref u), .val (.ref v), .val (.int (6 : Int32))] [(.ref v), (.int (104 : Int32))])
  refine Go.of (fun _ kz => XS.iloadN X0.here hx rfl (hb hby own_l7_d19) rfl kz) ?_
  show Go p e below _ T0 (mkF m 20 #[.val (.ref u), .val (.ref v), .val (.int (6 : Int32))] [(.int (6 : Int32)), (.ref v), (.int (104 : Int32))])
  refine Go.baload X0 hx hZ e0 AV ⟨by decide, by decide⟩ (v := (.int (104 : Int32))) rfl (hb hby own_l7_d20) ?_
  show Go p e below _ T0 (mkF m 21 #[.val (.ref u), .val (.ref v), .val (.int (6 : Int32))] [(.int (104 : Int32)), (.int (104 : Int32))])
  refine Go.of (fun _ kz => XS.icmpYes X0.here hx rfl (pc0 := 21) (pc' := 26) rfl (hb hby own_l7_d21) rfl (teq (by decide : (104 : Int32) = (104 : Int32))).1 (by decide) (by decide) kz) ?_
  show Go p e below _ T0 (mkF m 26 #[.val (.ref u), .val (.ref v), .val (.int (6 : Int32))] [])
  refine Go.of (fun _ kz => XS.iinc X0.here hx rfl (hb hby own_l7_d26) rfl (l' := #[.val (.ref u), .val (.ref v), .val (.int (7 : Int32))]) rfl kz) ?_
  show Go p e below _ T0 (mkF m 29 #[.val (.ref u), .val (.ref v), .val (.int (7 : Int32))] [])
  refine Go.of (fun _ kz => XS.goto X0.here hx rfl (pc0 := 29) (pc' := 9) rfl (hb hby own_l7_d29) (by decide) (by decide) kz) ?_
  show Go p e below _ T0 (mkF m 9 #[.val (.ref u), .val (.ref v), .val (.int (7 : Int32))] [])
  refine Go.of (fun _ kz => XS.iloadN X0.here hx rfl (hb hby own_l7_d9) rfl kz) ?_
  show Go p e below _ T0 (mkF m 10 #[.val (.ref u), .val (.ref v), .val (.int (7 : Int32))] [(.int (7 : Int32))])
  refine Go.of (fun _ kz => XS.aloadN X0.here hx rfl (hb hby own_l7_d10) rfl rfl kz) ?_
  show Go p e below _ T0 (mkF m 11 #[.val (.ref u), .val (.ref v), .val (.int (7 : Int32))] [(.ref u), (.int (7 : Int32))])
  refine Go.len X0 hx hZ e0 AU (hb hby own_l7_d11) ?_
  show Go p e below _ T0 (mkF m 12 #[.val (.ref u), .val (.ref v), .val (.int (7 : Int32))] [(.int (7 : Int32)), (.int (7 : Int32))])
  refine Go.of (fun _ kz => XS.icmpYes X0.here hx rfl (pc0 := 12) (pc' := 32) rfl (hb hby own_l7_d12) rfl (flt (by decide : ¬ ((7 : Int32) < (7 : Int32)))).2.1 (by decide) (by decide) kz) ?_
  show Go p e below _ T0 (mkF m 32 #[.val (.ref u), .val (.ref v), .val (.int (7 : Int32))] [])
  refine Go.of (fun _ kz => XS.iconst X0.here hx rfl (hb hby own_l7_d32) kz) ?_
  show Go p e below _ T0 (mkF m 33 #[.val (.ref u), .val (.ref v), .val (.int (7 : Int32))] [(.int (1 : Int32))])
  exact Go.retN X0 hx hlk (t := .boolean) hret (by simp) (hb hby own_l7_d33) (by decide) (by decide) ⟨rfl, rfl, e0⟩
theorem own_q7_d0 : decode jdk_42_method_66_code 0 = .ok (.aload_n 0, 1) := by decide +kernel
theorem own_q7_d1 : decode jdk_42_method_66_code 1 = .ok (.aload_n 1, 1) := by decide +kernel
theorem own_q7_d2 : decode jdk_42_method_66_code 2 = .ok (.if_acmp .ne 5, 3) := by decide +kernel
theorem own_q7_d5 : decode jdk_42_method_66_code 5 = .ok (.iconst 1, 1) := by decide +kernel
theorem own_q7_d6 : decode jdk_42_method_66_code 6 = .ok (.ireturn, 1) := by decide +kernel
theorem own_q7_d7 : decode jdk_42_method_66_code 7 = .ok (.aload_n 1, 1) := by decide +kernel
theorem own_q7_d8 : decode jdk_42_method_66_code 8 = .ok (.instanceof 10, 3) := by decide +kernel
theorem own_q7_d11 : decode jdk_42_method_66_code 11 = .ok (.ifCond .eq 43, 3) := by decide +kernel
theorem own_q7_d14 : decode jdk_42_method_66_code 14 = .ok (.aload_n 1, 1) := by decide +kernel
theorem own_q7_d15 : decode jdk_42_method_66_code 15 = .ok (.checkcast 10, 3) := by decide +kernel
theorem own_q7_d18 : decode jdk_42_method_66_code 18 = .ok (.astore_n 2, 1) := by decide +kernel
theorem own_q7_d19 : decode jdk_42_method_66_code 19 = .ok (.getstatic 38, 3) := by decide +kernel
theorem own_q7_d22 : decode jdk_42_method_66_code 22 = .ok (.ifCond .eq 14, 3) := by decide +kernel
theorem own_q7_d25 : decode jdk_42_method_66_code 25 = .ok (.aload_n 0, 1) := by decide +kernel
theorem own_q7_d26 : decode jdk_42_method_66_code 26 = .ok (.getfield 15, 3) := by decide +kernel
theorem own_q7_d29 : decode jdk_42_method_66_code 29 = .ok (.aload_n 2, 1) := by decide +kernel
theorem own_q7_d30 : decode jdk_42_method_66_code 30 = .ok (.getfield 15, 3) := by decide +kernel
theorem own_q7_d33 : decode jdk_42_method_66_code 33 = .ok (.if_icmp .ne 21, 3) := by decide +kernel
theorem own_q7_d36 : decode jdk_42_method_66_code 36 = .ok (.aload_n 0, 1) := by decide +kernel
theorem own_q7_d37 : decode jdk_42_method_66_code 37 = .ok (.getfield 9, 3) := by decide +kernel
theorem own_q7_d40 : decode jdk_42_method_66_code 40 = .ok (.aload_n 2, 1) := by decide +kernel
theorem own_q7_d41 : decode jdk_42_method_66_code 41 = .ok (.getfield 9, 3) := by decide +kernel
theorem own_q7_d44 : decode jdk_42_method_66_code 44 = .ok (.invokestatic 541, 3) := by decide +kernel
theorem own_q7_d47 : decode jdk_42_method_66_code 47 = .ok (.ifCond .eq 7, 3) := by decide +kernel
theorem own_q7_d50 : decode jdk_42_method_66_code 50 = .ok (.iconst 1, 1) := by decide +kernel
theorem own_q7_d51 : decode jdk_42_method_66_code 51 = .ok (.goto 4, 3) := by decide +kernel
theorem own_q7_d55 : decode jdk_42_method_66_code 55 = .ok (.ireturn, 1) := by decide +kernel
set_option maxRecDepth 65536 in
set_option maxHeartbeats 40000000 in
theorem own_rmQ7 (l : Launch) (Z : State) (a0 : Array Value) (hw : ∀ d ∈ tables_1, d.before a0 Z = true) (x y u v : Addr) (ku kv : ClassId) (cz : Int32) (h0 : Heap) (EX : Exa Z h0 x "java/lang/String") (CX : Fld Z h0 x "java/lang/String" "coder" "B" (.int 0)) (WX : Fld Z h0 x "java/lang/String" "value" "[B" (.ref u)) (AU : Arv Z h0 u ku .byte 7 [(.int 101), (.int 110), (.int 103), (.int 108), (.int 105), (.int 115), (.int 104)] (.int 0)) (EY : Exa Z h0 y "java/lang/String") (CY : Fld Z h0 y "java/lang/String" "coder" "B" (.int 0)) (WY : Fld Z h0 y "java/lang/String" "value" "[B" (.ref v)) (AV : Arv Z h0 v kv .byte 7 [(.int 101), (.int 110), (.int 103), (.int 108), (.int 105), (.int 115), (.int 104)] (.int 0)) (SB : Sta Z h0 "java/lang/String" "COMPACT_STRINGS" "Z" (.int cz)) (hz : ¬ cz = (0 : Int32)) :
    MetFree l (⟨"java/lang/String", "equals", "(Ljava/lang/Object;)Z"⟩ : MethodName) (head1 [Jvm.Cond.code (⟨"java/lang/String", "equals", "(Ljava/lang/Object;)Z"⟩ : MethodName) jdk_42_method_66_code 3 (some .boolean)] ({ frames := 1, cells := 0, slots := 0, locals := 14 } : Room)) (fun aa U => aa = #[(.ref x), (.ref y)] ∧ Z.Warmed39 U.vm ∧ U.heap = h0) (fun _ _ _ _ _ => True) (fun _ U o U' => ∃ v L, o = .returned v ∧ (PQ h0 (some (.int 1))) v U'.heap L ∧ FrameEnd U o U' L ({ frames := 1, cells := 0, slots := 0, locals := 14 } : Room).cells ({ frames := 1, cells := 0, slots := 0, locals := 14 } : Room).slots) := by
  refine goBody (y := (⟨"java/lang/String", "equals", "(Ljava/lang/Object;)Z"⟩ : MethodName)) (Q := PQ h0 (some (.int 1))) (plainFor_of_name (by first | (simp [plainName, overriddenIn]; done) | decide +kernel)) ?_
  intro p e s m below meth c T0 hx hZ hby hml hown hnm hret hlk X0 e0
  have hown : s.vm.findClass "java/lang/String" = some m.cls := hown
  refine Go.cast (g' := mkF m 0 #[.val (.ref x), .val (.ref y), .unset] []) (by first | (simp [entryFrame, mkF, argsToLocals, Value.category]; done) | rfl) ?_
  show Go p e below _ T0 (mkF m 0 #[.val (.ref x), .val (.ref y), .unset] [])
  refine Go.of (fun _ kz => XS.aloadN X0.here hx rfl (hb hby own_q7_d0) rfl rfl kz) ?_
  show Go p e below _ T0 (mkF m 1 #[.val (.ref x), .val (.ref y), .unset] [(.ref x)])
  refine Go.of (fun _ kz => XS.aloadN X0.here hx rfl (hb hby own_q7_d1) rfl rfl kz) ?_
  show Go p e below _ T0 (mkF m 2 #[.val (.ref x), .val (.ref y), .unset] [(.ref y), (.ref x)])
  by_cases q2 : (Value.ref x) = Value.ref y
  ·
    refine Go.of (fun _ kz => acmp X0 hx rfl (x := .ref x) (y := .ref y) rfl rfl (pc0 := 2) (pc' := 5) (same := true) rfl (hb hby own_q7_d2) rfl (decide_eq_true q2) (by decide) (by decide) kz) ?_
    show Go p e below _ T0 (mkF m 5 #[.val (.ref x), .val (.ref y), .unset] [])
    refine Go.of (fun _ kz => XS.iconst X0.here hx rfl (hb hby own_q7_d5) kz) ?_
    show Go p e below _ T0 (mkF m 6 #[.val (.ref x), .val (.ref y), .unset] [(.int (1 : Int32))])
    exact Go.retN X0 hx hlk (t := .boolean) hret (by simp) (hb hby own_q7_d6) (by decide) (by decide) ⟨rfl, rfl, e0⟩
  ·
    refine Go.of (fun _ kz => acmp X0 hx rfl (x := .ref x) (y := .ref y) rfl rfl (pc0 := 2) (pc' := 7) (same := false) rfl (hb hby own_q7_d2) rfl (decide_eq_false q2) (by decide) (by decide) kz) ?_
    show Go p e below _ T0 (mkF m 7 #[.val (.ref x), .val (.ref y), .unset] [])
    refine Go.of (fun _ kz => XS.aloadN X0.here hx rfl (hb hby own_q7_d7) rfl rfl kz) ?_
    show Go p e below _ T0 (mkF m 8 #[.val (.ref x), .val (.ref y), .unset] [(.ref y)])
    refine Go.instOf X0 hx hZ hown (hw _ (List.mem_of_getElem? (i := 48) rfl)) e0 (Ins.self EY) (hb hby own_q7_d8) fun T1 X1 e1 => ?_
    show Go p e below _ T1 (mkF m 11 #[.val (.ref x), .val (.ref y), .unset] [(.int (1 : Int32))])
    refine Go.of (fun _ kz => XS.ifNo X1.here hx rfl (hb hby own_q7_d11) rfl ((if0 _ _).trans (feq (by decide : ¬ ((1 : Int32) = (0 : Int32)))).1) kz) ?_
    show Go p e below _ T1 (mkF m 14 #[.val (.ref x), .val (.ref y), .unset] [])
    refine Go.of (fun _ kz => XS.aloadN X1.here hx rfl (hb hby own_q7_d14) rfl rfl kz) ?_
    show Go p e below _ T1 (mkF m 15 #[.val (.ref x), .val (.ref y), .unset] [(.ref y)])
    refine Go.castTo X1 hx hZ hown (hw _ (List.mem_of_getElem? (i := 48) rfl)) e1 (Ins.self EY) (hb hby own_q7_d15) fun T2 X2 e2 => ?_
    show Go p e below _ T2 (mkF m 18 #[.val (.ref x), .val (.ref y), .unset] [(.ref y)])
    refine Go.of (fun _ kz => XS.astoreN X2.here hx rfl (hb hby own_q7_d18) rfl rfl (l' := #[.val (.ref x), .val (.ref y), .val (.ref y)]) rfl kz) ?_
    show Go p e below _ T2 (mkF m 19 #[.val (.ref x), .val (.ref y), .val (.ref y)] [])
    refine Go.gets X2 hx hZ hown (hw _ (List.mem_of_getElem? (i := 50) rfl)) Via.refl e2 SB (hb hby own_q7_d19) fun T3 X3 e3 => ?_
    show Go p e below _ T3 (mkF m 22 #[.val (.ref x), .val (.ref y), .val (.ref y)] [(.int cz)])
    refine Go.of (fun _ kz => XS.ifNo X3.here hx rfl (hb hby own_q7_d22) rfl ((if0 _ _).trans (feq hz).1) kz) ?_
    show Go p e below _ T3 (mkF m 25 #[.val (.ref x), .val (.ref y), .val (.ref y)] [])
    refine Go.of (fun _ kz => XS.aloadN X3.here hx rfl (hb hby own_q7_d25) rfl rfl kz) ?_
    show Go p e below _ T3 (mkF m 26 #[.val (.ref x), .val (.ref y), .val (.ref y)] [(.ref x)])
    refine Go.getf X3 hx hZ hown (hw _ (List.mem_of_getElem? (i := 51) rfl)) Via.refl e3 CX (hb hby own_q7_d26) fun T4 X4 e4 => ?_
    show Go p e below _ T4 (mkF m 29 #[.val (.ref x), .val (.ref y), .val (.ref y)] [(.int (0 : Int32))])
    refine Go.of (fun _ kz => XS.aloadN X4.here hx rfl (hb hby own_q7_d29) rfl rfl kz) ?_
    show Go p e below _ T4 (mkF m 30 #[.val (.ref x), .val (.ref y), .val (.ref y)] [(.ref y), (.int (0 : Int32))])
    refine Go.getf X4 hx hZ hown (hw _ (List.mem_of_getElem? (i := 51) rfl)) Via.refl e4 CY (hb hby own_q7_d30) fun T5 X5 e5 => ?_
    show Go p e below _ T5 (mkF m 33 #[.val (.ref x), .val (.ref y), .val (.ref y)] [(.int (0 : Int32)), (.int (0 : Int32))])
    refine Go.of (fun _ kz => XS.icmpNo X5.here hx rfl (hb hby own_q7_d33) rfl (teq (by decide : (0 : Int32) = (0 : Int32))).2 kz) ?_
    show Go p e below _ T5 (mkF m 36 #[.val (.ref x), .val (.ref y), .val (.ref y)] [])
    refine Go.of (fun _ kz => XS.aloadN X5.here hx rfl (hb hby own_q7_d36) rfl rfl kz) ?_
    show Go p e below _ T5 (mkF m 37 #[.val (.ref x), .val (.ref y), .val (.ref y)] [(.ref x)])
    refine Go.getf X5 hx hZ hown (hw _ (List.mem_of_getElem? (i := 52) rfl)) Via.refl e5 WX (hb hby own_q7_d37) fun T6 X6 e6 => ?_
    show Go p e below _ T6 (mkF m 40 #[.val (.ref x), .val (.ref y), .val (.ref y)] [(.ref u)])
    refine Go.of (fun _ kz => XS.aloadN X6.here hx rfl (hb hby own_q7_d40) rfl rfl kz) ?_
    show Go p e below _ T6 (mkF m 41 #[.val (.ref x), .val (.ref y), .val (.ref y)] [(.ref y), (.ref u)])
    refine Go.getf X6 hx hZ hown (hw _ (List.mem_of_getElem? (i := 52) rfl)) Via.refl e6 WY (hb hby own_q7_d41) fun T7 X7 e7 => ?_
    show Go p e below _ T7 (mkF m 44 #[.val (.ref x), .val (.ref y), .val (.ref y)] [(.ref v), (.ref u)])
    refine Go.callSP (W := 0) (y := (⟨"java/lang/StringLatin1", "equals", "([B[B)Z"⟩ : MethodName)) (argsL := [(.ref u), (.ref v)]) (rest := []) (r := some (.int (1 : Int32))) X7 hx hZ hown (hw _ (List.mem_of_getElem? (i := 53) rfl)) (hw _ (List.mem_of_getElem? (i := 54) rfl)) (hw _ (List.mem_of_getElem? (i := 55) rfl)) (hw _ (List.mem_of_getElem? (i := 56) rfl)) (by decide) (own_rmL7 l Z a0 hw u v ku kv h0 AU AV) e7 (by rw [hml]; rfl) (lenOf own_dsc1 rfl) (hb hby own_q7_d44) rfl (Nat.le_of_eq rfl) (by decide) (by decide) (by decide) (by decide) fun T8 X8 e8 => ?_
    show Go p e below _ T8 (mkF m 47 #[.val (.ref x), .val (.ref y), .val (.ref y)] [(.int (1 : Int32))])
    refine Go.of (fun _ kz => XS.ifNo X8.here hx rfl (hb hby own_q7_d47) rfl ((if0 _ _).trans (feq (by decide : ¬ ((1 : Int32) = (0 : Int32)))).1) kz) ?_
    show Go p e below _ T8 (mkF m 50 #[.val (.ref x), .val (.ref y), .val (.ref y)] [])
    refine Go.of (fun _ kz => XS.iconst X8.here hx rfl (hb hby own_q7_d50) kz) ?_
    show Go p e below _ T8 (mkF m 51 #[.val (.ref x), .val (.ref y), .val (.ref y)] [(.int (1 : Int32))])
    refine Go.of (fun _ kz => XS.goto X8.here hx rfl (pc0 := 51) (pc' := 55) rfl (hb hby own_q7_d51) (by decide) (by decide) kz) ?_
    show Go p e below _ T8 (mkF m 55 #[.val (.ref x), .val (.ref y), .val (.ref y)] [(.int (1 : Int32))])
    exact Go.retN X8 hx hlk (t := .boolean) hret (by simp) (hb hby own_q7_d55) (by decide) (by decide) ⟨rfl, rfl, e8⟩
theorem own_l25_d0 : decode jdk_43_method_13_code 0 = .ok (.aload_n 0, 1) := by decide +kernel
theorem own_l25_d1 : decode jdk_43_method_13_code 1 = .ok (.arraylength, 1) := by decide +kernel
theorem own_l25_d2 : decode jdk_43_method_13_code 2 = .ok (.aload_n 1, 1) := by decide +kernel
theorem own_l25_d3 : decode jdk_43_method_13_code 3 = .ok (.arraylength, 1) := by decide +kernel
theorem own_l25_d4 : decode jdk_43_method_13_code 4 = .ok (.if_icmp .ne 30, 3) := by decide +kernel
theorem own_l25_d7 : decode jdk_43_method_13_code 7 = .ok (.iconst 0, 1) := by decide +kernel
theorem own_l25_d8 : decode jdk_43_method_13_code 8 = .ok (.istore_n 2, 1) := by decide +kernel
theorem own_l25_d9 : decode jdk_43_method_13_code 9 = .ok (.iload_n 2, 1) := by decide +kernel
theorem own_l25_d10 : decode jdk_43_method_13_code 10 = .ok (.aload_n 0, 1) := by decide +kernel
theorem own_l25_d11 : decode jdk_43_method_13_code 11 = .ok (.arraylength, 1) := by decide +kernel
theorem own_l25_d12 : decode jdk_43_method_13_code 12 = .ok (.if_icmp .ge 20, 3) := by decide +kernel
theorem own_l25_d15 : decode jdk_43_method_13_code 15 = .ok (.aload_n 0, 1) := by decide +kernel
theorem own_l25_d16 : decode jdk_43_method_13_code 16 = .ok (.iload_n 2, 1) := by decide +kernel
theorem own_l25_d17 : decode jdk_43_method_13_code 17 = .ok (.baload, 1) := by decide +kernel
theorem own_l25_d18 : decode jdk_43_method_13_code 18 = .ok (.aload_n 1, 1) := by decide +kernel
theorem own_l25_d19 : decode jdk_43_method_13_code 19 = .ok (.iload_n 2, 1) := by decide +kernel
theorem own_l25_d20 : decode jdk_43_method_13_code 20 = .ok (.baload, 1) := by decide +kernel
theorem own_l25_d21 : decode jdk_43_method_13_code 21 = .ok (.if_icmp .eq 5, 3) := by decide +kernel
theorem own_l25_d26 : decode jdk_43_method_13_code 26 = .ok (.iinc 2 1, 3) := by decide +kernel
theorem own_l25_d29 : decode jdk_43_method_13_code 29 = .ok (.goto (-20), 3) := by decide +kernel
theorem own_l25_d32 : decode jdk_43_method_13_code 32 = .ok (.iconst 1, 1) := by decide +kernel
theorem own_l25_d33 : decode jdk_43_method_13_code 33 = .ok (.ireturn, 1) := by decide +kernel
set_option maxRecDepth 65536 in
set_option maxHeartbeats 40000000 in
theorem own_rmL25 (l : Launch) (Z : State) (a0 : Array Value) (hw : ∀ d ∈ tables_1, d.before a0 Z = true) (u v : Addr) (ku kv : ClassId) (h0 : Heap) (AU : Arv Z h0 u ku .byte 25 [(.int 101), (.int 110), (.int 103), (.int 108), (.int 105), (.int 115), (.int 104), (.int 32), (.int 40), (.int 115), (.int 116), (.int 111), (.int 112), (.int 32), (.int 119), (.int 111), (.int 114), (.int 100), (.int 115), (.int 32), (.int 107), (.int 101), (.int 112), (.int 116), (.int 41)] (.int 0)) (AV : Arv Z h0 v kv .byte 25 [(.int 101), (.int 110), (.int 103), (.int 108), (.int 105), (.int 115), (.int 104), (.int 32), (.int 40), (.int 115), (.int 116), (.int 111), (.int 112), (.int 32), (.int 119), (.int 111), (.int 114), (.int 100), (.int 115), (.int 32), (.int 107), (.int 101), (.int 112), (.int 116), (.int 41)] (.int 0)) :
    MetFree l (⟨"java/lang/StringLatin1", "equals", "([B[B)Z"⟩ : MethodName) (head1 [Jvm.Cond.code (⟨"java/lang/StringLatin1", "equals", "([B[B)Z"⟩ : MethodName) jdk_43_method_13_code 3 (some .boolean)] ({ frames := 0, cells := 0, slots := 0, locals := 0 } : Room)) (fun aa U => aa = #[(.ref u), (.ref v)] ∧ Z.Warmed39 U.vm ∧ U.heap = h0) (fun _ _ _ _ _ => True) (fun _ U o U' => ∃ v L, o = .returned v ∧ (PQ h0 (some (.int 1))) v U'.heap L ∧ FrameEnd U o U' L ({ frames := 0, cells := 0, slots := 0, locals := 0 } : Room).cells ({ frames := 0, cells := 0, slots := 0, locals := 0 } : Room).slots) := by
  refine goBody (y := (⟨"java/lang/StringLatin1", "equals", "([B[B)Z"⟩ : MethodName)) (Q := PQ h0 (some (.int 1))) (plainFor_of_name (by first | (simp [plainName, overriddenIn]; done) | decide +kernel)) ?_
  intro p e s m below meth c T0 hx hZ hby hml hown hnm hret hlk X0 e0
  have hown : s.vm.findClass "java/lang/StringLatin1" = some m.cls := hown
  refine Go.cast (g' := mkF m 0 #[.val (.ref u), .val (.ref v), .unset] []) (by first | (simp [entryFrame, mkF, argsToLocals, Value.category]; done) | rfl) ?_
  show Go p e below _ T0 (mkF m 0 #[.val (.ref u), .val (.ref v), .unset] [])
  refine Go.of (fun _ kz => XS.aloadN X0.here hx rfl (hb hby own_l25_d0) rfl rfl kz) ?_
  show Go p e below _ T0 (mkF m 1 #[.val (.ref u), .val (.ref v), .unset] [(.ref u)])
  refine Go.len X0 hx hZ e0 AU (hb hby own_l25_d1) ?_
  show Go p e below _ T0 (mkF m 2 #[.val (.ref u), .val (.ref v), .unset] [(.int (25 : Int32))])
  refine Go.of (fun _ kz => XS.aloadN X0.here hx rfl (hb hby own_l25_d2) rfl rfl kz) ?_
  show Go p e below _ T0 (mkF m 3 #[.val (.ref u), .val (.ref v), .unset] [(.ref v), (.int (25 : Int32))])
  refine Go.len X0 hx hZ e0 AV (hb hby own_l25_d3) ?_
  show Go p e below _ T0 (mkF m 4 #[.val (.ref u), .val (.ref v), .unset] [(.int (25 : Int32)), (.int (25 : Int32))])
  refine Go.of (fun _ kz => XS.icmpNo X0.here hx rfl (hb hby own_l25_d4) rfl (teq (by decide : (25 : Int32) = (25 : Int32))).2 kz) ?_
  show Go p e below _ T0 (mkF m 7 #[.val (.ref u), .val (.ref v), .unset] [])
  refine Go.of (fun _ kz => XS.iconst X0.here hx rfl (hb hby own_l25_d7) kz) ?_
  show Go p e below _ T0 (mkF m 8 #[.val (.ref u), .val (.ref v), .unset] [(.int (0 : Int32))])
  refine Go.of (fun _ kz => XS.istoreN X0.here hx rfl (hb hby own_l25_d8) rfl (l' := #[.val (.ref u), .val (.ref v), .val (.int (0 : Int32))]) rfl kz) ?_
  show Go p e below _ T0 (mkF m 9 #[.val (.ref u), .val (.ref v), .val (.int (0 : Int32))] [])
  refine Go.of (fun _ kz => XS.iloadN X0.here hx rfl (hb hby own_l25_d9) rfl kz) ?_
  show Go p e below _ T0 (mkF m 10 #[.val (.ref u), .val (.ref v), .val (.int (0 : Int32))] [(.int (0 : Int32))])
  refine Go.of (fun _ kz => XS.aloadN X0.here hx rfl (hb hby own_l25_d10) rfl rfl kz) ?_
  show Go p e below _ T0 (mkF m 11 #[.val (.ref u), .val (.ref v), .val (.int (0 : Int32))] [(.ref u), (.int (0 : Int32))])
  refine Go.len X0 hx hZ e0 AU (hb hby own_l25_d11) ?_
  show Go p e below _ T0 (mkF m 12 #[.val (.ref u), .val (.ref v), .val (.int (0 : Int32))] [(.int (25 : Int32)), (.int (0 : Int32))])
  refine Go.of (fun _ kz => XS.icmpNo X0.here hx rfl (hb hby own_l25_d12) rfl (tlt (by decide : (0 : Int32) < (25 : Int32))).2.1 kz) ?_
  show Go p e below _ T0 (mkF m 15 #[.val (.ref u), .val (.ref v), .val (.int (0 : Int32))] [])
  refine Go.of (fun _ kz => XS.aloadN X0.here hx rfl (hb hby own_l25_d15) rfl rfl kz) ?_
  show Go p e below _ T0 (mkF m 16 #[.val (.ref u), .val (.ref v), .val (.int (0 : Int32))] [(.ref u)])
  refine Go.of (fun _ kz => XS.iloadN X0.here hx rfl (hb hby own_l25_d16) rfl kz) ?_
  show Go p e below _ T0 (mkF m 17 #[.val (.ref u), .val (.ref v), .val (.int (0 : Int32))] [(.int (0 : Int32)), (.ref u)])
  refine Go.baload X0 hx hZ e0 AU ⟨by decide, by decide⟩ (v := (.int (101 : Int32))) rfl (hb hby own_l25_d17) ?_
  show Go p e below _ T0 (mkF m 18 #[.val (.ref u), .val (.ref v), .val (.int (0 : Int32))] [(.int (101 : Int32))])
  refine Go.of (fun _ kz => XS.aloadN X0.here hx rfl (hb hby own_l25_d18) rfl rfl kz) ?_
  show Go p e below _ T0 (mkF m 19 #[.val (.ref u), .val (.ref v), .val (.int (0 : Int32))] [(.ref v), (.int (101 : Int32))])
  refine Go.of (fun _ kz => XS.iloadN X0.here hx rfl (hb hby own_l25_d19) rfl kz) ?_
  show Go p e below _ T0 (mkF m 20 #[.val (.ref u), .val (.ref v), .val (.int (0 : Int32))] [(.int (0 : Int32)), (.ref v), (.int (101 : Int32))])
  refine Go.baload X0 hx hZ e0 AV ⟨by decide, by decide⟩ (v := (.int (101 : Int32))) rfl (hb hby own_l25_d20) ?_
  show Go p e below _ T0 (mkF m 21 #[.val (.ref u), .val (.ref v), .val (.int (0 : Int32))] [(.int (101 : Int32)), (.int (101 : Int32))])
  refine Go.of (fun _ kz => XS.icmpYes X0.here hx rfl (pc0 := 21) (pc' := 26) rfl (hb hby own_l25_d21) rfl (teq (by decide : (101 : Int32) = (101 : Int32))).1 (by decide) (by decide) kz) ?_
  show Go p e below _ T0 (mkF m 26 #[.val (.ref u), .val (.ref v), .val (.int (0 : Int32))] [])
  refine Go.of (fun _ kz => XS.iinc X0.here hx rfl (hb hby own_l25_d26) rfl (l' := #[.val (.ref u), .val (.ref v), .val (.int (1 : Int32))]) rfl kz) ?_
  show Go p e below _ T0 (mkF m 29 #[.val (.ref u), .val (.ref v), .val (.int (1 : Int32))] [])
  refine Go.of (fun _ kz => XS.goto X0.here hx rfl (pc0 := 29) (pc' := 9) rfl (hb hby own_l25_d29) (by decide) (by decide) kz) ?_
  show Go p e below _ T0 (mkF m 9 #[.val (.ref u), .val (.ref v), .val (.int (1 : Int32))] [])
  refine Go.of (fun _ kz => XS.iloadN X0.here hx rfl (hb hby own_l25_d9) rfl kz) ?_
  show Go p e below _ T0 (mkF m 10 #[.val (.ref u), .val (.ref v), .val (.int (1 : Int32))] [(.int (1 : Int32))])
  refine Go.of (fun _ kz => XS.aloadN X0.here hx rfl (hb hby own_l25_d10) rfl rfl kz) ?_
  show Go p e below _ T0 (mkF m 11 #[.val (.ref u), .val (.ref v), .val (.int (1 : Int32))] [(.ref u), (.int (1 : Int32))])
  refine Go.len X0 hx hZ e0 AU (hb hby own_l25_d11) ?_
  show Go p e below _ T0 (mkF m 12 #[.val (.ref u), .val (.ref v), .val (.int (1 : Int32))] [(.int (25 : Int32)), (.int (1 : Int32))])
  refine Go.of (fun _ kz => XS.icmpNo X0.here hx rfl (hb hby own_l25_d12) rfl (tlt (by decide : (1 : Int32) < (25 : Int32))).2.1 kz) ?_
  show Go p e below _ T0 (mkF m 15 #[.val (.ref u), .val (.ref v), .val (.int (1 : Int32))] [])
  refine Go.of (fun _ kz => XS.aloadN X0.here hx rfl (hb hby own_l25_d15) rfl rfl kz) ?_
  show Go p e below _ T0 (mkF m 16 #[.val (.ref u), .val (.ref v), .val (.int (1 : Int32))] [(.ref u)])
  refine Go.of (fun _ kz => XS.iloadN X0.here hx rfl (hb hby own_l25_d16) rfl kz) ?_
  show Go p e below _ T0 (mkF m 17 #[.val (.ref u), .val (.ref v), .val (.int (1 : Int32))] [(.int (1 : Int32)), (.ref u)])
  refine Go.baload X0 hx hZ e0 AU ⟨by decide, by decide⟩ (v := (.int (110 : Int32))) rfl (hb hby own_l25_d17) ?_
  show Go p e below _ T0 (mkF m 18 #[.val (.ref u), .val (.ref v), .val (.int (1 : Int32))] [(.int (110 : Int32))])
  refine Go.of (fun _ kz => XS.aloadN X0.here hx rfl (hb hby own_l25_d18) rfl rfl kz) ?_
  show Go p e below _ T0 (mkF m 19 #[.val (.ref u), .val (.ref v), .val (.int (1 : Int32))] [(.ref v), (.int (110 : Int32))])
  refine Go.of (fun _ kz => XS.iloadN X0.here hx rfl (hb hby own_l25_d19) rfl kz) ?_
  show Go p e below _ T0 (mkF m 20 #[.val (.ref u), .val (.ref v), .val (.int (1 : Int32))] [(.int (1 : Int32)), (.ref v), (.int (110 : Int32))])
  refine Go.baload X0 hx hZ e0 AV ⟨by decide, by decide⟩ (v := (.int (110 : Int32))) rfl (hb hby own_l25_d20) ?_
  show Go p e below _ T0 (mkF m 21 #[.val (.ref u), .val (.ref v), .val (.int (1 : Int32))] [(.int (110 : Int32)), (.int (110 : Int32))])
  refine Go.of (fun _ kz => XS.icmpYes X0.here hx rfl (pc0 := 21) (pc' := 26) rfl (hb hby own_l25_d21) rfl (teq (by decide : (110 : Int32) = (110 : Int32))).1 (by decide) (by decide) kz) ?_
  show Go p e below _ T0 (mkF m 26 #[.val (.ref u), .val (.ref v), .val (.int (1 : Int32))] [])
  refine Go.of (fun _ kz => XS.iinc X0.here hx rfl (hb hby own_l25_d26) rfl (l' := #[.val (.ref u), .val (.ref v), .val (.int (2 : Int32))]) rfl kz) ?_
  show Go p e below _ T0 (mkF m 29 #[.val (.ref u), .val (.ref v), .val (.int (2 : Int32))] [])
  refine Go.of (fun _ kz => XS.goto X0.here hx rfl (pc0 := 29) (pc' := 9) rfl (hb hby own_l25_d29) (by decide) (by decide) kz) ?_
  show Go p e below _ T0 (mkF m 9 #[.val (.ref u), .val (.ref v), .val (.int (2 : Int32))] [])
  refine Go.of (fun _ kz => XS.iloadN X0.here hx rfl (hb hby own_l25_d9) rfl kz) ?_
  show Go p e below _ T0 (mkF m 10 #[.val (.ref u), .val (.ref v), .val (.int (2 : Int32))] [(.int (2 : Int32))])
  refine Go.of (fun _ kz => XS.aloadN X0.here hx rfl (hb hby own_l25_d10) rfl rfl kz) ?_
  show Go p e below _ T0 (mkF m 11 #[.val (.ref u), .val (.ref v), .val (.int (2 : Int32))] [(.ref u), (.int (2 : Int32))])
  refine Go.len X0 hx hZ e0 AU (hb hby own_l25_d11) ?_
  show Go p e below _ T0 (mkF m 12 #[.val (.ref u), .val (.ref v), .val (.int (2 : Int32))] [(.int (25 : Int32)), (.int (2 : Int32))])
  refine Go.of (fun _ kz => XS.icmpNo X0.here hx rfl (hb hby own_l25_d12) rfl (tlt (by decide : (2 : Int32) < (25 : Int32))).2.1 kz) ?_
  show Go p e below _ T0 (mkF m 15 #[.val (.ref u), .val (.ref v), .val (.int (2 : Int32))] [])
  refine Go.of (fun _ kz => XS.aloadN X0.here hx rfl (hb hby own_l25_d15) rfl rfl kz) ?_
  show Go p e below _ T0 (mkF m 16 #[.val (.ref u), .val (.ref v), .val (.int (2 : Int32))] [(.ref u)])
  refine Go.of (fun _ kz => XS.iloadN X0.here hx rfl (hb hby own_l25_d16) rfl kz) ?_
  show Go p e below _ T0 (mkF m 17 #[.val (.ref u), .val (.ref v), .val (.int (2 : Int32))] [(.int (2 : Int32)), (.ref u)])
  refine Go.baload X0 hx hZ e0 AU ⟨by decide, by decide⟩ (v := (.int (103 : Int32))) rfl (hb hby own_l25_d17) ?_
  show Go p e below _ T0 (mkF m 18 #[.val (.ref u), .val (.ref v), .val (.int (2 : Int32))] [(.int (103 : Int32))])
  refine Go.of (fun _ kz => XS.aloadN X0.here hx rfl (hb hby own_l25_d18) rfl rfl kz) ?_
  show Go p e below _ T0 (mkF m 19 #[.val (.ref u), .val (.ref v), .val (.int (2 : Int32))] [(.ref v), (.int (103 : Int32))])
  refine Go.of (fun _ kz => XS.iloadN X0.here hx rfl (hb hby own_l25_d19) rfl kz) ?_
  show Go p e below _ T0 (mkF m 20 #[.val (.ref u), .val (.ref v), .val (.int (2 : Int32))] [(.int (2 : Int32)), (.ref v), (.int (103 : Int32))])
  refine Go.baload X0 hx hZ e0 AV ⟨by decide, by decide⟩ (v := (.int (103 : Int32))) rfl (hb hby own_l25_d20) ?_
  show Go p e below _ T0 (mkF m 21 #[.val (.ref u), .val (.ref v), .val (.int (2 : Int32))] [(.int (103 : Int32)), (.int (103 : Int32))])
  refine Go.of (fun _ kz => XS.icmpYes X0.here hx rfl (pc0 := 21) (pc' := 26) rfl (hb hby own_l25_d21) rfl (teq (by decide : (103 : Int32) = (103 : Int32))).1 (by decide) (by decide) kz) ?_
  show Go p e below _ T0 (mkF m 26 #[.val (.ref u), .val (.ref v), .val (.int (2 : Int32))] [])
  refine Go.of (fun _ kz => XS.iinc X0.here hx rfl (hb hby own_l25_d26) rfl (l' := #[.val (.ref u), .val (.ref v), .val (.int (3 : Int32))]) rfl kz) ?_
  show Go p e below _ T0 (mkF m 29 #[.val (.ref u), .val (.ref v), .val (.int (3 : Int32))] [])
  refine Go.of (fun _ kz => XS.goto X0.here hx rfl (pc0 := 29) (pc' := 9) rfl (hb hby own_l25_d29) (by decide) (by decide) kz) ?_
  show Go p e below _ T0 (mkF m 9 #[.val (.ref u), .val (.ref v), .val (.int (3 : Int32))] [])
  refine Go.of (fun _ kz => XS.iloadN X0.here hx rfl (hb hby own_l25_d9) rfl kz) ?_
  show Go p e below _ T0 (mkF m 10 #[.val (.ref u), .val (.ref v), .val (.int (3 : Int32))] [(.int (3 : Int32))])
  refine Go.of (fun _ kz => XS.aloadN X0.here hx rfl (hb hby own_l25_d10) rfl rfl kz) ?_
  show Go p e below _ T0 (mkF m 11 #[.val (.ref u), .val (.ref v), .val (.int (3 : Int32))] [(.ref u), (.int (3 : Int32))])
  refine Go.len X0 hx hZ e0 AU (hb hby own_l25_d11) ?_
  show Go p e below _ T0 (mkF m 12 #[.val (.ref u), .val (.ref v), .val (.int (3 : Int32))] [(.int (25 : Int32)), (.int (3 : Int32))])
  refine Go.of (fun _ kz => XS.icmpNo X0.here hx rfl (hb hby own_l25_d12) rfl (tlt (by decide : (3 : Int32) < (25 : Int32))).2.1 kz) ?_
  show Go p e below _ T0 (mkF m 15 #[.val (.ref u), .val (.ref v), .val (.int (3 : Int32))] [])
  refine Go.of (fun _ kz => XS.aloadN X0.here hx rfl (hb hby own_l25_d15) rfl rfl kz) ?_
  show Go p e below _ T0 (mkF m 16 #[.val (.ref u), .val (.ref v), .val (.int (3 : Int32))] [(.ref u)])
  refine Go.of (fun _ kz => XS.iloadN X0.here hx rfl (hb hby own_l25_d16) rfl kz) ?_
  show Go p e below _ T0 (mkF m 17 #[.val (.ref u), .val (.ref v), .val (.int (3 : Int32))] [(.int (3 : Int32)), (.ref u)])
  refine Go.baload X0 hx hZ e0 AU ⟨by decide, by decide⟩ (v := (.int (108 : Int32))) rfl (hb hby own_l25_d17) ?_
  show Go p e below _ T0 (mkF m 18 #[.val (.ref u), .val (.ref v), .val (.int (3 : Int32))] [(.int (108 : Int32))])
  refine Go.of (fun _ kz => XS.aloadN X0.here hx rfl (hb hby own_l25_d18) rfl rfl kz) ?_
  show Go p e below _ T0 (mkF m 19 #[.val (.ref u), .val (.ref v), .val (.int (3 : Int32))] [(.ref v), (.int (108 : Int32))])
  refine Go.of (fun _ kz => XS.iloadN X0.here hx rfl (hb hby own_l25_d19) rfl kz) ?_
  show Go p e below _ T0 (mkF m 20 #[.val (.ref u), .val (.ref v), .val (.int (3 : Int32))] [(.int (3 : Int32)), (.ref v), (.int (108 : Int32))])
  refine Go.baload X0 hx hZ e0 AV ⟨by decide, by decide⟩ (v := (.int (108 : Int32))) rfl (hb hby own_l25_d20) ?_
  show Go p e below _ T0 (mkF m 21 #[.val (.ref u), .val (.ref v), .val (.int (3 : Int32))] [(.int (108 : Int32)), (.int (108 : Int32))])
  refine Go.of (fun _ kz => XS.icmpYes X0.here hx rfl (pc0 := 21) (pc' := 26) rfl (hb hby own_l25_d21) rfl (teq (by decide : (108 : Int32) = (108 : Int32))).1 (by decide) (by decide) kz) ?_
  show Go p e below _ T0 (mkF m 26 #[.val (.ref u), .val (.ref v), .val (.int (3 : Int32))] [])
  refine Go.of (fun _ kz => XS.iinc X0.here hx rfl (hb hby own_l25_d26) rfl (l' := #[.val (.ref u), .val (.ref v), .val (.int (4 : Int32))]) rfl kz) ?_
  show Go p e below _ T0 (mkF m 29 #[.val (.ref u), .val (.ref v), .val (.int (4 : Int32))] [])
  refine Go.of (fun _ kz => XS.goto X0.here hx rfl (pc0 := 29) (pc' := 9) rfl (hb hby own_l25_d29) (by decide) (by decide) kz) ?_
  show Go p e below _ T0 (mkF m 9 #[.val (.ref u), .val (.ref v), .val (.int (4 : Int32))] [])
  refine Go.of (fun _ kz => XS.iloadN X0.here hx rfl (hb hby own_l25_d9) rfl kz) ?_
  show Go p e below _ T0 (mkF m 10 #[.val (.ref u), .val (.ref v), .val (.int (4 : Int32))] [(.int (4 : Int32))])
  refine Go.of (fun _ kz => XS.aloadN X0.here hx rfl (hb hby own_l25_d10) rfl rfl kz) ?_
  show Go p e below _ T0 (mkF m 11 #[.val (.ref u), .val (.ref v), .val (.int (4 : Int32))] [(.ref u), (.int (4 : Int32))])
  refine Go.len X0 hx hZ e0 AU (hb hby own_l25_d11) ?_
  show Go p e below _ T0 (mkF m 12 #[.val (.ref u), .val (.ref v), .val (.int (4 : Int32))] [(.int (25 : Int32)), (.int (4 : Int32))])
  refine Go.of (fun _ kz => XS.icmpNo X0.here hx rfl (hb hby own_l25_d12) rfl (tlt (by decide : (4 : Int32) < (25 : Int32))).2.1 kz) ?_
  show Go p e below _ T0 (mkF m 15 #[.val (.ref u), .val (.ref v), .val (.int (4 : Int32))] [])
  refine Go.of (fun _ kz => XS.aloadN X0.here hx rfl (hb hby own_l25_d15) rfl rfl kz) ?_
  show Go p e below _ T0 (mkF m 16 #[.val (.ref u), .val (.ref v), .val (.int (4 : Int32))] [(.ref u)])
  refine Go.of (fun _ kz => XS.iloadN X0.here hx rfl (hb hby own_l25_d16) rfl kz) ?_
  show Go p e below _ T0 (mkF m 17 #[.val (.ref u), .val (.ref v), .val (.int (4 : Int32))] [(.int (4 : Int32)), (.ref u)])
  refine Go.baload X0 hx hZ e0 AU ⟨by decide, by decide⟩ (v := (.int (105 : Int32))) rfl (hb hby own_l25_d17) ?_
  show Go p e below _ T0 (mkF m 18 #[.val (.ref u), .val (.ref v), .val (.int (4 : Int32))] [(.int (105 : Int32))])
  refine Go.of (fun _ kz => XS.aloadN X0.here hx rfl (hb hby own_l25_d18) rfl rfl kz) ?_
  show Go p e below _ T0 (mkF m 19 #[.val (.ref u), .val (.ref v), .val (.int (4 : Int32))] [(.ref v), (.int (105 : Int32))])
  refine Go.of (fun _ kz => XS.iloadN X0.here hx rfl (hb hby own_l25_d19) rfl kz) ?_
  show Go p e below _ T0 (mkF m 20 #[.val (.ref u), .val (.ref v), .val (.int (4 : Int32))] [(.int (4 : Int32)), (.ref v), (.int (105 : Int32))])
  refine Go.baload X0 hx hZ e0 AV ⟨by decide, by decide⟩ (v := (.int (105 : Int32))) rfl (hb hby own_l25_d20) ?_
  show Go p e below _ T0 (mkF m 21 #[.val (.ref u), .val (.ref v), .val (.int (4 : Int32))] [(.int (105 : Int32)), (.int (105 : Int32))])
  refine Go.of (fun _ kz => XS.icmpYes X0.here hx rfl (pc0 := 21) (pc' := 26) rfl (hb hby own_l25_d21) rfl (teq (by decide : (105 : Int32) = (105 : Int32))).1 (by decide) (by decide) kz) ?_
  show Go p e below _ T0 (mkF m 26 #[.val (.ref u), .val (.ref v), .val (.int (4 : Int32))] [])
  refine Go.of (fun _ kz => XS.iinc X0.here hx rfl (hb hby own_l25_d26) rfl (l' := #[.val (.ref u), .val (.ref v), .val (.int (5 : Int32))]) rfl kz) ?_
  show Go p e below _ T0 (mkF m 29 #[.val (.ref u), .val (.ref v), .val (.int (5 : Int32))] [])
  refine Go.of (fun _ kz => XS.goto X0.here hx rfl (pc0 := 29) (pc' := 9) rfl (hb hby own_l25_d29) (by decide) (by decide) kz) ?_
  show Go p e below _ T0 (mkF m 9 #[.val (.ref u), .val (.ref v), .val (.int (5 : Int32))] [])
  refine Go.of (fun _ kz => XS.iloadN X0.here hx rfl (hb hby own_l25_d9) rfl kz) ?_
  show Go p e below _ T0 (mkF m 10 #[.val (.ref u), .val (.ref v), .val (.int (5 : Int32))] [(.int (5 : Int32))])
  refine Go.of (fun _ kz => XS.aloadN X0.here hx rfl (hb hby own_l25_d10) rfl rfl kz) ?_
  show Go p e below _ T0 (mkF m 11 #[.val (.ref u), .val (.ref v), .val (.int (5 : Int32))] [(.ref u), (.int (5 : Int32))])
  refine Go.len X0 hx hZ e0 AU (hb hby own_l25_d11) ?_
  show Go p e below _ T0 (mkF m 12 #[.val (.ref u), .val (.ref v), .val (.int (5 : Int32))] [(.int (25 : Int32)), (.int (5 : Int32))])
  refine Go.of (fun _ kz => XS.icmpNo X0.here hx rfl (hb hby own_l25_d12) rfl (tlt (by decide : (5 : Int32) < (25 : Int32))).2.1 kz) ?_
  show Go p e below _ T0 (mkF m 15 #[.val (.ref u), .val (.ref v), .val (.int (5 : Int32))] [])
  refine Go.of (fun _ kz => XS.aloadN X0.here hx rfl (hb hby own_l25_d15) rfl rfl kz) ?_
  show Go p e below _ T0 (mkF m 16 #[.val (.ref u), .val (.ref v), .val (.int (5 : Int32))] [(.ref u)])
  refine Go.of (fun _ kz => XS.iloadN X0.here hx rfl (hb hby own_l25_d16) rfl kz) ?_
  show Go p e below _ T0 (mkF m 17 #[.val (.ref u), .val (.ref v), .val (.int (5 : Int32))] [(.int (5 : Int32)), (.ref u)])
  refine Go.baload X0 hx hZ e0 AU ⟨by decide, by decide⟩ (v := (.int (115 : Int32))) rfl (hb hby own_l25_d17) ?_
  show Go p e below _ T0 (mkF m 18 #[.val (.ref u), .val (.ref v), .val (.int (5 : Int32))] [(.int (115 : Int32))])
  refine Go.of (fun _ kz => XS.aloadN X0.here hx rfl (hb hby own_l25_d18) rfl rfl kz) ?_
  show Go p e below _ T0 (mkF m 19 #[.val (.ref u), .val (.ref v), .val (.int (5 : Int32))] [(.ref v), (.int (115 : Int32))])
  refine Go.of (fun _ kz => XS.iloadN X0.here hx rfl (hb hby own_l25_d19) rfl kz) ?_
  show Go p e below _ T0 (mkF m 20 #[.val (.ref u), .val (.ref v), .val (.int (5 : Int32))] [(.int (5 : Int32)), (.ref v), (.int (115 : Int32))])
  refine Go.baload X0 hx hZ e0 AV ⟨by decide, by decide⟩ (v := (.int (115 : Int32))) rfl (hb hby own_l25_d20) ?_
  show Go p e below _ T0 (mkF m 21 #[.val (.ref u), .val (.ref v), .val (.int (5 : Int32))] [(.int (115 : Int32)), (.int (115 : Int32))])
  refine Go.of (fun _ kz => XS.icmpYes X0.here hx rfl (pc0 := 21) (pc' := 26) rfl (hb hby own_l25_d21) rfl (teq (by decide : (115 : Int32) = (115 : Int32))).1 (by decide) (by decide) kz) ?_
  show Go p e below _ T0 (mkF m 26 #[.val (.ref u), .val (.ref v), .val (.int (5 : Int32))] [])
  refine Go.of (fun _ kz => XS.iinc X0.here hx rfl (hb hby own_l25_d26) rfl (l' := #[.val (.ref u), .val (.ref v), .val (.int (6 : Int32))]) rfl kz) ?_
  show Go p e below _ T0 (mkF m 29 #[.val (.ref u), .val (.ref v), .val (.int (6 : Int32))] [])
  refine Go.of (fun _ kz => XS.goto X0.here hx rfl (pc0 := 29) (pc' := 9) rfl (hb hby own_l25_d29) (by decide) (by decide) kz) ?_
  show Go p e below _ T0 (mkF m 9 #[.val (.ref u), .val (.ref v), .val (.int (6 : Int32))] [])
  refine Go.of (fun _ kz => XS.iloadN X0.here hx rfl (hb hby own_l25_d9) rfl kz) ?_
  show Go p e below _ T0 (mkF m 10 #[.val (.ref u), .val (.ref v), .val (.int (6 : Int32))] [(.int (6 : Int32))])
  refine Go.of (fun _ kz => XS.aloadN X0.here hx rfl (hb hby own_l25_d10) rfl rfl kz) ?_
  show Go p e below _ T0 (mkF m 11 #[.val (.ref u), .val (.ref v), .val (.int (6 : Int32))] [(.ref u), (.int (6 : Int32))])
  refine Go.len X0 hx hZ e0 AU (hb hby own_l25_d11) ?_
  show Go p e below _ T0 (mkF m 12 #[.val (.ref u), .val (.ref v), .val (.int (6 : Int32))] [(.int (25 : Int32)), (.int (6 : Int32))])
  refine Go.of (fun _ kz => XS.icmpNo X0.here hx rfl (hb hby own_l25_d12) rfl (tlt (by decide : (6 : Int32) < (25 : Int32))).2.1 kz) ?_
  show Go p e below _ T0 (mkF m 15 #[.val (.ref u), .val (.ref v), .val (.int (6 : Int32))] [])
  refine Go.of (fun _ kz => XS.aloadN X0.here hx rfl (hb hby own_l25_d15) rfl rfl kz) ?_
  show Go p e below _ T0 (mkF m 16 #[.val (.ref u), .val (.ref v), .val (.int (6 : Int32))] [(.ref u)])
  refine Go.of (fun _ kz => XS.iloadN X0.here hx rfl (hb hby own_l25_d16) rfl kz) ?_
  show Go p e below _ T0 (mkF m 17 #[.val (.ref u), .val (.ref v), .val (.int (6 : Int32))] [(.int (6 : Int32)), (.ref u)])
  refine Go.baload X0 hx hZ e0 AU ⟨by decide, by decide⟩ (v := (.int (104 : Int32))) rfl (hb hby own_l25_d17) ?_
  show Go p e below _ T0 (mkF m 18 #[.val (.ref u), .val (.ref v), .val (.int (6 : Int32))] [(.int (104 : Int32))])
  refine Go.of (fun _ kz => XS.aloadN X0.here hx rfl (hb hby own_l25_d18) rfl rfl kz) ?_
  show Go p e below _ T0 (mkF m 19 #[.val (.ref u), .val (.ref v), .val (.int (6 : Int32))] [(.ref v), (.int (104 : Int32))])
  refine Go.of (fun _ kz => XS.iloadN X0.here hx rfl (hb hby own_l25_d19) rfl kz) ?_
  show Go p e below _ T0 (mkF m 20 #[.val (.ref u), .val (.ref v), .val (.int (6 : Int32))] [(.int (6 : Int32)), (.ref v), (.int (104 : Int32))])
  refine Go.baload X0 hx hZ e0 AV ⟨by decide, by decide⟩ (v := (.int (104 : Int32))) rfl (hb hby own_l25_d20) ?_
  show Go p e below _ T0 (mkF m 21 #[.val (.ref u), .val (.ref v), .val (.int (6 : Int32))] [(.int (104 : Int32)), (.int (104 : Int32))])
  refine Go.of (fun _ kz => XS.icmpYes X0.here hx rfl (pc0 := 21) (pc' := 26) rfl (hb hby own_l25_d21) rfl (teq (by decide : (104 : Int32) = (104 : Int32))).1 (by decide) (by decide) kz) ?_
  show Go p e below _ T0 (mkF m 26 #[.val (.ref u), .val (.ref v), .val (.int (6 : Int32))] [])
  refine Go.of (fun _ kz => XS.iinc X0.here hx rfl (hb hby own_l25_d26) rfl (l' := #[.val (.ref u), .val (.ref v), .val (.int (7 : Int32))]) rfl kz) ?_
  show Go p e below _ T0 (mkF m 29 #[.val (.ref u), .val (.ref v), .val (.int (7 : Int32))] [])
  refine Go.of (fun _ kz => XS.goto X0.here hx rfl (pc0 := 29) (pc' := 9) rfl (hb hby own_l25_d29) (by decide) (by decide) kz) ?_
  show Go p e below _ T0 (mkF m 9 #[.val (.ref u), .val (.ref v), .val (.int (7 : Int32))] [])
  refine Go.of (fun _ kz => XS.iloadN X0.here hx rfl (hb hby own_l25_d9) rfl kz) ?_
  show Go p e below _ T0 (mkF m 10 #[.val (.ref u), .val (.ref v), .val (.int (7 : Int32))] [(.int (7 : Int32))])
  refine Go.of (fun _ kz => XS.aloadN X0.here hx rfl (hb hby own_l25_d10) rfl rfl kz) ?_
  show Go p e below _ T0 (mkF m 11 #[.val (.ref u), .val (.ref v), .val (.int (7 : Int32))] [(.ref u), (.int (7 : Int32))])
  refine Go.len X0 hx hZ e0 AU (hb hby own_l25_d11) ?_
  show Go p e below _ T0 (mkF m 12 #[.val (.ref u), .val (.ref v), .val (.int (7 : Int32))] [(.int (25 : Int32)), (.int (7 : Int32))])
  refine Go.of (fun _ kz => XS.icmpNo X0.here hx rfl (hb hby own_l25_d12) rfl (tlt (by decide : (7 : Int32) < (25 : Int32))).2.1 kz) ?_
  show Go p e below _ T0 (mkF m 15 #[.val (.ref u), .val (.ref v), .val (.int (7 : Int32))] [])
  refine Go.of (fun _ kz => XS.aloadN X0.here hx rfl (hb hby own_l25_d15) rfl rfl kz) ?_
  show Go p e below _ T0 (mkF m 16 #[.val (.ref u), .val (.ref v), .val (.int (7 : Int32))] [(.ref u)])
  refine Go.of (fun _ kz => XS.iloadN X0.here hx rfl (hb hby own_l25_d16) rfl kz) ?_
  show Go p e below _ T0 (mkF m 17 #[.val (.ref u), .val (.ref v), .val (.int (7 : Int32))] [(.int (7 : Int32)), (.ref u)])
  refine Go.baload X0 hx hZ e0 AU ⟨by decide, by decide⟩ (v := (.int (32 : Int32))) rfl (hb hby own_l25_d17) ?_
  show Go p e below _ T0 (mkF m 18 #[.val (.ref u), .val (.ref v), .val (.int (7 : Int32))] [(.int (32 : Int32))])
  refine Go.of (fun _ kz => XS.aloadN X0.here hx rfl (hb hby own_l25_d18) rfl rfl kz) ?_
  show Go p e below _ T0 (mkF m 19 #[.val (.ref u), .val (.ref v), .val (.int (7 : Int32))] [(.ref v), (.int (32 : Int32))])
  refine Go.of (fun _ kz => XS.iloadN X0.here hx rfl (hb hby own_l25_d19) rfl kz) ?_
  show Go p e below _ T0 (mkF m 20 #[.val (.ref u), .val (.ref v), .val (.int (7 : Int32))] [(.int (7 : Int32)), (.ref v), (.int (32 : Int32))])
  refine Go.baload X0 hx hZ e0 AV ⟨by decide, by decide⟩ (v := (.int (32 : Int32))) rfl (hb hby own_l25_d20) ?_
  show Go p e below _ T0 (mkF m 21 #[.val (.ref u), .val (.ref v), .val (.int (7 : Int32))] [(.int (32 : Int32)), (.int (32 : Int32))])
  refine Go.of (fun _ kz => XS.icmpYes X0.here hx rfl (pc0 := 21) (pc' := 26) rfl (hb hby own_l25_d21) rfl (teq (by decide : (32 : Int32) = (32 : Int32))).1 (by decide) (by decide) kz) ?_
  show Go p e below _ T0 (mkF m 26 #[.val (.ref u), .val (.ref v), .val (.int (7 : Int32))] [])
  refine Go.of (fun _ kz => XS.iinc X0.here hx rfl (hb hby own_l25_d26) rfl (l' := #[.val (.ref u), .val (.ref v), .val (.int (8 : Int32))]) rfl kz) ?_
  show Go p e below _ T0 (mkF m 29 #[.val (.ref u), .val (.ref v), .val (.int (8 : Int32))] [])
  refine Go.of (fun _ kz => XS.goto X0.here hx rfl (pc0 := 29) (pc' := 9) rfl (hb hby own_l25_d29) (by decide) (by decide) kz) ?_
  show Go p e below _ T0 (mkF m 9 #[.val (.ref u), .val (.ref v), .val (.int (8 : Int32))] [])
  refine Go.of (fun _ kz => XS.iloadN X0.here hx rfl (hb hby own_l25_d9) rfl kz) ?_
  show Go p e below _ T0 (mkF m 10 #[.val (.ref u), .val (.ref v), .val (.int (8 : Int32))] [(.int (8 : Int32))])
  refine Go.of (fun _ kz => XS.aloadN X0.here hx rfl (hb hby own_l25_d10) rfl rfl kz) ?_
  show Go p e below _ T0 (mkF m 11 #[.val (.ref u), .val (.ref v), .val (.int (8 : Int32))] [(.ref u), (.int (8 : Int32))])
  refine Go.len X0 hx hZ e0 AU (hb hby own_l25_d11) ?_
  show Go p e below _ T0 (mkF m 12 #[.val (.ref u), .val (.ref v), .val (.int (8 : Int32))] [(.int (25 : Int32)), (.int (8 : Int32))])
  refine Go.of (fun _ kz => XS.icmpNo X0.here hx rfl (hb hby own_l25_d12) rfl (tlt (by decide : (8 : Int32) < (25 : Int32))).2.1 kz) ?_
  show Go p e below _ T0 (mkF m 15 #[.val (.ref u), .val (.ref v), .val (.int (8 : Int32))] [])
  refine Go.of (fun _ kz => XS.aloadN X0.here hx rfl (hb hby own_l25_d15) rfl rfl kz) ?_
  show Go p e below _ T0 (mkF m 16 #[.val (.ref u), .val (.ref v), .val (.int (8 : Int32))] [(.ref u)])
  refine Go.of (fun _ kz => XS.iloadN X0.here hx rfl (hb hby own_l25_d16) rfl kz) ?_
  show Go p e below _ T0 (mkF m 17 #[.val (.ref u), .val (.ref v), .val (.int (8 : Int32))] [(.int (8 : Int32)), (.ref u)])
  refine Go.baload X0 hx hZ e0 AU ⟨by decide, by decide⟩ (v := (.int (40 : Int32))) rfl (hb hby own_l25_d17) ?_
  show Go p e below _ T0 (mkF m 18 #[.val (.ref u), .val (.ref v), .val (.int (8 : Int32))] [(.int (40 : Int32))])
  refine Go.of (fun _ kz => XS.aloadN X0.here hx rfl (hb hby own_l25_d18) rfl rfl kz) ?_
  show Go p e below _ T0 (mkF m 19 #[.val (.ref u), .val (.ref v), .val (.int (8 : Int32))] [(.ref v), (.int (40 : Int32))])
  refine Go.of (fun _ kz => XS.iloadN X0.here hx rfl (hb hby own_l25_d19) rfl kz) ?_
  show Go p e below _ T0 (mkF m 20 #[.val (.ref u), .val (.ref v), .val (.int (8 : Int32))] [(.int (8 : Int32)), (.ref v), (.int (40 : Int32))])
  refine Go.baload X0 hx hZ e0 AV ⟨by decide, by decide⟩ (v := (.int (40 : Int32))) rfl (hb hby own_l25_d20) ?_
  show Go p e below _ T0 (mkF m 21 #[.val (.ref u), .val (.ref v), .val (.int (8 : Int32))] [(.int (40 : Int32)), (.int (40 : Int32))])
  refine Go.of (fun _ kz => XS.icmpYes X0.here hx rfl (pc0 := 21) (pc' := 26) rfl (hb hby own_l25_d21) rfl (teq (by decide : (40 : Int32) = (40 : Int32))).1 (by decide) (by decide) kz) ?_
  show Go p e below _ T0 (mkF m 26 #[.val (.ref u), .val (.ref v), .val (.int (8 : Int32))] [])
  refine Go.of (fun _ kz => XS.iinc X0.here hx rfl (hb hby own_l25_d26) rfl (l' := #[.val (.ref u), .val (.ref v), .val (.int (9 : Int32))]) rfl kz) ?_
  show Go p e below _ T0 (mkF m 29 #[.val (.ref u), .val (.ref v), .val (.int (9 : Int32))] [])
  refine Go.of (fun _ kz => XS.goto X0.here hx rfl (pc0 := 29) (pc' := 9) rfl (hb hby own_l25_d29) (by decide) (by decide) kz) ?_
  show Go p e below _ T0 (mkF m 9 #[.val (.ref u), .val (.ref v), .val (.int (9 : Int32))] [])
  refine Go.of (fun _ kz => XS.iloadN X0.here hx rfl (hb hby own_l25_d9) rfl kz) ?_
  show Go p e below _ T0 (mkF m 10 #[.val (.ref u), .val (.ref v), .val (.int (9 : Int32))] [(.int (9 : Int32))])
  refine Go.of (fun _ kz => XS.aloadN X0.here hx rfl (hb hby own_l25_d10) rfl rfl kz) ?_
  show Go p e below _ T0 (mkF m 11 #[.val (.ref u), .val (.ref v), .val (.int (9 : Int32))] [(.ref u), (.int (9 : Int32))])
  refine Go.len X0 hx hZ e0 AU (hb hby own_l25_d11) ?_
  show Go p e below _ T0 (mkF m 12 #[.val (.ref u), .val (.ref v), .val (.int (9 : Int32))] [(.int (25 : Int32)), (.int (9 : Int32))])
  refine Go.of (fun _ kz => XS.icmpNo X0.here hx rfl (hb hby own_l25_d12) rfl (tlt (by decide : (9 : Int32) < (25 : Int32))).2.1 kz) ?_
  show Go p e below _ T0 (mkF m 15 #[.val (.ref u), .val (.ref v), .val (.int (9 : Int32))] [])
  refine Go.of (fun _ kz => XS.aloadN X0.here hx rfl (hb hby own_l25_d15) rfl rfl kz) ?_
  show Go p e below _ T0 (mkF m 16 #[.val (.ref u), .val (.ref v), .val (.int (9 : Int32))] [(.ref u)])
  refine Go.of (fun _ kz => XS.iloadN X0.here hx rfl (hb hby own_l25_d16) rfl kz) ?_
  show Go p e below _ T0 (mkF m 17 #[.val (.ref u), .val (.ref v), .val (.int (9 : Int32))] [(.int (9 : Int32)), (.ref u)])
  refine Go.baload X0 hx hZ e0 AU ⟨by decide, by decide⟩ (v := (.int (115 : Int32))) rfl (hb hby own_l25_d17) ?_
  show Go p e below _ T0 (mkF m 18 #[.val (.ref u), .val (.ref v), .val (.int (9 : Int32))] [(.int (115 : Int32))])
  refine Go.of (fun _ kz => XS.aloadN X0.here hx rfl (hb hby own_l25_d18) rfl rfl kz) ?_
  show Go p e below _ T0 (mkF m 19 #[.val (.ref u), .val (.ref v), .val (.int (9 : Int32))] [(.ref v), (.int (115 : Int32))])
  refine Go.of (fun _ kz => XS.iloadN X0.here hx rfl (hb hby own_l25_d19) rfl kz) ?_
  show Go p e below _ T0 (mkF m 20 #[.val (.ref u), .val (.ref v), .val (.int (9 : Int32))] [(.int (9 : Int32)), (.ref v), (.int (115 : Int32))])
  refine Go.baload X0 hx hZ e0 AV ⟨by decide, by decide⟩ (v := (.int (115 : Int32))) rfl (hb hby own_l25_d20) ?_
  show Go p e below _ T0 (mkF m 21 #[.val (.ref u), .val (.ref v), .val (.int (9 : Int32))] [(.int (115 : Int32)), (.int (115 : Int32))])
  refine Go.of (fun _ kz => XS.icmpYes X0.here hx rfl (pc0 := 21) (pc' := 26) rfl (hb hby own_l25_d21) rfl (teq (by decide : (115 : Int32) = (115 : Int32))).1 (by decide) (by decide) kz) ?_
  show Go p e below _ T0 (mkF m 26 #[.val (.ref u), .val (.ref v), .val (.int (9 : Int32))] [])
  refine Go.of (fun _ kz => XS.iinc X0.here hx rfl (hb hby own_l25_d26) rfl (l' := #[.val (.ref u), .val (.ref v), .val (.int (10 : Int32))]) rfl kz) ?_
  show Go p e below _ T0 (mkF m 29 #[.val (.ref u), .val (.ref v), .val (.int (10 : Int32))] [])
  refine Go.of (fun _ kz => XS.goto X0.here hx rfl (pc0 := 29) (pc' := 9) rfl (hb hby own_l25_d29) (by decide) (by decide) kz) ?_
  show Go p e below _ T0 (mkF m 9 #[.val (.ref u), .val (.ref v), .val (.int (10 : Int32))] [])
  refine Go.of (fun _ kz => XS.iloadN X0.here hx rfl (hb hby own_l25_d9) rfl kz) ?_
  show Go p e below _ T0 (mkF m 10 #[.val (.ref u), .val (.ref v), .val (.int (10 : Int32))] [(.int (10 : Int32))])
  refine Go.of (fun _ kz => XS.aloadN X0.here hx rfl (hb hby own_l25_d10) rfl rfl kz) ?_
  show Go p e below _ T0 (mkF m 11 #[.val (.ref u), .val (.ref v), .val (.int (10 : Int32))] [(.ref u), (.int (10 : Int32))])
  refine Go.len X0 hx hZ e0 AU (hb hby own_l25_d11) ?_
  show Go p e below _ T0 (mkF m 12 #[.val (.ref u), .val (.ref v), .val (.int (10 : Int32))] [(.int (25 : Int32)), (.int (10 : Int32))])
  refine Go.of (fun _ kz => XS.icmpNo X0.here hx rfl (hb hby own_l25_d12) rfl (tlt (by decide : (10 : Int32) < (25 : Int32))).2.1 kz) ?_
  show Go p e below _ T0 (mkF m 15 #[.val (.ref u), .val (.ref v), .val (.int (10 : Int32))] [])
  refine Go.of (fun _ kz => XS.aloadN X0.here hx rfl (hb hby own_l25_d15) rfl rfl kz) ?_
  show Go p e below _ T0 (mkF m 16 #[.val (.ref u), .val (.ref v), .val (.int (10 : Int32))] [(.ref u)])
  refine Go.of (fun _ kz => XS.iloadN X0.here hx rfl (hb hby own_l25_d16) rfl kz) ?_
  show Go p e below _ T0 (mkF m 17 #[.val (.ref u), .val (.ref v), .val (.int (10 : Int32))] [(.int (10 : Int32)), (.ref u)])
  refine Go.baload X0 hx hZ e0 AU ⟨by decide, by decide⟩ (v := (.int (116 : Int32))) rfl (hb hby own_l25_d17) ?_
  show Go p e below _ T0 (mkF m 18 #[.val (.ref u), .val (.ref v), .val (.int (10 : Int32))] [(.int (116 : Int32))])
  refine Go.of (fun _ kz => XS.aloadN X0.here hx rfl (hb hby own_l25_d18) rfl rfl kz) ?_
  show Go p e below _ T0 (mkF m 19 #[.val (.ref u), .val (.ref v), .val (.int (10 : Int32))] [(.ref v), (.int (116 : Int32))])
  refine Go.of (fun _ kz => XS.iloadN X0.here hx rfl (hb hby own_l25_d19) rfl kz) ?_
  show Go p e below _ T0 (mkF m 20 #[.val (.ref u), .val (.ref v), .val (.int (10 : Int32))] [(.int (10 : Int32)), (.ref v), (.int (116 : Int32))])
  refine Go.baload X0 hx hZ e0 AV ⟨by decide, by decide⟩ (v := (.int (116 : Int32))) rfl (hb hby own_l25_d20) ?_
  show Go p e below _ T0 (mkF m 21 #[.val (.ref u), .val (.ref v), .val (.int (10 : Int32))] [(.int (116 : Int32)), (.int (116 : Int32))])
  refine Go.of (fun _ kz => XS.icmpYes X0.here hx rfl (pc0 := 21) (pc' := 26) rfl (hb hby own_l25_d21) rfl (teq (by decide : (116 : Int32) = (116 : Int32))).1 (by decide) (by decide) kz) ?_
  show Go p e below _ T0 (mkF m 26 #[.val (.ref u), .val (.ref v), .val (.int (10 : Int32))] [])
  refine Go.of (fun _ kz => XS.iinc X0.here hx rfl (hb hby own_l25_d26) rfl (l' := #[.val (.ref u), .val (.ref v), .val (.int (11 : Int32))]) rfl kz) ?_
  show Go p e below _ T0 (mkF m 29 #[.val (.ref u), .val (.ref v), .val (.int (11 : Int32))] [])
  refine Go.of (fun _ kz => XS.goto X0.here hx rfl (pc0 := 29) (pc' := 9) rfl (hb hby own_l25_d29) (by decide) (by decide) kz) ?_
  show Go p e below _ T0 (mkF m 9 #[.val (.ref u), .val (.ref v), .val (.int (11 : Int32))] [])
  refine Go.of (fun _ kz => XS.iloadN X0.here hx rfl (hb hby own_l25_d9) rfl kz) ?_
  show Go p e below _ T0 (mkF m 10 #[.val (.ref u), .val (.ref v), .val (.int (11 : Int32))] [(.int (11 : Int32))])
  refine Go.of (fun _ kz => XS.aloadN X0.here hx rfl (hb hby own_l25_d10) rfl rfl kz) ?_
  show Go p e below _ T0 (mkF m 11 #[.val (.ref u), .val (.ref v), .val (.int (11 : Int32))] [(.ref u), (.int (11 : Int32))])
  refine Go.len X0 hx hZ e0 AU (hb hby own_l25_d11) ?_
  show Go p e below _ T0 (mkF m 12 #[.val (.ref u), .val (.ref v), .val (.int (11 : Int32))] [(.int (25 : Int32)), (.int (11 : Int32))])
  refine Go.of (fun _ kz => XS.icmpNo X0.here hx rfl (hb hby own_l25_d12) rfl (tlt (by decide : (11 : Int32) < (25 : Int32))).2.1 kz) ?_
  show Go p e below _ T0 (mkF m 15 #[.val (.ref u), .val (.ref v), .val (.int (11 : Int32))] [])
  refine Go.of (fun _ kz => XS.aloadN X0.here hx rfl (hb hby own_l25_d15) rfl rfl kz) ?_
  show Go p e below _ T0 (mkF m 16 #[.val (.ref u), .val (.ref v), .val (.int (11 : Int32))] [(.ref u)])
  refine Go.of (fun _ kz => XS.iloadN X0.here hx rfl (hb hby own_l25_d16) rfl kz) ?_
  show Go p e below _ T0 (mkF m 17 #[.val (.ref u), .val (.ref v), .val (.int (11 : Int32))] [(.int (11 : Int32)), (.ref u)])
  refine Go.baload X0 hx hZ e0 AU ⟨by decide, by decide⟩ (v := (.int (111 : Int32))) rfl (hb hby own_l25_d17) ?_
  show Go p e below _ T0 (mkF m 18 #[.val (.ref u), .val (.ref v), .val (.int (11 : Int32))] [(.int (111 : Int32))])
  refine Go.of (fun _ kz => XS.aloadN X0.here hx rfl (hb hby own_l25_d18) rfl rfl kz) ?_
  show Go p e below _ T0 (mkF m 19 #[.val (.ref u), .val (.ref v), .val (.int (11 : Int32))] [(.ref v), (.int (111 : Int32))])
  refine Go.of (fun _ kz => XS.iloadN X0.here hx rfl (hb hby own_l25_d19) rfl kz) ?_
  show Go p e below _ T0 (mkF m 20 #[.val (.ref u), .val (.ref v), .val (.int (11 : Int32))] [(.int (11 : Int32)), (.ref v), (.int (111 : Int32))])
  refine Go.baload X0 hx hZ e0 AV ⟨by decide, by decide⟩ (v := (.int (111 : Int32))) rfl (hb hby own_l25_d20) ?_
  show Go p e below _ T0 (mkF m 21 #[.val (.ref u), .val (.ref v), .val (.int (11 : Int32))] [(.int (111 : Int32)), (.int (111 : Int32))])
  refine Go.of (fun _ kz => XS.icmpYes X0.here hx rfl (pc0 := 21) (pc' := 26) rfl (hb hby own_l25_d21) rfl (teq (by decide : (111 : Int32) = (111 : Int32))).1 (by decide) (by decide) kz) ?_
  show Go p e below _ T0 (mkF m 26 #[.val (.ref u), .val (.ref v), .val (.int (11 : Int32))] [])
  refine Go.of (fun _ kz => XS.iinc X0.here hx rfl (hb hby own_l25_d26) rfl (l' := #[.val (.ref u), .val (.ref v), .val (.int (12 : Int32))]) rfl kz) ?_
  show Go p e below _ T0 (mkF m 29 #[.val (.ref u), .val (.ref v), .val (.int (12 : Int32))] [])
  refine Go.of (fun _ kz => XS.goto X0.here hx rfl (pc0 := 29) (pc' := 9) rfl (hb hby own_l25_d29) (by decide) (by decide) kz) ?_
  show Go p e below _ T0 (mkF m 9 #[.val (.ref u), .val (.ref v), .val (.int (12 : Int32))] [])
  refine Go.of (fun _ kz => XS.iloadN X0.here hx rfl (hb hby own_l25_d9) rfl kz) ?_
  show Go p e below _ T0 (mkF m 10 #[.val (.ref u), .val (.ref v), .val (.int (12 : Int32))] [(.int (12 : Int32))])
  refine Go.of (fun _ kz => XS.aloadN X0.here hx rfl (hb hby own_l25_d10) rfl rfl kz) ?_
  show Go p e below _ T0 (mkF m 11 #[.val (.ref u), .val (.ref v), .val (.int (12 : Int32))] [(.ref u), (.int (12 : Int32))])
  refine Go.len X0 hx hZ e0 AU (hb hby own_l25_d11) ?_
  show Go p e below _ T0 (mkF m 12 #[.val (.ref u), .val (.ref v), .val (.int (12 : Int32))] [(.int (25 : Int32)), (.int (12 : Int32))])
  refine Go.of (fun _ kz => XS.icmpNo X0.here hx rfl (hb hby own_l25_d12) rfl (tlt (by decide : (12 : Int32) < (25 : Int32))).2.1 kz) ?_
  show Go p e below _ T0 (mkF m 15 #[.val (.ref u), .val (.ref v), .val (.int (12 : Int32))] [])
  refine Go.of (fun _ kz => XS.aloadN X0.here hx rfl (hb hby own_l25_d15) rfl rfl kz) ?_
  show Go p e below _ T0 (mkF m 16 #[.val (.ref u), .val (.ref v), .val (.int (12 : Int32))] [(.ref u)])
  refine Go.of (fun _ kz => XS.iloadN X0.here hx rfl (hb hby own_l25_d16) rfl kz) ?_
  show Go p e below _ T0 (mkF m 17 #[.val (.ref u), .val (.ref v), .val (.int (12 : Int32))] [(.int (12 : Int32)), (.ref u)])
  refine Go.baload X0 hx hZ e0 AU ⟨by decide, by decide⟩ (v := (.int (112 : Int32))) rfl (hb hby own_l25_d17) ?_
  show Go p e below _ T0 (mkF m 18 #[.val (.ref u), .val (.ref v), .val (.int (12 : Int32))] [(.int (112 : Int32))])
  refine Go.of (fun _ kz => XS.aloadN X0.here hx rfl (hb hby own_l25_d18) rfl rfl kz) ?_
  show Go p e below _ T0 (mkF m 19 #[.val (.ref u), .val (.ref v), .val (.int (12 : Int32))] [(.ref v), (.int (112 : Int32))])
  refine Go.of (fun _ kz => XS.iloadN X0.here hx rfl (hb hby own_l25_d19) rfl kz) ?_
  show Go p e below _ T0 (mkF m 20 #[.val (.ref u), .val (.ref v), .val (.int (12 : Int32))] [(.int (12 : Int32)), (.ref v), (.int (112 : Int32))])
  refine Go.baload X0 hx hZ e0 AV ⟨by decide, by decide⟩ (v := (.int (112 : Int32))) rfl (hb hby own_l25_d20) ?_
  show Go p e below _ T0 (mkF m 21 #[.val (.ref u), .val (.ref v), .val (.int (12 : Int32))] [(.int (112 : Int32)), (.int (112 : Int32))])
  refine Go.of (fun _ kz => XS.icmpYes X0.here hx rfl (pc0 := 21) (pc' := 26) rfl (hb hby own_l25_d21) rfl (teq (by decide : (112 : Int32) = (112 : Int32))).1 (by decide) (by decide) kz) ?_
  show Go p e below _ T0 (mkF m 26 #[.val (.ref u), .val (.ref v), .val (.int (12 : Int32))] [])
  refine Go.of (fun _ kz => XS.iinc X0.here hx rfl (hb hby own_l25_d26) rfl (l' := #[.val (.ref u), .val (.ref v), .val (.int (13 : Int32))]) rfl kz) ?_
  show Go p e below _ T0 (mkF m 29 #[.val (.ref u), .val (.ref v), .val (.int (13 : Int32))] [])
  refine Go.of (fun _ kz => XS.goto X0.here hx rfl (pc0 := 29) (pc' := 9) rfl (hb hby own_l25_d29) (by decide) (by decide) kz) ?_
  show Go p e below _ T0 (mkF m 9 #[.val (.ref u), .val (.ref v), .val (.int (13 : Int32))] [])
  refine Go.of (fun _ kz => XS.iloadN X0.here hx rfl (hb hby own_l25_d9) rfl kz) ?_
  show Go p e below _ T0 (mkF m 10 #[.val (.ref u), .val (.ref v), .val (.int (13 : Int32))] [(.int (13 : Int32))])
  refine Go.of (fun _ kz => XS.aloadN X0.here hx rfl (hb hby own_l25_d10) rfl rfl kz) ?_
  show Go p e below _ T0 (mkF m 11 #[.val (.ref u), .val (.ref v), .val (.int (13 : Int32))] [(.ref u), (.int (13 : Int32))])
  refine Go.len X0 hx hZ e0 AU (hb hby own_l25_d11) ?_
  show Go p e below _ T0 (mkF m 12 #[.val (.ref u), .val (.ref v), .val (.int (13 : Int32))] [(.int (25 : Int32)), (.int (13 : Int32))])
  refine Go.of (fun _ kz => XS.icmpNo X0.here hx rfl (hb hby own_l25_d12) rfl (tlt (by decide : (13 : Int32) < (25 : Int32))).2.1 kz) ?_
  show Go p e below _ T0 (mkF m 15 #[.val (.ref u), .val (.ref v), .val (.int (13 : Int32))] [])
  refine Go.of (fun _ kz => XS.aloadN X0.here hx rfl (hb hby own_l25_d15) rfl rfl kz) ?_
  show Go p e below _ T0 (mkF m 16 #[.val (.ref u), .val (.ref v), .val (.int (13 : Int32))] [(.ref u)])
  refine Go.of (fun _ kz => XS.iloadN X0.here hx rfl (hb hby own_l25_d16) rfl kz) ?_
  show Go p e below _ T0 (mkF m 17 #[.val (.ref u), .val (.ref v), .val (.int (13 : Int32))] [(.int (13 : Int32)), (.ref u)])
  refine Go.baload X0 hx hZ e0 AU ⟨by decide, by decide⟩ (v := (.int (32 : Int32))) rfl (hb hby own_l25_d17) ?_
  show Go p e below _ T0 (mkF m 18 #[.val (.ref u), .val (.ref v), .val (.int (13 : Int32))] [(.int (32 : Int32))])
  refine Go.of (fun _ kz => XS.aloadN X0.here hx rfl (hb hby own_l25_d18) rfl rfl kz) ?_
  show Go p e below _ T0 (mkF m 19 #[.val (.ref u), .val (.ref v), .val (.int (13 : Int32))] [(.ref v), (.int (32 : Int32))])
  refine Go.of (fun _ kz => XS.iloadN X0.here hx rfl (hb hby own_l25_d19) rfl kz) ?_
  show Go p e below _ T0 (mkF m 20 #[.val (.ref u), .val (.ref v), .val (.int (13 : Int32))] [(.int (13 : Int32)), (.ref v), (.int (32 : Int32))])
  refine Go.baload X0 hx hZ e0 AV ⟨by decide, by decide⟩ (v := (.int (32 : Int32))) rfl (hb hby own_l25_d20) ?_
  show Go p e below _ T0 (mkF m 21 #[.val (.ref u), .val (.ref v), .val (.int (13 : Int32))] [(.int (32 : Int32)), (.int (32 : Int32))])
  refine Go.of (fun _ kz => XS.icmpYes X0.here hx rfl (pc0 := 21) (pc' := 26) rfl (hb hby own_l25_d21) rfl (teq (by decide : (32 : Int32) = (32 : Int32))).1 (by decide) (by decide) kz) ?_
  show Go p e below _ T0 (mkF m 26 #[.val (.ref u), .val (.ref v), .val (.int (13 : Int32))] [])
  refine Go.of (fun _ kz => XS.iinc X0.here hx rfl (hb hby own_l25_d26) rfl (l' := #[.val (.ref u), .val (.ref v), .val (.int (14 : Int32))]) rfl kz) ?_
  show Go p e below _ T0 (mkF m 29 #[.val (.ref u), .val (.ref v), .val (.int (14 : Int32))] [])
  refine Go.of (fun _ kz => XS.goto X0.here hx rfl (pc0 := 29) (pc' := 9) rfl (hb hby own_l25_d29) (by decide) (by decide) kz) ?_
  show Go p e below _ T0 (mkF m 9 #[.val (.ref u), .val (.ref v), .val (.int (14 : Int32))] [])
  refine Go.of (fun _ kz => XS.iloadN X0.here hx rfl (hb hby own_l25_d9) rfl kz) ?_
  show Go p e below _ T0 (mkF m 10 #[.val (.ref u), .val (.ref v), .val (.int (14 : Int32))] [(.int (14 : Int32))])
  refine Go.of (fun _ kz => XS.aloadN X0.here hx rfl (hb hby own_l25_d10) rfl rfl kz) ?_
  show Go p e below _ T0 (mkF m 11 #[.val (.ref u), .val (.ref v), .val (.int (14 : Int32))] [(.ref u), (.int (14 : Int32))])
  refine Go.len X0 hx hZ e0 AU (hb hby own_l25_d11) ?_
  show Go p e below _ T0 (mkF m 12 #[.val (.ref u), .val (.ref v), .val (.int (14 : Int32))] [(.int (25 : Int32)), (.int (14 : Int32))])
  refine Go.of (fun _ kz => XS.icmpNo X0.here hx rfl (hb hby own_l25_d12) rfl (tlt (by decide : (14 : Int32) < (25 : Int32))).2.1 kz) ?_
  show Go p e below _ T0 (mkF m 15 #[.val (.ref u), .val (.ref v), .val (.int (14 : Int32))] [])
  refine Go.of (fun _ kz => XS.aloadN X0.here hx rfl (hb hby own_l25_d15) rfl rfl kz) ?_
  show Go p e below _ T0 (mkF m 16 #[.val (.ref u), .val (.ref v), .val (.int (14 : Int32))] [(.ref u)])
  refine Go.of (fun _ kz => XS.iloadN X0.here hx rfl (hb hby own_l25_d16) rfl kz) ?_
  show Go p e below _ T0 (mkF m 17 #[.val (.ref u), .val (.ref v), .val (.int (14 : Int32))] [(.int (14 : Int32)), (.ref u)])
  refine Go.baload X0 hx hZ e0 AU ⟨by decide, by decide⟩ (v := (.int (119 : Int32))) rfl (hb hby own_l25_d17) ?_
  show Go p e below _ T0 (mkF m 18 #[.val (.ref u), .val (.ref v), .val (.int (14 : Int32))] [(.int (119 : Int32))])
  refine Go.of (fun _ kz => XS.aloadN X0.here hx rfl (hb hby own_l25_d18) rfl rfl kz) ?_
  show Go p e below _ T0 (mkF m 19 #[.val (.ref u), .val (.ref v), .val (.int (14 : Int32))] [(.ref v), (.int (119 : Int32))])
  refine Go.of (fun _ kz => XS.iloadN X0.here hx rfl (hb hby own_l25_d19) rfl kz) ?_
  show Go p e below _ T0 (mkF m 20 #[.val (.ref u), .val (.ref v), .val (.int (14 : Int32))] [(.int (14 : Int32)), (.ref v), (.int (119 : Int32))])
  refine Go.baload X0 hx hZ e0 AV ⟨by decide, by decide⟩ (v := (.int (119 : Int32))) rfl (hb hby own_l25_d20) ?_
  show Go p e below _ T0 (mkF m 21 #[.val (.ref u), .val (.ref v), .val (.int (14 : Int32))] [(.int (119 : Int32)), (.int (119 : Int32))])
  refine Go.of (fun _ kz => XS.icmpYes X0.here hx rfl (pc0 := 21) (pc' := 26) rfl (hb hby own_l25_d21) rfl (teq (by decide : (119 : Int32) = (119 : Int32))).1 (by decide) (by decide) kz) ?_
  show Go p e below _ T0 (mkF m 26 #[.val (.ref u), .val (.ref v), .val (.int (14 : Int32))] [])
  refine Go.of (fun _ kz => XS.iinc X0.here hx rfl (hb hby own_l25_d26) rfl (l' := #[.val (.ref u), .val (.ref v), .val (.int (15 : Int32))]) rfl kz) ?_
  show Go p e below _ T0 (mkF m 29 #[.val (.ref u), .val (.ref v), .val (.int (15 : Int32))] [])
  refine Go.of (fun _ kz => XS.goto X0.here hx rfl (pc0 := 29) (pc' := 9) rfl (hb hby own_l25_d29) (by decide) (by decide) kz) ?_
  show Go p e below _ T0 (mkF m 9 #[.val (.ref u), .val (.ref v), .val (.int (15 : Int32))] [])
  refine Go.of (fun _ kz => XS.iloadN X0.here hx rfl (hb hby own_l25_d9) rfl kz) ?_
  show Go p e below _ T0 (mkF m 10 #[.val (.ref u), .val (.ref v), .val (.int (15 : Int32))] [(.int (15 : Int32))])
  refine Go.of (fun _ kz => XS.aloadN X0.here hx rfl (hb hby own_l25_d10) rfl rfl kz) ?_
  show Go p e below _ T0 (mkF m 11 #[.val (.ref u), .val (.ref v), .val (.int (15 : Int32))] [(.ref u), (.int (15 : Int32))])
  refine Go.len X0 hx hZ e0 AU (hb hby own_l25_d11) ?_
  show Go p e below _ T0 (mkF m 12 #[.val (.ref u), .val (.ref v), .val (.int (15 : Int32))] [(.int (25 : Int32)), (.int (15 : Int32))])
  refine Go.of (fun _ kz => XS.icmpNo X0.here hx rfl (hb hby own_l25_d12) rfl (tlt (by decide : (15 : Int32) < (25 : Int32))).2.1 kz) ?_
  show Go p e below _ T0 (mkF m 15 #[.val (.ref u), .val (.ref v), .val (.int (15 : Int32))] [])
  refine Go.of (fun _ kz => XS.aloadN X0.here hx rfl (hb hby own_l25_d15) rfl rfl kz) ?_
  show Go p e below _ T0 (mkF m 16 #[.val (.ref u), .val (.ref v), .val (.int (15 : Int32))] [(.ref u)])
  refine Go.of (fun _ kz => XS.iloadN X0.here hx rfl (hb hby own_l25_d16) rfl kz) ?_
  show Go p e below _ T0 (mkF m 17 #[.val (.ref u), .val (.ref v), .val (.int (15 : Int32))] [(.int (15 : Int32)), (.ref u)])
  refine Go.baload X0 hx hZ e0 AU ⟨by decide, by decide⟩ (v := (.int (111 : Int32))) rfl (hb hby own_l25_d17) ?_
  show Go p e below _ T0 (mkF m 18 #[.val (.ref u), .val (.ref v), .val (.int (15 : Int32))] [(.int (111 : Int32))])
  refine Go.of (fun _ kz => XS.aloadN X0.here hx rfl (hb hby own_l25_d18) rfl rfl kz) ?_
  show Go p e below _ T0 (mkF m 19 #[.val (.ref u), .val (.ref v), .val (.int (15 : Int32))] [(.ref v), (.int (111 : Int32))])
  refine Go.of (fun _ kz => XS.iloadN X0.here hx rfl (hb hby own_l25_d19) rfl kz) ?_
  show Go p e below _ T0 (mkF m 20 #[.val (.ref u), .val (.ref v), .val (.int (15 : Int32))] [(.int (15 : Int32)), (.ref v), (.int (111 : Int32))])
  refine Go.baload X0 hx hZ e0 AV ⟨by decide, by decide⟩ (v := (.int (111 : Int32))) rfl (hb hby own_l25_d20) ?_
  show Go p e below _ T0 (mkF m 21 #[.val (.ref u), .val (.ref v), .val (.int (15 : Int32))] [(.int (111 : Int32)), (.int (111 : Int32))])
  refine Go.of (fun _ kz => XS.icmpYes X0.here hx rfl (pc0 := 21) (pc' := 26) rfl (hb hby own_l25_d21) rfl (teq (by decide : (111 : Int32) = (111 : Int32))).1 (by decide) (by decide) kz) ?_
  show Go p e below _ T0 (mkF m 26 #[.val (.ref u), .val (.ref v), .val (.int (15 : Int32))] [])
  refine Go.of (fun _ kz => XS.iinc X0.here hx rfl (hb hby own_l25_d26) rfl (l' := #[.val (.ref u), .val (.ref v), .val (.int (16 : Int32))]) rfl kz) ?_
  show Go p e below _ T0 (mkF m 29 #[.val (.ref u), .val (.ref v), .val (.int (16 : Int32))] [])
  refine Go.of (fun _ kz => XS.goto X0.here hx rfl (pc0 := 29) (pc' := 9) rfl (hb hby own_l25_d29) (by decide) (by decide) kz) ?_
  show Go p e below _ T0 (mkF m 9 #[.val (.ref u), .val (.ref v), .val (.int (16 : Int32))] [])
  refine Go.of (fun _ kz => XS.iloadN X0.here hx rfl (hb hby own_l25_d9) rfl kz) ?_
  show Go p e below _ T0 (mkF m 10 #[.val (.ref u), .val (.ref v), .val (.int (16 : Int32))] [(.int (16 : Int32))])
  refine Go.of (fun _ kz => XS.aloadN X0.here hx rfl (hb hby own_l25_d10) rfl rfl kz) ?_
  show Go p e below _ T0 (mkF m 11 #[.val (.ref u), .val (.ref v), .val (.int (16 : Int32))] [(.ref u), (.int (16 : Int32))])
  refine Go.len X0 hx hZ e0 AU (hb hby own_l25_d11) ?_
  show Go p e below _ T0 (mkF m 12 #[.val (.ref u), .val (.ref v), .val (.int (16 : Int32))] [(.int (25 : Int32)), (.int (16 : Int32))])
  refine Go.of (fun _ kz => XS.icmpNo X0.here hx rfl (hb hby own_l25_d12) rfl (tlt (by decide : (16 : Int32) < (25 : Int32))).2.1 kz) ?_
  show Go p e below _ T0 (mkF m 15 #[.val (.ref u), .val (.ref v), .val (.int (16 : Int32))] [])
  refine Go.of (fun _ kz => XS.aloadN X0.here hx rfl (hb hby own_l25_d15) rfl rfl kz) ?_
  show Go p e below _ T0 (mkF m 16 #[.val (.ref u), .val (.ref v), .val (.int (16 : Int32))] [(.ref u)])
  refine Go.of (fun _ kz => XS.iloadN X0.here hx rfl (hb hby own_l25_d16) rfl kz) ?_
  show Go p e below _ T0 (mkF m 17 #[.val (.ref u), .val (.ref v), .val (.int (16 : Int32))] [(.int (16 : Int32)), (.ref u)])
  refine Go.baload X0 hx hZ e0 AU ⟨by decide, by decide⟩ (v := (.int (114 : Int32))) rfl (hb hby own_l25_d17) ?_
  show Go p e below _ T0 (mkF m 18 #[.val (.ref u), .val (.ref v), .val (.int (16 : Int32))] [(.int (114 : Int32))])
  refine Go.of (fun _ kz => XS.aloadN X0.here hx rfl (hb hby own_l25_d18) rfl rfl kz) ?_
  show Go p e below _ T0 (mkF m 19 #[.val (.ref u), .val (.ref v), .val (.int (16 : Int32))] [(.ref v), (.int (114 : Int32))])
  refine Go.of (fun _ kz => XS.iloadN X0.here hx rfl (hb hby own_l25_d19) rfl kz) ?_
  show Go p e below _ T0 (mkF m 20 #[.val (.ref u), .val (.ref v), .val (.int (16 : Int32))] [(.int (16 : Int32)), (.ref v), (.int (114 : Int32))])
  refine Go.baload X0 hx hZ e0 AV ⟨by decide, by decide⟩ (v := (.int (114 : Int32))) rfl (hb hby own_l25_d20) ?_
  show Go p e below _ T0 (mkF m 21 #[.val (.ref u), .val (.ref v), .val (.int (16 : Int32))] [(.int (114 : Int32)), (.int (114 : Int32))])
  refine Go.of (fun _ kz => XS.icmpYes X0.here hx rfl (pc0 := 21) (pc' := 26) rfl (hb hby own_l25_d21) rfl (teq (by decide : (114 : Int32) = (114 : Int32))).1 (by decide) (by decide) kz) ?_
  show Go p e below _ T0 (mkF m 26 #[.val (.ref u), .val (.ref v), .val (.int (16 : Int32))] [])
  refine Go.of (fun _ kz => XS.iinc X0.here hx rfl (hb hby own_l25_d26) rfl (l' := #[.val (.ref u), .val (.ref v), .val (.int (17 : Int32))]) rfl kz) ?_
  show Go p e below _ T0 (mkF m 29 #[.val (.ref u), .val (.ref v), .val (.int (17 : Int32))] [])
  refine Go.of (fun _ kz => XS.goto X0.here hx rfl (pc0 := 29) (pc' := 9) rfl (hb hby own_l25_d29) (by decide) (by decide) kz) ?_
  show Go p e below _ T0 (mkF m 9 #[.val (.ref u), .val (.ref v), .val (.int (17 : Int32))] [])
  refine Go.of (fun _ kz => XS.iloadN X0.here hx rfl (hb hby own_l25_d9) rfl kz) ?_
  show Go p e below _ T0 (mkF m 10 #[.val (.ref u), .val (.ref v), .val (.int (17 : Int32))] [(.int (17 : Int32))])
  refine Go.of (fun _ kz => XS.aloadN X0.here hx rfl (hb hby own_l25_d10) rfl rfl kz) ?_
  show Go p e below _ T0 (mkF m 11 #[.val (.ref u), .val (.ref v), .val (.int (17 : Int32))] [(.ref u), (.int (17 : Int32))])
  refine Go.len X0 hx hZ e0 AU (hb hby own_l25_d11) ?_
  show Go p e below _ T0 (mkF m 12 #[.val (.ref u), .val (.ref v), .val (.int (17 : Int32))] [(.int (25 : Int32)), (.int (17 : Int32))])
  refine Go.of (fun _ kz => XS.icmpNo X0.here hx rfl (hb hby own_l25_d12) rfl (tlt (by decide : (17 : Int32) < (25 : Int32))).2.1 kz) ?_
  show Go p e below _ T0 (mkF m 15 #[.val (.ref u), .val (.ref v), .val (.int (17 : Int32))] [])
  refine Go.of (fun _ kz => XS.aloadN X0.here hx rfl (hb hby own_l25_d15) rfl rfl kz) ?_
  show Go p e below _ T0 (mkF m 16 #[.val (.ref u), .val (.ref v), .val (.int (17 : Int32))] [(.ref u)])
  refine Go.of (fun _ kz => XS.iloadN X0.here hx rfl (hb hby own_l25_d16) rfl kz) ?_
  show Go p e below _ T0 (mkF m 17 #[.val (.ref u), .val (.ref v), .val (.int (17 : Int32))] [(.int (17 : Int32)), (.ref u)])
  refine Go.baload X0 hx hZ e0 AU ⟨by decide, by decide⟩ (v := (.int (100 : Int32))) rfl (hb hby own_l25_d17) ?_
  show Go p e below _ T0 (mkF m 18 #[.val (.ref u), .val (.ref v), .val (.int (17 : Int32))] [(.int (100 : Int32))])
  refine Go.of (fun _ kz => XS.aloadN X0.here hx rfl (hb hby own_l25_d18) rfl rfl kz) ?_
  show Go p e below _ T0 (mkF m 19 #[.val (.ref u), .val (.ref v), .val (.int (17 : Int32))] [(.ref v), (.int (100 : Int32))])
  refine Go.of (fun _ kz => XS.iloadN X0.here hx rfl (hb hby own_l25_d19) rfl kz) ?_
  show Go p e below _ T0 (mkF m 20 #[.val (.ref u), .val (.ref v), .val (.int (17 : Int32))] [(.int (17 : Int32)), (.ref v), (.int (100 : Int32))])
  refine Go.baload X0 hx hZ e0 AV ⟨by decide, by decide⟩ (v := (.int (100 : Int32))) rfl (hb hby own_l25_d20) ?_
  show Go p e below _ T0 (mkF m 21 #[.val (.ref u), .val (.ref v), .val (.int (17 : Int32))] [(.int (100 : Int32)), (.int (100 : Int32))])
  refine Go.of (fun _ kz => XS.icmpYes X0.here hx rfl (pc0 := 21) (pc' := 26) rfl (hb hby own_l25_d21) rfl (teq (by decide : (100 : Int32) = (100 : Int32))).1 (by decide) (by decide) kz) ?_
  show Go p e below _ T0 (mkF m 26 #[.val (.ref u), .val (.ref v), .val (.int (17 : Int32))] [])
  refine Go.of (fun _ kz => XS.iinc X0.here hx rfl (hb hby own_l25_d26) rfl (l' := #[.val (.ref u), .val (.ref v), .val (.int (18 : Int32))]) rfl kz) ?_
  show Go p e below _ T0 (mkF m 29 #[.val (.ref u), .val (.ref v), .val (.int (18 : Int32))] [])
  refine Go.of (fun _ kz => XS.goto X0.here hx rfl (pc0 := 29) (pc' := 9) rfl (hb hby own_l25_d29) (by decide) (by decide) kz) ?_
  show Go p e below _ T0 (mkF m 9 #[.val (.ref u), .val (.ref v), .val (.int (18 : Int32))] [])
  refine Go.of (fun _ kz => XS.iloadN X0.here hx rfl (hb hby own_l25_d9) rfl kz) ?_
  show Go p e below _ T0 (mkF m 10 #[.val (.ref u), .val (.ref v), .val (.int (18 : Int32))] [(.int (18 : Int32))])
  refine Go.of (fun _ kz => XS.aloadN X0.here hx rfl (hb hby own_l25_d10) rfl rfl kz) ?_
  show Go p e below _ T0 (mkF m 11 #[.val (.ref u), .val (.ref v), .val (.int (18 : Int32))] [(.ref u), (.int (18 : Int32))])
  refine Go.len X0 hx hZ e0 AU (hb hby own_l25_d11) ?_
  show Go p e below _ T0 (mkF m 12 #[.val (.ref u), .val (.ref v), .val (.int (18 : Int32))] [(.int (25 : Int32)), (.int (18 : Int32))])
  refine Go.of (fun _ kz => XS.icmpNo X0.here hx rfl (hb hby own_l25_d12) rfl (tlt (by decide : (18 : Int32) < (25 : Int32))).2.1 kz) ?_
  show Go p e below _ T0 (mkF m 15 #[.val (.ref u), .val (.ref v), .val (.int (18 : Int32))] [])
  refine Go.of (fun _ kz => XS.aloadN X0.here hx rfl (hb hby own_l25_d15) rfl rfl kz) ?_
  show Go p e below _ T0 (mkF m 16 #[.val (.ref u), .val (.ref v), .val (.int (18 : Int32))] [(.ref u)])
  refine Go.of (fun _ kz => XS.iloadN X0.here hx rfl (hb hby own_l25_d16) rfl kz) ?_
  show Go p e below _ T0 (mkF m 17 #[.val (.ref u), .val (.ref v), .val (.int (18 : Int32))] [(.int (18 : Int32)), (.ref u)])
  refine Go.baload X0 hx hZ e0 AU ⟨by decide, by decide⟩ (v := (.int (115 : Int32))) rfl (hb hby own_l25_d17) ?_
  show Go p e below _ T0 (mkF m 18 #[.val (.ref u), .val (.ref v), .val (.int (18 : Int32))] [(.int (115 : Int32))])
  refine Go.of (fun _ kz => XS.aloadN X0.here hx rfl (hb hby own_l25_d18) rfl rfl kz) ?_
  show Go p e below _ T0 (mkF m 19 #[.val (.ref u), .val (.ref v), .val (.int (18 : Int32))] [(.ref v), (.int (115 : Int32))])
  refine Go.of (fun _ kz => XS.iloadN X0.here hx rfl (hb hby own_l25_d19) rfl kz) ?_
  show Go p e below _ T0 (mkF m 20 #[.val (.ref u), .val (.ref v), .val (.int (18 : Int32))] [(.int (18 : Int32)), (.ref v), (.int (115 : Int32))])
  refine Go.baload X0 hx hZ e0 AV ⟨by decide, by decide⟩ (v := (.int (115 : Int32))) rfl (hb hby own_l25_d20) ?_
  show Go p e below _ T0 (mkF m 21 #[.val (.ref u), .val (.ref v), .val (.int (18 : Int32))] [(.int (115 : Int32)), (.int (115 : Int32))])
  refine Go.of (fun _ kz => XS.icmpYes X0.here hx rfl (pc0 := 21) (pc' := 26) rfl (hb hby own_l25_d21) rfl (teq (by decide : (115 : Int32) = (115 : Int32))).1 (by decide) (by decide) kz) ?_
  show Go p e below _ T0 (mkF m 26 #[.val (.ref u), .val (.ref v), .val (.int (18 : Int32))] [])
  refine Go.of (fun _ kz => XS.iinc X0.here hx rfl (hb hby own_l25_d26) rfl (l' := #[.val (.ref u), .val (.ref v), .val (.int (19 : Int32))]) rfl kz) ?_
  show Go p e below _ T0 (mkF m 29 #[.val (.ref u), .val (.ref v), .val (.int (19 : Int32))] [])
  refine Go.of (fun _ kz => XS.goto X0.here hx rfl (pc0 := 29) (pc' := 9) rfl (hb hby own_l25_d29) (by decide) (by decide) kz) ?_
  show Go p e below _ T0 (mkF m 9 #[.val (.ref u), .val (.ref v), .val (.int (19 : Int32))] [])
  refine Go.of (fun _ kz => XS.iloadN X0.here hx rfl (hb hby own_l25_d9) rfl kz) ?_
  show Go p e below _ T0 (mkF m 10 #[.val (.ref u), .val (.ref v), .val (.int (19 : Int32))] [(.int (19 : Int32))])
  refine Go.of (fun _ kz => XS.aloadN X0.here hx rfl (hb hby own_l25_d10) rfl rfl kz) ?_
  show Go p e below _ T0 (mkF m 11 #[.val (.ref u), .val (.ref v), .val (.int (19 : Int32))] [(.ref u), (.int (19 : Int32))])
  refine Go.len X0 hx hZ e0 AU (hb hby own_l25_d11) ?_
  show Go p e below _ T0 (mkF m 12 #[.val (.ref u), .val (.ref v), .val (.int (19 : Int32))] [(.int (25 : Int32)), (.int (19 : Int32))])
  refine Go.of (fun _ kz => XS.icmpNo X0.here hx rfl (hb hby own_l25_d12) rfl (tlt (by decide : (19 : Int32) < (25 : Int32))).2.1 kz) ?_
  show Go p e below _ T0 (mkF m 15 #[.val (.ref u), .val (.ref v), .val (.int (19 : Int32))] [])
  refine Go.of (fun _ kz => XS.aloadN X0.here hx rfl (hb hby own_l25_d15) rfl rfl kz) ?_
  show Go p e below _ T0 (mkF m 16 #[.val (.ref u), .val (.ref v), .val (.int (19 : Int32))] [(.ref u)])
  refine Go.of (fun _ kz => XS.iloadN X0.here hx rfl (hb hby own_l25_d16) rfl kz) ?_
  show Go p e below _ T0 (mkF m 17 #[.val (.ref u), .val (.ref v), .val (.int (19 : Int32))] [(.int (19 : Int32)), (.ref u)])
  refine Go.baload X0 hx hZ e0 AU ⟨by decide, by decide⟩ (v := (.int (32 : Int32))) rfl (hb hby own_l25_d17) ?_
  show Go p e below _ T0 (mkF m 18 #[.val (.ref u), .val (.ref v), .val (.int (19 : Int32))] [(.int (32 : Int32))])
  refine Go.of (fun _ kz => XS.aloadN X0.here hx rfl (hb hby own_l25_d18) rfl rfl kz) ?_
  show Go p e below _ T0 (mkF m 19 #[.val (.ref u), .val (.ref v), .val (.int (19 : Int32))] [(.ref v), (.int (32 : Int32))])
  refine Go.of (fun _ kz => XS.iloadN X0.here hx rfl (hb hby own_l25_d19) rfl kz) ?_
  show Go p e below _ T0 (mkF m 20 #[.val (.ref u), .val (.ref v), .val (.int (19 : Int32))] [(.int (19 : Int32)), (.ref v), (.int (32 : Int32))])
  refine Go.baload X0 hx hZ e0 AV ⟨by decide, by decide⟩ (v := (.int (32 : Int32))) rfl (hb hby own_l25_d20) ?_
  show Go p e below _ T0 (mkF m 21 #[.val (.ref u), .val (.ref v), .val (.int (19 : Int32))] [(.int (32 : Int32)), (.int (32 : Int32))])
  refine Go.of (fun _ kz => XS.icmpYes X0.here hx rfl (pc0 := 21) (pc' := 26) rfl (hb hby own_l25_d21) rfl (teq (by decide : (32 : Int32) = (32 : Int32))).1 (by decide) (by decide) kz) ?_
  show Go p e below _ T0 (mkF m 26 #[.val (.ref u), .val (.ref v), .val (.int (19 : Int32))] [])
  refine Go.of (fun _ kz => XS.iinc X0.here hx rfl (hb hby own_l25_d26) rfl (l' := #[.val (.ref u), .val (.ref v), .val (.int (20 : Int32))]) rfl kz) ?_
  show Go p e below _ T0 (mkF m 29 #[.val (.ref u), .val (.ref v), .val (.int (20 : Int32))] [])
  refine Go.of (fun _ kz => XS.goto X0.here hx rfl (pc0 := 29) (pc' := 9) rfl (hb hby own_l25_d29) (by decide) (by decide) kz) ?_
  show Go p e below _ T0 (mkF m 9 #[.val (.ref u), .val (.ref v), .val (.int (20 : Int32))] [])
  refine Go.of (fun _ kz => XS.iloadN X0.here hx rfl (hb hby own_l25_d9) rfl kz) ?_
  show Go p e below _ T0 (mkF m 10 #[.val (.ref u), .val (.ref v), .val (.int (20 : Int32))] [(.int (20 : Int32))])
  refine Go.of (fun _ kz => XS.aloadN X0.here hx rfl (hb hby own_l25_d10) rfl rfl kz) ?_
  show Go p e below _ T0 (mkF m 11 #[.val (.ref u), .val (.ref v), .val (.int (20 : Int32))] [(.ref u), (.int (20 : Int32))])
  refine Go.len X0 hx hZ e0 AU (hb hby own_l25_d11) ?_
  show Go p e below _ T0 (mkF m 12 #[.val (.ref u), .val (.ref v), .val (.int (20 : Int32))] [(.int (25 : Int32)), (.int (20 : Int32))])
  refine Go.of (fun _ kz => XS.icmpNo X0.here hx rfl (hb hby own_l25_d12) rfl (tlt (by decide : (20 : Int32) < (25 : Int32))).2.1 kz) ?_
  show Go p e below _ T0 (mkF m 15 #[.val (.ref u), .val (.ref v), .val (.int (20 : Int32))] [])
  refine Go.of (fun _ kz => XS.aloadN X0.here hx rfl (hb hby own_l25_d15) rfl rfl kz) ?_
  show Go p e below _ T0 (mkF m 16 #[.val (.ref u), .val (.ref v), .val (.int (20 : Int32))] [(.ref u)])
  refine Go.of (fun _ kz => XS.iloadN X0.here hx rfl (hb hby own_l25_d16) rfl kz) ?_
  show Go p e below _ T0 (mkF m 17 #[.val (.ref u), .val (.ref v), .val (.int (20 : Int32))] [(.int (20 : Int32)), (.ref u)])
  refine Go.baload X0 hx hZ e0 AU ⟨by decide, by decide⟩ (v := (.int (107 : Int32))) rfl (hb hby own_l25_d17) ?_
  show Go p e below _ T0 (mkF m 18 #[.val (.ref u), .val (.ref v), .val (.int (20 : Int32))] [(.int (107 : Int32))])
  refine Go.of (fun _ kz => XS.aloadN X0.here hx rfl (hb hby own_l25_d18) rfl rfl kz) ?_
  show Go p e below _ T0 (mkF m 19 #[.val (.ref u), .val (.ref v), .val (.int (20 : Int32))] [(.ref v), (.int (107 : Int32))])
  refine Go.of (fun _ kz => XS.iloadN X0.here hx rfl (hb hby own_l25_d19) rfl kz) ?_
  show Go p e below _ T0 (mkF m 20 #[.val (.ref u), .val (.ref v), .val (.int (20 : Int32))] [(.int (20 : Int32)), (.ref v), (.int (107 : Int32))])
  refine Go.baload X0 hx hZ e0 AV ⟨by decide, by decide⟩ (v := (.int (107 : Int32))) rfl (hb hby own_l25_d20) ?_
  show Go p e below _ T0 (mkF m 21 #[.val (.ref u), .val (.ref v), .val (.int (20 : Int32))] [(.int (107 : Int32)), (.int (107 : Int32))])
  refine Go.of (fun _ kz => XS.icmpYes X0.here hx rfl (pc0 := 21) (pc' := 26) rfl (hb hby own_l25_d21) rfl (teq (by decide : (107 : Int32) = (107 : Int32))).1 (by decide) (by decide) kz) ?_
  show Go p e below _ T0 (mkF m 26 #[.val (.ref u), .val (.ref v), .val (.int (20 : Int32))] [])
  refine Go.of (fun _ kz => XS.iinc X0.here hx rfl (hb hby own_l25_d26) rfl (l' := #[.val (.ref u), .val (.ref v), .val (.int (21 : Int32))]) rfl kz) ?_
  show Go p e below _ T0 (mkF m 29 #[.val (.ref u), .val (.ref v), .val (.int (21 : Int32))] [])
  refine Go.of (fun _ kz => XS.goto X0.here hx rfl (pc0 := 29) (pc' := 9) rfl (hb hby own_l25_d29) (by decide) (by decide) kz) ?_
  show Go p e below _ T0 (mkF m 9 #[.val (.ref u), .val (.ref v), .val (.int (21 : Int32))] [])
  refine Go.of (fun _ kz => XS.iloadN X0.here hx rfl (hb hby own_l25_d9) rfl kz) ?_
  show Go p e below _ T0 (mkF m 10 #[.val (.ref u), .val (.ref v), .val (.int (21 : Int32))] [(.int (21 : Int32))])
  refine Go.of (fun _ kz => XS.aloadN X0.here hx rfl (hb hby own_l25_d10) rfl rfl kz) ?_
  show Go p e below _ T0 (mkF m 11 #[.val (.ref u), .val (.ref v), .val (.int (21 : Int32))] [(.ref u), (.int (21 : Int32))])
  refine Go.len X0 hx hZ e0 AU (hb hby own_l25_d11) ?_
  show Go p e below _ T0 (mkF m 12 #[.val (.ref u), .val (.ref v), .val (.int (21 : Int32))] [(.int (25 : Int32)), (.int (21 : Int32))])
  refine Go.of (fun _ kz => XS.icmpNo X0.here hx rfl (hb hby own_l25_d12) rfl (tlt (by decide : (21 : Int32) < (25 : Int32))).2.1 kz) ?_
  show Go p e below _ T0 (mkF m 15 #[.val (.ref u), .val (.ref v), .val (.int (21 : Int32))] [])
  refine Go.of (fun _ kz => XS.aloadN X0.here hx rfl (hb hby own_l25_d15) rfl rfl kz) ?_
  show Go p e below _ T0 (mkF m 16 #[.val (.ref u), .val (.ref v), .val (.int (21 : Int32))] [(.ref u)])
  refine Go.of (fun _ kz => XS.iloadN X0.here hx rfl (hb hby own_l25_d16) rfl kz) ?_
  show Go p e below _ T0 (mkF m 17 #[.val (.ref u), .val (.ref v), .val (.int (21 : Int32))] [(.int (21 : Int32)), (.ref u)])
  refine Go.baload X0 hx hZ e0 AU ⟨by decide, by decide⟩ (v := (.int (101 : Int32))) rfl (hb hby own_l25_d17) ?_
  show Go p e below _ T0 (mkF m 18 #[.val (.ref u), .val (.ref v), .val (.int (21 : Int32))] [(.int (101 : Int32))])
  refine Go.of (fun _ kz => XS.aloadN X0.here hx rfl (hb hby own_l25_d18) rfl rfl kz) ?_
  show Go p e below _ T0 (mkF m 19 #[.val (.ref u), .val (.ref v), .val (.int (21 : Int32))] [(.ref v), (.int (101 : Int32))])
  refine Go.of (fun _ kz => XS.iloadN X0.here hx rfl (hb hby own_l25_d19) rfl kz) ?_
  show Go p e below _ T0 (mkF m 20 #[.val (.ref u), .val (.ref v), .val (.int (21 : Int32))] [(.int (21 : Int32)), (.ref v), (.int (101 : Int32))])
  refine Go.baload X0 hx hZ e0 AV ⟨by decide, by decide⟩ (v := (.int (101 : Int32))) rfl (hb hby own_l25_d20) ?_
  show Go p e below _ T0 (mkF m 21 #[.val (.ref u), .val (.ref v), .val (.int (21 : Int32))] [(.int (101 : Int32)), (.int (101 : Int32))])
  refine Go.of (fun _ kz => XS.icmpYes X0.here hx rfl (pc0 := 21) (pc' := 26) rfl (hb hby own_l25_d21) rfl (teq (by decide : (101 : Int32) = (101 : Int32))).1 (by decide) (by decide) kz) ?_
  show Go p e below _ T0 (mkF m 26 #[.val (.ref u), .val (.ref v), .val (.int (21 : Int32))] [])
  refine Go.of (fun _ kz => XS.iinc X0.here hx rfl (hb hby own_l25_d26) rfl (l' := #[.val (.ref u), .val (.ref v), .val (.int (22 : Int32))]) rfl kz) ?_
  show Go p e below _ T0 (mkF m 29 #[.val (.ref u), .val (.ref v), .val (.int (22 : Int32))] [])
  refine Go.of (fun _ kz => XS.goto X0.here hx rfl (pc0 := 29) (pc' := 9) rfl (hb hby own_l25_d29) (by decide) (by decide) kz) ?_
  show Go p e below _ T0 (mkF m 9 #[.val (.ref u), .val (.ref v), .val (.int (22 : Int32))] [])
  refine Go.of (fun _ kz => XS.iloadN X0.here hx rfl (hb hby own_l25_d9) rfl kz) ?_
  show Go p e below _ T0 (mkF m 10 #[.val (.ref u), .val (.ref v), .val (.int (22 : Int32))] [(.int (22 : Int32))])
  refine Go.of (fun _ kz => XS.aloadN X0.here hx rfl (hb hby own_l25_d10) rfl rfl kz) ?_
  show Go p e below _ T0 (mkF m 11 #[.val (.ref u), .val (.ref v), .val (.int (22 : Int32))] [(.ref u), (.int (22 : Int32))])
  refine Go.len X0 hx hZ e0 AU (hb hby own_l25_d11) ?_
  show Go p e below _ T0 (mkF m 12 #[.val (.ref u), .val (.ref v), .val (.int (22 : Int32))] [(.int (25 : Int32)), (.int (22 : Int32))])
  refine Go.of (fun _ kz => XS.icmpNo X0.here hx rfl (hb hby own_l25_d12) rfl (tlt (by decide : (22 : Int32) < (25 : Int32))).2.1 kz) ?_
  show Go p e below _ T0 (mkF m 15 #[.val (.ref u), .val (.ref v), .val (.int (22 : Int32))] [])
  refine Go.of (fun _ kz => XS.aloadN X0.here hx rfl (hb hby own_l25_d15) rfl rfl kz) ?_
  show Go p e below _ T0 (mkF m 16 #[.val (.ref u), .val (.ref v), .val (.int (22 : Int32))] [(.ref u)])
  refine Go.of (fun _ kz => XS.iloadN X0.here hx rfl (hb hby own_l25_d16) rfl kz) ?_
  show Go p e below _ T0 (mkF m 17 #[.val (.ref u), .val (.ref v), .val (.int (22 : Int32))] [(.int (22 : Int32)), (.ref u)])
  refine Go.baload X0 hx hZ e0 AU ⟨by decide, by decide⟩ (v := (.int (112 : Int32))) rfl (hb hby own_l25_d17) ?_
  show Go p e below _ T0 (mkF m 18 #[.val (.ref u), .val (.ref v), .val (.int (22 : Int32))] [(.int (112 : Int32))])
  refine Go.of (fun _ kz => XS.aloadN X0.here hx rfl (hb hby own_l25_d18) rfl rfl kz) ?_
  show Go p e below _ T0 (mkF m 19 #[.val (.ref u), .val (.ref v), .val (.int (22 : Int32))] [(.ref v), (.int (112 : Int32))])
  refine Go.of (fun _ kz => XS.iloadN X0.here hx rfl (hb hby own_l25_d19) rfl kz) ?_
  show Go p e below _ T0 (mkF m 20 #[.val (.ref u), .val (.ref v), .val (.int (22 : Int32))] [(.int (22 : Int32)), (.ref v), (.int (112 : Int32))])
  refine Go.baload X0 hx hZ e0 AV ⟨by decide, by decide⟩ (v := (.int (112 : Int32))) rfl (hb hby own_l25_d20) ?_
  show Go p e below _ T0 (mkF m 21 #[.val (.ref u), .val (.ref v), .val (.int (22 : Int32))] [(.int (112 : Int32)), (.int (112 : Int32))])
  refine Go.of (fun _ kz => XS.icmpYes X0.here hx rfl (pc0 := 21) (pc' := 26) rfl (hb hby own_l25_d21) rfl (teq (by decide : (112 : Int32) = (112 : Int32))).1 (by decide) (by decide) kz) ?_
  show Go p e below _ T0 (mkF m 26 #[.val (.ref u), .val (.ref v), .val (.int (22 : Int32))] [])
  refine Go.of (fun _ kz => XS.iinc X0.here hx rfl (hb hby own_l25_d26) rfl (l' := #[.val (.ref u), .val (.ref v), .val (.int (23 : Int32))]) rfl kz) ?_
  show Go p e below _ T0 (mkF m 29 #[.val (.ref u), .val (.ref v), .val (.int (23 : Int32))] [])
  refine Go.of (fun _ kz => XS.goto X0.here hx rfl (pc0 := 29) (pc' := 9) rfl (hb hby own_l25_d29) (by decide) (by decide) kz) ?_
  show Go p e below _ T0 (mkF m 9 #[.val (.ref u), .val (.ref v), .val (.int (23 : Int32))] [])
  refine Go.of (fun _ kz => XS.iloadN X0.here hx rfl (hb hby own_l25_d9) rfl kz) ?_
  show Go p e below _ T0 (mkF m 10 #[.val (.ref u), .val (.ref v), .val (.int (23 : Int32))] [(.int (23 : Int32))])
  refine Go.of (fun _ kz => XS.aloadN X0.here hx rfl (hb hby own_l25_d10) rfl rfl kz) ?_
  show Go p e below _ T0 (mkF m 11 #[.val (.ref u), .val (.ref v), .val (.int (23 : Int32))] [(.ref u), (.int (23 : Int32))])
  refine Go.len X0 hx hZ e0 AU (hb hby own_l25_d11) ?_
  show Go p e below _ T0 (mkF m 12 #[.val (.ref u), .val (.ref v), .val (.int (23 : Int32))] [(.int (25 : Int32)), (.int (23 : Int32))])
  refine Go.of (fun _ kz => XS.icmpNo X0.here hx rfl (hb hby own_l25_d12) rfl (tlt (by decide : (23 : Int32) < (25 : Int32))).2.1 kz) ?_
  show Go p e below _ T0 (mkF m 15 #[.val (.ref u), .val (.ref v), .val (.int (23 : Int32))] [])
  refine Go.of (fun _ kz => XS.aloadN X0.here hx rfl (hb hby own_l25_d15) rfl rfl kz) ?_
  show Go p e below _ T0 (mkF m 16 #[.val (.ref u), .val (.ref v), .val (.int (23 : Int32))] [(.ref u)])
  refine Go.of (fun _ kz => XS.iloadN X0.here hx rfl (hb hby own_l25_d16) rfl kz) ?_
  show Go p e below _ T0 (mkF m 17 #[.val (.ref u), .val (.ref v), .val (.int (23 : Int32))] [(.int (23 : Int32)), (.ref u)])
  refine Go.baload X0 hx hZ e0 AU ⟨by decide, by decide⟩ (v := (.int (116 : Int32))) rfl (hb hby own_l25_d17) ?_
  show Go p e below _ T0 (mkF m 18 #[.val (.ref u), .val (.ref v), .val (.int (23 : Int32))] [(.int (116 : Int32))])
  refine Go.of (fun _ kz => XS.aloadN X0.here hx rfl (hb hby own_l25_d18) rfl rfl kz) ?_
  show Go p e below _ T0 (mkF m 19 #[.val (.ref u), .val (.ref v), .val (.int (23 : Int32))] [(.ref v), (.int (116 : Int32))])
  refine Go.of (fun _ kz => XS.iloadN X0.here hx rfl (hb hby own_l25_d19) rfl kz) ?_
  show Go p e below _ T0 (mkF m 20 #[.val (.ref u), .val (.ref v), .val (.int (23 : Int32))] [(.int (23 : Int32)), (.ref v), (.int (116 : Int32))])
  refine Go.baload X0 hx hZ e0 AV ⟨by decide, by decide⟩ (v := (.int (116 : Int32))) rfl (hb hby own_l25_d20) ?_
  show Go p e below _ T0 (mkF m 21 #[.val (.ref u), .val (.ref v), .val (.int (23 : Int32))] [(.int (116 : Int32)), (.int (116 : Int32))])
  refine Go.of (fun _ kz => XS.icmpYes X0.here hx rfl (pc0 := 21) (pc' := 26) rfl (hb hby own_l25_d21) rfl (teq (by decide : (116 : Int32) = (116 : Int32))).1 (by decide) (by decide) kz) ?_
  show Go p e below _ T0 (mkF m 26 #[.val (.ref u), .val (.ref v), .val (.int (23 : Int32))] [])
  refine Go.of (fun _ kz => XS.iinc X0.here hx rfl (hb hby own_l25_d26) rfl (l' := #[.val (.ref u), .val (.ref v), .val (.int (24 : Int32))]) rfl kz) ?_
  show Go p e below _ T0 (mkF m 29 #[.val (.ref u), .val (.ref v), .val (.int (24 : Int32))] [])
  refine Go.of (fun _ kz => XS.goto X0.here hx rfl (pc0 := 29) (pc' := 9) rfl (hb hby own_l25_d29) (by decide) (by decide) kz) ?_
  show Go p e below _ T0 (mkF m 9 #[.val (.ref u), .val (.ref v), .val (.int (24 : Int32))] [])
  refine Go.of (fun _ kz => XS.iloadN X0.here hx rfl (hb hby own_l25_d9) rfl kz) ?_
  show Go p e below _ T0 (mkF m 10 #[.val (.ref u), .val (.ref v), .val (.int (24 : Int32))] [(.int (24 : Int32))])
  refine Go.of (fun _ kz => XS.aloadN X0.here hx rfl (hb hby own_l25_d10) rfl rfl kz) ?_
  show Go p e below _ T0 (mkF m 11 #[.val (.ref u), .val (.ref v), .val (.int (24 : Int32))] [(.ref u), (.int (24 : Int32))])
  refine Go.len X0 hx hZ e0 AU (hb hby own_l25_d11) ?_
  show Go p e below _ T0 (mkF m 12 #[.val (.ref u), .val (.ref v), .val (.int (24 : Int32))] [(.int (25 : Int32)), (.int (24 : Int32))])
  refine Go.of (fun _ kz => XS.icmpNo X0.here hx rfl (hb hby own_l25_d12) rfl (tlt (by decide : (24 : Int32) < (25 : Int32))).2.1 kz) ?_
  show Go p e below _ T0 (mkF m 15 #[.val (.ref u), .val (.ref v), .val (.int (24 : Int32))] [])
  refine Go.of (fun _ kz => XS.aloadN X0.here hx rfl (hb hby own_l25_d15) rfl rfl kz) ?_
  show Go p e below _ T0 (mkF m 16 #[.val (.ref u), .val (.ref v), .val (.int (24 : Int32))] [(.ref u)])
  refine Go.of (fun _ kz => XS.iloadN X0.here hx rfl (hb hby own_l25_d16) rfl kz) ?_
  show Go p e below _ T0 (mkF m 17 #[.val (.ref u), .val (.ref v), .val (.int (24 : Int32))] [(.int (24 : Int32)), (.ref u)])
  refine Go.baload X0 hx hZ e0 AU ⟨by decide, by decide⟩ (v := (.int (41 : Int32))) rfl (hb hby own_l25_d17) ?_
  show Go p e below _ T0 (mkF m 18 #[.val (.ref u), .val (.ref v), .val (.int (24 : Int32))] [(.int (41 : Int32))])
  refine Go.of (fun _ kz => XS.aloadN X0.here hx rfl (hb hby own_l25_d18) rfl rfl kz) ?_
  show Go p e below _ T0 (mkF m 19 #[.val (.ref u), .val (.ref v), .val (.int (24 : Int32))] [(.ref v), (.int (41 : Int32))])
  refine Go.of (fun _ kz => XS.iloadN X0.here hx rfl (hb hby own_l25_d19) rfl kz) ?_
  show Go p e below _ T0 (mkF m 20 #[.val (.ref u), .val (.ref v), .val (.int (24 : Int32))] [(.int (24 : Int32)), (.ref v), (.int (41 : Int32))])
  refine Go.baload X0 hx hZ e0 AV ⟨by decide, by decide⟩ (v := (.int (41 : Int32))) rfl (hb hby own_l25_d20) ?_
  show Go p e below _ T0 (mkF m 21 #[.val (.ref u), .val (.ref v), .val (.int (24 : Int32))] [(.int (41 : Int32)), (.int (41 : Int32))])
  refine Go.of (fun _ kz => XS.icmpYes X0.here hx rfl (pc0 := 21) (pc' := 26) rfl (hb hby own_l25_d21) rfl (teq (by decide : (41 : Int32) = (41 : Int32))).1 (by decide) (by decide) kz) ?_
  show Go p e below _ T0 (mkF m 26 #[.val (.ref u), .val (.ref v), .val (.int (24 : Int32))] [])
  refine Go.of (fun _ kz => XS.iinc X0.here hx rfl (hb hby own_l25_d26) rfl (l' := #[.val (.ref u), .val (.ref v), .val (.int (25 : Int32))]) rfl kz) ?_
  show Go p e below _ T0 (mkF m 29 #[.val (.ref u), .val (.ref v), .val (.int (25 : Int32))] [])
  refine Go.of (fun _ kz => XS.goto X0.here hx rfl (pc0 := 29) (pc' := 9) rfl (hb hby own_l25_d29) (by decide) (by decide) kz) ?_
  show Go p e below _ T0 (mkF m 9 #[.val (.ref u), .val (.ref v), .val (.int (25 : Int32))] [])
  refine Go.of (fun _ kz => XS.iloadN X0.here hx rfl (hb hby own_l25_d9) rfl kz) ?_
  show Go p e below _ T0 (mkF m 10 #[.val (.ref u), .val (.ref v), .val (.int (25 : Int32))] [(.int (25 : Int32))])
  refine Go.of (fun _ kz => XS.aloadN X0.here hx rfl (hb hby own_l25_d10) rfl rfl kz) ?_
  show Go p e below _ T0 (mkF m 11 #[.val (.ref u), .val (.ref v), .val (.int (25 : Int32))] [(.ref u), (.int (25 : Int32))])
  refine Go.len X0 hx hZ e0 AU (hb hby own_l25_d11) ?_
  show Go p e below _ T0 (mkF m 12 #[.val (.ref u), .val (.ref v), .val (.int (25 : Int32))] [(.int (25 : Int32)), (.int (25 : Int32))])
  refine Go.of (fun _ kz => XS.icmpYes X0.here hx rfl (pc0 := 12) (pc' := 32) rfl (hb hby own_l25_d12) rfl (flt (by decide : ¬ ((25 : Int32) < (25 : Int32)))).2.1 (by decide) (by decide) kz) ?_
  show Go p e below _ T0 (mkF m 32 #[.val (.ref u), .val (.ref v), .val (.int (25 : Int32))] [])
  refine Go.of (fun _ kz => XS.iconst X0.here hx rfl (hb hby own_l25_d32) kz) ?_
  show Go p e below _ T0 (mkF m 33 #[.val (.ref u), .val (.ref v), .val (.int (25 : Int32))] [(.int (1 : Int32))])
  exact Go.retN X0 hx hlk (t := .boolean) hret (by simp) (hb hby own_l25_d33) (by decide) (by decide) ⟨rfl, rfl, e0⟩
theorem own_q25_d0 : decode jdk_42_method_66_code 0 = .ok (.aload_n 0, 1) := by decide +kernel
theorem own_q25_d1 : decode jdk_42_method_66_code 1 = .ok (.aload_n 1, 1) := by decide +kernel
theorem own_q25_d2 : decode jdk_42_method_66_code 2 = .ok (.if_acmp .ne 5, 3) := by decide +kernel
theorem own_q25_d5 : decode jdk_42_method_66_code 5 = .ok (.iconst 1, 1) := by decide +kernel
theorem own_q25_d6 : decode jdk_42_method_66_code 6 = .ok (.ireturn, 1) := by decide +kernel
theorem own_q25_d7 : decode jdk_42_method_66_code 7 = .ok (.aload_n 1, 1) := by decide +kernel
theorem own_q25_d8 : decode jdk_42_method_66_code 8 = .ok (.instanceof 10, 3) := by decide +kernel
theorem own_q25_d11 : decode jdk_42_method_66_code 11 = .ok (.ifCond .eq 43, 3) := by decide +kernel
theorem own_q25_d14 : decode jdk_42_method_66_code 14 = .ok (.aload_n 1, 1) := by decide +kernel
theorem own_q25_d15 : decode jdk_42_method_66_code 15 = .ok (.checkcast 10, 3) := by decide +kernel
theorem own_q25_d18 : decode jdk_42_method_66_code 18 = .ok (.astore_n 2, 1) := by decide +kernel
theorem own_q25_d19 : decode jdk_42_method_66_code 19 = .ok (.getstatic 38, 3) := by decide +kernel
theorem own_q25_d22 : decode jdk_42_method_66_code 22 = .ok (.ifCond .eq 14, 3) := by decide +kernel
theorem own_q25_d25 : decode jdk_42_method_66_code 25 = .ok (.aload_n 0, 1) := by decide +kernel
theorem own_q25_d26 : decode jdk_42_method_66_code 26 = .ok (.getfield 15, 3) := by decide +kernel
theorem own_q25_d29 : decode jdk_42_method_66_code 29 = .ok (.aload_n 2, 1) := by decide +kernel
theorem own_q25_d30 : decode jdk_42_method_66_code 30 = .ok (.getfield 15, 3) := by decide +kernel
theorem own_q25_d33 : decode jdk_42_method_66_code 33 = .ok (.if_icmp .ne 21, 3) := by decide +kernel
theorem own_q25_d36 : decode jdk_42_method_66_code 36 = .ok (.aload_n 0, 1) := by decide +kernel
theorem own_q25_d37 : decode jdk_42_method_66_code 37 = .ok (.getfield 9, 3) := by decide +kernel
theorem own_q25_d40 : decode jdk_42_method_66_code 40 = .ok (.aload_n 2, 1) := by decide +kernel
theorem own_q25_d41 : decode jdk_42_method_66_code 41 = .ok (.getfield 9, 3) := by decide +kernel
theorem own_q25_d44 : decode jdk_42_method_66_code 44 = .ok (.invokestatic 541, 3) := by decide +kernel
theorem own_q25_d47 : decode jdk_42_method_66_code 47 = .ok (.ifCond .eq 7, 3) := by decide +kernel
theorem own_q25_d50 : decode jdk_42_method_66_code 50 = .ok (.iconst 1, 1) := by decide +kernel
theorem own_q25_d51 : decode jdk_42_method_66_code 51 = .ok (.goto 4, 3) := by decide +kernel
theorem own_q25_d55 : decode jdk_42_method_66_code 55 = .ok (.ireturn, 1) := by decide +kernel
set_option maxRecDepth 65536 in
set_option maxHeartbeats 40000000 in
theorem own_rmQ25 (l : Launch) (Z : State) (a0 : Array Value) (hw : ∀ d ∈ tables_1, d.before a0 Z = true) (x y u v : Addr) (ku kv : ClassId) (cz : Int32) (h0 : Heap) (EX : Exa Z h0 x "java/lang/String") (CX : Fld Z h0 x "java/lang/String" "coder" "B" (.int 0)) (WX : Fld Z h0 x "java/lang/String" "value" "[B" (.ref u)) (AU : Arv Z h0 u ku .byte 25 [(.int 101), (.int 110), (.int 103), (.int 108), (.int 105), (.int 115), (.int 104), (.int 32), (.int 40), (.int 115), (.int 116), (.int 111), (.int 112), (.int 32), (.int 119), (.int 111), (.int 114), (.int 100), (.int 115), (.int 32), (.int 107), (.int 101), (.int 112), (.int 116), (.int 41)] (.int 0)) (EY : Exa Z h0 y "java/lang/String") (CY : Fld Z h0 y "java/lang/String" "coder" "B" (.int 0)) (WY : Fld Z h0 y "java/lang/String" "value" "[B" (.ref v)) (AV : Arv Z h0 v kv .byte 25 [(.int 101), (.int 110), (.int 103), (.int 108), (.int 105), (.int 115), (.int 104), (.int 32), (.int 40), (.int 115), (.int 116), (.int 111), (.int 112), (.int 32), (.int 119), (.int 111), (.int 114), (.int 100), (.int 115), (.int 32), (.int 107), (.int 101), (.int 112), (.int 116), (.int 41)] (.int 0)) (SB : Sta Z h0 "java/lang/String" "COMPACT_STRINGS" "Z" (.int cz)) (hz : ¬ cz = (0 : Int32)) :
    MetFree l (⟨"java/lang/String", "equals", "(Ljava/lang/Object;)Z"⟩ : MethodName) (head1 [Jvm.Cond.code (⟨"java/lang/String", "equals", "(Ljava/lang/Object;)Z"⟩ : MethodName) jdk_42_method_66_code 3 (some .boolean)] ({ frames := 1, cells := 0, slots := 0, locals := 14 } : Room)) (fun aa U => aa = #[(.ref x), (.ref y)] ∧ Z.Warmed39 U.vm ∧ U.heap = h0) (fun _ _ _ _ _ => True) (fun _ U o U' => ∃ v L, o = .returned v ∧ (PQ h0 (some (.int 1))) v U'.heap L ∧ FrameEnd U o U' L ({ frames := 1, cells := 0, slots := 0, locals := 14 } : Room).cells ({ frames := 1, cells := 0, slots := 0, locals := 14 } : Room).slots) := by
  refine goBody (y := (⟨"java/lang/String", "equals", "(Ljava/lang/Object;)Z"⟩ : MethodName)) (Q := PQ h0 (some (.int 1))) (plainFor_of_name (by first | (simp [plainName, overriddenIn]; done) | decide +kernel)) ?_
  intro p e s m below meth c T0 hx hZ hby hml hown hnm hret hlk X0 e0
  have hown : s.vm.findClass "java/lang/String" = some m.cls := hown
  refine Go.cast (g' := mkF m 0 #[.val (.ref x), .val (.ref y), .unset] []) (by first | (simp [entryFrame, mkF, argsToLocals, Value.category]; done) | rfl) ?_
  show Go p e below _ T0 (mkF m 0 #[.val (.ref x), .val (.ref y), .unset] [])
  refine Go.of (fun _ kz => XS.aloadN X0.here hx rfl (hb hby own_q25_d0) rfl rfl kz) ?_
  show Go p e below _ T0 (mkF m 1 #[.val (.ref x), .val (.ref y), .unset] [(.ref x)])
  refine Go.of (fun _ kz => XS.aloadN X0.here hx rfl (hb hby own_q25_d1) rfl rfl kz) ?_
  show Go p e below _ T0 (mkF m 2 #[.val (.ref x), .val (.ref y), .unset] [(.ref y), (.ref x)])
  by_cases q2 : (Value.ref x) = Value.ref y
  ·
    refine Go.of (fun _ kz => acmp X0 hx rfl (x := .ref x) (y := .ref y) rfl rfl (pc0 := 2) (pc' := 5) (same := true) rfl (hb hby own_q25_d2) rfl (decide_eq_true q2) (by decide) (by decide) kz) ?_
    show Go p e below _ T0 (mkF m 5 #[.val (.ref x), .val (.ref y), .unset] [])
    refine Go.of (fun _ kz => XS.iconst X0.here hx rfl (hb hby own_q25_d5) kz) ?_
    show Go p e below _ T0 (mkF m 6 #[.val (.ref x), .val (.ref y), .unset] [(.int (1 : Int32))])
    exact Go.retN X0 hx hlk (t := .boolean) hret (by simp) (hb hby own_q25_d6) (by decide) (by decide) ⟨rfl, rfl, e0⟩
  ·
    refine Go.of (fun _ kz => acmp X0 hx rfl (x := .ref x) (y := .ref y) rfl rfl (pc0 := 2) (pc' := 7) (same := false) rfl (hb hby own_q25_d2) rfl (decide_eq_false q2) (by decide) (by decide) kz) ?_
    show Go p e below _ T0 (mkF m 7 #[.val (.ref x), .val (.ref y), .unset] [])
    refine Go.of (fun _ kz => XS.aloadN X0.here hx rfl (hb hby own_q25_d7) rfl rfl kz) ?_
    show Go p e below _ T0 (mkF m 8 #[.val (.ref x), .val (.ref y), .unset] [(.ref y)])
    refine Go.instOf X0 hx hZ hown (hw _ (List.mem_of_getElem? (i := 48) rfl)) e0 (Ins.self EY) (hb hby own_q25_d8) fun T1 X1 e1 => ?_
    show Go p e below _ T1 (mkF m 11 #[.val (.ref x), .val (.ref y), .unset] [(.int (1 : Int32))])
    refine Go.of (fun _ kz => XS.ifNo X1.here hx rfl (hb hby own_q25_d11) rfl ((if0 _ _).trans (feq (by decide : ¬ ((1 : Int32) = (0 : Int32)))).1) kz) ?_
    show Go p e below _ T1 (mkF m 14 #[.val (.ref x), .val (.ref y), .unset] [])
    refine Go.of (fun _ kz => XS.aloadN X1.here hx rfl (hb hby own_q25_d14) rfl rfl kz) ?_
    show Go p e below _ T1 (mkF m 15 #[.val (.ref x), .val (.ref y), .unset] [(.ref y)])
    refine Go.castTo X1 hx hZ hown (hw _ (List.mem_of_getElem? (i := 48) rfl)) e1 (Ins.self EY) (hb hby own_q25_d15) fun T2 X2 e2 => ?_
    show Go p e below _ T2 (mkF m 18 #[.val (.ref x), .val (.ref y), .unset] [(.ref y)])
    refine Go.of (fun _ kz => XS.astoreN X2.here hx rfl (hb hby own_q25_d18) rfl rfl (l' := #[.val (.ref x), .val (.ref y), .val (.ref y)]) rfl kz) ?_
    show Go p e below _ T2 (mkF m 19 #[.val (.ref x), .val (.ref y), .val (.ref y)] [])
    refine Go.gets X2 hx hZ hown (hw _ (List.mem_of_getElem? (i := 50) rfl)) Via.refl e2 SB (hb hby own_q25_d19) fun T3 X3 e3 => ?_
    show Go p e below _ T3 (mkF m 22 #[.val (.ref x), .val (.ref y), .val (.ref y)] [(.int cz)])
    refine Go.of (fun _ kz => XS.ifNo X3.here hx rfl (hb hby own_q25_d22) rfl ((if0 _ _).trans (feq hz).1) kz) ?_
    show Go p e below _ T3 (mkF m 25 #[.val (.ref x), .val (.ref y), .val (.ref y)] [])
    refine Go.of (fun _ kz => XS.aloadN X3.here hx rfl (hb hby own_q25_d25) rfl rfl kz) ?_
    show Go p e below _ T3 (mkF m 26 #[.val (.ref x), .val (.ref y), .val (.ref y)] [(.ref x)])
    refine Go.getf X3 hx hZ hown (hw _ (List.mem_of_getElem? (i := 51) rfl)) Via.refl e3 CX (hb hby own_q25_d26) fun T4 X4 e4 => ?_
    show Go p e below _ T4 (mkF m 29 #[.val (.ref x), .val (.ref y), .val (.ref y)] [(.int (0 : Int32))])
    refine Go.of (fun _ kz => XS.aloadN X4.here hx rfl (hb hby own_q25_d29) rfl rfl kz) ?_
    show Go p e below _ T4 (mkF m 30 #[.val (.ref x), .val (.ref y), .val (.ref y)] [(.ref y), (.int (0 : Int32))])
    refine Go.getf X4 hx hZ hown (hw _ (List.mem_of_getElem? (i := 51) rfl)) Via.refl e4 CY (hb hby own_q25_d30) fun T5 X5 e5 => ?_
    show Go p e below _ T5 (mkF m 33 #[.val (.ref x), .val (.ref y), .val (.ref y)] [(.int (0 : Int32)), (.int (0 : Int32))])
    refine Go.of (fun _ kz => XS.icmpNo X5.here hx rfl (hb hby own_q25_d33) rfl (teq (by decide : (0 : Int32) = (0 : Int32))).2 kz) ?_
    show Go p e below _ T5 (mkF m 36 #[.val (.ref x), .val (.ref y), .val (.ref y)] [])
    refine Go.of (fun _ kz => XS.aloadN X5.here hx rfl (hb hby own_q25_d36) rfl rfl kz) ?_
    show Go p e below _ T5 (mkF m 37 #[.val (.ref x), .val (.ref y), .val (.ref y)] [(.ref x)])
    refine Go.getf X5 hx hZ hown (hw _ (List.mem_of_getElem? (i := 52) rfl)) Via.refl e5 WX (hb hby own_q25_d37) fun T6 X6 e6 => ?_
    show Go p e below _ T6 (mkF m 40 #[.val (.ref x), .val (.ref y), .val (.ref y)] [(.ref u)])
    refine Go.of (fun _ kz => XS.aloadN X6.here hx rfl (hb hby own_q25_d40) rfl rfl kz) ?_
    show Go p e below _ T6 (mkF m 41 #[.val (.ref x), .val (.ref y), .val (.ref y)] [(.ref y), (.ref u)])
    refine Go.getf X6 hx hZ hown (hw _ (List.mem_of_getElem? (i := 52) rfl)) Via.refl e6 WY (hb hby own_q25_d41) fun T7 X7 e7 => ?_
    show Go p e below _ T7 (mkF m 44 #[.val (.ref x), .val (.ref y), .val (.ref y)] [(.ref v), (.ref u)])
    refine Go.callSP (W := 0) (y := (⟨"java/lang/StringLatin1", "equals", "([B[B)Z"⟩ : MethodName)) (argsL := [(.ref u), (.ref v)]) (rest := []) (r := some (.int (1 : Int32))) X7 hx hZ hown (hw _ (List.mem_of_getElem? (i := 53) rfl)) (hw _ (List.mem_of_getElem? (i := 54) rfl)) (hw _ (List.mem_of_getElem? (i := 55) rfl)) (hw _ (List.mem_of_getElem? (i := 56) rfl)) (by decide) (own_rmL25 l Z a0 hw u v ku kv h0 AU AV) e7 (by rw [hml]; rfl) (lenOf own_dsc1 rfl) (hb hby own_q25_d44) rfl (Nat.le_of_eq rfl) (by decide) (by decide) (by decide) (by decide) fun T8 X8 e8 => ?_
    show Go p e below _ T8 (mkF m 47 #[.val (.ref x), .val (.ref y), .val (.ref y)] [(.int (1 : Int32))])
    refine Go.of (fun _ kz => XS.ifNo X8.here hx rfl (hb hby own_q25_d47) rfl ((if0 _ _).trans (feq (by decide : ¬ ((1 : Int32) = (0 : Int32)))).1) kz) ?_
    show Go p e below _ T8 (mkF m 50 #[.val (.ref x), .val (.ref y), .val (.ref y)] [])
    refine Go.of (fun _ kz => XS.iconst X8.here hx rfl (hb hby own_q25_d50) kz) ?_
    show Go p e below _ T8 (mkF m 51 #[.val (.ref x), .val (.ref y), .val (.ref y)] [(.int (1 : Int32))])
    refine Go.of (fun _ kz => XS.goto X8.here hx rfl (pc0 := 51) (pc' := 55) rfl (hb hby own_q25_d51) (by decide) (by decide) kz) ?_
    show Go p e below _ T8 (mkF m 55 #[.val (.ref x), .val (.ref y), .val (.ref y)] [(.int (1 : Int32))])
    exact Go.retN X8 hx hlk (t := .boolean) hret (by simp) (hb hby own_q25_d55) (by decide) (by decide) ⟨rfl, rfl, e8⟩
theorem own_lD_d0 : decode jdk_43_method_13_code 0 = .ok (.aload_n 0, 1) := by decide +kernel
theorem own_lD_d1 : decode jdk_43_method_13_code 1 = .ok (.arraylength, 1) := by decide +kernel
theorem own_lD_d2 : decode jdk_43_method_13_code 2 = .ok (.aload_n 1, 1) := by decide +kernel
theorem own_lD_d3 : decode jdk_43_method_13_code 3 = .ok (.arraylength, 1) := by decide +kernel
theorem own_lD_d4 : decode jdk_43_method_13_code 4 = .ok (.if_icmp .ne 30, 3) := by decide +kernel
theorem own_lD_d34 : decode jdk_43_method_13_code 34 = .ok (.iconst 0, 1) := by decide +kernel
theorem own_lD_d35 : decode jdk_43_method_13_code 35 = .ok (.ireturn, 1) := by decide +kernel
set_option maxRecDepth 65536 in
set_option maxHeartbeats 40000000 in
theorem own_rmLD (l : Launch) (Z : State) (a0 : Array Value) (hw : ∀ d ∈ tables_1, d.before a0 Z = true) (u v : Addr) (ku kv : ClassId) (h0 : Heap) (AU : Arv Z h0 u ku .byte 25 [(.int 101), (.int 110), (.int 103), (.int 108), (.int 105), (.int 115), (.int 104), (.int 32), (.int 40), (.int 115), (.int 116), (.int 111), (.int 112), (.int 32), (.int 119), (.int 111), (.int 114), (.int 100), (.int 115), (.int 32), (.int 107), (.int 101), (.int 112), (.int 116), (.int 41)] (.int 0)) (AV : Arv Z h0 v kv .byte 7 [(.int 101), (.int 110), (.int 103), (.int 108), (.int 105), (.int 115), (.int 104)] (.int 0)) :
    MetFree l (⟨"java/lang/StringLatin1", "equals", "([B[B)Z"⟩ : MethodName) (head1 [Jvm.Cond.code (⟨"java/lang/StringLatin1", "equals", "([B[B)Z"⟩ : MethodName) jdk_43_method_13_code 3 (some .boolean)] ({ frames := 0, cells := 0, slots := 0, locals := 0 } : Room)) (fun aa U => aa = #[(.ref u), (.ref v)] ∧ Z.Warmed39 U.vm ∧ U.heap = h0) (fun _ _ _ _ _ => True) (fun _ U o U' => ∃ v L, o = .returned v ∧ (PQ h0 (some (.int 0))) v U'.heap L ∧ FrameEnd U o U' L ({ frames := 0, cells := 0, slots := 0, locals := 0 } : Room).cells ({ frames := 0, cells := 0, slots := 0, locals := 0 } : Room).slots) := by
  refine goBody (y := (⟨"java/lang/StringLatin1", "equals", "([B[B)Z"⟩ : MethodName)) (Q := PQ h0 (some (.int 0))) (plainFor_of_name (by first | (simp [plainName, overriddenIn]; done) | decide +kernel)) ?_
  intro p e s m below meth c T0 hx hZ hby hml hown hnm hret hlk X0 e0
  have hown : s.vm.findClass "java/lang/StringLatin1" = some m.cls := hown
  refine Go.cast (g' := mkF m 0 #[.val (.ref u), .val (.ref v), .unset] []) (by first | (simp [entryFrame, mkF, argsToLocals, Value.category]; done) | rfl) ?_
  show Go p e below _ T0 (mkF m 0 #[.val (.ref u), .val (.ref v), .unset] [])
  refine Go.of (fun _ kz => XS.aloadN X0.here hx rfl (hb hby own_lD_d0) rfl rfl kz) ?_
  show Go p e below _ T0 (mkF m 1 #[.val (.ref u), .val (.ref v), .unset] [(.ref u)])
  refine Go.len X0 hx hZ e0 AU (hb hby own_lD_d1) ?_
  show Go p e below _ T0 (mkF m 2 #[.val (.ref u), .val (.ref v), .unset] [(.int (25 : Int32))])
  refine Go.of (fun _ kz => XS.aloadN X0.here hx rfl (hb hby own_lD_d2) rfl rfl kz) ?_
  show Go p e below _ T0 (mkF m 3 #[.val (.ref u), .val (.ref v), .unset] [(.ref v), (.int (25 : Int32))])
  refine Go.len X0 hx hZ e0 AV (hb hby own_lD_d3) ?_
  show Go p e below _ T0 (mkF m 4 #[.val (.ref u), .val (.ref v), .unset] [(.int (7 : Int32)), (.int (25 : Int32))])
  refine Go.of (fun _ kz => XS.icmpYes X0.here hx rfl (pc0 := 4) (pc' := 34) rfl (hb hby own_lD_d4) rfl (feq (by decide : ¬ ((25 : Int32) = (7 : Int32)))).2 (by decide) (by decide) kz) ?_
  show Go p e below _ T0 (mkF m 34 #[.val (.ref u), .val (.ref v), .unset] [])
  refine Go.of (fun _ kz => XS.iconst X0.here hx rfl (hb hby own_lD_d34) kz) ?_
  show Go p e below _ T0 (mkF m 35 #[.val (.ref u), .val (.ref v), .unset] [(.int (0 : Int32))])
  exact Go.retN X0 hx hlk (t := .boolean) hret (by simp) (hb hby own_lD_d35) (by decide) (by decide) ⟨rfl, rfl, e0⟩
theorem own_qD_d0 : decode jdk_42_method_66_code 0 = .ok (.aload_n 0, 1) := by decide +kernel
theorem own_qD_d1 : decode jdk_42_method_66_code 1 = .ok (.aload_n 1, 1) := by decide +kernel
theorem own_qD_d2 : decode jdk_42_method_66_code 2 = .ok (.if_acmp .ne 5, 3) := by decide +kernel
theorem own_qD_d7 : decode jdk_42_method_66_code 7 = .ok (.aload_n 1, 1) := by decide +kernel
theorem own_qD_d8 : decode jdk_42_method_66_code 8 = .ok (.instanceof 10, 3) := by decide +kernel
theorem own_qD_d11 : decode jdk_42_method_66_code 11 = .ok (.ifCond .eq 43, 3) := by decide +kernel
theorem own_qD_d14 : decode jdk_42_method_66_code 14 = .ok (.aload_n 1, 1) := by decide +kernel
theorem own_qD_d15 : decode jdk_42_method_66_code 15 = .ok (.checkcast 10, 3) := by decide +kernel
theorem own_qD_d18 : decode jdk_42_method_66_code 18 = .ok (.astore_n 2, 1) := by decide +kernel
theorem own_qD_d19 : decode jdk_42_method_66_code 19 = .ok (.getstatic 38, 3) := by decide +kernel
theorem own_qD_d22 : decode jdk_42_method_66_code 22 = .ok (.ifCond .eq 14, 3) := by decide +kernel
theorem own_qD_d25 : decode jdk_42_method_66_code 25 = .ok (.aload_n 0, 1) := by decide +kernel
theorem own_qD_d26 : decode jdk_42_method_66_code 26 = .ok (.getfield 15, 3) := by decide +kernel
theorem own_qD_d29 : decode jdk_42_method_66_code 29 = .ok (.aload_n 2, 1) := by decide +kernel
theorem own_qD_d30 : decode jdk_42_method_66_code 30 = .ok (.getfield 15, 3) := by decide +kernel
theorem own_qD_d33 : decode jdk_42_method_66_code 33 = .ok (.if_icmp .ne 21, 3) := by decide +kernel
theorem own_qD_d36 : decode jdk_42_method_66_code 36 = .ok (.aload_n 0, 1) := by decide +kernel
theorem own_qD_d37 : decode jdk_42_method_66_code 37 = .ok (.getfield 9, 3) := by decide +kernel
theorem own_qD_d40 : decode jdk_42_method_66_code 40 = .ok (.aload_n 2, 1) := by decide +kernel
theorem own_qD_d41 : decode jdk_42_method_66_code 41 = .ok (.getfield 9, 3) := by decide +kernel
theorem own_qD_d44 : decode jdk_42_method_66_code 44 = .ok (.invokestatic 541, 3) := by decide +kernel
theorem own_qD_d47 : decode jdk_42_method_66_code 47 = .ok (.ifCond .eq 7, 3) := by decide +kernel
theorem own_qD_d54 : decode jdk_42_method_66_code 54 = .ok (.iconst 0, 1) := by decide +kernel
theorem own_qD_d55 : decode jdk_42_method_66_code 55 = .ok (.ireturn, 1) := by decide +kernel
set_option maxRecDepth 65536 in
set_option maxHeartbeats 40000000 in
theorem own_rmQD (l : Launch) (Z : State) (a0 : Array Value) (hw : ∀ d ∈ tables_1, d.before a0 Z = true) (x y u v : Addr) (ku kv : ClassId) (cz : Int32) (h0 : Heap) (EX : Exa Z h0 x "java/lang/String") (CX : Fld Z h0 x "java/lang/String" "coder" "B" (.int 0)) (WX : Fld Z h0 x "java/lang/String" "value" "[B" (.ref u)) (AU : Arv Z h0 u ku .byte 25 [(.int 101), (.int 110), (.int 103), (.int 108), (.int 105), (.int 115), (.int 104), (.int 32), (.int 40), (.int 115), (.int 116), (.int 111), (.int 112), (.int 32), (.int 119), (.int 111), (.int 114), (.int 100), (.int 115), (.int 32), (.int 107), (.int 101), (.int 112), (.int 116), (.int 41)] (.int 0)) (EY : Exa Z h0 y "java/lang/String") (CY : Fld Z h0 y "java/lang/String" "coder" "B" (.int 0)) (WY : Fld Z h0 y "java/lang/String" "value" "[B" (.ref v)) (AV : Arv Z h0 v kv .byte 7 [(.int 101), (.int 110), (.int 103), (.int 108), (.int 105), (.int 115), (.int 104)] (.int 0)) (SB : Sta Z h0 "java/lang/String" "COMPACT_STRINGS" "Z" (.int cz)) (hz : ¬ cz = (0 : Int32)) (hne : x ≠ y) :
    MetFree l (⟨"java/lang/String", "equals", "(Ljava/lang/Object;)Z"⟩ : MethodName) (head1 [Jvm.Cond.code (⟨"java/lang/String", "equals", "(Ljava/lang/Object;)Z"⟩ : MethodName) jdk_42_method_66_code 3 (some .boolean)] ({ frames := 1, cells := 0, slots := 0, locals := 14 } : Room)) (fun aa U => aa = #[(.ref x), (.ref y)] ∧ Z.Warmed39 U.vm ∧ U.heap = h0) (fun _ _ _ _ _ => True) (fun _ U o U' => ∃ v L, o = .returned v ∧ (PQ h0 (some (.int 0))) v U'.heap L ∧ FrameEnd U o U' L ({ frames := 1, cells := 0, slots := 0, locals := 14 } : Room).cells ({ frames := 1, cells := 0, slots := 0, locals := 14 } : Room).slots) := by
  refine goBody (y := (⟨"java/lang/String", "equals", "(Ljava/lang/Object;)Z"⟩ : MethodName)) (Q := PQ h0 (some (.int 0))) (plainFor_of_name (by first | (simp [plainName, overriddenIn]; done) | decide +kernel)) ?_
  intro p e s m below meth c T0 hx hZ hby hml hown hnm hret hlk X0 e0
  have hown : s.vm.findClass "java/lang/String" = some m.cls := hown
  refine Go.cast (g' := mkF m 0 #[.val (.ref x), .val (.ref y), .unset] []) (by first | (simp [entryFrame, mkF, argsToLocals, Value.category]; done) | rfl) ?_
  show Go p e below _ T0 (mkF m 0 #[.val (.ref x), .val (.ref y), .unset] [])
  refine Go.of (fun _ kz => XS.aloadN X0.here hx rfl (hb hby own_qD_d0) rfl rfl kz) ?_
  show Go p e below _ T0 (mkF m 1 #[.val (.ref x), .val (.ref y), .unset] [(.ref x)])
  refine Go.of (fun _ kz => XS.aloadN X0.here hx rfl (hb hby own_qD_d1) rfl rfl kz) ?_
  show Go p e below _ T0 (mkF m 2 #[.val (.ref x), .val (.ref y), .unset] [(.ref y), (.ref x)])
  refine Go.of (fun _ kz => acmp X0 hx rfl (x := .ref x) (y := .ref y) rfl rfl (pc0 := 2) (pc' := 7) (same := false) rfl (hb hby own_qD_d2) rfl (decide_eq_false fun q => hne (Value.ref.inj q)) (by decide) (by decide) kz) ?_
  show Go p e below _ T0 (mkF m 7 #[.val (.ref x), .val (.ref y), .unset] [])
  show Go p e below _ T0 (mkF m 7 #[.val (.ref x), .val (.ref y), .unset] [])
  refine Go.of (fun _ kz => XS.aloadN X0.here hx rfl (hb hby own_qD_d7) rfl rfl kz) ?_
  show Go p e below _ T0 (mkF m 8 #[.val (.ref x), .val (.ref y), .unset] [(.ref y)])
  refine Go.instOf X0 hx hZ hown (hw _ (List.mem_of_getElem? (i := 48) rfl)) e0 (Ins.self EY) (hb hby own_qD_d8) fun T1 X1 e1 => ?_
  show Go p e below _ T1 (mkF m 11 #[.val (.ref x), .val (.ref y), .unset] [(.int (1 : Int32))])
  refine Go.of (fun _ kz => XS.ifNo X1.here hx rfl (hb hby own_qD_d11) rfl ((if0 _ _).trans (feq (by decide : ¬ ((1 : Int32) = (0 : Int32)))).1) kz) ?_
  show Go p e below _ T1 (mkF m 14 #[.val (.ref x), .val (.ref y), .unset] [])
  refine Go.of (fun _ kz => XS.aloadN X1.here hx rfl (hb hby own_qD_d14) rfl rfl kz) ?_
  show Go p e below _ T1 (mkF m 15 #[.val (.ref x), .val (.ref y), .unset] [(.ref y)])
  refine Go.castTo X1 hx hZ hown (hw _ (List.mem_of_getElem? (i := 48) rfl)) e1 (Ins.self EY) (hb hby own_qD_d15) fun T2 X2 e2 => ?_
  show Go p e below _ T2 (mkF m 18 #[.val (.ref x), .val (.ref y), .unset] [(.ref y)])
  refine Go.of (fun _ kz => XS.astoreN X2.here hx rfl (hb hby own_qD_d18) rfl rfl (l' := #[.val (.ref x), .val (.ref y), .val (.ref y)]) rfl kz) ?_
  show Go p e below _ T2 (mkF m 19 #[.val (.ref x), .val (.ref y), .val (.ref y)] [])
  refine Go.gets X2 hx hZ hown (hw _ (List.mem_of_getElem? (i := 50) rfl)) Via.refl e2 SB (hb hby own_qD_d19) fun T3 X3 e3 => ?_
  show Go p e below _ T3 (mkF m 22 #[.val (.ref x), .val (.ref y), .val (.ref y)] [(.int cz)])
  refine Go.of (fun _ kz => XS.ifNo X3.here hx rfl (hb hby own_qD_d22) rfl ((if0 _ _).trans (feq hz).1) kz) ?_
  show Go p e below _ T3 (mkF m 25 #[.val (.ref x), .val (.ref y), .val (.ref y)] [])
  refine Go.of (fun _ kz => XS.aloadN X3.here hx rfl (hb hby own_qD_d25) rfl rfl kz) ?_
  show Go p e below _ T3 (mkF m 26 #[.val (.ref x), .val (.ref y), .val (.ref y)] [(.ref x)])
  refine Go.getf X3 hx hZ hown (hw _ (List.mem_of_getElem? (i := 51) rfl)) Via.refl e3 CX (hb hby own_qD_d26) fun T4 X4 e4 => ?_
  show Go p e below _ T4 (mkF m 29 #[.val (.ref x), .val (.ref y), .val (.ref y)] [(.int (0 : Int32))])
  refine Go.of (fun _ kz => XS.aloadN X4.here hx rfl (hb hby own_qD_d29) rfl rfl kz) ?_
  show Go p e below _ T4 (mkF m 30 #[.val (.ref x), .val (.ref y), .val (.ref y)] [(.ref y), (.int (0 : Int32))])
  refine Go.getf X4 hx hZ hown (hw _ (List.mem_of_getElem? (i := 51) rfl)) Via.refl e4 CY (hb hby own_qD_d30) fun T5 X5 e5 => ?_
  show Go p e below _ T5 (mkF m 33 #[.val (.ref x), .val (.ref y), .val (.ref y)] [(.int (0 : Int32)), (.int (0 : Int32))])
  refine Go.of (fun _ kz => XS.icmpNo X5.here hx rfl (hb hby own_qD_d33) rfl (teq (by decide : (0 : Int32) = (0 : Int32))).2 kz) ?_
  show Go p e below _ T5 (mkF m 36 #[.val (.ref x), .val (.ref y), .val (.ref y)] [])
  refine Go.of (fun _ kz => XS.aloadN X5.here hx rfl (hb hby own_qD_d36) rfl rfl kz) ?_
  show Go p e below _ T5 (mkF m 37 #[.val (.ref x), .val (.ref y), .val (.ref y)] [(.ref x)])
  refine Go.getf X5 hx hZ hown (hw _ (List.mem_of_getElem? (i := 52) rfl)) Via.refl e5 WX (hb hby own_qD_d37) fun T6 X6 e6 => ?_
  show Go p e below _ T6 (mkF m 40 #[.val (.ref x), .val (.ref y), .val (.ref y)] [(.ref u)])
  refine Go.of (fun _ kz => XS.aloadN X6.here hx rfl (hb hby own_qD_d40) rfl rfl kz) ?_
  show Go p e below _ T6 (mkF m 41 #[.val (.ref x), .val (.ref y), .val (.ref y)] [(.ref y), (.ref u)])
  refine Go.getf X6 hx hZ hown (hw _ (List.mem_of_getElem? (i := 52) rfl)) Via.refl e6 WY (hb hby own_qD_d41) fun T7 X7 e7 => ?_
  show Go p e below _ T7 (mkF m 44 #[.val (.ref x), .val (.ref y), .val (.ref y)] [(.ref v), (.ref u)])
  refine Go.callSP (W := 0) (y := (⟨"java/lang/StringLatin1", "equals", "([B[B)Z"⟩ : MethodName)) (argsL := [(.ref u), (.ref v)]) (rest := []) (r := some (.int (0 : Int32))) X7 hx hZ hown (hw _ (List.mem_of_getElem? (i := 53) rfl)) (hw _ (List.mem_of_getElem? (i := 54) rfl)) (hw _ (List.mem_of_getElem? (i := 55) rfl)) (hw _ (List.mem_of_getElem? (i := 56) rfl)) (by decide) (own_rmLD l Z a0 hw u v ku kv h0 AU AV) e7 (by rw [hml]; rfl) (lenOf own_dsc1 rfl) (hb hby own_qD_d44) rfl (Nat.le_of_eq rfl) (by decide) (by decide) (by decide) (by decide) fun T8 X8 e8 => ?_
  show Go p e below _ T8 (mkF m 47 #[.val (.ref x), .val (.ref y), .val (.ref y)] [(.int (0 : Int32))])
  refine Go.of (fun _ kz => XS.ifYes X8.here hx rfl (pc0 := 47) (pc' := 54) rfl (hb hby own_qD_d47) rfl ((if0 _ _).trans (teq (by decide : (0 : Int32) = (0 : Int32))).1) (by decide) (by decide) kz) ?_
  show Go p e below _ T8 (mkF m 54 #[.val (.ref x), .val (.ref y), .val (.ref y)] [])
  refine Go.of (fun _ kz => XS.iconst X8.here hx rfl (hb hby own_qD_d54) kz) ?_
  show Go p e below _ T8 (mkF m 55 #[.val (.ref x), .val (.ref y), .val (.ref y)] [(.int (0 : Int32))])
  exact Go.retN X8 hx hlk (t := .boolean) hret (by simp) (hb hby own_qD_d55) (by decide) (by decide) ⟨rfl, rfl, e8⟩
set_option maxRecDepth 65536 in
set_option maxHeartbeats 40000000 in
theorem rm0 (l : Launch) (Z : State) (a0 : Array Value) (hw : ∀ d ∈ tables_1, d.before a0 Z = true) (ws : List Jvm.Cond) (xa cz : Int32) (h0 : Heap) (OZ : Old Z h0.size h0) (SB : Sta Z Z.heap "java/lang/String" "COMPACT_STRINGS" "Z" (.int cz)) (hz : ¬ cz = (0 : Int32)) :
    MetFree l x (head1 (Jvm.Cond.code x code maxLocals ret :: ws) room_1) (fun aa U => aa = #[(.int xa)] ∧ Z.Warmed39 U.vm ∧ U.heap = h0 ∧ CHv Z consts_1 U.vm h0) (fun _ _ _ _ _ => True) (fun _ U o U' => ∃ v L, o = .returned v ∧ (fun v _ L => v = some (.int 1) ∧ Fr h0.size L) v U'.heap L ∧ CHr Z consts_1 U.vm U.heap U'.vm U'.heap ∧ ReturnedEndW U o U' L room_1.cells room_1.slots) := by
  refine goBodyH (y := x) (Q := fun v _ L => v = some (.int 1) ∧ Fr h0.size L) (plainFor_of_name (by first | (simp [plainName, overriddenIn]; done) | decide +kernel)) ?_
  intro p e s m below meth c T0 hx hZ hby hml hown hnm hret hlk X0 e0 hS hs0 hC
  have hEL := own_EW Z a0 hw
  have wS : ∀ d ∈ Bundle.stringAtoms, d.before a0 Z = true := fun d hd => by
    simp only [Bundle.stringAtoms, List.mem_cons, List.not_mem_nil, or_false] at hd
    rcases hd with rfl | rfl | rfl | rfl | rfl | rfl | rfl
    · exact (hw _ (List.mem_of_getElem? (i := 24) rfl))
    · exact (hw _ (List.mem_of_getElem? (i := 25) rfl))
    · exact (hw _ (List.mem_of_getElem? (i := 26) rfl))
    · exact (hw _ (List.mem_of_getElem? (i := 27) rfl))
    · exact (hw _ (List.mem_of_getElem? (i := 28) rfl))
    · exact (hw _ (List.mem_of_getElem? (i := 29) rfl))
    · exact (hw _ (List.mem_of_getElem? (i := 30) rfl))
  have hk : 0 ≤ h0.size := Nat.zero_le _
  have hown : s.vm.findClass "com/example/rorqual/rorqual/index/EnglishAnalyzerNamePinLaw" = some m.cls := hown
  have hml : c.maxLocals = 6 := hml
  refine Go.cast (g' := mkF m 0 #[.val (.int xa), .unset, .unset, .unset, .unset, .unset] []) (by first | (simp [entryFrame, mkF, argsToLocals, Value.category, maxLocals]; done) | rfl) ?_
  show Go p e below _ T0 (mkF m 0 #[.val (.int xa), .unset, .unset, .unset, .unset, .unset] [])
  refine Go.of (fun _ kz => XS.iloadN X0.here hx rfl (hb hby at_0) rfl kz) ?_
  show Go p e below _ T0 (mkF m 1 #[.val (.int xa), .unset, .unset, .unset, .unset, .unset] [(.int xa)])
  refine Go.of (fun _ kz => XS.iconst X0.here hx rfl (hb hby at_1) kz) ?_
  show Go p e below _ T0 (mkF m 2 #[.val (.int xa), .unset, .unset, .unset, .unset, .unset] [(.int (1 : Int32)), (.int xa)])
  refine Go.of (fun _ kz => XS.iand X0.here hx rfl (hb hby at_2) rfl kz) ?_
  show Go p e below _ T0 (mkF m 3 #[.val (.int xa), .unset, .unset, .unset, .unset, .unset] [(.int (xa &&& (1 : Int32)))])
  by_cases hc3 : (xa &&& (1 : Int32)) = (0 : Int32)
  ·
    refine Go.of (fun _ kz => XS.ifYes X0.here hx rfl (pc0 := 3) (pc' := 10) rfl (hb hby at_3) rfl ((if0 _ _).trans (teq hc3).1) (by decide) (by decide) kz) ?_
    show Go p e below _ T0 (mkF m 10 #[.val (.int xa), .unset, .unset, .unset, .unset, .unset] [])
    refine Go.of (fun _ kz => XS.iconst X0.here hx rfl (hb hby at_10) kz) ?_
    show Go p e below _ T0 (mkF m 11 #[.val (.int xa), .unset, .unset, .unset, .unset, .unset] [(.int (0 : Int32))])
    refine Go.of (fun _ kz => XS.istoreN X0.here hx rfl (hb hby at_11) rfl (l' := #[.val (.int xa), .val (.int (0 : Int32)), .unset, .unset, .unset, .unset]) rfl kz) ?_
    show Go p e below _ T0 (mkF m 12 #[.val (.int xa), .val (.int (0 : Int32)), .unset, .unset, .unset, .unset] [])
    refine Go.new X0 hx hZ hown (hw _ (List.mem_of_getElem? (i := 0) rfl)) (hw _ (List.mem_of_getElem? (i := 1) rfl)) (hw _ (List.mem_of_getElem? (i := 2) rfl)) e0 (hb hby at_12) (by decide) (by decide) fun T1 h1 b1 g1 X1 e1 E1 A1 D1 => ?_
    have ge_b1 : h0.size ≤ b1 := g1 ▸ (Nat.le_refl _)
    have hC := hC.trans (CHr.ext E1 hC.1)
    have sz1 : h0.size ≤ h1.size := Nat.le_trans (Nat.le_refl _) E1.1
    have hk1 : 0 ≤ h1.size := Nat.le_trans hk E1.1
    have F1_removesStopWords : Fld Z h1 b1 "com/example/rorqual/rorqual/index/EnglishAnalyzer" "removesStopWords" "Z" (.int (0 : Int32)) := D1 (Or.inr (hw _ (List.mem_of_getElem? (i := 13) rfl))) (ty := .boolean) (by decide)
    show Go p e below _ T1 (mkF m 15 #[.val (.int xa), .val (.int (0 : Int32)), .unset, .unset, .unset, .unset] [(.ref b1)])
    refine Go.of (fun _ kz => XS.dup X1.here hx rfl (hb hby at_15) rfl rfl kz) ?_
    show Go p e below _ T1 (mkF m 16 #[.val (.int xa), .val (.int (0 : Int32)), .unset, .unset, .unset, .unset] [(.ref b1), (.ref b1)])
    refine Go.callI (W := 1) (y := (⟨"com/example/rorqual/rorqual/index/EnglishAnalyzer", "<init>", "()V"⟩ : MethodName)) (a := b1) (argsL := []) (rest := [(.ref b1)]) X1 hx hZ rfl hown (hw _ (List.mem_of_getElem? (i := 3) rfl)) (hw _ (List.mem_of_getElem? (i := 4) rfl)) (hw _ (List.mem_of_getElem? (i := 2) rfl)) (hw _ (List.mem_of_getElem? (i := 5) rfl)) (by decide) (own_rmN l Z a0 hw b1 h0.size h1 sz1 ge_b1 A1 F1_removesStopWords) e1 (by rw [hml]; rfl) (lenOf own_dsc2 rfl) (hb hby at_16) rfl (Nat.le_of_eq rfl) (by decide) (by decide) (by decide) (by decide) fun _ T2 L2 X2 q2 => ?_
    obtain ⟨rfl, N2q, K2, A2, F2⟩ := q2
    have N2 := Fr.app (Fr.nil _) N2q
    have hC := hC.trans (CHr.keep K2 (allS (Safe.exa hZ.alike A1 (by decide) (by decide)) all0) hC.1)
    have sz2 : h0.size ≤ T2.heap.size := Nat.le_trans sz1 K2.1
    have hk2 : 0 ≤ T2.heap.size := Nat.le_trans hk1 K2.1
    show Go p e below _ T2 (mkF m 19 #[.val (.int xa), .val (.int (0 : Int32)), .unset, .unset, .unset, .unset] [(.ref b1)])
    refine Go.of (fun _ kz => XS.astoreN X2.here hx rfl (hb hby at_19) rfl rfl (l' := #[.val (.int xa), .val (.int (0 : Int32)), .val (.ref b1), .unset, .unset, .unset]) rfl kz) ?_
    show Go p e below _ T2 (mkF m 20 #[.val (.int xa), .val (.int (0 : Int32)), .val (.ref b1), .unset, .unset, .unset] [])
    refine Go.of (fun _ kz => XS.iloadN X2.here hx rfl (hb hby at_20) rfl kz) ?_
    show Go p e below _ T2 (mkF m 21 #[.val (.int xa), .val (.int (0 : Int32)), .val (.ref b1), .unset, .unset, .unset] [(.int (0 : Int32))])
    refine Go.of (fun _ kz => XS.ifYes X2.here hx rfl (pc0 := 21) (pc' := 31) rfl (hb hby at_21) rfl ((if0 _ _).trans (teq (by decide : (0 : Int32) = (0 : Int32))).1) (by decide) (by decide) kz) ?_
    show Go p e below _ T2 (mkF m 31 #[.val (.int xa), .val (.int (0 : Int32)), .val (.ref b1), .unset, .unset, .unset] [])
    refine Go.of (fun _ kz => XS.aloadN X2.here hx rfl (hb hby at_31) rfl rfl kz) ?_
    show Go p e below _ T2 (mkF m 32 #[.val (.int xa), .val (.int (0 : Int32)), .val (.ref b1), .unset, .unset, .unset] [(.ref b1)])
    refine Go.of (fun _ kz => XS.astoreN X2.here hx rfl (hb hby at_32) rfl rfl (l' := #[.val (.int xa), .val (.int (0 : Int32)), .val (.ref b1), .val (.ref b1), .unset, .unset]) rfl kz) ?_
    show Go p e below _ T2 (mkF m 33 #[.val (.int xa), .val (.int (0 : Int32)), .val (.ref b1), .val (.ref b1), .unset, .unset] [])
    refine Go.of (fun _ kz => XS.aloadN X2.here hx rfl (hb hby at_33) rfl rfl kz) ?_
    show Go p e below _ T2 (mkF m 34 #[.val (.int xa), .val (.int (0 : Int32)), .val (.ref b1), .val (.ref b1), .unset, .unset] [(.ref b1)])
    refine Go.callFH (W := 0) (y := (⟨"com/example/rorqual/rorqual/index/Analyzer", "name", "()Ljava/lang/String;"⟩ : MethodName)) (z := (⟨"com/example/rorqual/rorqual/index/EnglishAnalyzer", "name", "()Ljava/lang/String;"⟩ : MethodName)) (a := b1) (argsL := []) (rest := []) X2 hx hZ hown (hw _ (List.mem_of_getElem? (i := 14) rfl)) (hw _ (List.mem_of_getElem? (i := 15) rfl)) (hw _ (List.mem_of_getElem? (i := 16) rfl)) (by first | rfl | decide | simp [Cond.onTables, Cond.keepsFace, Cond.keeps, Cond.steady]) (hw _ (List.mem_of_getElem? (i := 17) rfl)) (hw _ (List.mem_of_getElem? (i := 18) rfl)) (hw _ (List.mem_of_getElem? (i := 19) rfl)) (hw _ (List.mem_of_getElem? (i := 20) rfl)) (hw _ (List.mem_of_getElem? (i := 21) rfl)) (hw _ (List.mem_of_getElem? (i := 2) rfl)) (hw _ (List.mem_of_getElem? (i := 22) rfl)) (by decide) (own_rmA1 l Z a0 hw b1 T2.heap F2) rfl A2 hS hk2 hEL hC (by rw [hml]; rfl) (lenOf own_dsc3 rfl) (hb hby at_34) rfl (Nat.le_of_eq rfl) (by decide) (by decide) (by decide) (by decide) fun _ T3 L3 X3 hS hZ hown hC q3 => ?_
    obtain ⟨b3, c3, kc3, rfl, rfl, E3, A3, C3, D3, V3⟩ := q3
    have N3 := Fr.app N2 (Fr.nil _)
    have sz3 : h0.size ≤ T3.heap.size := Nat.le_trans sz2 E3.1
    show Go p e below _ T3 (mkF m 39 #[.val (.int xa), .val (.int (0 : Int32)), .val (.ref b1), .val (.ref b1), .unset, .unset] [(.ref b3)])
    refine Go.of (fun _ kz => XS.astore X3.here hx rfl (hb hby at_39) rfl rfl (l' := #[.val (.int xa), .val (.int (0 : Int32)), .val (.ref b1), .val (.ref b1), .val (.ref b3), .unset]) rfl kz) ?_
    show Go p e below _ T3 (mkF m 41 #[.val (.int xa), .val (.int (0 : Int32)), .val (.ref b1), .val (.ref b1), .val (.ref b3), .unset] [])
    refine Go.of (fun _ kz => XS.iloadN X3.here hx rfl (hb hby at_41) rfl kz) ?_
    show Go p e below _ T3 (mkF m 42 #[.val (.int xa), .val (.int (0 : Int32)), .val (.ref b1), .val (.ref b1), .val (.ref b3), .unset] [(.int (0 : Int32))])
    refine Go.of (fun _ kz => XS.ifYes X3.here hx rfl (pc0 := 42) (pc' := 77) rfl (hb hby at_42) rfl ((if0 _ _).trans (teq (by decide : (0 : Int32) = (0 : Int32))).1) (by decide) (by decide) kz) ?_
    show Go p e below _ T3 (mkF m 77 #[.val (.int xa), .val (.int (0 : Int32)), .val (.ref b1), .val (.ref b1), .val (.ref b3), .unset] [])
    refine Go.of (fun _ kz => XS.aload X3.here hx rfl (hb hby at_77) rfl rfl kz) ?_
    show Go p e below _ T3 (mkF m 79 #[.val (.int xa), .val (.int (0 : Int32)), .val (.ref b1), .val (.ref b1), .val (.ref b3), .unset] [(.ref b3)])
    refine Go.ldcH X3 hx hZ hown (hw _ (List.mem_of_getElem? (i := 31) rfl)) wS rfl hS (Nat.le_refl _) hEL (List.mem_of_getElem? (i := 3) rfl) hC (z := 7) (vs := [(.int 101), (.int 110), (.int 103), (.int 108), (.int 105), (.int 115), (.int 104)]) own_txt0 (by decide) rfl (hb hby at_79) 28 (by decide) (by decide) (by decide) (by decide) fun b4 T4 h4 k4 c4 kc4 X4 e4 E4 hS hk4 hZ hown A4 C4 D4 V4 hC M4 => ?_
    have sz4 : h0.size ≤ h4.size := Nat.le_trans sz3 E4.1
    show Go p e below _ T4 (mkF m 81 #[.val (.int xa), .val (.int (0 : Int32)), .val (.ref b1), .val (.ref b1), .val (.ref b3), .unset] [(.ref b4), (.ref b3)])
    refine Go.callVP (W := 0) (y := (⟨"java/lang/String", "equals", "(Ljava/lang/Object;)Z"⟩ : MethodName)) (z := (⟨"java/lang/String", "equals", "(Ljava/lang/Object;)Z"⟩ : MethodName)) (a := b3) (argsL := [(.ref b4)]) (rest := []) (r := some (.int (1 : Int32))) X4 hx hZ hown (hw _ (List.mem_of_getElem? (i := 32) rfl)) (hw _ (List.mem_of_getElem? (i := 33) rfl)) (notFace_of_selects (args := #[]) (mvT hZ (hw _ (List.mem_of_getElem? (i := 35) rfl)))) (hw _ (List.mem_of_getElem? (i := 35) rfl)) (hw _ (List.mem_of_getElem? (i := 34) rfl)) (hw _ (List.mem_of_getElem? (i := 24) rfl)) (hw _ (List.mem_of_getElem? (i := 36) rfl)) (by decide) (own_rmQ7 l Z a0 hw b3 b4 c3 c4 kc3 kc4 cz h4 (A3.ext E4) (C3.ext E4) (D3.ext E4) (V3.ext E4) A4 C4 D4 V4 (SB.ext ((((OZ.ext E1).keep K2 (allS ge_b1 all0)).ext E3).ext E4).2) hz) e4 (A3.ext E4) (by rw [hml]; rfl) (lenOf own_dsc4 rfl) (hb hby at_81) rfl (Nat.le_of_eq rfl) (by decide) (by decide) (by decide) (by decide) fun T5 X5 e5 => ?_
    show Go p e below _ T5 (mkF m 84 #[.val (.int xa), .val (.int (0 : Int32)), .val (.ref b1), .val (.ref b1), .val (.ref b3), .unset] [(.int (1 : Int32))])
    refine Go.of (fun _ kz => XS.ifNo X5.here hx rfl (hb hby at_84) rfl ((if0 _ _).trans (feq (by decide : ¬ ((1 : Int32) = (0 : Int32)))).1) kz) ?_
    show Go p e below _ T5 (mkF m 87 #[.val (.int xa), .val (.int (0 : Int32)), .val (.ref b1), .val (.ref b1), .val (.ref b3), .unset] [])
    refine Go.of (fun _ kz => XS.aload X5.here hx rfl (hb hby at_87) rfl rfl kz) ?_
    show Go p e below _ T5 (mkF m 89 #[.val (.int xa), .val (.int (0 : Int32)), .val (.ref b1), .val (.ref b1), .val (.ref b3), .unset] [(.ref b3)])
    refine Go.ldcH X5 hx hZ hown (hw _ (List.mem_of_getElem? (i := 31) rfl)) wS e5 hS hk4 hEL (List.mem_of_getElem? (i := 3) rfl) hC (z := 7) (vs := [(.int 101), (.int 110), (.int 103), (.int 108), (.int 105), (.int 115), (.int 104)]) own_txt0 (by decide) rfl (hb hby at_89) 28 (by decide) (by decide) (by decide) (by decide) fun b6 T6 h6 k6 c6 kc6 X6 e6 E6 hS hk6 hZ hown A6 C6 D6 V6 hC M6 => ?_
    have sz6 : h0.size ≤ h6.size := Nat.le_trans sz4 E6.1
    show Go p e below _ T6 (mkF m 91 #[.val (.int xa), .val (.int (0 : Int32)), .val (.ref b1), .val (.ref b1), .val (.ref b3), .unset] [(.ref b6), (.ref b3)])
    refine Go.callVP (W := 0) (y := (⟨"java/lang/String", "equals", "(Ljava/lang/Object;)Z"⟩ : MethodName)) (z := (⟨"java/lang/String", "equals", "(Ljava/lang/Object;)Z"⟩ : MethodName)) (a := b3) (argsL := [(.ref b6)]) (rest := []) (r := some (.int (1 : Int32))) X6 hx hZ hown (hw _ (List.mem_of_getElem? (i := 32) rfl)) (hw _ (List.mem_of_getElem? (i := 33) rfl)) (notFace_of_selects (args := #[]) (mvT hZ (hw _ (List.mem_of_getElem? (i := 35) rfl)))) (hw _ (List.mem_of_getElem? (i := 35) rfl)) (hw _ (List.mem_of_getElem? (i := 34) rfl)) (hw _ (List.mem_of_getElem? (i := 24) rfl)) (hw _ (List.mem_of_getElem? (i := 36) rfl)) (by decide) (own_rmQ7 l Z a0 hw b3 b6 c3 c6 kc3 kc6 cz h6 ((A3.ext E4).ext E6) ((C3.ext E4).ext E6) ((D3.ext E4).ext E6) ((V3.ext E4).ext E6) A6 C6 D6 V6 (SB.ext (((((OZ.ext E1).keep K2 (allS ge_b1 all0)).ext E3).ext E4).ext E6).2) hz) e6 ((A3.ext E4).ext E6) (by rw [hml]; rfl) (lenOf own_dsc4 rfl) (hb hby at_91) rfl (Nat.le_of_eq rfl) (by decide) (by decide) (by decide) (by decide) fun T7 X7 e7 => ?_
    show Go p e below _ T7 (mkF m 94 #[.val (.int xa), .val (.int (0 : Int32)), .val (.ref b1), .val (.ref b1), .val (.ref b3), .unset] [(.int (1 : Int32))])
    refine Go.of (fun _ kz => XS.ifNo X7.here hx rfl (hb hby at_94) rfl ((if0 _ _).trans (feq (by decide : ¬ ((1 : Int32) = (0 : Int32)))).1) kz) ?_
    show Go p e below _ T7 (mkF m 97 #[.val (.int xa), .val (.int (0 : Int32)), .val (.ref b1), .val (.ref b1), .val (.ref b3), .unset] [])
    refine Go.of (fun _ kz => XS.iconst X7.here hx rfl (hb hby at_97) kz) ?_
    show Go p e below _ T7 (mkF m 98 #[.val (.int xa), .val (.int (0 : Int32)), .val (.ref b1), .val (.ref b1), .val (.ref b3), .unset] [(.int (1 : Int32))])
    refine Go.of (fun _ kz => XS.goto X7.here hx rfl (pc0 := 98) (pc' := 102) rfl (hb hby at_98) (by decide) (by decide) kz) ?_
    show Go p e below _ T7 (mkF m 102 #[.val (.int xa), .val (.int (0 : Int32)), .val (.ref b1), .val (.ref b1), .val (.ref b3), .unset] [(.int (1 : Int32))])
    refine Go.of (fun _ kz => XS.istore X7.here hx rfl (hb hby at_102) rfl (l' := #[.val (.int xa), .val (.int (0 : Int32)), .val (.ref b1), .val (.ref b1), .val (.ref b3), .val (.int (1 : Int32))]) rfl kz) ?_
    show Go p e below _ T7 (mkF m 104 #[.val (.int xa), .val (.int (0 : Int32)), .val (.ref b1), .val (.ref b1), .val (.ref b3), .val (.int (1 : Int32))] [])
    refine Go.of (fun _ kz => XS.iload X7.here hx rfl (hb hby at_104) rfl kz) ?_
    show Go p e below _ T7 (mkF m 106 #[.val (.int xa), .val (.int (0 : Int32)), .val (.ref b1), .val (.ref b1), .val (.ref b3), .val (.int (1 : Int32))] [(.int (1 : Int32))])
    exact Go.retNH X7 hx hZ hEL hs0 e7 hC hS (by rw [e7]; exact hk6) hlk (t := .boolean) hret (by simp) (hb hby at_106) (by decide) (by decide) ⟨rfl, N3⟩
  ·
    refine Go.of (fun _ kz => XS.ifNo X0.here hx rfl (hb hby at_3) rfl ((if0 _ _).trans (feq hc3).1) kz) ?_
    show Go p e below _ T0 (mkF m 6 #[.val (.int xa), .unset, .unset, .unset, .unset, .unset] [])
    refine Go.of (fun _ kz => XS.iconst X0.here hx rfl (hb hby at_6) kz) ?_
    show Go p e below _ T0 (mkF m 7 #[.val (.int xa), .unset, .unset, .unset, .unset, .unset] [(.int (1 : Int32))])
    refine Go.of (fun _ kz => XS.goto X0.here hx rfl (pc0 := 7) (pc' := 11) rfl (hb hby at_7) (by decide) (by decide) kz) ?_
    show Go p e below _ T0 (mkF m 11 #[.val (.int xa), .unset, .unset, .unset, .unset, .unset] [(.int (1 : Int32))])
    refine Go.of (fun _ kz => XS.istoreN X0.here hx rfl (hb hby at_11) rfl (l' := #[.val (.int xa), .val (.int (1 : Int32)), .unset, .unset, .unset, .unset]) rfl kz) ?_
    show Go p e below _ T0 (mkF m 12 #[.val (.int xa), .val (.int (1 : Int32)), .unset, .unset, .unset, .unset] [])
    refine Go.new X0 hx hZ hown (hw _ (List.mem_of_getElem? (i := 0) rfl)) (hw _ (List.mem_of_getElem? (i := 1) rfl)) (hw _ (List.mem_of_getElem? (i := 2) rfl)) e0 (hb hby at_12) (by decide) (by decide) fun T8 h8 b8 g8 X8 e8 E8 A8 D8 => ?_
    have ge_b8 : h0.size ≤ b8 := g8 ▸ (Nat.le_refl _)
    have hC := hC.trans (CHr.ext E8 hC.1)
    have sz8 : h0.size ≤ h8.size := Nat.le_trans (Nat.le_refl _) E8.1
    have hk8 : 0 ≤ h8.size := Nat.le_trans hk E8.1
    have F8_removesStopWords : Fld Z h8 b8 "com/example/rorqual/rorqual/index/EnglishAnalyzer" "removesStopWords" "Z" (.int (0 : Int32)) := D8 (Or.inr (hw _ (List.mem_of_getElem? (i := 13) rfl))) (ty := .boolean) (by decide)
    show Go p e below _ T8 (mkF m 15 #[.val (.int xa), .val (.int (1 : Int32)), .unset, .unset, .unset, .unset] [(.ref b8)])
    refine Go.of (fun _ kz => XS.dup X8.here hx rfl (hb hby at_15) rfl rfl kz) ?_
    show Go p e below _ T8 (mkF m 16 #[.val (.int xa), .val (.int (1 : Int32)), .unset, .unset, .unset, .unset] [(.ref b8), (.ref b8)])
    refine Go.callI (W := 1) (y := (⟨"com/example/rorqual/rorqual/index/EnglishAnalyzer", "<init>", "()V"⟩ : MethodName)) (a := b8) (argsL := []) (rest := [(.ref b8)]) X8 hx hZ rfl hown (hw _ (List.mem_of_getElem? (i := 3) rfl)) (hw _ (List.mem_of_getElem? (i := 4) rfl)) (hw _ (List.mem_of_getElem? (i := 2) rfl)) (hw _ (List.mem_of_getElem? (i := 5) rfl)) (by decide) (own_rmN l Z a0 hw b8 h0.size h8 sz8 ge_b8 A8 F8_removesStopWords) e8 (by rw [hml]; rfl) (lenOf own_dsc2 rfl) (hb hby at_16) rfl (Nat.le_of_eq rfl) (by decide) (by decide) (by decide) (by decide) fun _ T9 L9 X9 q9 => ?_
    obtain ⟨rfl, N9q, K9, A9, F9⟩ := q9
    have N9 := Fr.app (Fr.nil _) N9q
    have hC := hC.trans (CHr.keep K9 (allS (Safe.exa hZ.alike A8 (by decide) (by decide)) all0) hC.1)
    have sz9 : h0.size ≤ T9.heap.size := Nat.le_trans sz8 K9.1
    have hk9 : 0 ≤ T9.heap.size := Nat.le_trans hk8 K9.1
    show Go p e below _ T9 (mkF m 19 #[.val (.int xa), .val (.int (1 : Int32)), .unset, .unset, .unset, .unset] [(.ref b8)])
    refine Go.of (fun _ kz => XS.astoreN X9.here hx rfl (hb hby at_19) rfl rfl (l' := #[.val (.int xa), .val (.int (1 : Int32)), .val (.ref b8), .unset, .unset, .unset]) rfl kz) ?_
    show Go p e below _ T9 (mkF m 20 #[.val (.int xa), .val (.int (1 : Int32)), .val (.ref b8), .unset, .unset, .unset] [])
    refine Go.of (fun _ kz => XS.iloadN X9.here hx rfl (hb hby at_20) rfl kz) ?_
    show Go p e below _ T9 (mkF m 21 #[.val (.int xa), .val (.int (1 : Int32)), .val (.ref b8), .unset, .unset, .unset] [(.int (1 : Int32))])
    refine Go.of (fun _ kz => XS.ifNo X9.here hx rfl (hb hby at_21) rfl ((if0 _ _).trans (feq (by decide : ¬ ((1 : Int32) = (0 : Int32)))).1) kz) ?_
    show Go p e below _ T9 (mkF m 24 #[.val (.int xa), .val (.int (1 : Int32)), .val (.ref b8), .unset, .unset, .unset] [])
    refine Go.of (fun _ kz => XS.aloadN X9.here hx rfl (hb hby at_24) rfl rfl kz) ?_
    show Go p e below _ T9 (mkF m 25 #[.val (.int xa), .val (.int (1 : Int32)), .val (.ref b8), .unset, .unset, .unset] [(.ref b8)])
    refine Go.callV (W := 0) (y := (⟨"com/example/rorqual/rorqual/index/EnglishAnalyzer", "keepingStopWords", "()Lcom/example/rorqual/rorqual/index/Analyzer;"⟩ : MethodName)) (z := (⟨"com/example/rorqual/rorqual/index/EnglishAnalyzer", "keepingStopWords", "()Lcom/example/rorqual/rorqual/index/Analyzer;"⟩ : MethodName)) (a := b8) (argsL := []) (rest := []) X9 hx hZ hown (hw _ (List.mem_of_getElem? (i := 37) rfl)) (hw _ (List.mem_of_getElem? (i := 38) rfl)) (notFace_of_selects (args := #[]) (mvT hZ (hw _ (List.mem_of_getElem? (i := 40) rfl)))) (hw _ (List.mem_of_getElem? (i := 40) rfl)) (hw _ (List.mem_of_getElem? (i := 39) rfl)) (hw _ (List.mem_of_getElem? (i := 2) rfl)) (hw _ (List.mem_of_getElem? (i := 41) rfl)) (by decide) (own_rmK l Z a0 hw b8 h0.size T9.heap sz9) rfl A9 (by rw [hml]; rfl) (lenOf own_dsc5 rfl) (hb hby at_25) rfl (Nat.le_of_eq rfl) (by decide) (by decide) (by decide) (by decide) fun _ T10 L10 X10 q10 => ?_
    obtain ⟨b10, rfl, N10q, K10, g10, A10, F10⟩ := q10
    have N10 := Fr.app N9 N10q
    have hC := hC.trans (CHr.keep K10 all0 hC.1)
    have sz10 : h0.size ≤ T10.heap.size := Nat.le_trans sz9 K10.1
    have hk10 : 0 ≤ T10.heap.size := Nat.le_trans hk9 K10.1
    show Go p e below _ T10 (mkF m 28 #[.val (.int xa), .val (.int (1 : Int32)), .val (.ref b8), .unset, .unset, .unset] [(.ref b10)])
    refine Go.of (fun _ kz => XS.goto X10.here hx rfl (pc0 := 28) (pc' := 32) rfl (hb hby at_28) (by decide) (by decide) kz) ?_
    show Go p e below _ T10 (mkF m 32 #[.val (.int xa), .val (.int (1 : Int32)), .val (.ref b8), .unset, .unset, .unset] [(.ref b10)])
    refine Go.of (fun _ kz => XS.astoreN X10.here hx rfl (hb hby at_32) rfl rfl (l' := #[.val (.int xa), .val (.int (1 : Int32)), .val (.ref b8), .val (.ref b10), .unset, .unset]) rfl kz) ?_
    show Go p e below _ T10 (mkF m 33 #[.val (.int xa), .val (.int (1 : Int32)), .val (.ref b8), .val (.ref b10), .unset, .unset] [])
    refine Go.of (fun _ kz => XS.aloadN X10.here hx rfl (hb hby at_33) rfl rfl kz) ?_
    show Go p e below _ T10 (mkF m 34 #[.val (.int xa), .val (.int (1 : Int32)), .val (.ref b8), .val (.ref b10), .unset, .unset] [(.ref b10)])
    refine Go.callFH (W := 0) (y := (⟨"com/example/rorqual/rorqual/index/Analyzer", "name", "()Ljava/lang/String;"⟩ : MethodName)) (z := (⟨"com/example/rorqual/rorqual/index/EnglishAnalyzer", "name", "()Ljava/lang/String;"⟩ : MethodName)) (a := b10) (argsL := []) (rest := []) X10 hx hZ hown (hw _ (List.mem_of_getElem? (i := 14) rfl)) (hw _ (List.mem_of_getElem? (i := 15) rfl)) (hw _ (List.mem_of_getElem? (i := 16) rfl)) (by first | rfl | decide | simp [Cond.onTables, Cond.keepsFace, Cond.keeps, Cond.steady]) (hw _ (List.mem_of_getElem? (i := 17) rfl)) (hw _ (List.mem_of_getElem? (i := 18) rfl)) (hw _ (List.mem_of_getElem? (i := 19) rfl)) (hw _ (List.mem_of_getElem? (i := 20) rfl)) (hw _ (List.mem_of_getElem? (i := 21) rfl)) (hw _ (List.mem_of_getElem? (i := 2) rfl)) (hw _ (List.mem_of_getElem? (i := 22) rfl)) (by decide) (own_rmA0 l Z a0 hw b10 T10.heap F10) rfl A10 hS hk10 hEL hC (by rw [hml]; rfl) (lenOf own_dsc3 rfl) (hb hby at_34) rfl (Nat.le_of_eq rfl) (by decide) (by decide) (by decide) (by decide) fun _ T11 L11 X11 hS hZ hown hC q11 => ?_
    obtain ⟨b11, c11, kc11, rfl, rfl, E11, A11, C11, D11, V11⟩ := q11
    have N11 := Fr.app N10 (Fr.nil _)
    have sz11 : h0.size ≤ T11.heap.size := Nat.le_trans sz10 E11.1
    show Go p e below _ T11 (mkF m 39 #[.val (.int xa), .val (.int (1 : Int32)), .val (.ref b8), .val (.ref b10), .unset, .unset] [(.ref b11)])
    refine Go.of (fun _ kz => XS.astore X11.here hx rfl (hb hby at_39) rfl rfl (l' := #[.val (.int xa), .val (.int (1 : Int32)), .val (.ref b8), .val (.ref b10), .val (.ref b11), .unset]) rfl kz) ?_
    show Go p e below _ T11 (mkF m 41 #[.val (.int xa), .val (.int (1 : Int32)), .val (.ref b8), .val (.ref b10), .val (.ref b11), .unset] [])
    refine Go.of (fun _ kz => XS.iloadN X11.here hx rfl (hb hby at_41) rfl kz) ?_
    show Go p e below _ T11 (mkF m 42 #[.val (.int xa), .val (.int (1 : Int32)), .val (.ref b8), .val (.ref b10), .val (.ref b11), .unset] [(.int (1 : Int32))])
    refine Go.of (fun _ kz => XS.ifNo X11.here hx rfl (hb hby at_42) rfl ((if0 _ _).trans (feq (by decide : ¬ ((1 : Int32) = (0 : Int32)))).1) kz) ?_
    show Go p e below _ T11 (mkF m 45 #[.val (.int xa), .val (.int (1 : Int32)), .val (.ref b8), .val (.ref b10), .val (.ref b11), .unset] [])
    refine Go.of (fun _ kz => XS.aload X11.here hx rfl (hb hby at_45) rfl rfl kz) ?_
    show Go p e below _ T11 (mkF m 47 #[.val (.int xa), .val (.int (1 : Int32)), .val (.ref b8), .val (.ref b10), .val (.ref b11), .unset] [(.ref b11)])
    refine Go.ldcH X11 hx hZ hown (hw _ (List.mem_of_getElem? (i := 44) rfl)) wS rfl hS (Nat.le_refl _) hEL (List.mem_of_getElem? (i := 2) rfl) hC (z := 25) (vs := [(.int 101), (.int 110), (.int 103), (.int 108), (.int 105), (.int 115), (.int 104), (.int 32), (.int 40), (.int 115), (.int 116), (.int 111), (.int 112), (.int 32), (.int 119), (.int 111), (.int 114), (.int 100), (.int 115), (.int 32), (.int 107), (.int 101), (.int 112), (.int 116), (.int 41)]) own_txt1 (by decide) rfl (hb hby at_47) 100 (by decide) (by decide) (by decide) (by decide) fun b12 T12 h12 k12 c12 kc12 X12 e12 E12 hS hk12 hZ hown A12 C12 D12 V12 hC M12 => ?_
    have sz12 : h0.size ≤ h12.size := Nat.le_trans sz11 E12.1
    show Go p e below _ T12 (mkF m 49 #[.val (.int xa), .val (.int (1 : Int32)), .val (.ref b8), .val (.ref b10), .val (.ref b11), .unset] [(.ref b12), (.ref b11)])
    refine Go.callVP (W := 0) (y := (⟨"java/lang/String", "equals", "(Ljava/lang/Object;)Z"⟩ : MethodName)) (z := (⟨"java/lang/String", "equals", "(Ljava/lang/Object;)Z"⟩ : MethodName)) (a := b11) (argsL := [(.ref b12)]) (rest := []) (r := some (.int (1 : Int32))) X12 hx hZ hown (hw _ (List.mem_of_getElem? (i := 32) rfl)) (hw _ (List.mem_of_getElem? (i := 33) rfl)) (notFace_of_selects (args := #[]) (mvT hZ (hw _ (List.mem_of_getElem? (i := 35) rfl)))) (hw _ (List.mem_of_getElem? (i := 35) rfl)) (hw _ (List.mem_of_getElem? (i := 34) rfl)) (hw _ (List.mem_of_getElem? (i := 24) rfl)) (hw _ (List.mem_of_getElem? (i := 36) rfl)) (by decide) (own_rmQ25 l Z a0 hw b11 b12 c11 c12 kc11 kc12 cz h12 (A11.ext E12) (C11.ext E12) (D11.ext E12) (V11.ext E12) A12 C12 D12 V12 (SB.ext (((((OZ.ext E8).keep K9 (allS ge_b8 all0)).keep K10 all0).ext E11).ext E12).2) hz) e12 (A11.ext E12) (by rw [hml]; rfl) (lenOf own_dsc4 rfl) (hb hby at_49) rfl (Nat.le_of_eq rfl) (by decide) (by decide) (by decide) (by decide) fun T13 X13 e13 => ?_
    show Go p e below _ T13 (mkF m 52 #[.val (.int xa), .val (.int (1 : Int32)), .val (.ref b8), .val (.ref b10), .val (.ref b11), .unset] [(.int (1 : Int32))])
    refine Go.of (fun _ kz => XS.ifNo X13.here hx rfl (hb hby at_52) rfl ((if0 _ _).trans (feq (by decide : ¬ ((1 : Int32) = (0 : Int32)))).1) kz) ?_
    show Go p e below _ T13 (mkF m 55 #[.val (.int xa), .val (.int (1 : Int32)), .val (.ref b8), .val (.ref b10), .val (.ref b11), .unset] [])
    refine Go.of (fun _ kz => XS.aload X13.here hx rfl (hb hby at_55) rfl rfl kz) ?_
    show Go p e below _ T13 (mkF m 57 #[.val (.int xa), .val (.int (1 : Int32)), .val (.ref b8), .val (.ref b10), .val (.ref b11), .unset] [(.ref b11)])
    refine Go.of (fun _ kz => XS.aloadN X13.here hx rfl (hb hby at_57) rfl rfl kz) ?_
    show Go p e below _ T13 (mkF m 58 #[.val (.int xa), .val (.int (1 : Int32)), .val (.ref b8), .val (.ref b10), .val (.ref b11), .unset] [(.ref b8), (.ref b11)])
    refine Go.callVH (W := 1) (y := (⟨"com/example/rorqual/rorqual/index/EnglishAnalyzer", "name", "()Ljava/lang/String;"⟩ : MethodName)) (z := (⟨"com/example/rorqual/rorqual/index/EnglishAnalyzer", "name", "()Ljava/lang/String;"⟩ : MethodName)) (a := b8) (argsL := []) (rest := [(.ref b11)]) X13 hx hZ hown (hw _ (List.mem_of_getElem? (i := 45) rfl)) (hw _ (List.mem_of_getElem? (i := 46) rfl)) (notFace_of_selects (args := #[]) (mvT hZ (hw _ (List.mem_of_getElem? (i := 47) rfl)))) (hw _ (List.mem_of_getElem? (i := 47) rfl)) (hw _ (List.mem_of_getElem? (i := 18) rfl)) (hw _ (List.mem_of_getElem? (i := 2) rfl)) (hw _ (List.mem_of_getElem? (i := 22) rfl)) (by decide) (own_rmA1 l Z a0 hw b8 h12 (((F9.keep K10 nin0).ext E11).ext E12)) e13 (((A9.keep K10).ext E11).ext E12) hS hk12 hEL hC (by rw [hml]; rfl) (lenOf own_dsc3 rfl) (hb hby at_58) rfl (Nat.le_of_eq rfl) (by decide) (by decide) (by decide) (by decide) fun _ T14 L14 X14 hS hZ hown hC q14 => ?_
    obtain ⟨b14, c14, kc14, rfl, rfl, E14, A14, C14, D14, V14⟩ := q14
    have N14 := Fr.app N11 (Fr.nil _)
    have sz14 : h0.size ≤ T14.heap.size := Nat.le_trans sz12 E14.1
    show Go p e below _ T14 (mkF m 61 #[.val (.int xa), .val (.int (1 : Int32)), .val (.ref b8), .val (.ref b10), .val (.ref b11), .unset] [(.ref b14), (.ref b11)])
    refine Go.callVP (W := 0) (y := (⟨"java/lang/String", "equals", "(Ljava/lang/Object;)Z"⟩ : MethodName)) (z := (⟨"java/lang/String", "equals", "(Ljava/lang/Object;)Z"⟩ : MethodName)) (a := b11) (argsL := [(.ref b14)]) (rest := []) (r := some (.int (0 : Int32))) X14 hx hZ hown (hw _ (List.mem_of_getElem? (i := 32) rfl)) (hw _ (List.mem_of_getElem? (i := 33) rfl)) (notFace_of_selects (args := #[]) (mvT hZ (hw _ (List.mem_of_getElem? (i := 35) rfl)))) (hw _ (List.mem_of_getElem? (i := 35) rfl)) (hw _ (List.mem_of_getElem? (i := 34) rfl)) (hw _ (List.mem_of_getElem? (i := 24) rfl)) (hw _ (List.mem_of_getElem? (i := 36) rfl)) (by decide) (own_rmQD l Z a0 hw b11 b14 c11 c14 kc11 kc14 cz T14.heap ((A11.ext E12).ext E14) ((C11.ext E12).ext E14) ((D11.ext E12).ext E14) ((V11.ext E12).ext E14) A14 C14 D14 V14 (SB.ext ((((((OZ.ext E8).keep K9 (allS ge_b8 all0)).keep K10 all0).ext E11).ext E12).ext E14).2) hz (own_ne ((D11.ext E12).ext E14) D14 ((V11.ext E12).ext E14) V14 (by decide))) rfl ((A11.ext E12).ext E14) (by rw [hml]; rfl) (lenOf own_dsc4 rfl) (hb hby at_61) rfl (Nat.le_of_eq rfl) (by decide) (by decide) (by decide) (by decide) fun T15 X15 e15 => ?_
    show Go p e below _ T15 (mkF m 64 #[.val (.int xa), .val (.int (1 : Int32)), .val (.ref b8), .val (.ref b10), .val (.ref b11), .unset] [(.int (0 : Int32))])
    refine Go.of (fun _ kz => XS.ifNo X15.here hx rfl (hb hby at_64) rfl ((if0 _ _).trans (teq (by decide : (0 : Int32) = (0 : Int32))).2) kz) ?_
    show Go p e below _ T15 (mkF m 67 #[.val (.int xa), .val (.int (1 : Int32)), .val (.ref b8), .val (.ref b10), .val (.ref b11), .unset] [])
    refine Go.of (fun _ kz => XS.iconst X15.here hx rfl (hb hby at_67) kz) ?_
    show Go p e below _ T15 (mkF m 68 #[.val (.int xa), .val (.int (1 : Int32)), .val (.ref b8), .val (.ref b10), .val (.ref b11), .unset] [(.int (1 : Int32))])
    refine Go.of (fun _ kz => XS.goto X15.here hx rfl (pc0 := 68) (pc' := 72) rfl (hb hby at_68) (by decide) (by decide) kz) ?_
    show Go p e below _ T15 (mkF m 72 #[.val (.int xa), .val (.int (1 : Int32)), .val (.ref b8), .val (.ref b10), .val (.ref b11), .unset] [(.int (1 : Int32))])
    refine Go.of (fun _ kz => XS.istore X15.here hx rfl (hb hby at_72) rfl (l' := #[.val (.int xa), .val (.int (1 : Int32)), .val (.ref b8), .val (.ref b10), .val (.ref b11), .val (.int (1 : Int32))]) rfl kz) ?_
    show Go p e below _ T15 (mkF m 74 #[.val (.int xa), .val (.int (1 : Int32)), .val (.ref b8), .val (.ref b10), .val (.ref b11), .val (.int (1 : Int32))] [])
    refine Go.of (fun _ kz => XS.goto X15.here hx rfl (pc0 := 74) (pc' := 104) rfl (hb hby at_74) (by decide) (by decide) kz) ?_
    show Go p e below _ T15 (mkF m 104 #[.val (.int xa), .val (.int (1 : Int32)), .val (.ref b8), .val (.ref b10), .val (.ref b11), .val (.int (1 : Int32))] [])
    refine Go.of (fun _ kz => XS.iload X15.here hx rfl (hb hby at_104) rfl kz) ?_
    show Go p e below _ T15 (mkF m 106 #[.val (.int xa), .val (.int (1 : Int32)), .val (.ref b8), .val (.ref b10), .val (.ref b11), .val (.int (1 : Int32))] [(.int (1 : Int32))])
    exact Go.retNH X15 hx hZ hEL hs0 e15 hC hS (by rw [e15]; exact (Nat.le_refl _)) hlk (t := .boolean) hret (by simp) (hb hby at_106) (by decide) (by decide) ⟨rfl, N14⟩
set_option maxRecDepth 65536 in
set_option maxHeartbeats 40000000 in
theorem comes_1 {Post : Tables → Env → Array Value → State → Outcome → State → Prop} (hpost : ∀ tb e args s v u, (limb_1_1.after args s (.returned v) u = true ∧ limb_1_2.after args s (.returned v) u = true ∧ True) → ReturnedEndW s (.returned v) u (Jvm.fieldLocs frame_1_writes args s ++ Jvm.arrayLocs frame_1_arrays args s ++ Jvm.staticLocs frame_1_statics s) 24 4224 → Post tb e args s (.returned v) u) :
    ArmFor flags0 classFile x code maxLocals ret World_1 tables_1 room_1 Calls_1 rest_1 Pre_1 Post := by
  intro l hfl _ _ p e ha hc hk s m args below hf hA hF happ hP
  obtain ⟨hcalls, hrest, hpre⟩ := hP
  obtain ⟨-, -, -, hnamed, -, -, -, hat⟩ := (Spec.applies_iff hf).mp happ
  obtain ⟨hg, hn⟩ := and_e (Cond.before_iff.mp (show (Jvm.Cond.and given_1 narrow_1).before args s = true from hpre))
  obtain ⟨g0, gg0⟩ := and_e hg
  have ga0 := gg0
  obtain ⟨w0, rfl⟩ : ∃ w0 : Value, args = #[w0] := by
    have hs : args.size = 1 := by simpa [Cond.value, given_1] using g0
    obtain ⟨L⟩ := args
    match L, hs with
    | [w0], _ => exact ⟨w0, rfl⟩
  have hw := fun d (hd : d ∈ tables_1) => atoms_spec (ws := Jvm.Cond.code x code maxLocals ret :: tables_1) hat d (List.mem_cons_of_mem _ hd)
  have hfit : Fit s := fun {y c} hc i hi => by
    obtain ⟨ha, rfl⟩ := Array.getElem?_eq_some_iff.mp hc
    have q := List.all_eq_true.mp ((Array.all_eq_true_iff_forall_mem.mp hF) _ (Array.getElem_mem ha)) i (List.mem_range.mpr hi)
    simpa [Array.getElem?_eq_getElem hi] using q
  obtain ⟨i0, ei0⟩ := is_v ga0
  obtain rfl : w0 = (.int i0) := Option.some.inj ei0
  obtain ⟨hsets, hown0⟩ := atoms_of _ (rest_1_c_eq ▸ (show rest_1_c.before _ s = true from hrest))
  have n3 := not_v (Cond.before_iff.mp (hsets _ (List.mem_of_getElem? (i := 2) rfl)))
  obtain ⟨cz, e6⟩ := is_v (Cond.before_iff.mp (hsets _ (List.mem_of_getElem? (i := 1) rfl)))
  have S8 : Sta s s.heap "java/lang/String" "COMPACT_STRINGS" "Z" (.int cz) := Sta.start e6 (Or.inl (hsets _ (List.mem_of_getElem? (i := 0) rfl)))
  have c13 : ¬ (cz = (0 : Int32)) := gotF (Cond.eq_ints e6 (Term.int_eval (0))) n3
  have hCH : CHv s consts_1 s.vm s.heap := CHv.start (own_EW s _ hw) (fun p hp => hcalls.1 p hp) (hsets _ (List.mem_of_getElem? (i := 2) rfl)) (hw _ (List.mem_of_getElem? (i := 26) rfl)) (hw _ (List.mem_of_getElem? (i := 25) rfl))
  obtain ⟨n, o, h1, h2, h3, _, L, rfl, ⟨rfl, N⟩, -, hq⟩ := rm0 l s _ hw tables_1 i0 cz s.heap (Old.start s) S8 c13 p e ha hc hk s m _ below hf ((Spec.applies_iff_loose hf).mp happ).1 ⟨rfl, State.Warmed39.refl s, rfl, hCH⟩ trivial
  refine ⟨n, _, h1, h2, h3, hpost _ _ _ _ _ _ ⟨Cond.after_iff.mpr rfl, Cond.after_iff.mpr (eq_i res_at (Term.int_eval (1)) rfl), trivial⟩ ⟨hq.1, hq.2.1, hq.2.2.1, (hq.2.2.2.sift fun y hy => Or.inr (N y hy)).mono (by decide) (by decide)⟩⟩
theorem main_1_1 : Claimed_1_1 := comes_1 fun _ _ _ _ _ _ h hF => ⟨h.1, hF⟩
theorem main_1_2 : Claimed_1_2 := comes_1 fun _ _ _ _ _ _ h hF => ⟨h.2.1, hF⟩
end Jvm.Pilot.@@N@@
namespace Jvm.Pilot.@@N@@
open Jvm Jvm.ClassFile Sem Op Lib Jvm.Free Jvm.Stand Jvm.Pilot.@@N@@.Jvm.D
/-! MADE BY PROGRAM (witnessworld.py) out of the Statement's table words and the real class files: 18 classes; the members and pool entries that the words name. The judged class is class 1, her method 1. -/
namespace start1
open Jvm.ClassFile
def u (s : String) : CpInfo := .utf8 (stringToUtf16 s)
/-- a pool by its gaps: so many unusable entries, then the entry; so many at the end -/
def gap : Nat → List CpInfo → List CpInfo
  | 0, r => r
  | n + 1, r => .unusable :: gap n r
def poolList (es : List (Nat × CpInfo)) (last : Nat) : List CpInfo := es.foldr (fun e r => gap e.1 (e.2 :: r)) (gap last [])
def pool (es : List (Nat × CpInfo)) (last : Nat) : Array CpInfo := ⟨poolList es last⟩
def fileOf (pool : Array CpInfo) (this : Nat) (attrs : Array Attribute := #[]) (ms : Array MethodInfo := #[]) (fl : Nat := 33) (sup : Nat := 0) (ifs : Array Nat := #[]) (fds : Array FieldInfo := #[]) : ClassFile where
  minorVersion := 0
  majorVersion := 65
  constantPool := pool
  accessFlags := fl
  thisClass := this
  superClass := sup
  interfaces := ifs
  fields := fds
  methods := ms
  attributes := attrs
def plain (name : String) (sup : Option ClassId) : Class where
  name := name
  kind := .ordinary
  loader := none
  accessFlags := 33
  super := sup
  interfaces := #[]
  cf := none
  fields := #[]
  methods := #[]
  instanceTypes := #[]
  staticTypes := #[]
  resolved := #[]
  callSites := []
  init := .initialized
  statics := none
  mirror := none

def pool0 : Array CpInfo := pool [(5, u "<init>"), (0, u "()V"), (1, .class_ 10), (1, u "java/lang/Object")] 113

def k0c0 : Code := { maxStack := 0, maxLocals := 1, code := object_method_1_code, exceptionTable := #[], attributes := #[] }
def k0m0 : Method := { name := "<init>", desc := "()V", sig := { parameters := [], returnType := none }, accessFlags := 1, code := some k0c0 }
/-- java/lang/Object -/
def k0 : Class := { plain "java/lang/Object" none with
  accessFlags := 33
  interfaces := #[]
  cf := some (fileOf pool0 8 #[] #[{ accessFlags := 1, nameIndex := 5, descriptorIndex := 6, attributes := #[] }] 33 0 #[] #[])
  fields := #[]
  methods := #[k0m0]
  instanceTypes := #[]
  staticTypes := #[]
  resolved := Array.replicate 124 none
  statics := none }

def pool1 : Array CpInfo := pool [(2, .class_ 4), (0, .nameAndType 5 6), (0, u "java/lang/Object"), (0, u "<init>"), (0, u "()V"), (0, .class_ 8), (0, u "com/example/rorqual/rorqual/index/EnglishAnalyzer"), (0, .methodref 7 3), (0, .methodref 7 11), (0, .nameAndType 12 13), (0, u "keepingStopWords"), (0, u "()Lcom/example/rorqual/rorqual/index/Analyzer;"), (0, .interfaceMethodref 15 16), (0, .class_ 17), (0, .nameAndType 18 19), (0, u "com/example/rorqual/rorqual/index/Analyzer"), (0, u "name"), (0, u "()Ljava/lang/String;"), (0, .string 21), (0, u "english (stop words kept)"), (0, .methodref 23 24), (0, .class_ 25), (0, .nameAndType 26 27), (0, u "java/lang/String"), (0, u "equals"), (0, u "(Ljava/lang/Object;)Z"), (0, .methodref 7 16), (0, .string 30), (0, u "english"), (0, .class_ 32), (0, u "com/example/rorqual/rorqual/index/EnglishAnalyzerNamePinLaw"), (2, u "law"), (0, u "(I)Z")] 3

def k1m0 : Method := { name := "<init>", desc := "()V", sig := { parameters := [], returnType := none }, accessFlags := 2, code := none }
def k1c1 : Code := { maxStack := 2, maxLocals := 6, code := code, exceptionTable := #[], attributes := #[] }
def k1m1 : Method := { name := "law", desc := "(I)Z", sig := { parameters := [.int], returnType := some .boolean }, accessFlags := 9, code := some k1c1 }
/-- com/example/rorqual/rorqual/index/EnglishAnalyzerNamePinLaw -/
def k1 : Class := { plain "com/example/rorqual/rorqual/index/EnglishAnalyzerNamePinLaw" (some 0) with
  accessFlags := 49
  interfaces := #[]
  cf := some (fileOf pool1 31 #[] #[{ accessFlags := 2, nameIndex := 5, descriptorIndex := 6, attributes := #[] }, { accessFlags := 9, nameIndex := 35, descriptorIndex := 36, attributes := #[] }] 49 2 #[] #[])
  fields := #[]
  methods := #[k1m0, k1m1]
  instanceTypes := #[]
  staticTypes := #[]
  resolved := Array.replicate 40 none
  statics := none }

def pool2 : Array CpInfo := pool [(1, .class_ 2), (0, u "com/example/rorqual/rorqual/index/Analyzer"), (0, .class_ 4), (0, u "java/lang/Object"), (0, u "name"), (0, u "()Ljava/lang/String;")] 12

def k2m0 : Method := { name := "name", desc := "()Ljava/lang/String;", sig := { parameters := [], returnType := some (.object "java/lang/String") }, accessFlags := 1025, code := none }
/-- com/example/rorqual/rorqual/index/Analyzer -/
def k2 : Class := { plain "com/example/rorqual/rorqual/index/Analyzer" (some 0) with
  accessFlags := 1537
  interfaces := #[]
  cf := some (fileOf pool2 1 #[] #[{ accessFlags := 1025, nameIndex := 5, descriptorIndex := 6, attributes := #[] }] 1537 3 #[] #[])
  fields := #[]
  methods := #[k2m0]
  instanceTypes := #[]
  staticTypes := #[]
  resolved := Array.replicate 19 none
  statics := none }

def pool3 : Array CpInfo := pool [(1, .methodref 2 3), (0, .class_ 4), (0, .nameAndType 5 6), (0, u "com/example/rorqual/rorqual/index/EnglishAnalyzer"), (0, u "<init>"), (0, u "(Z)V"), (0, .methodref 8 9), (0, .class_ 10), (0, .nameAndType 5 11), (0, u "java/lang/Object"), (0, u "()V"), (0, .fieldref 2 13), (0, .nameAndType 14 15), (0, u "removesStopWords"), (0, u "Z"), (0, .string 17), (0, u "english"), (0, .string 19), (0, u "english (stop words kept)"), (2, u "TOKENIZER"), (0, u "Lcom/example/rorqual/rorqual/index/Analyzer;"), (5, .class_ 31), (1, u "com/example/rorqual/rorqual/index/Analyzer"), (31, u "STOP_WORDS"), (0, u "Ljava/util/Set;"), (41, u "()Ljava/lang/String;"), (82, u "NAME"), (0, u "Ljava/lang/String;"), (1, u "REVISION"), (0, u "I"), (3, u "APOSTROPHES"), (2, u "name"), (3, u "keepingStopWords"), (0, u "()Lcom/example/rorqual/rorqual/index/Analyzer;")] 3

def k3c0 : Code := { maxStack := 2, maxLocals := 1, code := prog_40_method_1_code, exceptionTable := #[], attributes := #[] }
def k3m0 : Method := { name := "<init>", desc := "()V", sig := { parameters := [], returnType := none }, accessFlags := 1, code := some k3c0 }
def k3c1 : Code := { maxStack := 2, maxLocals := 2, code := prog_40_method_2_code, exceptionTable := #[], attributes := #[] }
def k3m1 : Method := { name := "<init>", desc := "(Z)V", sig := { parameters := [.boolean], returnType := none }, accessFlags := 2, code := some k3c1 }
def k3c2 : Code := { maxStack := 1, maxLocals := 2, code := prog_40_method_3_code, exceptionTable := #[], attributes := #[] }
def k3m2 : Method := { name := "name", desc := "()Ljava/lang/String;", sig := { parameters := [], returnType := some (.object "java/lang/String") }, accessFlags := 1, code := some k3c2 }
def k3c3 : Code := { maxStack := 3, maxLocals := 1, code := prog_40_method_6_code, exceptionTable := #[], attributes := #[] }
def k3m3 : Method := { name := "keepingStopWords", desc := "()Lcom/example/rorqual/rorqual/index/Analyzer;", sig := { parameters := [], returnType := some (.object "com/example/rorqual/rorqual/index/Analyzer") }, accessFlags := 1, code := some k3c3 }
/-- com/example/rorqual/rorqual/index/EnglishAnalyzer -/
def k3 : Class := { plain "com/example/rorqual/rorqual/index/EnglishAnalyzer" (some 0) with
  accessFlags := 49
  interfaces := #[2]
  cf := some (fileOf pool3 2 #[] #[{ accessFlags := 1, nameIndex := 5, descriptorIndex := 11, attributes := #[] }, { accessFlags := 2, nameIndex := 5, descriptorIndex := 6, attributes := #[] }, { accessFlags := 1, nameIndex := 200, descriptorIndex := 106, attributes := #[] }, { accessFlags := 1, nameIndex := 204, descriptorIndex := 205, attributes := #[] }] 49 8 #[29] #[{ accessFlags := 25, nameIndex := 189, descriptorIndex := 190, attributes := #[] }, { accessFlags := 25, nameIndex := 192, descriptorIndex := 193, attributes := #[] }, { accessFlags := 25, nameIndex := 63, descriptorIndex := 64, attributes := #[] }, { accessFlags := 26, nameIndex := 22, descriptorIndex := 23, attributes := #[] }, { accessFlags := 26, nameIndex := 197, descriptorIndex := 190, attributes := #[] }, { accessFlags := 18, nameIndex := 14, descriptorIndex := 15, attributes := #[] }])
  fields := #[{ name := "NAME", type := (.object "java/lang/String"), accessFlags := 25, slot := 0, constantValue := 0 }, { name := "REVISION", type := .int, accessFlags := 25, slot := 1, constantValue := 0 }, { name := "STOP_WORDS", type := (.object "java/util/Set"), accessFlags := 25, slot := 2, constantValue := 0 }, { name := "TOKENIZER", type := (.object "com/example/rorqual/rorqual/index/Analyzer"), accessFlags := 26, slot := 3, constantValue := 0 }, { name := "APOSTROPHES", type := (.object "java/lang/String"), accessFlags := 26, slot := 4, constantValue := 0 }, { name := "removesStopWords", type := .boolean, accessFlags := 18, slot := 0, constantValue := 0 }]
  methods := #[k3m0, k3m1, k3m2, k3m3]
  instanceTypes := #[.boolean]
  staticTypes := #[(.object "java/lang/String"), .int, (.object "java/util/Set"), (.object "com/example/rorqual/rorqual/index/Analyzer"), (.object "java/lang/String")]
  resolved := Array.replicate 209 none
  statics := none }

def pool4 : Array CpInfo := pool [(1, .class_ 2), (0, u "java/io/Serializable"), (0, .class_ 4), (0, u "java/lang/Object")] 2

/-- java/io/Serializable -/
def k4 : Class := { plain "java/io/Serializable" (some 0) with
  accessFlags := 1537
  interfaces := #[]
  cf := some (fileOf pool4 1 #[] #[] 1537 3 #[] #[])
  fields := #[]
  methods := #[]
  instanceTypes := #[]
  staticTypes := #[]
  resolved := Array.replicate 7 none
  statics := none }

def pool5 : Array CpInfo := pool [(1, .class_ 2), (0, u "java/lang/Comparable"), (0, .class_ 4), (0, u "java/lang/Object")] 7

/-- java/lang/Comparable -/
def k5 : Class := { plain "java/lang/Comparable" (some 0) with
  accessFlags := 1537
  interfaces := #[]
  cf := some (fileOf pool5 1 #[] #[] 1537 3 #[] #[])
  fields := #[]
  methods := #[]
  instanceTypes := #[]
  staticTypes := #[]
  resolved := Array.replicate 12 none
  statics := none }

def pool6 : Array CpInfo := pool [(2, .class_ 4), (1, u "java/lang/CharSequence"), (42, .class_ 48), (0, u "java/lang/CharSequence$1CodePointIterator"), (10, .class_ 60), (0, u "java/lang/CharSequence$1CharIterator"), (5, .class_ 67), (0, u "java/lang/Object")] 63

/-- java/lang/CharSequence -/
def k6 : Class := { plain "java/lang/CharSequence" (some 0) with
  accessFlags := 1537
  interfaces := #[]
  cf := some (fileOf pool6 2 #[.nestMembers #[47, 59]] #[] 1537 66 #[] #[])
  fields := #[]
  methods := #[]
  instanceTypes := #[]
  staticTypes := #[]
  resolved := Array.replicate 131 none
  statics := none }

def pool7 : Array CpInfo := pool [(1, .class_ 2), (0, u "java/lang/constant/Constable"), (0, .class_ 4), (0, u "java/lang/Object")] 6

/-- java/lang/constant/Constable -/
def k7 : Class := { plain "java/lang/constant/Constable" (some 0) with
  accessFlags := 1537
  interfaces := #[]
  cf := some (fileOf pool7 1 #[] #[] 1537 3 #[] #[])
  fields := #[]
  methods := #[]
  instanceTypes := #[]
  staticTypes := #[]
  resolved := Array.replicate 11 none
  statics := none }

def pool8 : Array CpInfo := pool [(1, .class_ 2), (0, u "java/lang/constant/ConstantDesc"), (0, .class_ 4), (0, u "java/lang/Object")] 32

/-- java/lang/constant/ConstantDesc -/
def k8 : Class := { plain "java/lang/constant/ConstantDesc" (some 0) with
  accessFlags := 1537
  interfaces := #[]
  cf := some (fileOf pool8 1 #[] #[] 1537 3 #[] #[])
  fields := #[]
  methods := #[]
  instanceTypes := #[]
  staticTypes := #[]
  resolved := Array.replicate 37 none
  statics := none }

def pool9 : Array CpInfo := pool [(2, .class_ 4), (1, u "java/lang/Object"), (0, u "<init>"), (0, u "()V"), (2, .fieldref 10 11), (0, .class_ 12), (0, .nameAndType 13 14), (0, u "java/lang/String"), (0, u "value"), (0, u "[B"), (0, .fieldref 10 16), (0, .nameAndType 17 18), (0, u "coder"), (0, u "B"), (2, u "hash"), (0, u "I"), (2, u "hashIsZero"), (0, u "Z"), (11, .fieldref 10 39), (0, .nameAndType 40 26), (0, u "COMPACT_STRINGS"), (66, .class_ 109), (1, u "java/lang/StringLatin1"), (431, .methodref 107 542), (0, .nameAndType 543 544), (0, u "equals"), (0, u "([B[B)Z"), (28, u "(Ljava/lang/Object;)Z"), (1, .class_ 576), (0, u "java/lang/CharSequence"), (22, u "CASE_INSENSITIVE_ORDER"), (0, u "Ljava/util/Comparator;"), (500, u "serialPersistentFields"), (0, u "[Ljava/io/ObjectStreamField;"), (0, .class_ 1104), (0, u "java/lang/String$CaseInsensitiveComparator"), (1, .class_ 1107), (0, u "java/io/Serializable"), (0, .class_ 1109), (0, u "java/lang/Comparable"), (0, .class_ 1111), (0, u "java/lang/constant/Constable"), (0, .class_ 1113), (0, u "java/lang/constant/ConstantDesc"), (2, u "serialVersionUID"), (0, u "J"), (3, u "REPL"), (0, u "C"), (2, u "LATIN1"), (1, u "UTF16")] 323

def k9m0 : Method := { name := "<init>", desc := "()V", sig := { parameters := [], returnType := none }, accessFlags := 1, code := none }
def k9c1 : Code := { maxStack := 2, maxLocals := 3, code := jdk_42_method_66_code, exceptionTable := #[], attributes := #[] }
def k9m1 : Method := { name := "equals", desc := "(Ljava/lang/Object;)Z", sig := { parameters := [(.object "java/lang/Object")], returnType := some .boolean }, accessFlags := 1, code := some k9c1 }
/-- java/lang/String -/
def k9 : Class := { plain "java/lang/String" (some 0) with
  accessFlags := 49
  interfaces := #[4, 5, 6, 7, 8]
  cf := some (fileOf pool9 10 #[.nestMembers #[1103]] #[{ accessFlags := 1, nameIndex := 5, descriptorIndex := 6, attributes := #[] }, { accessFlags := 1, nameIndex := 543, descriptorIndex := 573, attributes := #[] }] 49 2 #[1106, 1108, 575, 1110, 1112] #[{ accessFlags := 18, nameIndex := 13, descriptorIndex := 14, attributes := #[] }, { accessFlags := 18, nameIndex := 17, descriptorIndex := 18, attributes := #[] }, { accessFlags := 2, nameIndex := 21, descriptorIndex := 22, attributes := #[] }, { accessFlags := 2, nameIndex := 25, descriptorIndex := 26, attributes := #[] }, { accessFlags := 26, nameIndex := 1116, descriptorIndex := 1117, attributes := #[] }, { accessFlags := 24, nameIndex := 40, descriptorIndex := 26, attributes := #[] }, { accessFlags := 26, nameIndex := 1101, descriptorIndex := 1102, attributes := #[] }, { accessFlags := 26, nameIndex := 1121, descriptorIndex := 1122, attributes := #[] }, { accessFlags := 25, nameIndex := 599, descriptorIndex := 600, attributes := #[] }, { accessFlags := 24, nameIndex := 1125, descriptorIndex := 18, attributes := #[] }, { accessFlags := 24, nameIndex := 1127, descriptorIndex := 18, attributes := #[] }])
  fields := #[{ name := "value", type := (.array .byte), accessFlags := 18, slot := 0, constantValue := 0 }, { name := "coder", type := .byte, accessFlags := 18, slot := 1, constantValue := 0 }, { name := "hash", type := .int, accessFlags := 2, slot := 2, constantValue := 0 }, { name := "hashIsZero", type := .boolean, accessFlags := 2, slot := 3, constantValue := 0 }, { name := "serialVersionUID", type := .long, accessFlags := 26, slot := 0, constantValue := 0 }, { name := "COMPACT_STRINGS", type := .boolean, accessFlags := 24, slot := 1, constantValue := 0 }, { name := "serialPersistentFields", type := (.array (.object "java/io/ObjectStreamField")), accessFlags := 26, slot := 2, constantValue := 0 }, { name := "REPL", type := .char, accessFlags := 26, slot := 3, constantValue := 0 }, { name := "CASE_INSENSITIVE_ORDER", type := (.object "java/util/Comparator"), accessFlags := 25, slot := 4, constantValue := 0 }, { name := "LATIN1", type := .byte, accessFlags := 24, slot := 5, constantValue := 0 }, { name := "UTF16", type := .byte, accessFlags := 24, slot := 6, constantValue := 0 }]
  methods := #[k9m0, k9m1]
  instanceTypes := #[(.array .byte), .byte, .int, .boolean]
  staticTypes := #[.long, .boolean, (.array (.object "java/io/ObjectStreamField")), .char, (.object "java/util/Comparator"), .byte, .byte]
  resolved := Array.replicate 1451 none
  statics := some 0 }

def pool10 : Array CpInfo := pool [(4, .class_ 6), (1, u "java/lang/Object"), (0, u "<init>"), (0, u "()V"), (5, .class_ 16), (1, u "java/lang/StringLatin1"), (104, u "$assertionsDisabled"), (0, u "Z"), (98, .class_ 223), (1, u "java/lang/StringLatin1$LinesSpliterator"), (57, u "equals"), (0, u "([B[B)Z"), (107, .class_ 391), (0, u "java/lang/StringLatin1$CharsSpliterator")] 3

def k10m0 : Method := { name := "<init>", desc := "()V", sig := { parameters := [], returnType := none }, accessFlags := 0, code := none }
def k10c1 : Code := { maxStack := 3, maxLocals := 3, code := jdk_43_method_13_code, exceptionTable := #[], attributes := #[] }
def k10m1 : Method := { name := "equals", desc := "([B[B)Z", sig := { parameters := [(.array .byte), (.array .byte)], returnType := some .boolean }, accessFlags := 9, code := some k10c1 }
/-- java/lang/StringLatin1 -/
def k10 : Class := { plain "java/lang/StringLatin1" (some 0) with
  accessFlags := 48
  interfaces := #[]
  cf := some (fileOf pool10 14 #[.nestMembers #[390, 221]] #[{ accessFlags := 0, nameIndex := 7, descriptorIndex := 8, attributes := #[] }, { accessFlags := 9, nameIndex := 281, descriptorIndex := 282, attributes := #[] }] 48 4 #[] #[{ accessFlags := 4120, nameIndex := 121, descriptorIndex := 122, attributes := #[] }])
  fields := #[{ name := "$assertionsDisabled", type := .boolean, accessFlags := 4120, slot := 0, constantValue := 0 }]
  methods := #[k10m0, k10m1]
  instanceTypes := #[]
  staticTypes := #[.boolean]
  resolved := Array.replicate 395 none
  statics := none }

def pool11 : Array CpInfo := pool [(2, .class_ 4), (1, u "java/lang/Object"), (0, u "<init>"), (0, u "()V"), (17, .class_ 26), (1, u "jdk/internal/util/Preconditions"), (28, .class_ 56), (0, u "jdk/internal/util/Preconditions$4"), (57, .class_ 115), (0, u "jdk/internal/util/Preconditions$1"), (7, u "SIOOBE_FORMATTER"), (0, u "Ljava/util/function/BiFunction;"), (0, .class_ 126), (0, u "jdk/internal/util/Preconditions$2"), (3, u "AIOOBE_FORMATTER"), (0, .class_ 132), (0, u "jdk/internal/util/Preconditions$3"), (3, u "IOOBE_FORMATTER")] 57

def k11m0 : Method := { name := "<init>", desc := "()V", sig := { parameters := [], returnType := none }, accessFlags := 1, code := none }
/-- jdk/internal/util/Preconditions -/
def k11 : Class := { plain "jdk/internal/util/Preconditions" (some 0) with
  accessFlags := 33
  interfaces := #[]
  cf := some (fileOf pool11 24 #[.nestMembers #[55, 131, 125, 114]] #[{ accessFlags := 1, nameIndex := 5, descriptorIndex := 6, attributes := #[] }] 33 2 #[] #[{ accessFlags := 25, nameIndex := 123, descriptorIndex := 124, attributes := #[] }, { accessFlags := 25, nameIndex := 130, descriptorIndex := 124, attributes := #[] }, { accessFlags := 25, nameIndex := 136, descriptorIndex := 124, attributes := #[] }])
  fields := #[{ name := "SIOOBE_FORMATTER", type := (.object "java/util/function/BiFunction"), accessFlags := 25, slot := 0, constantValue := 0 }, { name := "AIOOBE_FORMATTER", type := (.object "java/util/function/BiFunction"), accessFlags := 25, slot := 1, constantValue := 0 }, { name := "IOOBE_FORMATTER", type := (.object "java/util/function/BiFunction"), accessFlags := 25, slot := 2, constantValue := 0 }]
  methods := #[k11m0]
  instanceTypes := #[]
  staticTypes := #[(.object "java/util/function/BiFunction"), (.object "java/util/function/BiFunction"), (.object "java/util/function/BiFunction")]
  resolved := Array.replicate 194 none
  statics := some 1 }

def pool12 : Array CpInfo := pool [(9, u "<init>"), (6, .class_ 18), (1, u "java/lang/Object"), (0, u "()V"), (1, .class_ 23), (1, u "jdk/internal/util/ArraysSupport"), (0, u "LOG2_ARRAY_LONG_INDEX_SCALE"), (0, u "I"), (2, u "U"), (0, u "Ljdk/internal/misc/Unsafe;"), (8, u "BIG_ENDIAN"), (0, u "Z"), (8, u "LOG2_BYTE_BIT_SIZE"), (4, u "LOG2_ARRAY_INT_INDEX_SCALE"), (54, u "JLA"), (0, u "Ljdk/internal/access/JavaLangAccess;"), (11, u "LOG2_ARRAY_BOOLEAN_INDEX_SCALE"), (9, u "LOG2_ARRAY_BYTE_INDEX_SCALE"), (5, u "LOG2_ARRAY_CHAR_INDEX_SCALE"), (5, u "LOG2_ARRAY_SHORT_INDEX_SCALE"), (18, u "LOG2_ARRAY_FLOAT_INDEX_SCALE"), (24, u "LOG2_ARRAY_DOUBLE_INDEX_SCALE"), (89, u "T_BOOLEAN"), (2, u "T_CHAR"), (1, u "T_FLOAT"), (1, u "T_DOUBLE"), (1, u "T_BYTE"), (1, u "T_SHORT"), (1, u "T_INT"), (1, u "T_LONG"), (1, u "SOFT_MAX_ARRAY_LENGTH")] 83

def k12m0 : Method := { name := "<init>", desc := "()V", sig := { parameters := [], returnType := none }, accessFlags := 2, code := none }
/-- jdk/internal/util/ArraysSupport -/
def k12 : Class := { plain "jdk/internal/util/ArraysSupport" (some 0) with
  accessFlags := 33
  interfaces := #[]
  cf := some (fileOf pool12 21 #[] #[{ accessFlags := 2, nameIndex := 9, descriptorIndex := 19, attributes := #[] }] 33 16 #[] #[{ accessFlags := 24, nameIndex := 28, descriptorIndex := 29, attributes := #[] }, { accessFlags := 26, nameIndex := 38, descriptorIndex := 39, attributes := #[] }, { accessFlags := 25, nameIndex := 121, descriptorIndex := 25, attributes := #[] }, { accessFlags := 25, nameIndex := 131, descriptorIndex := 25, attributes := #[] }, { accessFlags := 25, nameIndex := 137, descriptorIndex := 25, attributes := #[] }, { accessFlags := 25, nameIndex := 143, descriptorIndex := 25, attributes := #[] }, { accessFlags := 25, nameIndex := 53, descriptorIndex := 25, attributes := #[] }, { accessFlags := 25, nameIndex := 24, descriptorIndex := 25, attributes := #[] }, { accessFlags := 25, nameIndex := 162, descriptorIndex := 25, attributes := #[] }, { accessFlags := 25, nameIndex := 187, descriptorIndex := 25, attributes := #[] }, { accessFlags := 26, nameIndex := 48, descriptorIndex := 25, attributes := #[] }, { accessFlags := 25, nameIndex := 277, descriptorIndex := 25, attributes := #[] }, { accessFlags := 25, nameIndex := 280, descriptorIndex := 25, attributes := #[] }, { accessFlags := 25, nameIndex := 282, descriptorIndex := 25, attributes := #[] }, { accessFlags := 25, nameIndex := 284, descriptorIndex := 25, attributes := #[] }, { accessFlags := 25, nameIndex := 286, descriptorIndex := 25, attributes := #[] }, { accessFlags := 25, nameIndex := 288, descriptorIndex := 25, attributes := #[] }, { accessFlags := 25, nameIndex := 290, descriptorIndex := 25, attributes := #[] }, { accessFlags := 25, nameIndex := 292, descriptorIndex := 25, attributes := #[] }, { accessFlags := 26, nameIndex := 108, descriptorIndex := 109, attributes := #[] }, { accessFlags := 25, nameIndex := 294, descriptorIndex := 25, attributes := #[] }])
  fields := #[{ name := "U", type := (.object "jdk/internal/misc/Unsafe"), accessFlags := 24, slot := 0, constantValue := 0 }, { name := "BIG_ENDIAN", type := .boolean, accessFlags := 26, slot := 1, constantValue := 0 }, { name := "LOG2_ARRAY_BOOLEAN_INDEX_SCALE", type := .int, accessFlags := 25, slot := 2, constantValue := 0 }, { name := "LOG2_ARRAY_BYTE_INDEX_SCALE", type := .int, accessFlags := 25, slot := 3, constantValue := 0 }, { name := "LOG2_ARRAY_CHAR_INDEX_SCALE", type := .int, accessFlags := 25, slot := 4, constantValue := 0 }, { name := "LOG2_ARRAY_SHORT_INDEX_SCALE", type := .int, accessFlags := 25, slot := 5, constantValue := 0 }, { name := "LOG2_ARRAY_INT_INDEX_SCALE", type := .int, accessFlags := 25, slot := 6, constantValue := 0 }, { name := "LOG2_ARRAY_LONG_INDEX_SCALE", type := .int, accessFlags := 25, slot := 7, constantValue := 0 }, { name := "LOG2_ARRAY_FLOAT_INDEX_SCALE", type := .int, accessFlags := 25, slot := 8, constantValue := 0 }, { name := "LOG2_ARRAY_DOUBLE_INDEX_SCALE", type := .int, accessFlags := 25, slot := 9, constantValue := 0 }, { name := "LOG2_BYTE_BIT_SIZE", type := .int, accessFlags := 26, slot := 10, constantValue := 0 }, { name := "T_BOOLEAN", type := .int, accessFlags := 25, slot := 11, constantValue := 0 }, { name := "T_CHAR", type := .int, accessFlags := 25, slot := 12, constantValue := 0 }, { name := "T_FLOAT", type := .int, accessFlags := 25, slot := 13, constantValue := 0 }, { name := "T_DOUBLE", type := .int, accessFlags := 25, slot := 14, constantValue := 0 }, { name := "T_BYTE", type := .int, accessFlags := 25, slot := 15, constantValue := 0 }, { name := "T_SHORT", type := .int, accessFlags := 25, slot := 16, constantValue := 0 }, { name := "T_INT", type := .int, accessFlags := 25, slot := 17, constantValue := 0 }, { name := "T_LONG", type := .int, accessFlags := 25, slot := 18, constantValue := 0 }, { name := "JLA", type := (.object "jdk/internal/access/JavaLangAccess"), accessFlags := 26, slot := 19, constantValue := 0 }, { name := "SOFT_MAX_ARRAY_LENGTH", type := .int, accessFlags := 25, slot := 20, constantValue := 0 }]
  methods := #[k12m0]
  instanceTypes := #[]
  staticTypes := #[(.object "jdk/internal/misc/Unsafe"), .boolean, .int, .int, .int, .int, .int, .int, .int, .int, .int, .int, .int, .int, .int, .int, .int, .int, .int, (.object "jdk/internal/access/JavaLangAccess"), .int]
  resolved := Array.replicate 378 none
  statics := none }

def pool13 : Array CpInfo := pool [(1, u "java/lang/Cloneable"), (0, .class_ 1), (0, u "java/lang/Object"), (0, .class_ 3)] 3

/-- java/lang/Cloneable -/
def k13 : Class := { plain "java/lang/Cloneable" (some 0) with
  accessFlags := 1537
  interfaces := #[]
  cf := some (fileOf pool13 2 #[] #[] 1537 4 #[] #[])
  fields := #[]
  methods := #[]
  instanceTypes := #[]
  staticTypes := #[]
  resolved := Array.replicate 8 none
  statics := none }

/-- the primitive byte -/
def k14 : Class := { plain "byte" none with kind := .primitive 'B', accessFlags := 0x411 }
/-- [B -/
def k15 : Class := { plain "[B" (some 0) with kind := .array 14 .byte, interfaces := #[13, 4], accessFlags := 1041 }

/-- the primitive int -/
def k16 : Class := { plain "int" none with kind := .primitive 'I', accessFlags := 0x411 }
/-- [I -/
def k17 : Class := { plain "[I" (some 0) with kind := .array 16 .int, interfaces := #[13, 4], accessFlags := 1041 }

def heap : Heap := #[{ cls := 9, slots := #[.long 0, .int 1, .null, .int 0, .null, .int 0, .int 0], vm := .statics 9 },
  { cls := 11, slots := #[.null, .null, .null], vm := .statics 11 }]
def classes : Array Class := #[k0, k1, k2, k3, k4, k5, k6, k7, k8, k9, k10, k11, k12, k13, k14, k15, k16, k17]
def interned : List (Array UInt16 × Addr) := []
def slotsUsed : Nat := 10
def theMethod : MethodId := ⟨1, 1⟩
def args0 : Array Value := #[.int 5]
def aboutOver (below : List Frame) : State where
  vm := { classes := classes, interned := interned.toArray }
  heap := heap
  slotsUsed := slotsUsed
  threads := #[{ frames := .invoking theMethod args0 :: below }]
def below0 : List Frame := [.native { method := ⟨0, 0⟩, args := #[] }]
def about1 : State := aboutOver below0
def p0 : Program := .bare "" "" ""
def e0 : Env := launch0.env 0 0 0
theorem w_frames : about1.frames = Frame.invoking theMethod args0 :: below0 := rfl
set_option maxRecDepth 65536 in
theorem w_args : argsFit about1.vm theMethod args0 = true := by decide +kernel
set_option maxRecDepth 65536 in
theorem w_heap : heapFits about1 = true := by decide +kernel
set_option maxRecDepth 65536 in
theorem w_runnable : about1.curStatus? = some .runnable := by decide +kernel
set_option maxRecDepth 65536 in
theorem w_alone : about1.alone = true := by decide +kernel
set_option maxRecDepth 65536 in
theorem w_named : about1.methodNamed? x = some theMethod := by decide +kernel
set_option maxRecDepth 65536 in
theorem w_hears : about1.hears theMethod below0 = true := by decide +kernel
set_option maxRecDepth 65536 in
theorem w_ripe : about1.ripe theMethod args0 below0 = true := by decide +kernel
theorem w_running : about1.status = .running := rfl
set_option maxRecDepth 65536 in
theorem w_room : about1.hasRoom e0.platform room_1 = true :=
  launch0.hasRoom_least _ room_1 (by decide +kernel) (by decide +kernel) (by decide +kernel) (by decide +kernel) (by decide +kernel) (by decide +kernel)
theorem allAtoms_all (ts : List Jvm.Cond) (a : Array Jvm.Value) (st : Jvm.State) : (allAtoms ts).before a st = ts.all (fun c => c.before a st) := by
  induction ts with
  | nil => rfl
  | cons c t ih =>
    show (Jvm.Cond.and c (allAtoms t)).before a st = _
    rw [Jvm.Cond.before_and, ih, List.all_cons]
def words1 : List Jvm.Cond := Jvm.Cond.code x code maxLocals ret :: tables_1
/-- a 'code' word, met by the world's own term for the bytes: nothing is compared byte by byte -/
theorem code_word {y : MethodName} {bytes : ByteArray} {mx : Nat} {rt : Option FieldType} {a : Array Value} {s : State} {m : MethodId} {meth : Method} {c : Code} (h1 : s.methodNamed? y = some m) (h2 : s.vm.method? m = some meth) (h3 : meth.code = some c) (h4 : c.code = bytes)
    (h5 : (c.maxLocals == mx && c.exceptionTable.isEmpty && decide (c.maxStack ≤ mostOperands) && decide (meth.sig.returnType = rt) && !meth.locks && decide (parseMethodDescriptor y.desc = some meth.sig)) = true) : (Jvm.Cond.code y bytes mx rt).before a s = true := by
  simp only [Bool.and_eq_true, beq_iff_eq, Bool.not_eq_true', decide_eq_true_eq] at h5
  obtain ⟨⟨⟨⟨⟨g1, g2⟩, g3⟩, g4⟩, g5⟩, g6⟩ := h5
  simp [Cond.before, Cond.holds, Cond.value, h1, h2, h3, h4, g1, g2, g3, g4, g5, g6]
def isCode : Jvm.Cond → Bool
  | .code _ _ _ _ => true
  | _ => false
theorem all_split {L : List Jvm.Cond} {P : Jvm.Cond → Bool} (h1 : L.all (fun c => isCode c || P c) = true) (h2 : ∀ c ∈ L.filter isCode, P c = true) : L.all P = true := by
  refine List.all_eq_true.mpr fun c hc => ?_
  have h := List.all_eq_true.mp h1 c hc
  rcases Bool.eq_false_or_eq_true (isCode c) with hi | hi
  · exact h2 c (List.mem_filter.mpr ⟨hc, hi⟩)
  · simpa [hi] using h
set_option maxRecDepth 65536 in
theorem w_c0 : (Jvm.Cond.code x code maxLocals ret).before args0 about1 = true := code_word (m := ⟨1, 1⟩) (meth := k1m1) (c := k1c1) (by decide +kernel) rfl rfl rfl (by decide +kernel)
set_option maxRecDepth 65536 in
theorem w_c1 : (Jvm.Cond.code ({ cls := "com/example/rorqual/rorqual/index/EnglishAnalyzer", name := "<init>", desc := "()V" } : Jvm.MethodName) prog_40_method_1_code (1 : Nat) (Option.none : Option Jvm.ClassFile.FieldType)).before args0 about1 = true := code_word (m := ⟨3, 0⟩) (meth := k3m0) (c := k3c0) (by decide +kernel) rfl rfl rfl (by decide +kernel)
set_option maxRecDepth 65536 in
theorem w_c2 : (Jvm.Cond.code ({ cls := "com/example/rorqual/rorqual/index/EnglishAnalyzer", name := "<init>", desc := "(Z)V" } : Jvm.MethodName) prog_40_method_2_code (2 : Nat) (Option.none : Option Jvm.ClassFile.FieldType)).before args0 about1 = true := code_word (m := ⟨3, 1⟩) (meth := k3m1) (c := k3c1) (by decide +kernel) rfl rfl rfl (by decide +kernel)
set_option maxRecDepth 65536 in
theorem w_c3 : (Jvm.Cond.code ({ cls := "java/lang/Object", name := "<init>", desc := "()V" } : Jvm.MethodName) object_method_1_code (1 : Nat) (Option.none : Option Jvm.ClassFile.FieldType)).before args0 about1 = true := code_word (m := ⟨0, 0⟩) (meth := k0m0) (c := k0c0) (by decide +kernel) rfl rfl rfl (by decide +kernel)
set_option maxRecDepth 65536 in
theorem w_c4 : (Jvm.Cond.code ({ cls := "com/example/rorqual/rorqual/index/EnglishAnalyzer", name := "name", desc := "()Ljava/lang/String;" } : Jvm.MethodName) prog_40_method_3_code (2 : Nat) (Option.some (Jvm.ClassFile.FieldType.object "java/lang/String"))).before args0 about1 = true := code_word (m := ⟨3, 2⟩) (meth := k3m2) (c := k3c2) (by decide +kernel) rfl rfl rfl (by decide +kernel)
set_option maxRecDepth 65536 in
theorem w_c5 : (Jvm.Cond.code ({ cls := "java/lang/String", name := "equals", desc := "(Ljava/lang/Object;)Z" } : Jvm.MethodName) jdk_42_method_66_code (3 : Nat) (Option.some Jvm.ClassFile.FieldType.boolean)).before args0 about1 = true := code_word (m := ⟨9, 1⟩) (meth := k9m1) (c := k9c1) (by decide +kernel) rfl rfl rfl (by decide +kernel)
set_option maxRecDepth 65536 in
theorem w_c6 : (Jvm.Cond.code ({ cls := "com/example/rorqual/rorqual/index/EnglishAnalyzer", name := "keepingStopWords", desc := "()Lcom/example/rorqual/rorqual/index/Analyzer;" } : Jvm.MethodName) prog_40_method_6_code (1 : Nat) (Option.some (Jvm.ClassFile.FieldType.object "com/example/rorqual/rorqual/index/Analyzer"))).before args0 about1 = true := code_word (m := ⟨3, 3⟩) (meth := k3m3) (c := k3c3) (by decide +kernel) rfl rfl rfl (by decide +kernel)
set_option maxRecDepth 65536 in
theorem w_c7 : (Jvm.Cond.code ({ cls := "java/lang/StringLatin1", name := "equals", desc := "([B[B)Z" } : Jvm.MethodName) jdk_43_method_13_code (3 : Nat) (Option.some Jvm.ClassFile.FieldType.boolean)).before args0 about1 = true := code_word (m := ⟨10, 1⟩) (meth := k10m1) (c := k10c1) (by decide +kernel) rfl rfl rfl (by decide +kernel)
def codes1 : List Jvm.Cond := [Jvm.Cond.code x code maxLocals ret, Jvm.Cond.code ({ cls := "com/example/rorqual/rorqual/index/EnglishAnalyzer", name := "<init>", desc := "()V" } : Jvm.MethodName) prog_40_method_1_code (1 : Nat) (Option.none : Option Jvm.ClassFile.FieldType), Jvm.Cond.code ({ cls := "com/example/rorqual/rorqual/index/EnglishAnalyzer", name := "<init>", desc := "(Z)V" } : Jvm.MethodName) prog_40_method_2_code (2 : Nat) (Option.none : Option Jvm.ClassFile.FieldType), Jvm.Cond.code ({ cls := "java/lang/Object", name := "<init>", desc := "()V" } : Jvm.MethodName) object_method_1_code (1 : Nat) (Option.none : Option Jvm.ClassFile.FieldType), Jvm.Cond.code ({ cls := "com/example/rorqual/rorqual/index/EnglishAnalyzer", name := "name", desc := "()Ljava/lang/String;" } : Jvm.MethodName) prog_40_method_3_code (2 : Nat) (Option.some (Jvm.ClassFile.FieldType.object "java/lang/String")), Jvm.Cond.code ({ cls := "java/lang/String", name := "equals", desc := "(Ljava/lang/Object;)Z" } : Jvm.MethodName) jdk_42_method_66_code (3 : Nat) (Option.some Jvm.ClassFile.FieldType.boolean), Jvm.Cond.code ({ cls := "com/example/rorqual/rorqual/index/EnglishAnalyzer", name := "keepingStopWords", desc := "()Lcom/example/rorqual/rorqual/index/Analyzer;" } : Jvm.MethodName) prog_40_method_6_code (1 : Nat) (Option.some (Jvm.ClassFile.FieldType.object "com/example/rorqual/rorqual/index/Analyzer")), Jvm.Cond.code ({ cls := "java/lang/StringLatin1", name := "equals", desc := "([B[B)Z" } : Jvm.MethodName) jdk_43_method_13_code (3 : Nat) (Option.some Jvm.ClassFile.FieldType.boolean)]
set_option maxRecDepth 65536 in
theorem codes_eq : words1.filter isCode = codes1 := rfl
theorem w_codes : ∀ c ∈ words1.filter isCode, c.before args0 about1 = true := by
  rw [codes_eq]
  intro c hc
  simp only [codes1, List.mem_cons, List.not_mem_nil, or_false] at hc
  rcases hc with rfl | rfl | rfl | rfl | rfl | rfl | rfl | rfl
  · exact w_c0
  · exact w_c1
  · exact w_c2
  · exact w_c3
  · exact w_c4
  · exact w_c5
  · exact w_c6
  · exact w_c7
set_option maxRecDepth 65536 in
theorem w_t1 : (words1.take 24).all (fun c => isCode c || c.before args0 about1) = true := by decide +kernel
set_option maxRecDepth 65536 in
theorem w_t2 : ((words1.drop 24).take 24).all (fun c => isCode c || c.before args0 about1) = true := by decide +kernel
set_option maxRecDepth 65536 in
theorem w_t3 : ((words1.drop 24).drop 24).all (fun c => isCode c || c.before args0 about1) = true := by decide +kernel
theorem w_tables : (allAtoms (Jvm.Cond.code x code maxLocals ret :: tables_1)).before args0 about1 = true := by
  rw [allAtoms_all]
  show words1.all (fun c => c.before args0 about1) = true
  refine all_split ?_ w_codes
  rw [← List.take_append_drop 24 words1, List.all_append, w_t1, ← List.take_append_drop 24 (words1.drop 24), List.all_append, w_t2, w_t3]
  rfl
set_option maxRecDepth 65536 in
theorem w_rest : rest_1_c.before args0 about1 = true := by decide +kernel
set_option maxRecDepth 65536 in
theorem w_case : (Jvm.Cond.and given_1 narrow_1).before args0 about1 = true := by decide +kernel
set_option maxRecDepth 65536 in
theorem w_consts : constsHeld consts_1 about1 := Jvm.Lit.constsHeldB_iff.mp (by decide +kernel)
theorem w_applies : (headSpec (Jvm.Cond.code x code maxLocals ret :: tables_1) room_1).applies x e0.platform about1 = true :=
  (Spec.applies_iff w_frames).mpr ⟨w_running, w_runnable, w_alone, w_named, w_hears, w_ripe, w_room, w_tables⟩
theorem atStart : AtStart classFile x code maxLocals ret World_1 tables_1 room_1 Calls_1 rest_1 Pre_1 launch0 p0 e0 about1 theMethod args0 below0 :=
  ⟨lists_1, trivial, launch0.admits_env _ _ _, launch0.least_env, fairChoices_fair.cas, fairChoices_fair.clock, w_frames, w_args, w_heap, w_applies, ⟨w_consts, trivial⟩, w_rest, w_case⟩
end start1
theorem witness_1 : WitnessClaimed_1 := ⟨start1.p0, start1.e0, start1.about1, start1.theMethod, start1.args0, start1.below0, start1.atStart⟩
end Jvm.Pilot.@@N@@
