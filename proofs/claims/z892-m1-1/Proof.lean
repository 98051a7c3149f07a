import JvmDerived
import JvmDerived.Pilot.@@N@@Statement
import JvmDerived.Pilot.@@N@@Code
set_option linter.unusedVariables false
set_option linter.unusedSimpArgs false
@@BLOCK:HandJ.lean.txt@@
@@BLOCK:SymMore.lean.txt@@
namespace Jvm.OwnKit
open Sem ClassFile Op Lib Jvm.Stand Jvm.Free Jvm.LawKit Jvm.RoadKit
section Own
variable {p : Program} {l : Launch} {e : Env} {R : Room} {s : State} {m : MethodId} {args : Array Value} {below : List Frame} {meth : Method} {c : Code} {T : State} {locs : List Loc} {cells slots : Nat}
/-- from the state S the run ends, and P says how -/
def GoOn (p : Program) (e : Env) (below : List Frame) (P : Outcome → State → Prop) (S : State) : Prop := ∃ s₂ o, Steps p.tables e below S s₂ ∧ s₂.status = .running ∧ Ended s₂ below o ∧ P o s₂
theorem GoOn.st {P : Outcome → State → Prop} {S S' : State} (h : ∀ t, Steps p.tables e below S' t → Steps p.tables e below S t) (k : GoOn p e below P S') : GoOn p e below P S := by
  obtain ⟨s₂, o, h1, h2⟩ := k; exact ⟨s₂, o, h _ h1, h2⟩
/-- the end as a contract says it: what is returned, the heap, the written places -/
def OwPost (Q : Option Value → Heap → List Loc → Prop) (s : State) (rc rs : Nat) : Outcome → State → Prop := fun o U' => ∃ v L, o = .returned v ∧ Q v U'.heap L ∧ FrameEnd s o U' L rc rs
/-- a contract: the body y, called with as at a heap h0, ends as Q says -/
def OwCon (l : Launch) (Z : State) (y : MethodName) (bytes : ByteArray) (maxL : Nat) (ret : Option FieldType) (ws : List Jvm.Cond) (rm : Room) (as : Array Value) (h0 : Heap) (Q : Option Value → Heap → List Loc → Prop) : Prop :=
  MetFree l y (head1 (Jvm.Cond.code y bytes maxL ret :: ws) rm) (fun a U => a = as ∧ Z.Warmed39 U.vm ∧ U.heap = h0) (fun _ _ _ _ _ => True) (fun _ U o U' => ∃ v L, o = .returned v ∧ Q v U'.heap L ∧ FrameEnd U o U' L rm.cells rm.slots)
theorem OwCon.of {Z : State} {y : MethodName} {bytes : ByteArray} {maxL : Nat} {ret : Option FieldType} {ws : List Jvm.Cond} {rm : Room} {as : Array Value} {h0 : Heap} {Q : Option Value → Heap → List Loc → Prop} (hpl : plainFor y = true)
    (body : ∀ (p : Program) (e : Env) (s : State) (m : MethodId) (below : List Frame) (meth : Method) (c : Code) (s₁ : State), Stand p l e rm s m as below meth c s₁ [] 0 0 → p.tables.exec = Jvm.exec → c.code = bytes → c.maxLocals = maxL → meth.sig.returnType = ret → meth.locks = false → s.vm.findClass y.cls = some m.cls → meth.name = y.name → Z.Warmed39 s.vm → s₁.heap = h0 →
      GoOn p e below (OwPost Q s rm.cells rm.slots) (s₁.setTop (entryFrame m as maxL))) : OwCon l Z y bytes maxL ret ws rm as h0 Q := by
  refine MetFree.of_bodySF hpl hisR ?_
  intro p e s m args below meth c s₁ Bd hml hP hK
  obtain ⟨rfl, hZ, hh⟩ := hP
  exact body p e s m below meth c s₁ (Stand.of_body Bd) Bd.exec Bd.bytes hml Bd.returns Bd.notSynchronized (findClass_of_methodNamed Bd.named) (name_of_methodNamed Bd.named Bd.method).1 hZ (by rw [← hh, Bd.state]; rfl)
theorem OwCon.mono {Z : State} {y : MethodName} {bytes : ByteArray} {maxL : Nat} {ret : Option FieldType} {ws : List Jvm.Cond} {rm : Room} {as : Array Value} {h0 : Heap} {Q Q' : Option Value → Heap → List Loc → Prop} (C : OwCon l Z y bytes maxL ret ws rm as h0 Q) (h : ∀ v u L, Q v u L → Q' v u L) : OwCon l Z y bytes maxL ret ws rm as h0 Q' := by
  intro p e ha hc hk s m args below hf happ hP hK
  obtain ⟨n, o, h1, h2, h3, v, L, h4, h5, h6⟩ := C p e ha hc hk s m args below hf happ hP hK
  exact ⟨n, o, h1, h2, h3, v, L, h4, h _ _ _ h5, h6⟩
theorem GoOn.out {Q : Option Value → Heap → List Loc → Prop} {rc rs : Nat} {S : State} (X : Stand p l e R s m args below meth c T locs cells slots) (hlk : meth.locks = false) {v : Option Value} (hv : meth.sig.returnType = none → v = none) (hq : Q v T.heap locs) (hc : cells ≤ rc) (hs : slots ≤ rs)
    (st : ∀ fs, (∀ (f : JFrame) (acts : List Action), f.method = m → f.locked = none → f.entered = [] → (doReturn e (T.setTop f) acts v).1 = T.setFrames fs) → Steps p.tables e below S (T.setFrames fs)) : GoOn p e below (OwPost Q s rc rs) S := by
  obtain ⟨fs, hr, hrun, hended, hW, hsame⟩ := X.leave (v := v) hv hlk
  exact ⟨_, _, st fs hr, hrun, hended, v, locs, rfl, hq, ⟨_, rfl⟩, hW, hsame.mono hc hs⟩
theorem GoOn.retI {Q : Option Value → Heap → List Loc → Prop} {rc rs : Nat} (X : Stand p l e R s m args below meth c T locs cells slots) (hx : p.tables.exec = Jvm.exec) (hlk : meth.locks = false) {pc : Nat} {Ls : Array Slot} {z : Int32} {rest : List Value} (hret : meth.sig.returnType = some .int) (hd : decode c.code pc = .ok (.ireturn, 1))
    (hq : Q (some (.int z)) T.heap locs) (hc : cells ≤ rc) (hs : slots ≤ rs) : GoOn p e below (OwPost Q s rc rs) (T.setTop (mkF m pc Ls (.int z :: rest))) :=
  GoOn.out X hlk (fun h => by rw [hret] at h; cases h) hq hc hs fun fs hr => retOut X hx hret rfl (Or.inl ⟨rfl, Or.inl rfl, _, rfl⟩) hd hr
theorem GoOn.retZ {Q : Option Value → Heap → List Loc → Prop} {rc rs : Nat} (X : Stand p l e R s m args below meth c T locs cells slots) (hx : p.tables.exec = Jvm.exec) (hlk : meth.locks = false) {pc : Nat} {Ls : Array Slot} {z : Int32} {rest : List Value} {t : FieldType} (hret : meth.sig.returnType = some t) (ht : t = .boolean ∨ t = .byte ∨ t = .char ∨ t = .short) (hn : narrow t (.int z) = .int z) (hd : decode c.code pc = .ok (.ireturn, 1))
    (hq : Q (some (.int z)) T.heap locs) (hc : cells ≤ rc) (hs : slots ≤ rs) : GoOn p e below (OwPost Q s rc rs) (T.setTop (mkF m pc Ls (.int z :: rest))) :=
  GoOn.out X hlk (fun h => by rw [hret] at h; cases h) hq hc hs fun fs hr => retOut X hx hret hn (Or.inl ⟨rfl, Or.inr ht, _, rfl⟩) hd hr
theorem GoOn.retJ {Q : Option Value → Heap → List Loc → Prop} {rc rs : Nat} (X : Stand p l e R s m args below meth c T locs cells slots) (hx : p.tables.exec = Jvm.exec) (hlk : meth.locks = false) {pc : Nat} {Ls : Array Slot} {z : Int64} {rest : List Value} (hret : meth.sig.returnType = some .long) (hd : decode c.code pc = .ok (.lreturn, 1))
    (hq : Q (some (.long z)) T.heap locs) (hc : cells ≤ rc) (hs : slots ≤ rs) : GoOn p e below (OwPost Q s rc rs) (T.setTop (mkF m pc Ls (.long z :: rest))) :=
  GoOn.out X hlk (fun h => by rw [hret] at h; cases h) hq hc hs fun fs hr => retOut X hx hret rfl (Or.inr (Or.inl ⟨rfl, rfl, _, rfl⟩)) hd hr
theorem GoOn.retA {Q : Option Value → Heap → List Loc → Prop} {rc rs : Nat} (X : Stand p l e R s m args below meth c T locs cells slots) (hx : p.tables.exec = Jvm.exec) (hlk : meth.locks = false) {pc : Nat} {Ls : Array Slot} {w : Value} {rest : List Value} {t : FieldType} (hret : meth.sig.returnType = some t) (ht : t.isReference = true) (hw : w.isRef = true) (hn : narrow t w = w) (hd : decode c.code pc = .ok (.areturn, 1))
    (hq : Q (some w) T.heap locs) (hc : cells ≤ rc) (hs : slots ≤ rs) : GoOn p e below (OwPost Q s rc rs) (T.setTop (mkF m pc Ls (w :: rest))) :=
  GoOn.out X hlk (fun h => by rw [hret] at h; cases h) hq hc hs fun fs hr => retOut X hx hret hn (Or.inr (Or.inr (Or.inr (Or.inr ⟨rfl, ht, hw⟩)))) hd hr
theorem GoOn.retV {Q : Option Value → Heap → List Loc → Prop} {rc rs : Nat} (X : Stand p l e R s m args below meth c T locs cells slots) (hx : p.tables.exec = Jvm.exec) (hlk : meth.locks = false) {pc : Nat} {Ls : Array Slot} (hret : meth.sig.returnType = none) (hd : decode c.code pc = .ok (.return_, 1))
    (hq : Q none T.heap locs) (hc : cells ≤ rc) (hs : slots ≤ rs) : GoOn p e below (OwPost Q s rc rs) (T.setTop (mkF m pc Ls [])) :=
  GoOn.out X hlk (fun _ => rfl) hq hc hs fun fs hr => X.returnOut hx hret hd hr
/-- nothing written, nothing made: v is returned -/
def OwRet (v : Option Value) (h0 : Heap) : Option Value → Heap → List Loc → Prop := fun v' h L => v' = v ∧ L = [] ∧ h = h0
variable {Z : State} {a0 : Array Value} {h : Heap} {own : String} {index : Nat} {y z : MethodName} {bytes : ByteArray} {maxL : Nat} {ret : Option FieldType} {rm : Room} {Q : Option Value → Heap → List Loc → Prop} {P : Outcome → State → Prop}
theorem GoOn.callS {W pc : Nat} {Ls : Array Slot} {argsL rest : List Value} {ps : List FieldType} {rt : Option FieldType} {st : List Value} (X : Stand p l e R s m args below meth c T locs cells slots) (hx : p.tables.exec = Jvm.exec) (hZ : Z.Warmed39 s.vm) (hown : s.vm.findClass own = some m.cls)
    (w1 : (Cond.methodLink own index y).before a0 Z = true) (w2 : (Cond.static y).before a0 Z = true) (w3 : (Cond.initialized y.cls).before a0 Z = true) (w4 : (Cond.code y bytes maxL ret).before a0 Z = true) (hy : y.cls ≠ "java/lang/invoke/MethodHandle" ∧ y.cls ≠ "java/lang/invoke/VarHandle")
    (C : OwCon l Z y bytes maxL ret [] rm argsL.toArray h Q) (eT : T.heap = h) (hfr : rm.frames + 1 ≤ R.frames) (hlo : W + (maxL + 11) + rm.locals ≤ R.locals) (hsize : Ls.size = c.maxLocals) (hd : parseMethodDescriptor y.desc = some ⟨ps, rt⟩) (hl : argsL.length = ps.length) (hst : st = argsL.reverse ++ rest)
    (hW : (rest.map fun v => v.category).sum ≤ W) (hdg : decode c.code pc = .ok (.invokestatic index, 3)) (hc : cells + rm.cells ≤ R.cells) (hs : slots + rm.slots ≤ R.slots)
    (k : ∀ (v : Option Value) (T' : State) (L : List Loc), Stand p l e R s m args below meth c T' (locs ++ L) (cells + rm.cells) (slots + rm.slots) → Q v T'.heap L → GoOn p e below P (T'.setTop (mkF m (pc + 3) Ls (v.toList ++ rest)))) : GoOn p e below P (T.setTop (mkF m pc Ls st)) := by
  obtain ⟨v, vm₁, ⟨T', L', c', s'⟩, -, X', ⟨Lc, hQ, l1, l2, l3⟩, stp⟩ := Jvm.LawKit.callS X hx (y := y) hown (mvT hZ w1) (mvT hZ w2) (mvT hZ w3) (mvT hZ w4) hy (backOf (W := W) C hZ w4 w3 hfr hlo) (g := mkF m pc Ls st) rfl hsize (argsL := argsL) (rest := rest) (lenOf hd hl) hst (by show 2 * 0 + _ ≤ _; omega) hdg (fun _ _ => ⟨rfl, eT, hc, hs⟩)
  dsimp only [Pt.U, Pt.locs, Pt.cells, Pt.slots] at X' l1 l2 l3 stp hQ
  subst l1 l2 l3
  exact GoOn.st stp (k _ _ _ X' hQ)
theorem GoOn.callC {W pc : Nat} {Ls : Array Slot} {a : Addr} {argsL rest : List Value} {ps : List FieldType} {rt : Option FieldType} {st : List Value} (X : Stand p l e R s m args below meth c T locs cells slots) (hx : p.tables.exec = Jvm.exec) (hZ : Z.Warmed39 s.vm) (hown : s.vm.findClass own = some m.cls) (hy1 : y.name = "<init>")
    (w1 : (Cond.methodLink own index y).before a0 Z = true) (w2 : (Cond.instanceMethod y).before a0 Z = true) (w3 : (Cond.initialized y.cls).before a0 Z = true) (w4 : (Cond.code y bytes maxL none).before a0 Z = true) (hy : y.cls ≠ "java/lang/invoke/MethodHandle" ∧ y.cls ≠ "java/lang/invoke/VarHandle")
    (C : OwCon l Z y bytes maxL none [] rm (.ref a :: argsL).toArray h Q) (eT : T.heap = h) (hfr : rm.frames + 1 ≤ R.frames) (hlo : W + (maxL + 11) + rm.locals ≤ R.locals) (hsize : Ls.size = c.maxLocals) (hd : parseMethodDescriptor y.desc = some ⟨ps, rt⟩) (hl : argsL.length = ps.length) (hst : st = argsL.reverse ++ .ref a :: rest)
    (hW : (rest.map fun v => v.category).sum ≤ W) (hdg : decode c.code pc = .ok (.invokespecial index, 3)) (hc : cells + rm.cells ≤ R.cells) (hs : slots + rm.slots ≤ R.slots)
    (k : ∀ (v : Option Value) (T' : State) (L : List Loc), Stand p l e R s m args below meth c T' (locs ++ L) (cells + rm.cells) (slots + rm.slots) → Q v T'.heap L → GoOn p e below P (T'.setTop (mkF m (pc + 3) Ls (v.toList ++ rest)))) : GoOn p e below P (T.setTop (mkF m pc Ls st)) := by
  obtain ⟨v, vm₁, ⟨T', L', c', s'⟩, -, X', ⟨Lc, hQ, l1, l2, l3⟩, stp⟩ := X.specialBack hx (y := y) hy1 hown (mvT hZ w1) (mvT hZ w2) (mvT hZ w4) hy (backOf (W := W) C hZ w4 w3 hfr hlo) (g := mkF m pc Ls st) rfl hsize (Steps.refl _) (a := a) (argsL := argsL) (rest := rest) (lenOf hd hl) hst (by show 2 * 0 + _ ≤ _; omega) hdg (fun _ _ => ⟨rfl, eT, hc, hs⟩)
  dsimp only [Pt.U, Pt.locs, Pt.cells, Pt.slots] at X' l1 l2 l3 stp hQ
  subst l1 l2 l3
  exact GoOn.st (fun _ q => stp.trans q) (k _ _ _ X' hQ)
theorem GoOn.callV {W pc : Nat} {Ls : Array Slot} {a : Addr} {K : String} {argsL rest : List Value} {ps : List FieldType} {rt : Option FieldType} {st : List Value} (X : Stand p l e R s m args below meth c T locs cells slots) (hx : p.tables.exec = Jvm.exec) (hZ : Z.Warmed39 s.vm) (hown : s.vm.findClass own = some m.cls)
    (w1 : (Cond.methodLink own index y).before a0 Z = true) (w5 : (Cond.declares y).before a0 Z = true) (nf : NotFace s y) (w6 : (Cond.selects K y z).before a0 Z = true) (w2 : (Cond.instanceMethod z).before a0 Z = true) (w3 : (Cond.initialized z.cls).before a0 Z = true) (w4 : (Cond.code z bytes maxL ret).before a0 Z = true) (hy : y.cls ≠ "java/lang/invoke/MethodHandle" ∧ y.cls ≠ "java/lang/invoke/VarHandle")
    (C : OwCon l Z z bytes maxL ret [] rm (.ref a :: argsL).toArray h Q) (eT : T.heap = h) (E : Exa Z h a K) (hfr : rm.frames + 1 ≤ R.frames) (hlo : W + (maxL + 11) + rm.locals ≤ R.locals) (hsize : Ls.size = c.maxLocals) (hd : parseMethodDescriptor y.desc = some ⟨ps, rt⟩) (hl : argsL.length = ps.length) (hst : st = argsL.reverse ++ .ref a :: rest)
    (hW : (rest.map fun v => v.category).sum ≤ W) (hdg : decode c.code pc = .ok (.invokevirtual index, 3)) (hc : cells + rm.cells ≤ R.cells) (hs : slots + rm.slots ≤ R.slots)
    (k : ∀ (v : Option Value) (T' : State) (L : List Loc), Stand p l e R s m args below meth c T' (locs ++ L) (cells + rm.cells) (slots + rm.slots) → Q v T'.heap L → GoOn p e below P (T'.setTop (mkF m (pc + 3) Ls (v.toList ++ rest)))) : GoOn p e below P (T.setTop (mkF m pc Ls st)) := by
  obtain ⟨cB, kB, q1, q2, q3⟩ := isOf hZ eT E
  obtain ⟨v, vm₁, ⟨T', L', c', s'⟩, -, X', ⟨Lc, hQ, l1, l2, l3⟩, stp⟩ := X.virtualBack hx (y := y) (z := z) hown (mvT hZ w1) (mvT hZ w5) nf (mvT hZ w6) (mvT hZ w2) hy (backOf (W := W) C hZ w4 w3 hfr hlo) q1 q3 (g := mkF m pc Ls st) rfl hsize (Steps.refl _) (argsL := argsL) (rest := rest) (lenOf hd hl) hst (by show 2 * 0 + _ ≤ _; omega) hdg (fun _ _ => ⟨rfl, eT, hc, hs⟩)
  dsimp only [Pt.U, Pt.locs, Pt.cells, Pt.slots] at X' l1 l2 l3 stp hQ
  subst l1 l2 l3
  exact GoOn.st (fun _ q => stp.trans q) (k _ _ _ X' hQ)
theorem GoOn.callP {W pc : Nat} {Ls : Array Slot} {a : Addr} {argsL rest : List Value} {ps : List FieldType} {rt : Option FieldType} {st : List Value} (X : Stand p l e R s m args below meth c T locs cells slots) (hx : p.tables.exec = Jvm.exec) (hZ : Z.Warmed39 s.vm) (hown : s.vm.findClass own = some m.cls)
    (w1 : (Cond.methodLink own index y).before a0 Z = true) (w2 : (Cond.instanceMethod y).before a0 Z = true) (w5 : (Cond.selects y.cls y y).before a0 Z = true) (w6 : (Cond.privateMethod y).before a0 Z = true) (w3 : (Cond.initialized y.cls).before a0 Z = true) (w4 : (Cond.code y bytes maxL ret).before a0 Z = true) (hy : y.cls ≠ "java/lang/invoke/MethodHandle" ∧ y.cls ≠ "java/lang/invoke/VarHandle")
    (C : OwCon l Z y bytes maxL ret [] rm (.ref a :: argsL).toArray h Q) (eT : T.heap = h) (hcl : ∃ cl : Cell, h[a]? = some cl ∧ ∀ q, cl.vm ≠ .statics q) (hfr : rm.frames + 1 ≤ R.frames) (hlo : W + (maxL + 11) + rm.locals ≤ R.locals) (hsize : Ls.size = c.maxLocals) (hd : parseMethodDescriptor y.desc = some ⟨ps, rt⟩) (hl : argsL.length = ps.length) (hst : st = argsL.reverse ++ .ref a :: rest)
    (hW : (rest.map fun v => v.category).sum ≤ W) (hdg : decode c.code pc = .ok (.invokevirtual index, 3)) (hc : cells + rm.cells ≤ R.cells) (hs : slots + rm.slots ≤ R.slots)
    (k : ∀ (v : Option Value) (T' : State) (L : List Loc), Stand p l e R s m args below meth c T' (locs ++ L) (cells + rm.cells) (slots + rm.slots) → Q v T'.heap L → GoOn p e below P (T'.setTop (mkF m (pc + 3) Ls (v.toList ++ rest)))) : GoOn p e below P (T.setTop (mkF m pc Ls st)) := by
  obtain ⟨cl, q1, q2⟩ := hcl
  obtain ⟨v, vm₁, ⟨T', L', c', s'⟩, -, X', ⟨Lc, hQ, l1, l2, l3⟩, stp⟩ := X.privateBack hx (y := y) hown (mvT hZ w1) (mvT hZ w2) (mvT hZ w5) (Cond.privateMethod_at (mvP hZ w6 (args := #[]))) (mvT hZ w4) hy (backOf (W := W) C hZ w4 w3 hfr hlo) (g := mkF m pc Ls st) rfl hsize (Steps.refl _) (a := a) (by rw [eT]; exact q1) q2 (argsL := argsL) (rest := rest) (lenOf hd hl) hst (by show 2 * 0 + _ ≤ _; omega) hdg (fun _ _ => ⟨rfl, eT, hc, hs⟩)
  dsimp only [Pt.U, Pt.locs, Pt.cells, Pt.slots] at X' l1 l2 l3 stp hQ
  subst l1 l2 l3
  exact GoOn.st (fun _ q => stp.trans q) (k _ _ _ X' hQ)
theorem GoOn.callI {W pc count : Nat} {Ls : Array Slot} {a : Addr} {K : String} {argsL rest : List Value} {ps : List FieldType} {rt : Option FieldType} {st : List Value} (X : Stand p l e R s m args below meth c T locs cells slots) (hx : p.tables.exec = Jvm.exec) (hZ : Z.Warmed39 s.vm) (hown : s.vm.findClass own = some m.cls)
    (w1 : (Cond.methodLink own index y).before a0 Z = true) (w5 : (Cond.declares y).before a0 Z = true) (w7 : (Cond.interfaceMethod y.cls y.cls y.name y.desc).before a0 Z = true) (w6 : (Cond.selects K y z).before a0 Z = true) (w2 : (Cond.instanceMethod z).before a0 Z = true) (w8 : (Cond.publicMethod z).before a0 Z = true) (w9 : (Cond.unhidden K y.name y.desc).before a0 Z = true) (w10 : (Cond.castable K y.cls).before a0 Z = true) (hfa : ((Cond.interfaceMethod y.cls y.cls y.name y.desc).onTables && (Cond.interfaceMethod y.cls y.cls y.name y.desc).keepsFace) = true) (w3 : (Cond.initialized z.cls).before a0 Z = true) (w4 : (Cond.code z bytes maxL ret).before a0 Z = true) (hy : y.cls ≠ "java/lang/invoke/MethodHandle" ∧ y.cls ≠ "java/lang/invoke/VarHandle")
    (C : OwCon l Z z bytes maxL ret [] rm (.ref a :: argsL).toArray h Q) (eT : T.heap = h) (E : Exa Z h a K) (hfr : rm.frames + 1 ≤ R.frames) (hlo : W + (maxL + 11) + rm.locals ≤ R.locals) (hsize : Ls.size = c.maxLocals) (hd : parseMethodDescriptor y.desc = some ⟨ps, rt⟩) (hl : argsL.length = ps.length) (hst : st = argsL.reverse ++ .ref a :: rest)
    (hW : (rest.map fun v => v.category).sum ≤ W) (hdg : decode c.code pc = .ok (.invokeinterface index count, 5)) (hc : cells + rm.cells ≤ R.cells) (hs : slots + rm.slots ≤ R.slots)
    (k : ∀ (v : Option Value) (T' : State) (L : List Loc), Stand p l e R s m args below meth c T' (locs ++ L) (cells + rm.cells) (slots + rm.slots) → Q v T'.heap L → GoOn p e below P (T'.setTop (mkF m (pc + 5) Ls (v.toList ++ rest)))) : GoOn p e below P (T.setTop (mkF m pc Ls st)) := by
  obtain ⟨cB, kB, q1, q2, q3⟩ := isOf hZ eT E
  obtain ⟨v, vm₁, ⟨T', L', c', s'⟩, -, X', ⟨Lc, hQ, l1, l2, l3⟩, stp⟩ := X.interfaceBack hx (xi := y) (y := z) hown (mvT hZ w1) (mvT hZ w5) (mvT hZ w7 hfa) (mvT hZ w6) (mvT hZ w2) (mvT hZ w8) (mvT hZ w9) (mvT hZ w10) hy (backOf (W := W) C hZ w4 w3 hfr hlo) q1 q2 q3 (g := mkF m pc Ls st) rfl hsize (Steps.refl _) (argsL := argsL) (rest := rest) (lenOf hd hl) hst (by show 2 * 0 + _ ≤ _; omega) hdg (fun _ _ => ⟨rfl, eT, hc, hs⟩)
  dsimp only [Pt.U, Pt.locs, Pt.cells, Pt.slots] at X' l1 l2 l3 stp hQ
  subst l1 l2 l3
  exact GoOn.st (fun _ q => stp.trans q) (k _ _ _ X' hQ)
theorem own_aaload {a : Addr} {kc : ClassId} {ty : FieldType} {zl j : Int32} {vs : List Value} {dv v : Value} (X : Stand p l e R s m args below meth c T locs cells slots) (hx : p.tables.exec = Jvm.exec) (hZ : Z.Warmed39 s.vm) (eT : T.heap = h) (V : Arv Z h a kc ty zl vs dv) (hty : ty.isReference = true) (hj : ¬ j < 0 ∧ j < zl) (hv : vs.getD j.toNatClampNeg dv = v) {pc : Nat} {Ls : Array Slot} {rest : List Value} (hd : decode c.code pc = .ok (.aaload, 1)) :
    ∀ t, Steps p.tables e below (T.setTop (mkF m (pc + 1) Ls (v :: rest))) t → Steps p.tables e below (T.setTop (mkF m pc Ls (.int j :: .ref a :: rest))) t := by
  obtain ⟨cl, A, -, S, N, H, -⟩ := V
  intro t k
  exact X.aaload hx (j := j) (v := v) (by rw [eT]; exact A.1) (State.isArrayOf_alike hZ.alike A.2.1) hty A.2.2 (inb_of S hj) (H.at (inb_of S hj) hv) (g := mkF m pc Ls (.int j :: .ref a :: rest)) rfl rfl hd _ k
theorem own_aastore {a b : Addr} {kc : ClassId} {C : String} {ty : FieldType} {zl j : Int32} {vs : List Value} {dv : Value} (X : Stand p l e R s m args below meth c T locs cells slots) (hx : p.tables.exec = Jvm.exec) (hZ : Z.Warmed39 s.vm) (eT : T.heap = h) (V : Arv Z h a kc ty zl vs dv) (hty : ty.isReference = true) (hfit : fits ty (.ref b) = true) (O : Ovr Z kc C) (I : Ins Z h b C true) (hj : ¬ j < 0 ∧ j < zl) (i : Nat) (hi : j.toNatClampNeg = i) (hl : i < vs.length) {pc : Nat} {Ls : Array Slot} {rest : List Value} (hd : decode c.code pc = .ok (.aastore, 1)) :
    ∃ T' h', Stand p l e R s m args below meth c T' (locs ++ [⟨a, j.toNatClampNeg⟩]) cells slots ∧ T'.heap = h' ∧ Wr h h' a j.toNatClampNeg (.ref b) ∧ Arv Z h' a kc ty zl (vs.set i (.ref b)) dv ∧ ∀ t, Steps p.tables e below (T'.setTop (mkF m (pc + 1) Ls rest)) t → Steps p.tables e below (T.setTop (mkF m pc Ls (.ref b :: .int j :: .ref a :: rest))) t := by
  obtain ⟨cl, A, q1, S, N, H, G⟩ := V
  obtain ⟨T', h', X', e', W, st⟩ := stR X hx hZ eT A (j := j) (inb_of S hj) hty (Sto.ofV A q1 O I) (g := mkF m pc Ls (.ref b :: .int j :: .ref a :: rest)) rfl rfl hd
  exact ⟨T', h', X', e', W, Arv.set A q1 S N H G hfit W i hi hl, st⟩
theorem own_aastoreN {a : Addr} {kc : ClassId} {ty : FieldType} {zl j : Int32} {vs : List Value} {dv : Value} (X : Stand p l e R s m args below meth c T locs cells slots) (hx : p.tables.exec = Jvm.exec) (hZ : Z.Warmed39 s.vm) (eT : T.heap = h) (V : Arv Z h a kc ty zl vs dv) (hty : ty.isReference = true) (hfit : fits ty .null = true) (hj : ¬ j < 0 ∧ j < zl) (i : Nat) (hi : j.toNatClampNeg = i) (hl : i < vs.length) {pc : Nat} {Ls : Array Slot} {rest : List Value} (hd : decode c.code pc = .ok (.aastore, 1)) :
    ∃ T' h', Stand p l e R s m args below meth c T' (locs ++ [⟨a, j.toNatClampNeg⟩]) cells slots ∧ T'.heap = h' ∧ Wr h h' a j.toNatClampNeg .null ∧ Arv Z h' a kc ty zl (vs.set i .null) dv ∧ ∀ t, Steps p.tables e below (T'.setTop (mkF m (pc + 1) Ls rest)) t → Steps p.tables e below (T.setTop (mkF m pc Ls (.null :: .int j :: .ref a :: rest))) t := by
  obtain ⟨cl, A, q1, S, N, H, G⟩ := V
  obtain ⟨T', h', X', e', W, st⟩ := stR X hx hZ eT A (j := j) (inb_of S hj) hty (Or.inl rfl) (g := mkF m pc Ls (.null :: .int j :: .ref a :: rest)) rfl rfl hd
  exact ⟨T', h', X', e', W, Arv.set A q1 S N H G hfit W i hi hl, st⟩
theorem own_arrlen {a : Addr} {kc : ClassId} {ty : FieldType} {zl : Int32} {vs : List Value} {dv : Value} (X : Stand p l e R s m args below meth c T locs cells slots) (hx : p.tables.exec = Jvm.exec) (hZ : Z.Warmed39 s.vm) (eT : T.heap = h) (V : Arv Z h a kc ty zl vs dv) {pc : Nat} {Ls : Array Slot} {rest : List Value} (hd : decode c.code pc = .ok (.arraylength, 1)) :
    ∀ t, Steps p.tables e below (T.setTop (mkF m (pc + 1) Ls (.int zl :: rest))) t → Steps p.tables e below (T.setTop (mkF m pc Ls (.ref a :: rest))) t := by
  obtain ⟨cl, A, -, S, N, -, -⟩ := V
  intro t k
  refine X.arraylength hx (by rw [eT]; exact A.1) (State.isArrayOf_alike hZ.alike A.2.1) (g := mkF m pc Ls (.ref a :: rest)) rfl rfl hd _ ?_
  rw [len_of S N]; exact k
theorem own_iaload {a : Addr} {kc : ClassId} {zl j : Int32} {vs : List Value} {dv v : Value} (X : Stand p l e R s m args below meth c T locs cells slots) (hx : p.tables.exec = Jvm.exec) (hZ : Z.Warmed39 s.vm) (eT : T.heap = h) (V : Arv Z h a kc .int zl vs dv) (hj : ¬ j < 0 ∧ j < zl) (hv : vs.getD j.toNatClampNeg dv = v) {pc : Nat} {Ls : Array Slot} {rest : List Value} (hd : decode c.code pc = .ok (.iaload, 1)) :
    ∀ t, Steps p.tables e below (T.setTop (mkF m (pc + 1) Ls (v :: rest))) t → Steps p.tables e below (T.setTop (mkF m pc Ls (.int j :: .ref a :: rest))) t := by
  obtain ⟨cl, A, -, S, N, H, -⟩ := V
  intro t k
  exact X.iaload hx (j := j) (v := v) (by rw [eT]; exact A.1) (State.isArrayOf_alike hZ.alike A.2.1) A.2.2 (inb_of S hj) (H.at (inb_of S hj) hv) (g := mkF m pc Ls (.int j :: .ref a :: rest)) rfl rfl hd _ k
theorem own_caload {a : Addr} {kc : ClassId} {zl j : Int32} {vs : List Value} {dv v : Value} (X : Stand p l e R s m args below meth c T locs cells slots) (hx : p.tables.exec = Jvm.exec) (hZ : Z.Warmed39 s.vm) (eT : T.heap = h) (V : Arv Z h a kc .char zl vs dv) (hj : ¬ j < 0 ∧ j < zl) (hv : vs.getD j.toNatClampNeg dv = v) {pc : Nat} {Ls : Array Slot} {rest : List Value} (hd : decode c.code pc = .ok (.caload, 1)) :
    ∀ t, Steps p.tables e below (T.setTop (mkF m (pc + 1) Ls (v :: rest))) t → Steps p.tables e below (T.setTop (mkF m pc Ls (.int j :: .ref a :: rest))) t := by
  obtain ⟨cl, A, -, S, N, H, -⟩ := V
  intro t k
  exact X.caload hx (j := j) (v := v) (by rw [eT]; exact A.1) (State.isArrayOf_alike hZ.alike A.2.1) A.2.2 (inb_of S hj) (H.at (inb_of S hj) hv) (g := mkF m pc Ls (.int j :: .ref a :: rest)) rfl rfl hd _ k
theorem own_baload {a : Addr} {kc : ClassId} {zl j : Int32} {vs : List Value} {dv v : Value} (X : Stand p l e R s m args below meth c T locs cells slots) (hx : p.tables.exec = Jvm.exec) (hZ : Z.Warmed39 s.vm) (eT : T.heap = h) (V : Arv Z h a kc .byte zl vs dv) (hj : ¬ j < 0 ∧ j < zl) (hv : vs.getD j.toNatClampNeg dv = v) {pc : Nat} {Ls : Array Slot} {rest : List Value} (hd : decode c.code pc = .ok (.baload, 1)) :
    ∀ t, Steps p.tables e below (T.setTop (mkF m (pc + 1) Ls (v :: rest))) t → Steps p.tables e below (T.setTop (mkF m pc Ls (.int j :: .ref a :: rest))) t := by
  obtain ⟨cl, A, -, S, N, H, -⟩ := V
  intro t k
  exact X.baloadBytes hx (j := j) (v := v) (by rw [eT]; exact A.1) (State.isArrayOf_alike hZ.alike A.2.1) A.2.2 (inb_of S hj) (H.at (inb_of S hj) hv) (g := mkF m pc Ls (.int j :: .ref a :: rest)) rfl rfl hd _ k
theorem own_zaload {a : Addr} {kc : ClassId} {zl j : Int32} {vs : List Value} {dv v : Value} (X : Stand p l e R s m args below meth c T locs cells slots) (hx : p.tables.exec = Jvm.exec) (hZ : Z.Warmed39 s.vm) (eT : T.heap = h) (V : Arv Z h a kc .boolean zl vs dv) (hj : ¬ j < 0 ∧ j < zl) (hv : vs.getD j.toNatClampNeg dv = v) {pc : Nat} {Ls : Array Slot} {rest : List Value} (hd : decode c.code pc = .ok (.baload, 1)) :
    ∀ t, Steps p.tables e below (T.setTop (mkF m (pc + 1) Ls (v :: rest))) t → Steps p.tables e below (T.setTop (mkF m pc Ls (.int j :: .ref a :: rest))) t := by
  obtain ⟨cl, A, -, S, N, H, -⟩ := V
  intro t k
  exact X.baloadBooleans hx (j := j) (v := v) (by rw [eT]; exact A.1) (State.isArrayOf_alike hZ.alike A.2.1) A.2.2 (inb_of S hj) (H.at (inb_of S hj) hv) (g := mkF m pc Ls (.int j :: .ref a :: rest)) rfl rfl hd _ k
theorem own_laload {a : Addr} {kc : ClassId} {zl j : Int32} {vs : List Value} {dv v : Value} (X : Stand p l e R s m args below meth c T locs cells slots) (hx : p.tables.exec = Jvm.exec) (hZ : Z.Warmed39 s.vm) (eT : T.heap = h) (V : Arv Z h a kc .long zl vs dv) (hj : ¬ j < 0 ∧ j < zl) (hv : vs.getD j.toNatClampNeg dv = v) {pc : Nat} {Ls : Array Slot} {rest : List Value} (hd : decode c.code pc = .ok (.laload, 1)) :
    ∀ t, Steps p.tables e below (T.setTop (mkF m (pc + 1) Ls (v :: rest))) t → Steps p.tables e below (T.setTop (mkF m pc Ls (.int j :: .ref a :: rest))) t := by
  obtain ⟨cl, A, -, S, N, H, -⟩ := V
  intro t k
  exact X.laload hx (j := j) (v := v) (by rw [eT]; exact A.1) (State.isArrayOf_alike hZ.alike A.2.1) A.2.2 (inb_of S hj) (H.at (inb_of S hj) hv) (g := mkF m pc Ls (.int j :: .ref a :: rest)) rfl rfl hd _ k
theorem own_iastore {a : Addr} {kc : ClassId} {zl j : Int32} {x : Int32} {vs : List Value} {dv : Value} (X : Stand p l e R s m args below meth c T locs cells slots) (hx : p.tables.exec = Jvm.exec) (hZ : Z.Warmed39 s.vm) (eT : T.heap = h) (V : Arv Z h a kc .int zl vs dv) (hj : ¬ j < 0 ∧ j < zl) (i : Nat) (hi : j.toNatClampNeg = i) (hl : i < vs.length) {pc : Nat} {Ls : Array Slot} {rest : List Value} (hd : decode c.code pc = .ok (.iastore, 1)) :
    ∃ T' h', Stand p l e R s m args below meth c T' (locs ++ [⟨a, j.toNatClampNeg⟩]) cells slots ∧ T'.heap = h' ∧ Wr h h' a j.toNatClampNeg (.int x) ∧ Arv Z h' a kc .int zl (vs.set i (.int x)) dv ∧ ∀ t, Steps p.tables e below (T'.setTop (mkF m (pc + 1) Ls rest)) t → Steps p.tables e below (T.setTop (mkF m pc Ls ((.int x) :: .int j :: .ref a :: rest))) t := by
  obtain ⟨cl, A, q1, S, N, H, G⟩ := V
  obtain ⟨T', h', X', e', W, st⟩ := stI X hx hZ eT A (j := j) (x := x) (inb_of S hj) (g := mkF m pc Ls ((.int x) :: .int j :: .ref a :: rest)) rfl rfl hd
  exact ⟨T', h', X', e', W, Arv.set A q1 S N H G rfl W i hi hl, st⟩
theorem own_castore {a : Addr} {kc : ClassId} {zl j : Int32} {x : Int32} {vs : List Value} {dv : Value} (X : Stand p l e R s m args below meth c T locs cells slots) (hx : p.tables.exec = Jvm.exec) (hZ : Z.Warmed39 s.vm) (eT : T.heap = h) (V : Arv Z h a kc .char zl vs dv) (hj : ¬ j < 0 ∧ j < zl) (i : Nat) (hi : j.toNatClampNeg = i) (hl : i < vs.length) {pc : Nat} {Ls : Array Slot} {rest : List Value} (hd : decode c.code pc = .ok (.castore, 1)) :
    ∃ T' h', Stand p l e R s m args below meth c T' (locs ++ [⟨a, j.toNatClampNeg⟩]) cells slots ∧ T'.heap = h' ∧ Wr h h' a j.toNatClampNeg (.int (nar .char x)) ∧ Arv Z h' a kc .char zl (vs.set i (.int (nar .char x))) dv ∧ ∀ t, Steps p.tables e below (T'.setTop (mkF m (pc + 1) Ls rest)) t → Steps p.tables e below (T.setTop (mkF m pc Ls ((.int x) :: .int j :: .ref a :: rest))) t := by
  obtain ⟨cl, A, q1, S, N, H, G⟩ := V
  obtain ⟨T', h', X', e', W, st⟩ := stC X hx hZ eT A (j := j) (x := x) (inb_of S hj) (g := mkF m pc Ls ((.int x) :: .int j :: .ref a :: rest)) rfl rfl hd
  exact ⟨T', h', X', e', W, Arv.set A q1 S N H G (fits_nar_char x) W i hi hl, st⟩
theorem own_bastore {a : Addr} {kc : ClassId} {zl j : Int32} {x : Int32} {vs : List Value} {dv : Value} (X : Stand p l e R s m args below meth c T locs cells slots) (hx : p.tables.exec = Jvm.exec) (hZ : Z.Warmed39 s.vm) (eT : T.heap = h) (V : Arv Z h a kc .byte zl vs dv) (hj : ¬ j < 0 ∧ j < zl) (i : Nat) (hi : j.toNatClampNeg = i) (hl : i < vs.length) {pc : Nat} {Ls : Array Slot} {rest : List Value} (hd : decode c.code pc = .ok (.bastore, 1)) :
    ∃ T' h', Stand p l e R s m args below meth c T' (locs ++ [⟨a, j.toNatClampNeg⟩]) cells slots ∧ T'.heap = h' ∧ Wr h h' a j.toNatClampNeg (.int (nar .byte x)) ∧ Arv Z h' a kc .byte zl (vs.set i (.int (nar .byte x))) dv ∧ ∀ t, Steps p.tables e below (T'.setTop (mkF m (pc + 1) Ls rest)) t → Steps p.tables e below (T.setTop (mkF m pc Ls ((.int x) :: .int j :: .ref a :: rest))) t := by
  obtain ⟨cl, A, q1, S, N, H, G⟩ := V
  obtain ⟨T', h', X', e', W, st⟩ := stB X hx hZ eT A (j := j) (x := x) (inb_of S hj) (g := mkF m pc Ls ((.int x) :: .int j :: .ref a :: rest)) rfl rfl hd
  exact ⟨T', h', X', e', W, Arv.set A q1 S N H G (fits_nar_byte x) W i hi hl, st⟩
theorem own_zastore {a : Addr} {kc : ClassId} {zl j : Int32} {x : Int32} {vs : List Value} {dv : Value} (X : Stand p l e R s m args below meth c T locs cells slots) (hx : p.tables.exec = Jvm.exec) (hZ : Z.Warmed39 s.vm) (eT : T.heap = h) (V : Arv Z h a kc .boolean zl vs dv) (hj : ¬ j < 0 ∧ j < zl) (i : Nat) (hi : j.toNatClampNeg = i) (hl : i < vs.length) {pc : Nat} {Ls : Array Slot} {rest : List Value} (hd : decode c.code pc = .ok (.bastore, 1)) :
    ∃ T' h', Stand p l e R s m args below meth c T' (locs ++ [⟨a, j.toNatClampNeg⟩]) cells slots ∧ T'.heap = h' ∧ Wr h h' a j.toNatClampNeg (.int (nar .boolean x)) ∧ Arv Z h' a kc .boolean zl (vs.set i (.int (nar .boolean x))) dv ∧ ∀ t, Steps p.tables e below (T'.setTop (mkF m (pc + 1) Ls rest)) t → Steps p.tables e below (T.setTop (mkF m pc Ls ((.int x) :: .int j :: .ref a :: rest))) t := by
  obtain ⟨cl, A, q1, S, N, H, G⟩ := V
  obtain ⟨T', h', X', e', W, st⟩ := stZ X hx hZ eT A (j := j) (x := x) (inb_of S hj) (g := mkF m pc Ls ((.int x) :: .int j :: .ref a :: rest)) rfl rfl hd
  exact ⟨T', h', X', e', W, Arv.set A q1 S N H G (fits_nar_bool x) W i hi hl, st⟩
theorem own_lastore {a : Addr} {kc : ClassId} {zl j : Int32} {x : Int64} {vs : List Value} {dv : Value} (X : Stand p l e R s m args below meth c T locs cells slots) (hx : p.tables.exec = Jvm.exec) (hZ : Z.Warmed39 s.vm) (eT : T.heap = h) (V : Arv Z h a kc .long zl vs dv) (hj : ¬ j < 0 ∧ j < zl) (i : Nat) (hi : j.toNatClampNeg = i) (hl : i < vs.length) {pc : Nat} {Ls : Array Slot} {rest : List Value} (hd : decode c.code pc = .ok (.lastore, 1)) :
    ∃ T' h', Stand p l e R s m args below meth c T' (locs ++ [⟨a, j.toNatClampNeg⟩]) cells slots ∧ T'.heap = h' ∧ Wr h h' a j.toNatClampNeg (.long x) ∧ Arv Z h' a kc .long zl (vs.set i (.long x)) dv ∧ ∀ t, Steps p.tables e below (T'.setTop (mkF m (pc + 1) Ls rest)) t → Steps p.tables e below (T.setTop (mkF m pc Ls ((.long x) :: .int j :: .ref a :: rest))) t := by
  obtain ⟨cl, A, q1, S, N, H, G⟩ := V
  obtain ⟨T', h', X', e', W, st⟩ := stJ X hx hZ eT A (j := j) (x := x) (inb_of S hj) (g := mkF m pc Ls ((.long x) :: .int j :: .ref a :: rest)) rfl rfl hd
  exact ⟨T', h', X', e', W, Arv.set A q1 S N H G rfl W i hi hl, st⟩
theorem own_if_pos {P : Prop} [Decidable P] {a b z : Int32} (h : P) (e : a = z) : (if P then a else b) = z := (if_pos h).trans e
theorem own_nar_ite {P : Prop} [Decidable P] : narrow .boolean (.int (if P then (1 : Int32) else (0 : Int32))) = .int (if P then (1 : Int32) else (0 : Int32)) := by split <;> rfl
theorem own_nar_ite' {P : Prop} [Decidable P] : narrow .boolean (.int (if P then (0 : Int32) else (1 : Int32))) = .int (if P then (0 : Int32) else (1 : Int32)) := by split <;> rfl
theorem own_nar_char (x : Int32) : nar .char x.toUInt32.toUInt16.toUInt32.toInt32 = x.toUInt32.toUInt16.toUInt32.toInt32 := by
  simp [nar]
  congr 1
  apply UInt32.toNat_inj.mp
  simp
theorem GoOn.retD {Q : Option Value → Heap → List Loc → Prop} {rc rs : Nat} (X : Stand p l e R s m args below meth c T locs cells slots) (hx : p.tables.exec = Jvm.exec) (hlk : meth.locks = false) {pc : Nat} {Ls : Array Slot} {z : UInt64} {rest : List Value} (hret : meth.sig.returnType = some .double) (hd : decode c.code pc = .ok (.dreturn, 1))
    (hq : Q (some (.double z)) T.heap locs) (hc : cells ≤ rc) (hs : slots ≤ rs) : GoOn p e below (OwPost Q s rc rs) (T.setTop (mkF m pc Ls (.double z :: rest))) :=
  GoOn.out X hlk (fun h => by rw [hret] at h; cases h) hq hc hs fun fs hr => retOut X hx hret rfl (Or.inr (Or.inr (Or.inl ⟨rfl, rfl, _, rfl⟩))) hd hr
theorem own_daload {a : Addr} {kc : ClassId} {zl j : Int32} {vs : List Value} {dv v : Value} (X : Stand p l e R s m args below meth c T locs cells slots) (hx : p.tables.exec = Jvm.exec) (hZ : Z.Warmed39 s.vm) (eT : T.heap = h) (V : Arv Z h a kc .double zl vs dv) (hj : ¬ j < 0 ∧ j < zl) (hv : vs.getD j.toNatClampNeg dv = v) {pc : Nat} {Ls : Array Slot} {rest : List Value} (hd : decode c.code pc = .ok (.daload, 1)) :
    ∀ t, Steps p.tables e below (T.setTop (mkF m (pc + 1) Ls (v :: rest))) t → Steps p.tables e below (T.setTop (mkF m pc Ls (.int j :: .ref a :: rest))) t := by
  obtain ⟨cl, A, -, S, N, H, -⟩ := V
  intro t k
  exact X.daload hx (j := j) (v := v) (by rw [eT]; exact A.1) (State.isArrayOf_alike hZ.alike A.2.1) A.2.2 (inb_of S hj) (H.at (inb_of S hj) hv) (g := mkF m pc Ls (.int j :: .ref a :: rest)) rfl rfl hd _ k
theorem own_dastore {a : Addr} {kc : ClassId} {zl j : Int32} {x : UInt64} {vs : List Value} {dv : Value} (X : Stand p l e R s m args below meth c T locs cells slots) (hx : p.tables.exec = Jvm.exec) (hZ : Z.Warmed39 s.vm) (eT : T.heap = h) (V : Arv Z h a kc .double zl vs dv) (hj : ¬ j < 0 ∧ j < zl) (i : Nat) (hi : j.toNatClampNeg = i) (hl : i < vs.length) {pc : Nat} {Ls : Array Slot} {rest : List Value} (hd : decode c.code pc = .ok (.dastore, 1)) :
    ∃ T' h', Stand p l e R s m args below meth c T' (locs ++ [⟨a, j.toNatClampNeg⟩]) cells slots ∧ T'.heap = h' ∧ Wr h h' a j.toNatClampNeg (.double x) ∧ Arv Z h' a kc .double zl (vs.set i (.double x)) dv ∧ ∀ t, Steps p.tables e below (T'.setTop (mkF m (pc + 1) Ls rest)) t → Steps p.tables e below (T.setTop (mkF m pc Ls (.double x :: .int j :: .ref a :: rest))) t := by
  obtain ⟨cl, A, q1, S, N, H, G⟩ := V
  obtain ⟨T', h', X', e', W, st⟩ := stD X hx hZ eT A (j := j) (x := x) (inb_of S hj) (g := mkF m pc Ls (.double x :: .int j :: .ref a :: rest)) rfl rfl hd
  exact ⟨T', h', X', e', W, Arv.set A q1 S N H G rfl W i hi hl, st⟩
theorem own_arv_out {a : Addr} {kc : ClassId} {ty : FieldType} {zl j : Int32} {vs : List Value} {dv v : Value} (V : Arv Z h a kc ty zl vs dv) (i : Nat) (hi : j.toNatClampNeg = i) (hj : ¬ j < 0) (hz : ¬ j < zl) : Arv Z h a kc ty zl (vs.set i v) dv := by
  obtain ⟨cl, A, q1, S, N, H, G⟩ := V
  have hlt : cl.slots.size ≤ i := by
    rw [S, ← hi]
    rw [Int32.lt_iff_toInt_lt] at hj hz N
    have e0 : (0 : Int32).toInt = 0 := rfl
    simp only [Int32.toNatClampNeg]; omega
  have e : ∀ x, x < cl.slots.size → (vs.set i v).getD x dv = vs.getD x dv := fun x hx => by
    simp only [List.getD_eq_getElem?_getD]
    rw [List.getElem?_set_ne (by omega)]
  exact ⟨cl, A, q1, S, N, fun x hx => by rw [e x hx]; exact H x hx, fun x hx => by rw [e x hx]; exact G x hx⟩
end Own
end Jvm.OwnKit
namespace Jvm.Pilot.@@N@@
open Jvm Jvm.ClassFile Sem Op Lib Jvm.Free Jvm.Stand Jvm.LawKit Jvm.RoadKit Jvm.OwnKit Bundle Jvm.Pilot.@@N@@.Jvm.D
theorem own_and3 (x : Int32) : x &&& (3 : Int32) = 0 ∨ x &&& (3 : Int32) = 1 ∨ x &&& (3 : Int32) = 2 ∨ x &&& (3 : Int32) = 3 := by
  have h : (x &&& 3).toBitVec.toNat < 4 := by
    rw [Int32.toBitVec_and, BitVec.toNat_and]
    exact Nat.and_lt_two_pow (n := 2) _ (by decide)
  have key : ∀ k : Nat, (x &&& 3).toBitVec.toNat = k → (x &&& 3) = Int32.ofBitVec (BitVec.ofNat 32 k) := fun k hk => by
    apply Int32.toBitVec.inj; apply BitVec.eq_of_toNat_eq
    rw [hk]; simp; omega
  generalize hk : (x &&& 3).toBitVec.toNat = k at h
  have := key k hk
  match k, h with
  | 0, _ => exact Or.inl this
  | 1, _ => exact Or.inr (Or.inl this)
  | 2, _ => exact Or.inr (Or.inr (Or.inl this))
  | 3, _ => exact Or.inr (Or.inr (Or.inr this))
def own_U (x : Int64) : Nat := x.toBitVec.toNat
theorem own_U_lt (x : Int64) : own_U x < 18446744073709551616 := x.toBitVec.isLt
theorem own_U_add (x y : Int64) : own_U (x + y) = (own_U x + own_U y) % 18446744073709551616 := by
  show (x + y).toBitVec.toNat = _
  rw [Int64.toBitVec_add, BitVec.toNat_add]; rfl
theorem own_U_mul (x y : Int64) : own_U (x * y) = (own_U x * own_U y) % 18446744073709551616 := by
  show (x * y).toBitVec.toNat = _
  rw [Int64.toBitVec_mul, BitVec.toNat_mul]; rfl
theorem own_U_not (x : Int64) : own_U (x ^^^ (-1 : Int64)) = 18446744073709551615 - own_U x := by
  show (x ^^^ (-1 : Int64)).toBitVec.toNat = _
  have : (x ^^^ (-1 : Int64)).toBitVec = ~~~ x.toBitVec := by simp
  rw [this, BitVec.toNat_not]; rfl
theorem own_U_neg (x : Int64) : own_U (-x) = (18446744073709551616 - own_U x) % 18446744073709551616 := by
  show (-x).toBitVec.toNat = _
  rw [Int64.toBitVec_neg, BitVec.toNat_neg]; rfl
theorem own_U_inj {x y : Int64} (h : own_U x = own_U y) : x = y := Int64.toBitVec.inj (BitVec.eq_of_toNat_eq h)
theorem own_U_zero : own_U 0 = 0 := rfl
theorem own_U_zero_iff (x : Int64) : x = 0 ↔ own_U x = 0 := ⟨fun h => by rw [h]; rfl, fun h => own_U_inj h⟩
theorem own_U_toInt (x : Int64) : x.toInt = if own_U x < 9223372036854775808 then (own_U x : Int) else (own_U x : Int) - 18446744073709551616 := by
  have h := own_U_lt x
  show x.toBitVec.toInt = _
  rw [BitVec.toInt_eq_toNat_cond]
  unfold own_U
  split <;> split <;> omega
theorem own_U_neg_iff (x : Int64) : x < 0 ↔ 9223372036854775808 ≤ own_U x := by
  rw [Int64.lt_iff_toInt_lt, Int64.toInt_zero, own_U_toInt]
  have h := own_U_lt x
  split <;> omega
theorem own_U_or_zero (x y : Int64) : (x ||| y) = 0 ↔ x = 0 ∧ y = 0 := by
  constructor
  · intro h
    have h2 : x.toBitVec ||| y.toBitVec = 0#64 := by rw [← Int64.toBitVec_or, h]; rfl
    have h3 : x.toBitVec.toNat ||| y.toBitVec.toNat = 0 := by rw [← BitVec.toNat_or, h2]; rfl
    have := Nat.or_eq_zero_iff.mp h3
    exact ⟨(own_U_zero_iff x).mpr this.1, (own_U_zero_iff y).mpr this.2⟩
  · rintro ⟨rfl, rfl⟩; rfl
theorem own_U_ushr63 (x : Int64) : own_U ((x.toUInt64 >>> ((63 : Int32) &&& 0x3f).toInt64.toUInt64).toInt64) = own_U x / 9223372036854775808 := by
  show (x.toUInt64 >>> (63 : UInt64)).toBitVec.toNat = _
  simp [UInt64.toBitVec_shiftRight, own_U, Nat.shiftRight_eq_div_pow]
theorem own_U_ushr32 (x : Int64) : own_U ((x.toUInt64 >>> ((32 : Int32) &&& 0x3f).toInt64.toUInt64).toInt64) = own_U x / 4294967296 := by
  show (x.toUInt64 >>> (32 : UInt64)).toBitVec.toNat = _
  simp [UInt64.toBitVec_shiftRight, own_U, Nat.shiftRight_eq_div_pow]
theorem own_msb_U (x : Int64) : x.toBitVec.msb = decide (9223372036854775808 ≤ own_U x) := by
  rw [BitVec.msb_eq_decide]; rfl
theorem own_U_carry (a b s : Int64) (c : Nat) (hc : c ≤ 1) (hs : own_U s = (own_U a + own_U b + c) % 18446744073709551616) : own_U ((((a &&& b) ||| ((a ||| b) &&& (s ^^^ (-1 : Int64)))).toUInt64 >>> ((63 : Int32) &&& 0x3f).toInt64.toUInt64).toInt64) = (own_U a + own_U b + c) / 18446744073709551616 := by
  rw [own_U_ushr63]
  have ha := own_U_lt a; have hb := own_U_lt b
  have hw := own_U_lt ((a &&& b) ||| ((a ||| b) &&& (s ^^^ (-1 : Int64))))
  have m := own_msb_U ((a &&& b) ||| ((a ||| b) &&& (s ^^^ (-1 : Int64))))
  have hx : (s ^^^ (-1 : Int64)).toBitVec.msb = !s.toBitVec.msb := by
    have : (s ^^^ (-1 : Int64)).toBitVec = ~~~ s.toBitVec := by simp
    rw [this, BitVec.msb_not]; simp
  rw [Int64.toBitVec_or, Int64.toBitVec_and, Int64.toBitVec_and, Int64.toBitVec_or, BitVec.msb_or, BitVec.msb_and, BitVec.msb_and, BitVec.msb_or, hx, own_msb_U a, own_msb_U b, own_msb_U s] at m
  generalize own_U ((a &&& b) ||| ((a ||| b) &&& (s ^^^ (-1 : Int64)))) = w at *
  by_cases h1 : 9223372036854775808 ≤ own_U a <;> by_cases h2 : 9223372036854775808 ≤ own_U b <;> by_cases h3 : 9223372036854775808 ≤ own_U s <;> simp [h1, h2, h3] at m <;> omega
theorem own_J_and32 (x : Int64) : (x &&& (4294967295 : Int64)).toInt = x.toInt % 4294967296 := by
  have h : own_U (x &&& (4294967295 : Int64)) = own_U x % 4294967296 := by
    show (x &&& (4294967295 : Int64)).toBitVec.toNat = _
    rw [Int64.toBitVec_and, BitVec.toNat_and]
    exact Nat.and_two_pow_sub_one_eq_mod (n := 32) _
  rw [own_U_toInt, h, own_U_toInt x]
  have := own_U_lt x
  rw [if_pos (by omega)]
  split <;> omega
theorem own_J_shr32 (x : Int64) : (x >>> ((32 : Int32) &&& 0x3f).toInt64).toInt = x.toInt / 4294967296 := by
  have h : (x >>> ((32 : Int32) &&& 0x3f).toInt64).toBitVec = x.toBitVec.sshiftRight 32 := by
    show (x >>> (32 : Int64)).toBitVec = _
    rw [Int64.toBitVec_shiftRight]; rfl
  show (x >>> ((32 : Int32) &&& 0x3f).toInt64).toBitVec.toInt = _
  rw [h, BitVec.toInt_sshiftRight, Int.shiftRight_eq_div_pow]; rfl
theorem own_toInt_add {x y : Int64} (h1 : -9223372036854775808 ≤ x.toInt + y.toInt) (h2 : x.toInt + y.toInt < 9223372036854775808) : (x + y).toInt = x.toInt + y.toInt := by
  rw [Int64.toInt_add]; exact Int.bmod_eq_of_le (by omega) (by omega)
theorem own_toInt_mul {x y : Int64} (h1 : -9223372036854775808 ≤ x.toInt * y.toInt) (h2 : x.toInt * y.toInt < 9223372036854775808) : (x * y).toInt = x.toInt * y.toInt := by
  rw [Int64.toInt_mul]; exact Int.bmod_eq_of_le (by omega) (by omega)
theorem own_mul_bd {x y A B : Int} (h1 : -A ≤ x) (h2 : x ≤ A) (h3 : 0 ≤ y) (h4 : y ≤ B) : -(A * B) ≤ x * y ∧ x * y ≤ A * B := by
  have hA : 0 ≤ A := by omega
  have e1 : x * y ≤ A * y := Int.mul_le_mul_of_nonneg_right h2 h3
  have e2 : (-A) * y ≤ x * y := Int.mul_le_mul_of_nonneg_right h1 h3
  have e3 : A * y ≤ A * B := Int.mul_le_mul_of_nonneg_left h4 hA
  rw [Int.neg_mul] at e2
  omega
theorem own_mul_bd3 {x y A A' B : Int} (h1 : -A ≤ x) (h2 : x ≤ A') (h3 : 0 ≤ y) (h4 : y ≤ B) (hA : 0 ≤ A) (hA' : 0 ≤ A') : -(A * B) ≤ x * y ∧ x * y ≤ A' * B := by
  have e1 : x * y ≤ A' * y := Int.mul_le_mul_of_nonneg_right h2 h3
  have e2 : (-A) * y ≤ x * y := Int.mul_le_mul_of_nonneg_right h1 h3
  have e3 : A * y ≤ A * B := Int.mul_le_mul_of_nonneg_left h4 hA
  have e4 : A' * y ≤ A' * B := Int.mul_le_mul_of_nonneg_left h4 hA'
  rw [Int.neg_mul] at e2
  omega
theorem own_mul_bd2 {x y A B : Int} (h1 : -A ≤ x) (h2 : x ≤ A) (h3 : -B ≤ y) (h4 : y ≤ B) : -(A * B) ≤ x * y ∧ x * y ≤ A * B := by
  by_cases h : 0 ≤ y
  · exact own_mul_bd h1 h2 h h4
  · have := own_mul_bd (x := x) (y := -y) h1 h2 (by omega) (B := B) (by omega)
    rw [Int.mul_neg] at this; omega
/-- what Math.multiplyHigh reckons -/
def own_mulh (x y : Int64) : Int64 :=
  let x1 := x >>> ((32 : Int32) &&& 0x3f).toInt64
  let x2 := x &&& (4294967295 : Int64)
  let y1 := y >>> ((32 : Int32) &&& 0x3f).toInt64
  let y2 := y &&& (4294967295 : Int64)
  let z2 := x2 * y2
  let t := x1 * y2 + (z2.toUInt64 >>> ((32 : Int32) &&& 0x3f).toInt64.toUInt64).toInt64
  let z1 := t &&& (4294967295 : Int64)
  let z0 := t >>> ((32 : Int32) &&& 0x3f).toInt64
  let z3 := z1 + x2 * y1
  x1 * y1 + z0 + (z3 >>> ((32 : Int32) &&& 0x3f).toInt64)
theorem own_mulh_toInt (x y : Int64) : (own_mulh x y).toInt = (x.toInt * y.toInt) / 18446744073709551616 := by
  have hx1 := Int64.le_toInt x; have hx2 := Int64.toInt_lt x; have hy1 := Int64.le_toInt y; have hy2 := Int64.toInt_lt y
  unfold own_mulh
  simp only
  generalize hX1 : x >>> ((32 : Int32) &&& 0x3f).toInt64 = x1
  generalize hX2 : x &&& (4294967295 : Int64) = x2
  generalize hY1 : y >>> ((32 : Int32) &&& 0x3f).toInt64 = y1
  generalize hY2 : y &&& (4294967295 : Int64) = y2
  have ex1 : x1.toInt = x.toInt / 4294967296 := by rw [← hX1, own_J_shr32]
  have ex2 : x2.toInt = x.toInt % 4294967296 := by rw [← hX2, own_J_and32]
  have ey1 : y1.toInt = y.toInt / 4294967296 := by rw [← hY1, own_J_shr32]
  have ey2 : y2.toInt = y.toInt % 4294967296 := by rw [← hY2, own_J_and32]
  have hx : x.toInt = x1.toInt * 4294967296 + x2.toInt := by omega
  have hy : y.toInt = y1.toInt * 4294967296 + y2.toInt := by omega
  have bx2 : 0 ≤ x2.toInt ∧ x2.toInt ≤ 4294967295 := by omega
  have by2 : 0 ≤ y2.toInt ∧ y2.toInt ≤ 4294967295 := by omega
  have bx1 : -2147483648 ≤ x1.toInt ∧ x1.toInt ≤ 2147483647 := by omega
  have by1 : -2147483648 ≤ y1.toInt ∧ y1.toInt ≤ 2147483647 := by omega
  have bq := own_mul_bd3 (x := x1.toInt) (y := y2.toInt) (A := 2147483648) (A' := 2147483647) (B := 4294967295) (by omega) (by omega) (by omega) (by omega) (by omega) (by omega)
  have br := own_mul_bd3 (x := y1.toInt) (y := x2.toInt) (A := 2147483648) (A' := 2147483647) (B := 4294967295) (by omega) (by omega) (by omega) (by omega) (by omega) (by omega)
  rw [Int.mul_comm y1.toInt] at br
  have bw := own_mul_bd (x := x2.toInt) (y := y2.toInt) (A := 4294967295) (B := 4294967295) (by omega) (by omega) (by omega) (by omega)
  have bw0 : 0 ≤ x2.toInt * y2.toInt := Int.mul_nonneg bx2.1 by2.1
  have bp := own_mul_bd2 (x := x1.toInt) (y := y1.toInt) (A := 2147483648) (B := 2147483648) (by omega) (by omega) (by omega) (by omega)
  have hU : (own_U (x2 * y2) : Int) = x2.toInt * y2.toInt := by
    have u1 : (own_U x2 : Int) = x2.toInt := by have := own_U_toInt x2; have := own_U_lt x2; split at * <;> omega
    have u2 : (own_U y2 : Int) = y2.toInt := by have := own_U_toInt y2; have := own_U_lt y2; split at * <;> omega
    rw [own_U_mul, ← u1, ← u2]
    rw [← u1, ← u2, ← Int.natCast_mul] at bw
    rw [← Int.natCast_mul]
    congr 1
    apply Nat.mod_eq_of_lt
    omega
  have hs : ((x2 * y2).toUInt64 >>> ((32 : Int32) &&& 0x3f).toInt64.toUInt64).toInt64.toInt = (x2.toInt * y2.toInt) / 4294967296 := by
    have := own_U_ushr32 (x2 * y2)
    have l := own_U_lt (x2 * y2)
    rw [own_U_toInt, this]
    rw [if_pos (by omega)]
    rw [← hU]; omega
  generalize ((x2 * y2).toUInt64 >>> ((32 : Int32) &&& 0x3f).toInt64.toUInt64).toInt64 = sh at hs ⊢
  have eq : (x1 * y2).toInt = x1.toInt * y2.toInt := own_toInt_mul (by omega) (by omega)
  have et : (x1 * y2 + sh).toInt = x1.toInt * y2.toInt + x2.toInt * y2.toInt / 4294967296 := by
    rw [own_toInt_add (by rw [eq, hs]; omega) (by rw [eq, hs]; omega), eq, hs]
  generalize x1 * y2 + sh = t at et ⊢
  have er : (x2 * y1).toInt = x2.toInt * y1.toInt := own_toInt_mul (by omega) (by omega)
  have ep : (x1 * y1).toInt = x1.toInt * y1.toInt := own_toInt_mul (by omega) (by omega)
  have ez1 : (t &&& (4294967295 : Int64)).toInt = t.toInt % 4294967296 := own_J_and32 t
  have ez0 : (t >>> ((32 : Int32) &&& 0x3f).toInt64).toInt = t.toInt / 4294967296 := own_J_shr32 t
  generalize t &&& (4294967295 : Int64) = z1 at ez1 ⊢
  generalize t >>> ((32 : Int32) &&& 0x3f).toInt64 = z0 at ez0 ⊢
  have ez3 : (z1 + x2 * y1).toInt = z1.toInt + x2.toInt * y1.toInt := by
    rw [own_toInt_add (by rw [er]; omega) (by rw [er]; omega), er]
  have ez4 : ((z1 + x2 * y1) >>> ((32 : Int32) &&& 0x3f).toInt64).toInt = (z1 + x2 * y1).toInt / 4294967296 := own_J_shr32 _
  generalize (z1 + x2 * y1) >>> ((32 : Int32) &&& 0x3f).toInt64 = z4 at ez4 ⊢
  rw [ez3] at ez4
  have hxy : x.toInt * y.toInt = x1.toInt * y1.toInt * 18446744073709551616 + (x1.toInt * y2.toInt + x2.toInt * y1.toInt) * 4294967296 + x2.toInt * y2.toInt := by
    rw [hx, hy]; grind
  rw [hxy]
  generalize x1.toInt * y1.toInt = p at *
  generalize x1.toInt * y2.toInt = q at *
  generalize x2.toInt * y1.toInt = r at *
  generalize x2.toInt * y2.toInt = w at *
  have e5 : (x1 * y1 + z0).toInt = p + z0.toInt := by rw [own_toInt_add (by rw [ep]; omega) (by rw [ep]; omega), ep]
  rw [own_toInt_add (by rw [e5]; omega) (by rw [e5]; omega), e5]
  omega
/-- what Int128.unsignedMultiplyHigh reckons -/
def own_umulh (a b : Int64) : Int64 := own_mulh a b + ((a >>> ((63 : Int32) &&& 0x3f).toInt64) &&& b) + ((b >>> ((63 : Int32) &&& 0x3f).toInt64) &&& a)
theorem own_J_shr63_and (a b : Int64) : own_U ((a >>> ((63 : Int32) &&& 0x3f).toInt64) &&& b) = if 9223372036854775808 ≤ own_U a then own_U b else 0 := by
  have h : (a >>> ((63 : Int32) &&& 0x3f).toInt64).toInt = a.toInt / 9223372036854775808 := by
    have h : (a >>> ((63 : Int32) &&& 0x3f).toInt64).toBitVec = a.toBitVec.sshiftRight 63 := by
      show (a >>> (63 : Int64)).toBitVec = _
      rw [Int64.toBitVec_shiftRight]; rfl
    show (a >>> ((63 : Int32) &&& 0x3f).toInt64).toBitVec.toInt = _
    rw [h, BitVec.toInt_sshiftRight, Int.shiftRight_eq_div_pow]; rfl
  have ha := own_U_toInt a; have l := own_U_lt a
  split
  · rename_i hn
    have : a >>> ((63 : Int32) &&& 0x3f).toInt64 = -1 := by
      rw [← Int64.toInt_inj, h]; show _ = (-1 : Int); rw [ha, if_neg (by omega)]; omega
    rw [this]
    show ((-1 : Int64) &&& b).toBitVec.toNat = _
    have : ((-1 : Int64) &&& b).toBitVec = b.toBitVec := by simp
    rw [this]; rfl
  · rename_i hn
    have : a >>> ((63 : Int32) &&& 0x3f).toInt64 = 0 := by
      rw [← Int64.toInt_inj, h]; show _ = (0 : Int); rw [ha, if_pos (by omega)]; omega
    rw [this]
    show ((0 : Int64) &&& b).toBitVec.toNat = _
    have : ((0 : Int64) &&& b).toBitVec = 0 := by simp
    rw [this]; rfl
theorem own_umulh_U (a b : Int64) : own_U (own_umulh a b) = own_U a * own_U b / 18446744073709551616 := by
  have hm := own_mulh_toInt a b
  have ha := own_U_toInt a; have hb := own_U_toInt b; have la := own_U_lt a; have lb := own_U_lt b
  unfold own_umulh
  rw [own_U_add, own_U_add, own_J_shr63_and, own_J_shr63_and]
  have hu := own_U_toInt (own_mulh a b); have lu := own_U_lt (own_mulh a b)
  have bd : own_U a * own_U b < 18446744073709551616 * 18446744073709551616 := Nat.mul_lt_mul'' la lb
  have e : a.toInt * b.toInt = (own_U a * own_U b : Nat) - 18446744073709551616 * ((if 9223372036854775808 ≤ own_U a then (own_U b : Int) else 0) + (if 9223372036854775808 ≤ own_U b then (own_U a : Int) else 0)) + (if 9223372036854775808 ≤ own_U a ∧ 9223372036854775808 ≤ own_U b then 18446744073709551616 * 18446744073709551616 else 0) := by
    rw [ha, hb]
    by_cases h1 : 9223372036854775808 ≤ own_U a <;> by_cases h2 : 9223372036854775808 ≤ own_U b
    · rw [if_neg (by omega), if_neg (by omega), if_pos h1, if_pos h2, if_pos ⟨h1, h2⟩]; push_cast; grind
    · rw [if_neg (by omega), if_pos (by omega), if_pos h1, if_neg h2, if_neg (by omega)]; push_cast; grind
    · rw [if_pos (by omega), if_neg (by omega), if_neg h1, if_pos h2, if_neg (by omega)]; push_cast; grind
    · rw [if_pos (by omega), if_pos (by omega), if_neg h1, if_neg h2, if_neg (by omega)]; push_cast; grind
  rw [e] at hm
  generalize own_U a * own_U b = w at *
  generalize own_U (own_mulh a b) = v at *
  by_cases h1 : 9223372036854775808 ≤ own_U a <;> by_cases h2 : 9223372036854775808 ≤ own_U b <;> simp only [h1, h2, if_true, if_false, and_self, and_true, and_false] at hm ⊢ <;> split at hu <;> omega
def own_carry (a b s : Int64) : Int64 := (((a &&& b) ||| ((a ||| b) &&& (s ^^^ (-1 : Int64)))).toUInt64 >>> ((63 : Int32) &&& 0x3f).toInt64.toUInt64).toInt64
theorem own_carry_U (a b s : Int64) (c : Nat) (hc : c ≤ 1) (hs : own_U s = (own_U a + own_U b + c) % 18446744073709551616) : own_U (own_carry a b s) = (own_U a + own_U b + c) / 18446744073709551616 := own_U_carry a b s c hc hs
theorem own_col (c k t : Int64) (hk : own_U k < 1000) : own_U (c + t) + 18446744073709551616 * own_U (k + own_carry c t (c + t)) = own_U c + 18446744073709551616 * own_U k + own_U t ∧ own_U (k + own_carry c t (c + t)) ≤ own_U k + 1 := by
  have h := own_carry_U c t (c + t) 0 (by omega) (by rw [own_U_add, Nat.add_zero])
  have e := own_U_add c t
  have e2 := own_U_add k (own_carry c t (c + t))
  have l1 := own_U_lt c; have l2 := own_U_lt t
  omega
theorem own_lohi (a b : Int64) : own_U (a * b) + 18446744073709551616 * own_U (own_umulh a b) = own_U a * own_U b := by
  rw [own_U_mul, own_umulh_U]; exact Nat.mod_add_div _ _
theorem own_mulh_pos {a b : Int64} (ha : own_U a ≤ 2305843009213693952) (hb : own_U b ≤ 2305843009213693952) : own_U (a * b) + 18446744073709551616 * own_U (own_mulh a b) = own_U a * own_U b ∧ own_U (own_mulh a b) ≤ 288230376151711744 := by
  have h := own_mulh_toInt a b
  have e1 := own_U_toInt a; have e2 := own_U_toInt b; have e3 := own_U_toInt (own_mulh a b); have l := own_U_lt (own_mulh a b)
  rw [if_pos (by omega)] at e1 e2
  have b1 : own_U a * own_U b ≤ 2305843009213693952 * 2305843009213693952 := Nat.mul_le_mul ha hb
  rw [e1, e2, ← Int.natCast_mul] at h
  rw [own_U_mul]
  generalize own_U a * own_U b = w at *
  split at e3 <;> omega
def own_V3 (a0 a1 a2 : Int64) : Nat := own_U a0 + 18446744073709551616 * own_U a1 + 340282366920938463463374607431768211456 * own_U a2
def own_P6 (p0 p1 p2 p3 p4 p5 : Int64) : Nat := own_U p0 + 18446744073709551616 * own_U p1 + 340282366920938463463374607431768211456 * own_U p2 + 6277101735386680763835789423207666416102355444464034512896 * own_U p3 + 115792089237316195423570985008687907853269984665640564039457584007913129639936 * own_U p4 + 2135987035920910082395021706169552114602704522356652769947041607822219725780640550022962086936576 * own_U p5
theorem own_exp33 (a0 a1 a2 b0 b1 b2 : Int64) : own_V3 a0 a1 a2 * own_V3 b0 b1 b2 = own_U a0 * own_U b0 + 18446744073709551616 * (own_U a0 * own_U b1 + own_U a1 * own_U b0) + 340282366920938463463374607431768211456 * (own_U a0 * own_U b2 + own_U a1 * own_U b1 + own_U a2 * own_U b0) + 6277101735386680763835789423207666416102355444464034512896 * (own_U a1 * own_U b2 + own_U a2 * own_U b1) + 115792089237316195423570985008687907853269984665640564039457584007913129639936 * (own_U a2 * own_U b2) := by
  unfold own_V3
  generalize own_U a0 = x0; generalize own_U a1 = x1; generalize own_U a2 = x2; generalize own_U b0 = y0; generalize own_U b1 = y1; generalize own_U b2 = y2
  grind
theorem own_sum6 {l0 l1 l2 l3 l4 l5 m0 m1 m2 m3 m4 m5 n : Int64} (hn : own_U n ≤ 1) {s0 s1 s2 s3 s4 s5 c0 c1 c2 c3 c4 : Int64} (h0 : s0 = l0 + m0 + n) (g0 : c0 = own_carry l0 m0 s0) (h1 : s1 = l1 + m1 + c0) (g1 : c1 = own_carry l1 m1 s1) (h2 : s2 = l2 + m2 + c1) (g2 : c2 = own_carry l2 m2 s2) (h3 : s3 = l3 + m3 + c2) (g3 : c3 = own_carry l3 m3 s3) (h4 : s4 = l4 + m4 + c3) (g4 : c4 = own_carry l4 m4 s4) (h5 : s5 = l5 + (m5 + c4)) :
    own_P6 s0 s1 s2 s3 s4 s5 = (own_P6 l0 l1 l2 l3 l4 l5 + own_P6 m0 m1 m2 m3 m4 m5 + own_U n) % 39402006196394479212279040100143613805079739270465446667948293404245721771497210611414266254884915640806627990306816 := by
  have step : ∀ {l m n s c : Int64}, own_U n ≤ 1 → s = l + m + n → c = own_carry l m s → own_U s + 18446744073709551616 * own_U c = own_U l + own_U m + own_U n ∧ own_U c ≤ 1 := by
    intro l m n s c hn hs hc
    have e : own_U s = (own_U l + own_U m + own_U n) % 18446744073709551616 := by rw [hs, own_U_add, own_U_add]; omega
    have := own_carry_U l m s (own_U n) hn e
    rw [← hc] at this
    have l1 := own_U_lt l; have l2 := own_U_lt m
    omega
  have q0 := step hn h0 g0
  have q1 := step q0.2 h1 g1
  have q2 := step q1.2 h2 g2
  have q3 := step q2.2 h3 g3
  have q4 := step q3.2 h4 g4
  have q5 : own_U s5 = (own_U l5 + own_U m5 + own_U c4) % 18446744073709551616 := by rw [h5, own_U_add, own_U_add]; omega
  have b0 := own_U_lt s0; have b1 := own_U_lt s1; have b2 := own_U_lt s2; have b3 := own_U_lt s3; have b4 := own_U_lt s4; have b5 := own_U_lt s5
  unfold own_P6
  omega
theorem own_flip6 (p0 p1 p2 p3 p4 p5 : Int64) : own_P6 (p0 ^^^ (-1 : Int64)) (p1 ^^^ (-1 : Int64)) (p2 ^^^ (-1 : Int64)) (p3 ^^^ (-1 : Int64)) (p4 ^^^ (-1 : Int64)) (p5 ^^^ (-1 : Int64)) + own_P6 p0 p1 p2 p3 p4 p5 + 1 = 39402006196394479212279040100143613805079739270465446667948293404245721771497210611414266254884915640806627990306816 := by
  unfold own_P6
  simp only [own_U_not]
  have b0 := own_U_lt p0; have b1 := own_U_lt p1; have b2 := own_U_lt p2; have b3 := own_U_lt p3; have b4 := own_U_lt p4; have b5 := own_U_lt p5
  omega
theorem own_xor0 (p : Int64) : p ^^^ (0 : Int64) = p := by simp
/-- the number that three longs hold -/
def own_S3 (t h l : Int64) : Int := t.toInt * 340282366920938463463374607431768211456 + own_U h * 18446744073709551616 + own_U l
def own_nh (h l : Int64) : Int64 := (h ^^^ (-1 : Int64)) + ((if l = (0 : Int64) then (1 : Int32) else (0 : Int32))).toInt64
theorem own_U_nh (h l : Int64) : own_U (own_nh h l) = (18446744073709551615 - own_U h + (if own_U l = 0 then 1 else 0)) % 18446744073709551616 := by
  unfold own_nh
  rw [own_U_add, own_U_not]
  by_cases q : l = 0
  · rw [if_pos q, if_pos ((own_U_zero_iff l).mp q)]; rfl
  · rw [if_neg q, if_neg (fun z => q ((own_U_zero_iff l).mpr z))]; rfl
theorem own_abs_pos {t h l : Int64} (ht : ¬ t < 0) : own_V3 l h t = (own_S3 t h l).natAbs := by
  have e := own_U_toInt t
  have q : own_U t < 9223372036854775808 := by
    by_cases z : 9223372036854775808 ≤ own_U t
    · exact absurd ((own_U_neg_iff t).mpr z) ht
    · omega
  rw [if_pos q] at e
  unfold own_S3 own_V3
  rw [e]; omega
theorem own_abs_neg {t h l : Int64} (ht : t < 0) : own_V3 (-l) (own_nh h l) ((t ^^^ (-1 : Int64)) + ((if (h ||| l) = (0 : Int64) then (1 : Int32) else (0 : Int32))).toInt64) = (own_S3 t h l).natAbs := by
  have e := own_U_toInt t
  have q := (own_U_neg_iff t).mp ht
  rw [if_neg (by omega)] at e
  have lt := own_U_lt t; have lh := own_U_lt h; have ll := own_U_lt l
  have k : own_U ((t ^^^ (-1 : Int64)) + ((if (h ||| l) = (0 : Int64) then (1 : Int32) else (0 : Int32))).toInt64) = 18446744073709551615 - own_U t + (if own_U h = 0 ∧ own_U l = 0 then 1 else 0) := by
    rw [own_U_add, own_U_not]
    by_cases z : (h ||| l) = 0
    · have w := (own_U_or_zero h l).mp z
      rw [if_pos z, if_pos ⟨(own_U_zero_iff h).mp w.1, (own_U_zero_iff l).mp w.2⟩]
      show (_ + 1) % _ = _
      omega
    · rw [if_neg z, if_neg (fun w => z ((own_U_or_zero h l).mpr ⟨(own_U_zero_iff h).mpr w.1, (own_U_zero_iff l).mpr w.2⟩))]
      show (_ + 0) % _ = _
      omega
  unfold own_S3 own_V3
  rw [k, own_U_nh, own_U_neg, e]
  by_cases z1 : own_U h = 0 <;> by_cases z2 : own_U l = 0 <;> simp only [z1, z2, if_true, if_false, and_self, and_true, and_false, true_and, false_and] <;> omega
theorem own_top_neg {t h l : Int64} (ht : t < 0) (hb : -2305843009213693952 ≤ t.toInt) : own_U ((t ^^^ (-1 : Int64)) + ((if (h ||| l) = (0 : Int64) then (1 : Int32) else (0 : Int32))).toInt64) ≤ 2305843009213693952 := by
  have e := own_U_toInt t
  have q := (own_U_neg_iff t).mp ht
  rw [if_neg (by omega)] at e
  have lt := own_U_lt t
  rw [own_U_add, own_U_not]
  have : own_U ((if (h ||| l) = (0 : Int64) then (1 : Int32) else (0 : Int32))).toInt64 ≤ 1 := by split <;> decide
  omega
theorem own_top_pos {t : Int64} (ht : ¬ t < 0) (hb : t.toInt ≤ 2305843009213693952) : own_U t ≤ 2305843009213693952 := by
  have e := own_U_toInt t; have := (own_U_neg_iff t); have l := own_U_lt t
  by_cases z : 9223372036854775808 ≤ own_U t
  · exact absurd (this.mpr z) ht
  · rw [if_pos (by omega)] at e; omega
def own_V2 (a0 a1 : Int64) : Nat := own_U a0 + 18446744073709551616 * own_U a1
theorem own_exp31 (a0 a1 a2 b0 : Int64) : own_V3 a0 a1 a2 * own_U b0 = own_U a0 * own_U b0 + 18446744073709551616 * (own_U a1 * own_U b0) + 340282366920938463463374607431768211456 * (own_U a2 * own_U b0) := by
  unfold own_V3
  generalize own_U a0 = x0; generalize own_U a1 = x1; generalize own_U a2 = x2; generalize own_U b0 = y0
  grind
theorem own_exp32 (a0 a1 a2 b0 b1 : Int64) : own_V3 a0 a1 a2 * own_V2 b0 b1 = own_U a0 * own_U b0 + 18446744073709551616 * (own_U a0 * own_U b1 + own_U a1 * own_U b0) + 340282366920938463463374607431768211456 * (own_U a1 * own_U b1 + own_U a2 * own_U b0) + 6277101735386680763835789423207666416102355444464034512896 * (own_U a2 * own_U b1) := by
  unfold own_V3 own_V2
  generalize own_U a0 = x0; generalize own_U a1 = x1; generalize own_U a2 = x2; generalize own_U b0 = y0; generalize own_U b1 = y1
  grind
theorem own_exp22 (a0 a1 b0 b1 : Int64) : own_V2 a0 a1 * own_V2 b0 b1 = own_U a0 * own_U b0 + 18446744073709551616 * (own_U a0 * own_U b1 + own_U a1 * own_U b0) + 340282366920938463463374607431768211456 * (own_U a1 * own_U b1) := by
  unfold own_V2
  generalize own_U a0 = x0; generalize own_U a1 = x1; generalize own_U b0 = y0; generalize own_U b1 = y1
  grind
theorem own_mul_bd4 (a b : Int64) : own_U a * own_U b ≤ 18446744073709551615 * 18446744073709551615 := Nat.mul_le_mul (Nat.le_of_lt_succ (own_U_lt a)) (Nat.le_of_lt_succ (own_U_lt b))
theorem own_mul_bd5 {a : Int64} (b : Int64) (h : own_U a ≤ 2305843009213693952) : own_U a * own_U b ≤ 2305843009213693952 * 18446744073709551615 := Nat.mul_le_mul h (Nat.le_of_lt_succ (own_U_lt b))
theorem own_V3_1 {b0 b1 b2 : Int64} (h : (b1 ||| b2) = 0) : own_V3 b0 b1 b2 = own_U b0 := by
  have w := (own_U_or_zero b1 b2).mp h
  rw [w.1, w.2]; unfold own_V3; rw [own_U_zero]; omega
theorem own_V3_2 {b0 b1 b2 : Int64} (h : b2 = 0) : own_V3 b0 b1 b2 = own_V2 b0 b1 := by rw [h]; unfold own_V3 own_V2; rw [own_U_zero]; omega
def own_I (Z : State) (h : Heap) (a : Addr) (v0 : Int64) (v1 : Int64) (v2 : Int64) (v3 : Int64) (v4 : Int64) (v5 : Int64) (v6 : Int64) (v7 : Int64) (v8 : Int64) (v9 : Int64) (v10 : Int64) (v11 : Int64) (v12 : Int64) (v13 : Int64) : Prop := Exa Z h a "com/example/nano_embed/nanoembed/geometry/Int384" ∧ Fld Z h a "com/example/nano_embed/nanoembed/geometry/Int384" "limb0" "J" (.long v0) ∧ Fld Z h a "com/example/nano_embed/nanoembed/geometry/Int384" "limb1" "J" (.long v1) ∧ Fld Z h a "com/example/nano_embed/nanoembed/geometry/Int384" "limb2" "J" (.long v2) ∧ Fld Z h a "com/example/nano_embed/nanoembed/geometry/Int384" "limb3" "J" (.long v3) ∧ Fld Z h a "com/example/nano_embed/nanoembed/geometry/Int384" "limb4" "J" (.long v4) ∧ Fld Z h a "com/example/nano_embed/nanoembed/geometry/Int384" "limb5" "J" (.long v5) ∧ Fld Z h a "com/example/nano_embed/nanoembed/geometry/Int384" "product0" "J" (.long v6) ∧ Fld Z h a "com/example/nano_embed/nanoembed/geometry/Int384" "product1" "J" (.long v7) ∧ Fld Z h a "com/example/nano_embed/nanoembed/geometry/Int384" "product2" "J" (.long v8) ∧ Fld Z h a "com/example/nano_embed/nanoembed/geometry/Int384" "product3" "J" (.long v9) ∧ Fld Z h a "com/example/nano_embed/nanoembed/geometry/Int384" "product4" "J" (.long v10) ∧ Fld Z h a "com/example/nano_embed/nanoembed/geometry/Int384" "product5" "J" (.long v11) ∧ Fld Z h a "com/example/nano_embed/nanoembed/geometry/Int384" "column" "J" (.long v12) ∧ Fld Z h a "com/example/nano_embed/nanoembed/geometry/Int384" "columnCarries" "J" (.long v13)
theorem own_I_exa {Z : State} {h : Heap} {a : Addr} {v0 : Int64} {v1 : Int64} {v2 : Int64} {v3 : Int64} {v4 : Int64} {v5 : Int64} {v6 : Int64} {v7 : Int64} {v8 : Int64} {v9 : Int64} {v10 : Int64} {v11 : Int64} {v12 : Int64} {v13 : Int64} (I : own_I Z h a v0 v1 v2 v3 v4 v5 v6 v7 v8 v9 v10 v11 v12 v13) : Exa Z h a "com/example/nano_embed/nanoembed/geometry/Int384" := I.1
theorem own_I_get_limb0 {Z : State} {h : Heap} {a : Addr} {v0 : Int64} {v1 : Int64} {v2 : Int64} {v3 : Int64} {v4 : Int64} {v5 : Int64} {v6 : Int64} {v7 : Int64} {v8 : Int64} {v9 : Int64} {v10 : Int64} {v11 : Int64} {v12 : Int64} {v13 : Int64} (I : own_I Z h a v0 v1 v2 v3 v4 v5 v6 v7 v8 v9 v10 v11 v12 v13) : Fld Z h a "com/example/nano_embed/nanoembed/geometry/Int384" "limb0" "J" (.long v0) := I.2.1
theorem own_I_get_limb1 {Z : State} {h : Heap} {a : Addr} {v0 : Int64} {v1 : Int64} {v2 : Int64} {v3 : Int64} {v4 : Int64} {v5 : Int64} {v6 : Int64} {v7 : Int64} {v8 : Int64} {v9 : Int64} {v10 : Int64} {v11 : Int64} {v12 : Int64} {v13 : Int64} (I : own_I Z h a v0 v1 v2 v3 v4 v5 v6 v7 v8 v9 v10 v11 v12 v13) : Fld Z h a "com/example/nano_embed/nanoembed/geometry/Int384" "limb1" "J" (.long v1) := I.2.2.1
theorem own_I_get_limb2 {Z : State} {h : Heap} {a : Addr} {v0 : Int64} {v1 : Int64} {v2 : Int64} {v3 : Int64} {v4 : Int64} {v5 : Int64} {v6 : Int64} {v7 : Int64} {v8 : Int64} {v9 : Int64} {v10 : Int64} {v11 : Int64} {v12 : Int64} {v13 : Int64} (I : own_I Z h a v0 v1 v2 v3 v4 v5 v6 v7 v8 v9 v10 v11 v12 v13) : Fld Z h a "com/example/nano_embed/nanoembed/geometry/Int384" "limb2" "J" (.long v2) := I.2.2.2.1
theorem own_I_get_limb3 {Z : State} {h : Heap} {a : Addr} {v0 : Int64} {v1 : Int64} {v2 : Int64} {v3 : Int64} {v4 : Int64} {v5 : Int64} {v6 : Int64} {v7 : Int64} {v8 : Int64} {v9 : Int64} {v10 : Int64} {v11 : Int64} {v12 : Int64} {v13 : Int64} (I : own_I Z h a v0 v1 v2 v3 v4 v5 v6 v7 v8 v9 v10 v11 v12 v13) : Fld Z h a "com/example/nano_embed/nanoembed/geometry/Int384" "limb3" "J" (.long v3) := I.2.2.2.2.1
theorem own_I_get_limb4 {Z : State} {h : Heap} {a : Addr} {v0 : Int64} {v1 : Int64} {v2 : Int64} {v3 : Int64} {v4 : Int64} {v5 : Int64} {v6 : Int64} {v7 : Int64} {v8 : Int64} {v9 : Int64} {v10 : Int64} {v11 : Int64} {v12 : Int64} {v13 : Int64} (I : own_I Z h a v0 v1 v2 v3 v4 v5 v6 v7 v8 v9 v10 v11 v12 v13) : Fld Z h a "com/example/nano_embed/nanoembed/geometry/Int384" "limb4" "J" (.long v4) := I.2.2.2.2.2.1
theorem own_I_get_limb5 {Z : State} {h : Heap} {a : Addr} {v0 : Int64} {v1 : Int64} {v2 : Int64} {v3 : Int64} {v4 : Int64} {v5 : Int64} {v6 : Int64} {v7 : Int64} {v8 : Int64} {v9 : Int64} {v10 : Int64} {v11 : Int64} {v12 : Int64} {v13 : Int64} (I : own_I Z h a v0 v1 v2 v3 v4 v5 v6 v7 v8 v9 v10 v11 v12 v13) : Fld Z h a "com/example/nano_embed/nanoembed/geometry/Int384" "limb5" "J" (.long v5) := I.2.2.2.2.2.2.1
theorem own_I_get_product0 {Z : State} {h : Heap} {a : Addr} {v0 : Int64} {v1 : Int64} {v2 : Int64} {v3 : Int64} {v4 : Int64} {v5 : Int64} {v6 : Int64} {v7 : Int64} {v8 : Int64} {v9 : Int64} {v10 : Int64} {v11 : Int64} {v12 : Int64} {v13 : Int64} (I : own_I Z h a v0 v1 v2 v3 v4 v5 v6 v7 v8 v9 v10 v11 v12 v13) : Fld Z h a "com/example/nano_embed/nanoembed/geometry/Int384" "product0" "J" (.long v6) := I.2.2.2.2.2.2.2.1
theorem own_I_get_product1 {Z : State} {h : Heap} {a : Addr} {v0 : Int64} {v1 : Int64} {v2 : Int64} {v3 : Int64} {v4 : Int64} {v5 : Int64} {v6 : Int64} {v7 : Int64} {v8 : Int64} {v9 : Int64} {v10 : Int64} {v11 : Int64} {v12 : Int64} {v13 : Int64} (I : own_I Z h a v0 v1 v2 v3 v4 v5 v6 v7 v8 v9 v10 v11 v12 v13) : Fld Z h a "com/example/nano_embed/nanoembed/geometry/Int384" "product1" "J" (.long v7) := I.2.2.2.2.2.2.2.2.1
theorem own_I_get_product2 {Z : State} {h : Heap} {a : Addr} {v0 : Int64} {v1 : Int64} {v2 : Int64} {v3 : Int64} {v4 : Int64} {v5 : Int64} {v6 : Int64} {v7 : Int64} {v8 : Int64} {v9 : Int64} {v10 : Int64} {v11 : Int64} {v12 : Int64} {v13 : Int64} (I : own_I Z h a v0 v1 v2 v3 v4 v5 v6 v7 v8 v9 v10 v11 v12 v13) : Fld Z h a "com/example/nano_embed/nanoembed/geometry/Int384" "product2" "J" (.long v8) := I.2.2.2.2.2.2.2.2.2.1
theorem own_I_get_product3 {Z : State} {h : Heap} {a : Addr} {v0 : Int64} {v1 : Int64} {v2 : Int64} {v3 : Int64} {v4 : Int64} {v5 : Int64} {v6 : Int64} {v7 : Int64} {v8 : Int64} {v9 : Int64} {v10 : Int64} {v11 : Int64} {v12 : Int64} {v13 : Int64} (I : own_I Z h a v0 v1 v2 v3 v4 v5 v6 v7 v8 v9 v10 v11 v12 v13) : Fld Z h a "com/example/nano_embed/nanoembed/geometry/Int384" "product3" "J" (.long v9) := I.2.2.2.2.2.2.2.2.2.2.1
theorem own_I_get_product4 {Z : State} {h : Heap} {a : Addr} {v0 : Int64} {v1 : Int64} {v2 : Int64} {v3 : Int64} {v4 : Int64} {v5 : Int64} {v6 : Int64} {v7 : Int64} {v8 : Int64} {v9 : Int64} {v10 : Int64} {v11 : Int64} {v12 : Int64} {v13 : Int64} (I : own_I Z h a v0 v1 v2 v3 v4 v5 v6 v7 v8 v9 v10 v11 v12 v13) : Fld Z h a "com/example/nano_embed/nanoembed/geometry/Int384" "product4" "J" (.long v10) := I.2.2.2.2.2.2.2.2.2.2.2.1
theorem own_I_get_product5 {Z : State} {h : Heap} {a : Addr} {v0 : Int64} {v1 : Int64} {v2 : Int64} {v3 : Int64} {v4 : Int64} {v5 : Int64} {v6 : Int64} {v7 : Int64} {v8 : Int64} {v9 : Int64} {v10 : Int64} {v11 : Int64} {v12 : Int64} {v13 : Int64} (I : own_I Z h a v0 v1 v2 v3 v4 v5 v6 v7 v8 v9 v10 v11 v12 v13) : Fld Z h a "com/example/nano_embed/nanoembed/geometry/Int384" "product5" "J" (.long v11) := I.2.2.2.2.2.2.2.2.2.2.2.2.1
theorem own_I_get_column {Z : State} {h : Heap} {a : Addr} {v0 : Int64} {v1 : Int64} {v2 : Int64} {v3 : Int64} {v4 : Int64} {v5 : Int64} {v6 : Int64} {v7 : Int64} {v8 : Int64} {v9 : Int64} {v10 : Int64} {v11 : Int64} {v12 : Int64} {v13 : Int64} (I : own_I Z h a v0 v1 v2 v3 v4 v5 v6 v7 v8 v9 v10 v11 v12 v13) : Fld Z h a "com/example/nano_embed/nanoembed/geometry/Int384" "column" "J" (.long v12) := I.2.2.2.2.2.2.2.2.2.2.2.2.2.1
theorem own_I_get_columnCarries {Z : State} {h : Heap} {a : Addr} {v0 : Int64} {v1 : Int64} {v2 : Int64} {v3 : Int64} {v4 : Int64} {v5 : Int64} {v6 : Int64} {v7 : Int64} {v8 : Int64} {v9 : Int64} {v10 : Int64} {v11 : Int64} {v12 : Int64} {v13 : Int64} (I : own_I Z h a v0 v1 v2 v3 v4 v5 v6 v7 v8 v9 v10 v11 v12 v13) : Fld Z h a "com/example/nano_embed/nanoembed/geometry/Int384" "columnCarries" "J" (.long v13) := I.2.2.2.2.2.2.2.2.2.2.2.2.2.2
theorem own_I_put_limb0 {Z : State} {h : Heap} {a : Addr} {v0 : Int64} {v1 : Int64} {v2 : Int64} {v3 : Int64} {v4 : Int64} {v5 : Int64} {v6 : Int64} {v7 : Int64} {v8 : Int64} {v9 : Int64} {v10 : Int64} {v11 : Int64} {v12 : Int64} {v13 : Int64} {h' : Heap} {a0 : Array Value} {w : Int64} (hw : ∀ d ∈ tables_1, d.before a0 Z = true) (W : Wr h h' a (Jvm.RoadKit.slotOf Z "com/example/nano_embed/nanoembed/geometry/Int384" "limb0" "J") (.long w)) (I : own_I Z h a v0 v1 v2 v3 v4 v5 v6 v7 v8 v9 v10 v11 v12 v13) : own_I Z h' a w v1 v2 v3 v4 v5 v6 v7 v8 v9 v10 v11 v12 v13 := ⟨Exa.wr W I.1, Fld.same W I.2.1, Fld.other W I.2.2.1 (Or.inr (slot_ne (Or.inl (hw _ (List.mem_of_getElem? (i := 12) rfl))) (Or.inl (hw _ (List.mem_of_getElem? (i := 10) rfl))) (by decide) (t := .long) (t' := .long) (by decide) (by decide))), Fld.other W I.2.2.2.1 (Or.inr (slot_ne (Or.inl (hw _ (List.mem_of_getElem? (i := 14) rfl))) (Or.inl (hw _ (List.mem_of_getElem? (i := 10) rfl))) (by decide) (t := .long) (t' := .long) (by decide) (by decide))), Fld.other W I.2.2.2.2.1 (Or.inr (slot_ne (Or.inl (hw _ (List.mem_of_getElem? (i := 16) rfl))) (Or.inl (hw _ (List.mem_of_getElem? (i := 10) rfl))) (by decide) (t := .long) (t' := .long) (by decide) (by decide))), Fld.other W I.2.2.2.2.2.1 (Or.inr (slot_ne (Or.inl (hw _ (List.mem_of_getElem? (i := 18) rfl))) (Or.inl (hw _ (List.mem_of_getElem? (i := 10) rfl))) (by decide) (t := .long) (t' := .long) (by decide) (by decide))), Fld.other W I.2.2.2.2.2.2.1 (Or.inr (slot_ne (Or.inl (hw _ (List.mem_of_getElem? (i := 20) rfl))) (Or.inl (hw _ (List.mem_of_getElem? (i := 10) rfl))) (by decide) (t := .long) (t' := .long) (by decide) (by decide))), Fld.other W I.2.2.2.2.2.2.2.1 (Or.inr (slot_ne (Or.inl (hw _ (List.mem_of_getElem? (i := 49) rfl))) (Or.inl (hw _ (List.mem_of_getElem? (i := 10) rfl))) (by decide) (t := .long) (t' := .long) (by decide) (by decide))), Fld.other W I.2.2.2.2.2.2.2.2.1 (Or.inr (slot_ne (Or.inl (hw _ (List.mem_of_getElem? (i := 74) rfl))) (Or.inl (hw _ (List.mem_of_getElem? (i := 10) rfl))) (by decide) (t := .long) (t' := .long) (by decide) (by decide))), Fld.other W I.2.2.2.2.2.2.2.2.2.1 (Or.inr (slot_ne (Or.inl (hw _ (List.mem_of_getElem? (i := 76) rfl))) (Or.inl (hw _ (List.mem_of_getElem? (i := 10) rfl))) (by decide) (t := .long) (t' := .long) (by decide) (by decide))), Fld.other W I.2.2.2.2.2.2.2.2.2.2.1 (Or.inr (slot_ne (Or.inl (hw _ (List.mem_of_getElem? (i := 78) rfl))) (Or.inl (hw _ (List.mem_of_getElem? (i := 10) rfl))) (by decide) (t := .long) (t' := .long) (by decide) (by decide))), Fld.other W I.2.2.2.2.2.2.2.2.2.2.2.1 (Or.inr (slot_ne (Or.inl (hw _ (List.mem_of_getElem? (i := 80) rfl))) (Or.inl (hw _ (List.mem_of_getElem? (i := 10) rfl))) (by decide) (t := .long) (t' := .long) (by decide) (by decide))), Fld.other W I.2.2.2.2.2.2.2.2.2.2.2.2.1 (Or.inr (slot_ne (Or.inl (hw _ (List.mem_of_getElem? (i := 87) rfl))) (Or.inl (hw _ (List.mem_of_getElem? (i := 10) rfl))) (by decide) (t := .long) (t' := .long) (by decide) (by decide))), Fld.other W I.2.2.2.2.2.2.2.2.2.2.2.2.2.1 (Or.inr (slot_ne (Or.inl (hw _ (List.mem_of_getElem? (i := 59) rfl))) (Or.inl (hw _ (List.mem_of_getElem? (i := 10) rfl))) (by decide) (t := .long) (t' := .long) (by decide) (by decide))), Fld.other W I.2.2.2.2.2.2.2.2.2.2.2.2.2.2 (Or.inr (slot_ne (Or.inl (hw _ (List.mem_of_getElem? (i := 65) rfl))) (Or.inl (hw _ (List.mem_of_getElem? (i := 10) rfl))) (by decide) (t := .long) (t' := .long) (by decide) (by decide)))⟩
theorem own_I_put_limb1 {Z : State} {h : Heap} {a : Addr} {v0 : Int64} {v1 : Int64} {v2 : Int64} {v3 : Int64} {v4 : Int64} {v5 : Int64} {v6 : Int64} {v7 : Int64} {v8 : Int64} {v9 : Int64} {v10 : Int64} {v11 : Int64} {v12 : Int64} {v13 : Int64} {h' : Heap} {a0 : Array Value} {w : Int64} (hw : ∀ d ∈ tables_1, d.before a0 Z = true) (W : Wr h h' a (Jvm.RoadKit.slotOf Z "com/example/nano_embed/nanoembed/geometry/Int384" "limb1" "J") (.long w)) (I : own_I Z h a v0 v1 v2 v3 v4 v5 v6 v7 v8 v9 v10 v11 v12 v13) : own_I Z h' a v0 w v2 v3 v4 v5 v6 v7 v8 v9 v10 v11 v12 v13 := ⟨Exa.wr W I.1, Fld.other W I.2.1 (Or.inr (slot_ne (Or.inl (hw _ (List.mem_of_getElem? (i := 10) rfl))) (Or.inl (hw _ (List.mem_of_getElem? (i := 12) rfl))) (by decide) (t := .long) (t' := .long) (by decide) (by decide))), Fld.same W I.2.2.1, Fld.other W I.2.2.2.1 (Or.inr (slot_ne (Or.inl (hw _ (List.mem_of_getElem? (i := 14) rfl))) (Or.inl (hw _ (List.mem_of_getElem? (i := 12) rfl))) (by decide) (t := .long) (t' := .long) (by decide) (by decide))), Fld.other W I.2.2.2.2.1 (Or.inr (slot_ne (Or.inl (hw _ (List.mem_of_getElem? (i := 16) rfl))) (Or.inl (hw _ (List.mem_of_getElem? (i := 12) rfl))) (by decide) (t := .long) (t' := .long) (by decide) (by decide))), Fld.other W I.2.2.2.2.2.1 (Or.inr (slot_ne (Or.inl (hw _ (List.mem_of_getElem? (i := 18) rfl))) (Or.inl (hw _ (List.mem_of_getElem? (i := 12) rfl))) (by decide) (t := .long) (t' := .long) (by decide) (by decide))), Fld.other W I.2.2.2.2.2.2.1 (Or.inr (slot_ne (Or.inl (hw _ (List.mem_of_getElem? (i := 20) rfl))) (Or.inl (hw _ (List.mem_of_getElem? (i := 12) rfl))) (by decide) (t := .long) (t' := .long) (by decide) (by decide))), Fld.other W I.2.2.2.2.2.2.2.1 (Or.inr (slot_ne (Or.inl (hw _ (List.mem_of_getElem? (i := 49) rfl))) (Or.inl (hw _ (List.mem_of_getElem? (i := 12) rfl))) (by decide) (t := .long) (t' := .long) (by decide) (by decide))), Fld.other W I.2.2.2.2.2.2.2.2.1 (Or.inr (slot_ne (Or.inl (hw _ (List.mem_of_getElem? (i := 74) rfl))) (Or.inl (hw _ (List.mem_of_getElem? (i := 12) rfl))) (by decide) (t := .long) (t' := .long) (by decide) (by decide))), Fld.other W I.2.2.2.2.2.2.2.2.2.1 (Or.inr (slot_ne (Or.inl (hw _ (List.mem_of_getElem? (i := 76) rfl))) (Or.inl (hw _ (List.mem_of_getElem? (i := 12) rfl))) (by decide) (t := .long) (t' := .long) (by decide) (by decide))), Fld.other W I.2.2.2.2.2.2.2.2.2.2.1 (Or.inr (slot_ne (Or.inl (hw _ (List.mem_of_getElem? (i := 78) rfl))) (Or.inl (hw _ (List.mem_of_getElem? (i := 12) rfl))) (by decide) (t := .long) (t' := .long) (by decide) (by decide))), Fld.other W I.2.2.2.2.2.2.2.2.2.2.2.1 (Or.inr (slot_ne (Or.inl (hw _ (List.mem_of_getElem? (i := 80) rfl))) (Or.inl (hw _ (List.mem_of_getElem? (i := 12) rfl))) (by decide) (t := .long) (t' := .long) (by decide) (by decide))), Fld.other W I.2.2.2.2.2.2.2.2.2.2.2.2.1 (Or.inr (slot_ne (Or.inl (hw _ (List.mem_of_getElem? (i := 87) rfl))) (Or.inl (hw _ (List.mem_of_getElem? (i := 12) rfl))) (by decide) (t := .long) (t' := .long) (by decide) (by decide))), Fld.other W I.2.2.2.2.2.2.2.2.2.2.2.2.2.1 (Or.inr (slot_ne (Or.inl (hw _ (List.mem_of_getElem? (i := 59) rfl))) (Or.inl (hw _ (List.mem_of_getElem? (i := 12) rfl))) (by decide) (t := .long) (t' := .long) (by decide) (by decide))), Fld.other W I.2.2.2.2.2.2.2.2.2.2.2.2.2.2 (Or.inr (slot_ne (Or.inl (hw _ (List.mem_of_getElem? (i := 65) rfl))) (Or.inl (hw _ (List.mem_of_getElem? (i := 12) rfl))) (by decide) (t := .long) (t' := .long) (by decide) (by decide)))⟩
theorem own_I_put_limb2 {Z : State} {h : Heap} {a : Addr} {v0 : Int64} {v1 : Int64} {v2 : Int64} {v3 : Int64} {v4 : Int64} {v5 : Int64} {v6 : Int64} {v7 : Int64} {v8 : Int64} {v9 : Int64} {v10 : Int64} {v11 : Int64} {v12 : Int64} {v13 : Int64} {h' : Heap} {a0 : Array Value} {w : Int64} (hw : ∀ d ∈ tables_1, d.before a0 Z = true) (W : Wr h h' a (Jvm.RoadKit.slotOf Z "com/example/nano_embed/nanoembed/geometry/Int384" "limb2" "J") (.long w)) (I : own_I Z h a v0 v1 v2 v3 v4 v5 v6 v7 v8 v9 v10 v11 v12 v13) : own_I Z h' a v0 v1 w v3 v4 v5 v6 v7 v8 v9 v10 v11 v12 v13 := ⟨Exa.wr W I.1, Fld.other W I.2.1 (Or.inr (slot_ne (Or.inl (hw _ (List.mem_of_getElem? (i := 10) rfl))) (Or.inl (hw _ (List.mem_of_getElem? (i := 14) rfl))) (by decide) (t := .long) (t' := .long) (by decide) (by decide))), Fld.other W I.2.2.1 (Or.inr (slot_ne (Or.inl (hw _ (List.mem_of_getElem? (i := 12) rfl))) (Or.inl (hw _ (List.mem_of_getElem? (i := 14) rfl))) (by decide) (t := .long) (t' := .long) (by decide) (by decide))), Fld.same W I.2.2.2.1, Fld.other W I.2.2.2.2.1 (Or.inr (slot_ne (Or.inl (hw _ (List.mem_of_getElem? (i := 16) rfl))) (Or.inl (hw _ (List.mem_of_getElem? (i := 14) rfl))) (by decide) (t := .long) (t' := .long) (by decide) (by decide))), Fld.other W I.2.2.2.2.2.1 (Or.inr (slot_ne (Or.inl (hw _ (List.mem_of_getElem? (i := 18) rfl))) (Or.inl (hw _ (List.mem_of_getElem? (i := 14) rfl))) (by decide) (t := .long) (t' := .long) (by decide) (by decide))), Fld.other W I.2.2.2.2.2.2.1 (Or.inr (slot_ne (Or.inl (hw _ (List.mem_of_getElem? (i := 20) rfl))) (Or.inl (hw _ (List.mem_of_getElem? (i := 14) rfl))) (by decide) (t := .long) (t' := .long) (by decide) (by decide))), Fld.other W I.2.2.2.2.2.2.2.1 (Or.inr (slot_ne (Or.inl (hw _ (List.mem_of_getElem? (i := 49) rfl))) (Or.inl (hw _ (List.mem_of_getElem? (i := 14) rfl))) (by decide) (t := .long) (t' := .long) (by decide) (by decide))), Fld.other W I.2.2.2.2.2.2.2.2.1 (Or.inr (slot_ne (Or.inl (hw _ (List.mem_of_getElem? (i := 74) rfl))) (Or.inl (hw _ (List.mem_of_getElem? (i := 14) rfl))) (by decide) (t := .long) (t' := .long) (by decide) (by decide))), Fld.other W I.2.2.2.2.2.2.2.2.2.1 (Or.inr (slot_ne (Or.inl (hw _ (List.mem_of_getElem? (i := 76) rfl))) (Or.inl (hw _ (List.mem_of_getElem? (i := 14) rfl))) (by decide) (t := .long) (t' := .long) (by decide) (by decide))), Fld.other W I.2.2.2.2.2.2.2.2.2.2.1 (Or.inr (slot_ne (Or.inl (hw _ (List.mem_of_getElem? (i := 78) rfl))) (Or.inl (hw _ (List.mem_of_getElem? (i := 14) rfl))) (by decide) (t := .long) (t' := .long) (by decide) (by decide))), Fld.other W I.2.2.2.2.2.2.2.2.2.2.2.1 (Or.inr (slot_ne (Or.inl (hw _ (List.mem_of_getElem? (i := 80) rfl))) (Or.inl (hw _ (List.mem_of_getElem? (i := 14) rfl))) (by decide) (t := .long) (t' := .long) (by decide) (by decide))), Fld.other W I.2.2.2.2.2.2.2.2.2.2.2.2.1 (Or.inr (slot_ne (Or.inl (hw _ (List.mem_of_getElem? (i := 87) rfl))) (Or.inl (hw _ (List.mem_of_getElem? (i := 14) rfl))) (by decide) (t := .long) (t' := .long) (by decide) (by decide))), Fld.other W I.2.2.2.2.2.2.2.2.2.2.2.2.2.1 (Or.inr (slot_ne (Or.inl (hw _ (List.mem_of_getElem? (i := 59) rfl))) (Or.inl (hw _ (List.mem_of_getElem? (i := 14) rfl))) (by decide) (t := .long) (t' := .long) (by decide) (by decide))), Fld.other W I.2.2.2.2.2.2.2.2.2.2.2.2.2.2 (Or.inr (slot_ne (Or.inl (hw _ (List.mem_of_getElem? (i := 65) rfl))) (Or.inl (hw _ (List.mem_of_getElem? (i := 14) rfl))) (by decide) (t := .long) (t' := .long) (by decide) (by decide)))⟩
theorem own_I_put_limb3 {Z : State} {h : Heap} {a : Addr} {v0 : Int64} {v1 : Int64} {v2 : Int64} {v3 : Int64} {v4 : Int64} {v5 : Int64} {v6 : Int64} {v7 : Int64} {v8 : Int64} {v9 : Int64} {v10 : Int64} {v11 : Int64} {v12 : Int64} {v13 : Int64} {h' : Heap} {a0 : Array Value} {w : Int64} (hw : ∀ d ∈ tables_1, d.before a0 Z = true) (W : Wr h h' a (Jvm.RoadKit.slotOf Z "com/example/nano_embed/nanoembed/geometry/Int384" "limb3" "J") (.long w)) (I : own_I Z h a v0 v1 v2 v3 v4 v5 v6 v7 v8 v9 v10 v11 v12 v13) : own_I Z h' a v0 v1 v2 w v4 v5 v6 v7 v8 v9 v10 v11 v12 v13 := ⟨Exa.wr W I.1, Fld.other W I.2.1 (Or.inr (slot_ne (Or.inl (hw _ (List.mem_of_getElem? (i := 10) rfl))) (Or.inl (hw _ (List.mem_of_getElem? (i := 16) rfl))) (by decide) (t := .long) (t' := .long) (by decide) (by decide))), Fld.other W I.2.2.1 (Or.inr (slot_ne (Or.inl (hw _ (List.mem_of_getElem? (i := 12) rfl))) (Or.inl (hw _ (List.mem_of_getElem? (i := 16) rfl))) (by decide) (t := .long) (t' := .long) (by decide) (by decide))), Fld.other W I.2.2.2.1 (Or.inr (slot_ne (Or.inl (hw _ (List.mem_of_getElem? (i := 14) rfl))) (Or.inl (hw _ (List.mem_of_getElem? (i := 16) rfl))) (by decide) (t := .long) (t' := .long) (by decide) (by decide))), Fld.same W I.2.2.2.2.1, Fld.other W I.2.2.2.2.2.1 (Or.inr (slot_ne (Or.inl (hw _ (List.mem_of_getElem? (i := 18) rfl))) (Or.inl (hw _ (List.mem_of_getElem? (i := 16) rfl))) (by decide) (t := .long) (t' := .long) (by decide) (by decide))), Fld.other W I.2.2.2.2.2.2.1 (Or.inr (slot_ne (Or.inl (hw _ (List.mem_of_getElem? (i := 20) rfl))) (Or.inl (hw _ (List.mem_of_getElem? (i := 16) rfl))) (by decide) (t := .long) (t' := .long) (by decide) (by decide))), Fld.other W I.2.2.2.2.2.2.2.1 (Or.inr (slot_ne (Or.inl (hw _ (List.mem_of_getElem? (i := 49) rfl))) (Or.inl (hw _ (List.mem_of_getElem? (i := 16) rfl))) (by decide) (t := .long) (t' := .long) (by decide) (by decide))), Fld.other W I.2.2.2.2.2.2.2.2.1 (Or.inr (slot_ne (Or.inl (hw _ (List.mem_of_getElem? (i := 74) rfl))) (Or.inl (hw _ (List.mem_of_getElem? (i := 16) rfl))) (by decide) (t := .long) (t' := .long) (by decide) (by decide))), Fld.other W I.2.2.2.2.2.2.2.2.2.1 (Or.inr (slot_ne (Or.inl (hw _ (List.mem_of_getElem? (i := 76) rfl))) (Or.inl (hw _ (List.mem_of_getElem? (i := 16) rfl))) (by decide) (t := .long) (t' := .long) (by decide) (by decide))), Fld.other W I.2.2.2.2.2.2.2.2.2.2.1 (Or.inr (slot_ne (Or.inl (hw _ (List.mem_of_getElem? (i := 78) rfl))) (Or.inl (hw _ (List.mem_of_getElem? (i := 16) rfl))) (by decide) (t := .long) (t' := .long) (by decide) (by decide))), Fld.other W I.2.2.2.2.2.2.2.2.2.2.2.1 (Or.inr (slot_ne (Or.inl (hw _ (List.mem_of_getElem? (i := 80) rfl))) (Or.inl (hw _ (List.mem_of_getElem? (i := 16) rfl))) (by decide) (t := .long) (t' := .long) (by decide) (by decide))), Fld.other W I.2.2.2.2.2.2.2.2.2.2.2.2.1 (Or.inr (slot_ne (Or.inl (hw _ (List.mem_of_getElem? (i := 87) rfl))) (Or.inl (hw _ (List.mem_of_getElem? (i := 16) rfl))) (by decide) (t := .long) (t' := .long) (by decide) (by decide))), Fld.other W I.2.2.2.2.2.2.2.2.2.2.2.2.2.1 (Or.inr (slot_ne (Or.inl (hw _ (List.mem_of_getElem? (i := 59) rfl))) (Or.inl (hw _ (List.mem_of_getElem? (i := 16) rfl))) (by decide) (t := .long) (t' := .long) (by decide) (by decide))), Fld.other W I.2.2.2.2.2.2.2.2.2.2.2.2.2.2 (Or.inr (slot_ne (Or.inl (hw _ (List.mem_of_getElem? (i := 65) rfl))) (Or.inl (hw _ (List.mem_of_getElem? (i := 16) rfl))) (by decide) (t := .long) (t' := .long) (by decide) (by decide)))⟩
theorem own_I_put_limb4 {Z : State} {h : Heap} {a : Addr} {v0 : Int64} {v1 : Int64} {v2 : Int64} {v3 : Int64} {v4 : Int64} {v5 : Int64} {v6 : Int64} {v7 : Int64} {v8 : Int64} {v9 : Int64} {v10 : Int64} {v11 : Int64} {v12 : Int64} {v13 : Int64} {h' : Heap} {a0 : Array Value} {w : Int64} (hw : ∀ d ∈ tables_1, d.before a0 Z = true) (W : Wr h h' a (Jvm.RoadKit.slotOf Z "com/example/nano_embed/nanoembed/geometry/Int384" "limb4" "J") (.long w)) (I : own_I Z h a v0 v1 v2 v3 v4 v5 v6 v7 v8 v9 v10 v11 v12 v13) : own_I Z h' a v0 v1 v2 v3 w v5 v6 v7 v8 v9 v10 v11 v12 v13 := ⟨Exa.wr W I.1, Fld.other W I.2.1 (Or.inr (slot_ne (Or.inl (hw _ (List.mem_of_getElem? (i := 10) rfl))) (Or.inl (hw _ (List.mem_of_getElem? (i := 18) rfl))) (by decide) (t := .long) (t' := .long) (by decide) (by decide))), Fld.other W I.2.2.1 (Or.inr (slot_ne (Or.inl (hw _ (List.mem_of_getElem? (i := 12) rfl))) (Or.inl (hw _ (List.mem_of_getElem? (i := 18) rfl))) (by decide) (t := .long) (t' := .long) (by decide) (by decide))), Fld.other W I.2.2.2.1 (Or.inr (slot_ne (Or.inl (hw _ (List.mem_of_getElem? (i := 14) rfl))) (Or.inl (hw _ (List.mem_of_getElem? (i := 18) rfl))) (by decide) (t := .long) (t' := .long) (by decide) (by decide))), Fld.other W I.2.2.2.2.1 (Or.inr (slot_ne (Or.inl (hw _ (List.mem_of_getElem? (i := 16) rfl))) (Or.inl (hw _ (List.mem_of_getElem? (i := 18) rfl))) (by decide) (t := .long) (t' := .long) (by decide) (by decide))), Fld.same W I.2.2.2.2.2.1, Fld.other W I.2.2.2.2.2.2.1 (Or.inr (slot_ne (Or.inl (hw _ (List.mem_of_getElem? (i := 20) rfl))) (Or.inl (hw _ (List.mem_of_getElem? (i := 18) rfl))) (by decide) (t := .long) (t' := .long) (by decide) (by decide))), Fld.other W I.2.2.2.2.2.2.2.1 (Or.inr (slot_ne (Or.inl (hw _ (List.mem_of_getElem? (i := 49) rfl))) (Or.inl (hw _ (List.mem_of_getElem? (i := 18) rfl))) (by decide) (t := .long) (t' := .long) (by decide) (by decide))), Fld.other W I.2.2.2.2.2.2.2.2.1 (Or.inr (slot_ne (Or.inl (hw _ (List.mem_of_getElem? (i := 74) rfl))) (Or.inl (hw _ (List.mem_of_getElem? (i := 18) rfl))) (by decide) (t := .long) (t' := .long) (by decide) (by decide))), Fld.other W I.2.2.2.2.2.2.2.2.2.1 (Or.inr (slot_ne (Or.inl (hw _ (List.mem_of_getElem? (i := 76) rfl))) (Or.inl (hw _ (List.mem_of_getElem? (i := 18) rfl))) (by decide) (t := .long) (t' := .long) (by decide) (by decide))), Fld.other W I.2.2.2.2.2.2.2.2.2.2.1 (Or.inr (slot_ne (Or.inl (hw _ (List.mem_of_getElem? (i := 78) rfl))) (Or.inl (hw _ (List.mem_of_getElem? (i := 18) rfl))) (by decide) (t := .long) (t' := .long) (by decide) (by decide))), Fld.other W I.2.2.2.2.2.2.2.2.2.2.2.1 (Or.inr (slot_ne (Or.inl (hw _ (List.mem_of_getElem? (i := 80) rfl))) (Or.inl (hw _ (List.mem_of_getElem? (i := 18) rfl))) (by decide) (t := .long) (t' := .long) (by decide) (by decide))), Fld.other W I.2.2.2.2.2.2.2.2.2.2.2.2.1 (Or.inr (slot_ne (Or.inl (hw _ (List.mem_of_getElem? (i := 87) rfl))) (Or.inl (hw _ (List.mem_of_getElem? (i := 18) rfl))) (by decide) (t := .long) (t' := .long) (by decide) (by decide))), Fld.other W I.2.2.2.2.2.2.2.2.2.2.2.2.2.1 (Or.inr (slot_ne (Or.inl (hw _ (List.mem_of_getElem? (i := 59) rfl))) (Or.inl (hw _ (List.mem_of_getElem? (i := 18) rfl))) (by decide) (t := .long) (t' := .long) (by decide) (by decide))), Fld.other W I.2.2.2.2.2.2.2.2.2.2.2.2.2.2 (Or.inr (slot_ne (Or.inl (hw _ (List.mem_of_getElem? (i := 65) rfl))) (Or.inl (hw _ (List.mem_of_getElem? (i := 18) rfl))) (by decide) (t := .long) (t' := .long) (by decide) (by decide)))⟩
theorem own_I_put_limb5 {Z : State} {h : Heap} {a : Addr} {v0 : Int64} {v1 : Int64} {v2 : Int64} {v3 : Int64} {v4 : Int64} {v5 : Int64} {v6 : Int64} {v7 : Int64} {v8 : Int64} {v9 : Int64} {v10 : Int64} {v11 : Int64} {v12 : Int64} {v13 : Int64} {h' : Heap} {a0 : Array Value} {w : Int64} (hw : ∀ d ∈ tables_1, d.before a0 Z = true) (W : Wr h h' a (Jvm.RoadKit.slotOf Z "com/example/nano_embed/nanoembed/geometry/Int384" "limb5" "J") (.long w)) (I : own_I Z h a v0 v1 v2 v3 v4 v5 v6 v7 v8 v9 v10 v11 v12 v13) : own_I Z h' a v0 v1 v2 v3 v4 w v6 v7 v8 v9 v10 v11 v12 v13 := ⟨Exa.wr W I.1, Fld.other W I.2.1 (Or.inr (slot_ne (Or.inl (hw _ (List.mem_of_getElem? (i := 10) rfl))) (Or.inl (hw _ (List.mem_of_getElem? (i := 20) rfl))) (by decide) (t := .long) (t' := .long) (by decide) (by decide))), Fld.other W I.2.2.1 (Or.inr (slot_ne (Or.inl (hw _ (List.mem_of_getElem? (i := 12) rfl))) (Or.inl (hw _ (List.mem_of_getElem? (i := 20) rfl))) (by decide) (t := .long) (t' := .long) (by decide) (by decide))), Fld.other W I.2.2.2.1 (Or.inr (slot_ne (Or.inl (hw _ (List.mem_of_getElem? (i := 14) rfl))) (Or.inl (hw _ (List.mem_of_getElem? (i := 20) rfl))) (by decide) (t := .long) (t' := .long) (by decide) (by decide))), Fld.other W I.2.2.2.2.1 (Or.inr (slot_ne (Or.inl (hw _ (List.mem_of_getElem? (i := 16) rfl))) (Or.inl (hw _ (List.mem_of_getElem? (i := 20) rfl))) (by decide) (t := .long) (t' := .long) (by decide) (by decide))), Fld.other W I.2.2.2.2.2.1 (Or.inr (slot_ne (Or.inl (hw _ (List.mem_of_getElem? (i := 18) rfl))) (Or.inl (hw _ (List.mem_of_getElem? (i := 20) rfl))) (by decide) (t := .long) (t' := .long) (by decide) (by decide))), Fld.same W I.2.2.2.2.2.2.1, Fld.other W I.2.2.2.2.2.2.2.1 (Or.inr (slot_ne (Or.inl (hw _ (List.mem_of_getElem? (i := 49) rfl))) (Or.inl (hw _ (List.mem_of_getElem? (i := 20) rfl))) (by decide) (t := .long) (t' := .long) (by decide) (by decide))), Fld.other W I.2.2.2.2.2.2.2.2.1 (Or.inr (slot_ne (Or.inl (hw _ (List.mem_of_getElem? (i := 74) rfl))) (Or.inl (hw _ (List.mem_of_getElem? (i := 20) rfl))) (by decide) (t := .long) (t' := .long) (by decide) (by decide))), Fld.other W I.2.2.2.2.2.2.2.2.2.1 (Or.inr (slot_ne (Or.inl (hw _ (List.mem_of_getElem? (i := 76) rfl))) (Or.inl (hw _ (List.mem_of_getElem? (i := 20) rfl))) (by decide) (t := .long) (t' := .long) (by decide) (by decide))), Fld.other W I.2.2.2.2.2.2.2.2.2.2.1 (Or.inr (slot_ne (Or.inl (hw _ (List.mem_of_getElem? (i := 78) rfl))) (Or.inl (hw _ (List.mem_of_getElem? (i := 20) rfl))) (by decide) (t := .long) (t' := .long) (by decide) (by decide))), Fld.other W I.2.2.2.2.2.2.2.2.2.2.2.1 (Or.inr (slot_ne (Or.inl (hw _ (List.mem_of_getElem? (i := 80) rfl))) (Or.inl (hw _ (List.mem_of_getElem? (i := 20) rfl))) (by decide) (t := .long) (t' := .long) (by decide) (by decide))), Fld.other W I.2.2.2.2.2.2.2.2.2.2.2.2.1 (Or.inr (slot_ne (Or.inl (hw _ (List.mem_of_getElem? (i := 87) rfl))) (Or.inl (hw _ (List.mem_of_getElem? (i := 20) rfl))) (by decide) (t := .long) (t' := .long) (by decide) (by decide))), Fld.other W I.2.2.2.2.2.2.2.2.2.2.2.2.2.1 (Or.inr (slot_ne (Or.inl (hw _ (List.mem_of_getElem? (i := 59) rfl))) (Or.inl (hw _ (List.mem_of_getElem? (i := 20) rfl))) (by decide) (t := .long) (t' := .long) (by decide) (by decide))), Fld.other W I.2.2.2.2.2.2.2.2.2.2.2.2.2.2 (Or.inr (slot_ne (Or.inl (hw _ (List.mem_of_getElem? (i := 65) rfl))) (Or.inl (hw _ (List.mem_of_getElem? (i := 20) rfl))) (by decide) (t := .long) (t' := .long) (by decide) (by decide)))⟩
theorem own_I_put_product0 {Z : State} {h : Heap} {a : Addr} {v0 : Int64} {v1 : Int64} {v2 : Int64} {v3 : Int64} {v4 : Int64} {v5 : Int64} {v6 : Int64} {v7 : Int64} {v8 : Int64} {v9 : Int64} {v10 : Int64} {v11 : Int64} {v12 : Int64} {v13 : Int64} {h' : Heap} {a0 : Array Value} {w : Int64} (hw : ∀ d ∈ tables_1, d.before a0 Z = true) (W : Wr h h' a (Jvm.RoadKit.slotOf Z "com/example/nano_embed/nanoembed/geometry/Int384" "product0" "J") (.long w)) (I : own_I Z h a v0 v1 v2 v3 v4 v5 v6 v7 v8 v9 v10 v11 v12 v13) : own_I Z h' a v0 v1 v2 v3 v4 v5 w v7 v8 v9 v10 v11 v12 v13 := ⟨Exa.wr W I.1, Fld.other W I.2.1 (Or.inr (slot_ne (Or.inl (hw _ (List.mem_of_getElem? (i := 10) rfl))) (Or.inl (hw _ (List.mem_of_getElem? (i := 49) rfl))) (by decide) (t := .long) (t' := .long) (by decide) (by decide))), Fld.other W I.2.2.1 (Or.inr (slot_ne (Or.inl (hw _ (List.mem_of_getElem? (i := 12) rfl))) (Or.inl (hw _ (List.mem_of_getElem? (i := 49) rfl))) (by decide) (t := .long) (t' := .long) (by decide) (by decide))), Fld.other W I.2.2.2.1 (Or.inr (slot_ne (Or.inl (hw _ (List.mem_of_getElem? (i := 14) rfl))) (Or.inl (hw _ (List.mem_of_getElem? (i := 49) rfl))) (by decide) (t := .long) (t' := .long) (by decide) (by decide))), Fld.other W I.2.2.2.2.1 (Or.inr (slot_ne (Or.inl (hw _ (List.mem_of_getElem? (i := 16) rfl))) (Or.inl (hw _ (List.mem_of_getElem? (i := 49) rfl))) (by decide) (t := .long) (t' := .long) (by decide) (by decide))), Fld.other W I.2.2.2.2.2.1 (Or.inr (slot_ne (Or.inl (hw _ (List.mem_of_getElem? (i := 18) rfl))) (Or.inl (hw _ (List.mem_of_getElem? (i := 49) rfl))) (by decide) (t := .long) (t' := .long) (by decide) (by decide))), Fld.other W I.2.2.2.2.2.2.1 (Or.inr (slot_ne (Or.inl (hw _ (List.mem_of_getElem? (i := 20) rfl))) (Or.inl (hw _ (List.mem_of_getElem? (i := 49) rfl))) (by decide) (t := .long) (t' := .long) (by decide) (by decide))), Fld.same W I.2.2.2.2.2.2.2.1, Fld.other W I.2.2.2.2.2.2.2.2.1 (Or.inr (slot_ne (Or.inl (hw _ (List.mem_of_getElem? (i := 74) rfl))) (Or.inl (hw _ (List.mem_of_getElem? (i := 49) rfl))) (by decide) (t := .long) (t' := .long) (by decide) (by decide))), Fld.other W I.2.2.2.2.2.2.2.2.2.1 (Or.inr (slot_ne (Or.inl (hw _ (List.mem_of_getElem? (i := 76) rfl))) (Or.inl (hw _ (List.mem_of_getElem? (i := 49) rfl))) (by decide) (t := .long) (t' := .long) (by decide) (by decide))), Fld.other W I.2.2.2.2.2.2.2.2.2.2.1 (Or.inr (slot_ne (Or.inl (hw _ (List.mem_of_getElem? (i := 78) rfl))) (Or.inl (hw _ (List.mem_of_getElem? (i := 49) rfl))) (by decide) (t := .long) (t' := .long) (by decide) (by decide))), Fld.other W I.2.2.2.2.2.2.2.2.2.2.2.1 (Or.inr (slot_ne (Or.inl (hw _ (List.mem_of_getElem? (i := 80) rfl))) (Or.inl (hw _ (List.mem_of_getElem? (i := 49) rfl))) (by decide) (t := .long) (t' := .long) (by decide) (by decide))), Fld.other W I.2.2.2.2.2.2.2.2.2.2.2.2.1 (Or.inr (slot_ne (Or.inl (hw _ (List.mem_of_getElem? (i := 87) rfl))) (Or.inl (hw _ (List.mem_of_getElem? (i := 49) rfl))) (by decide) (t := .long) (t' := .long) (by decide) (by decide))), Fld.other W I.2.2.2.2.2.2.2.2.2.2.2.2.2.1 (Or.inr (slot_ne (Or.inl (hw _ (List.mem_of_getElem? (i := 59) rfl))) (Or.inl (hw _ (List.mem_of_getElem? (i := 49) rfl))) (by decide) (t := .long) (t' := .long) (by decide) (by decide))), Fld.other W I.2.2.2.2.2.2.2.2.2.2.2.2.2.2 (Or.inr (slot_ne (Or.inl (hw _ (List.mem_of_getElem? (i := 65) rfl))) (Or.inl (hw _ (List.mem_of_getElem? (i := 49) rfl))) (by decide) (t := .long) (t' := .long) (by decide) (by decide)))⟩
theorem own_I_put_product1 {Z : State} {h : Heap} {a : Addr} {v0 : Int64} {v1 : Int64} {v2 : Int64} {v3 : Int64} {v4 : Int64} {v5 : Int64} {v6 : Int64} {v7 : Int64} {v8 : Int64} {v9 : Int64} {v10 : Int64} {v11 : Int64} {v12 : Int64} {v13 : Int64} {h' : Heap} {a0 : Array Value} {w : Int64} (hw : ∀ d ∈ tables_1, d.before a0 Z = true) (W : Wr h h' a (Jvm.RoadKit.slotOf Z "com/example/nano_embed/nanoembed/geometry/Int384" "product1" "J") (.long w)) (I : own_I Z h a v0 v1 v2 v3 v4 v5 v6 v7 v8 v9 v10 v11 v12 v13) : own_I Z h' a v0 v1 v2 v3 v4 v5 v6 w v8 v9 v10 v11 v12 v13 := ⟨Exa.wr W I.1, Fld.other W I.2.1 (Or.inr (slot_ne (Or.inl (hw _ (List.mem_of_getElem? (i := 10) rfl))) (Or.inl (hw _ (List.mem_of_getElem? (i := 74) rfl))) (by decide) (t := .long) (t' := .long) (by decide) (by decide))), Fld.other W I.2.2.1 (Or.inr (slot_ne (Or.inl (hw _ (List.mem_of_getElem? (i := 12) rfl))) (Or.inl (hw _ (List.mem_of_getElem? (i := 74) rfl))) (by decide) (t := .long) (t' := .long) (by decide) (by decide))), Fld.other W I.2.2.2.1 (Or.inr (slot_ne (Or.inl (hw _ (List.mem_of_getElem? (i := 14) rfl))) (Or.inl (hw _ (List.mem_of_getElem? (i := 74) rfl))) (by decide) (t := .long) (t' := .long) (by decide) (by decide))), Fld.other W I.2.2.2.2.1 (Or.inr (slot_ne (Or.inl (hw _ (List.mem_of_getElem? (i := 16) rfl))) (Or.inl (hw _ (List.mem_of_getElem? (i := 74) rfl))) (by decide) (t := .long) (t' := .long) (by decide) (by decide))), Fld.other W I.2.2.2.2.2.1 (Or.inr (slot_ne (Or.inl (hw _ (List.mem_of_getElem? (i := 18) rfl))) (Or.inl (hw _ (List.mem_of_getElem? (i := 74) rfl))) (by decide) (t := .long) (t' := .long) (by decide) (by decide))), Fld.other W I.2.2.2.2.2.2.1 (Or.inr (slot_ne (Or.inl (hw _ (List.mem_of_getElem? (i := 20) rfl))) (Or.inl (hw _ (List.mem_of_getElem? (i := 74) rfl))) (by decide) (t := .long) (t' := .long) (by decide) (by decide))), Fld.other W I.2.2.2.2.2.2.2.1 (Or.inr (slot_ne (Or.inl (hw _ (List.mem_of_getElem? (i := 49) rfl))) (Or.inl (hw _ (List.mem_of_getElem? (i := 74) rfl))) (by decide) (t := .long) (t' := .long) (by decide) (by decide))), Fld.same W I.2.2.2.2.2.2.2.2.1, Fld.other W I.2.2.2.2.2.2.2.2.2.1 (Or.inr (slot_ne (Or.inl (hw _ (List.mem_of_getElem? (i := 76) rfl))) (Or.inl (hw _ (List.mem_of_getElem? (i := 74) rfl))) (by decide) (t := .long) (t' := .long) (by decide) (by decide))), Fld.other W I.2.2.2.2.2.2.2.2.2.2.1 (Or.inr (slot_ne (Or.inl (hw _ (List.mem_of_getElem? (i := 78) rfl))) (Or.inl (hw _ (List.mem_of_getElem? (i := 74) rfl))) (by decide) (t := .long) (t' := .long) (by decide) (by decide))), Fld.other W I.2.2.2.2.2.2.2.2.2.2.2.1 (Or.inr (slot_ne (Or.inl (hw _ (List.mem_of_getElem? (i := 80) rfl))) (Or.inl (hw _ (List.mem_of_getElem? (i := 74) rfl))) (by decide) (t := .long) (t' := .long) (by decide) (by decide))), Fld.other W I.2.2.2.2.2.2.2.2.2.2.2.2.1 (Or.inr (slot_ne (Or.inl (hw _ (List.mem_of_getElem? (i := 87) rfl))) (Or.inl (hw _ (List.mem_of_getElem? (i := 74) rfl))) (by decide) (t := .long) (t' := .long) (by decide) (by decide))), Fld.other W I.2.2.2.2.2.2.2.2.2.2.2.2.2.1 (Or.inr (slot_ne (Or.inl (hw _ (List.mem_of_getElem? (i := 59) rfl))) (Or.inl (hw _ (List.mem_of_getElem? (i := 74) rfl))) (by decide) (t := .long) (t' := .long) (by decide) (by decide))), Fld.other W I.2.2.2.2.2.2.2.2.2.2.2.2.2.2 (Or.inr (slot_ne (Or.inl (hw _ (List.mem_of_getElem? (i := 65) rfl))) (Or.inl (hw _ (List.mem_of_getElem? (i := 74) rfl))) (by decide) (t := .long) (t' := .long) (by decide) (by decide)))⟩
theorem own_I_put_product2 {Z : State} {h : Heap} {a : Addr} {v0 : Int64} {v1 : Int64} {v2 : Int64} {v3 : Int64} {v4 : Int64} {v5 : Int64} {v6 : Int64} {v7 : Int64} {v8 : Int64} {v9 : Int64} {v10 : Int64} {v11 : Int64} {v12 : Int64} {v13 : Int64} {h' : Heap} {a0 : Array Value} {w : Int64} (hw : ∀ d ∈ tables_1, d.before a0 Z = true) (W : Wr h h' a (Jvm.RoadKit.slotOf Z "com/example/nano_embed/nanoembed/geometry/Int384" "product2" "J") (.long w)) (I : own_I Z h a v0 v1 v2 v3 v4 v5 v6 v7 v8 v9 v10 v11 v12 v13) : own_I Z h' a v0 v1 v2 v3 v4 v5 v6 v7 w v9 v10 v11 v12 v13 := ⟨Exa.wr W I.1, Fld.other W I.2.1 (Or.inr (slot_ne (Or.inl (hw _ (List.mem_of_getElem? (i := 10) rfl))) (Or.inl (hw _ (List.mem_of_getElem? (i := 76) rfl))) (by decide) (t := .long) (t' := .long) (by decide) (by decide))), Fld.other W I.2.2.1 (Or.inr (slot_ne (Or.inl (hw _ (List.mem_of_getElem? (i := 12) rfl))) (Or.inl (hw _ (List.mem_of_getElem? (i := 76) rfl))) (by decide) (t := .long) (t' := .long) (by decide) (by decide))), Fld.other W I.2.2.2.1 (Or.inr (slot_ne (Or.inl (hw _ (List.mem_of_getElem? (i := 14) rfl))) (Or.inl (hw _ (List.mem_of_getElem? (i := 76) rfl))) (by decide) (t := .long) (t' := .long) (by decide) (by decide))), Fld.other W I.2.2.2.2.1 (Or.inr (slot_ne (Or.inl (hw _ (List.mem_of_getElem? (i := 16) rfl))) (Or.inl (hw _ (List.mem_of_getElem? (i := 76) rfl))) (by decide) (t := .long) (t' := .long) (by decide) (by decide))), Fld.other W I.2.2.2.2.2.1 (Or.inr (slot_ne (Or.inl (hw _ (List.mem_of_getElem? (i := 18) rfl))) (Or.inl (hw _ (List.mem_of_getElem? (i := 76) rfl))) (by decide) (t := .long) (t' := .long) (by decide) (by decide))), Fld.other W I.2.2.2.2.2.2.1 (Or.inr (slot_ne (Or.inl (hw _ (List.mem_of_getElem? (i := 20) rfl))) (Or.inl (hw _ (List.mem_of_getElem? (i := 76) rfl))) (by decide) (t := .long) (t' := .long) (by decide) (by decide))), Fld.other W I.2.2.2.2.2.2.2.1 (Or.inr (slot_ne (Or.inl (hw _ (List.mem_of_getElem? (i := 49) rfl))) (Or.inl (hw _ (List.mem_of_getElem? (i := 76) rfl))) (by decide) (t := .long) (t' := .long) (by decide) (by decide))), Fld.other W I.2.2.2.2.2.2.2.2.1 (Or.inr (slot_ne (Or.inl (hw _ (List.mem_of_getElem? (i := 74) rfl))) (Or.inl (hw _ (List.mem_of_getElem? (i := 76) rfl))) (by decide) (t := .long) (t' := .long) (by decide) (by decide))), Fld.same W I.2.2.2.2.2.2.2.2.2.1, Fld.other W I.2.2.2.2.2.2.2.2.2.2.1 (Or.inr (slot_ne (Or.inl (hw _ (List.mem_of_getElem? (i := 78) rfl))) (Or.inl (hw _ (List.mem_of_getElem? (i := 76) rfl))) (by decide) (t := .long) (t' := .long) (by decide) (by decide))), Fld.other W I.2.2.2.2.2.2.2.2.2.2.2.1 (Or.inr (slot_ne (Or.inl (hw _ (List.mem_of_getElem? (i := 80) rfl))) (Or.inl (hw _ (List.mem_of_getElem? (i := 76) rfl))) (by decide) (t := .long) (t' := .long) (by decide) (by decide))), Fld.other W I.2.2.2.2.2.2.2.2.2.2.2.2.1 (Or.inr (slot_ne (Or.inl (hw _ (List.mem_of_getElem? (i := 87) rfl))) (Or.inl (hw _ (List.mem_of_getElem? (i := 76) rfl))) (by decide) (t := .long) (t' := .long) (by decide) (by decide))), Fld.other W I.2.2.2.2.2.2.2.2.2.2.2.2.2.1 (Or.inr (slot_ne (Or.inl (hw _ (List.mem_of_getElem? (i := 59) rfl))) (Or.inl (hw _ (List.mem_of_getElem? (i := 76) rfl))) (by decide) (t := .long) (t' := .long) (by decide) (by decide))), Fld.other W I.2.2.2.2.2.2.2.2.2.2.2.2.2.2 (Or.inr (slot_ne (Or.inl (hw _ (List.mem_of_getElem? (i := 65) rfl))) (Or.inl (hw _ (List.mem_of_getElem? (i := 76) rfl))) (by decide) (t := .long) (t' := .long) (by decide) (by decide)))⟩
theorem own_I_put_product3 {Z : State} {h : Heap} {a : Addr} {v0 : Int64} {v1 : Int64} {v2 : Int64} {v3 : Int64} {v4 : Int64} {v5 : Int64} {v6 : Int64} {v7 : Int64} {v8 : Int64} {v9 : Int64} {v10 : Int64} {v11 : Int64} {v12 : Int64} {v13 : Int64} {h' : Heap} {a0 : Array Value} {w : Int64} (hw : ∀ d ∈ tables_1, d.before a0 Z = true) (W : Wr h h' a (Jvm.RoadKit.slotOf Z "com/example/nano_embed/nanoembed/geometry/Int384" "product3" "J") (.long w)) (I : own_I Z h a v0 v1 v2 v3 v4 v5 v6 v7 v8 v9 v10 v11 v12 v13) : own_I Z h' a v0 v1 v2 v3 v4 v5 v6 v7 v8 w v10 v11 v12 v13 := ⟨Exa.wr W I.1, Fld.other W I.2.1 (Or.inr (slot_ne (Or.inl (hw _ (List.mem_of_getElem? (i := 10) rfl))) (Or.inl (hw _ (List.mem_of_getElem? (i := 78) rfl))) (by decide) (t := .long) (t' := .long) (by decide) (by decide))), Fld.other W I.2.2.1 (Or.inr (slot_ne (Or.inl (hw _ (List.mem_of_getElem? (i := 12) rfl))) (Or.inl (hw _ (List.mem_of_getElem? (i := 78) rfl))) (by decide) (t := .long) (t' := .long) (by decide) (by decide))), Fld.other W I.2.2.2.1 (Or.inr (slot_ne (Or.inl (hw _ (List.mem_of_getElem? (i := 14) rfl))) (Or.inl (hw _ (List.mem_of_getElem? (i := 78) rfl))) (by decide) (t := .long) (t' := .long) (by decide) (by decide))), Fld.other W I.2.2.2.2.1 (Or.inr (slot_ne (Or.inl (hw _ (List.mem_of_getElem? (i := 16) rfl))) (Or.inl (hw _ (List.mem_of_getElem? (i := 78) rfl))) (by decide) (t := .long) (t' := .long) (by decide) (by decide))), Fld.other W I.2.2.2.2.2.1 (Or.inr (slot_ne (Or.inl (hw _ (List.mem_of_getElem? (i := 18) rfl))) (Or.inl (hw _ (List.mem_of_getElem? (i := 78) rfl))) (by decide) (t := .long) (t' := .long) (by decide) (by decide))), Fld.other W I.2.2.2.2.2.2.1 (Or.inr (slot_ne (Or.inl (hw _ (List.mem_of_getElem? (i := 20) rfl))) (Or.inl (hw _ (List.mem_of_getElem? (i := 78) rfl))) (by decide) (t := .long) (t' := .long) (by decide) (by decide))), Fld.other W I.2.2.2.2.2.2.2.1 (Or.inr (slot_ne (Or.inl (hw _ (List.mem_of_getElem? (i := 49) rfl))) (Or.inl (hw _ (List.mem_of_getElem? (i := 78) rfl))) (by decide) (t := .long) (t' := .long) (by decide) (by decide))), Fld.other W I.2.2.2.2.2.2.2.2.1 (Or.inr (slot_ne (Or.inl (hw _ (List.mem_of_getElem? (i := 74) rfl))) (Or.inl (hw _ (List.mem_of_getElem? (i := 78) rfl))) (by decide) (t := .long) (t' := .long) (by decide) (by decide))), Fld.other W I.2.2.2.2.2.2.2.2.2.1 (Or.inr (slot_ne (Or.inl (hw _ (List.mem_of_getElem? (i := 76) rfl))) (Or.inl (hw _ (List.mem_of_getElem? (i := 78) rfl))) (by decide) (t := .long) (t' := .long) (by decide) (by decide))), Fld.same W I.2.2.2.2.2.2.2.2.2.2.1, Fld.other W I.2.2.2.2.2.2.2.2.2.2.2.1 (Or.inr (slot_ne (Or.inl (hw _ (List.mem_of_getElem? (i := 80) rfl))) (Or.inl (hw _ (List.mem_of_getElem? (i := 78) rfl))) (by decide) (t := .long) (t' := .long) (by decide) (by decide))), Fld.other W I.2.2.2.2.2.2.2.2.2.2.2.2.1 (Or.inr (slot_ne (Or.inl (hw _ (List.mem_of_getElem? (i := 87) rfl))) (Or.inl (hw _ (List.mem_of_getElem? (i := 78) rfl))) (by decide) (t := .long) (t' := .long) (by decide) (by decide))), Fld.other W I.2.2.2.2.2.2.2.2.2.2.2.2.2.1 (Or.inr (slot_ne (Or.inl (hw _ (List.mem_of_getElem? (i := 59) rfl))) (Or.inl (hw _ (List.mem_of_getElem? (i := 78) rfl))) (by decide) (t := .long) (t' := .long) (by decide) (by decide))), Fld.other W I.2.2.2.2.2.2.2.2.2.2.2.2.2.2 (Or.inr (slot_ne (Or.inl (hw _ (List.mem_of_getElem? (i := 65) rfl))) (Or.inl (hw _ (List.mem_of_getElem? (i := 78) rfl))) (by decide) (t := .long) (t' := .long) (by decide) (by decide)))⟩
theorem own_I_put_product4 {Z : State} {h : Heap} {a : Addr} {v0 : Int64} {v1 : Int64} {v2 : Int64} {v3 : Int64} {v4 : Int64} {v5 : Int64} {v6 : Int64} {v7 : Int64} {v8 : Int64} {v9 : Int64} {v10 : Int64} {v11 : Int64} {v12 : Int64} {v13 : Int64} {h' : Heap} {a0 : Array Value} {w : Int64} (hw : ∀ d ∈ tables_1, d.before a0 Z = true) (W : Wr h h' a (Jvm.RoadKit.slotOf Z "com/example/nano_embed/nanoembed/geometry/Int384" "product4" "J") (.long w)) (I : own_I Z h a v0 v1 v2 v3 v4 v5 v6 v7 v8 v9 v10 v11 v12 v13) : own_I Z h' a v0 v1 v2 v3 v4 v5 v6 v7 v8 v9 w v11 v12 v13 := ⟨Exa.wr W I.1, Fld.other W I.2.1 (Or.inr (slot_ne (Or.inl (hw _ (List.mem_of_getElem? (i := 10) rfl))) (Or.inl (hw _ (List.mem_of_getElem? (i := 80) rfl))) (by decide) (t := .long) (t' := .long) (by decide) (by decide))), Fld.other W I.2.2.1 (Or.inr (slot_ne (Or.inl (hw _ (List.mem_of_getElem? (i := 12) rfl))) (Or.inl (hw _ (List.mem_of_getElem? (i := 80) rfl))) (by decide) (t := .long) (t' := .long) (by decide) (by decide))), Fld.other W I.2.2.2.1 (Or.inr (slot_ne (Or.inl (hw _ (List.mem_of_getElem? (i := 14) rfl))) (Or.inl (hw _ (List.mem_of_getElem? (i := 80) rfl))) (by decide) (t := .long) (t' := .long) (by decide) (by decide))), Fld.other W I.2.2.2.2.1 (Or.inr (slot_ne (Or.inl (hw _ (List.mem_of_getElem? (i := 16) rfl))) (Or.inl (hw _ (List.mem_of_getElem? (i := 80) rfl))) (by decide) (t := .long) (t' := .long) (by decide) (by decide))), Fld.other W I.2.2.2.2.2.1 (Or.inr (slot_ne (Or.inl (hw _ (List.mem_of_getElem? (i := 18) rfl))) (Or.inl (hw _ (List.mem_of_getElem? (i := 80) rfl))) (by decide) (t := .long) (t' := .long) (by decide) (by decide))), Fld.other W I.2.2.2.2.2.2.1 (Or.inr (slot_ne (Or.inl (hw _ (List.mem_of_getElem? (i := 20) rfl))) (Or.inl (hw _ (List.mem_of_getElem? (i := 80) rfl))) (by decide) (t := .long) (t' := .long) (by decide) (by decide))), Fld.other W I.2.2.2.2.2.2.2.1 (Or.inr (slot_ne (Or.inl (hw _ (List.mem_of_getElem? (i := 49) rfl))) (Or.inl (hw _ (List.mem_of_getElem? (i := 80) rfl))) (by decide) (t := .long) (t' := .long) (by decide) (by decide))), Fld.other W I.2.2.2.2.2.2.2.2.1 (Or.inr (slot_ne (Or.inl (hw _ (List.mem_of_getElem? (i := 74) rfl))) (Or.inl (hw _ (List.mem_of_getElem? (i := 80) rfl))) (by decide) (t := .long) (t' := .long) (by decide) (by decide))), Fld.other W I.2.2.2.2.2.2.2.2.2.1 (Or.inr (slot_ne (Or.inl (hw _ (List.mem_of_getElem? (i := 76) rfl))) (Or.inl (hw _ (List.mem_of_getElem? (i := 80) rfl))) (by decide) (t := .long) (t' := .long) (by decide) (by decide))), Fld.other W I.2.2.2.2.2.2.2.2.2.2.1 (Or.inr (slot_ne (Or.inl (hw _ (List.mem_of_getElem? (i := 78) rfl))) (Or.inl (hw _ (List.mem_of_getElem? (i := 80) rfl))) (by decide) (t := .long) (t' := .long) (by decide) (by decide))), Fld.same W I.2.2.2.2.2.2.2.2.2.2.2.1, Fld.other W I.2.2.2.2.2.2.2.2.2.2.2.2.1 (Or.inr (slot_ne (Or.inl (hw _ (List.mem_of_getElem? (i := 87) rfl))) (Or.inl (hw _ (List.mem_of_getElem? (i := 80) rfl))) (by decide) (t := .long) (t' := .long) (by decide) (by decide))), Fld.other W I.2.2.2.2.2.2.2.2.2.2.2.2.2.1 (Or.inr (slot_ne (Or.inl (hw _ (List.mem_of_getElem? (i := 59) rfl))) (Or.inl (hw _ (List.mem_of_getElem? (i := 80) rfl))) (by decide) (t := .long) (t' := .long) (by decide) (by decide))), Fld.other W I.2.2.2.2.2.2.2.2.2.2.2.2.2.2 (Or.inr (slot_ne (Or.inl (hw _ (List.mem_of_getElem? (i := 65) rfl))) (Or.inl (hw _ (List.mem_of_getElem? (i := 80) rfl))) (by decide) (t := .long) (t' := .long) (by decide) (by decide)))⟩
theorem own_I_put_product5 {Z : State} {h : Heap} {a : Addr} {v0 : Int64} {v1 : Int64} {v2 : Int64} {v3 : Int64} {v4 : Int64} {v5 : Int64} {v6 : Int64} {v7 : Int64} {v8 : Int64} {v9 : Int64} {v10 : Int64} {v11 : Int64} {v12 : Int64} {v13 : Int64} {h' : Heap} {a0 : Array Value} {w : Int64} (hw : ∀ d ∈ tables_1, d.before a0 Z = true) (W : Wr h h' a (Jvm.RoadKit.slotOf Z "com/example/nano_embed/nanoembed/geometry/Int384" "product5" "J") (.long w)) (I : own_I Z h a v0 v1 v2 v3 v4 v5 v6 v7 v8 v9 v10 v11 v12 v13) : own_I Z h' a v0 v1 v2 v3 v4 v5 v6 v7 v8 v9 v10 w v12 v13 := ⟨Exa.wr W I.1, Fld.other W I.2.1 (Or.inr (slot_ne (Or.inl (hw _ (List.mem_of_getElem? (i := 10) rfl))) (Or.inl (hw _ (List.mem_of_getElem? (i := 87) rfl))) (by decide) (t := .long) (t' := .long) (by decide) (by decide))), Fld.other W I.2.2.1 (Or.inr (slot_ne (Or.inl (hw _ (List.mem_of_getElem? (i := 12) rfl))) (Or.inl (hw _ (List.mem_of_getElem? (i := 87) rfl))) (by decide) (t := .long) (t' := .long) (by decide) (by decide))), Fld.other W I.2.2.2.1 (Or.inr (slot_ne (Or.inl (hw _ (List.mem_of_getElem? (i := 14) rfl))) (Or.inl (hw _ (List.mem_of_getElem? (i := 87) rfl))) (by decide) (t := .long) (t' := .long) (by decide) (by decide))), Fld.other W I.2.2.2.2.1 (Or.inr (slot_ne (Or.inl (hw _ (List.mem_of_getElem? (i := 16) rfl))) (Or.inl (hw _ (List.mem_of_getElem? (i := 87) rfl))) (by decide) (t := .long) (t' := .long) (by decide) (by decide))), Fld.other W I.2.2.2.2.2.1 (Or.inr (slot_ne (Or.inl (hw _ (List.mem_of_getElem? (i := 18) rfl))) (Or.inl (hw _ (List.mem_of_getElem? (i := 87) rfl))) (by decide) (t := .long) (t' := .long) (by decide) (by decide))), Fld.other W I.2.2.2.2.2.2.1 (Or.inr (slot_ne (Or.inl (hw _ (List.mem_of_getElem? (i := 20) rfl))) (Or.inl (hw _ (List.mem_of_getElem? (i := 87) rfl))) (by decide) (t := .long) (t' := .long) (by decide) (by decide))), Fld.other W I.2.2.2.2.2.2.2.1 (Or.inr (slot_ne (Or.inl (hw _ (List.mem_of_getElem? (i := 49) rfl))) (Or.inl (hw _ (List.mem_of_getElem? (i := 87) rfl))) (by decide) (t := .long) (t' := .long) (by decide) (by decide))), Fld.other W I.2.2.2.2.2.2.2.2.1 (Or.inr (slot_ne (Or.inl (hw _ (List.mem_of_getElem? (i := 74) rfl))) (Or.inl (hw _ (List.mem_of_getElem? (i := 87) rfl))) (by decide) (t := .long) (t' := .long) (by decide) (by decide))), Fld.other W I.2.2.2.2.2.2.2.2.2.1 (Or.inr (slot_ne (Or.inl (hw _ (List.mem_of_getElem? (i := 76) rfl))) (Or.inl (hw _ (List.mem_of_getElem? (i := 87) rfl))) (by decide) (t := .long) (t' := .long) (by decide) (by decide))), Fld.other W I.2.2.2.2.2.2.2.2.2.2.1 (Or.inr (slot_ne (Or.inl (hw _ (List.mem_of_getElem? (i := 78) rfl))) (Or.inl (hw _ (List.mem_of_getElem? (i := 87) rfl))) (by decide) (t := .long) (t' := .long) (by decide) (by decide))), Fld.other W I.2.2.2.2.2.2.2.2.2.2.2.1 (Or.inr (slot_ne (Or.inl (hw _ (List.mem_of_getElem? (i := 80) rfl))) (Or.inl (hw _ (List.mem_of_getElem? (i := 87) rfl))) (by decide) (t := .long) (t' := .long) (by decide) (by decide))), Fld.same W I.2.2.2.2.2.2.2.2.2.2.2.2.1, Fld.other W I.2.2.2.2.2.2.2.2.2.2.2.2.2.1 (Or.inr (slot_ne (Or.inl (hw _ (List.mem_of_getElem? (i := 59) rfl))) (Or.inl (hw _ (List.mem_of_getElem? (i := 87) rfl))) (by decide) (t := .long) (t' := .long) (by decide) (by decide))), Fld.other W I.2.2.2.2.2.2.2.2.2.2.2.2.2.2 (Or.inr (slot_ne (Or.inl (hw _ (List.mem_of_getElem? (i := 65) rfl))) (Or.inl (hw _ (List.mem_of_getElem? (i := 87) rfl))) (by decide) (t := .long) (t' := .long) (by decide) (by decide)))⟩
theorem own_I_put_column {Z : State} {h : Heap} {a : Addr} {v0 : Int64} {v1 : Int64} {v2 : Int64} {v3 : Int64} {v4 : Int64} {v5 : Int64} {v6 : Int64} {v7 : Int64} {v8 : Int64} {v9 : Int64} {v10 : Int64} {v11 : Int64} {v12 : Int64} {v13 : Int64} {h' : Heap} {a0 : Array Value} {w : Int64} (hw : ∀ d ∈ tables_1, d.before a0 Z = true) (W : Wr h h' a (Jvm.RoadKit.slotOf Z "com/example/nano_embed/nanoembed/geometry/Int384" "column" "J") (.long w)) (I : own_I Z h a v0 v1 v2 v3 v4 v5 v6 v7 v8 v9 v10 v11 v12 v13) : own_I Z h' a v0 v1 v2 v3 v4 v5 v6 v7 v8 v9 v10 v11 w v13 := ⟨Exa.wr W I.1, Fld.other W I.2.1 (Or.inr (slot_ne (Or.inl (hw _ (List.mem_of_getElem? (i := 10) rfl))) (Or.inl (hw _ (List.mem_of_getElem? (i := 59) rfl))) (by decide) (t := .long) (t' := .long) (by decide) (by decide))), Fld.other W I.2.2.1 (Or.inr (slot_ne (Or.inl (hw _ (List.mem_of_getElem? (i := 12) rfl))) (Or.inl (hw _ (List.mem_of_getElem? (i := 59) rfl))) (by decide) (t := .long) (t' := .long) (by decide) (by decide))), Fld.other W I.2.2.2.1 (Or.inr (slot_ne (Or.inl (hw _ (List.mem_of_getElem? (i := 14) rfl))) (Or.inl (hw _ (List.mem_of_getElem? (i := 59) rfl))) (by decide) (t := .long) (t' := .long) (by decide) (by decide))), Fld.other W I.2.2.2.2.1 (Or.inr (slot_ne (Or.inl (hw _ (List.mem_of_getElem? (i := 16) rfl))) (Or.inl (hw _ (List.mem_of_getElem? (i := 59) rfl))) (by decide) (t := .long) (t' := .long) (by decide) (by decide))), Fld.other W I.2.2.2.2.2.1 (Or.inr (slot_ne (Or.inl (hw _ (List.mem_of_getElem? (i := 18) rfl))) (Or.inl (hw _ (List.mem_of_getElem? (i := 59) rfl))) (by decide) (t := .long) (t' := .long) (by decide) (by decide))), Fld.other W I.2.2.2.2.2.2.1 (Or.inr (slot_ne (Or.inl (hw _ (List.mem_of_getElem? (i := 20) rfl))) (Or.inl (hw _ (List.mem_of_getElem? (i := 59) rfl))) (by decide) (t := .long) (t' := .long) (by decide) (by decide))), Fld.other W I.2.2.2.2.2.2.2.1 (Or.inr (slot_ne (Or.inl (hw _ (List.mem_of_getElem? (i := 49) rfl))) (Or.inl (hw _ (List.mem_of_getElem? (i := 59) rfl))) (by decide) (t := .long) (t' := .long) (by decide) (by decide))), Fld.other W I.2.2.2.2.2.2.2.2.1 (Or.inr (slot_ne (Or.inl (hw _ (List.mem_of_getElem? (i := 74) rfl))) (Or.inl (hw _ (List.mem_of_getElem? (i := 59) rfl))) (by decide) (t := .long) (t' := .long) (by decide) (by decide))), Fld.other W I.2.2.2.2.2.2.2.2.2.1 (Or.inr (slot_ne (Or.inl (hw _ (List.mem_of_getElem? (i := 76) rfl))) (Or.inl (hw _ (List.mem_of_getElem? (i := 59) rfl))) (by decide) (t := .long) (t' := .long) (by decide) (by decide))), Fld.other W I.2.2.2.2.2.2.2.2.2.2.1 (Or.inr (slot_ne (Or.inl (hw _ (List.mem_of_getElem? (i := 78) rfl))) (Or.inl (hw _ (List.mem_of_getElem? (i := 59) rfl))) (by decide) (t := .long) (t' := .long) (by decide) (by decide))), Fld.other W I.2.2.2.2.2.2.2.2.2.2.2.1 (Or.inr (slot_ne (Or.inl (hw _ (List.mem_of_getElem? (i := 80) rfl))) (Or.inl (hw _ (List.mem_of_getElem? (i := 59) rfl))) (by decide) (t := .long) (t' := .long) (by decide) (by decide))), Fld.other W I.2.2.2.2.2.2.2.2.2.2.2.2.1 (Or.inr (slot_ne (Or.inl (hw _ (List.mem_of_getElem? (i := 87) rfl))) (Or.inl (hw _ (List.mem_of_getElem? (i := 59) rfl))) (by decide) (t := .long) (t' := .long) (by decide) (by decide))), Fld.same W I.2.2.2.2.2.2.2.2.2.2.2.2.2.1, Fld.other W I.2.2.2.2.2.2.2.2.2.2.2.2.2.2 (Or.inr (slot_ne (Or.inl (hw _ (List.mem_of_getElem? (i := 65) rfl))) (Or.inl (hw _ (List.mem_of_getElem? (i := 59) rfl))) (by decide) (t := .long) (t' := .long) (by decide) (by decide)))⟩
theorem own_I_put_columnCarries {Z : State} {h : Heap} {a : Addr} {v0 : Int64} {v1 : Int64} {v2 : Int64} {v3 : Int64} {v4 : Int64} {v5 : Int64} {v6 : Int64} {v7 : Int64} {v8 : Int64} {v9 : Int64} {v10 : Int64} {v11 : Int64} {v12 : Int64} {v13 : Int64} {h' : Heap} {a0 : Array Value} {w : Int64} (hw : ∀ d ∈ tables_1, d.before a0 Z = true) (W : Wr h h' a (Jvm.RoadKit.slotOf Z "com/example/nano_embed/nanoembed/geometry/Int384" "columnCarries" "J") (.long w)) (I : own_I Z h a v0 v1 v2 v3 v4 v5 v6 v7 v8 v9 v10 v11 v12 v13) : own_I Z h' a v0 v1 v2 v3 v4 v5 v6 v7 v8 v9 v10 v11 v12 w := ⟨Exa.wr W I.1, Fld.other W I.2.1 (Or.inr (slot_ne (Or.inl (hw _ (List.mem_of_getElem? (i := 10) rfl))) (Or.inl (hw _ (List.mem_of_getElem? (i := 65) rfl))) (by decide) (t := .long) (t' := .long) (by decide) (by decide))), Fld.other W I.2.2.1 (Or.inr (slot_ne (Or.inl (hw _ (List.mem_of_getElem? (i := 12) rfl))) (Or.inl (hw _ (List.mem_of_getElem? (i := 65) rfl))) (by decide) (t := .long) (t' := .long) (by decide) (by decide))), Fld.other W I.2.2.2.1 (Or.inr (slot_ne (Or.inl (hw _ (List.mem_of_getElem? (i := 14) rfl))) (Or.inl (hw _ (List.mem_of_getElem? (i := 65) rfl))) (by decide) (t := .long) (t' := .long) (by decide) (by decide))), Fld.other W I.2.2.2.2.1 (Or.inr (slot_ne (Or.inl (hw _ (List.mem_of_getElem? (i := 16) rfl))) (Or.inl (hw _ (List.mem_of_getElem? (i := 65) rfl))) (by decide) (t := .long) (t' := .long) (by decide) (by decide))), Fld.other W I.2.2.2.2.2.1 (Or.inr (slot_ne (Or.inl (hw _ (List.mem_of_getElem? (i := 18) rfl))) (Or.inl (hw _ (List.mem_of_getElem? (i := 65) rfl))) (by decide) (t := .long) (t' := .long) (by decide) (by decide))), Fld.other W I.2.2.2.2.2.2.1 (Or.inr (slot_ne (Or.inl (hw _ (List.mem_of_getElem? (i := 20) rfl))) (Or.inl (hw _ (List.mem_of_getElem? (i := 65) rfl))) (by decide) (t := .long) (t' := .long) (by decide) (by decide))), Fld.other W I.2.2.2.2.2.2.2.1 (Or.inr (slot_ne (Or.inl (hw _ (List.mem_of_getElem? (i := 49) rfl))) (Or.inl (hw _ (List.mem_of_getElem? (i := 65) rfl))) (by decide) (t := .long) (t' := .long) (by decide) (by decide))), Fld.other W I.2.2.2.2.2.2.2.2.1 (Or.inr (slot_ne (Or.inl (hw _ (List.mem_of_getElem? (i := 74) rfl))) (Or.inl (hw _ (List.mem_of_getElem? (i := 65) rfl))) (by decide) (t := .long) (t' := .long) (by decide) (by decide))), Fld.other W I.2.2.2.2.2.2.2.2.2.1 (Or.inr (slot_ne (Or.inl (hw _ (List.mem_of_getElem? (i := 76) rfl))) (Or.inl (hw _ (List.mem_of_getElem? (i := 65) rfl))) (by decide) (t := .long) (t' := .long) (by decide) (by decide))), Fld.other W I.2.2.2.2.2.2.2.2.2.2.1 (Or.inr (slot_ne (Or.inl (hw _ (List.mem_of_getElem? (i := 78) rfl))) (Or.inl (hw _ (List.mem_of_getElem? (i := 65) rfl))) (by decide) (t := .long) (t' := .long) (by decide) (by decide))), Fld.other W I.2.2.2.2.2.2.2.2.2.2.2.1 (Or.inr (slot_ne (Or.inl (hw _ (List.mem_of_getElem? (i := 80) rfl))) (Or.inl (hw _ (List.mem_of_getElem? (i := 65) rfl))) (by decide) (t := .long) (t' := .long) (by decide) (by decide))), Fld.other W I.2.2.2.2.2.2.2.2.2.2.2.2.1 (Or.inr (slot_ne (Or.inl (hw _ (List.mem_of_getElem? (i := 87) rfl))) (Or.inl (hw _ (List.mem_of_getElem? (i := 65) rfl))) (by decide) (t := .long) (t' := .long) (by decide) (by decide))), Fld.other W I.2.2.2.2.2.2.2.2.2.2.2.2.2.1 (Or.inr (slot_ne (Or.inl (hw _ (List.mem_of_getElem? (i := 59) rfl))) (Or.inl (hw _ (List.mem_of_getElem? (i := 65) rfl))) (by decide) (t := .long) (t' := .long) (by decide) (by decide))), Fld.same W I.2.2.2.2.2.2.2.2.2.2.2.2.2.2⟩
theorem own_I_ext {Z : State} {h : Heap} {a : Addr} {v0 : Int64} {v1 : Int64} {v2 : Int64} {v3 : Int64} {v4 : Int64} {v5 : Int64} {v6 : Int64} {v7 : Int64} {v8 : Int64} {v9 : Int64} {v10 : Int64} {v11 : Int64} {v12 : Int64} {v13 : Int64} {h' : Heap} (E : Ext h h') (I : own_I Z h a v0 v1 v2 v3 v4 v5 v6 v7 v8 v9 v10 v11 v12 v13) : own_I Z h' a v0 v1 v2 v3 v4 v5 v6 v7 v8 v9 v10 v11 v12 v13 := ⟨Exa.ext E I.1, Fld.ext E I.2.1, Fld.ext E I.2.2.1, Fld.ext E I.2.2.2.1, Fld.ext E I.2.2.2.2.1, Fld.ext E I.2.2.2.2.2.1, Fld.ext E I.2.2.2.2.2.2.1, Fld.ext E I.2.2.2.2.2.2.2.1, Fld.ext E I.2.2.2.2.2.2.2.2.1, Fld.ext E I.2.2.2.2.2.2.2.2.2.1, Fld.ext E I.2.2.2.2.2.2.2.2.2.2.1, Fld.ext E I.2.2.2.2.2.2.2.2.2.2.2.1, Fld.ext E I.2.2.2.2.2.2.2.2.2.2.2.2.1, Fld.ext E I.2.2.2.2.2.2.2.2.2.2.2.2.2.1, Fld.ext E I.2.2.2.2.2.2.2.2.2.2.2.2.2.2⟩
theorem own_I_wr {Z : State} {h : Heap} {a : Addr} {v0 : Int64} {v1 : Int64} {v2 : Int64} {v3 : Int64} {v4 : Int64} {v5 : Int64} {v6 : Int64} {v7 : Int64} {v8 : Int64} {v9 : Int64} {v10 : Int64} {v11 : Int64} {v12 : Int64} {v13 : Int64} {h' : Heap} {b : Addr} {sl : Nat} {w : Value} (W : Wr h h' b sl w) (q : a ≠ b) (I : own_I Z h a v0 v1 v2 v3 v4 v5 v6 v7 v8 v9 v10 v11 v12 v13) : own_I Z h' a v0 v1 v2 v3 v4 v5 v6 v7 v8 v9 v10 v11 v12 v13 := ⟨Exa.wr W I.1, Fld.other W I.2.1 (Or.inl q), Fld.other W I.2.2.1 (Or.inl q), Fld.other W I.2.2.2.1 (Or.inl q), Fld.other W I.2.2.2.2.1 (Or.inl q), Fld.other W I.2.2.2.2.2.1 (Or.inl q), Fld.other W I.2.2.2.2.2.2.1 (Or.inl q), Fld.other W I.2.2.2.2.2.2.2.1 (Or.inl q), Fld.other W I.2.2.2.2.2.2.2.2.1 (Or.inl q), Fld.other W I.2.2.2.2.2.2.2.2.2.1 (Or.inl q), Fld.other W I.2.2.2.2.2.2.2.2.2.2.1 (Or.inl q), Fld.other W I.2.2.2.2.2.2.2.2.2.2.2.1 (Or.inl q), Fld.other W I.2.2.2.2.2.2.2.2.2.2.2.2.1 (Or.inl q), Fld.other W I.2.2.2.2.2.2.2.2.2.2.2.2.2.1 (Or.inl q), Fld.other W I.2.2.2.2.2.2.2.2.2.2.2.2.2.2 (Or.inl q)⟩
theorem own_I_keep {Z : State} {h : Heap} {a : Addr} {v0 : Int64} {v1 : Int64} {v2 : Int64} {v3 : Int64} {v4 : Int64} {v5 : Int64} {v6 : Int64} {v7 : Int64} {v8 : Int64} {v9 : Int64} {v10 : Int64} {v11 : Int64} {v12 : Int64} {v13 : Int64} {h' : Heap} {ws : List Addr} (K : Keep h h' ws) (q : a ∉ ws) (I : own_I Z h a v0 v1 v2 v3 v4 v5 v6 v7 v8 v9 v10 v11 v12 v13) : own_I Z h' a v0 v1 v2 v3 v4 v5 v6 v7 v8 v9 v10 v11 v12 v13 := ⟨Exa.keep I.1 K, Fld.keep I.2.1 K q, Fld.keep I.2.2.1 K q, Fld.keep I.2.2.2.1 K q, Fld.keep I.2.2.2.2.1 K q, Fld.keep I.2.2.2.2.2.1 K q, Fld.keep I.2.2.2.2.2.2.1 K q, Fld.keep I.2.2.2.2.2.2.2.1 K q, Fld.keep I.2.2.2.2.2.2.2.2.1 K q, Fld.keep I.2.2.2.2.2.2.2.2.2.1 K q, Fld.keep I.2.2.2.2.2.2.2.2.2.2.1 K q, Fld.keep I.2.2.2.2.2.2.2.2.2.2.2.1 K q, Fld.keep I.2.2.2.2.2.2.2.2.2.2.2.2.1 K q, Fld.keep I.2.2.2.2.2.2.2.2.2.2.2.2.2.1 K q, Fld.keep I.2.2.2.2.2.2.2.2.2.2.2.2.2.2 K q⟩
theorem own_xor_neg (x y : Int64) : (x ^^^ y) < 0 ↔ (x < 0 ↔ ¬ y < 0) := by
  have e : (x ^^^ y).toBitVec.msb = (x.toBitVec.msb ^^ y.toBitVec.msb) := by rw [Int64.toBitVec_xor, BitVec.msb_xor]
  rw [own_msb_U, own_msb_U, own_msb_U] at e
  rw [own_U_neg_iff, own_U_neg_iff, own_U_neg_iff]
  by_cases h1 : 9223372036854775808 ≤ own_U x <;> by_cases h2 : 9223372036854775808 ≤ own_U y <;> simp [h1, h2] at e ⊢ <;> omega
theorem own_S3_neg (t h l : Int64) : own_S3 t h l < 0 ↔ t < 0 := by
  rw [Int64.lt_iff_toInt_lt, Int64.toInt_zero]
  unfold own_S3
  have := own_U_lt h; have := own_U_lt l
  omega
theorem own_P6_lt (p0 p1 p2 p3 p4 p5 : Int64) : own_P6 p0 p1 p2 p3 p4 p5 < 39402006196394479212279040100143613805079739270465446667948293404245721771497210611414266254884915640806627990306816 := by
  unfold own_P6
  have b0 := own_U_lt p0; have b1 := own_U_lt p1; have b2 := own_U_lt p2; have b3 := own_U_lt p3; have b4 := own_U_lt p4; have b5 := own_U_lt p5
  omega
theorem own_prod_same {a b : Int} (h : ¬ (a < 0 ↔ ¬ b < 0)) : ((a.natAbs * b.natAbs : Nat) : Int) = a * b := by
  rw [Int.natCast_mul]
  by_cases h1 : a < 0
  · have h2 : b < 0 := by by_cases h2 : b < 0; exact h2; exact absurd ⟨fun _ => h2, fun _ => h1⟩ h
    rw [show ((a.natAbs : Nat) : Int) = -a by omega, show ((b.natAbs : Nat) : Int) = -b by omega, Int.neg_mul_neg]
  · have h2 : ¬ b < 0 := by intro h2; exact h ⟨fun q => absurd q h1, fun q => absurd h2 q⟩
    rw [show ((a.natAbs : Nat) : Int) = a by omega, show ((b.natAbs : Nat) : Int) = b by omega]
theorem own_prod_diff {a b : Int} (h : a < 0 ↔ ¬ b < 0) : ((a.natAbs * b.natAbs : Nat) : Int) = -(a * b) := by
  rw [Int.natCast_mul]
  by_cases h1 : a < 0
  · have h2 : ¬ b < 0 := h.mp h1
    rw [show ((a.natAbs : Nat) : Int) = -a by omega, show ((b.natAbs : Nat) : Int) = b by omega, Int.neg_mul]
  · have h2 : b < 0 := by by_cases h2 : b < 0; exact h2; exact absurd (h.mpr h2) h1
    rw [show ((a.natAbs : Nat) : Int) = a by omega, show ((b.natAbs : Nat) : Int) = -b by omega, Int.mul_neg]
theorem own_add_same {P L : Nat} {t h l t' h' l' : Int64} (hP : P = (own_S3 t h l).natAbs * (own_S3 t' h' l').natAbs) (hx : ¬ (t ^^^ t') < 0) {R : Nat} (hR : R = (L + P) % 39402006196394479212279040100143613805079739270465446667948293404245721771497210611414266254884915640806627990306816) : (R : Int) = ((L : Int) + own_S3 t h l * own_S3 t' h' l') % 39402006196394479212279040100143613805079739270465446667948293404245721771497210611414266254884915640806627990306816 := by
  rw [own_xor_neg, ← own_S3_neg t h l, ← own_S3_neg t' h' l'] at hx
  have e := own_prod_same hx
  rw [← hP] at e
  generalize own_S3 t h l * own_S3 t' h' l' = w at *
  omega
theorem own_add_diff {P L : Nat} {t h l t' h' l' : Int64} (hP : P = (own_S3 t h l).natAbs * (own_S3 t' h' l').natAbs) (hlt : P < 39402006196394479212279040100143613805079739270465446667948293404245721771497210611414266254884915640806627990306816) (hx : (t ^^^ t') < 0) {R : Nat} (hR : R = (L + (39402006196394479212279040100143613805079739270465446667948293404245721771497210611414266254884915640806627990306816 - P)) % 39402006196394479212279040100143613805079739270465446667948293404245721771497210611414266254884915640806627990306816) : (R : Int) = ((L : Int) + own_S3 t h l * own_S3 t' h' l') % 39402006196394479212279040100143613805079739270465446667948293404245721771497210611414266254884915640806627990306816 := by
  rw [own_xor_neg, ← own_S3_neg t h l, ← own_S3_neg t' h' l'] at hx
  have e := own_prod_diff hx
  rw [← hP] at e
  generalize own_S3 t h l * own_S3 t' h' l' = w at *
  omega
theorem own_S3_bd {t h l : Int64} (h1 : -1152921504606846976 ≤ t.toInt) (h2 : t.toInt ≤ 1152921504606846975) : -392318858461667547739736838950479151006397215279002157056 ≤ own_S3 t h l ∧ own_S3 t h l ≤ 392318858461667547739736838950479151006397215279002157056 := by
  unfold own_S3
  have := own_U_lt h; have := own_U_lt l
  omega
theorem own_J_shr3 (x : Int64) : (x >>> ((3 : Int32) &&& 0x3f).toInt64).toInt = x.toInt / 8 := by
  have h : (x >>> ((3 : Int32) &&& 0x3f).toInt64).toBitVec = x.toBitVec.sshiftRight 3 := by
    show (x >>> (3 : Int64)).toBitVec = _
    rw [Int64.toBitVec_shiftRight]; rfl
  show (x >>> ((3 : Int32) &&& 0x3f).toInt64).toBitVec.toInt = _
  rw [h, BitVec.toInt_sshiftRight, Int.shiftRight_eq_div_pow]; rfl
theorem own_shr3_bd (x : Int64) : -1152921504606846976 ≤ (x >>> ((3 : Int32) &&& 0x3f).toInt64).toInt ∧ (x >>> ((3 : Int32) &&& 0x3f).toInt64).toInt ≤ 1152921504606846975 := by
  have h1 := Int64.le_toInt x; have h2 := Int64.toInt_lt x
  rw [own_J_shr3]; omega
theorem own_J_shr63 (x : Int64) : (x >>> ((63 : Int32) &&& 0x3f).toInt64).toInt = x.toInt / 9223372036854775808 := by
  have h : (x >>> ((63 : Int32) &&& 0x3f).toInt64).toBitVec = x.toBitVec.sshiftRight 63 := by
    show (x >>> (63 : Int64)).toBitVec = _
    rw [Int64.toBitVec_shiftRight]; rfl
  show (x >>> ((63 : Int32) &&& 0x3f).toInt64).toBitVec.toInt = _
  rw [h, BitVec.toInt_sshiftRight, Int.shiftRight_eq_div_pow]; rfl
def own_sg (x : Int64) : Int64 := x >>> ((63 : Int32) &&& 0x3f).toInt64
theorem own_sg_pos {x : Int64} (h : ¬ x < 0) : own_sg x = 0 := by
  rw [← Int64.toInt_inj]; unfold own_sg; rw [own_J_shr63, Int64.toInt_zero]
  rw [Int64.lt_iff_toInt_lt, Int64.toInt_zero] at h
  have := Int64.toInt_lt x; omega
theorem own_sg_neg {x : Int64} (h : x < 0) : own_sg x = -1 := by
  rw [← Int64.toInt_inj]; unfold own_sg; rw [own_J_shr63, show (-1 : Int64).toInt = -1 from rfl]
  rw [Int64.lt_iff_toInt_lt, Int64.toInt_zero] at h
  have := Int64.le_toInt x; omega
theorem own_sg_sg (x : Int64) : own_sg (own_sg x) = own_sg x := by
  by_cases h : x < 0
  · rw [own_sg_neg h]; rfl
  · rw [own_sg_pos h]; rfl
/-- the shift by k of 0 to 63, as the machine reckons it -/
def own_shr (x : Int64) (k : Int32) : Int64 := x >>> (k &&& 0x3f).toInt64
def own_fits (l1 l2 l3 l4 l5 : Int64) (b : Int32) : Int32 :=
  if l5 = own_sg l5 ∧ l4 = own_sg l5 ∧ l3 = own_sg l5 ∧ (if b < 128 then l2 = own_sg l5 ∧ own_shr l1 (b - 64) = own_sg l5 else own_shr l2 (b - 128) = own_sg l5) then 1 else 0
def own_inr (s w : Int64) (k : Int32) : Int32 :=
  if s = 0 then (if w < 0 then 0 else if k = 63 then 1 else if w < (1 : Int64) <<< (k &&& 0x3f).toInt64 then 1 else 0)
  else (if w < 0 then (if w < (-1 : Int64) <<< (k &&& 0x3f).toInt64 then 0 else 1) else 0)
/-- k from 0 to 63 -/
def own_k63 (k : Int32) : Prop := 0 ≤ k.toInt ∧ k.toInt ≤ 63
theorem own_k_eq {k : Int32} (h : own_k63 k) : (k &&& 0x3f).toInt64.toInt = k.toInt := by
  obtain ⟨h1, h2⟩ := h
  have e : k = Int32.ofInt k.toInt := by rw [Int32.ofInt_toInt]
  generalize k.toInt = j at h1 h2 e
  subst e
  have : ∀ i : Fin 64, ((Int32.ofInt (i.val : Int)) &&& 0x3f).toInt64.toInt = i.val := by decide
  have q := this ⟨j.toNat, by omega⟩
  simp only at q
  rw [show ((j.toNat : Nat) : Int) = j by omega] at q
  exact q
theorem own_shr_toInt {x : Int64} {k : Int32} (h : own_k63 k) : (own_shr x k).toInt = x.toInt / 2 ^ k.toInt.toNat := by
  have e := own_k_eq h
  have hb : (own_shr x k).toBitVec = x.toBitVec.sshiftRight k.toInt.toNat := by
    unfold own_shr
    rw [Int64.toBitVec_shiftRight]
    have : ((k &&& 0x3f).toInt64.toBitVec.smod 64).toNat = k.toInt.toNat := by
      obtain ⟨h1, h2⟩ := h
      have e2 : k = Int32.ofInt k.toInt := by rw [Int32.ofInt_toInt]
      generalize k.toInt = j at h1 h2 e2
      subst e2
      have : ∀ i : Fin 64, (((Int32.ofInt (i.val : Int)) &&& 0x3f).toInt64.toBitVec.smod 64).toNat = i.val := by decide
      have q := this ⟨j.toNat, by omega⟩
      simp only at q
      rw [show ((j.toNat : Nat) : Int) = j by omega] at q
      exact q
    rw [BitVec.sshiftRight'] 
    rw [this]
  show (own_shr x k).toBitVec.toInt = _
  rw [hb, BitVec.toInt_sshiftRight, Int.shiftRight_eq_div_pow]; norm_cast
theorem own_one_shl {k : Int32} (h : own_k63 k) (h' : k ≠ 63) : ((1 : Int64) <<< (k &&& 0x3f).toInt64).toInt = 2 ^ k.toInt.toNat := by
  obtain ⟨h1, h2⟩ := h
  have e : k = Int32.ofInt k.toInt := by rw [Int32.ofInt_toInt]
  have h3 : k.toInt ≠ 63 := fun q => h' (by rw [e, q]; rfl)
  generalize k.toInt = j at h1 h2 h3 e
  subst e
  have : ∀ i : Fin 63, ((1 : Int64) <<< ((Int32.ofInt (i.val : Int)) &&& 0x3f).toInt64).toInt = 2 ^ i.val := by decide +kernel
  have q := this ⟨j.toNat, by omega⟩
  simp only at q
  rw [show ((j.toNat : Nat) : Int) = j by omega] at q
  exact q
theorem own_mone_shl {k : Int32} (h : own_k63 k) : ((-1 : Int64) <<< (k &&& 0x3f).toInt64).toInt = -2 ^ k.toInt.toNat := by
  obtain ⟨h1, h2⟩ := h
  have e : k = Int32.ofInt k.toInt := by rw [Int32.ofInt_toInt]
  generalize k.toInt = j at h1 h2 e
  subst e
  have : ∀ i : Fin 64, ((-1 : Int64) <<< ((Int32.ofInt (i.val : Int)) &&& 0x3f).toInt64).toInt = -2 ^ i.val := by decide +kernel
  have q := this ⟨j.toNat, by omega⟩
  simp only at q
  rw [show ((j.toNat : Nat) : Int) = j by omega] at q
  exact q
theorem own_pow_pos (n : Nat) : (1 : Int) ≤ 2 ^ n := by
  have : 0 < 2 ^ n := Nat.pos_of_ne_zero (by simp)
  have h : ((2 ^ n : Nat) : Int) = (2 : Int) ^ n := by push_cast; rfl
  omega
theorem own_shr_zero {w : Int64} {k : Int32} (h : own_k63 k) (hw : ¬ w < 0) : own_shr w k = 0 ↔ w.toInt < 2 ^ k.toInt.toNat := by
  rw [← Int64.toInt_inj, own_shr_toInt h, Int64.toInt_zero]
  rw [Int64.lt_iff_toInt_lt, Int64.toInt_zero] at hw
  have hp := own_pow_pos k.toInt.toNat
  generalize (2 : Int) ^ k.toInt.toNat = P at *
  constructor
  · intro q
    by_cases z : w.toInt < P
    · exact z
    · have h1 := Int.emod_nonneg w.toInt (b := P) (by omega)
      have h2 := Int.emod_lt_of_pos w.toInt (b := P) (by omega)
      have h3 := Int.mul_ediv_add_emod w.toInt P
      rw [q] at h3; omega
  · intro q; exact Int.ediv_eq_zero_of_lt (by omega) q
theorem own_shr_mone {w : Int64} {k : Int32} (h : own_k63 k) (hw : w < 0) : own_shr w k = -1 ↔ -2 ^ k.toInt.toNat ≤ w.toInt := by
  rw [← Int64.toInt_inj, own_shr_toInt h, show (-1 : Int64).toInt = -1 from rfl]
  rw [Int64.lt_iff_toInt_lt, Int64.toInt_zero] at hw
  have hp := own_pow_pos k.toInt.toNat
  generalize (2 : Int) ^ k.toInt.toNat = P at *
  have h1 := Int.emod_nonneg w.toInt (b := P) (by omega)
  have h2 := Int.emod_lt_of_pos w.toInt (b := P) (by omega)
  have h3 := Int.mul_ediv_add_emod w.toInt P
  constructor
  · intro q; rw [q] at h3; omega
  · intro q
    by_cases z : w.toInt / P < -1
    · have : P * (w.toInt / P) ≤ P * (-2) := Int.mul_le_mul_of_nonneg_left (by omega) (by omega)
      omega
    · by_cases z2 : 0 ≤ w.toInt / P
      · have : 0 ≤ P * (w.toInt / P) := Int.mul_nonneg (by omega) z2
        omega
      · omega
theorem own_shr_sign {w : Int64} {k : Int32} (h : own_k63 k) : (own_shr w k = 0 → ¬ w < 0) ∧ (own_shr w k = -1 → w < 0) := by
  rw [← Int64.toInt_inj, ← Int64.toInt_inj, own_shr_toInt h, Int64.toInt_zero, show (-1 : Int64).toInt = -1 from rfl, Int64.lt_iff_toInt_lt, Int64.toInt_zero]
  have hp := own_pow_pos k.toInt.toNat
  generalize (2 : Int) ^ k.toInt.toNat = P at *
  have h1 := Int.emod_nonneg w.toInt (b := P) (by omega)
  have h2 := Int.emod_lt_of_pos w.toInt (b := P) (by omega)
  have h3 := Int.mul_ediv_add_emod w.toInt P
  constructor
  · intro q; rw [q] at h3; omega
  · intro q; rw [q] at h3; omega
theorem own_inr_eq {w : Int64} {k : Int32} (h : own_k63 k) : own_inr (own_sg w) w k = if own_shr w k = own_sg w then 1 else 0 := by
  unfold own_inr
  by_cases hw : w < 0
  · rw [own_sg_neg hw, if_neg (by decide), if_pos hw]
    have e := own_shr_mone h hw
    have f : w < (-1 : Int64) <<< (k &&& 0x3f).toInt64 ↔ w.toInt < -2 ^ k.toInt.toNat := by rw [Int64.lt_iff_toInt_lt, own_mone_shl h]
    by_cases q : w.toInt < -2 ^ k.toInt.toNat
    · rw [if_pos (f.mpr q), if_neg (fun z => by have := e.mp z; omega)]
    · rw [if_neg (fun z => q (f.mp z)), if_pos (e.mpr (by omega))]
  · rw [own_sg_pos hw, if_pos rfl, if_neg hw]
    have e := own_shr_zero h hw
    by_cases k3 : k = 63
    · rw [if_pos k3, if_pos (e.mpr (by have := Int64.toInt_lt w; rw [k3]; exact this))]
    · have f : w < (1 : Int64) <<< (k &&& 0x3f).toInt64 ↔ w.toInt < 2 ^ k.toInt.toNat := by rw [Int64.lt_iff_toInt_lt, own_one_shl h k3]
      rw [if_neg k3]
      by_cases q : w.toInt < 2 ^ k.toInt.toNat
      · rw [if_pos (f.mpr q), if_pos (e.mpr q)]
      · rw [if_neg (fun z => q (f.mp z)), if_neg (fun z => q (e.mp z))]
theorem own_sg_cases (x : Int64) : own_sg x = 0 ∨ own_sg x = -1 := by
  by_cases h : x < 0
  · exact Or.inr (own_sg_neg h)
  · exact Or.inl (own_sg_pos h)
theorem own_shr_sg {w t : Int64} {k : Int32} (h : own_k63 k) (e : own_shr w k = own_sg t) : own_sg w = own_sg t := by
  rcases own_sg_cases t with q | q
  · rw [q] at e ⊢; exact own_sg_pos ((own_shr_sign h).1 e)
  · rw [q] at e ⊢; exact own_sg_neg ((own_shr_sign h).2 e)
theorem own_and127 (x : Int32) : 64 ≤ ((64 : Int32) + (x &&& (127 : Int32))).toInt ∧ ((64 : Int32) + (x &&& (127 : Int32))).toInt ≤ 191 := by
  have h : (x &&& 127).toBitVec.toNat < 128 := by
    rw [Int32.toBitVec_and, BitVec.toNat_and]
    exact Nat.and_lt_two_pow (n := 7) _ (by decide)
  have e : (x &&& 127).toInt = ((x &&& 127).toBitVec.toNat : Int) := by
    show (x &&& 127).toBitVec.toInt = _
    rw [BitVec.toInt_eq_toNat_cond]; split <;> omega
  rw [Int32.toInt_add, e, show (64 : Int32).toInt = 64 from rfl, Int.bmod_eq_of_le (by omega) (by omega)]
  omega
theorem own_k64 {b : Int32} (h : 64 ≤ b.toInt ∧ b.toInt ≤ 191) (hb : b < 128) : own_k63 (b - 64) := by
  rw [Int32.lt_iff_toInt_lt, show (128 : Int32).toInt = 128 from rfl] at hb
  unfold own_k63
  rw [Int32.toInt_sub, show (64 : Int32).toInt = 64 from rfl, Int.bmod_eq_of_le (by omega) (by omega)]; omega
theorem own_k128 {b : Int32} (h : 64 ≤ b.toInt ∧ b.toInt ≤ 191) (hb : ¬ b < 128) : own_k63 (b - 128) := by
  rw [Int32.lt_iff_toInt_lt, show (128 : Int32).toInt = 128 from rfl] at hb
  unfold own_k63
  rw [Int32.toInt_sub, show (128 : Int32).toInt = 128 from rfl, Int.bmod_eq_of_le (by omega) (by omega)]; omega
/-- kind 0 -/
theorem own_law0 {t h : Int64} {b : Int32} (hB : 64 ≤ b.toInt ∧ b.toInt ≤ 191) (hb : ¬ b < 128) : own_fits h t (own_sg t) (own_sg t) (own_sg t) b = own_inr (own_sg t) t (b - 128) := by
  rw [own_inr_eq (own_k128 hB hb)]
  unfold own_fits
  simp only [own_sg_sg, if_neg hb, true_and]
theorem own_law0' {t h : Int64} {b : Int32} (hB : 64 ≤ b.toInt ∧ b.toInt ≤ 191) (hb : b < 128) : own_fits h t (own_sg t) (own_sg t) (own_sg t) b = if t = own_sg h then (if own_inr (own_sg h) h (b - 64) = 0 then 0 else 1) else 0 := by
  have hk := own_k64 hB hb
  rw [own_inr_eq hk]
  unfold own_fits
  simp only [own_sg_sg, if_pos hb, true_and]
  by_cases q : t = own_sg h
  · rw [if_pos q]
    by_cases r : own_shr h (b - 64) = own_sg h
    · rw [if_pos (show t = own_sg t ∧ own_shr h (b - 64) = own_sg t by rw [q, own_sg_sg]; exact ⟨rfl, r⟩), if_pos r]; rfl
    · rw [if_neg (show ¬ (t = own_sg t ∧ own_shr h (b - 64) = own_sg t) by rw [q, own_sg_sg]; exact fun z => r z.2), if_neg r]; rfl
  · rw [if_neg q, if_neg]
    rintro ⟨z1, z2⟩
    exact q (z1.trans (own_shr_sg hk z2).symm)
/-- kind 1: what the limbs are -/
theorem own_S3_one : own_S3 1 0 0 = 340282366920938463463374607431768211456 := rfl
theorem own_sg_U (x : Int64) : own_U (own_sg x) = if x < 0 then 18446744073709551615 else 0 := by
  by_cases h : x < 0
  · rw [own_sg_neg h, if_pos h]; rfl
  · rw [own_sg_pos h, if_neg h]; rfl
theorem own_limbs1 {l0 l1 l2 l3 l4 l5 y h l : Int64} (hw : (own_P6 l0 l1 l2 l3 l4 l5 : Int) = (((own_P6 0 0 0 0 0 0 : Nat) : Int) + own_S3 y h l * own_S3 1 0 0) % 39402006196394479212279040100143613805079739270465446667948293404245721771497210611414266254884915640806627990306816) : l1 = 0 ∧ l2 = l ∧ l3 = h ∧ l4 = y ∧ l5 = own_sg y := by
  have z : own_P6 0 0 0 0 0 0 = 0 := rfl
  rw [z, Int.natCast_zero, Int.zero_add, own_S3_one] at hw
  unfold own_P6 own_S3 at hw
  have b0 := own_U_lt l0; have b1 := own_U_lt l1; have b2 := own_U_lt l2; have b3 := own_U_lt l3; have b4 := own_U_lt l4; have b5 := own_U_lt l5
  have c1 := own_U_lt y; have c2 := own_U_lt h; have c3 := own_U_lt l; have ey := own_U_toInt y; have sy := own_sg_U y; have ny := own_U_neg_iff y
  have key : own_U l1 = 0 ∧ own_U l2 = own_U l ∧ own_U l3 = own_U h ∧ own_U l4 = own_U y ∧ own_U l5 = own_U (own_sg y) := by
    by_cases q : y < 0
    · rw [if_pos q] at sy; have := ny.mp q; rw [if_neg (by omega)] at ey; rw [sy]; omega
    · rw [if_neg q] at sy; have : ¬ 9223372036854775808 ≤ own_U y := fun w => q (ny.mpr w)
      rw [if_pos (by omega)] at ey; rw [sy]; omega
  exact ⟨own_U_inj key.1, own_U_inj key.2.1, own_U_inj key.2.2.1, own_U_inj key.2.2.2.1, own_U_inj key.2.2.2.2⟩
theorem own_shr_0 (k : Int32) (h : own_k63 k) : own_shr 0 k = 0 := by
  rw [← Int64.toInt_inj, own_shr_toInt h, Int64.toInt_zero]; simp
theorem own_law1 {y h l : Int64} {b : Int32} (hB : 64 ≤ b.toInt ∧ b.toInt ≤ 191) : own_fits 0 l h y (own_sg y) b = if ((y ||| h) ||| l) = 0 then 1 else if b < 128 then 0 else if h = own_sg l then (if y = own_sg l then (if own_inr (own_sg l) l (b - 128) = 0 then 0 else 1) else 0) else 0 := by
  have hz : ((y ||| h) ||| l) = 0 ↔ (y = 0 ∧ h = 0) ∧ l = 0 := by rw [own_U_or_zero, own_U_or_zero]
  unfold own_fits
  simp only [own_sg_sg, true_and, hz]
  by_cases q : (y = 0 ∧ h = 0) ∧ l = 0
  · rw [if_pos q]
    obtain ⟨⟨rfl, rfl⟩, rfl⟩ := q
    have s0 : own_sg 0 = 0 := rfl
    rw [s0, if_pos]
    refine ⟨rfl, rfl, ?_⟩
    by_cases hb : b < 128
    · rw [if_pos hb]; exact ⟨rfl, own_shr_0 _ (own_k64 hB hb)⟩
    · rw [if_neg hb]; exact own_shr_0 _ (own_k128 hB hb)
  · rw [if_neg q]
    by_cases hb : b < 128
    · simp only [if_pos hb]
      rw [if_neg]
      rintro ⟨z1, z2, z3, z4⟩
      rw [own_shr_0 _ (own_k64 hB hb)] at z4
      rw [← z4] at z1 z2 z3
      exact q ⟨⟨z1, z2⟩, z3⟩
    · simp only [if_neg hb]
      have hk := own_k128 hB hb
      rw [own_inr_eq hk]
      by_cases r : own_shr l (b - 128) = own_sg y
      · have e := own_shr_sg hk r
        rw [e]
        by_cases z1 : h = own_sg y
        · by_cases z2 : y = own_sg y
          · rw [if_pos ⟨z2, z1, r⟩, if_pos z1, if_pos z2, if_pos r, if_neg (by decide)]
          · rw [if_neg (fun w => z2 w.1), if_pos z1, if_neg z2]
        · rw [if_neg (fun w => z1 w.2.1), if_neg z1]
      · rw [if_neg (fun w => r w.2.2)]
        by_cases z1 : h = own_sg l
        · by_cases z2 : y = own_sg l
          · rw [if_pos z1, if_pos z2]
            by_cases r2 : own_shr l (b - 128) = own_sg l
            · exact absurd (r2.trans (by rw [z2, own_sg_sg])) r
            · rw [if_neg r2, if_pos rfl]
          · rw [if_pos z1, if_neg z2]
        · rw [if_neg z1]
/-- kind 2 -/
theorem own_S3_top (z : Int64) : own_S3 z 0 0 = z.toInt * 340282366920938463463374607431768211456 := by
  unfold own_S3; rw [own_U_zero]; omega
theorem own_law2 {l0 l1 l2 l3 l4 l5 z : Int64} {b : Int32} (hB : 64 ≤ b.toInt ∧ b.toInt ≤ 191) (hz : -1152921504606846976 ≤ z.toInt ∧ z.toInt ≤ 1152921504606846975) (hw : (own_P6 l0 l1 l2 l3 l4 l5 : Int) = (((own_P6 0 0 0 0 0 0 : Nat) : Int) + own_S3 z 0 0 * own_S3 2305843009213693952 0 0) % 39402006196394479212279040100143613805079739270465446667948293404245721771497210611414266254884915640806627990306816) : own_fits l1 l2 l3 l4 l5 b = if z = 0 then 1 else 0 := by
  have e0 : own_P6 0 0 0 0 0 0 = 0 := rfl
  have e1 : own_S3 2305843009213693952 0 0 = 784637716923335095479473677900958302012794430558004314112 := rfl
  rw [e0, Int.natCast_zero, Int.zero_add, e1, own_S3_top] at hw
  unfold own_P6 at hw
  have b0 := own_U_lt l0; have b1 := own_U_lt l1; have b2 := own_U_lt l2; have b3 := own_U_lt l3; have b4 := own_U_lt l4; have b5 := own_U_lt l5
  unfold own_fits
  by_cases q : z = 0
  · rw [if_pos q]
    rw [q, Int64.toInt_zero] at hw
    have k : own_U l1 = 0 ∧ own_U l2 = 0 ∧ own_U l3 = 0 ∧ own_U l4 = 0 ∧ own_U l5 = 0 := by omega
    rw [← own_U_zero_iff, ← own_U_zero_iff, ← own_U_zero_iff, ← own_U_zero_iff, ← own_U_zero_iff] at k
    obtain ⟨rfl, rfl, rfl, rfl, rfl⟩ := k
    have s0 : own_sg 0 = 0 := rfl
    rw [s0, if_pos]
    refine ⟨rfl, rfl, rfl, ?_⟩
    by_cases hb : b < 128
    · rw [if_pos hb]; exact ⟨rfl, own_shr_0 _ (own_k64 hB hb)⟩
    · rw [if_neg hb]; exact own_shr_0 _ (own_k128 hB hb)
  · rw [if_neg q, if_neg]
    rintro ⟨z1, z2, z3, -⟩
    have hz0 : z.toInt ≠ 0 := fun w => q (by rw [← Int64.toInt_inj, w]; rfl)
    have k3 : own_U l3 = 0 := by omega
    have k3' : l3 = 0 := (own_U_zero_iff l3).mpr k3
    rw [k3'] at z3
    rw [← z3] at z1 z2
    have u4 := (own_U_zero_iff l4).mp z2; have u5 := (own_U_zero_iff l5).mp z1
    rw [u4, u5] at hw
    omega
theorem own_law3 {b : Int32} (hB : 64 ≤ b.toInt ∧ b.toInt ≤ 191) : own_fits 0 0 0 0 0 b = 1 := by
  have s0 : own_sg 0 = 0 := rfl
  unfold own_fits
  rw [s0, if_pos]
  refine ⟨rfl, rfl, rfl, ?_⟩
  by_cases hb : b < 128
  · rw [if_pos hb]; exact ⟨rfl, own_shr_0 _ (own_k64 hB hb)⟩
  · rw [if_neg hb]; exact own_shr_0 _ (own_k128 hB hb)
theorem ef_nh (m : MethodId) (x0 : Int64) (x1 : Int64) : entryFrame m #[(.long x0), (.long x1)] 4 = mkF m 0 #[.val (.long x0), .second, .val (.long x1), .second] [] := by first | (simp [entryFrame, mkF, argsToLocals, Value.category]; done) | rfl
theorem pn_com_example_nano_embed_nanoembed_geometry_Int128 : plainName "com/example/nano_embed/nanoembed/geometry/Int128" = true := by first | (simp [plainName, overriddenIn]; done) | decide +kernel
theorem d_prog_28_method_4_0 : decode prog_28_method_4_code 0 = .ok (.lload_n 0, 1) := by decide +kernel
theorem d_prog_28_method_4_1 : decode prog_28_method_4_code 1 = .ok (.ldc2_w 37, 3) := by decide +kernel
theorem d_prog_28_method_4_4 : decode prog_28_method_4_code 4 = .ok (.lxor, 1) := by decide +kernel
theorem d_prog_28_method_4_5 : decode prog_28_method_4_code 5 = .ok (.lload_n 2, 1) := by decide +kernel
theorem d_prog_28_method_4_6 : decode prog_28_method_4_code 6 = .ok (.lconst 0, 1) := by decide +kernel
theorem d_prog_28_method_4_7 : decode prog_28_method_4_code 7 = .ok (.lcmp, 1) := by decide +kernel
theorem d_prog_28_method_4_8 : decode prog_28_method_4_code 8 = .ok (.ifCond .ne 7, 3) := by decide +kernel
theorem d_prog_28_method_4_11 : decode prog_28_method_4_code 11 = .ok (.iconst 1, 1) := by decide +kernel
theorem d_prog_28_method_4_12 : decode prog_28_method_4_code 12 = .ok (.goto 4, 3) := by decide +kernel
theorem d_prog_28_method_4_15 : decode prog_28_method_4_code 15 = .ok (.iconst 0, 1) := by decide +kernel
theorem d_prog_28_method_4_16 : decode prog_28_method_4_code 16 = .ok (.i2l, 1) := by decide +kernel
theorem d_prog_28_method_4_17 : decode prog_28_method_4_code 17 = .ok (.ladd, 1) := by decide +kernel
theorem d_prog_28_method_4_18 : decode prog_28_method_4_code 18 = .ok (.lreturn, 1) := by decide +kernel
set_option maxRecDepth 65536 in
set_option maxHeartbeats 40000000 in
theorem rm_nh (l : Launch) (Z : State) (a0 : Array Value) (hw : ∀ d ∈ tables_1, d.before a0 Z = true) (q1 q2 : Int64) (h0 : Heap) :
    OwCon l Z (⟨"com/example/nano_embed/nanoembed/geometry/Int128", "negatedHigh", "(JJ)J"⟩ : MethodName) prog_28_method_4_code 4 (some .long) [] ({ frames := 0, cells := 0, slots := 0, locals := 0 } : Room) #[(.long q1), (.long q2)] h0 (OwRet (some (.long (own_nh q1 q2))) h0) := by
  refine OwCon.of (plainFor_of_name pn_com_example_nano_embed_nanoembed_geometry_Int128) ?_
  intro p e s m below meth cd_ s₁ X0 hx hby hml hret hlk hown hnm hZ e0
  refine GoOn.st (fun t_ k_ => castTop (ef_nh m q1 q2) k_) ?_
  show GoOn _ _ _ _ (s₁.setTop (mkF m 0 #[.val (.long q1), .second, .val (.long q2), .second] []))
  refine GoOn.st (fun t_ k_ => XS.lloadN X0.here hx rfl (hb hby d_prog_28_method_4_0) rfl k_) ?_
  refine GoOn.st (fun t_ k_ => X0.ldc2Long hx hown (mvT hZ (hw _ (List.mem_of_getElem? (i := 42) rfl))) (g := (mkF m 1 #[.val (.long q1), .second, .val (.long q2), .second] [(.long q1)])) rfl (hb hby d_prog_28_method_4_1) _ k_) ?_
  refine GoOn.st (fun t_ k_ => XS.lxor X0.here hx rfl (hb hby d_prog_28_method_4_4) rfl k_) ?_
  refine GoOn.st (fun t_ k_ => XS.lloadN X0.here hx rfl (hb hby d_prog_28_method_4_5) rfl k_) ?_
  show GoOn _ _ _ _ (s₁.setTop (mkF m 6 #[.val (.long q1), .second, .val (.long q2), .second] [(.long q2), (.long (q1 ^^^ (-1 : Int64)))]))
  refine GoOn.st (fun t_ k_ => XS.lconst X0.here hx rfl (hb hby d_prog_28_method_4_6)  k_) ?_
  refine GoOn.st (fun t_ k_ => XS.lcmp X0.here hx rfl (hb hby d_prog_28_method_4_7) rfl k_) ?_
  have dm1 : ∀ zz : Int32, zz = (if q2 = (0 : Int64) then (1 : Int32) else (0 : Int32)) → ∀ t_, Steps p.tables e below (s₁.setTop (mkF m 16 #[.val (.long q1), .second, .val (.long q2), .second] [(.int zz), (.long (q1 ^^^ (-1 : Int64)))])) t_ → Steps p.tables e below (s₁.setTop (mkF m 8 #[.val (.long q1), .second, .val (.long q2), .second] [(.int (lcmpW q2 (0 : Int64))), (.long (q1 ^^^ (-1 : Int64)))])) t_ := by
    intro zz hzz t_ k_; by_cases hc : q2 = (0 : Int64)
    · rw [hzz.trans (if_pos hc)] at k_
      refine XS.ifNo X0.here hx rfl (hb hby d_prog_28_method_4_8) rfl ((if0 _ _).trans (teq ((lw_eq q2 (0 : Int64)).mpr hc)).2) ?_
      show Steps _ _ _ (s₁.setTop (mkF m 11 #[.val (.long q1), .second, .val (.long q2), .second] [(.long (q1 ^^^ (-1 : Int64)))])) _
      refine XS.iconst X0.here hx rfl (hb hby d_prog_28_method_4_11) ?_
      show Steps _ _ _ (s₁.setTop (mkF m 12 #[.val (.long q1), .second, .val (.long q2), .second] [(.int (1 : Int32)), (.long (q1 ^^^ (-1 : Int64)))])) _
      exact XS.goto X0.here hx rfl (pc0 := 12) (pc' := 16) rfl (hb hby d_prog_28_method_4_12) (by decide) (by decide) k_
    · rw [hzz.trans (if_neg hc)] at k_
      refine XS.ifYes X0.here hx rfl (pc0 := 8) (pc' := 15) rfl (hb hby d_prog_28_method_4_8) rfl ((if0 _ _).trans (feq (fun q => hc ((lw_eq q2 (0 : Int64)).mp q))).2) (by decide) (by decide) ?_
      show Steps _ _ _ (s₁.setTop (mkF m 15 #[.val (.long q1), .second, .val (.long q2), .second] [(.long (q1 ^^^ (-1 : Int64)))])) _
      exact XS.iconst X0.here hx rfl (hb hby d_prog_28_method_4_15) k_
  refine GoOn.st (dm1 _ rfl) ?_
  refine GoOn.st (fun t_ k_ => XS.i2l X0.here hx rfl (hb hby d_prog_28_method_4_16) rfl k_) ?_
  show GoOn _ _ _ _ (s₁.setTop (mkF m 17 #[.val (.long q1), .second, .val (.long q2), .second] [(.long (((if q2 = (0 : Int64) then (1 : Int32) else (0 : Int32))).toInt64)), (.long (q1 ^^^ (-1 : Int64)))]))
  refine GoOn.st (fun t_ k_ => XS.ladd X0.here hx rfl (hb hby d_prog_28_method_4_17) rfl k_) ?_
  show GoOn _ _ _ _ (s₁.setTop (mkF m 18 #[.val (.long q1), .second, .val (.long q2), .second] [(.long ((q1 ^^^ (-1 : Int64)) + (((if q2 = (0 : Int64) then (1 : Int32) else (0 : Int32))).toInt64)))]))
  exact GoOn.retJ X0 hx hlk hret (hb hby d_prog_28_method_4_18) (by rw [e0]; exact ⟨rfl, rfl, rfl⟩) (by decide) (by decide)
theorem ef_mulh (m : MethodId) (x0 : Int64) (x1 : Int64) : entryFrame m #[(.long x0), (.long x1)] 20 = mkF m 0 #[.val (.long x0), .second, .val (.long x1), .second, .unset, .unset, .unset, .unset, .unset, .unset, .unset, .unset, .unset, .unset, .unset, .unset, .unset, .unset, .unset, .unset] [] := by first | (simp [entryFrame, mkF, argsToLocals, Value.category]; done) | rfl
theorem d_jdk_29_method_45_0 : decode jdk_29_method_45_code 0 = .ok (.lload_n 0, 1) := by decide +kernel
theorem d_jdk_29_method_45_1 : decode jdk_29_method_45_code 1 = .ok (.bipush 32, 2) := by decide +kernel
theorem d_jdk_29_method_45_3 : decode jdk_29_method_45_code 3 = .ok (.lshr, 1) := by decide +kernel
theorem d_jdk_29_method_45_4 : decode jdk_29_method_45_code 4 = .ok (.lstore 4, 2) := by decide +kernel
theorem d_jdk_29_method_45_6 : decode jdk_29_method_45_code 6 = .ok (.lload_n 0, 1) := by decide +kernel
theorem d_jdk_29_method_45_7 : decode jdk_29_method_45_code 7 = .ok (.ldc2_w 138, 3) := by decide +kernel
theorem d_jdk_29_method_45_10 : decode jdk_29_method_45_code 10 = .ok (.land, 1) := by decide +kernel
theorem d_jdk_29_method_45_11 : decode jdk_29_method_45_code 11 = .ok (.lstore 6, 2) := by decide +kernel
theorem d_jdk_29_method_45_13 : decode jdk_29_method_45_code 13 = .ok (.lload_n 2, 1) := by decide +kernel
theorem d_jdk_29_method_45_14 : decode jdk_29_method_45_code 14 = .ok (.bipush 32, 2) := by decide +kernel
theorem d_jdk_29_method_45_16 : decode jdk_29_method_45_code 16 = .ok (.lshr, 1) := by decide +kernel
theorem d_jdk_29_method_45_17 : decode jdk_29_method_45_code 17 = .ok (.lstore 8, 2) := by decide +kernel
theorem d_jdk_29_method_45_19 : decode jdk_29_method_45_code 19 = .ok (.lload_n 2, 1) := by decide +kernel
theorem d_jdk_29_method_45_20 : decode jdk_29_method_45_code 20 = .ok (.ldc2_w 138, 3) := by decide +kernel
theorem d_jdk_29_method_45_23 : decode jdk_29_method_45_code 23 = .ok (.land, 1) := by decide +kernel
theorem d_jdk_29_method_45_24 : decode jdk_29_method_45_code 24 = .ok (.lstore 10, 2) := by decide +kernel
theorem d_jdk_29_method_45_26 : decode jdk_29_method_45_code 26 = .ok (.lload 6, 2) := by decide +kernel
theorem d_jdk_29_method_45_28 : decode jdk_29_method_45_code 28 = .ok (.lload 10, 2) := by decide +kernel
theorem d_jdk_29_method_45_30 : decode jdk_29_method_45_code 30 = .ok (.lmul, 1) := by decide +kernel
theorem d_jdk_29_method_45_31 : decode jdk_29_method_45_code 31 = .ok (.lstore 12, 2) := by decide +kernel
theorem d_jdk_29_method_45_33 : decode jdk_29_method_45_code 33 = .ok (.lload 4, 2) := by decide +kernel
theorem d_jdk_29_method_45_35 : decode jdk_29_method_45_code 35 = .ok (.lload 10, 2) := by decide +kernel
theorem d_jdk_29_method_45_37 : decode jdk_29_method_45_code 37 = .ok (.lmul, 1) := by decide +kernel
theorem d_jdk_29_method_45_38 : decode jdk_29_method_45_code 38 = .ok (.lload 12, 2) := by decide +kernel
theorem d_jdk_29_method_45_40 : decode jdk_29_method_45_code 40 = .ok (.bipush 32, 2) := by decide +kernel
theorem d_jdk_29_method_45_42 : decode jdk_29_method_45_code 42 = .ok (.lushr, 1) := by decide +kernel
theorem d_jdk_29_method_45_43 : decode jdk_29_method_45_code 43 = .ok (.ladd, 1) := by decide +kernel
theorem d_jdk_29_method_45_44 : decode jdk_29_method_45_code 44 = .ok (.lstore 14, 2) := by decide +kernel
theorem d_jdk_29_method_45_46 : decode jdk_29_method_45_code 46 = .ok (.lload 14, 2) := by decide +kernel
theorem d_jdk_29_method_45_48 : decode jdk_29_method_45_code 48 = .ok (.ldc2_w 138, 3) := by decide +kernel
theorem d_jdk_29_method_45_51 : decode jdk_29_method_45_code 51 = .ok (.land, 1) := by decide +kernel
theorem d_jdk_29_method_45_52 : decode jdk_29_method_45_code 52 = .ok (.lstore 16, 2) := by decide +kernel
theorem d_jdk_29_method_45_54 : decode jdk_29_method_45_code 54 = .ok (.lload 14, 2) := by decide +kernel
theorem d_jdk_29_method_45_56 : decode jdk_29_method_45_code 56 = .ok (.bipush 32, 2) := by decide +kernel
theorem d_jdk_29_method_45_58 : decode jdk_29_method_45_code 58 = .ok (.lshr, 1) := by decide +kernel
theorem d_jdk_29_method_45_59 : decode jdk_29_method_45_code 59 = .ok (.lstore 18, 2) := by decide +kernel
theorem d_jdk_29_method_45_61 : decode jdk_29_method_45_code 61 = .ok (.lload 16, 2) := by decide +kernel
theorem d_jdk_29_method_45_63 : decode jdk_29_method_45_code 63 = .ok (.lload 6, 2) := by decide +kernel
theorem d_jdk_29_method_45_65 : decode jdk_29_method_45_code 65 = .ok (.lload 8, 2) := by decide +kernel
theorem d_jdk_29_method_45_67 : decode jdk_29_method_45_code 67 = .ok (.lmul, 1) := by decide +kernel
theorem d_jdk_29_method_45_68 : decode jdk_29_method_45_code 68 = .ok (.ladd, 1) := by decide +kernel
theorem d_jdk_29_method_45_69 : decode jdk_29_method_45_code 69 = .ok (.lstore 16, 2) := by decide +kernel
theorem d_jdk_29_method_45_71 : decode jdk_29_method_45_code 71 = .ok (.lload 4, 2) := by decide +kernel
theorem d_jdk_29_method_45_73 : decode jdk_29_method_45_code 73 = .ok (.lload 8, 2) := by decide +kernel
theorem d_jdk_29_method_45_75 : decode jdk_29_method_45_code 75 = .ok (.lmul, 1) := by decide +kernel
theorem d_jdk_29_method_45_76 : decode jdk_29_method_45_code 76 = .ok (.lload 18, 2) := by decide +kernel
theorem d_jdk_29_method_45_78 : decode jdk_29_method_45_code 78 = .ok (.ladd, 1) := by decide +kernel
theorem d_jdk_29_method_45_79 : decode jdk_29_method_45_code 79 = .ok (.lload 16, 2) := by decide +kernel
theorem d_jdk_29_method_45_81 : decode jdk_29_method_45_code 81 = .ok (.bipush 32, 2) := by decide +kernel
theorem d_jdk_29_method_45_83 : decode jdk_29_method_45_code 83 = .ok (.lshr, 1) := by decide +kernel
theorem d_jdk_29_method_45_84 : decode jdk_29_method_45_code 84 = .ok (.ladd, 1) := by decide +kernel
theorem d_jdk_29_method_45_85 : decode jdk_29_method_45_code 85 = .ok (.lreturn, 1) := by decide +kernel
set_option maxRecDepth 65536 in
set_option maxHeartbeats 40000000 in
theorem rm_mulh (l : Launch) (Z : State) (a0 : Array Value) (hw : ∀ d ∈ tables_1, d.before a0 Z = true) (q1 q2 : Int64) (h0 : Heap) :
    OwCon l Z (⟨"java/lang/Math", "multiplyHigh", "(JJ)J"⟩ : MethodName) jdk_29_method_45_code 20 (some .long) [] ({ frames := 0, cells := 0, slots := 0, locals := 0 } : Room) #[(.long q1), (.long q2)] h0 (OwRet (some (.long (own_mulh q1 q2))) h0) := by
  refine OwCon.of (Jvm.Free.JP.mathPlain rfl (by decide +kernel)) ?_
  intro p e s m below meth cd_ s₁ X0 hx hby hml hret hlk hown hnm hZ e0
  refine GoOn.st (fun t_ k_ => castTop (ef_mulh m q1 q2) k_) ?_
  show GoOn _ _ _ _ (s₁.setTop (mkF m 0 #[.val (.long q1), .second, .val (.long q2), .second, .unset, .unset, .unset, .unset, .unset, .unset, .unset, .unset, .unset, .unset, .unset, .unset, .unset, .unset, .unset, .unset] []))
  refine GoOn.st (fun t_ k_ => XS.lloadN X0.here hx rfl (hb hby d_jdk_29_method_45_0) rfl k_) ?_
  refine GoOn.st (fun t_ k_ => XS.bipush X0.here hx rfl (hb hby d_jdk_29_method_45_1)  k_) ?_
  refine GoOn.st (fun t_ k_ => XS.lshr X0.here hx rfl (hb hby d_jdk_29_method_45_3) rfl k_) ?_
  refine GoOn.st (fun t_ k_ => XS.lstore X0.here hx rfl (hb hby d_jdk_29_method_45_4) rfl (l' := #[.val (.long q1), .second, .val (.long q2), .second, .val (.long (q1 >>> ((32 : Int32) &&& 0x3f).toInt64)), .second, .unset, .unset, .unset, .unset, .unset, .unset, .unset, .unset, .unset, .unset, .unset, .unset, .unset, .unset]) rfl k_) ?_
  show GoOn _ _ _ _ (s₁.setTop (mkF m 6 #[.val (.long q1), .second, .val (.long q2), .second, .val (.long (q1 >>> ((32 : Int32) &&& 0x3f).toInt64)), .second, .unset, .unset, .unset, .unset, .unset, .unset, .unset, .unset, .unset, .unset, .unset, .unset, .unset, .unset] []))
  refine GoOn.st (fun t_ k_ => XS.lloadN X0.here hx rfl (hb hby d_jdk_29_method_45_6) rfl k_) ?_
  refine GoOn.st (fun t_ k_ => X0.ldc2Long hx hown (mvT hZ (hw _ (List.mem_of_getElem? (i := 57) rfl))) (g := (mkF m 7 #[.val (.long q1), .second, .val (.long q2), .second, .val (.long (q1 >>> ((32 : Int32) &&& 0x3f).toInt64)), .second, .unset, .unset, .unset, .unset, .unset, .unset, .unset, .unset, .unset, .unset, .unset, .unset, .unset, .unset] [(.long q1)])) rfl (hb hby d_jdk_29_method_45_7) _ k_) ?_
  refine GoOn.st (fun t_ k_ => XS.land X0.here hx rfl (hb hby d_jdk_29_method_45_10) rfl k_) ?_
  refine GoOn.st (fun t_ k_ => XS.lstore X0.here hx rfl (hb hby d_jdk_29_method_45_11) rfl (l' := #[.val (.long q1), .second, .val (.long q2), .second, .val (.long (q1 >>> ((32 : Int32) &&& 0x3f).toInt64)), .second, .val (.long (q1 &&& (4294967295 : Int64))), .second, .unset, .unset, .unset, .unset, .unset, .unset, .unset, .unset, .unset, .unset, .unset, .unset]) rfl k_) ?_
  show GoOn _ _ _ _ (s₁.setTop (mkF m 13 #[.val (.long q1), .second, .val (.long q2), .second, .val (.long (q1 >>> ((32 : Int32) &&& 0x3f).toInt64)), .second, .val (.long (q1 &&& (4294967295 : Int64))), .second, .unset, .unset, .unset, .unset, .unset, .unset, .unset, .unset, .unset, .unset, .unset, .unset] []))
  refine GoOn.st (fun t_ k_ => XS.lloadN X0.here hx rfl (hb hby d_jdk_29_method_45_13) rfl k_) ?_
  refine GoOn.st (fun t_ k_ => XS.bipush X0.here hx rfl (hb hby d_jdk_29_method_45_14)  k_) ?_
  refine GoOn.st (fun t_ k_ => XS.lshr X0.here hx rfl (hb hby d_jdk_29_method_45_16) rfl k_) ?_
  refine GoOn.st (fun t_ k_ => XS.lstore X0.here hx rfl (hb hby d_jdk_29_method_45_17) rfl (l' := #[.val (.long q1), .second, .val (.long q2), .second, .val (.long (q1 >>> ((32 : Int32) &&& 0x3f).toInt64)), .second, .val (.long (q1 &&& (4294967295 : Int64))), .second, .val (.long (q2 >>> ((32 : Int32) &&& 0x3f).toInt64)), .second, .unset, .unset, .unset, .unset, .unset, .unset, .unset, .unset, .unset, .unset]) rfl k_) ?_
  show GoOn _ _ _ _ (s₁.setTop (mkF m 19 #[.val (.long q1), .second, .val (.long q2), .second, .val (.long (q1 >>> ((32 : Int32) &&& 0x3f).toInt64)), .second, .val (.long (q1 &&& (4294967295 : Int64))), .second, .val (.long (q2 >>> ((32 : Int32) &&& 0x3f).toInt64)), .second, .unset, .unset, .unset, .unset, .unset, .unset, .unset, .unset, .unset, .unset] []))
  refine GoOn.st (fun t_ k_ => XS.lloadN X0.here hx rfl (hb hby d_jdk_29_method_45_19) rfl k_) ?_
  refine GoOn.st (fun t_ k_ => X0.ldc2Long hx hown (mvT hZ (hw _ (List.mem_of_getElem? (i := 57) rfl))) (g := (mkF m 20 #[.val (.long q1), .second, .val (.long q2), .second, .val (.long (q1 >>> ((32 : Int32) &&& 0x3f).toInt64)), .second, .val (.long (q1 &&& (4294967295 : Int64))), .second, .val (.long (q2 >>> ((32 : Int32) &&& 0x3f).toInt64)), .second, .unset, .unset, .unset, .unset, .unset, .unset, .unset, .unset, .unset, .unset] [(.long q2)])) rfl (hb hby d_jdk_29_method_45_20) _ k_) ?_
  refine GoOn.st (fun t_ k_ => XS.land X0.here hx rfl (hb hby d_jdk_29_method_45_23) rfl k_) ?_
  refine GoOn.st (fun t_ k_ => XS.lstore X0.here hx rfl (hb hby d_jdk_29_method_45_24) rfl (l' := #[.val (.long q1), .second, .val (.long q2), .second, .val (.long (q1 >>> ((32 : Int32) &&& 0x3f).toInt64)), .second, .val (.long (q1 &&& (4294967295 : Int64))), .second, .val (.long (q2 >>> ((32 : Int32) &&& 0x3f).toInt64)), .second, .val (.long (q2 &&& (4294967295 : Int64))), .second, .unset, .unset, .unset, .unset, .unset, .unset, .unset, .unset]) rfl k_) ?_
  show GoOn _ _ _ _ (s₁.setTop (mkF m 26 #[.val (.long q1), .second, .val (.long q2), .second, .val (.long (q1 >>> ((32 : Int32) &&& 0x3f).toInt64)), .second, .val (.long (q1 &&& (4294967295 : Int64))), .second, .val (.long (q2 >>> ((32 : Int32) &&& 0x3f).toInt64)), .second, .val (.long (q2 &&& (4294967295 : Int64))), .second, .unset, .unset, .unset, .unset, .unset, .unset, .unset, .unset] []))
  refine GoOn.st (fun t_ k_ => XS.lload X0.here hx rfl (hb hby d_jdk_29_method_45_26) rfl k_) ?_
  refine GoOn.st (fun t_ k_ => XS.lload X0.here hx rfl (hb hby d_jdk_29_method_45_28) rfl k_) ?_
  refine GoOn.st (fun t_ k_ => XS.lmul X0.here hx rfl (hb hby d_jdk_29_method_45_30) rfl k_) ?_
  refine GoOn.st (fun t_ k_ => XS.lstore X0.here hx rfl (hb hby d_jdk_29_method_45_31) rfl (l' := #[.val (.long q1), .second, .val (.long q2), .second, .val (.long (q1 >>> ((32 : Int32) &&& 0x3f).toInt64)), .second, .val (.long (q1 &&& (4294967295 : Int64))), .second, .val (.long (q2 >>> ((32 : Int32) &&& 0x3f).toInt64)), .second, .val (.long (q2 &&& (4294967295 : Int64))), .second, .val (.long ((q1 &&& (4294967295 : Int64)) * (q2 &&& (4294967295 : Int64)))), .second, .unset, .unset, .unset, .unset, .unset, .unset]) rfl k_) ?_
  show GoOn _ _ _ _ (s₁.setTop (mkF m 33 #[.val (.long q1), .second, .val (.long q2), .second, .val (.long (q1 >>> ((32 : Int32) &&& 0x3f).toInt64)), .second, .val (.long (q1 &&& (4294967295 : Int64))), .second, .val (.long (q2 >>> ((32 : Int32) &&& 0x3f).toInt64)), .second, .val (.long (q2 &&& (4294967295 : Int64))), .second, .val (.long ((q1 &&& (4294967295 : Int64)) * (q2 &&& (4294967295 : Int64)))), .second, .unset, .unset, .unset, .unset, .unset, .unset] []))
  refine GoOn.st (fun t_ k_ => XS.lload X0.here hx rfl (hb hby d_jdk_29_method_45_33) rfl k_) ?_
  refine GoOn.st (fun t_ k_ => XS.lload X0.here hx rfl (hb hby d_jdk_29_method_45_35) rfl k_) ?_
  refine GoOn.st (fun t_ k_ => XS.lmul X0.here hx rfl (hb hby d_jdk_29_method_45_37) rfl k_) ?_
  refine GoOn.st (fun t_ k_ => XS.lload X0.here hx rfl (hb hby d_jdk_29_method_45_38) rfl k_) ?_
  show GoOn _ _ _ _ (s₁.setTop (mkF m 40 #[.val (.long q1), .second, .val (.long q2), .second, .val (.long (q1 >>> ((32 : Int32) &&& 0x3f).toInt64)), .second, .val (.long (q1 &&& (4294967295 : Int64))), .second, .val (.long (q2 >>> ((32 : Int32) &&& 0x3f).toInt64)), .second, .val (.long (q2 &&& (4294967295 : Int64))), .second, .val (.long ((q1 &&& (4294967295 : Int64)) * (q2 &&& (4294967295 : Int64)))), .second, .unset, .unset, .unset, .unset, .unset, .unset] [(.long ((q1 &&& (4294967295 : Int64)) * (q2 &&& (4294967295 : Int64)))), (.long ((q1 >>> ((32 : Int32) &&& 0x3f).toInt64) * (q2 &&& (4294967295 : Int64))))]))
  refine GoOn.st (fun t_ k_ => XS.bipush X0.here hx rfl (hb hby d_jdk_29_method_45_40)  k_) ?_
  refine GoOn.st (fun t_ k_ => XS.lushr X0.here hx rfl (hb hby d_jdk_29_method_45_42) rfl k_) ?_
  refine GoOn.st (fun t_ k_ => XS.ladd X0.here hx rfl (hb hby d_jdk_29_method_45_43) rfl k_) ?_
  refine GoOn.st (fun t_ k_ => XS.lstore X0.here hx rfl (hb hby d_jdk_29_method_45_44) rfl (l' := #[.val (.long q1), .second, .val (.long q2), .second, .val (.long (q1 >>> ((32 : Int32) &&& 0x3f).toInt64)), .second, .val (.long (q1 &&& (4294967295 : Int64))), .second, .val (.long (q2 >>> ((32 : Int32) &&& 0x3f).toInt64)), .second, .val (.long (q2 &&& (4294967295 : Int64))), .second, .val (.long ((q1 &&& (4294967295 : Int64)) * (q2 &&& (4294967295 : Int64)))), .second, .val (.long (((q1 >>> ((32 : Int32) &&& 0x3f).toInt64) * (q2 &&& (4294967295 : Int64))) + (((((q1 &&& (4294967295 : Int64)) * (q2 &&& (4294967295 : Int64)))).toUInt64 >>> ((32 : Int32) &&& 0x3f).toInt64.toUInt64).toInt64))), .second, .unset, .unset, .unset, .unset]) rfl k_) ?_
  show GoOn _ _ _ _ (s₁.setTop (mkF m 46 #[.val (.long q1), .second, .val (.long q2), .second, .val (.long (q1 >>> ((32 : Int32) &&& 0x3f).toInt64)), .second, .val (.long (q1 &&& (4294967295 : Int64))), .second, .val (.long (q2 >>> ((32 : Int32) &&& 0x3f).toInt64)), .second, .val (.long (q2 &&& (4294967295 : Int64))), .second, .val (.long ((q1 &&& (4294967295 : Int64)) * (q2 &&& (4294967295 : Int64)))), .second, .val (.long (((q1 >>> ((32 : Int32) &&& 0x3f).toInt64) * (q2 &&& (4294967295 : Int64))) + (((((q1 &&& (4294967295 : Int64)) * (q2 &&& (4294967295 : Int64)))).toUInt64 >>> ((32 : Int32) &&& 0x3f).toInt64.toUInt64).toInt64))), .second, .unset, .unset, .unset, .unset] []))
  refine GoOn.st (fun t_ k_ => XS.lload X0.here hx rfl (hb hby d_jdk_29_method_45_46) rfl k_) ?_
  refine GoOn.st (fun t_ k_ => X0.ldc2Long hx hown (mvT hZ (hw _ (List.mem_of_getElem? (i := 57) rfl))) (g := (mkF m 48 #[.val (.long q1), .second, .val (.long q2), .second, .val (.long (q1 >>> ((32 : Int32) &&& 0x3f).toInt64)), .second, .val (.long (q1 &&& (4294967295 : Int64))), .second, .val (.long (q2 >>> ((32 : Int32) &&& 0x3f).toInt64)), .second, .val (.long (q2 &&& (4294967295 : Int64))), .second, .val (.long ((q1 &&& (4294967295 : Int64)) * (q2 &&& (4294967295 : Int64)))), .second, .val (.long (((q1 >>> ((32 : Int32) &&& 0x3f).toInt64) * (q2 &&& (4294967295 : Int64))) + (((((q1 &&& (4294967295 : Int64)) * (q2 &&& (4294967295 : Int64)))).toUInt64 >>> ((32 : Int32) &&& 0x3f).toInt64.toUInt64).toInt64))), .second, .unset, .unset, .unset, .unset] [(.long (((q1 >>> ((32 : Int32) &&& 0x3f).toInt64) * (q2 &&& (4294967295 : Int64))) + (((((q1 &&& (4294967295 : Int64)) * (q2 &&& (4294967295 : Int64)))).toUInt64 >>> ((32 : Int32) &&& 0x3f).toInt64.toUInt64).toInt64)))])) rfl (hb hby d_jdk_29_method_45_48) _ k_) ?_
  refine GoOn.st (fun t_ k_ => XS.land X0.here hx rfl (hb hby d_jdk_29_method_45_51) rfl k_) ?_
  refine GoOn.st (fun t_ k_ => XS.lstore X0.here hx rfl (hb hby d_jdk_29_method_45_52) rfl (l' := #[.val (.long q1), .second, .val (.long q2), .second, .val (.long (q1 >>> ((32 : Int32) &&& 0x3f).toInt64)), .second, .val (.long (q1 &&& (4294967295 : Int64))), .second, .val (.long (q2 >>> ((32 : Int32) &&& 0x3f).toInt64)), .second, .val (.long (q2 &&& (4294967295 : Int64))), .second, .val (.long ((q1 &&& (4294967295 : Int64)) * (q2 &&& (4294967295 : Int64)))), .second, .val (.long (((q1 >>> ((32 : Int32) &&& 0x3f).toInt64) * (q2 &&& (4294967295 : Int64))) + (((((q1 &&& (4294967295 : Int64)) * (q2 &&& (4294967295 : Int64)))).toUInt64 >>> ((32 : Int32) &&& 0x3f).toInt64.toUInt64).toInt64))), .second, .val (.long ((((q1 >>> ((32 : Int32) &&& 0x3f).toInt64) * (q2 &&& (4294967295 : Int64))) + (((((q1 &&& (4294967295 : Int64)) * (q2 &&& (4294967295 : Int64)))).toUInt64 >>> ((32 : Int32) &&& 0x3f).toInt64.toUInt64).toInt64)) &&& (4294967295 : Int64))), .second, .unset, .unset]) rfl k_) ?_
  show GoOn _ _ _ _ (s₁.setTop (mkF m 54 #[.val (.long q1), .second, .val (.long q2), .second, .val (.long (q1 >>> ((32 : Int32) &&& 0x3f).toInt64)), .second, .val (.long (q1 &&& (4294967295 : Int64))), .second, .val (.long (q2 >>> ((32 : Int32) &&& 0x3f).toInt64)), .second, .val (.long (q2 &&& (4294967295 : Int64))), .second, .val (.long ((q1 &&& (4294967295 : Int64)) * (q2 &&& (4294967295 : Int64)))), .second, .val (.long (((q1 >>> ((32 : Int32) &&& 0x3f).toInt64) * (q2 &&& (4294967295 : Int64))) + (((((q1 &&& (4294967295 : Int64)) * (q2 &&& (4294967295 : Int64)))).toUInt64 >>> ((32 : Int32) &&& 0x3f).toInt64.toUInt64).toInt64))), .second, .val (.long ((((q1 >>> ((32 : Int32) &&& 0x3f).toInt64) * (q2 &&& (4294967295 : Int64))) + (((((q1 &&& (4294967295 : Int64)) * (q2 &&& (4294967295 : Int64)))).toUInt64 >>> ((32 : Int32) &&& 0x3f).toInt64.toUInt64).toInt64)) &&& (4294967295 : Int64))), .second, .unset, .unset] []))
  refine GoOn.st (fun t_ k_ => XS.lload X0.here hx rfl (hb hby d_jdk_29_method_45_54) rfl k_) ?_
  refine GoOn.st (fun t_ k_ => XS.bipush X0.here hx rfl (hb hby d_jdk_29_method_45_56)  k_) ?_
  refine GoOn.st (fun t_ k_ => XS.lshr X0.here hx rfl (hb hby d_jdk_29_method_45_58) rfl k_) ?_
  refine GoOn.st (fun t_ k_ => XS.lstore X0.here hx rfl (hb hby d_jdk_29_method_45_59) rfl (l' := #[.val (.long q1), .second, .val (.long q2), .second, .val (.long (q1 >>> ((32 : Int32) &&& 0x3f).toInt64)), .second, .val (.long (q1 &&& (4294967295 : Int64))), .second, .val (.long (q2 >>> ((32 : Int32) &&& 0x3f).toInt64)), .second, .val (.long (q2 &&& (4294967295 : Int64))), .second, .val (.long ((q1 &&& (4294967295 : Int64)) * (q2 &&& (4294967295 : Int64)))), .second, .val (.long (((q1 >>> ((32 : Int32) &&& 0x3f).toInt64) * (q2 &&& (4294967295 : Int64))) + (((((q1 &&& (4294967295 : Int64)) * (q2 &&& (4294967295 : Int64)))).toUInt64 >>> ((32 : Int32) &&& 0x3f).toInt64.toUInt64).toInt64))), .second, .val (.long ((((q1 >>> ((32 : Int32) &&& 0x3f).toInt64) * (q2 &&& (4294967295 : Int64))) + (((((q1 &&& (4294967295 : Int64)) * (q2 &&& (4294967295 : Int64)))).toUInt64 >>> ((32 : Int32) &&& 0x3f).toInt64.toUInt64).toInt64)) &&& (4294967295 : Int64))), .second, .val (.long ((((q1 >>> ((32 : Int32) &&& 0x3f).toInt64) * (q2 &&& (4294967295 : Int64))) + (((((q1 &&& (4294967295 : Int64)) * (q2 &&& (4294967295 : Int64)))).toUInt64 >>> ((32 : Int32) &&& 0x3f).toInt64.toUInt64).toInt64)) >>> ((32 : Int32) &&& 0x3f).toInt64)), .second]) rfl k_) ?_
  show GoOn _ _ _ _ (s₁.setTop (mkF m 61 #[.val (.long q1), .second, .val (.long q2), .second, .val (.long (q1 >>> ((32 : Int32) &&& 0x3f).toInt64)), .second, .val (.long (q1 &&& (4294967295 : Int64))), .second, .val (.long (q2 >>> ((32 : Int32) &&& 0x3f).toInt64)), .second, .val (.long (q2 &&& (4294967295 : Int64))), .second, .val (.long ((q1 &&& (4294967295 : Int64)) * (q2 &&& (4294967295 : Int64)))), .second, .val (.long (((q1 >>> ((32 : Int32) &&& 0x3f).toInt64) * (q2 &&& (4294967295 : Int64))) + (((((q1 &&& (4294967295 : Int64)) * (q2 &&& (4294967295 : Int64)))).toUInt64 >>> ((32 : Int32) &&& 0x3f).toInt64.toUInt64).toInt64))), .second, .val (.long ((((q1 >>> ((32 : Int32) &&& 0x3f).toInt64) * (q2 &&& (4294967295 : Int64))) + (((((q1 &&& (4294967295 : Int64)) * (q2 &&& (4294967295 : Int64)))).toUInt64 >>> ((32 : Int32) &&& 0x3f).toInt64.toUInt64).toInt64)) &&& (4294967295 : Int64))), .second, .val (.long ((((q1 >>> ((32 : Int32) &&& 0x3f).toInt64) * (q2 &&& (4294967295 : Int64))) + (((((q1 &&& (4294967295 : Int64)) * (q2 &&& (4294967295 : Int64)))).toUInt64 >>> ((32 : Int32) &&& 0x3f).toInt64.toUInt64).toInt64)) >>> ((32 : Int32) &&& 0x3f).toInt64)), .second] []))
  refine GoOn.st (fun t_ k_ => XS.lload X0.here hx rfl (hb hby d_jdk_29_method_45_61) rfl k_) ?_
  refine GoOn.st (fun t_ k_ => XS.lload X0.here hx rfl (hb hby d_jdk_29_method_45_63) rfl k_) ?_
  refine GoOn.st (fun t_ k_ => XS.lload X0.here hx rfl (hb hby d_jdk_29_method_45_65) rfl k_) ?_
  refine GoOn.st (fun t_ k_ => XS.lmul X0.here hx rfl (hb hby d_jdk_29_method_45_67) rfl k_) ?_
  show GoOn _ _ _ _ (s₁.setTop (mkF m 68 #[.val (.long q1), .second, .val (.long q2), .second, .val (.long (q1 >>> ((32 : Int32) &&& 0x3f).toInt64)), .second, .val (.long (q1 &&& (4294967295 : Int64))), .second, .val (.long (q2 >>> ((32 : Int32) &&& 0x3f).toInt64)), .second, .val (.long (q2 &&& (4294967295 : Int64))), .second, .val (.long ((q1 &&& (4294967295 : Int64)) * (q2 &&& (4294967295 : Int64)))), .second, .val (.long (((q1 >>> ((32 : Int32) &&& 0x3f).toInt64) * (q2 &&& (4294967295 : Int64))) + (((((q1 &&& (4294967295 : Int64)) * (q2 &&& (4294967295 : Int64)))).toUInt64 >>> ((32 : Int32) &&& 0x3f).toInt64.toUInt64).toInt64))), .second, .val (.long ((((q1 >>> ((32 : Int32) &&& 0x3f).toInt64) * (q2 &&& (4294967295 : Int64))) + (((((q1 &&& (4294967295 : Int64)) * (q2 &&& (4294967295 : Int64)))).toUInt64 >>> ((32 : Int32) &&& 0x3f).toInt64.toUInt64).toInt64)) &&& (4294967295 : Int64))), .second, .val (.long ((((q1 >>> ((32 : Int32) &&& 0x3f).toInt64) * (q2 &&& (4294967295 : Int64))) + (((((q1 &&& (4294967295 : Int64)) * (q2 &&& (4294967295 : Int64)))).toUInt64 >>> ((32 : Int32) &&& 0x3f).toInt64.toUInt64).toInt64)) >>> ((32 : Int32) &&& 0x3f).toInt64)), .second] [(.long ((q1 &&& (4294967295 : Int64)) * (q2 >>> ((32 : Int32) &&& 0x3f).toInt64))), (.long ((((q1 >>> ((32 : Int32) &&& 0x3f).toInt64) * (q2 &&& (4294967295 : Int64))) + (((((q1 &&& (4294967295 : Int64)) * (q2 &&& (4294967295 : Int64)))).toUInt64 >>> ((32 : Int32) &&& 0x3f).toInt64.toUInt64).toInt64)) &&& (4294967295 : Int64)))]))
  refine GoOn.st (fun t_ k_ => XS.ladd X0.here hx rfl (hb hby d_jdk_29_method_45_68) rfl k_) ?_
  refine GoOn.st (fun t_ k_ => XS.lstore X0.here hx rfl (hb hby d_jdk_29_method_45_69) rfl (l' := #[.val (.long q1), .second, .val (.long q2), .second, .val (.long (q1 >>> ((32 : Int32) &&& 0x3f).toInt64)), .second, .val (.long (q1 &&& (4294967295 : Int64))), .second, .val (.long (q2 >>> ((32 : Int32) &&& 0x3f).toInt64)), .second, .val (.long (q2 &&& (4294967295 : Int64))), .second, .val (.long ((q1 &&& (4294967295 : Int64)) * (q2 &&& (4294967295 : Int64)))), .second, .val (.long (((q1 >>> ((32 : Int32) &&& 0x3f).toInt64) * (q2 &&& (4294967295 : Int64))) + (((((q1 &&& (4294967295 : Int64)) * (q2 &&& (4294967295 : Int64)))).toUInt64 >>> ((32 : Int32) &&& 0x3f).toInt64.toUInt64).toInt64))), .second, .val (.long (((((q1 >>> ((32 : Int32) &&& 0x3f).toInt64) * (q2 &&& (4294967295 : Int64))) + (((((q1 &&& (4294967295 : Int64)) * (q2 &&& (4294967295 : Int64)))).toUInt64 >>> ((32 : Int32) &&& 0x3f).toInt64.toUInt64).toInt64)) &&& (4294967295 : Int64)) + ((q1 &&& (4294967295 : Int64)) * (q2 >>> ((32 : Int32) &&& 0x3f).toInt64)))), .second, .val (.long ((((q1 >>> ((32 : Int32) &&& 0x3f).toInt64) * (q2 &&& (4294967295 : Int64))) + (((((q1 &&& (4294967295 : Int64)) * (q2 &&& (4294967295 : Int64)))).toUInt64 >>> ((32 : Int32) &&& 0x3f).toInt64.toUInt64).toInt64)) >>> ((32 : Int32) &&& 0x3f).toInt64)), .second]) rfl k_) ?_
  refine GoOn.st (fun t_ k_ => XS.lload X0.here hx rfl (hb hby d_jdk_29_method_45_71) rfl k_) ?_
  refine GoOn.st (fun t_ k_ => XS.lload X0.here hx rfl (hb hby d_jdk_29_method_45_73) rfl k_) ?_
  show GoOn _ _ _ _ (s₁.setTop (mkF m 75 #[.val (.long q1), .second, .val (.long q2), .second, .val (.long (q1 >>> ((32 : Int32) &&& 0x3f).toInt64)), .second, .val (.long (q1 &&& (4294967295 : Int64))), .second, .val (.long (q2 >>> ((32 : Int32) &&& 0x3f).toInt64)), .second, .val (.long (q2 &&& (4294967295 : Int64))), .second, .val (.long ((q1 &&& (4294967295 : Int64)) * (q2 &&& (4294967295 : Int64)))), .second, .val (.long (((q1 >>> ((32 : Int32) &&& 0x3f).toInt64) * (q2 &&& (4294967295 : Int64))) + (((((q1 &&& (4294967295 : Int64)) * (q2 &&& (4294967295 : Int64)))).toUInt64 >>> ((32 : Int32) &&& 0x3f).toInt64.toUInt64).toInt64))), .second, .val (.long (((((q1 >>> ((32 : Int32) &&& 0x3f).toInt64) * (q2 &&& (4294967295 : Int64))) + (((((q1 &&& (4294967295 : Int64)) * (q2 &&& (4294967295 : Int64)))).toUInt64 >>> ((32 : Int32) &&& 0x3f).toInt64.toUInt64).toInt64)) &&& (4294967295 : Int64)) + ((q1 &&& (4294967295 : Int64)) * (q2 >>> ((32 : Int32) &&& 0x3f).toInt64)))), .second, .val (.long ((((q1 >>> ((32 : Int32) &&& 0x3f).toInt64) * (q2 &&& (4294967295 : Int64))) + (((((q1 &&& (4294967295 : Int64)) * (q2 &&& (4294967295 : Int64)))).toUInt64 >>> ((32 : Int32) &&& 0x3f).toInt64.toUInt64).toInt64)) >>> ((32 : Int32) &&& 0x3f).toInt64)), .second] [(.long (q2 >>> ((32 : Int32) &&& 0x3f).toInt64)), (.long (q1 >>> ((32 : Int32) &&& 0x3f).toInt64))]))
  refine GoOn.st (fun t_ k_ => XS.lmul X0.here hx rfl (hb hby d_jdk_29_method_45_75) rfl k_) ?_
  refine GoOn.st (fun t_ k_ => XS.lload X0.here hx rfl (hb hby d_jdk_29_method_45_76) rfl k_) ?_
  refine GoOn.st (fun t_ k_ => XS.ladd X0.here hx rfl (hb hby d_jdk_29_method_45_78) rfl k_) ?_
  refine GoOn.st (fun t_ k_ => XS.lload X0.here hx rfl (hb hby d_jdk_29_method_45_79) rfl k_) ?_
  show GoOn _ _ _ _ (s₁.setTop (mkF m 81 #[.val (.long q1), .second, .val (.long q2), .second, .val (.long (q1 >>> ((32 : Int32) &&& 0x3f).toInt64)), .second, .val (.long (q1 &&& (4294967295 : Int64))), .second, .val (.long (q2 >>> ((32 : Int32) &&& 0x3f).toInt64)), .second, .val (.long (q2 &&& (4294967295 : Int64))), .second, .val (.long ((q1 &&& (4294967295 : Int64)) * (q2 &&& (4294967295 : Int64)))), .second, .val (.long (((q1 >>> ((32 : Int32) &&& 0x3f).toInt64) * (q2 &&& (4294967295 : Int64))) + (((((q1 &&& (4294967295 : Int64)) * (q2 &&& (4294967295 : Int64)))).toUInt64 >>> ((32 : Int32) &&& 0x3f).toInt64.toUInt64).toInt64))), .second, .val (.long (((((q1 >>> ((32 : Int32) &&& 0x3f).toInt64) * (q2 &&& (4294967295 : Int64))) + (((((q1 &&& (4294967295 : Int64)) * (q2 &&& (4294967295 : Int64)))).toUInt64 >>> ((32 : Int32) &&& 0x3f).toInt64.toUInt64).toInt64)) &&& (4294967295 : Int64)) + ((q1 &&& (4294967295 : Int64)) * (q2 >>> ((32 : Int32) &&& 0x3f).toInt64)))), .second, .val (.long ((((q1 >>> ((32 : Int32) &&& 0x3f).toInt64) * (q2 &&& (4294967295 : Int64))) + (((((q1 &&& (4294967295 : Int64)) * (q2 &&& (4294967295 : Int64)))).toUInt64 >>> ((32 : Int32) &&& 0x3f).toInt64.toUInt64).toInt64)) >>> ((32 : Int32) &&& 0x3f).toInt64)), .second] [(.long (((((q1 >>> ((32 : Int32) &&& 0x3f).toInt64) * (q2 &&& (4294967295 : Int64))) + (((((q1 &&& (4294967295 : Int64)) * (q2 &&& (4294967295 : Int64)))).toUInt64 >>> ((32 : Int32) &&& 0x3f).toInt64.toUInt64).toInt64)) &&& (4294967295 : Int64)) + ((q1 &&& (4294967295 : Int64)) * (q2 >>> ((32 : Int32) &&& 0x3f).toInt64)))), (.long (((q1 >>> ((32 : Int32) &&& 0x3f).toInt64) * (q2 >>> ((32 : Int32) &&& 0x3f).toInt64)) + ((((q1 >>> ((32 : Int32) &&& 0x3f).toInt64) * (q2 &&& (4294967295 : Int64))) + (((((q1 &&& (4294967295 : Int64)) * (q2 &&& (4294967295 : Int64)))).toUInt64 >>> ((32 : Int32) &&& 0x3f).toInt64.toUInt64).toInt64)) >>> ((32 : Int32) &&& 0x3f).toInt64)))]))
  refine GoOn.st (fun t_ k_ => XS.bipush X0.here hx rfl (hb hby d_jdk_29_method_45_81)  k_) ?_
  refine GoOn.st (fun t_ k_ => XS.lshr X0.here hx rfl (hb hby d_jdk_29_method_45_83) rfl k_) ?_
  refine GoOn.st (fun t_ k_ => XS.ladd X0.here hx rfl (hb hby d_jdk_29_method_45_84) rfl k_) ?_
  show GoOn _ _ _ _ (s₁.setTop (mkF m 85 #[.val (.long q1), .second, .val (.long q2), .second, .val (.long (q1 >>> ((32 : Int32) &&& 0x3f).toInt64)), .second, .val (.long (q1 &&& (4294967295 : Int64))), .second, .val (.long (q2 >>> ((32 : Int32) &&& 0x3f).toInt64)), .second, .val (.long (q2 &&& (4294967295 : Int64))), .second, .val (.long ((q1 &&& (4294967295 : Int64)) * (q2 &&& (4294967295 : Int64)))), .second, .val (.long (((q1 >>> ((32 : Int32) &&& 0x3f).toInt64) * (q2 &&& (4294967295 : Int64))) + (((((q1 &&& (4294967295 : Int64)) * (q2 &&& (4294967295 : Int64)))).toUInt64 >>> ((32 : Int32) &&& 0x3f).toInt64.toUInt64).toInt64))), .second, .val (.long (((((q1 >>> ((32 : Int32) &&& 0x3f).toInt64) * (q2 &&& (4294967295 : Int64))) + (((((q1 &&& (4294967295 : Int64)) * (q2 &&& (4294967295 : Int64)))).toUInt64 >>> ((32 : Int32) &&& 0x3f).toInt64.toUInt64).toInt64)) &&& (4294967295 : Int64)) + ((q1 &&& (4294967295 : Int64)) * (q2 >>> ((32 : Int32) &&& 0x3f).toInt64)))), .second, .val (.long ((((q1 >>> ((32 : Int32) &&& 0x3f).toInt64) * (q2 &&& (4294967295 : Int64))) + (((((q1 &&& (4294967295 : Int64)) * (q2 &&& (4294967295 : Int64)))).toUInt64 >>> ((32 : Int32) &&& 0x3f).toInt64.toUInt64).toInt64)) >>> ((32 : Int32) &&& 0x3f).toInt64)), .second] [(.long ((((q1 >>> ((32 : Int32) &&& 0x3f).toInt64) * (q2 >>> ((32 : Int32) &&& 0x3f).toInt64)) + ((((q1 >>> ((32 : Int32) &&& 0x3f).toInt64) * (q2 &&& (4294967295 : Int64))) + (((((q1 &&& (4294967295 : Int64)) * (q2 &&& (4294967295 : Int64)))).toUInt64 >>> ((32 : Int32) &&& 0x3f).toInt64.toUInt64).toInt64)) >>> ((32 : Int32) &&& 0x3f).toInt64)) + ((((((q1 >>> ((32 : Int32) &&& 0x3f).toInt64) * (q2 &&& (4294967295 : Int64))) + (((((q1 &&& (4294967295 : Int64)) * (q2 &&& (4294967295 : Int64)))).toUInt64 >>> ((32 : Int32) &&& 0x3f).toInt64.toUInt64).toInt64)) &&& (4294967295 : Int64)) + ((q1 &&& (4294967295 : Int64)) * (q2 >>> ((32 : Int32) &&& 0x3f).toInt64))) >>> ((32 : Int32) &&& 0x3f).toInt64)))]))
  exact GoOn.retJ X0 hx hlk hret (hb hby d_jdk_29_method_45_85) (by rw [e0]; exact ⟨rfl, rfl, rfl⟩) (by decide) (by decide)
theorem ef_umulh (m : MethodId) (x0 : Int64) (x1 : Int64) : entryFrame m #[(.long x0), (.long x1)] 4 = mkF m 0 #[.val (.long x0), .second, .val (.long x1), .second] [] := by first | (simp [entryFrame, mkF, argsToLocals, Value.category]; done) | rfl
theorem d_prog_28_method_13_0 : decode prog_28_method_13_code 0 = .ok (.lload_n 0, 1) := by decide +kernel
theorem d_prog_28_method_13_1 : decode prog_28_method_13_code 1 = .ok (.lload_n 2, 1) := by decide +kernel
theorem pd_0 : parseMethodDescriptor "(JJ)J" = some ⟨[.long, .long], some .long⟩ := by decide +kernel
theorem d_prog_28_method_13_2 : decode prog_28_method_13_code 2 = .ok (.invokestatic 86, 3) := by decide +kernel
theorem d_prog_28_method_13_5 : decode prog_28_method_13_code 5 = .ok (.lload_n 0, 1) := by decide +kernel
theorem d_prog_28_method_13_6 : decode prog_28_method_13_code 6 = .ok (.bipush 63, 2) := by decide +kernel
theorem d_prog_28_method_13_8 : decode prog_28_method_13_code 8 = .ok (.lshr, 1) := by decide +kernel
theorem d_prog_28_method_13_9 : decode prog_28_method_13_code 9 = .ok (.lload_n 2, 1) := by decide +kernel
theorem d_prog_28_method_13_10 : decode prog_28_method_13_code 10 = .ok (.land, 1) := by decide +kernel
theorem d_prog_28_method_13_11 : decode prog_28_method_13_code 11 = .ok (.ladd, 1) := by decide +kernel
theorem d_prog_28_method_13_12 : decode prog_28_method_13_code 12 = .ok (.lload_n 2, 1) := by decide +kernel
theorem d_prog_28_method_13_13 : decode prog_28_method_13_code 13 = .ok (.bipush 63, 2) := by decide +kernel
theorem d_prog_28_method_13_15 : decode prog_28_method_13_code 15 = .ok (.lshr, 1) := by decide +kernel
theorem d_prog_28_method_13_16 : decode prog_28_method_13_code 16 = .ok (.lload_n 0, 1) := by decide +kernel
theorem d_prog_28_method_13_17 : decode prog_28_method_13_code 17 = .ok (.land, 1) := by decide +kernel
theorem d_prog_28_method_13_18 : decode prog_28_method_13_code 18 = .ok (.ladd, 1) := by decide +kernel
theorem d_prog_28_method_13_19 : decode prog_28_method_13_code 19 = .ok (.lreturn, 1) := by decide +kernel
set_option maxRecDepth 65536 in
set_option maxHeartbeats 40000000 in
theorem rm_umulh (l : Launch) (Z : State) (a0 : Array Value) (hw : ∀ d ∈ tables_1, d.before a0 Z = true) (q1 q2 : Int64) (h0 : Heap) :
    OwCon l Z (⟨"com/example/nano_embed/nanoembed/geometry/Int128", "unsignedMultiplyHigh", "(JJ)J"⟩ : MethodName) prog_28_method_13_code 4 (some .long) [] ({ frames := 1, cells := 0, slots := 0, locals := 31 } : Room) #[(.long q1), (.long q2)] h0 (OwRet (some (.long (own_umulh q1 q2))) h0) := by
  refine OwCon.of (plainFor_of_name pn_com_example_nano_embed_nanoembed_geometry_Int128) ?_
  intro p e s m below meth cd_ s₁ X0 hx hby hml hret hlk hown hnm hZ e0
  refine GoOn.st (fun t_ k_ => castTop (ef_umulh m q1 q2) k_) ?_
  show GoOn _ _ _ _ (s₁.setTop (mkF m 0 #[.val (.long q1), .second, .val (.long q2), .second] []))
  refine GoOn.st (fun t_ k_ => XS.lloadN X0.here hx rfl (hb hby d_prog_28_method_13_0) rfl k_) ?_
  refine GoOn.st (fun t_ k_ => XS.lloadN X0.here hx rfl (hb hby d_prog_28_method_13_1) rfl k_) ?_
  show GoOn _ _ _ _ (s₁.setTop (mkF m 2 #[.val (.long q1), .second, .val (.long q2), .second] [(.long q2), (.long q1)]))
  refine GoOn.callS (W := 0) (argsL := [(.long q1), (.long q2)]) (rest := []) X0 hx hZ hown (hw _ (List.mem_of_getElem? (i := 53) rfl)) (hw _ (List.mem_of_getElem? (i := 54) rfl)) (hw _ (List.mem_of_getElem? (i := 55) rfl)) (hw _ (List.mem_of_getElem? (i := 56) rfl)) (by decide) (rm_mulh l Z a0 hw q1 q2 h0) e0 (by decide) (by decide) (by rw [hml]; rfl) pd_0 rfl rfl (Nat.le_of_eq rfl) (hb hby d_prog_28_method_13_2) (by decide) (by decide) ?_
  rintro _ T1 L1 X1 ⟨rfl, rfl, e1⟩
  rw [List.append_nil] at X1
  refine GoOn.st (fun t_ k_ => XS.lloadN X1.here hx rfl (hb hby d_prog_28_method_13_5) rfl k_) ?_
  refine GoOn.st (fun t_ k_ => XS.bipush X1.here hx rfl (hb hby d_prog_28_method_13_6)  k_) ?_
  refine GoOn.st (fun t_ k_ => XS.lshr X1.here hx rfl (hb hby d_prog_28_method_13_8) rfl k_) ?_
  show GoOn _ _ _ _ (T1.setTop (mkF m 9 #[.val (.long q1), .second, .val (.long q2), .second] [(.long (q1 >>> ((63 : Int32) &&& 0x3f).toInt64)), (.long (own_mulh q1 q2))]))
  refine GoOn.st (fun t_ k_ => XS.lloadN X1.here hx rfl (hb hby d_prog_28_method_13_9) rfl k_) ?_
  refine GoOn.st (fun t_ k_ => XS.land X1.here hx rfl (hb hby d_prog_28_method_13_10) rfl k_) ?_
  refine GoOn.st (fun t_ k_ => XS.ladd X1.here hx rfl (hb hby d_prog_28_method_13_11) rfl k_) ?_
  refine GoOn.st (fun t_ k_ => XS.lloadN X1.here hx rfl (hb hby d_prog_28_method_13_12) rfl k_) ?_
  show GoOn _ _ _ _ (T1.setTop (mkF m 13 #[.val (.long q1), .second, .val (.long q2), .second] [(.long q2), (.long ((own_mulh q1 q2) + ((q1 >>> ((63 : Int32) &&& 0x3f).toInt64) &&& q2)))]))
  refine GoOn.st (fun t_ k_ => XS.bipush X1.here hx rfl (hb hby d_prog_28_method_13_13)  k_) ?_
  refine GoOn.st (fun t_ k_ => XS.lshr X1.here hx rfl (hb hby d_prog_28_method_13_15) rfl k_) ?_
  refine GoOn.st (fun t_ k_ => XS.lloadN X1.here hx rfl (hb hby d_prog_28_method_13_16) rfl k_) ?_
  refine GoOn.st (fun t_ k_ => XS.land X1.here hx rfl (hb hby d_prog_28_method_13_17) rfl k_) ?_
  show GoOn _ _ _ _ (T1.setTop (mkF m 18 #[.val (.long q1), .second, .val (.long q2), .second] [(.long ((q2 >>> ((63 : Int32) &&& 0x3f).toInt64) &&& q1)), (.long ((own_mulh q1 q2) + ((q1 >>> ((63 : Int32) &&& 0x3f).toInt64) &&& q2)))]))
  refine GoOn.st (fun t_ k_ => XS.ladd X1.here hx rfl (hb hby d_prog_28_method_13_18) rfl k_) ?_
  show GoOn _ _ _ _ (T1.setTop (mkF m 19 #[.val (.long q1), .second, .val (.long q2), .second] [(.long (((own_mulh q1 q2) + ((q1 >>> ((63 : Int32) &&& 0x3f).toInt64) &&& q2)) + ((q2 >>> ((63 : Int32) &&& 0x3f).toInt64) &&& q1)))]))
  exact GoOn.retJ X1 hx hlk hret (hb hby d_prog_28_method_13_19) (by rw [e1]; exact ⟨rfl, rfl, rfl⟩) (by decide) (by decide)
theorem ef_carry (m : MethodId) (x0 : Int64) (x1 : Int64) (x2 : Int64) : entryFrame m #[(.long x0), (.long x1), (.long x2)] 6 = mkF m 0 #[.val (.long x0), .second, .val (.long x1), .second, .val (.long x2), .second] [] := by first | (simp [entryFrame, mkF, argsToLocals, Value.category]; done) | rfl
theorem d_prog_28_method_12_0 : decode prog_28_method_12_code 0 = .ok (.lload_n 0, 1) := by decide +kernel
theorem d_prog_28_method_12_1 : decode prog_28_method_12_code 1 = .ok (.lload_n 2, 1) := by decide +kernel
theorem d_prog_28_method_12_2 : decode prog_28_method_12_code 2 = .ok (.land, 1) := by decide +kernel
theorem d_prog_28_method_12_3 : decode prog_28_method_12_code 3 = .ok (.lload_n 0, 1) := by decide +kernel
theorem d_prog_28_method_12_4 : decode prog_28_method_12_code 4 = .ok (.lload_n 2, 1) := by decide +kernel
theorem d_prog_28_method_12_5 : decode prog_28_method_12_code 5 = .ok (.lor, 1) := by decide +kernel
theorem d_prog_28_method_12_6 : decode prog_28_method_12_code 6 = .ok (.lload 4, 2) := by decide +kernel
theorem d_prog_28_method_12_8 : decode prog_28_method_12_code 8 = .ok (.ldc2_w 37, 3) := by decide +kernel
theorem d_prog_28_method_12_11 : decode prog_28_method_12_code 11 = .ok (.lxor, 1) := by decide +kernel
theorem d_prog_28_method_12_12 : decode prog_28_method_12_code 12 = .ok (.land, 1) := by decide +kernel
theorem d_prog_28_method_12_13 : decode prog_28_method_12_code 13 = .ok (.lor, 1) := by decide +kernel
theorem d_prog_28_method_12_14 : decode prog_28_method_12_code 14 = .ok (.bipush 63, 2) := by decide +kernel
theorem d_prog_28_method_12_16 : decode prog_28_method_12_code 16 = .ok (.lushr, 1) := by decide +kernel
theorem d_prog_28_method_12_17 : decode prog_28_method_12_code 17 = .ok (.lreturn, 1) := by decide +kernel
set_option maxRecDepth 65536 in
set_option maxHeartbeats 40000000 in
theorem rm_carry (l : Launch) (Z : State) (a0 : Array Value) (hw : ∀ d ∈ tables_1, d.before a0 Z = true) (q1 q2 q3 : Int64) (h0 : Heap) :
    OwCon l Z (⟨"com/example/nano_embed/nanoembed/geometry/Int128", "carry", "(JJJ)J"⟩ : MethodName) prog_28_method_12_code 6 (some .long) [] ({ frames := 0, cells := 0, slots := 0, locals := 0 } : Room) #[(.long q1), (.long q2), (.long q3)] h0 (OwRet (some (.long (own_carry q1 q2 q3))) h0) := by
  refine OwCon.of (plainFor_of_name pn_com_example_nano_embed_nanoembed_geometry_Int128) ?_
  intro p e s m below meth cd_ s₁ X0 hx hby hml hret hlk hown hnm hZ e0
  refine GoOn.st (fun t_ k_ => castTop (ef_carry m q1 q2 q3) k_) ?_
  show GoOn _ _ _ _ (s₁.setTop (mkF m 0 #[.val (.long q1), .second, .val (.long q2), .second, .val (.long q3), .second] []))
  refine GoOn.st (fun t_ k_ => XS.lloadN X0.here hx rfl (hb hby d_prog_28_method_12_0) rfl k_) ?_
  refine GoOn.st (fun t_ k_ => XS.lloadN X0.here hx rfl (hb hby d_prog_28_method_12_1) rfl k_) ?_
  refine GoOn.st (fun t_ k_ => XS.land X0.here hx rfl (hb hby d_prog_28_method_12_2) rfl k_) ?_
  refine GoOn.st (fun t_ k_ => XS.lloadN X0.here hx rfl (hb hby d_prog_28_method_12_3) rfl k_) ?_
  show GoOn _ _ _ _ (s₁.setTop (mkF m 4 #[.val (.long q1), .second, .val (.long q2), .second, .val (.long q3), .second] [(.long q1), (.long (q1 &&& q2))]))
  refine GoOn.st (fun t_ k_ => XS.lloadN X0.here hx rfl (hb hby d_prog_28_method_12_4) rfl k_) ?_
  refine GoOn.st (fun t_ k_ => XS.lor X0.here hx rfl (hb hby d_prog_28_method_12_5) rfl k_) ?_
  refine GoOn.st (fun t_ k_ => XS.lload X0.here hx rfl (hb hby d_prog_28_method_12_6) rfl k_) ?_
  refine GoOn.st (fun t_ k_ => X0.ldc2Long hx hown (mvT hZ (hw _ (List.mem_of_getElem? (i := 42) rfl))) (g := (mkF m 8 #[.val (.long q1), .second, .val (.long q2), .second, .val (.long q3), .second] [(.long q3), (.long (q1 ||| q2)), (.long (q1 &&& q2))])) rfl (hb hby d_prog_28_method_12_8) _ k_) ?_
  show GoOn _ _ _ _ (s₁.setTop (mkF m 11 #[.val (.long q1), .second, .val (.long q2), .second, .val (.long q3), .second] [(.long (-1 : Int64)), (.long q3), (.long (q1 ||| q2)), (.long (q1 &&& q2))]))
  refine GoOn.st (fun t_ k_ => XS.lxor X0.here hx rfl (hb hby d_prog_28_method_12_11) rfl k_) ?_
  refine GoOn.st (fun t_ k_ => XS.land X0.here hx rfl (hb hby d_prog_28_method_12_12) rfl k_) ?_
  refine GoOn.st (fun t_ k_ => XS.lor X0.here hx rfl (hb hby d_prog_28_method_12_13) rfl k_) ?_
  refine GoOn.st (fun t_ k_ => XS.bipush X0.here hx rfl (hb hby d_prog_28_method_12_14)  k_) ?_
  show GoOn _ _ _ _ (s₁.setTop (mkF m 16 #[.val (.long q1), .second, .val (.long q2), .second, .val (.long q3), .second] [(.int (63 : Int32)), (.long ((q1 &&& q2) ||| ((q1 ||| q2) &&& (q3 ^^^ (-1 : Int64)))))]))
  refine GoOn.st (fun t_ k_ => XS.lushr X0.here hx rfl (hb hby d_prog_28_method_12_16) rfl k_) ?_
  show GoOn _ _ _ _ (s₁.setTop (mkF m 17 #[.val (.long q1), .second, .val (.long q2), .second, .val (.long q3), .second] [(.long (((((q1 &&& q2) ||| ((q1 ||| q2) &&& (q3 ^^^ (-1 : Int64))))).toUInt64 >>> ((63 : Int32) &&& 0x3f).toInt64.toUInt64).toInt64))]))
  exact GoOn.retJ X0 hx hlk hret (hb hby d_prog_28_method_12_17) (by rw [e0]; exact ⟨rfl, rfl, rfl⟩) (by decide) (by decide)
theorem ef_atc (m : MethodId) (x0 : Addr) (x1 : Int64) : entryFrame m #[(.ref x0), (.long x1)] 5 = mkF m 0 #[.val (.ref x0), .val (.long x1), .second, .unset, .unset] [] := by first | (simp [entryFrame, mkF, argsToLocals, Value.category]; done) | rfl
theorem pn_com_example_nano_embed_nanoembed_geometry_Int384 : plainName "com/example/nano_embed/nanoembed/geometry/Int384" = true := by first | (simp [plainName, overriddenIn]; done) | decide +kernel
theorem d_prog_29_method_10_0 : decode prog_29_method_10_code 0 = .ok (.aload_n 0, 1) := by decide +kernel
theorem d_prog_29_method_10_1 : decode prog_29_method_10_code 1 = .ok (.getfield 62, 3) := by decide +kernel
theorem d_prog_29_method_10_4 : decode prog_29_method_10_code 4 = .ok (.lload_n 1, 1) := by decide +kernel
theorem d_prog_29_method_10_5 : decode prog_29_method_10_code 5 = .ok (.ladd, 1) := by decide +kernel
theorem d_prog_29_method_10_6 : decode prog_29_method_10_code 6 = .ok (.lstore_n 3, 1) := by decide +kernel
theorem d_prog_29_method_10_7 : decode prog_29_method_10_code 7 = .ok (.aload_n 0, 1) := by decide +kernel
theorem d_prog_29_method_10_8 : decode prog_29_method_10_code 8 = .ok (.dup, 1) := by decide +kernel
theorem d_prog_29_method_10_9 : decode prog_29_method_10_code 9 = .ok (.getfield 97, 3) := by decide +kernel
theorem d_prog_29_method_10_12 : decode prog_29_method_10_code 12 = .ok (.aload_n 0, 1) := by decide +kernel
theorem d_prog_29_method_10_13 : decode prog_29_method_10_code 13 = .ok (.getfield 62, 3) := by decide +kernel
theorem d_prog_29_method_10_16 : decode prog_29_method_10_code 16 = .ok (.lload_n 1, 1) := by decide +kernel
theorem d_prog_29_method_10_17 : decode prog_29_method_10_code 17 = .ok (.lload_n 3, 1) := by decide +kernel
theorem pd_1 : parseMethodDescriptor "(JJJ)J" = some ⟨[.long, .long, .long], some .long⟩ := by decide +kernel
theorem d_prog_29_method_10_18 : decode prog_29_method_10_code 18 = .ok (.invokestatic 100, 3) := by decide +kernel
theorem d_prog_29_method_10_21 : decode prog_29_method_10_code 21 = .ok (.ladd, 1) := by decide +kernel
theorem d_prog_29_method_10_22 : decode prog_29_method_10_code 22 = .ok (.putfield 97, 3) := by decide +kernel
theorem d_prog_29_method_10_25 : decode prog_29_method_10_code 25 = .ok (.aload_n 0, 1) := by decide +kernel
theorem d_prog_29_method_10_26 : decode prog_29_method_10_code 26 = .ok (.lload_n 3, 1) := by decide +kernel
theorem d_prog_29_method_10_27 : decode prog_29_method_10_code 27 = .ok (.putfield 62, 3) := by decide +kernel
theorem d_prog_29_method_10_30 : decode prog_29_method_10_code 30 = .ok (.return_, 1) := by decide +kernel
set_option maxRecDepth 65536 in
set_option maxHeartbeats 40000000 in
theorem rm_atc (l : Launch) (Z : State) (a0 : Array Value) (hw : ∀ d ∈ tables_1, d.before a0 Z = true) (o1 : Addr) (l0 l1 l2 l3 l4 l5 p0 p1 p2 p3 p4 p5 c k t : Int64) (h0 : Heap) (n0 : Nat) (g_o1 : n0 ≤ o1) (I0 : own_I Z h0 o1 l0 l1 l2 l3 l4 l5 p0 p1 p2 p3 p4 p5 c k) (hk : own_U k < 1000) :
    OwCon l Z (⟨"com/example/nano_embed/nanoembed/geometry/Int384", "addToColumn", "(J)V"⟩ : MethodName) prog_29_method_10_code 5 none [] ({ frames := 1, cells := 0, slots := 0, locals := 20 } : Room) #[(.ref o1), (.long t)] h0 (fun v h L => v = none ∧ Fr n0 L ∧ ∃ c' k', own_I Z h o1 l0 l1 l2 l3 l4 l5 p0 p1 p2 p3 p4 p5 c' k' ∧ own_U c' + 18446744073709551616 * own_U k' = own_U c + 18446744073709551616 * own_U k + own_U t ∧ own_U k' ≤ own_U k + 1) := by
  refine OwCon.of (plainFor_of_name pn_com_example_nano_embed_nanoembed_geometry_Int384) ?_
  intro p e s m below meth cd_ s₁ X0 hx hby hml hret hlk hown hnm hZ e0
  have N0 := Fr.nil n0
  refine GoOn.st (fun t_ k_ => castTop (ef_atc m o1 t) k_) ?_
  show GoOn _ _ _ _ (s₁.setTop (mkF m 0 #[.val (.ref o1), .val (.long t), .second, .unset, .unset] []))
  refine GoOn.st (fun t_ k_ => XS.aloadN X0.here hx rfl (hb hby d_prog_29_method_10_0) rfl rfl k_) ?_
  obtain ⟨T1, X1, e1, st1⟩ := getF X0 hx hZ hown (host := "") (Or.inl (hw _ (List.mem_of_getElem? (i := 58) rfl))) Via.refl e0 (own_I_get_column I0) (g := (mkF m 1 #[.val (.ref o1), .val (.long t), .second, .unset, .unset] [(.ref o1)])) rfl rfl (hb hby d_prog_29_method_10_1)
  refine GoOn.st st1 ?_
  refine GoOn.st (fun t_ k_ => XS.lloadN X1.here hx rfl (hb hby d_prog_29_method_10_4) rfl k_) ?_
  refine GoOn.st (fun t_ k_ => XS.ladd X1.here hx rfl (hb hby d_prog_29_method_10_5) rfl k_) ?_
  show GoOn _ _ _ _ (T1.setTop (mkF m 6 #[.val (.ref o1), .val (.long t), .second, .unset, .unset] [(.long (c + t))]))
  refine GoOn.st (fun t_ k_ => XS.lstoreN X1.here hx rfl (hb hby d_prog_29_method_10_6) rfl (l' := #[.val (.ref o1), .val (.long t), .second, .val (.long (c + t)), .second]) rfl k_) ?_
  refine GoOn.st (fun t_ k_ => XS.aloadN X1.here hx rfl (hb hby d_prog_29_method_10_7) rfl rfl k_) ?_
  refine GoOn.st (fun t_ k_ => XS.dup X1.here hx rfl (hb hby d_prog_29_method_10_8) rfl rfl k_) ?_
  obtain ⟨T2, X2, e2, st2⟩ := getF X1 hx hZ hown (host := "") (Or.inl (hw _ (List.mem_of_getElem? (i := 64) rfl))) Via.refl e1 (own_I_get_columnCarries I0) (g := (mkF m 9 #[.val (.ref o1), .val (.long t), .second, .val (.long (c + t)), .second] [(.ref o1), (.ref o1)])) rfl rfl (hb hby d_prog_29_method_10_9)
  refine GoOn.st st2 ?_
  show GoOn _ _ _ _ (T2.setTop (mkF m 12 #[.val (.ref o1), .val (.long t), .second, .val (.long (c + t)), .second] [(.long k), (.ref o1)]))
  refine GoOn.st (fun t_ k_ => XS.aloadN X2.here hx rfl (hb hby d_prog_29_method_10_12) rfl rfl k_) ?_
  obtain ⟨T3, X3, e3, st3⟩ := getF X2 hx hZ hown (host := "") (Or.inl (hw _ (List.mem_of_getElem? (i := 58) rfl))) Via.refl e2 (own_I_get_column I0) (g := (mkF m 13 #[.val (.ref o1), .val (.long t), .second, .val (.long (c + t)), .second] [(.ref o1), (.long k), (.ref o1)])) rfl rfl (hb hby d_prog_29_method_10_13)
  refine GoOn.st st3 ?_
  refine GoOn.st (fun t_ k_ => XS.lloadN X3.here hx rfl (hb hby d_prog_29_method_10_16) rfl k_) ?_
  refine GoOn.st (fun t_ k_ => XS.lloadN X3.here hx rfl (hb hby d_prog_29_method_10_17) rfl k_) ?_
  show GoOn _ _ _ _ (T3.setTop (mkF m 18 #[.val (.ref o1), .val (.long t), .second, .val (.long (c + t)), .second] [(.long (c + t)), (.long t), (.long c), (.long k), (.ref o1)]))
  refine GoOn.callS (W := 3) (argsL := [(.long c), (.long t), (.long (c + t))]) (rest := [(.long k), (.ref o1)]) X3 hx hZ hown (hw _ (List.mem_of_getElem? (i := 66) rfl)) (hw _ (List.mem_of_getElem? (i := 67) rfl)) (hw _ (List.mem_of_getElem? (i := 40) rfl)) (hw _ (List.mem_of_getElem? (i := 68) rfl)) (by decide) (rm_carry l Z a0 hw c t (c + t) h0) e3 (by decide) (by decide) (by rw [hml]; rfl) pd_1 rfl rfl (Nat.le_of_eq rfl) (hb hby d_prog_29_method_10_18) (by decide) (by decide) ?_
  rintro _ T4 L4 X4 ⟨rfl, rfl, e4⟩
  rw [List.append_nil] at X4
  refine GoOn.st (fun t_ k_ => XS.ladd X4.here hx rfl (hb hby d_prog_29_method_10_21) rfl k_) ?_
  obtain ⟨T5, h5, X5, e5, W5, st5⟩ := putF X4 hx hZ hown (host := "") (Or.inl (hw _ (List.mem_of_getElem? (i := 64) rfl))) Via.refl e4 (own_I_get_columnCarries I0) (own_I_exa I0) (Or.inl (hw _ (List.mem_of_getElem? (i := 65) rfl))) (hw _ (List.mem_of_getElem? (i := 1) rfl)) (ty := .long) (by decide) rfl rfl (g := (mkF m 22 #[.val (.ref o1), .val (.long t), .second, .val (.long (c + t)), .second] [(.long (k + (own_carry c t (c + t)))), (.ref o1)])) rfl rfl (hb hby d_prog_29_method_10_22)
  have I5 := own_I_put_columnCarries hw W5 I0
  have N6 := Fr.snoc X5 N0 g_o1
  refine GoOn.st st5 ?_
  refine GoOn.st (fun t_ k_ => XS.aloadN X5.here hx rfl (hb hby d_prog_29_method_10_25) rfl rfl k_) ?_
  show GoOn _ _ _ _ (T5.setTop (mkF m 26 #[.val (.ref o1), .val (.long t), .second, .val (.long (c + t)), .second] [(.ref o1)]))
  refine GoOn.st (fun t_ k_ => XS.lloadN X5.here hx rfl (hb hby d_prog_29_method_10_26) rfl k_) ?_
  obtain ⟨T7, h7, X7, e7, W7, st7⟩ := putF X5 hx hZ hown (host := "") (Or.inl (hw _ (List.mem_of_getElem? (i := 58) rfl))) Via.refl e5 (own_I_get_column I5) (own_I_exa I5) (Or.inl (hw _ (List.mem_of_getElem? (i := 59) rfl))) (hw _ (List.mem_of_getElem? (i := 1) rfl)) (ty := .long) (by decide) rfl rfl (g := (mkF m 27 #[.val (.ref o1), .val (.long t), .second, .val (.long (c + t)), .second] [(.long (c + t)), (.ref o1)])) rfl rfl (hb hby d_prog_29_method_10_27)
  have I7 := own_I_put_column hw W7 I5
  have N8 := Fr.snoc X7 N6 g_o1
  refine GoOn.st st7 ?_
  show GoOn _ _ _ _ (T7.setTop (mkF m 30 #[.val (.ref o1), .val (.long t), .second, .val (.long (c + t)), .second] []))
  exact GoOn.retV X7 hx hlk hret (hb hby d_prog_29_method_10_30) (by rw [e7]; exact ⟨rfl, N8, _, _, I7, (own_col _ _ _ hk).1, (own_col _ _ _ hk).2⟩) (by decide) (by decide)
theorem ef_nxt (m : MethodId) (x0 : Addr) : entryFrame m #[(.ref x0)] 3 = mkF m 0 #[.val (.ref x0), .unset, .unset] [] := by first | (simp [entryFrame, mkF, argsToLocals, Value.category]; done) | rfl
theorem d_prog_29_method_11_0 : decode prog_29_method_11_code 0 = .ok (.aload_n 0, 1) := by decide +kernel
theorem d_prog_29_method_11_1 : decode prog_29_method_11_code 1 = .ok (.getfield 62, 3) := by decide +kernel
theorem d_prog_29_method_11_4 : decode prog_29_method_11_code 4 = .ok (.lstore_n 1, 1) := by decide +kernel
theorem d_prog_29_method_11_5 : decode prog_29_method_11_code 5 = .ok (.aload_n 0, 1) := by decide +kernel
theorem d_prog_29_method_11_6 : decode prog_29_method_11_code 6 = .ok (.aload_n 0, 1) := by decide +kernel
theorem d_prog_29_method_11_7 : decode prog_29_method_11_code 7 = .ok (.getfield 97, 3) := by decide +kernel
theorem d_prog_29_method_11_10 : decode prog_29_method_11_code 10 = .ok (.putfield 62, 3) := by decide +kernel
theorem d_prog_29_method_11_13 : decode prog_29_method_11_code 13 = .ok (.aload_n 0, 1) := by decide +kernel
theorem d_prog_29_method_11_14 : decode prog_29_method_11_code 14 = .ok (.lconst 0, 1) := by decide +kernel
theorem d_prog_29_method_11_15 : decode prog_29_method_11_code 15 = .ok (.putfield 97, 3) := by decide +kernel
theorem d_prog_29_method_11_18 : decode prog_29_method_11_code 18 = .ok (.lload_n 1, 1) := by decide +kernel
theorem d_prog_29_method_11_19 : decode prog_29_method_11_code 19 = .ok (.lreturn, 1) := by decide +kernel
set_option maxRecDepth 65536 in
set_option maxHeartbeats 40000000 in
theorem rm_nxt (l : Launch) (Z : State) (a0 : Array Value) (hw : ∀ d ∈ tables_1, d.before a0 Z = true) (o1 : Addr) (l0 l1 l2 l3 l4 l5 p0 p1 p2 p3 p4 p5 c k : Int64) (h0 : Heap) (n0 : Nat) (g_o1 : n0 ≤ o1) (I0 : own_I Z h0 o1 l0 l1 l2 l3 l4 l5 p0 p1 p2 p3 p4 p5 c k) :
    OwCon l Z (⟨"com/example/nano_embed/nanoembed/geometry/Int384", "nextColumn", "()J"⟩ : MethodName) prog_29_method_11_code 3 (some .long) [] ({ frames := 0, cells := 0, slots := 0, locals := 0 } : Room) #[(.ref o1)] h0 (fun v h L => v = some (.long c) ∧ Fr n0 L ∧ own_I Z h o1 l0 l1 l2 l3 l4 l5 p0 p1 p2 p3 p4 p5 k 0) := by
  refine OwCon.of (plainFor_of_name pn_com_example_nano_embed_nanoembed_geometry_Int384) ?_
  intro p e s m below meth cd_ s₁ X0 hx hby hml hret hlk hown hnm hZ e0
  have N0 := Fr.nil n0
  refine GoOn.st (fun t_ k_ => castTop (ef_nxt m o1) k_) ?_
  show GoOn _ _ _ _ (s₁.setTop (mkF m 0 #[.val (.ref o1), .unset, .unset] []))
  refine GoOn.st (fun t_ k_ => XS.aloadN X0.here hx rfl (hb hby d_prog_29_method_11_0) rfl rfl k_) ?_
  obtain ⟨T1, X1, e1, st1⟩ := getF X0 hx hZ hown (host := "") (Or.inl (hw _ (List.mem_of_getElem? (i := 58) rfl))) Via.refl e0 (own_I_get_column I0) (g := (mkF m 1 #[.val (.ref o1), .unset, .unset] [(.ref o1)])) rfl rfl (hb hby d_prog_29_method_11_1)
  refine GoOn.st st1 ?_
  refine GoOn.st (fun t_ k_ => XS.lstoreN X1.here hx rfl (hb hby d_prog_29_method_11_4) rfl (l' := #[.val (.ref o1), .val (.long c), .second]) rfl k_) ?_
  refine GoOn.st (fun t_ k_ => XS.aloadN X1.here hx rfl (hb hby d_prog_29_method_11_5) rfl rfl k_) ?_
  show GoOn _ _ _ _ (T1.setTop (mkF m 6 #[.val (.ref o1), .val (.long c), .second] [(.ref o1)]))
  refine GoOn.st (fun t_ k_ => XS.aloadN X1.here hx rfl (hb hby d_prog_29_method_11_6) rfl rfl k_) ?_
  obtain ⟨T2, X2, e2, st2⟩ := getF X1 hx hZ hown (host := "") (Or.inl (hw _ (List.mem_of_getElem? (i := 64) rfl))) Via.refl e1 (own_I_get_columnCarries I0) (g := (mkF m 7 #[.val (.ref o1), .val (.long c), .second] [(.ref o1), (.ref o1)])) rfl rfl (hb hby d_prog_29_method_11_7)
  refine GoOn.st st2 ?_
  obtain ⟨T3, h3, X3, e3, W3, st3⟩ := putF X2 hx hZ hown (host := "") (Or.inl (hw _ (List.mem_of_getElem? (i := 58) rfl))) Via.refl e2 (own_I_get_column I0) (own_I_exa I0) (Or.inl (hw _ (List.mem_of_getElem? (i := 59) rfl))) (hw _ (List.mem_of_getElem? (i := 1) rfl)) (ty := .long) (by decide) rfl rfl (g := (mkF m 10 #[.val (.ref o1), .val (.long c), .second] [(.long k), (.ref o1)])) rfl rfl (hb hby d_prog_29_method_11_10)
  have I3 := own_I_put_column hw W3 I0
  have N4 := Fr.snoc X3 N0 g_o1
  refine GoOn.st st3 ?_
  refine GoOn.st (fun t_ k_ => XS.aloadN X3.here hx rfl (hb hby d_prog_29_method_11_13) rfl rfl k_) ?_
  show GoOn _ _ _ _ (T3.setTop (mkF m 14 #[.val (.ref o1), .val (.long c), .second] [(.ref o1)]))
  refine GoOn.st (fun t_ k_ => XS.lconst X3.here hx rfl (hb hby d_prog_29_method_11_14)  k_) ?_
  obtain ⟨T5, h5, X5, e5, W5, st5⟩ := putF X3 hx hZ hown (host := "") (Or.inl (hw _ (List.mem_of_getElem? (i := 64) rfl))) Via.refl e3 (own_I_get_columnCarries I3) (own_I_exa I3) (Or.inl (hw _ (List.mem_of_getElem? (i := 65) rfl))) (hw _ (List.mem_of_getElem? (i := 1) rfl)) (ty := .long) (by decide) rfl rfl (g := (mkF m 15 #[.val (.ref o1), .val (.long c), .second] [(.long (0 : Int64)), (.ref o1)])) rfl rfl (hb hby d_prog_29_method_11_15)
  have I5 := own_I_put_columnCarries hw W5 I3
  have N6 := Fr.snoc X5 N4 g_o1
  refine GoOn.st st5 ?_
  refine GoOn.st (fun t_ k_ => XS.lloadN X5.here hx rfl (hb hby d_prog_29_method_11_18) rfl k_) ?_
  show GoOn _ _ _ _ (T5.setTop (mkF m 19 #[.val (.ref o1), .val (.long c), .second] [(.long c)]))
  exact GoOn.retJ X5 hx hlk hret (hb hby d_prog_29_method_11_19) (by rw [e5]; exact ⟨rfl, N6, I5⟩) (by decide) (by decide)
theorem ef_lst (m : MethodId) (x0 : Addr) (x1 : Int64) : entryFrame m #[(.ref x0), (.long x1)] 3 = mkF m 0 #[.val (.ref x0), .val (.long x1), .second] [] := by first | (simp [entryFrame, mkF, argsToLocals, Value.category]; done) | rfl
theorem d_prog_29_method_12_0 : decode prog_29_method_12_code 0 = .ok (.aload_n 0, 1) := by decide +kernel
theorem d_prog_29_method_12_1 : decode prog_29_method_12_code 1 = .ok (.getfield 62, 3) := by decide +kernel
theorem d_prog_29_method_12_4 : decode prog_29_method_12_code 4 = .ok (.lload_n 1, 1) := by decide +kernel
theorem d_prog_29_method_12_5 : decode prog_29_method_12_code 5 = .ok (.ladd, 1) := by decide +kernel
theorem d_prog_29_method_12_6 : decode prog_29_method_12_code 6 = .ok (.lreturn, 1) := by decide +kernel
set_option maxRecDepth 65536 in
set_option maxHeartbeats 40000000 in
theorem rm_lst (l : Launch) (Z : State) (a0 : Array Value) (hw : ∀ d ∈ tables_1, d.before a0 Z = true) (o1 : Addr) (l0 l1 l2 l3 l4 l5 p0 p1 p2 p3 p4 p5 c k t : Int64) (h0 : Heap) (I0 : own_I Z h0 o1 l0 l1 l2 l3 l4 l5 p0 p1 p2 p3 p4 p5 c k) :
    OwCon l Z (⟨"com/example/nano_embed/nanoembed/geometry/Int384", "lastColumn", "(J)J"⟩ : MethodName) prog_29_method_12_code 3 (some .long) [] ({ frames := 0, cells := 0, slots := 0, locals := 0 } : Room) #[(.ref o1), (.long t)] h0 (OwRet (some (.long (c + t))) h0) := by
  refine OwCon.of (plainFor_of_name pn_com_example_nano_embed_nanoembed_geometry_Int384) ?_
  intro p e s m below meth cd_ s₁ X0 hx hby hml hret hlk hown hnm hZ e0
  refine GoOn.st (fun t_ k_ => castTop (ef_lst m o1 t) k_) ?_
  show GoOn _ _ _ _ (s₁.setTop (mkF m 0 #[.val (.ref o1), .val (.long t), .second] []))
  refine GoOn.st (fun t_ k_ => XS.aloadN X0.here hx rfl (hb hby d_prog_29_method_12_0) rfl rfl k_) ?_
  obtain ⟨T1, X1, e1, st1⟩ := getF X0 hx hZ hown (host := "") (Or.inl (hw _ (List.mem_of_getElem? (i := 58) rfl))) Via.refl e0 (own_I_get_column I0) (g := (mkF m 1 #[.val (.ref o1), .val (.long t), .second] [(.ref o1)])) rfl rfl (hb hby d_prog_29_method_12_1)
  refine GoOn.st st1 ?_
  refine GoOn.st (fun t_ k_ => XS.lloadN X1.here hx rfl (hb hby d_prog_29_method_12_4) rfl k_) ?_
  refine GoOn.st (fun t_ k_ => XS.ladd X1.here hx rfl (hb hby d_prog_29_method_12_5) rfl k_) ?_
  show GoOn _ _ _ _ (T1.setTop (mkF m 6 #[.val (.ref o1), .val (.long t), .second] [(.long (c + t))]))
  exact GoOn.retJ X1 hx hlk hret (hb hby d_prog_29_method_12_6) (by rw [e1]; exact ⟨rfl, rfl, rfl⟩) (by decide) (by decide)
theorem ef_ml31 (m : MethodId) (x0 : Addr) (x1 : Int64) (x2 : Int64) (x3 : Int64) (x4 : Int64) : entryFrame m #[(.ref x0), (.long x1), (.long x2), (.long x3), (.long x4)] 9 = mkF m 0 #[.val (.ref x0), .val (.long x1), .second, .val (.long x2), .second, .val (.long x3), .second, .val (.long x4), .second] [] := by first | (simp [entryFrame, mkF, argsToLocals, Value.category]; done) | rfl
theorem d_prog_29_method_9_0 : decode prog_29_method_9_code 0 = .ok (.aload_n 0, 1) := by decide +kernel
theorem d_prog_29_method_9_1 : decode prog_29_method_9_code 1 = .ok (.lload_n 1, 1) := by decide +kernel
theorem d_prog_29_method_9_2 : decode prog_29_method_9_code 2 = .ok (.lload 7, 2) := by decide +kernel
theorem d_prog_29_method_9_4 : decode prog_29_method_9_code 4 = .ok (.lmul, 1) := by decide +kernel
theorem d_prog_29_method_9_5 : decode prog_29_method_9_code 5 = .ok (.putfield 56, 3) := by decide +kernel
theorem d_prog_29_method_9_8 : decode prog_29_method_9_code 8 = .ok (.aload_n 0, 1) := by decide +kernel
theorem d_prog_29_method_9_9 : decode prog_29_method_9_code 9 = .ok (.lload_n 1, 1) := by decide +kernel
theorem d_prog_29_method_9_10 : decode prog_29_method_9_code 10 = .ok (.lload 7, 2) := by decide +kernel
theorem d_prog_29_method_9_12 : decode prog_29_method_9_code 12 = .ok (.invokestatic 59, 3) := by decide +kernel
theorem d_prog_29_method_9_15 : decode prog_29_method_9_code 15 = .ok (.putfield 62, 3) := by decide +kernel
theorem d_prog_29_method_9_18 : decode prog_29_method_9_code 18 = .ok (.aload_n 0, 1) := by decide +kernel
theorem d_prog_29_method_9_19 : decode prog_29_method_9_code 19 = .ok (.lload_n 3, 1) := by decide +kernel
theorem d_prog_29_method_9_20 : decode prog_29_method_9_code 20 = .ok (.lload 7, 2) := by decide +kernel
theorem d_prog_29_method_9_22 : decode prog_29_method_9_code 22 = .ok (.lmul, 1) := by decide +kernel
theorem pd_2 : parseMethodDescriptor "(J)V" = some ⟨[.long], none⟩ := by decide +kernel
theorem d_prog_29_method_9_23 : decode prog_29_method_9_code 23 = .ok (.invokevirtual 65, 3) := by decide +kernel
theorem d_prog_29_method_9_26 : decode prog_29_method_9_code 26 = .ok (.aload_n 0, 1) := by decide +kernel
theorem d_prog_29_method_9_27 : decode prog_29_method_9_code 27 = .ok (.aload_n 0, 1) := by decide +kernel
theorem pd_3 : parseMethodDescriptor "()J" = some ⟨[], some .long⟩ := by decide +kernel
theorem d_prog_29_method_9_28 : decode prog_29_method_9_code 28 = .ok (.invokevirtual 69, 3) := by decide +kernel
theorem d_prog_29_method_9_31 : decode prog_29_method_9_code 31 = .ok (.putfield 73, 3) := by decide +kernel
theorem d_prog_29_method_9_34 : decode prog_29_method_9_code 34 = .ok (.aload_n 0, 1) := by decide +kernel
theorem d_prog_29_method_9_35 : decode prog_29_method_9_code 35 = .ok (.lload_n 3, 1) := by decide +kernel
theorem d_prog_29_method_9_36 : decode prog_29_method_9_code 36 = .ok (.lload 7, 2) := by decide +kernel
theorem d_prog_29_method_9_38 : decode prog_29_method_9_code 38 = .ok (.invokestatic 59, 3) := by decide +kernel
theorem d_prog_29_method_9_41 : decode prog_29_method_9_code 41 = .ok (.invokevirtual 65, 3) := by decide +kernel
theorem d_prog_29_method_9_44 : decode prog_29_method_9_code 44 = .ok (.aload_n 0, 1) := by decide +kernel
theorem d_prog_29_method_9_45 : decode prog_29_method_9_code 45 = .ok (.lload 5, 2) := by decide +kernel
theorem d_prog_29_method_9_47 : decode prog_29_method_9_code 47 = .ok (.lload 7, 2) := by decide +kernel
theorem d_prog_29_method_9_49 : decode prog_29_method_9_code 49 = .ok (.lmul, 1) := by decide +kernel
theorem d_prog_29_method_9_50 : decode prog_29_method_9_code 50 = .ok (.invokevirtual 65, 3) := by decide +kernel
theorem d_prog_29_method_9_53 : decode prog_29_method_9_code 53 = .ok (.aload_n 0, 1) := by decide +kernel
theorem d_prog_29_method_9_54 : decode prog_29_method_9_code 54 = .ok (.aload_n 0, 1) := by decide +kernel
theorem d_prog_29_method_9_55 : decode prog_29_method_9_code 55 = .ok (.invokevirtual 69, 3) := by decide +kernel
theorem d_prog_29_method_9_58 : decode prog_29_method_9_code 58 = .ok (.putfield 76, 3) := by decide +kernel
theorem d_prog_29_method_9_61 : decode prog_29_method_9_code 61 = .ok (.aload_n 0, 1) := by decide +kernel
theorem d_prog_29_method_9_62 : decode prog_29_method_9_code 62 = .ok (.aload_n 0, 1) := by decide +kernel
theorem d_prog_29_method_9_63 : decode prog_29_method_9_code 63 = .ok (.lload 5, 2) := by decide +kernel
theorem d_prog_29_method_9_65 : decode prog_29_method_9_code 65 = .ok (.lload 7, 2) := by decide +kernel
theorem d_prog_29_method_9_67 : decode prog_29_method_9_code 67 = .ok (.invokestatic 59, 3) := by decide +kernel
theorem pd_4 : parseMethodDescriptor "(J)J" = some ⟨[.long], some .long⟩ := by decide +kernel
theorem d_prog_29_method_9_70 : decode prog_29_method_9_code 70 = .ok (.invokevirtual 90, 3) := by decide +kernel
theorem d_prog_29_method_9_73 : decode prog_29_method_9_code 73 = .ok (.putfield 79, 3) := by decide +kernel
theorem d_prog_29_method_9_76 : decode prog_29_method_9_code 76 = .ok (.aload_n 0, 1) := by decide +kernel
theorem d_prog_29_method_9_77 : decode prog_29_method_9_code 77 = .ok (.lconst 0, 1) := by decide +kernel
theorem d_prog_29_method_9_78 : decode prog_29_method_9_code 78 = .ok (.putfield 82, 3) := by decide +kernel
theorem d_prog_29_method_9_81 : decode prog_29_method_9_code 81 = .ok (.aload_n 0, 1) := by decide +kernel
theorem d_prog_29_method_9_82 : decode prog_29_method_9_code 82 = .ok (.lconst 0, 1) := by decide +kernel
theorem d_prog_29_method_9_83 : decode prog_29_method_9_code 83 = .ok (.putfield 94, 3) := by decide +kernel
theorem d_prog_29_method_9_86 : decode prog_29_method_9_code 86 = .ok (.return_, 1) := by decide +kernel
set_option maxRecDepth 65536 in
set_option maxHeartbeats 40000000 in
theorem rm_ml31 (l : Launch) (Z : State) (a0 : Array Value) (hw : ∀ d ∈ tables_1, d.before a0 Z = true) (o1 : Addr) (l0 l1 l2 l3 l4 l5 p0 p1 p2 p3 p4 p5 c aa0 aa1 aa2 b0 : Int64) (h0 : Heap) (n0 : Nat) (g_o1 : n0 ≤ o1) (I0 : own_I Z h0 o1 l0 l1 l2 l3 l4 l5 p0 p1 p2 p3 p4 p5 c 0) (ha : own_U aa2 ≤ 2305843009213693952) :
    OwCon l Z (⟨"com/example/nano_embed/nanoembed/geometry/Int384", "multiplyLimbs", "(JJJJ)V"⟩ : MethodName) prog_29_method_9_code 9 none [] ({ frames := 2, cells := 0, slots := 0, locals := 48 } : Room) #[(.ref o1), (.long aa0), (.long aa1), (.long aa2), (.long b0)] h0 (fun v h L => v = none ∧ Fr n0 L ∧ ∃ p0' p1' p2' p3' p4' p5' c', own_I Z h o1 l0 l1 l2 l3 l4 l5 p0' p1' p2' p3' p4' p5' c' 0 ∧ own_P6 p0' p1' p2' p3' p4' p5' = own_V3 aa0 aa1 aa2 * own_U b0) := by
  refine OwCon.of (plainFor_of_name pn_com_example_nano_embed_nanoembed_geometry_Int384) ?_
  intro p e s m below meth cd_ s₁ X0 hx hby hml hret hlk hown hnm hZ e0
  have z0 : own_U (0 : Int64) = 0 := rfl
  have N0 := Fr.nil n0
  refine GoOn.st (fun t_ k_ => castTop (ef_ml31 m o1 aa0 aa1 aa2 b0) k_) ?_
  show GoOn _ _ _ _ (s₁.setTop (mkF m 0 #[.val (.ref o1), .val (.long aa0), .second, .val (.long aa1), .second, .val (.long aa2), .second, .val (.long b0), .second] []))
  refine GoOn.st (fun t_ k_ => XS.aloadN X0.here hx rfl (hb hby d_prog_29_method_9_0) rfl rfl k_) ?_
  refine GoOn.st (fun t_ k_ => XS.lloadN X0.here hx rfl (hb hby d_prog_29_method_9_1) rfl k_) ?_
  refine GoOn.st (fun t_ k_ => XS.lload X0.here hx rfl (hb hby d_prog_29_method_9_2) rfl k_) ?_
  refine GoOn.st (fun t_ k_ => XS.lmul X0.here hx rfl (hb hby d_prog_29_method_9_4) rfl k_) ?_
  show GoOn _ _ _ _ (s₁.setTop (mkF m 5 #[.val (.ref o1), .val (.long aa0), .second, .val (.long aa1), .second, .val (.long aa2), .second, .val (.long b0), .second] [(.long (aa0 * b0)), (.ref o1)]))
  obtain ⟨T1, h1, X1, e1, W1, st1⟩ := putF X0 hx hZ hown (host := "") (Or.inl (hw _ (List.mem_of_getElem? (i := 48) rfl))) Via.refl e0 (own_I_get_product0 I0) (own_I_exa I0) (Or.inl (hw _ (List.mem_of_getElem? (i := 49) rfl))) (hw _ (List.mem_of_getElem? (i := 1) rfl)) (ty := .long) (by decide) rfl rfl (g := (mkF m 5 #[.val (.ref o1), .val (.long aa0), .second, .val (.long aa1), .second, .val (.long aa2), .second, .val (.long b0), .second] [(.long (aa0 * b0)), (.ref o1)])) rfl rfl (hb hby d_prog_29_method_9_5)
  have I1 := own_I_put_product0 hw W1 I0
  have N2 := Fr.snoc X1 N0 g_o1
  refine GoOn.st st1 ?_
  refine GoOn.st (fun t_ k_ => XS.aloadN X1.here hx rfl (hb hby d_prog_29_method_9_8) rfl rfl k_) ?_
  refine GoOn.st (fun t_ k_ => XS.lloadN X1.here hx rfl (hb hby d_prog_29_method_9_9) rfl k_) ?_
  refine GoOn.st (fun t_ k_ => XS.lload X1.here hx rfl (hb hby d_prog_29_method_9_10) rfl k_) ?_
  show GoOn _ _ _ _ (T1.setTop (mkF m 12 #[.val (.ref o1), .val (.long aa0), .second, .val (.long aa1), .second, .val (.long aa2), .second, .val (.long b0), .second] [(.long b0), (.long aa0), (.ref o1)]))
  refine GoOn.callS (W := 1) (argsL := [(.long aa0), (.long b0)]) (rest := [(.ref o1)]) X1 hx hZ hown (hw _ (List.mem_of_getElem? (i := 50) rfl)) (hw _ (List.mem_of_getElem? (i := 51) rfl)) (hw _ (List.mem_of_getElem? (i := 40) rfl)) (hw _ (List.mem_of_getElem? (i := 52) rfl)) (by decide) (rm_umulh l Z a0 hw aa0 b0 h1) e1 (by decide) (by decide) (by rw [hml]; rfl) pd_0 rfl rfl (Nat.le_of_eq rfl) (hb hby d_prog_29_method_9_12) (by decide) (by decide) ?_
  rintro _ T3 L3 X3 ⟨rfl, rfl, e3⟩
  rw [List.append_nil] at X3
  obtain ⟨T4, h4, X4, e4, W4, st4⟩ := putF X3 hx hZ hown (host := "") (Or.inl (hw _ (List.mem_of_getElem? (i := 58) rfl))) Via.refl e3 (own_I_get_column I1) (own_I_exa I1) (Or.inl (hw _ (List.mem_of_getElem? (i := 59) rfl))) (hw _ (List.mem_of_getElem? (i := 1) rfl)) (ty := .long) (by decide) rfl rfl (g := (mkF m 15 #[.val (.ref o1), .val (.long aa0), .second, .val (.long aa1), .second, .val (.long aa2), .second, .val (.long b0), .second] [(.long (own_umulh aa0 b0)), (.ref o1)])) rfl rfl (hb hby d_prog_29_method_9_15)
  have I4 := own_I_put_column hw W4 I1
  have N5 := Fr.snoc X4 N2 g_o1
  refine GoOn.st st4 ?_
  refine GoOn.st (fun t_ k_ => XS.aloadN X4.here hx rfl (hb hby d_prog_29_method_9_18) rfl rfl k_) ?_
  refine GoOn.st (fun t_ k_ => XS.lloadN X4.here hx rfl (hb hby d_prog_29_method_9_19) rfl k_) ?_
  show GoOn _ _ _ _ (T4.setTop (mkF m 20 #[.val (.ref o1), .val (.long aa0), .second, .val (.long aa1), .second, .val (.long aa2), .second, .val (.long b0), .second] [(.long aa1), (.ref o1)]))
  refine GoOn.st (fun t_ k_ => XS.lload X4.here hx rfl (hb hby d_prog_29_method_9_20) rfl k_) ?_
  refine GoOn.st (fun t_ k_ => XS.lmul X4.here hx rfl (hb hby d_prog_29_method_9_22) rfl k_) ?_
  show GoOn _ _ _ _ (T4.setTop (mkF m 23 #[.val (.ref o1), .val (.long aa0), .second, .val (.long aa1), .second, .val (.long aa2), .second, .val (.long b0), .second] [(.long (aa1 * b0)), (.ref o1)]))
  refine GoOn.callP (W := 0) (argsL := [(.long (aa1 * b0))]) (rest := []) (a := o1) X4 hx hZ hown (hw _ (List.mem_of_getElem? (i := 60) rfl)) (hw _ (List.mem_of_getElem? (i := 61) rfl)) (Jvm.Kit.selects_private (by decide) (hw _ (List.mem_of_getElem? (i := 1) rfl)) (hw _ (List.mem_of_getElem? (i := 62) rfl)) (hw _ (List.mem_of_getElem? (i := 61) rfl))) (hw _ (List.mem_of_getElem? (i := 62) rfl)) (hw _ (List.mem_of_getElem? (i := 2) rfl)) (hw _ (List.mem_of_getElem? (i := 63) rfl)) (by decide) (rm_atc l Z a0 hw o1 l0 l1 l2 l3 l4 l5 (aa0 * b0) p1 p2 p3 p4 p5 (own_umulh aa0 b0) (0 : Int64) (aa1 * b0) h4 n0 g_o1 I4 (by omega)) e4 (own_I_exa I4).cell (by decide) (by decide) (by rw [hml]; rfl) pd_2 rfl rfl (Nat.le_of_eq rfl) (hb hby d_prog_29_method_9_23) (by decide) (by decide) ?_
  rintro _ T6 L6 X6 ⟨rfl, N6q, c6, k6, I6, eq6, kb6⟩
  have N6 := Fr.app N5 N6q
  refine GoOn.st (fun t_ k_ => XS.aloadN X6.here hx rfl (hb hby d_prog_29_method_9_26) rfl rfl k_) ?_
  refine GoOn.st (fun t_ k_ => XS.aloadN X6.here hx rfl (hb hby d_prog_29_method_9_27) rfl rfl k_) ?_
  show GoOn _ _ _ _ (T6.setTop (mkF m 28 #[.val (.ref o1), .val (.long aa0), .second, .val (.long aa1), .second, .val (.long aa2), .second, .val (.long b0), .second] [(.ref o1), (.ref o1)]))
  refine GoOn.callP (W := 1) (argsL := []) (rest := [(.ref o1)]) (a := o1) X6 hx hZ hown (hw _ (List.mem_of_getElem? (i := 69) rfl)) (hw _ (List.mem_of_getElem? (i := 70) rfl)) (Jvm.Kit.selects_private (by decide) (hw _ (List.mem_of_getElem? (i := 1) rfl)) (hw _ (List.mem_of_getElem? (i := 71) rfl)) (hw _ (List.mem_of_getElem? (i := 70) rfl))) (hw _ (List.mem_of_getElem? (i := 71) rfl)) (hw _ (List.mem_of_getElem? (i := 2) rfl)) (hw _ (List.mem_of_getElem? (i := 72) rfl)) (by decide) (rm_nxt l Z a0 hw o1 l0 l1 l2 l3 l4 l5 (aa0 * b0) p1 p2 p3 p4 p5 c6 k6 T6.heap n0 g_o1 I6) rfl (own_I_exa I6).cell (by decide) (by decide) (by rw [hml]; rfl) pd_3 rfl rfl (Nat.le_of_eq rfl) (hb hby d_prog_29_method_9_28) (by decide) (by decide) ?_
  rintro _ T7 L7 X7 ⟨rfl, N7q, I7⟩
  have N7 := Fr.app N6 N7q
  obtain ⟨T8, h8, X8, e8, W8, st8⟩ := putF X7 hx hZ hown (host := "") (Or.inl (hw _ (List.mem_of_getElem? (i := 73) rfl))) Via.refl rfl (own_I_get_product1 I7) (own_I_exa I7) (Or.inl (hw _ (List.mem_of_getElem? (i := 74) rfl))) (hw _ (List.mem_of_getElem? (i := 1) rfl)) (ty := .long) (by decide) rfl rfl (g := (mkF m 31 #[.val (.ref o1), .val (.long aa0), .second, .val (.long aa1), .second, .val (.long aa2), .second, .val (.long b0), .second] [(.long c6), (.ref o1)])) rfl rfl (hb hby d_prog_29_method_9_31)
  have I8 := own_I_put_product1 hw W8 I7
  have N9 := Fr.snoc X8 N7 g_o1
  refine GoOn.st st8 ?_
  refine GoOn.st (fun t_ k_ => XS.aloadN X8.here hx rfl (hb hby d_prog_29_method_9_34) rfl rfl k_) ?_
  refine GoOn.st (fun t_ k_ => XS.lloadN X8.here hx rfl (hb hby d_prog_29_method_9_35) rfl k_) ?_
  show GoOn _ _ _ _ (T8.setTop (mkF m 36 #[.val (.ref o1), .val (.long aa0), .second, .val (.long aa1), .second, .val (.long aa2), .second, .val (.long b0), .second] [(.long aa1), (.ref o1)]))
  refine GoOn.st (fun t_ k_ => XS.lload X8.here hx rfl (hb hby d_prog_29_method_9_36) rfl k_) ?_
  show GoOn _ _ _ _ (T8.setTop (mkF m 38 #[.val (.ref o1), .val (.long aa0), .second, .val (.long aa1), .second, .val (.long aa2), .second, .val (.long b0), .second] [(.long b0), (.long aa1), (.ref o1)]))
  refine GoOn.callS (W := 1) (argsL := [(.long aa1), (.long b0)]) (rest := [(.ref o1)]) X8 hx hZ hown (hw _ (List.mem_of_getElem? (i := 50) rfl)) (hw _ (List.mem_of_getElem? (i := 51) rfl)) (hw _ (List.mem_of_getElem? (i := 40) rfl)) (hw _ (List.mem_of_getElem? (i := 52) rfl)) (by decide) (rm_umulh l Z a0 hw aa1 b0 h8) e8 (by decide) (by decide) (by rw [hml]; rfl) pd_0 rfl rfl (Nat.le_of_eq rfl) (hb hby d_prog_29_method_9_38) (by decide) (by decide) ?_
  rintro _ T10 L10 X10 ⟨rfl, rfl, e10⟩
  rw [List.append_nil] at X10
  show GoOn _ _ _ _ (T10.setTop (mkF m 41 #[.val (.ref o1), .val (.long aa0), .second, .val (.long aa1), .second, .val (.long aa2), .second, .val (.long b0), .second] [(.long (own_umulh aa1 b0)), (.ref o1)]))
  refine GoOn.callP (W := 0) (argsL := [(.long (own_umulh aa1 b0))]) (rest := []) (a := o1) X10 hx hZ hown (hw _ (List.mem_of_getElem? (i := 60) rfl)) (hw _ (List.mem_of_getElem? (i := 61) rfl)) (Jvm.Kit.selects_private (by decide) (hw _ (List.mem_of_getElem? (i := 1) rfl)) (hw _ (List.mem_of_getElem? (i := 62) rfl)) (hw _ (List.mem_of_getElem? (i := 61) rfl))) (hw _ (List.mem_of_getElem? (i := 62) rfl)) (hw _ (List.mem_of_getElem? (i := 2) rfl)) (hw _ (List.mem_of_getElem? (i := 63) rfl)) (by decide) (rm_atc l Z a0 hw o1 l0 l1 l2 l3 l4 l5 (aa0 * b0) c6 p2 p3 p4 p5 k6 (0 : Int64) (own_umulh aa1 b0) h8 n0 g_o1 I8 (by omega)) e10 (own_I_exa I8).cell (by decide) (by decide) (by rw [hml]; rfl) pd_2 rfl rfl (Nat.le_of_eq rfl) (hb hby d_prog_29_method_9_41) (by decide) (by decide) ?_
  rintro _ T11 L11 X11 ⟨rfl, N11q, c11, k11, I11, eq11, kb11⟩
  have N11 := Fr.app N9 N11q
  refine GoOn.st (fun t_ k_ => XS.aloadN X11.here hx rfl (hb hby d_prog_29_method_9_44) rfl rfl k_) ?_
  refine GoOn.st (fun t_ k_ => XS.lload X11.here hx rfl (hb hby d_prog_29_method_9_45) rfl k_) ?_
  refine GoOn.st (fun t_ k_ => XS.lload X11.here hx rfl (hb hby d_prog_29_method_9_47) rfl k_) ?_
  show GoOn _ _ _ _ (T11.setTop (mkF m 49 #[.val (.ref o1), .val (.long aa0), .second, .val (.long aa1), .second, .val (.long aa2), .second, .val (.long b0), .second] [(.long b0), (.long aa2), (.ref o1)]))
  refine GoOn.st (fun t_ k_ => XS.lmul X11.here hx rfl (hb hby d_prog_29_method_9_49) rfl k_) ?_
  show GoOn _ _ _ _ (T11.setTop (mkF m 50 #[.val (.ref o1), .val (.long aa0), .second, .val (.long aa1), .second, .val (.long aa2), .second, .val (.long b0), .second] [(.long (aa2 * b0)), (.ref o1)]))
  refine GoOn.callP (W := 0) (argsL := [(.long (aa2 * b0))]) (rest := []) (a := o1) X11 hx hZ hown (hw _ (List.mem_of_getElem? (i := 60) rfl)) (hw _ (List.mem_of_getElem? (i := 61) rfl)) (Jvm.Kit.selects_private (by decide) (hw _ (List.mem_of_getElem? (i := 1) rfl)) (hw _ (List.mem_of_getElem? (i := 62) rfl)) (hw _ (List.mem_of_getElem? (i := 61) rfl))) (hw _ (List.mem_of_getElem? (i := 62) rfl)) (hw _ (List.mem_of_getElem? (i := 2) rfl)) (hw _ (List.mem_of_getElem? (i := 63) rfl)) (by decide) (rm_atc l Z a0 hw o1 l0 l1 l2 l3 l4 l5 (aa0 * b0) c6 p2 p3 p4 p5 c11 k11 (aa2 * b0) T11.heap n0 g_o1 I11 (by omega)) rfl (own_I_exa I11).cell (by decide) (by decide) (by rw [hml]; rfl) pd_2 rfl rfl (Nat.le_of_eq rfl) (hb hby d_prog_29_method_9_50) (by decide) (by decide) ?_
  rintro _ T12 L12 X12 ⟨rfl, N12q, c12, k12, I12, eq12, kb12⟩
  have N12 := Fr.app N11 N12q
  refine GoOn.st (fun t_ k_ => XS.aloadN X12.here hx rfl (hb hby d_prog_29_method_9_53) rfl rfl k_) ?_
  refine GoOn.st (fun t_ k_ => XS.aloadN X12.here hx rfl (hb hby d_prog_29_method_9_54) rfl rfl k_) ?_
  show GoOn _ _ _ _ (T12.setTop (mkF m 55 #[.val (.ref o1), .val (.long aa0), .second, .val (.long aa1), .second, .val (.long aa2), .second, .val (.long b0), .second] [(.ref o1), (.ref o1)]))
  refine GoOn.callP (W := 1) (argsL := []) (rest := [(.ref o1)]) (a := o1) X12 hx hZ hown (hw _ (List.mem_of_getElem? (i := 69) rfl)) (hw _ (List.mem_of_getElem? (i := 70) rfl)) (Jvm.Kit.selects_private (by decide) (hw _ (List.mem_of_getElem? (i := 1) rfl)) (hw _ (List.mem_of_getElem? (i := 71) rfl)) (hw _ (List.mem_of_getElem? (i := 70) rfl))) (hw _ (List.mem_of_getElem? (i := 71) rfl)) (hw _ (List.mem_of_getElem? (i := 2) rfl)) (hw _ (List.mem_of_getElem? (i := 72) rfl)) (by decide) (rm_nxt l Z a0 hw o1 l0 l1 l2 l3 l4 l5 (aa0 * b0) c6 p2 p3 p4 p5 c12 k12 T12.heap n0 g_o1 I12) rfl (own_I_exa I12).cell (by decide) (by decide) (by rw [hml]; rfl) pd_3 rfl rfl (Nat.le_of_eq rfl) (hb hby d_prog_29_method_9_55) (by decide) (by decide) ?_
  rintro _ T13 L13 X13 ⟨rfl, N13q, I13⟩
  have N13 := Fr.app N12 N13q
  obtain ⟨T14, h14, X14, e14, W14, st14⟩ := putF X13 hx hZ hown (host := "") (Or.inl (hw _ (List.mem_of_getElem? (i := 75) rfl))) Via.refl rfl (own_I_get_product2 I13) (own_I_exa I13) (Or.inl (hw _ (List.mem_of_getElem? (i := 76) rfl))) (hw _ (List.mem_of_getElem? (i := 1) rfl)) (ty := .long) (by decide) rfl rfl (g := (mkF m 58 #[.val (.ref o1), .val (.long aa0), .second, .val (.long aa1), .second, .val (.long aa2), .second, .val (.long b0), .second] [(.long c12), (.ref o1)])) rfl rfl (hb hby d_prog_29_method_9_58)
  have I14 := own_I_put_product2 hw W14 I13
  have N15 := Fr.snoc X14 N13 g_o1
  refine GoOn.st st14 ?_
  refine GoOn.st (fun t_ k_ => XS.aloadN X14.here hx rfl (hb hby d_prog_29_method_9_61) rfl rfl k_) ?_
  refine GoOn.st (fun t_ k_ => XS.aloadN X14.here hx rfl (hb hby d_prog_29_method_9_62) rfl rfl k_) ?_
  show GoOn _ _ _ _ (T14.setTop (mkF m 63 #[.val (.ref o1), .val (.long aa0), .second, .val (.long aa1), .second, .val (.long aa2), .second, .val (.long b0), .second] [(.ref o1), (.ref o1)]))
  refine GoOn.st (fun t_ k_ => XS.lload X14.here hx rfl (hb hby d_prog_29_method_9_63) rfl k_) ?_
  refine GoOn.st (fun t_ k_ => XS.lload X14.here hx rfl (hb hby d_prog_29_method_9_65) rfl k_) ?_
  show GoOn _ _ _ _ (T14.setTop (mkF m 67 #[.val (.ref o1), .val (.long aa0), .second, .val (.long aa1), .second, .val (.long aa2), .second, .val (.long b0), .second] [(.long b0), (.long aa2), (.ref o1), (.ref o1)]))
  refine GoOn.callS (W := 2) (argsL := [(.long aa2), (.long b0)]) (rest := [(.ref o1), (.ref o1)]) X14 hx hZ hown (hw _ (List.mem_of_getElem? (i := 50) rfl)) (hw _ (List.mem_of_getElem? (i := 51) rfl)) (hw _ (List.mem_of_getElem? (i := 40) rfl)) (hw _ (List.mem_of_getElem? (i := 52) rfl)) (by decide) (rm_umulh l Z a0 hw aa2 b0 h14) e14 (by decide) (by decide) (by rw [hml]; rfl) pd_0 rfl rfl (Nat.le_of_eq rfl) (hb hby d_prog_29_method_9_67) (by decide) (by decide) ?_
  rintro _ T16 L16 X16 ⟨rfl, rfl, e16⟩
  rw [List.append_nil] at X16
  show GoOn _ _ _ _ (T16.setTop (mkF m 70 #[.val (.ref o1), .val (.long aa0), .second, .val (.long aa1), .second, .val (.long aa2), .second, .val (.long b0), .second] [(.long (own_umulh aa2 b0)), (.ref o1), (.ref o1)]))
  refine GoOn.callP (W := 1) (argsL := [(.long (own_umulh aa2 b0))]) (rest := [(.ref o1)]) (a := o1) X16 hx hZ hown (hw _ (List.mem_of_getElem? (i := 82) rfl)) (hw _ (List.mem_of_getElem? (i := 83) rfl)) (Jvm.Kit.selects_private (by decide) (hw _ (List.mem_of_getElem? (i := 1) rfl)) (hw _ (List.mem_of_getElem? (i := 84) rfl)) (hw _ (List.mem_of_getElem? (i := 83) rfl))) (hw _ (List.mem_of_getElem? (i := 84) rfl)) (hw _ (List.mem_of_getElem? (i := 2) rfl)) (hw _ (List.mem_of_getElem? (i := 85) rfl)) (by decide) (rm_lst l Z a0 hw o1 l0 l1 l2 l3 l4 l5 (aa0 * b0) c6 c12 p3 p4 p5 k12 (0 : Int64) (own_umulh aa2 b0) h14 I14) e16 (own_I_exa I14).cell (by decide) (by decide) (by rw [hml]; rfl) pd_4 rfl rfl (Nat.le_of_eq rfl) (hb hby d_prog_29_method_9_70) (by decide) (by decide) ?_
  rintro _ T17 L17 X17 ⟨rfl, rfl, e17⟩
  rw [List.append_nil] at X17
  obtain ⟨T18, h18, X18, e18, W18, st18⟩ := putF X17 hx hZ hown (host := "") (Or.inl (hw _ (List.mem_of_getElem? (i := 77) rfl))) Via.refl e17 (own_I_get_product3 I14) (own_I_exa I14) (Or.inl (hw _ (List.mem_of_getElem? (i := 78) rfl))) (hw _ (List.mem_of_getElem? (i := 1) rfl)) (ty := .long) (by decide) rfl rfl (g := (mkF m 73 #[.val (.ref o1), .val (.long aa0), .second, .val (.long aa1), .second, .val (.long aa2), .second, .val (.long b0), .second] [(.long (k12 + (own_umulh aa2 b0))), (.ref o1)])) rfl rfl (hb hby d_prog_29_method_9_73)
  have I18 := own_I_put_product3 hw W18 I14
  have N19 := Fr.snoc X18 N15 g_o1
  refine GoOn.st st18 ?_
  refine GoOn.st (fun t_ k_ => XS.aloadN X18.here hx rfl (hb hby d_prog_29_method_9_76) rfl rfl k_) ?_
  refine GoOn.st (fun t_ k_ => XS.lconst X18.here hx rfl (hb hby d_prog_29_method_9_77)  k_) ?_
  show GoOn _ _ _ _ (T18.setTop (mkF m 78 #[.val (.ref o1), .val (.long aa0), .second, .val (.long aa1), .second, .val (.long aa2), .second, .val (.long b0), .second] [(.long (0 : Int64)), (.ref o1)]))
  obtain ⟨T20, h20, X20, e20, W20, st20⟩ := putF X18 hx hZ hown (host := "") (Or.inl (hw _ (List.mem_of_getElem? (i := 79) rfl))) Via.refl e18 (own_I_get_product4 I18) (own_I_exa I18) (Or.inl (hw _ (List.mem_of_getElem? (i := 80) rfl))) (hw _ (List.mem_of_getElem? (i := 1) rfl)) (ty := .long) (by decide) rfl rfl (g := (mkF m 78 #[.val (.ref o1), .val (.long aa0), .second, .val (.long aa1), .second, .val (.long aa2), .second, .val (.long b0), .second] [(.long (0 : Int64)), (.ref o1)])) rfl rfl (hb hby d_prog_29_method_9_78)
  have I20 := own_I_put_product4 hw W20 I18
  have N21 := Fr.snoc X20 N19 g_o1
  refine GoOn.st st20 ?_
  refine GoOn.st (fun t_ k_ => XS.aloadN X20.here hx rfl (hb hby d_prog_29_method_9_81) rfl rfl k_) ?_
  refine GoOn.st (fun t_ k_ => XS.lconst X20.here hx rfl (hb hby d_prog_29_method_9_82)  k_) ?_
  obtain ⟨T22, h22, X22, e22, W22, st22⟩ := putF X20 hx hZ hown (host := "") (Or.inl (hw _ (List.mem_of_getElem? (i := 86) rfl))) Via.refl e20 (own_I_get_product5 I20) (own_I_exa I20) (Or.inl (hw _ (List.mem_of_getElem? (i := 87) rfl))) (hw _ (List.mem_of_getElem? (i := 1) rfl)) (ty := .long) (by decide) rfl rfl (g := (mkF m 83 #[.val (.ref o1), .val (.long aa0), .second, .val (.long aa1), .second, .val (.long aa2), .second, .val (.long b0), .second] [(.long (0 : Int64)), (.ref o1)])) rfl rfl (hb hby d_prog_29_method_9_83)
  have I22 := own_I_put_product5 hw W22 I20
  have N23 := Fr.snoc X22 N21 g_o1
  refine GoOn.st st22 ?_
  show GoOn _ _ _ _ (T22.setTop (mkF m 86 #[.val (.ref o1), .val (.long aa0), .second, .val (.long aa1), .second, .val (.long aa2), .second, .val (.long b0), .second] []))
  have hfin : own_P6 (aa0 * b0) c6 c12 (k12 + (own_umulh aa2 b0)) (0 : Int64) (0 : Int64) = own_V3 aa0 aa1 aa2 * own_U b0 := by
    rw [own_exp31]; unfold own_P6
    have q00 := own_lohi aa0 b0
    have m00 := own_mul_bd4 aa0 b0
    have q10 := own_lohi aa1 b0
    have m10 := own_mul_bd4 aa1 b0
    have q20 := own_lohi aa2 b0
    have m20 := own_mul_bd5 b0 ha
    have r := own_U_add k12 (own_umulh aa2 b0)
    generalize own_U aa0 * own_U b0 = x00 at *
    generalize own_U aa1 * own_U b0 = x10 at *
    generalize own_U aa2 * own_U b0 = x20 at *
    omega
  exact GoOn.retV X22 hx hlk hret (hb hby d_prog_29_method_9_86) (by rw [e22]; exact ⟨rfl, N23, _, _, _, _, _, _, _, I22, hfin⟩) (by decide) (by decide)
theorem ef_ml32 (m : MethodId) (x0 : Addr) (x1 : Int64) (x2 : Int64) (x3 : Int64) (x4 : Int64) (x5 : Int64) : entryFrame m #[(.ref x0), (.long x1), (.long x2), (.long x3), (.long x4), (.long x5)] 11 = mkF m 0 #[.val (.ref x0), .val (.long x1), .second, .val (.long x2), .second, .val (.long x3), .second, .val (.long x4), .second, .val (.long x5), .second] [] := by first | (simp [entryFrame, mkF, argsToLocals, Value.category]; done) | rfl
theorem d_prog_29_method_7_0 : decode prog_29_method_7_code 0 = .ok (.aload_n 0, 1) := by decide +kernel
theorem d_prog_29_method_7_1 : decode prog_29_method_7_code 1 = .ok (.lload_n 1, 1) := by decide +kernel
theorem d_prog_29_method_7_2 : decode prog_29_method_7_code 2 = .ok (.lload 7, 2) := by decide +kernel
theorem d_prog_29_method_7_4 : decode prog_29_method_7_code 4 = .ok (.lmul, 1) := by decide +kernel
theorem d_prog_29_method_7_5 : decode prog_29_method_7_code 5 = .ok (.putfield 56, 3) := by decide +kernel
theorem d_prog_29_method_7_8 : decode prog_29_method_7_code 8 = .ok (.aload_n 0, 1) := by decide +kernel
theorem d_prog_29_method_7_9 : decode prog_29_method_7_code 9 = .ok (.lload_n 1, 1) := by decide +kernel
theorem d_prog_29_method_7_10 : decode prog_29_method_7_code 10 = .ok (.lload 7, 2) := by decide +kernel
theorem d_prog_29_method_7_12 : decode prog_29_method_7_code 12 = .ok (.invokestatic 59, 3) := by decide +kernel
theorem d_prog_29_method_7_15 : decode prog_29_method_7_code 15 = .ok (.putfield 62, 3) := by decide +kernel
theorem d_prog_29_method_7_18 : decode prog_29_method_7_code 18 = .ok (.aload_n 0, 1) := by decide +kernel
theorem d_prog_29_method_7_19 : decode prog_29_method_7_code 19 = .ok (.lload_n 1, 1) := by decide +kernel
theorem d_prog_29_method_7_20 : decode prog_29_method_7_code 20 = .ok (.lload 9, 2) := by decide +kernel
theorem d_prog_29_method_7_22 : decode prog_29_method_7_code 22 = .ok (.lmul, 1) := by decide +kernel
theorem d_prog_29_method_7_23 : decode prog_29_method_7_code 23 = .ok (.invokevirtual 65, 3) := by decide +kernel
theorem d_prog_29_method_7_26 : decode prog_29_method_7_code 26 = .ok (.aload_n 0, 1) := by decide +kernel
theorem d_prog_29_method_7_27 : decode prog_29_method_7_code 27 = .ok (.lload_n 3, 1) := by decide +kernel
theorem d_prog_29_method_7_28 : decode prog_29_method_7_code 28 = .ok (.lload 7, 2) := by decide +kernel
theorem d_prog_29_method_7_30 : decode prog_29_method_7_code 30 = .ok (.lmul, 1) := by decide +kernel
theorem d_prog_29_method_7_31 : decode prog_29_method_7_code 31 = .ok (.invokevirtual 65, 3) := by decide +kernel
theorem d_prog_29_method_7_34 : decode prog_29_method_7_code 34 = .ok (.aload_n 0, 1) := by decide +kernel
theorem d_prog_29_method_7_35 : decode prog_29_method_7_code 35 = .ok (.aload_n 0, 1) := by decide +kernel
theorem d_prog_29_method_7_36 : decode prog_29_method_7_code 36 = .ok (.invokevirtual 69, 3) := by decide +kernel
theorem d_prog_29_method_7_39 : decode prog_29_method_7_code 39 = .ok (.putfield 73, 3) := by decide +kernel
theorem d_prog_29_method_7_42 : decode prog_29_method_7_code 42 = .ok (.aload_n 0, 1) := by decide +kernel
theorem d_prog_29_method_7_43 : decode prog_29_method_7_code 43 = .ok (.lload_n 1, 1) := by decide +kernel
theorem d_prog_29_method_7_44 : decode prog_29_method_7_code 44 = .ok (.lload 9, 2) := by decide +kernel
theorem d_prog_29_method_7_46 : decode prog_29_method_7_code 46 = .ok (.invokestatic 59, 3) := by decide +kernel
theorem d_prog_29_method_7_49 : decode prog_29_method_7_code 49 = .ok (.invokevirtual 65, 3) := by decide +kernel
theorem d_prog_29_method_7_52 : decode prog_29_method_7_code 52 = .ok (.aload_n 0, 1) := by decide +kernel
theorem d_prog_29_method_7_53 : decode prog_29_method_7_code 53 = .ok (.lload_n 3, 1) := by decide +kernel
theorem d_prog_29_method_7_54 : decode prog_29_method_7_code 54 = .ok (.lload 7, 2) := by decide +kernel
theorem d_prog_29_method_7_56 : decode prog_29_method_7_code 56 = .ok (.invokestatic 59, 3) := by decide +kernel
theorem d_prog_29_method_7_59 : decode prog_29_method_7_code 59 = .ok (.invokevirtual 65, 3) := by decide +kernel
theorem d_prog_29_method_7_62 : decode prog_29_method_7_code 62 = .ok (.aload_n 0, 1) := by decide +kernel
theorem d_prog_29_method_7_63 : decode prog_29_method_7_code 63 = .ok (.lload_n 3, 1) := by decide +kernel
theorem d_prog_29_method_7_64 : decode prog_29_method_7_code 64 = .ok (.lload 9, 2) := by decide +kernel
theorem d_prog_29_method_7_66 : decode prog_29_method_7_code 66 = .ok (.lmul, 1) := by decide +kernel
theorem d_prog_29_method_7_67 : decode prog_29_method_7_code 67 = .ok (.invokevirtual 65, 3) := by decide +kernel
theorem d_prog_29_method_7_70 : decode prog_29_method_7_code 70 = .ok (.aload_n 0, 1) := by decide +kernel
theorem d_prog_29_method_7_71 : decode prog_29_method_7_code 71 = .ok (.lload 5, 2) := by decide +kernel
theorem d_prog_29_method_7_73 : decode prog_29_method_7_code 73 = .ok (.lload 7, 2) := by decide +kernel
theorem d_prog_29_method_7_75 : decode prog_29_method_7_code 75 = .ok (.lmul, 1) := by decide +kernel
theorem d_prog_29_method_7_76 : decode prog_29_method_7_code 76 = .ok (.invokevirtual 65, 3) := by decide +kernel
theorem d_prog_29_method_7_79 : decode prog_29_method_7_code 79 = .ok (.aload_n 0, 1) := by decide +kernel
theorem d_prog_29_method_7_80 : decode prog_29_method_7_code 80 = .ok (.aload_n 0, 1) := by decide +kernel
theorem d_prog_29_method_7_81 : decode prog_29_method_7_code 81 = .ok (.invokevirtual 69, 3) := by decide +kernel
theorem d_prog_29_method_7_84 : decode prog_29_method_7_code 84 = .ok (.putfield 76, 3) := by decide +kernel
theorem d_prog_29_method_7_87 : decode prog_29_method_7_code 87 = .ok (.aload_n 0, 1) := by decide +kernel
theorem d_prog_29_method_7_88 : decode prog_29_method_7_code 88 = .ok (.lload_n 3, 1) := by decide +kernel
theorem d_prog_29_method_7_89 : decode prog_29_method_7_code 89 = .ok (.lload 9, 2) := by decide +kernel
theorem d_prog_29_method_7_91 : decode prog_29_method_7_code 91 = .ok (.invokestatic 59, 3) := by decide +kernel
theorem d_prog_29_method_7_94 : decode prog_29_method_7_code 94 = .ok (.invokevirtual 65, 3) := by decide +kernel
theorem d_prog_29_method_7_97 : decode prog_29_method_7_code 97 = .ok (.aload_n 0, 1) := by decide +kernel
theorem d_prog_29_method_7_98 : decode prog_29_method_7_code 98 = .ok (.lload 5, 2) := by decide +kernel
theorem d_prog_29_method_7_100 : decode prog_29_method_7_code 100 = .ok (.lload 7, 2) := by decide +kernel
theorem d_prog_29_method_7_102 : decode prog_29_method_7_code 102 = .ok (.invokestatic 59, 3) := by decide +kernel
theorem d_prog_29_method_7_105 : decode prog_29_method_7_code 105 = .ok (.invokevirtual 65, 3) := by decide +kernel
theorem d_prog_29_method_7_108 : decode prog_29_method_7_code 108 = .ok (.aload_n 0, 1) := by decide +kernel
theorem d_prog_29_method_7_109 : decode prog_29_method_7_code 109 = .ok (.lload 5, 2) := by decide +kernel
theorem d_prog_29_method_7_111 : decode prog_29_method_7_code 111 = .ok (.lload 9, 2) := by decide +kernel
theorem d_prog_29_method_7_113 : decode prog_29_method_7_code 113 = .ok (.lmul, 1) := by decide +kernel
theorem d_prog_29_method_7_114 : decode prog_29_method_7_code 114 = .ok (.invokevirtual 65, 3) := by decide +kernel
theorem d_prog_29_method_7_117 : decode prog_29_method_7_code 117 = .ok (.aload_n 0, 1) := by decide +kernel
theorem d_prog_29_method_7_118 : decode prog_29_method_7_code 118 = .ok (.aload_n 0, 1) := by decide +kernel
theorem d_prog_29_method_7_119 : decode prog_29_method_7_code 119 = .ok (.invokevirtual 69, 3) := by decide +kernel
theorem d_prog_29_method_7_122 : decode prog_29_method_7_code 122 = .ok (.putfield 79, 3) := by decide +kernel
theorem d_prog_29_method_7_125 : decode prog_29_method_7_code 125 = .ok (.aload_n 0, 1) := by decide +kernel
theorem d_prog_29_method_7_126 : decode prog_29_method_7_code 126 = .ok (.aload_n 0, 1) := by decide +kernel
theorem d_prog_29_method_7_127 : decode prog_29_method_7_code 127 = .ok (.lload 5, 2) := by decide +kernel
theorem d_prog_29_method_7_129 : decode prog_29_method_7_code 129 = .ok (.lload 9, 2) := by decide +kernel
theorem d_prog_29_method_7_131 : decode prog_29_method_7_code 131 = .ok (.invokestatic 59, 3) := by decide +kernel
theorem d_prog_29_method_7_134 : decode prog_29_method_7_code 134 = .ok (.invokevirtual 90, 3) := by decide +kernel
theorem d_prog_29_method_7_137 : decode prog_29_method_7_code 137 = .ok (.putfield 82, 3) := by decide +kernel
theorem d_prog_29_method_7_140 : decode prog_29_method_7_code 140 = .ok (.aload_n 0, 1) := by decide +kernel
theorem d_prog_29_method_7_141 : decode prog_29_method_7_code 141 = .ok (.lconst 0, 1) := by decide +kernel
theorem d_prog_29_method_7_142 : decode prog_29_method_7_code 142 = .ok (.putfield 94, 3) := by decide +kernel
theorem d_prog_29_method_7_145 : decode prog_29_method_7_code 145 = .ok (.return_, 1) := by decide +kernel
set_option maxRecDepth 65536 in
set_option maxHeartbeats 40000000 in
theorem rm_ml32 (l : Launch) (Z : State) (a0 : Array Value) (hw : ∀ d ∈ tables_1, d.before a0 Z = true) (o1 : Addr) (l0 l1 l2 l3 l4 l5 p0 p1 p2 p3 p4 p5 c aa0 aa1 aa2 b0 b1 : Int64) (h0 : Heap) (n0 : Nat) (g_o1 : n0 ≤ o1) (I0 : own_I Z h0 o1 l0 l1 l2 l3 l4 l5 p0 p1 p2 p3 p4 p5 c 0) (ha : own_U aa2 ≤ 2305843009213693952) :
    OwCon l Z (⟨"com/example/nano_embed/nanoembed/geometry/Int384", "multiplyLimbs", "(JJJJJ)V"⟩ : MethodName) prog_29_method_7_code 11 none [] ({ frames := 2, cells := 0, slots := 0, locals := 48 } : Room) #[(.ref o1), (.long aa0), (.long aa1), (.long aa2), (.long b0), (.long b1)] h0 (fun v h L => v = none ∧ Fr n0 L ∧ ∃ p0' p1' p2' p3' p4' p5' c', own_I Z h o1 l0 l1 l2 l3 l4 l5 p0' p1' p2' p3' p4' p5' c' 0 ∧ own_P6 p0' p1' p2' p3' p4' p5' = own_V3 aa0 aa1 aa2 * own_V2 b0 b1) := by
  refine OwCon.of (plainFor_of_name pn_com_example_nano_embed_nanoembed_geometry_Int384) ?_
  intro p e s m below meth cd_ s₁ X0 hx hby hml hret hlk hown hnm hZ e0
  have z0 : own_U (0 : Int64) = 0 := rfl
  have N0 := Fr.nil n0
  refine GoOn.st (fun t_ k_ => castTop (ef_ml32 m o1 aa0 aa1 aa2 b0 b1) k_) ?_
  show GoOn _ _ _ _ (s₁.setTop (mkF m 0 #[.val (.ref o1), .val (.long aa0), .second, .val (.long aa1), .second, .val (.long aa2), .second, .val (.long b0), .second, .val (.long b1), .second] []))
  refine GoOn.st (fun t_ k_ => XS.aloadN X0.here hx rfl (hb hby d_prog_29_method_7_0) rfl rfl k_) ?_
  refine GoOn.st (fun t_ k_ => XS.lloadN X0.here hx rfl (hb hby d_prog_29_method_7_1) rfl k_) ?_
  refine GoOn.st (fun t_ k_ => XS.lload X0.here hx rfl (hb hby d_prog_29_method_7_2) rfl k_) ?_
  refine GoOn.st (fun t_ k_ => XS.lmul X0.here hx rfl (hb hby d_prog_29_method_7_4) rfl k_) ?_
  show GoOn _ _ _ _ (s₁.setTop (mkF m 5 #[.val (.ref o1), .val (.long aa0), .second, .val (.long aa1), .second, .val (.long aa2), .second, .val (.long b0), .second, .val (.long b1), .second] [(.long (aa0 * b0)), (.ref o1)]))
  obtain ⟨T1, h1, X1, e1, W1, st1⟩ := putF X0 hx hZ hown (host := "") (Or.inl (hw _ (List.mem_of_getElem? (i := 48) rfl))) Via.refl e0 (own_I_get_product0 I0) (own_I_exa I0) (Or.inl (hw _ (List.mem_of_getElem? (i := 49) rfl))) (hw _ (List.mem_of_getElem? (i := 1) rfl)) (ty := .long) (by decide) rfl rfl (g := (mkF m 5 #[.val (.ref o1), .val (.long aa0), .second, .val (.long aa1), .second, .val (.long aa2), .second, .val (.long b0), .second, .val (.long b1), .second] [(.long (aa0 * b0)), (.ref o1)])) rfl rfl (hb hby d_prog_29_method_7_5)
  have I1 := own_I_put_product0 hw W1 I0
  have N2 := Fr.snoc X1 N0 g_o1
  refine GoOn.st st1 ?_
  refine GoOn.st (fun t_ k_ => XS.aloadN X1.here hx rfl (hb hby d_prog_29_method_7_8) rfl rfl k_) ?_
  refine GoOn.st (fun t_ k_ => XS.lloadN X1.here hx rfl (hb hby d_prog_29_method_7_9) rfl k_) ?_
  refine GoOn.st (fun t_ k_ => XS.lload X1.here hx rfl (hb hby d_prog_29_method_7_10) rfl k_) ?_
  show GoOn _ _ _ _ (T1.setTop (mkF m 12 #[.val (.ref o1), .val (.long aa0), .second, .val (.long aa1), .second, .val (.long aa2), .second, .val (.long b0), .second, .val (.long b1), .second] [(.long b0), (.long aa0), (.ref o1)]))
  refine GoOn.callS (W := 1) (argsL := [(.long aa0), (.long b0)]) (rest := [(.ref o1)]) X1 hx hZ hown (hw _ (List.mem_of_getElem? (i := 50) rfl)) (hw _ (List.mem_of_getElem? (i := 51) rfl)) (hw _ (List.mem_of_getElem? (i := 40) rfl)) (hw _ (List.mem_of_getElem? (i := 52) rfl)) (by decide) (rm_umulh l Z a0 hw aa0 b0 h1) e1 (by decide) (by decide) (by rw [hml]; rfl) pd_0 rfl rfl (Nat.le_of_eq rfl) (hb hby d_prog_29_method_7_12) (by decide) (by decide) ?_
  rintro _ T3 L3 X3 ⟨rfl, rfl, e3⟩
  rw [List.append_nil] at X3
  obtain ⟨T4, h4, X4, e4, W4, st4⟩ := putF X3 hx hZ hown (host := "") (Or.inl (hw _ (List.mem_of_getElem? (i := 58) rfl))) Via.refl e3 (own_I_get_column I1) (own_I_exa I1) (Or.inl (hw _ (List.mem_of_getElem? (i := 59) rfl))) (hw _ (List.mem_of_getElem? (i := 1) rfl)) (ty := .long) (by decide) rfl rfl (g := (mkF m 15 #[.val (.ref o1), .val (.long aa0), .second, .val (.long aa1), .second, .val (.long aa2), .second, .val (.long b0), .second, .val (.long b1), .second] [(.long (own_umulh aa0 b0)), (.ref o1)])) rfl rfl (hb hby d_prog_29_method_7_15)
  have I4 := own_I_put_column hw W4 I1
  have N5 := Fr.snoc X4 N2 g_o1
  refine GoOn.st st4 ?_
  refine GoOn.st (fun t_ k_ => XS.aloadN X4.here hx rfl (hb hby d_prog_29_method_7_18) rfl rfl k_) ?_
  refine GoOn.st (fun t_ k_ => XS.lloadN X4.here hx rfl (hb hby d_prog_29_method_7_19) rfl k_) ?_
  show GoOn _ _ _ _ (T4.setTop (mkF m 20 #[.val (.ref o1), .val (.long aa0), .second, .val (.long aa1), .second, .val (.long aa2), .second, .val (.long b0), .second, .val (.long b1), .second] [(.long aa0), (.ref o1)]))
  refine GoOn.st (fun t_ k_ => XS.lload X4.here hx rfl (hb hby d_prog_29_method_7_20) rfl k_) ?_
  refine GoOn.st (fun t_ k_ => XS.lmul X4.here hx rfl (hb hby d_prog_29_method_7_22) rfl k_) ?_
  show GoOn _ _ _ _ (T4.setTop (mkF m 23 #[.val (.ref o1), .val (.long aa0), .second, .val (.long aa1), .second, .val (.long aa2), .second, .val (.long b0), .second, .val (.long b1), .second] [(.long (aa0 * b1)), (.ref o1)]))
  refine GoOn.callP (W := 0) (argsL := [(.long (aa0 * b1))]) (rest := []) (a := o1) X4 hx hZ hown (hw _ (List.mem_of_getElem? (i := 60) rfl)) (hw _ (List.mem_of_getElem? (i := 61) rfl)) (Jvm.Kit.selects_private (by decide) (hw _ (List.mem_of_getElem? (i := 1) rfl)) (hw _ (List.mem_of_getElem? (i := 62) rfl)) (hw _ (List.mem_of_getElem? (i := 61) rfl))) (hw _ (List.mem_of_getElem? (i := 62) rfl)) (hw _ (List.mem_of_getElem? (i := 2) rfl)) (hw _ (List.mem_of_getElem? (i := 63) rfl)) (by decide) (rm_atc l Z a0 hw o1 l0 l1 l2 l3 l4 l5 (aa0 * b0) p1 p2 p3 p4 p5 (own_umulh aa0 b0) (0 : Int64) (aa0 * b1) h4 n0 g_o1 I4 (by omega)) e4 (own_I_exa I4).cell (by decide) (by decide) (by rw [hml]; rfl) pd_2 rfl rfl (Nat.le_of_eq rfl) (hb hby d_prog_29_method_7_23) (by decide) (by decide) ?_
  rintro _ T6 L6 X6 ⟨rfl, N6q, c6, k6, I6, eq6, kb6⟩
  have N6 := Fr.app N5 N6q
  refine GoOn.st (fun t_ k_ => XS.aloadN X6.here hx rfl (hb hby d_prog_29_method_7_26) rfl rfl k_) ?_
  refine GoOn.st (fun t_ k_ => XS.lloadN X6.here hx rfl (hb hby d_prog_29_method_7_27) rfl k_) ?_
  refine GoOn.st (fun t_ k_ => XS.lload X6.here hx rfl (hb hby d_prog_29_method_7_28) rfl k_) ?_
  show GoOn _ _ _ _ (T6.setTop (mkF m 30 #[.val (.ref o1), .val (.long aa0), .second, .val (.long aa1), .second, .val (.long aa2), .second, .val (.long b0), .second, .val (.long b1), .second] [(.long b0), (.long aa1), (.ref o1)]))
  refine GoOn.st (fun t_ k_ => XS.lmul X6.here hx rfl (hb hby d_prog_29_method_7_30) rfl k_) ?_
  show GoOn _ _ _ _ (T6.setTop (mkF m 31 #[.val (.ref o1), .val (.long aa0), .second, .val (.long aa1), .second, .val (.long aa2), .second, .val (.long b0), .second, .val (.long b1), .second] [(.long (aa1 * b0)), (.ref o1)]))
  refine GoOn.callP (W := 0) (argsL := [(.long (aa1 * b0))]) (rest := []) (a := o1) X6 hx hZ hown (hw _ (List.mem_of_getElem? (i := 60) rfl)) (hw _ (List.mem_of_getElem? (i := 61) rfl)) (Jvm.Kit.selects_private (by decide) (hw _ (List.mem_of_getElem? (i := 1) rfl)) (hw _ (List.mem_of_getElem? (i := 62) rfl)) (hw _ (List.mem_of_getElem? (i := 61) rfl))) (hw _ (List.mem_of_getElem? (i := 62) rfl)) (hw _ (List.mem_of_getElem? (i := 2) rfl)) (hw _ (List.mem_of_getElem? (i := 63) rfl)) (by decide) (rm_atc l Z a0 hw o1 l0 l1 l2 l3 l4 l5 (aa0 * b0) p1 p2 p3 p4 p5 c6 k6 (aa1 * b0) T6.heap n0 g_o1 I6 (by omega)) rfl (own_I_exa I6).cell (by decide) (by decide) (by rw [hml]; rfl) pd_2 rfl rfl (Nat.le_of_eq rfl) (hb hby d_prog_29_method_7_31) (by decide) (by decide) ?_
  rintro _ T7 L7 X7 ⟨rfl, N7q, c7, k7, I7, eq7, kb7⟩
  have N7 := Fr.app N6 N7q
  refine GoOn.st (fun t_ k_ => XS.aloadN X7.here hx rfl (hb hby d_prog_29_method_7_34) rfl rfl k_) ?_
  refine GoOn.st (fun t_ k_ => XS.aloadN X7.here hx rfl (hb hby d_prog_29_method_7_35) rfl rfl k_) ?_
  show GoOn _ _ _ _ (T7.setTop (mkF m 36 #[.val (.ref o1), .val (.long aa0), .second, .val (.long aa1), .second, .val (.long aa2), .second, .val (.long b0), .second, .val (.long b1), .second] [(.ref o1), (.ref o1)]))
  refine GoOn.callP (W := 1) (argsL := []) (rest := [(.ref o1)]) (a := o1) X7 hx hZ hown (hw _ (List.mem_of_getElem? (i := 69) rfl)) (hw _ (List.mem_of_getElem? (i := 70) rfl)) (Jvm.Kit.selects_private (by decide) (hw _ (List.mem_of_getElem? (i := 1) rfl)) (hw _ (List.mem_of_getElem? (i := 71) rfl)) (hw _ (List.mem_of_getElem? (i := 70) rfl))) (hw _ (List.mem_of_getElem? (i := 71) rfl)) (hw _ (List.mem_of_getElem? (i := 2) rfl)) (hw _ (List.mem_of_getElem? (i := 72) rfl)) (by decide) (rm_nxt l Z a0 hw o1 l0 l1 l2 l3 l4 l5 (aa0 * b0) p1 p2 p3 p4 p5 c7 k7 T7.heap n0 g_o1 I7) rfl (own_I_exa I7).cell (by decide) (by decide) (by rw [hml]; rfl) pd_3 rfl rfl (Nat.le_of_eq rfl) (hb hby d_prog_29_method_7_36) (by decide) (by decide) ?_
  rintro _ T8 L8 X8 ⟨rfl, N8q, I8⟩
  have N8 := Fr.app N7 N8q
  obtain ⟨T9, h9, X9, e9, W9, st9⟩ := putF X8 hx hZ hown (host := "") (Or.inl (hw _ (List.mem_of_getElem? (i := 73) rfl))) Via.refl rfl (own_I_get_product1 I8) (own_I_exa I8) (Or.inl (hw _ (List.mem_of_getElem? (i := 74) rfl))) (hw _ (List.mem_of_getElem? (i := 1) rfl)) (ty := .long) (by decide) rfl rfl (g := (mkF m 39 #[.val (.ref o1), .val (.long aa0), .second, .val (.long aa1), .second, .val (.long aa2), .second, .val (.long b0), .second, .val (.long b1), .second] [(.long c7), (.ref o1)])) rfl rfl (hb hby d_prog_29_method_7_39)
  have I9 := own_I_put_product1 hw W9 I8
  have N10 := Fr.snoc X9 N8 g_o1
  refine GoOn.st st9 ?_
  refine GoOn.st (fun t_ k_ => XS.aloadN X9.here hx rfl (hb hby d_prog_29_method_7_42) rfl rfl k_) ?_
  refine GoOn.st (fun t_ k_ => XS.lloadN X9.here hx rfl (hb hby d_prog_29_method_7_43) rfl k_) ?_
  show GoOn _ _ _ _ (T9.setTop (mkF m 44 #[.val (.ref o1), .val (.long aa0), .second, .val (.long aa1), .second, .val (.long aa2), .second, .val (.long b0), .second, .val (.long b1), .second] [(.long aa0), (.ref o1)]))
  refine GoOn.st (fun t_ k_ => XS.lload X9.here hx rfl (hb hby d_prog_29_method_7_44) rfl k_) ?_
  show GoOn _ _ _ _ (T9.setTop (mkF m 46 #[.val (.ref o1), .val (.long aa0), .second, .val (.long aa1), .second, .val (.long aa2), .second, .val (.long b0), .second, .val (.long b1), .second] [(.long b1), (.long aa0), (.ref o1)]))
  refine GoOn.callS (W := 1) (argsL := [(.long aa0), (.long b1)]) (rest := [(.ref o1)]) X9 hx hZ hown (hw _ (List.mem_of_getElem? (i := 50) rfl)) (hw _ (List.mem_of_getElem? (i := 51) rfl)) (hw _ (List.mem_of_getElem? (i := 40) rfl)) (hw _ (List.mem_of_getElem? (i := 52) rfl)) (by decide) (rm_umulh l Z a0 hw aa0 b1 h9) e9 (by decide) (by decide) (by rw [hml]; rfl) pd_0 rfl rfl (Nat.le_of_eq rfl) (hb hby d_prog_29_method_7_46) (by decide) (by decide) ?_
  rintro _ T11 L11 X11 ⟨rfl, rfl, e11⟩
  rw [List.append_nil] at X11
  show GoOn _ _ _ _ (T11.setTop (mkF m 49 #[.val (.ref o1), .val (.long aa0), .second, .val (.long aa1), .second, .val (.long aa2), .second, .val (.long b0), .second, .val (.long b1), .second] [(.long (own_umulh aa0 b1)), (.ref o1)]))
  refine GoOn.callP (W := 0) (argsL := [(.long (own_umulh aa0 b1))]) (rest := []) (a := o1) X11 hx hZ hown (hw _ (List.mem_of_getElem? (i := 60) rfl)) (hw _ (List.mem_of_getElem? (i := 61) rfl)) (Jvm.Kit.selects_private (by decide) (hw _ (List.mem_of_getElem? (i := 1) rfl)) (hw _ (List.mem_of_getElem? (i := 62) rfl)) (hw _ (List.mem_of_getElem? (i := 61) rfl))) (hw _ (List.mem_of_getElem? (i := 62) rfl)) (hw _ (List.mem_of_getElem? (i := 2) rfl)) (hw _ (List.mem_of_getElem? (i := 63) rfl)) (by decide) (rm_atc l Z a0 hw o1 l0 l1 l2 l3 l4 l5 (aa0 * b0) c7 p2 p3 p4 p5 k7 (0 : Int64) (own_umulh aa0 b1) h9 n0 g_o1 I9 (by omega)) e11 (own_I_exa I9).cell (by decide) (by decide) (by rw [hml]; rfl) pd_2 rfl rfl (Nat.le_of_eq rfl) (hb hby d_prog_29_method_7_49) (by decide) (by decide) ?_
  rintro _ T12 L12 X12 ⟨rfl, N12q, c12, k12, I12, eq12, kb12⟩
  have N12 := Fr.app N10 N12q
  refine GoOn.st (fun t_ k_ => XS.aloadN X12.here hx rfl (hb hby d_prog_29_method_7_52) rfl rfl k_) ?_
  refine GoOn.st (fun t_ k_ => XS.lloadN X12.here hx rfl (hb hby d_prog_29_method_7_53) rfl k_) ?_
  refine GoOn.st (fun t_ k_ => XS.lload X12.here hx rfl (hb hby d_prog_29_method_7_54) rfl k_) ?_
  show GoOn _ _ _ _ (T12.setTop (mkF m 56 #[.val (.ref o1), .val (.long aa0), .second, .val (.long aa1), .second, .val (.long aa2), .second, .val (.long b0), .second, .val (.long b1), .second] [(.long b0), (.long aa1), (.ref o1)]))
  refine GoOn.callS (W := 1) (argsL := [(.long aa1), (.long b0)]) (rest := [(.ref o1)]) X12 hx hZ hown (hw _ (List.mem_of_getElem? (i := 50) rfl)) (hw _ (List.mem_of_getElem? (i := 51) rfl)) (hw _ (List.mem_of_getElem? (i := 40) rfl)) (hw _ (List.mem_of_getElem? (i := 52) rfl)) (by decide) (rm_umulh l Z a0 hw aa1 b0 T12.heap) rfl (by decide) (by decide) (by rw [hml]; rfl) pd_0 rfl rfl (Nat.le_of_eq rfl) (hb hby d_prog_29_method_7_56) (by decide) (by decide) ?_
  rintro _ T13 L13 X13 ⟨rfl, rfl, e13⟩
  rw [List.append_nil] at X13
  show GoOn _ _ _ _ (T13.setTop (mkF m 59 #[.val (.ref o1), .val (.long aa0), .second, .val (.long aa1), .second, .val (.long aa2), .second, .val (.long b0), .second, .val (.long b1), .second] [(.long (own_umulh aa1 b0)), (.ref o1)]))
  refine GoOn.callP (W := 0) (argsL := [(.long (own_umulh aa1 b0))]) (rest := []) (a := o1) X13 hx hZ hown (hw _ (List.mem_of_getElem? (i := 60) rfl)) (hw _ (List.mem_of_getElem? (i := 61) rfl)) (Jvm.Kit.selects_private (by decide) (hw _ (List.mem_of_getElem? (i := 1) rfl)) (hw _ (List.mem_of_getElem? (i := 62) rfl)) (hw _ (List.mem_of_getElem? (i := 61) rfl))) (hw _ (List.mem_of_getElem? (i := 62) rfl)) (hw _ (List.mem_of_getElem? (i := 2) rfl)) (hw _ (List.mem_of_getElem? (i := 63) rfl)) (by decide) (rm_atc l Z a0 hw o1 l0 l1 l2 l3 l4 l5 (aa0 * b0) c7 p2 p3 p4 p5 c12 k12 (own_umulh aa1 b0) T12.heap n0 g_o1 I12 (by omega)) e13 (own_I_exa I12).cell (by decide) (by decide) (by rw [hml]; rfl) pd_2 rfl rfl (Nat.le_of_eq rfl) (hb hby d_prog_29_method_7_59) (by decide) (by decide) ?_
  rintro _ T14 L14 X14 ⟨rfl, N14q, c14, k14, I14, eq14, kb14⟩
  have N14 := Fr.app N12 N14q
  refine GoOn.st (fun t_ k_ => XS.aloadN X14.here hx rfl (hb hby d_prog_29_method_7_62) rfl rfl k_) ?_
  refine GoOn.st (fun t_ k_ => XS.lloadN X14.here hx rfl (hb hby d_prog_29_method_7_63) rfl k_) ?_
  refine GoOn.st (fun t_ k_ => XS.lload X14.here hx rfl (hb hby d_prog_29_method_7_64) rfl k_) ?_
  show GoOn _ _ _ _ (T14.setTop (mkF m 66 #[.val (.ref o1), .val (.long aa0), .second, .val (.long aa1), .second, .val (.long aa2), .second, .val (.long b0), .second, .val (.long b1), .second] [(.long b1), (.long aa1), (.ref o1)]))
  refine GoOn.st (fun t_ k_ => XS.lmul X14.here hx rfl (hb hby d_prog_29_method_7_66) rfl k_) ?_
  show GoOn _ _ _ _ (T14.setTop (mkF m 67 #[.val (.ref o1), .val (.long aa0), .second, .val (.long aa1), .second, .val (.long aa2), .second, .val (.long b0), .second, .val (.long b1), .second] [(.long (aa1 * b1)), (.ref o1)]))
  refine GoOn.callP (W := 0) (argsL := [(.long (aa1 * b1))]) (rest := []) (a := o1) X14 hx hZ hown (hw _ (List.mem_of_getElem? (i := 60) rfl)) (hw _ (List.mem_of_getElem? (i := 61) rfl)) (Jvm.Kit.selects_private (by decide) (hw _ (List.mem_of_getElem? (i := 1) rfl)) (hw _ (List.mem_of_getElem? (i := 62) rfl)) (hw _ (List.mem_of_getElem? (i := 61) rfl))) (hw _ (List.mem_of_getElem? (i := 62) rfl)) (hw _ (List.mem_of_getElem? (i := 2) rfl)) (hw _ (List.mem_of_getElem? (i := 63) rfl)) (by decide) (rm_atc l Z a0 hw o1 l0 l1 l2 l3 l4 l5 (aa0 * b0) c7 p2 p3 p4 p5 c14 k14 (aa1 * b1) T14.heap n0 g_o1 I14 (by omega)) rfl (own_I_exa I14).cell (by decide) (by decide) (by rw [hml]; rfl) pd_2 rfl rfl (Nat.le_of_eq rfl) (hb hby d_prog_29_method_7_67) (by decide) (by decide) ?_
  rintro _ T15 L15 X15 ⟨rfl, N15q, c15, k15, I15, eq15, kb15⟩
  have N15 := Fr.app N14 N15q
  refine GoOn.st (fun t_ k_ => XS.aloadN X15.here hx rfl (hb hby d_prog_29_method_7_70) rfl rfl k_) ?_
  refine GoOn.st (fun t_ k_ => XS.lload X15.here hx rfl (hb hby d_prog_29_method_7_71) rfl k_) ?_
  refine GoOn.st (fun t_ k_ => XS.lload X15.here hx rfl (hb hby d_prog_29_method_7_73) rfl k_) ?_
  show GoOn _ _ _ _ (T15.setTop (mkF m 75 #[.val (.ref o1), .val (.long aa0), .second, .val (.long aa1), .second, .val (.long aa2), .second, .val (.long b0), .second, .val (.long b1), .second] [(.long b0), (.long aa2), (.ref o1)]))
  refine GoOn.st (fun t_ k_ => XS.lmul X15.here hx rfl (hb hby d_prog_29_method_7_75) rfl k_) ?_
  show GoOn _ _ _ _ (T15.setTop (mkF m 76 #[.val (.ref o1), .val (.long aa0), .second, .val (.long aa1), .second, .val (.long aa2), .second, .val (.long b0), .second, .val (.long b1), .second] [(.long (aa2 * b0)), (.ref o1)]))
  refine GoOn.callP (W := 0) (argsL := [(.long (aa2 * b0))]) (rest := []) (a := o1) X15 hx hZ hown (hw _ (List.mem_of_getElem? (i := 60) rfl)) (hw _ (List.mem_of_getElem? (i := 61) rfl)) (Jvm.Kit.selects_private (by decide) (hw _ (List.mem_of_getElem? (i := 1) rfl)) (hw _ (List.mem_of_getElem? (i := 62) rfl)) (hw _ (List.mem_of_getElem? (i := 61) rfl))) (hw _ (List.mem_of_getElem? (i := 62) rfl)) (hw _ (List.mem_of_getElem? (i := 2) rfl)) (hw _ (List.mem_of_getElem? (i := 63) rfl)) (by decide) (rm_atc l Z a0 hw o1 l0 l1 l2 l3 l4 l5 (aa0 * b0) c7 p2 p3 p4 p5 c15 k15 (aa2 * b0) T15.heap n0 g_o1 I15 (by omega)) rfl (own_I_exa I15).cell (by decide) (by decide) (by rw [hml]; rfl) pd_2 rfl rfl (Nat.le_of_eq rfl) (hb hby d_prog_29_method_7_76) (by decide) (by decide) ?_
  rintro _ T16 L16 X16 ⟨rfl, N16q, c16, k16, I16, eq16, kb16⟩
  have N16 := Fr.app N15 N16q
  refine GoOn.st (fun t_ k_ => XS.aloadN X16.here hx rfl (hb hby d_prog_29_method_7_79) rfl rfl k_) ?_
  refine GoOn.st (fun t_ k_ => XS.aloadN X16.here hx rfl (hb hby d_prog_29_method_7_80) rfl rfl k_) ?_
  show GoOn _ _ _ _ (T16.setTop (mkF m 81 #[.val (.ref o1), .val (.long aa0), .second, .val (.long aa1), .second, .val (.long aa2), .second, .val (.long b0), .second, .val (.long b1), .second] [(.ref o1), (.ref o1)]))
  refine GoOn.callP (W := 1) (argsL := []) (rest := [(.ref o1)]) (a := o1) X16 hx hZ hown (hw _ (List.mem_of_getElem? (i := 69) rfl)) (hw _ (List.mem_of_getElem? (i := 70) rfl)) (Jvm.Kit.selects_private (by decide) (hw _ (List.mem_of_getElem? (i := 1) rfl)) (hw _ (List.mem_of_getElem? (i := 71) rfl)) (hw _ (List.mem_of_getElem? (i := 70) rfl))) (hw _ (List.mem_of_getElem? (i := 71) rfl)) (hw _ (List.mem_of_getElem? (i := 2) rfl)) (hw _ (List.mem_of_getElem? (i := 72) rfl)) (by decide) (rm_nxt l Z a0 hw o1 l0 l1 l2 l3 l4 l5 (aa0 * b0) c7 p2 p3 p4 p5 c16 k16 T16.heap n0 g_o1 I16) rfl (own_I_exa I16).cell (by decide) (by decide) (by rw [hml]; rfl) pd_3 rfl rfl (Nat.le_of_eq rfl) (hb hby d_prog_29_method_7_81) (by decide) (by decide) ?_
  rintro _ T17 L17 X17 ⟨rfl, N17q, I17⟩
  have N17 := Fr.app N16 N17q
  obtain ⟨T18, h18, X18, e18, W18, st18⟩ := putF X17 hx hZ hown (host := "") (Or.inl (hw _ (List.mem_of_getElem? (i := 75) rfl))) Via.refl rfl (own_I_get_product2 I17) (own_I_exa I17) (Or.inl (hw _ (List.mem_of_getElem? (i := 76) rfl))) (hw _ (List.mem_of_getElem? (i := 1) rfl)) (ty := .long) (by decide) rfl rfl (g := (mkF m 84 #[.val (.ref o1), .val (.long aa0), .second, .val (.long aa1), .second, .val (.long aa2), .second, .val (.long b0), .second, .val (.long b1), .second] [(.long c16), (.ref o1)])) rfl rfl (hb hby d_prog_29_method_7_84)
  have I18 := own_I_put_product2 hw W18 I17
  have N19 := Fr.snoc X18 N17 g_o1
  refine GoOn.st st18 ?_
  refine GoOn.st (fun t_ k_ => XS.aloadN X18.here hx rfl (hb hby d_prog_29_method_7_87) rfl rfl k_) ?_
  refine GoOn.st (fun t_ k_ => XS.lloadN X18.here hx rfl (hb hby d_prog_29_method_7_88) rfl k_) ?_
  show GoOn _ _ _ _ (T18.setTop (mkF m 89 #[.val (.ref o1), .val (.long aa0), .second, .val (.long aa1), .second, .val (.long aa2), .second, .val (.long b0), .second, .val (.long b1), .second] [(.long aa1), (.ref o1)]))
  refine GoOn.st (fun t_ k_ => XS.lload X18.here hx rfl (hb hby d_prog_29_method_7_89) rfl k_) ?_
  show GoOn _ _ _ _ (T18.setTop (mkF m 91 #[.val (.ref o1), .val (.long aa0), .second, .val (.long aa1), .second, .val (.long aa2), .second, .val (.long b0), .second, .val (.long b1), .second] [(.long b1), (.long aa1), (.ref o1)]))
  refine GoOn.callS (W := 1) (argsL := [(.long aa1), (.long b1)]) (rest := [(.ref o1)]) X18 hx hZ hown (hw _ (List.mem_of_getElem? (i := 50) rfl)) (hw _ (List.mem_of_getElem? (i := 51) rfl)) (hw _ (List.mem_of_getElem? (i := 40) rfl)) (hw _ (List.mem_of_getElem? (i := 52) rfl)) (by decide) (rm_umulh l Z a0 hw aa1 b1 h18) e18 (by decide) (by decide) (by rw [hml]; rfl) pd_0 rfl rfl (Nat.le_of_eq rfl) (hb hby d_prog_29_method_7_91) (by decide) (by decide) ?_
  rintro _ T20 L20 X20 ⟨rfl, rfl, e20⟩
  rw [List.append_nil] at X20
  show GoOn _ _ _ _ (T20.setTop (mkF m 94 #[.val (.ref o1), .val (.long aa0), .second, .val (.long aa1), .second, .val (.long aa2), .second, .val (.long b0), .second, .val (.long b1), .second] [(.long (own_umulh aa1 b1)), (.ref o1)]))
  refine GoOn.callP (W := 0) (argsL := [(.long (own_umulh aa1 b1))]) (rest := []) (a := o1) X20 hx hZ hown (hw _ (List.mem_of_getElem? (i := 60) rfl)) (hw _ (List.mem_of_getElem? (i := 61) rfl)) (Jvm.Kit.selects_private (by decide) (hw _ (List.mem_of_getElem? (i := 1) rfl)) (hw _ (List.mem_of_getElem? (i := 62) rfl)) (hw _ (List.mem_of_getElem? (i := 61) rfl))) (hw _ (List.mem_of_getElem? (i := 62) rfl)) (hw _ (List.mem_of_getElem? (i := 2) rfl)) (hw _ (List.mem_of_getElem? (i := 63) rfl)) (by decide) (rm_atc l Z a0 hw o1 l0 l1 l2 l3 l4 l5 (aa0 * b0) c7 c16 p3 p4 p5 k16 (0 : Int64) (own_umulh aa1 b1) h18 n0 g_o1 I18 (by omega)) e20 (own_I_exa I18).cell (by decide) (by decide) (by rw [hml]; rfl) pd_2 rfl rfl (Nat.le_of_eq rfl) (hb hby d_prog_29_method_7_94) (by decide) (by decide) ?_
  rintro _ T21 L21 X21 ⟨rfl, N21q, c21, k21, I21, eq21, kb21⟩
  have N21 := Fr.app N19 N21q
  refine GoOn.st (fun t_ k_ => XS.aloadN X21.here hx rfl (hb hby d_prog_29_method_7_97) rfl rfl k_) ?_
  refine GoOn.st (fun t_ k_ => XS.lload X21.here hx rfl (hb hby d_prog_29_method_7_98) rfl k_) ?_
  refine GoOn.st (fun t_ k_ => XS.lload X21.here hx rfl (hb hby d_prog_29_method_7_100) rfl k_) ?_
  show GoOn _ _ _ _ (T21.setTop (mkF m 102 #[.val (.ref o1), .val (.long aa0), .second, .val (.long aa1), .second, .val (.long aa2), .second, .val (.long b0), .second, .val (.long b1), .second] [(.long b0), (.long aa2), (.ref o1)]))
  refine GoOn.callS (W := 1) (argsL := [(.long aa2), (.long b0)]) (rest := [(.ref o1)]) X21 hx hZ hown (hw _ (List.mem_of_getElem? (i := 50) rfl)) (hw _ (List.mem_of_getElem? (i := 51) rfl)) (hw _ (List.mem_of_getElem? (i := 40) rfl)) (hw _ (List.mem_of_getElem? (i := 52) rfl)) (by decide) (rm_umulh l Z a0 hw aa2 b0 T21.heap) rfl (by decide) (by decide) (by rw [hml]; rfl) pd_0 rfl rfl (Nat.le_of_eq rfl) (hb hby d_prog_29_method_7_102) (by decide) (by decide) ?_
  rintro _ T22 L22 X22 ⟨rfl, rfl, e22⟩
  rw [List.append_nil] at X22
  show GoOn _ _ _ _ (T22.setTop (mkF m 105 #[.val (.ref o1), .val (.long aa0), .second, .val (.long aa1), .second, .val (.long aa2), .second, .val (.long b0), .second, .val (.long b1), .second] [(.long (own_umulh aa2 b0)), (.ref o1)]))
  refine GoOn.callP (W := 0) (argsL := [(.long (own_umulh aa2 b0))]) (rest := []) (a := o1) X22 hx hZ hown (hw _ (List.mem_of_getElem? (i := 60) rfl)) (hw _ (List.mem_of_getElem? (i := 61) rfl)) (Jvm.Kit.selects_private (by decide) (hw _ (List.mem_of_getElem? (i := 1) rfl)) (hw _ (List.mem_of_getElem? (i := 62) rfl)) (hw _ (List.mem_of_getElem? (i := 61) rfl))) (hw _ (List.mem_of_getElem? (i := 62) rfl)) (hw _ (List.mem_of_getElem? (i := 2) rfl)) (hw _ (List.mem_of_getElem? (i := 63) rfl)) (by decide) (rm_atc l Z a0 hw o1 l0 l1 l2 l3 l4 l5 (aa0 * b0) c7 c16 p3 p4 p5 c21 k21 (own_umulh aa2 b0) T21.heap n0 g_o1 I21 (by omega)) e22 (own_I_exa I21).cell (by decide) (by decide) (by rw [hml]; rfl) pd_2 rfl rfl (Nat.le_of_eq rfl) (hb hby d_prog_29_method_7_105) (by decide) (by decide) ?_
  rintro _ T23 L23 X23 ⟨rfl, N23q, c23, k23, I23, eq23, kb23⟩
  have N23 := Fr.app N21 N23q
  refine GoOn.st (fun t_ k_ => XS.aloadN X23.here hx rfl (hb hby d_prog_29_method_7_108) rfl rfl k_) ?_
  refine GoOn.st (fun t_ k_ => XS.lload X23.here hx rfl (hb hby d_prog_29_method_7_109) rfl k_) ?_
  refine GoOn.st (fun t_ k_ => XS.lload X23.here hx rfl (hb hby d_prog_29_method_7_111) rfl k_) ?_
  show GoOn _ _ _ _ (T23.setTop (mkF m 113 #[.val (.ref o1), .val (.long aa0), .second, .val (.long aa1), .second, .val (.long aa2), .second, .val (.long b0), .second, .val (.long b1), .second] [(.long b1), (.long aa2), (.ref o1)]))
  refine GoOn.st (fun t_ k_ => XS.lmul X23.here hx rfl (hb hby d_prog_29_method_7_113) rfl k_) ?_
  show GoOn _ _ _ _ (T23.setTop (mkF m 114 #[.val (.ref o1), .val (.long aa0), .second, .val (.long aa1), .second, .val (.long aa2), .second, .val (.long b0), .second, .val (.long b1), .second] [(.long (aa2 * b1)), (.ref o1)]))
  refine GoOn.callP (W := 0) (argsL := [(.long (aa2 * b1))]) (rest := []) (a := o1) X23 hx hZ hown (hw _ (List.mem_of_getElem? (i := 60) rfl)) (hw _ (List.mem_of_getElem? (i := 61) rfl)) (Jvm.Kit.selects_private (by decide) (hw _ (List.mem_of_getElem? (i := 1) rfl)) (hw _ (List.mem_of_getElem? (i := 62) rfl)) (hw _ (List.mem_of_getElem? (i := 61) rfl))) (hw _ (List.mem_of_getElem? (i := 62) rfl)) (hw _ (List.mem_of_getElem? (i := 2) rfl)) (hw _ (List.mem_of_getElem? (i := 63) rfl)) (by decide) (rm_atc l Z a0 hw o1 l0 l1 l2 l3 l4 l5 (aa0 * b0) c7 c16 p3 p4 p5 c23 k23 (aa2 * b1) T23.heap n0 g_o1 I23 (by omega)) rfl (own_I_exa I23).cell (by decide) (by decide) (by rw [hml]; rfl) pd_2 rfl rfl (Nat.le_of_eq rfl) (hb hby d_prog_29_method_7_114) (by decide) (by decide) ?_
  rintro _ T24 L24 X24 ⟨rfl, N24q, c24, k24, I24, eq24, kb24⟩
  have N24 := Fr.app N23 N24q
  refine GoOn.st (fun t_ k_ => XS.aloadN X24.here hx rfl (hb hby d_prog_29_method_7_117) rfl rfl k_) ?_
  refine GoOn.st (fun t_ k_ => XS.aloadN X24.here hx rfl (hb hby d_prog_29_method_7_118) rfl rfl k_) ?_
  show GoOn _ _ _ _ (T24.setTop (mkF m 119 #[.val (.ref o1), .val (.long aa0), .second, .val (.long aa1), .second, .val (.long aa2), .second, .val (.long b0), .second, .val (.long b1), .second] [(.ref o1), (.ref o1)]))
  refine GoOn.callP (W := 1) (argsL := []) (rest := [(.ref o1)]) (a := o1) X24 hx hZ hown (hw _ (List.mem_of_getElem? (i := 69) rfl)) (hw _ (List.mem_of_getElem? (i := 70) rfl)) (Jvm.Kit.selects_private (by decide) (hw _ (List.mem_of_getElem? (i := 1) rfl)) (hw _ (List.mem_of_getElem? (i := 71) rfl)) (hw _ (List.mem_of_getElem? (i := 70) rfl))) (hw _ (List.mem_of_getElem? (i := 71) rfl)) (hw _ (List.mem_of_getElem? (i := 2) rfl)) (hw _ (List.mem_of_getElem? (i := 72) rfl)) (by decide) (rm_nxt l Z a0 hw o1 l0 l1 l2 l3 l4 l5 (aa0 * b0) c7 c16 p3 p4 p5 c24 k24 T24.heap n0 g_o1 I24) rfl (own_I_exa I24).cell (by decide) (by decide) (by rw [hml]; rfl) pd_3 rfl rfl (Nat.le_of_eq rfl) (hb hby d_prog_29_method_7_119) (by decide) (by decide) ?_
  rintro _ T25 L25 X25 ⟨rfl, N25q, I25⟩
  have N25 := Fr.app N24 N25q
  obtain ⟨T26, h26, X26, e26, W26, st26⟩ := putF X25 hx hZ hown (host := "") (Or.inl (hw _ (List.mem_of_getElem? (i := 77) rfl))) Via.refl rfl (own_I_get_product3 I25) (own_I_exa I25) (Or.inl (hw _ (List.mem_of_getElem? (i := 78) rfl))) (hw _ (List.mem_of_getElem? (i := 1) rfl)) (ty := .long) (by decide) rfl rfl (g := (mkF m 122 #[.val (.ref o1), .val (.long aa0), .second, .val (.long aa1), .second, .val (.long aa2), .second, .val (.long b0), .second, .val (.long b1), .second] [(.long c24), (.ref o1)])) rfl rfl (hb hby d_prog_29_method_7_122)
  have I26 := own_I_put_product3 hw W26 I25
  have N27 := Fr.snoc X26 N25 g_o1
  refine GoOn.st st26 ?_
  refine GoOn.st (fun t_ k_ => XS.aloadN X26.here hx rfl (hb hby d_prog_29_method_7_125) rfl rfl k_) ?_
  refine GoOn.st (fun t_ k_ => XS.aloadN X26.here hx rfl (hb hby d_prog_29_method_7_126) rfl rfl k_) ?_
  show GoOn _ _ _ _ (T26.setTop (mkF m 127 #[.val (.ref o1), .val (.long aa0), .second, .val (.long aa1), .second, .val (.long aa2), .second, .val (.long b0), .second, .val (.long b1), .second] [(.ref o1), (.ref o1)]))
  refine GoOn.st (fun t_ k_ => XS.lload X26.here hx rfl (hb hby d_prog_29_method_7_127) rfl k_) ?_
  refine GoOn.st (fun t_ k_ => XS.lload X26.here hx rfl (hb hby d_prog_29_method_7_129) rfl k_) ?_
  show GoOn _ _ _ _ (T26.setTop (mkF m 131 #[.val (.ref o1), .val (.long aa0), .second, .val (.long aa1), .second, .val (.long aa2), .second, .val (.long b0), .second, .val (.long b1), .second] [(.long b1), (.long aa2), (.ref o1), (.ref o1)]))
  refine GoOn.callS (W := 2) (argsL := [(.long aa2), (.long b1)]) (rest := [(.ref o1), (.ref o1)]) X26 hx hZ hown (hw _ (List.mem_of_getElem? (i := 50) rfl)) (hw _ (List.mem_of_getElem? (i := 51) rfl)) (hw _ (List.mem_of_getElem? (i := 40) rfl)) (hw _ (List.mem_of_getElem? (i := 52) rfl)) (by decide) (rm_umulh l Z a0 hw aa2 b1 h26) e26 (by decide) (by decide) (by rw [hml]; rfl) pd_0 rfl rfl (Nat.le_of_eq rfl) (hb hby d_prog_29_method_7_131) (by decide) (by decide) ?_
  rintro _ T28 L28 X28 ⟨rfl, rfl, e28⟩
  rw [List.append_nil] at X28
  show GoOn _ _ _ _ (T28.setTop (mkF m 134 #[.val (.ref o1), .val (.long aa0), .second, .val (.long aa1), .second, .val (.long aa2), .second, .val (.long b0), .second, .val (.long b1), .second] [(.long (own_umulh aa2 b1)), (.ref o1), (.ref o1)]))
  refine GoOn.callP (W := 1) (argsL := [(.long (own_umulh aa2 b1))]) (rest := [(.ref o1)]) (a := o1) X28 hx hZ hown (hw _ (List.mem_of_getElem? (i := 82) rfl)) (hw _ (List.mem_of_getElem? (i := 83) rfl)) (Jvm.Kit.selects_private (by decide) (hw _ (List.mem_of_getElem? (i := 1) rfl)) (hw _ (List.mem_of_getElem? (i := 84) rfl)) (hw _ (List.mem_of_getElem? (i := 83) rfl))) (hw _ (List.mem_of_getElem? (i := 84) rfl)) (hw _ (List.mem_of_getElem? (i := 2) rfl)) (hw _ (List.mem_of_getElem? (i := 85) rfl)) (by decide) (rm_lst l Z a0 hw o1 l0 l1 l2 l3 l4 l5 (aa0 * b0) c7 c16 c24 p4 p5 k24 (0 : Int64) (own_umulh aa2 b1) h26 I26) e28 (own_I_exa I26).cell (by decide) (by decide) (by rw [hml]; rfl) pd_4 rfl rfl (Nat.le_of_eq rfl) (hb hby d_prog_29_method_7_134) (by decide) (by decide) ?_
  rintro _ T29 L29 X29 ⟨rfl, rfl, e29⟩
  rw [List.append_nil] at X29
  obtain ⟨T30, h30, X30, e30, W30, st30⟩ := putF X29 hx hZ hown (host := "") (Or.inl (hw _ (List.mem_of_getElem? (i := 79) rfl))) Via.refl e29 (own_I_get_product4 I26) (own_I_exa I26) (Or.inl (hw _ (List.mem_of_getElem? (i := 80) rfl))) (hw _ (List.mem_of_getElem? (i := 1) rfl)) (ty := .long) (by decide) rfl rfl (g := (mkF m 137 #[.val (.ref o1), .val (.long aa0), .second, .val (.long aa1), .second, .val (.long aa2), .second, .val (.long b0), .second, .val (.long b1), .second] [(.long (k24 + (own_umulh aa2 b1))), (.ref o1)])) rfl rfl (hb hby d_prog_29_method_7_137)
  have I30 := own_I_put_product4 hw W30 I26
  have N31 := Fr.snoc X30 N27 g_o1
  refine GoOn.st st30 ?_
  refine GoOn.st (fun t_ k_ => XS.aloadN X30.here hx rfl (hb hby d_prog_29_method_7_140) rfl rfl k_) ?_
  refine GoOn.st (fun t_ k_ => XS.lconst X30.here hx rfl (hb hby d_prog_29_method_7_141)  k_) ?_
  show GoOn _ _ _ _ (T30.setTop (mkF m 142 #[.val (.ref o1), .val (.long aa0), .second, .val (.long aa1), .second, .val (.long aa2), .second, .val (.long b0), .second, .val (.long b1), .second] [(.long (0 : Int64)), (.ref o1)]))
  obtain ⟨T32, h32, X32, e32, W32, st32⟩ := putF X30 hx hZ hown (host := "") (Or.inl (hw _ (List.mem_of_getElem? (i := 86) rfl))) Via.refl e30 (own_I_get_product5 I30) (own_I_exa I30) (Or.inl (hw _ (List.mem_of_getElem? (i := 87) rfl))) (hw _ (List.mem_of_getElem? (i := 1) rfl)) (ty := .long) (by decide) rfl rfl (g := (mkF m 142 #[.val (.ref o1), .val (.long aa0), .second, .val (.long aa1), .second, .val (.long aa2), .second, .val (.long b0), .second, .val (.long b1), .second] [(.long (0 : Int64)), (.ref o1)])) rfl rfl (hb hby d_prog_29_method_7_142)
  have I32 := own_I_put_product5 hw W32 I30
  have N33 := Fr.snoc X32 N31 g_o1
  refine GoOn.st st32 ?_
  show GoOn _ _ _ _ (T32.setTop (mkF m 145 #[.val (.ref o1), .val (.long aa0), .second, .val (.long aa1), .second, .val (.long aa2), .second, .val (.long b0), .second, .val (.long b1), .second] []))
  have hfin : own_P6 (aa0 * b0) c7 c16 c24 (k24 + (own_umulh aa2 b1)) (0 : Int64) = own_V3 aa0 aa1 aa2 * own_V2 b0 b1 := by
    rw [own_exp32]; unfold own_P6
    have q00 := own_lohi aa0 b0
    have m00 := own_mul_bd4 aa0 b0
    have q01 := own_lohi aa0 b1
    have m01 := own_mul_bd4 aa0 b1
    have q10 := own_lohi aa1 b0
    have m10 := own_mul_bd4 aa1 b0
    have q11 := own_lohi aa1 b1
    have m11 := own_mul_bd4 aa1 b1
    have q20 := own_lohi aa2 b0
    have m20 := own_mul_bd5 b0 ha
    have q21 := own_lohi aa2 b1
    have m21 := own_mul_bd5 b1 ha
    have r := own_U_add k24 (own_umulh aa2 b1)
    generalize own_U aa0 * own_U b0 = x00 at *
    generalize own_U aa0 * own_U b1 = x01 at *
    generalize own_U aa1 * own_U b0 = x10 at *
    generalize own_U aa1 * own_U b1 = x11 at *
    generalize own_U aa2 * own_U b0 = x20 at *
    generalize own_U aa2 * own_U b1 = x21 at *
    omega
  exact GoOn.retV X32 hx hlk hret (hb hby d_prog_29_method_7_145) (by rw [e32]; exact ⟨rfl, N33, _, _, _, _, _, _, _, I32, hfin⟩) (by decide) (by decide)
theorem ef_ml33 (m : MethodId) (x0 : Addr) (x1 : Int64) (x2 : Int64) (x3 : Int64) (x4 : Int64) (x5 : Int64) (x6 : Int64) : entryFrame m #[(.ref x0), (.long x1), (.long x2), (.long x3), (.long x4), (.long x5), (.long x6)] 13 = mkF m 0 #[.val (.ref x0), .val (.long x1), .second, .val (.long x2), .second, .val (.long x3), .second, .val (.long x4), .second, .val (.long x5), .second, .val (.long x6), .second] [] := by first | (simp [entryFrame, mkF, argsToLocals, Value.category]; done) | rfl
theorem d_prog_29_method_6_0 : decode prog_29_method_6_code 0 = .ok (.aload_n 0, 1) := by decide +kernel
theorem d_prog_29_method_6_1 : decode prog_29_method_6_code 1 = .ok (.lload_n 1, 1) := by decide +kernel
theorem d_prog_29_method_6_2 : decode prog_29_method_6_code 2 = .ok (.lload 7, 2) := by decide +kernel
theorem d_prog_29_method_6_4 : decode prog_29_method_6_code 4 = .ok (.lmul, 1) := by decide +kernel
theorem d_prog_29_method_6_5 : decode prog_29_method_6_code 5 = .ok (.putfield 56, 3) := by decide +kernel
theorem d_prog_29_method_6_8 : decode prog_29_method_6_code 8 = .ok (.aload_n 0, 1) := by decide +kernel
theorem d_prog_29_method_6_9 : decode prog_29_method_6_code 9 = .ok (.lload_n 1, 1) := by decide +kernel
theorem d_prog_29_method_6_10 : decode prog_29_method_6_code 10 = .ok (.lload 7, 2) := by decide +kernel
theorem d_prog_29_method_6_12 : decode prog_29_method_6_code 12 = .ok (.invokestatic 59, 3) := by decide +kernel
theorem d_prog_29_method_6_15 : decode prog_29_method_6_code 15 = .ok (.putfield 62, 3) := by decide +kernel
theorem d_prog_29_method_6_18 : decode prog_29_method_6_code 18 = .ok (.aload_n 0, 1) := by decide +kernel
theorem d_prog_29_method_6_19 : decode prog_29_method_6_code 19 = .ok (.lload_n 1, 1) := by decide +kernel
theorem d_prog_29_method_6_20 : decode prog_29_method_6_code 20 = .ok (.lload 9, 2) := by decide +kernel
theorem d_prog_29_method_6_22 : decode prog_29_method_6_code 22 = .ok (.lmul, 1) := by decide +kernel
theorem d_prog_29_method_6_23 : decode prog_29_method_6_code 23 = .ok (.invokevirtual 65, 3) := by decide +kernel
theorem d_prog_29_method_6_26 : decode prog_29_method_6_code 26 = .ok (.aload_n 0, 1) := by decide +kernel
theorem d_prog_29_method_6_27 : decode prog_29_method_6_code 27 = .ok (.lload_n 3, 1) := by decide +kernel
theorem d_prog_29_method_6_28 : decode prog_29_method_6_code 28 = .ok (.lload 7, 2) := by decide +kernel
theorem d_prog_29_method_6_30 : decode prog_29_method_6_code 30 = .ok (.lmul, 1) := by decide +kernel
theorem d_prog_29_method_6_31 : decode prog_29_method_6_code 31 = .ok (.invokevirtual 65, 3) := by decide +kernel
theorem d_prog_29_method_6_34 : decode prog_29_method_6_code 34 = .ok (.aload_n 0, 1) := by decide +kernel
theorem d_prog_29_method_6_35 : decode prog_29_method_6_code 35 = .ok (.aload_n 0, 1) := by decide +kernel
theorem d_prog_29_method_6_36 : decode prog_29_method_6_code 36 = .ok (.invokevirtual 69, 3) := by decide +kernel
theorem d_prog_29_method_6_39 : decode prog_29_method_6_code 39 = .ok (.putfield 73, 3) := by decide +kernel
theorem d_prog_29_method_6_42 : decode prog_29_method_6_code 42 = .ok (.aload_n 0, 1) := by decide +kernel
theorem d_prog_29_method_6_43 : decode prog_29_method_6_code 43 = .ok (.lload_n 1, 1) := by decide +kernel
theorem d_prog_29_method_6_44 : decode prog_29_method_6_code 44 = .ok (.lload 9, 2) := by decide +kernel
theorem d_prog_29_method_6_46 : decode prog_29_method_6_code 46 = .ok (.invokestatic 59, 3) := by decide +kernel
theorem d_prog_29_method_6_49 : decode prog_29_method_6_code 49 = .ok (.invokevirtual 65, 3) := by decide +kernel
theorem d_prog_29_method_6_52 : decode prog_29_method_6_code 52 = .ok (.aload_n 0, 1) := by decide +kernel
theorem d_prog_29_method_6_53 : decode prog_29_method_6_code 53 = .ok (.lload_n 3, 1) := by decide +kernel
theorem d_prog_29_method_6_54 : decode prog_29_method_6_code 54 = .ok (.lload 7, 2) := by decide +kernel
theorem d_prog_29_method_6_56 : decode prog_29_method_6_code 56 = .ok (.invokestatic 59, 3) := by decide +kernel
theorem d_prog_29_method_6_59 : decode prog_29_method_6_code 59 = .ok (.invokevirtual 65, 3) := by decide +kernel
theorem d_prog_29_method_6_62 : decode prog_29_method_6_code 62 = .ok (.aload_n 0, 1) := by decide +kernel
theorem d_prog_29_method_6_63 : decode prog_29_method_6_code 63 = .ok (.lload_n 1, 1) := by decide +kernel
theorem d_prog_29_method_6_64 : decode prog_29_method_6_code 64 = .ok (.lload 11, 2) := by decide +kernel
theorem d_prog_29_method_6_66 : decode prog_29_method_6_code 66 = .ok (.lmul, 1) := by decide +kernel
theorem d_prog_29_method_6_67 : decode prog_29_method_6_code 67 = .ok (.invokevirtual 65, 3) := by decide +kernel
theorem d_prog_29_method_6_70 : decode prog_29_method_6_code 70 = .ok (.aload_n 0, 1) := by decide +kernel
theorem d_prog_29_method_6_71 : decode prog_29_method_6_code 71 = .ok (.lload_n 3, 1) := by decide +kernel
theorem d_prog_29_method_6_72 : decode prog_29_method_6_code 72 = .ok (.lload 9, 2) := by decide +kernel
theorem d_prog_29_method_6_74 : decode prog_29_method_6_code 74 = .ok (.lmul, 1) := by decide +kernel
theorem d_prog_29_method_6_75 : decode prog_29_method_6_code 75 = .ok (.invokevirtual 65, 3) := by decide +kernel
theorem d_prog_29_method_6_78 : decode prog_29_method_6_code 78 = .ok (.aload_n 0, 1) := by decide +kernel
theorem d_prog_29_method_6_79 : decode prog_29_method_6_code 79 = .ok (.lload 5, 2) := by decide +kernel
theorem d_prog_29_method_6_81 : decode prog_29_method_6_code 81 = .ok (.lload 7, 2) := by decide +kernel
theorem d_prog_29_method_6_83 : decode prog_29_method_6_code 83 = .ok (.lmul, 1) := by decide +kernel
theorem d_prog_29_method_6_84 : decode prog_29_method_6_code 84 = .ok (.invokevirtual 65, 3) := by decide +kernel
theorem d_prog_29_method_6_87 : decode prog_29_method_6_code 87 = .ok (.aload_n 0, 1) := by decide +kernel
theorem d_prog_29_method_6_88 : decode prog_29_method_6_code 88 = .ok (.aload_n 0, 1) := by decide +kernel
theorem d_prog_29_method_6_89 : decode prog_29_method_6_code 89 = .ok (.invokevirtual 69, 3) := by decide +kernel
theorem d_prog_29_method_6_92 : decode prog_29_method_6_code 92 = .ok (.putfield 76, 3) := by decide +kernel
theorem d_prog_29_method_6_95 : decode prog_29_method_6_code 95 = .ok (.aload_n 0, 1) := by decide +kernel
theorem d_prog_29_method_6_96 : decode prog_29_method_6_code 96 = .ok (.lload_n 1, 1) := by decide +kernel
theorem d_prog_29_method_6_97 : decode prog_29_method_6_code 97 = .ok (.lload 11, 2) := by decide +kernel
theorem d_prog_29_method_6_99 : decode prog_29_method_6_code 99 = .ok (.invokestatic 59, 3) := by decide +kernel
theorem d_prog_29_method_6_102 : decode prog_29_method_6_code 102 = .ok (.invokevirtual 65, 3) := by decide +kernel
theorem d_prog_29_method_6_105 : decode prog_29_method_6_code 105 = .ok (.aload_n 0, 1) := by decide +kernel
theorem d_prog_29_method_6_106 : decode prog_29_method_6_code 106 = .ok (.lload_n 3, 1) := by decide +kernel
theorem d_prog_29_method_6_107 : decode prog_29_method_6_code 107 = .ok (.lload 9, 2) := by decide +kernel
theorem d_prog_29_method_6_109 : decode prog_29_method_6_code 109 = .ok (.invokestatic 59, 3) := by decide +kernel
theorem d_prog_29_method_6_112 : decode prog_29_method_6_code 112 = .ok (.invokevirtual 65, 3) := by decide +kernel
theorem d_prog_29_method_6_115 : decode prog_29_method_6_code 115 = .ok (.aload_n 0, 1) := by decide +kernel
theorem d_prog_29_method_6_116 : decode prog_29_method_6_code 116 = .ok (.lload 5, 2) := by decide +kernel
theorem d_prog_29_method_6_118 : decode prog_29_method_6_code 118 = .ok (.lload 7, 2) := by decide +kernel
theorem d_prog_29_method_6_120 : decode prog_29_method_6_code 120 = .ok (.invokestatic 59, 3) := by decide +kernel
theorem d_prog_29_method_6_123 : decode prog_29_method_6_code 123 = .ok (.invokevirtual 65, 3) := by decide +kernel
theorem d_prog_29_method_6_126 : decode prog_29_method_6_code 126 = .ok (.aload_n 0, 1) := by decide +kernel
theorem d_prog_29_method_6_127 : decode prog_29_method_6_code 127 = .ok (.lload_n 3, 1) := by decide +kernel
theorem d_prog_29_method_6_128 : decode prog_29_method_6_code 128 = .ok (.lload 11, 2) := by decide +kernel
theorem d_prog_29_method_6_130 : decode prog_29_method_6_code 130 = .ok (.lmul, 1) := by decide +kernel
theorem d_prog_29_method_6_131 : decode prog_29_method_6_code 131 = .ok (.invokevirtual 65, 3) := by decide +kernel
theorem d_prog_29_method_6_134 : decode prog_29_method_6_code 134 = .ok (.aload_n 0, 1) := by decide +kernel
theorem d_prog_29_method_6_135 : decode prog_29_method_6_code 135 = .ok (.lload 5, 2) := by decide +kernel
theorem d_prog_29_method_6_137 : decode prog_29_method_6_code 137 = .ok (.lload 9, 2) := by decide +kernel
theorem d_prog_29_method_6_139 : decode prog_29_method_6_code 139 = .ok (.lmul, 1) := by decide +kernel
theorem d_prog_29_method_6_140 : decode prog_29_method_6_code 140 = .ok (.invokevirtual 65, 3) := by decide +kernel
theorem d_prog_29_method_6_143 : decode prog_29_method_6_code 143 = .ok (.aload_n 0, 1) := by decide +kernel
theorem d_prog_29_method_6_144 : decode prog_29_method_6_code 144 = .ok (.aload_n 0, 1) := by decide +kernel
theorem d_prog_29_method_6_145 : decode prog_29_method_6_code 145 = .ok (.invokevirtual 69, 3) := by decide +kernel
theorem d_prog_29_method_6_148 : decode prog_29_method_6_code 148 = .ok (.putfield 79, 3) := by decide +kernel
theorem d_prog_29_method_6_151 : decode prog_29_method_6_code 151 = .ok (.aload_n 0, 1) := by decide +kernel
theorem d_prog_29_method_6_152 : decode prog_29_method_6_code 152 = .ok (.lload_n 3, 1) := by decide +kernel
theorem d_prog_29_method_6_153 : decode prog_29_method_6_code 153 = .ok (.lload 11, 2) := by decide +kernel
theorem d_prog_29_method_6_155 : decode prog_29_method_6_code 155 = .ok (.invokestatic 59, 3) := by decide +kernel
theorem d_prog_29_method_6_158 : decode prog_29_method_6_code 158 = .ok (.invokevirtual 65, 3) := by decide +kernel
theorem d_prog_29_method_6_161 : decode prog_29_method_6_code 161 = .ok (.aload_n 0, 1) := by decide +kernel
theorem d_prog_29_method_6_162 : decode prog_29_method_6_code 162 = .ok (.lload 5, 2) := by decide +kernel
theorem d_prog_29_method_6_164 : decode prog_29_method_6_code 164 = .ok (.lload 9, 2) := by decide +kernel
theorem d_prog_29_method_6_166 : decode prog_29_method_6_code 166 = .ok (.invokestatic 59, 3) := by decide +kernel
theorem d_prog_29_method_6_169 : decode prog_29_method_6_code 169 = .ok (.invokevirtual 65, 3) := by decide +kernel
theorem d_prog_29_method_6_172 : decode prog_29_method_6_code 172 = .ok (.aload_n 0, 1) := by decide +kernel
theorem d_prog_29_method_6_173 : decode prog_29_method_6_code 173 = .ok (.lload 5, 2) := by decide +kernel
theorem d_prog_29_method_6_175 : decode prog_29_method_6_code 175 = .ok (.lload 11, 2) := by decide +kernel
theorem d_prog_29_method_6_177 : decode prog_29_method_6_code 177 = .ok (.lmul, 1) := by decide +kernel
theorem d_prog_29_method_6_178 : decode prog_29_method_6_code 178 = .ok (.invokevirtual 65, 3) := by decide +kernel
theorem d_prog_29_method_6_181 : decode prog_29_method_6_code 181 = .ok (.aload_n 0, 1) := by decide +kernel
theorem d_prog_29_method_6_182 : decode prog_29_method_6_code 182 = .ok (.aload_n 0, 1) := by decide +kernel
theorem d_prog_29_method_6_183 : decode prog_29_method_6_code 183 = .ok (.invokevirtual 69, 3) := by decide +kernel
theorem d_prog_29_method_6_186 : decode prog_29_method_6_code 186 = .ok (.putfield 82, 3) := by decide +kernel
theorem d_prog_29_method_6_189 : decode prog_29_method_6_code 189 = .ok (.aload_n 0, 1) := by decide +kernel
theorem d_prog_29_method_6_190 : decode prog_29_method_6_code 190 = .ok (.aload_n 0, 1) := by decide +kernel
theorem d_prog_29_method_6_191 : decode prog_29_method_6_code 191 = .ok (.lload 5, 2) := by decide +kernel
theorem d_prog_29_method_6_193 : decode prog_29_method_6_code 193 = .ok (.lload 11, 2) := by decide +kernel
theorem d_prog_29_method_6_195 : decode prog_29_method_6_code 195 = .ok (.invokestatic 85, 3) := by decide +kernel
theorem d_prog_29_method_6_198 : decode prog_29_method_6_code 198 = .ok (.invokevirtual 90, 3) := by decide +kernel
theorem d_prog_29_method_6_201 : decode prog_29_method_6_code 201 = .ok (.putfield 94, 3) := by decide +kernel
theorem d_prog_29_method_6_204 : decode prog_29_method_6_code 204 = .ok (.return_, 1) := by decide +kernel
set_option maxRecDepth 65536 in
set_option maxHeartbeats 40000000 in
theorem rm_ml33 (l : Launch) (Z : State) (a0 : Array Value) (hw : ∀ d ∈ tables_1, d.before a0 Z = true) (o1 : Addr) (l0 l1 l2 l3 l4 l5 p0 p1 p2 p3 p4 p5 c aa0 aa1 aa2 b0 b1 b2 : Int64) (h0 : Heap) (n0 : Nat) (g_o1 : n0 ≤ o1) (I0 : own_I Z h0 o1 l0 l1 l2 l3 l4 l5 p0 p1 p2 p3 p4 p5 c 0) (ha : own_U aa2 ≤ 2305843009213693952) (hbb : own_U b2 ≤ 2305843009213693952) :
    OwCon l Z (⟨"com/example/nano_embed/nanoembed/geometry/Int384", "multiplyLimbs", "(JJJJJJ)V"⟩ : MethodName) prog_29_method_6_code 13 none [] ({ frames := 2, cells := 0, slots := 0, locals := 47 } : Room) #[(.ref o1), (.long aa0), (.long aa1), (.long aa2), (.long b0), (.long b1), (.long b2)] h0 (fun v h L => v = none ∧ Fr n0 L ∧ ∃ p0' p1' p2' p3' p4' p5' c', own_I Z h o1 l0 l1 l2 l3 l4 l5 p0' p1' p2' p3' p4' p5' c' 0 ∧ own_P6 p0' p1' p2' p3' p4' p5' = own_V3 aa0 aa1 aa2 * own_V3 b0 b1 b2) := by
  refine OwCon.of (plainFor_of_name pn_com_example_nano_embed_nanoembed_geometry_Int384) ?_
  intro p e s m below meth cd_ s₁ X0 hx hby hml hret hlk hown hnm hZ e0
  have z0 : own_U (0 : Int64) = 0 := rfl
  have N0 := Fr.nil n0
  refine GoOn.st (fun t_ k_ => castTop (ef_ml33 m o1 aa0 aa1 aa2 b0 b1 b2) k_) ?_
  show GoOn _ _ _ _ (s₁.setTop (mkF m 0 #[.val (.ref o1), .val (.long aa0), .second, .val (.long aa1), .second, .val (.long aa2), .second, .val (.long b0), .second, .val (.long b1), .second, .val (.long b2), .second] []))
  refine GoOn.st (fun t_ k_ => XS.aloadN X0.here hx rfl (hb hby d_prog_29_method_6_0) rfl rfl k_) ?_
  refine GoOn.st (fun t_ k_ => XS.lloadN X0.here hx rfl (hb hby d_prog_29_method_6_1) rfl k_) ?_
  refine GoOn.st (fun t_ k_ => XS.lload X0.here hx rfl (hb hby d_prog_29_method_6_2) rfl k_) ?_
  refine GoOn.st (fun t_ k_ => XS.lmul X0.here hx rfl (hb hby d_prog_29_method_6_4) rfl k_) ?_
  show GoOn _ _ _ _ (s₁.setTop (mkF m 5 #[.val (.ref o1), .val (.long aa0), .second, .val (.long aa1), .second, .val (.long aa2), .second, .val (.long b0), .second, .val (.long b1), .second, .val (.long b2), .second] [(.long (aa0 * b0)), (.ref o1)]))
  obtain ⟨T1, h1, X1, e1, W1, st1⟩ := putF X0 hx hZ hown (host := "") (Or.inl (hw _ (List.mem_of_getElem? (i := 48) rfl))) Via.refl e0 (own_I_get_product0 I0) (own_I_exa I0) (Or.inl (hw _ (List.mem_of_getElem? (i := 49) rfl))) (hw _ (List.mem_of_getElem? (i := 1) rfl)) (ty := .long) (by decide) rfl rfl (g := (mkF m 5 #[.val (.ref o1), .val (.long aa0), .second, .val (.long aa1), .second, .val (.long aa2), .second, .val (.long b0), .second, .val (.long b1), .second, .val (.long b2), .second] [(.long (aa0 * b0)), (.ref o1)])) rfl rfl (hb hby d_prog_29_method_6_5)
  have I1 := own_I_put_product0 hw W1 I0
  have N2 := Fr.snoc X1 N0 g_o1
  refine GoOn.st st1 ?_
  refine GoOn.st (fun t_ k_ => XS.aloadN X1.here hx rfl (hb hby d_prog_29_method_6_8) rfl rfl k_) ?_
  refine GoOn.st (fun t_ k_ => XS.lloadN X1.here hx rfl (hb hby d_prog_29_method_6_9) rfl k_) ?_
  refine GoOn.st (fun t_ k_ => XS.lload X1.here hx rfl (hb hby d_prog_29_method_6_10) rfl k_) ?_
  show GoOn _ _ _ _ (T1.setTop (mkF m 12 #[.val (.ref o1), .val (.long aa0), .second, .val (.long aa1), .second, .val (.long aa2), .second, .val (.long b0), .second, .val (.long b1), .second, .val (.long b2), .second] [(.long b0), (.long aa0), (.ref o1)]))
  refine GoOn.callS (W := 1) (argsL := [(.long aa0), (.long b0)]) (rest := [(.ref o1)]) X1 hx hZ hown (hw _ (List.mem_of_getElem? (i := 50) rfl)) (hw _ (List.mem_of_getElem? (i := 51) rfl)) (hw _ (List.mem_of_getElem? (i := 40) rfl)) (hw _ (List.mem_of_getElem? (i := 52) rfl)) (by decide) (rm_umulh l Z a0 hw aa0 b0 h1) e1 (by decide) (by decide) (by rw [hml]; rfl) pd_0 rfl rfl (Nat.le_of_eq rfl) (hb hby d_prog_29_method_6_12) (by decide) (by decide) ?_
  rintro _ T3 L3 X3 ⟨rfl, rfl, e3⟩
  rw [List.append_nil] at X3
  obtain ⟨T4, h4, X4, e4, W4, st4⟩ := putF X3 hx hZ hown (host := "") (Or.inl (hw _ (List.mem_of_getElem? (i := 58) rfl))) Via.refl e3 (own_I_get_column I1) (own_I_exa I1) (Or.inl (hw _ (List.mem_of_getElem? (i := 59) rfl))) (hw _ (List.mem_of_getElem? (i := 1) rfl)) (ty := .long) (by decide) rfl rfl (g := (mkF m 15 #[.val (.ref o1), .val (.long aa0), .second, .val (.long aa1), .second, .val (.long aa2), .second, .val (.long b0), .second, .val (.long b1), .second, .val (.long b2), .second] [(.long (own_umulh aa0 b0)), (.ref o1)])) rfl rfl (hb hby d_prog_29_method_6_15)
  have I4 := own_I_put_column hw W4 I1
  have N5 := Fr.snoc X4 N2 g_o1
  refine GoOn.st st4 ?_
  refine GoOn.st (fun t_ k_ => XS.aloadN X4.here hx rfl (hb hby d_prog_29_method_6_18) rfl rfl k_) ?_
  refine GoOn.st (fun t_ k_ => XS.lloadN X4.here hx rfl (hb hby d_prog_29_method_6_19) rfl k_) ?_
  show GoOn _ _ _ _ (T4.setTop (mkF m 20 #[.val (.ref o1), .val (.long aa0), .second, .val (.long aa1), .second, .val (.long aa2), .second, .val (.long b0), .second, .val (.long b1), .second, .val (.long b2), .second] [(.long aa0), (.ref o1)]))
  refine GoOn.st (fun t_ k_ => XS.lload X4.here hx rfl (hb hby d_prog_29_method_6_20) rfl k_) ?_
  refine GoOn.st (fun t_ k_ => XS.lmul X4.here hx rfl (hb hby d_prog_29_method_6_22) rfl k_) ?_
  show GoOn _ _ _ _ (T4.setTop (mkF m 23 #[.val (.ref o1), .val (.long aa0), .second, .val (.long aa1), .second, .val (.long aa2), .second, .val (.long b0), .second, .val (.long b1), .second, .val (.long b2), .second] [(.long (aa0 * b1)), (.ref o1)]))
  refine GoOn.callP (W := 0) (argsL := [(.long (aa0 * b1))]) (rest := []) (a := o1) X4 hx hZ hown (hw _ (List.mem_of_getElem? (i := 60) rfl)) (hw _ (List.mem_of_getElem? (i := 61) rfl)) (Jvm.Kit.selects_private (by decide) (hw _ (List.mem_of_getElem? (i := 1) rfl)) (hw _ (List.mem_of_getElem? (i := 62) rfl)) (hw _ (List.mem_of_getElem? (i := 61) rfl))) (hw _ (List.mem_of_getElem? (i := 62) rfl)) (hw _ (List.mem_of_getElem? (i := 2) rfl)) (hw _ (List.mem_of_getElem? (i := 63) rfl)) (by decide) (rm_atc l Z a0 hw o1 l0 l1 l2 l3 l4 l5 (aa0 * b0) p1 p2 p3 p4 p5 (own_umulh aa0 b0) (0 : Int64) (aa0 * b1) h4 n0 g_o1 I4 (by omega)) e4 (own_I_exa I4).cell (by decide) (by decide) (by rw [hml]; rfl) pd_2 rfl rfl (Nat.le_of_eq rfl) (hb hby d_prog_29_method_6_23) (by decide) (by decide) ?_
  rintro _ T6 L6 X6 ⟨rfl, N6q, c6, k6, I6, eq6, kb6⟩
  have N6 := Fr.app N5 N6q
  refine GoOn.st (fun t_ k_ => XS.aloadN X6.here hx rfl (hb hby d_prog_29_method_6_26) rfl rfl k_) ?_
  refine GoOn.st (fun t_ k_ => XS.lloadN X6.here hx rfl (hb hby d_prog_29_method_6_27) rfl k_) ?_
  refine GoOn.st (fun t_ k_ => XS.lload X6.here hx rfl (hb hby d_prog_29_method_6_28) rfl k_) ?_
  show GoOn _ _ _ _ (T6.setTop (mkF m 30 #[.val (.ref o1), .val (.long aa0), .second, .val (.long aa1), .second, .val (.long aa2), .second, .val (.long b0), .second, .val (.long b1), .second, .val (.long b2), .second] [(.long b0), (.long aa1), (.ref o1)]))
  refine GoOn.st (fun t_ k_ => XS.lmul X6.here hx rfl (hb hby d_prog_29_method_6_30) rfl k_) ?_
  show GoOn _ _ _ _ (T6.setTop (mkF m 31 #[.val (.ref o1), .val (.long aa0), .second, .val (.long aa1), .second, .val (.long aa2), .second, .val (.long b0), .second, .val (.long b1), .second, .val (.long b2), .second] [(.long (aa1 * b0)), (.ref o1)]))
  refine GoOn.callP (W := 0) (argsL := [(.long (aa1 * b0))]) (rest := []) (a := o1) X6 hx hZ hown (hw _ (List.mem_of_getElem? (i := 60) rfl)) (hw _ (List.mem_of_getElem? (i := 61) rfl)) (Jvm.Kit.selects_private (by decide) (hw _ (List.mem_of_getElem? (i := 1) rfl)) (hw _ (List.mem_of_getElem? (i := 62) rfl)) (hw _ (List.mem_of_getElem? (i := 61) rfl))) (hw _ (List.mem_of_getElem? (i := 62) rfl)) (hw _ (List.mem_of_getElem? (i := 2) rfl)) (hw _ (List.mem_of_getElem? (i := 63) rfl)) (by decide) (rm_atc l Z a0 hw o1 l0 l1 l2 l3 l4 l5 (aa0 * b0) p1 p2 p3 p4 p5 c6 k6 (aa1 * b0) T6.heap n0 g_o1 I6 (by omega)) rfl (own_I_exa I6).cell (by decide) (by decide) (by rw [hml]; rfl) pd_2 rfl rfl (Nat.le_of_eq rfl) (hb hby d_prog_29_method_6_31) (by decide) (by decide) ?_
  rintro _ T7 L7 X7 ⟨rfl, N7q, c7, k7, I7, eq7, kb7⟩
  have N7 := Fr.app N6 N7q
  refine GoOn.st (fun t_ k_ => XS.aloadN X7.here hx rfl (hb hby d_prog_29_method_6_34) rfl rfl k_) ?_
  refine GoOn.st (fun t_ k_ => XS.aloadN X7.here hx rfl (hb hby d_prog_29_method_6_35) rfl rfl k_) ?_
  show GoOn _ _ _ _ (T7.setTop (mkF m 36 #[.val (.ref o1), .val (.long aa0), .second, .val (.long aa1), .second, .val (.long aa2), .second, .val (.long b0), .second, .val (.long b1), .second, .val (.long b2), .second] [(.ref o1), (.ref o1)]))
  refine GoOn.callP (W := 1) (argsL := []) (rest := [(.ref o1)]) (a := o1) X7 hx hZ hown (hw _ (List.mem_of_getElem? (i := 69) rfl)) (hw _ (List.mem_of_getElem? (i := 70) rfl)) (Jvm.Kit.selects_private (by decide) (hw _ (List.mem_of_getElem? (i := 1) rfl)) (hw _ (List.mem_of_getElem? (i := 71) rfl)) (hw _ (List.mem_of_getElem? (i := 70) rfl))) (hw _ (List.mem_of_getElem? (i := 71) rfl)) (hw _ (List.mem_of_getElem? (i := 2) rfl)) (hw _ (List.mem_of_getElem? (i := 72) rfl)) (by decide) (rm_nxt l Z a0 hw o1 l0 l1 l2 l3 l4 l5 (aa0 * b0) p1 p2 p3 p4 p5 c7 k7 T7.heap n0 g_o1 I7) rfl (own_I_exa I7).cell (by decide) (by decide) (by rw [hml]; rfl) pd_3 rfl rfl (Nat.le_of_eq rfl) (hb hby d_prog_29_method_6_36) (by decide) (by decide) ?_
  rintro _ T8 L8 X8 ⟨rfl, N8q, I8⟩
  have N8 := Fr.app N7 N8q
  obtain ⟨T9, h9, X9, e9, W9, st9⟩ := putF X8 hx hZ hown (host := "") (Or.inl (hw _ (List.mem_of_getElem? (i := 73) rfl))) Via.refl rfl (own_I_get_product1 I8) (own_I_exa I8) (Or.inl (hw _ (List.mem_of_getElem? (i := 74) rfl))) (hw _ (List.mem_of_getElem? (i := 1) rfl)) (ty := .long) (by decide) rfl rfl (g := (mkF m 39 #[.val (.ref o1), .val (.long aa0), .second, .val (.long aa1), .second, .val (.long aa2), .second, .val (.long b0), .second, .val (.long b1), .second, .val (.long b2), .second] [(.long c7), (.ref o1)])) rfl rfl (hb hby d_prog_29_method_6_39)
  have I9 := own_I_put_product1 hw W9 I8
  have N10 := Fr.snoc X9 N8 g_o1
  refine GoOn.st st9 ?_
  refine GoOn.st (fun t_ k_ => XS.aloadN X9.here hx rfl (hb hby d_prog_29_method_6_42) rfl rfl k_) ?_
  refine GoOn.st (fun t_ k_ => XS.lloadN X9.here hx rfl (hb hby d_prog_29_method_6_43) rfl k_) ?_
  show GoOn _ _ _ _ (T9.setTop (mkF m 44 #[.val (.ref o1), .val (.long aa0), .second, .val (.long aa1), .second, .val (.long aa2), .second, .val (.long b0), .second, .val (.long b1), .second, .val (.long b2), .second] [(.long aa0), (.ref o1)]))
  refine GoOn.st (fun t_ k_ => XS.lload X9.here hx rfl (hb hby d_prog_29_method_6_44) rfl k_) ?_
  show GoOn _ _ _ _ (T9.setTop (mkF m 46 #[.val (.ref o1), .val (.long aa0), .second, .val (.long aa1), .second, .val (.long aa2), .second, .val (.long b0), .second, .val (.long b1), .second, .val (.long b2), .second] [(.long b1), (.long aa0), (.ref o1)]))
  refine GoOn.callS (W := 1) (argsL := [(.long aa0), (.long b1)]) (rest := [(.ref o1)]) X9 hx hZ hown (hw _ (List.mem_of_getElem? (i := 50) rfl)) (hw _ (List.mem_of_getElem? (i := 51) rfl)) (hw _ (List.mem_of_getElem? (i := 40) rfl)) (hw _ (List.mem_of_getElem? (i := 52) rfl)) (by decide) (rm_umulh l Z a0 hw aa0 b1 h9) e9 (by decide) (by decide) (by rw [hml]; rfl) pd_0 rfl rfl (Nat.le_of_eq rfl) (hb hby d_prog_29_method_6_46) (by decide) (by decide) ?_
  rintro _ T11 L11 X11 ⟨rfl, rfl, e11⟩
  rw [List.append_nil] at X11
  show GoOn _ _ _ _ (T11.setTop (mkF m 49 #[.val (.ref o1), .val (.long aa0), .second, .val (.long aa1), .second, .val (.long aa2), .second, .val (.long b0), .second, .val (.long b1), .second, .val (.long b2), .second] [(.long (own_umulh aa0 b1)), (.ref o1)]))
  refine GoOn.callP (W := 0) (argsL := [(.long (own_umulh aa0 b1))]) (rest := []) (a := o1) X11 hx hZ hown (hw _ (List.mem_of_getElem? (i := 60) rfl)) (hw _ (List.mem_of_getElem? (i := 61) rfl)) (Jvm.Kit.selects_private (by decide) (hw _ (List.mem_of_getElem? (i := 1) rfl)) (hw _ (List.mem_of_getElem? (i := 62) rfl)) (hw _ (List.mem_of_getElem? (i := 61) rfl))) (hw _ (List.mem_of_getElem? (i := 62) rfl)) (hw _ (List.mem_of_getElem? (i := 2) rfl)) (hw _ (List.mem_of_getElem? (i := 63) rfl)) (by decide) (rm_atc l Z a0 hw o1 l0 l1 l2 l3 l4 l5 (aa0 * b0) c7 p2 p3 p4 p5 k7 (0 : Int64) (own_umulh aa0 b1) h9 n0 g_o1 I9 (by omega)) e11 (own_I_exa I9).cell (by decide) (by decide) (by rw [hml]; rfl) pd_2 rfl rfl (Nat.le_of_eq rfl) (hb hby d_prog_29_method_6_49) (by decide) (by decide) ?_
  rintro _ T12 L12 X12 ⟨rfl, N12q, c12, k12, I12, eq12, kb12⟩
  have N12 := Fr.app N10 N12q
  refine GoOn.st (fun t_ k_ => XS.aloadN X12.here hx rfl (hb hby d_prog_29_method_6_52) rfl rfl k_) ?_
  refine GoOn.st (fun t_ k_ => XS.lloadN X12.here hx rfl (hb hby d_prog_29_method_6_53) rfl k_) ?_
  refine GoOn.st (fun t_ k_ => XS.lload X12.here hx rfl (hb hby d_prog_29_method_6_54) rfl k_) ?_
  show GoOn _ _ _ _ (T12.setTop (mkF m 56 #[.val (.ref o1), .val (.long aa0), .second, .val (.long aa1), .second, .val (.long aa2), .second, .val (.long b0), .second, .val (.long b1), .second, .val (.long b2), .second] [(.long b0), (.long aa1), (.ref o1)]))
  refine GoOn.callS (W := 1) (argsL := [(.long aa1), (.long b0)]) (rest := [(.ref o1)]) X12 hx hZ hown (hw _ (List.mem_of_getElem? (i := 50) rfl)) (hw _ (List.mem_of_getElem? (i := 51) rfl)) (hw _ (List.mem_of_getElem? (i := 40) rfl)) (hw _ (List.mem_of_getElem? (i := 52) rfl)) (by decide) (rm_umulh l Z a0 hw aa1 b0 T12.heap) rfl (by decide) (by decide) (by rw [hml]; rfl) pd_0 rfl rfl (Nat.le_of_eq rfl) (hb hby d_prog_29_method_6_56) (by decide) (by decide) ?_
  rintro _ T13 L13 X13 ⟨rfl, rfl, e13⟩
  rw [List.append_nil] at X13
  show GoOn _ _ _ _ (T13.setTop (mkF m 59 #[.val (.ref o1), .val (.long aa0), .second, .val (.long aa1), .second, .val (.long aa2), .second, .val (.long b0), .second, .val (.long b1), .second, .val (.long b2), .second] [(.long (own_umulh aa1 b0)), (.ref o1)]))
  refine GoOn.callP (W := 0) (argsL := [(.long (own_umulh aa1 b0))]) (rest := []) (a := o1) X13 hx hZ hown (hw _ (List.mem_of_getElem? (i := 60) rfl)) (hw _ (List.mem_of_getElem? (i := 61) rfl)) (Jvm.Kit.selects_private (by decide) (hw _ (List.mem_of_getElem? (i := 1) rfl)) (hw _ (List.mem_of_getElem? (i := 62) rfl)) (hw _ (List.mem_of_getElem? (i := 61) rfl))) (hw _ (List.mem_of_getElem? (i := 62) rfl)) (hw _ (List.mem_of_getElem? (i := 2) rfl)) (hw _ (List.mem_of_getElem? (i := 63) rfl)) (by decide) (rm_atc l Z a0 hw o1 l0 l1 l2 l3 l4 l5 (aa0 * b0) c7 p2 p3 p4 p5 c12 k12 (own_umulh aa1 b0) T12.heap n0 g_o1 I12 (by omega)) e13 (own_I_exa I12).cell (by decide) (by decide) (by rw [hml]; rfl) pd_2 rfl rfl (Nat.le_of_eq rfl) (hb hby d_prog_29_method_6_59) (by decide) (by decide) ?_
  rintro _ T14 L14 X14 ⟨rfl, N14q, c14, k14, I14, eq14, kb14⟩
  have N14 := Fr.app N12 N14q
  refine GoOn.st (fun t_ k_ => XS.aloadN X14.here hx rfl (hb hby d_prog_29_method_6_62) rfl rfl k_) ?_
  refine GoOn.st (fun t_ k_ => XS.lloadN X14.here hx rfl (hb hby d_prog_29_method_6_63) rfl k_) ?_
  refine GoOn.st (fun t_ k_ => XS.lload X14.here hx rfl (hb hby d_prog_29_method_6_64) rfl k_) ?_
  show GoOn _ _ _ _ (T14.setTop (mkF m 66 #[.val (.ref o1), .val (.long aa0), .second, .val (.long aa1), .second, .val (.long aa2), .second, .val (.long b0), .second, .val (.long b1), .second, .val (.long b2), .second] [(.long b2), (.long aa0), (.ref o1)]))
  refine GoOn.st (fun t_ k_ => XS.lmul X14.here hx rfl (hb hby d_prog_29_method_6_66) rfl k_) ?_
  show GoOn _ _ _ _ (T14.setTop (mkF m 67 #[.val (.ref o1), .val (.long aa0), .second, .val (.long aa1), .second, .val (.long aa2), .second, .val (.long b0), .second, .val (.long b1), .second, .val (.long b2), .second] [(.long (aa0 * b2)), (.ref o1)]))
  refine GoOn.callP (W := 0) (argsL := [(.long (aa0 * b2))]) (rest := []) (a := o1) X14 hx hZ hown (hw _ (List.mem_of_getElem? (i := 60) rfl)) (hw _ (List.mem_of_getElem? (i := 61) rfl)) (Jvm.Kit.selects_private (by decide) (hw _ (List.mem_of_getElem? (i := 1) rfl)) (hw _ (List.mem_of_getElem? (i := 62) rfl)) (hw _ (List.mem_of_getElem? (i := 61) rfl))) (hw _ (List.mem_of_getElem? (i := 62) rfl)) (hw _ (List.mem_of_getElem? (i := 2) rfl)) (hw _ (List.mem_of_getElem? (i := 63) rfl)) (by decide) (rm_atc l Z a0 hw o1 l0 l1 l2 l3 l4 l5 (aa0 * b0) c7 p2 p3 p4 p5 c14 k14 (aa0 * b2) T14.heap n0 g_o1 I14 (by omega)) rfl (own_I_exa I14).cell (by decide) (by decide) (by rw [hml]; rfl) pd_2 rfl rfl (Nat.le_of_eq rfl) (hb hby d_prog_29_method_6_67) (by decide) (by decide) ?_
  rintro _ T15 L15 X15 ⟨rfl, N15q, c15, k15, I15, eq15, kb15⟩
  have N15 := Fr.app N14 N15q
  refine GoOn.st (fun t_ k_ => XS.aloadN X15.here hx rfl (hb hby d_prog_29_method_6_70) rfl rfl k_) ?_
  refine GoOn.st (fun t_ k_ => XS.lloadN X15.here hx rfl (hb hby d_prog_29_method_6_71) rfl k_) ?_
  refine GoOn.st (fun t_ k_ => XS.lload X15.here hx rfl (hb hby d_prog_29_method_6_72) rfl k_) ?_
  show GoOn _ _ _ _ (T15.setTop (mkF m 74 #[.val (.ref o1), .val (.long aa0), .second, .val (.long aa1), .second, .val (.long aa2), .second, .val (.long b0), .second, .val (.long b1), .second, .val (.long b2), .second] [(.long b1), (.long aa1), (.ref o1)]))
  refine GoOn.st (fun t_ k_ => XS.lmul X15.here hx rfl (hb hby d_prog_29_method_6_74) rfl k_) ?_
  show GoOn _ _ _ _ (T15.setTop (mkF m 75 #[.val (.ref o1), .val (.long aa0), .second, .val (.long aa1), .second, .val (.long aa2), .second, .val (.long b0), .second, .val (.long b1), .second, .val (.long b2), .second] [(.long (aa1 * b1)), (.ref o1)]))
  refine GoOn.callP (W := 0) (argsL := [(.long (aa1 * b1))]) (rest := []) (a := o1) X15 hx hZ hown (hw _ (List.mem_of_getElem? (i := 60) rfl)) (hw _ (List.mem_of_getElem? (i := 61) rfl)) (Jvm.Kit.selects_private (by decide) (hw _ (List.mem_of_getElem? (i := 1) rfl)) (hw _ (List.mem_of_getElem? (i := 62) rfl)) (hw _ (List.mem_of_getElem? (i := 61) rfl))) (hw _ (List.mem_of_getElem? (i := 62) rfl)) (hw _ (List.mem_of_getElem? (i := 2) rfl)) (hw _ (List.mem_of_getElem? (i := 63) rfl)) (by decide) (rm_atc l Z a0 hw o1 l0 l1 l2 l3 l4 l5 (aa0 * b0) c7 p2 p3 p4 p5 c15 k15 (aa1 * b1) T15.heap n0 g_o1 I15 (by omega)) rfl (own_I_exa I15).cell (by decide) (by decide) (by rw [hml]; rfl) pd_2 rfl rfl (Nat.le_of_eq rfl) (hb hby d_prog_29_method_6_75) (by decide) (by decide) ?_
  rintro _ T16 L16 X16 ⟨rfl, N16q, c16, k16, I16, eq16, kb16⟩
  have N16 := Fr.app N15 N16q
  refine GoOn.st (fun t_ k_ => XS.aloadN X16.here hx rfl (hb hby d_prog_29_method_6_78) rfl rfl k_) ?_
  refine GoOn.st (fun t_ k_ => XS.lload X16.here hx rfl (hb hby d_prog_29_method_6_79) rfl k_) ?_
  refine GoOn.st (fun t_ k_ => XS.lload X16.here hx rfl (hb hby d_prog_29_method_6_81) rfl k_) ?_
  show GoOn _ _ _ _ (T16.setTop (mkF m 83 #[.val (.ref o1), .val (.long aa0), .second, .val (.long aa1), .second, .val (.long aa2), .second, .val (.long b0), .second, .val (.long b1), .second, .val (.long b2), .second] [(.long b0), (.long aa2), (.ref o1)]))
  refine GoOn.st (fun t_ k_ => XS.lmul X16.here hx rfl (hb hby d_prog_29_method_6_83) rfl k_) ?_
  show GoOn _ _ _ _ (T16.setTop (mkF m 84 #[.val (.ref o1), .val (.long aa0), .second, .val (.long aa1), .second, .val (.long aa2), .second, .val (.long b0), .second, .val (.long b1), .second, .val (.long b2), .second] [(.long (aa2 * b0)), (.ref o1)]))
  refine GoOn.callP (W := 0) (argsL := [(.long (aa2 * b0))]) (rest := []) (a := o1) X16 hx hZ hown (hw _ (List.mem_of_getElem? (i := 60) rfl)) (hw _ (List.mem_of_getElem? (i := 61) rfl)) (Jvm.Kit.selects_private (by decide) (hw _ (List.mem_of_getElem? (i := 1) rfl)) (hw _ (List.mem_of_getElem? (i := 62) rfl)) (hw _ (List.mem_of_getElem? (i := 61) rfl))) (hw _ (List.mem_of_getElem? (i := 62) rfl)) (hw _ (List.mem_of_getElem? (i := 2) rfl)) (hw _ (List.mem_of_getElem? (i := 63) rfl)) (by decide) (rm_atc l Z a0 hw o1 l0 l1 l2 l3 l4 l5 (aa0 * b0) c7 p2 p3 p4 p5 c16 k16 (aa2 * b0) T16.heap n0 g_o1 I16 (by omega)) rfl (own_I_exa I16).cell (by decide) (by decide) (by rw [hml]; rfl) pd_2 rfl rfl (Nat.le_of_eq rfl) (hb hby d_prog_29_method_6_84) (by decide) (by decide) ?_
  rintro _ T17 L17 X17 ⟨rfl, N17q, c17, k17, I17, eq17, kb17⟩
  have N17 := Fr.app N16 N17q
  refine GoOn.st (fun t_ k_ => XS.aloadN X17.here hx rfl (hb hby d_prog_29_method_6_87) rfl rfl k_) ?_
  refine GoOn.st (fun t_ k_ => XS.aloadN X17.here hx rfl (hb hby d_prog_29_method_6_88) rfl rfl k_) ?_
  show GoOn _ _ _ _ (T17.setTop (mkF m 89 #[.val (.ref o1), .val (.long aa0), .second, .val (.long aa1), .second, .val (.long aa2), .second, .val (.long b0), .second, .val (.long b1), .second, .val (.long b2), .second] [(.ref o1), (.ref o1)]))
  refine GoOn.callP (W := 1) (argsL := []) (rest := [(.ref o1)]) (a := o1) X17 hx hZ hown (hw _ (List.mem_of_getElem? (i := 69) rfl)) (hw _ (List.mem_of_getElem? (i := 70) rfl)) (Jvm.Kit.selects_private (by decide) (hw _ (List.mem_of_getElem? (i := 1) rfl)) (hw _ (List.mem_of_getElem? (i := 71) rfl)) (hw _ (List.mem_of_getElem? (i := 70) rfl))) (hw _ (List.mem_of_getElem? (i := 71) rfl)) (hw _ (List.mem_of_getElem? (i := 2) rfl)) (hw _ (List.mem_of_getElem? (i := 72) rfl)) (by decide) (rm_nxt l Z a0 hw o1 l0 l1 l2 l3 l4 l5 (aa0 * b0) c7 p2 p3 p4 p5 c17 k17 T17.heap n0 g_o1 I17) rfl (own_I_exa I17).cell (by decide) (by decide) (by rw [hml]; rfl) pd_3 rfl rfl (Nat.le_of_eq rfl) (hb hby d_prog_29_method_6_89) (by decide) (by decide) ?_
  rintro _ T18 L18 X18 ⟨rfl, N18q, I18⟩
  have N18 := Fr.app N17 N18q
  obtain ⟨T19, h19, X19, e19, W19, st19⟩ := putF X18 hx hZ hown (host := "") (Or.inl (hw _ (List.mem_of_getElem? (i := 75) rfl))) Via.refl rfl (own_I_get_product2 I18) (own_I_exa I18) (Or.inl (hw _ (List.mem_of_getElem? (i := 76) rfl))) (hw _ (List.mem_of_getElem? (i := 1) rfl)) (ty := .long) (by decide) rfl rfl (g := (mkF m 92 #[.val (.ref o1), .val (.long aa0), .second, .val (.long aa1), .second, .val (.long aa2), .second, .val (.long b0), .second, .val (.long b1), .second, .val (.long b2), .second] [(.long c17), (.ref o1)])) rfl rfl (hb hby d_prog_29_method_6_92)
  have I19 := own_I_put_product2 hw W19 I18
  have N20 := Fr.snoc X19 N18 g_o1
  refine GoOn.st st19 ?_
  refine GoOn.st (fun t_ k_ => XS.aloadN X19.here hx rfl (hb hby d_prog_29_method_6_95) rfl rfl k_) ?_
  refine GoOn.st (fun t_ k_ => XS.lloadN X19.here hx rfl (hb hby d_prog_29_method_6_96) rfl k_) ?_
  show GoOn _ _ _ _ (T19.setTop (mkF m 97 #[.val (.ref o1), .val (.long aa0), .second, .val (.long aa1), .second, .val (.long aa2), .second, .val (.long b0), .second, .val (.long b1), .second, .val (.long b2), .second] [(.long aa0), (.ref o1)]))
  refine GoOn.st (fun t_ k_ => XS.lload X19.here hx rfl (hb hby d_prog_29_method_6_97) rfl k_) ?_
  show GoOn _ _ _ _ (T19.setTop (mkF m 99 #[.val (.ref o1), .val (.long aa0), .second, .val (.long aa1), .second, .val (.long aa2), .second, .val (.long b0), .second, .val (.long b1), .second, .val (.long b2), .second] [(.long b2), (.long aa0), (.ref o1)]))
  refine GoOn.callS (W := 1) (argsL := [(.long aa0), (.long b2)]) (rest := [(.ref o1)]) X19 hx hZ hown (hw _ (List.mem_of_getElem? (i := 50) rfl)) (hw _ (List.mem_of_getElem? (i := 51) rfl)) (hw _ (List.mem_of_getElem? (i := 40) rfl)) (hw _ (List.mem_of_getElem? (i := 52) rfl)) (by decide) (rm_umulh l Z a0 hw aa0 b2 h19) e19 (by decide) (by decide) (by rw [hml]; rfl) pd_0 rfl rfl (Nat.le_of_eq rfl) (hb hby d_prog_29_method_6_99) (by decide) (by decide) ?_
  rintro _ T21 L21 X21 ⟨rfl, rfl, e21⟩
  rw [List.append_nil] at X21
  show GoOn _ _ _ _ (T21.setTop (mkF m 102 #[.val (.ref o1), .val (.long aa0), .second, .val (.long aa1), .second, .val (.long aa2), .second, .val (.long b0), .second, .val (.long b1), .second, .val (.long b2), .second] [(.long (own_umulh aa0 b2)), (.ref o1)]))
  refine GoOn.callP (W := 0) (argsL := [(.long (own_umulh aa0 b2))]) (rest := []) (a := o1) X21 hx hZ hown (hw _ (List.mem_of_getElem? (i := 60) rfl)) (hw _ (List.mem_of_getElem? (i := 61) rfl)) (Jvm.Kit.selects_private (by decide) (hw _ (List.mem_of_getElem? (i := 1) rfl)) (hw _ (List.mem_of_getElem? (i := 62) rfl)) (hw _ (List.mem_of_getElem? (i := 61) rfl))) (hw _ (List.mem_of_getElem? (i := 62) rfl)) (hw _ (List.mem_of_getElem? (i := 2) rfl)) (hw _ (List.mem_of_getElem? (i := 63) rfl)) (by decide) (rm_atc l Z a0 hw o1 l0 l1 l2 l3 l4 l5 (aa0 * b0) c7 c17 p3 p4 p5 k17 (0 : Int64) (own_umulh aa0 b2) h19 n0 g_o1 I19 (by omega)) e21 (own_I_exa I19).cell (by decide) (by decide) (by rw [hml]; rfl) pd_2 rfl rfl (Nat.le_of_eq rfl) (hb hby d_prog_29_method_6_102) (by decide) (by decide) ?_
  rintro _ T22 L22 X22 ⟨rfl, N22q, c22, k22, I22, eq22, kb22⟩
  have N22 := Fr.app N20 N22q
  refine GoOn.st (fun t_ k_ => XS.aloadN X22.here hx rfl (hb hby d_prog_29_method_6_105) rfl rfl k_) ?_
  refine GoOn.st (fun t_ k_ => XS.lloadN X22.here hx rfl (hb hby d_prog_29_method_6_106) rfl k_) ?_
  refine GoOn.st (fun t_ k_ => XS.lload X22.here hx rfl (hb hby d_prog_29_method_6_107) rfl k_) ?_
  show GoOn _ _ _ _ (T22.setTop (mkF m 109 #[.val (.ref o1), .val (.long aa0), .second, .val (.long aa1), .second, .val (.long aa2), .second, .val (.long b0), .second, .val (.long b1), .second, .val (.long b2), .second] [(.long b1), (.long aa1), (.ref o1)]))
  refine GoOn.callS (W := 1) (argsL := [(.long aa1), (.long b1)]) (rest := [(.ref o1)]) X22 hx hZ hown (hw _ (List.mem_of_getElem? (i := 50) rfl)) (hw _ (List.mem_of_getElem? (i := 51) rfl)) (hw _ (List.mem_of_getElem? (i := 40) rfl)) (hw _ (List.mem_of_getElem? (i := 52) rfl)) (by decide) (rm_umulh l Z a0 hw aa1 b1 T22.heap) rfl (by decide) (by decide) (by rw [hml]; rfl) pd_0 rfl rfl (Nat.le_of_eq rfl) (hb hby d_prog_29_method_6_109) (by decide) (by decide) ?_
  rintro _ T23 L23 X23 ⟨rfl, rfl, e23⟩
  rw [List.append_nil] at X23
  show GoOn _ _ _ _ (T23.setTop (mkF m 112 #[.val (.ref o1), .val (.long aa0), .second, .val (.long aa1), .second, .val (.long aa2), .second, .val (.long b0), .second, .val (.long b1), .second, .val (.long b2), .second] [(.long (own_umulh aa1 b1)), (.ref o1)]))
  refine GoOn.callP (W := 0) (argsL := [(.long (own_umulh aa1 b1))]) (rest := []) (a := o1) X23 hx hZ hown (hw _ (List.mem_of_getElem? (i := 60) rfl)) (hw _ (List.mem_of_getElem? (i := 61) rfl)) (Jvm.Kit.selects_private (by decide) (hw _ (List.mem_of_getElem? (i := 1) rfl)) (hw _ (List.mem_of_getElem? (i := 62) rfl)) (hw _ (List.mem_of_getElem? (i := 61) rfl))) (hw _ (List.mem_of_getElem? (i := 62) rfl)) (hw _ (List.mem_of_getElem? (i := 2) rfl)) (hw _ (List.mem_of_getElem? (i := 63) rfl)) (by decide) (rm_atc l Z a0 hw o1 l0 l1 l2 l3 l4 l5 (aa0 * b0) c7 c17 p3 p4 p5 c22 k22 (own_umulh aa1 b1) T22.heap n0 g_o1 I22 (by omega)) e23 (own_I_exa I22).cell (by decide) (by decide) (by rw [hml]; rfl) pd_2 rfl rfl (Nat.le_of_eq rfl) (hb hby d_prog_29_method_6_112) (by decide) (by decide) ?_
  rintro _ T24 L24 X24 ⟨rfl, N24q, c24, k24, I24, eq24, kb24⟩
  have N24 := Fr.app N22 N24q
  refine GoOn.st (fun t_ k_ => XS.aloadN X24.here hx rfl (hb hby d_prog_29_method_6_115) rfl rfl k_) ?_
  refine GoOn.st (fun t_ k_ => XS.lload X24.here hx rfl (hb hby d_prog_29_method_6_116) rfl k_) ?_
  refine GoOn.st (fun t_ k_ => XS.lload X24.here hx rfl (hb hby d_prog_29_method_6_118) rfl k_) ?_
  show GoOn _ _ _ _ (T24.setTop (mkF m 120 #[.val (.ref o1), .val (.long aa0), .second, .val (.long aa1), .second, .val (.long aa2), .second, .val (.long b0), .second, .val (.long b1), .second, .val (.long b2), .second] [(.long b0), (.long aa2), (.ref o1)]))
  refine GoOn.callS (W := 1) (argsL := [(.long aa2), (.long b0)]) (rest := [(.ref o1)]) X24 hx hZ hown (hw _ (List.mem_of_getElem? (i := 50) rfl)) (hw _ (List.mem_of_getElem? (i := 51) rfl)) (hw _ (List.mem_of_getElem? (i := 40) rfl)) (hw _ (List.mem_of_getElem? (i := 52) rfl)) (by decide) (rm_umulh l Z a0 hw aa2 b0 T24.heap) rfl (by decide) (by decide) (by rw [hml]; rfl) pd_0 rfl rfl (Nat.le_of_eq rfl) (hb hby d_prog_29_method_6_120) (by decide) (by decide) ?_
  rintro _ T25 L25 X25 ⟨rfl, rfl, e25⟩
  rw [List.append_nil] at X25
  show GoOn _ _ _ _ (T25.setTop (mkF m 123 #[.val (.ref o1), .val (.long aa0), .second, .val (.long aa1), .second, .val (.long aa2), .second, .val (.long b0), .second, .val (.long b1), .second, .val (.long b2), .second] [(.long (own_umulh aa2 b0)), (.ref o1)]))
  refine GoOn.callP (W := 0) (argsL := [(.long (own_umulh aa2 b0))]) (rest := []) (a := o1) X25 hx hZ hown (hw _ (List.mem_of_getElem? (i := 60) rfl)) (hw _ (List.mem_of_getElem? (i := 61) rfl)) (Jvm.Kit.selects_private (by decide) (hw _ (List.mem_of_getElem? (i := 1) rfl)) (hw _ (List.mem_of_getElem? (i := 62) rfl)) (hw _ (List.mem_of_getElem? (i := 61) rfl))) (hw _ (List.mem_of_getElem? (i := 62) rfl)) (hw _ (List.mem_of_getElem? (i := 2) rfl)) (hw _ (List.mem_of_getElem? (i := 63) rfl)) (by decide) (rm_atc l Z a0 hw o1 l0 l1 l2 l3 l4 l5 (aa0 * b0) c7 c17 p3 p4 p5 c24 k24 (own_umulh aa2 b0) T24.heap n0 g_o1 I24 (by omega)) e25 (own_I_exa I24).cell (by decide) (by decide) (by rw [hml]; rfl) pd_2 rfl rfl (Nat.le_of_eq rfl) (hb hby d_prog_29_method_6_123) (by decide) (by decide) ?_
  rintro _ T26 L26 X26 ⟨rfl, N26q, c26, k26, I26, eq26, kb26⟩
  have N26 := Fr.app N24 N26q
  refine GoOn.st (fun t_ k_ => XS.aloadN X26.here hx rfl (hb hby d_prog_29_method_6_126) rfl rfl k_) ?_
  refine GoOn.st (fun t_ k_ => XS.lloadN X26.here hx rfl (hb hby d_prog_29_method_6_127) rfl k_) ?_
  refine GoOn.st (fun t_ k_ => XS.lload X26.here hx rfl (hb hby d_prog_29_method_6_128) rfl k_) ?_
  show GoOn _ _ _ _ (T26.setTop (mkF m 130 #[.val (.ref o1), .val (.long aa0), .second, .val (.long aa1), .second, .val (.long aa2), .second, .val (.long b0), .second, .val (.long b1), .second, .val (.long b2), .second] [(.long b2), (.long aa1), (.ref o1)]))
  refine GoOn.st (fun t_ k_ => XS.lmul X26.here hx rfl (hb hby d_prog_29_method_6_130) rfl k_) ?_
  show GoOn _ _ _ _ (T26.setTop (mkF m 131 #[.val (.ref o1), .val (.long aa0), .second, .val (.long aa1), .second, .val (.long aa2), .second, .val (.long b0), .second, .val (.long b1), .second, .val (.long b2), .second] [(.long (aa1 * b2)), (.ref o1)]))
  refine GoOn.callP (W := 0) (argsL := [(.long (aa1 * b2))]) (rest := []) (a := o1) X26 hx hZ hown (hw _ (List.mem_of_getElem? (i := 60) rfl)) (hw _ (List.mem_of_getElem? (i := 61) rfl)) (Jvm.Kit.selects_private (by decide) (hw _ (List.mem_of_getElem? (i := 1) rfl)) (hw _ (List.mem_of_getElem? (i := 62) rfl)) (hw _ (List.mem_of_getElem? (i := 61) rfl))) (hw _ (List.mem_of_getElem? (i := 62) rfl)) (hw _ (List.mem_of_getElem? (i := 2) rfl)) (hw _ (List.mem_of_getElem? (i := 63) rfl)) (by decide) (rm_atc l Z a0 hw o1 l0 l1 l2 l3 l4 l5 (aa0 * b0) c7 c17 p3 p4 p5 c26 k26 (aa1 * b2) T26.heap n0 g_o1 I26 (by omega)) rfl (own_I_exa I26).cell (by decide) (by decide) (by rw [hml]; rfl) pd_2 rfl rfl (Nat.le_of_eq rfl) (hb hby d_prog_29_method_6_131) (by decide) (by decide) ?_
  rintro _ T27 L27 X27 ⟨rfl, N27q, c27, k27, I27, eq27, kb27⟩
  have N27 := Fr.app N26 N27q
  refine GoOn.st (fun t_ k_ => XS.aloadN X27.here hx rfl (hb hby d_prog_29_method_6_134) rfl rfl k_) ?_
  refine GoOn.st (fun t_ k_ => XS.lload X27.here hx rfl (hb hby d_prog_29_method_6_135) rfl k_) ?_
  refine GoOn.st (fun t_ k_ => XS.lload X27.here hx rfl (hb hby d_prog_29_method_6_137) rfl k_) ?_
  show GoOn _ _ _ _ (T27.setTop (mkF m 139 #[.val (.ref o1), .val (.long aa0), .second, .val (.long aa1), .second, .val (.long aa2), .second, .val (.long b0), .second, .val (.long b1), .second, .val (.long b2), .second] [(.long b1), (.long aa2), (.ref o1)]))
  refine GoOn.st (fun t_ k_ => XS.lmul X27.here hx rfl (hb hby d_prog_29_method_6_139) rfl k_) ?_
  show GoOn _ _ _ _ (T27.setTop (mkF m 140 #[.val (.ref o1), .val (.long aa0), .second, .val (.long aa1), .second, .val (.long aa2), .second, .val (.long b0), .second, .val (.long b1), .second, .val (.long b2), .second] [(.long (aa2 * b1)), (.ref o1)]))
  refine GoOn.callP (W := 0) (argsL := [(.long (aa2 * b1))]) (rest := []) (a := o1) X27 hx hZ hown (hw _ (List.mem_of_getElem? (i := 60) rfl)) (hw _ (List.mem_of_getElem? (i := 61) rfl)) (Jvm.Kit.selects_private (by decide) (hw _ (List.mem_of_getElem? (i := 1) rfl)) (hw _ (List.mem_of_getElem? (i := 62) rfl)) (hw _ (List.mem_of_getElem? (i := 61) rfl))) (hw _ (List.mem_of_getElem? (i := 62) rfl)) (hw _ (List.mem_of_getElem? (i := 2) rfl)) (hw _ (List.mem_of_getElem? (i := 63) rfl)) (by decide) (rm_atc l Z a0 hw o1 l0 l1 l2 l3 l4 l5 (aa0 * b0) c7 c17 p3 p4 p5 c27 k27 (aa2 * b1) T27.heap n0 g_o1 I27 (by omega)) rfl (own_I_exa I27).cell (by decide) (by decide) (by rw [hml]; rfl) pd_2 rfl rfl (Nat.le_of_eq rfl) (hb hby d_prog_29_method_6_140) (by decide) (by decide) ?_
  rintro _ T28 L28 X28 ⟨rfl, N28q, c28, k28, I28, eq28, kb28⟩
  have N28 := Fr.app N27 N28q
  refine GoOn.st (fun t_ k_ => XS.aloadN X28.here hx rfl (hb hby d_prog_29_method_6_143) rfl rfl k_) ?_
  refine GoOn.st (fun t_ k_ => XS.aloadN X28.here hx rfl (hb hby d_prog_29_method_6_144) rfl rfl k_) ?_
  show GoOn _ _ _ _ (T28.setTop (mkF m 145 #[.val (.ref o1), .val (.long aa0), .second, .val (.long aa1), .second, .val (.long aa2), .second, .val (.long b0), .second, .val (.long b1), .second, .val (.long b2), .second] [(.ref o1), (.ref o1)]))
  refine GoOn.callP (W := 1) (argsL := []) (rest := [(.ref o1)]) (a := o1) X28 hx hZ hown (hw _ (List.mem_of_getElem? (i := 69) rfl)) (hw _ (List.mem_of_getElem? (i := 70) rfl)) (Jvm.Kit.selects_private (by decide) (hw _ (List.mem_of_getElem? (i := 1) rfl)) (hw _ (List.mem_of_getElem? (i := 71) rfl)) (hw _ (List.mem_of_getElem? (i := 70) rfl))) (hw _ (List.mem_of_getElem? (i := 71) rfl)) (hw _ (List.mem_of_getElem? (i := 2) rfl)) (hw _ (List.mem_of_getElem? (i := 72) rfl)) (by decide) (rm_nxt l Z a0 hw o1 l0 l1 l2 l3 l4 l5 (aa0 * b0) c7 c17 p3 p4 p5 c28 k28 T28.heap n0 g_o1 I28) rfl (own_I_exa I28).cell (by decide) (by decide) (by rw [hml]; rfl) pd_3 rfl rfl (Nat.le_of_eq rfl) (hb hby d_prog_29_method_6_145) (by decide) (by decide) ?_
  rintro _ T29 L29 X29 ⟨rfl, N29q, I29⟩
  have N29 := Fr.app N28 N29q
  obtain ⟨T30, h30, X30, e30, W30, st30⟩ := putF X29 hx hZ hown (host := "") (Or.inl (hw _ (List.mem_of_getElem? (i := 77) rfl))) Via.refl rfl (own_I_get_product3 I29) (own_I_exa I29) (Or.inl (hw _ (List.mem_of_getElem? (i := 78) rfl))) (hw _ (List.mem_of_getElem? (i := 1) rfl)) (ty := .long) (by decide) rfl rfl (g := (mkF m 148 #[.val (.ref o1), .val (.long aa0), .second, .val (.long aa1), .second, .val (.long aa2), .second, .val (.long b0), .second, .val (.long b1), .second, .val (.long b2), .second] [(.long c28), (.ref o1)])) rfl rfl (hb hby d_prog_29_method_6_148)
  have I30 := own_I_put_product3 hw W30 I29
  have N31 := Fr.snoc X30 N29 g_o1
  refine GoOn.st st30 ?_
  refine GoOn.st (fun t_ k_ => XS.aloadN X30.here hx rfl (hb hby d_prog_29_method_6_151) rfl rfl k_) ?_
  refine GoOn.st (fun t_ k_ => XS.lloadN X30.here hx rfl (hb hby d_prog_29_method_6_152) rfl k_) ?_
  show GoOn _ _ _ _ (T30.setTop (mkF m 153 #[.val (.ref o1), .val (.long aa0), .second, .val (.long aa1), .second, .val (.long aa2), .second, .val (.long b0), .second, .val (.long b1), .second, .val (.long b2), .second] [(.long aa1), (.ref o1)]))
  refine GoOn.st (fun t_ k_ => XS.lload X30.here hx rfl (hb hby d_prog_29_method_6_153) rfl k_) ?_
  show GoOn _ _ _ _ (T30.setTop (mkF m 155 #[.val (.ref o1), .val (.long aa0), .second, .val (.long aa1), .second, .val (.long aa2), .second, .val (.long b0), .second, .val (.long b1), .second, .val (.long b2), .second] [(.long b2), (.long aa1), (.ref o1)]))
  refine GoOn.callS (W := 1) (argsL := [(.long aa1), (.long b2)]) (rest := [(.ref o1)]) X30 hx hZ hown (hw _ (List.mem_of_getElem? (i := 50) rfl)) (hw _ (List.mem_of_getElem? (i := 51) rfl)) (hw _ (List.mem_of_getElem? (i := 40) rfl)) (hw _ (List.mem_of_getElem? (i := 52) rfl)) (by decide) (rm_umulh l Z a0 hw aa1 b2 h30) e30 (by decide) (by decide) (by rw [hml]; rfl) pd_0 rfl rfl (Nat.le_of_eq rfl) (hb hby d_prog_29_method_6_155) (by decide) (by decide) ?_
  rintro _ T32 L32 X32 ⟨rfl, rfl, e32⟩
  rw [List.append_nil] at X32
  show GoOn _ _ _ _ (T32.setTop (mkF m 158 #[.val (.ref o1), .val (.long aa0), .second, .val (.long aa1), .second, .val (.long aa2), .second, .val (.long b0), .second, .val (.long b1), .second, .val (.long b2), .second] [(.long (own_umulh aa1 b2)), (.ref o1)]))
  refine GoOn.callP (W := 0) (argsL := [(.long (own_umulh aa1 b2))]) (rest := []) (a := o1) X32 hx hZ hown (hw _ (List.mem_of_getElem? (i := 60) rfl)) (hw _ (List.mem_of_getElem? (i := 61) rfl)) (Jvm.Kit.selects_private (by decide) (hw _ (List.mem_of_getElem? (i := 1) rfl)) (hw _ (List.mem_of_getElem? (i := 62) rfl)) (hw _ (List.mem_of_getElem? (i := 61) rfl))) (hw _ (List.mem_of_getElem? (i := 62) rfl)) (hw _ (List.mem_of_getElem? (i := 2) rfl)) (hw _ (List.mem_of_getElem? (i := 63) rfl)) (by decide) (rm_atc l Z a0 hw o1 l0 l1 l2 l3 l4 l5 (aa0 * b0) c7 c17 c28 p4 p5 k28 (0 : Int64) (own_umulh aa1 b2) h30 n0 g_o1 I30 (by omega)) e32 (own_I_exa I30).cell (by decide) (by decide) (by rw [hml]; rfl) pd_2 rfl rfl (Nat.le_of_eq rfl) (hb hby d_prog_29_method_6_158) (by decide) (by decide) ?_
  rintro _ T33 L33 X33 ⟨rfl, N33q, c33, k33, I33, eq33, kb33⟩
  have N33 := Fr.app N31 N33q
  refine GoOn.st (fun t_ k_ => XS.aloadN X33.here hx rfl (hb hby d_prog_29_method_6_161) rfl rfl k_) ?_
  refine GoOn.st (fun t_ k_ => XS.lload X33.here hx rfl (hb hby d_prog_29_method_6_162) rfl k_) ?_
  refine GoOn.st (fun t_ k_ => XS.lload X33.here hx rfl (hb hby d_prog_29_method_6_164) rfl k_) ?_
  show GoOn _ _ _ _ (T33.setTop (mkF m 166 #[.val (.ref o1), .val (.long aa0), .second, .val (.long aa1), .second, .val (.long aa2), .second, .val (.long b0), .second, .val (.long b1), .second, .val (.long b2), .second] [(.long b1), (.long aa2), (.ref o1)]))
  refine GoOn.callS (W := 1) (argsL := [(.long aa2), (.long b1)]) (rest := [(.ref o1)]) X33 hx hZ hown (hw _ (List.mem_of_getElem? (i := 50) rfl)) (hw _ (List.mem_of_getElem? (i := 51) rfl)) (hw _ (List.mem_of_getElem? (i := 40) rfl)) (hw _ (List.mem_of_getElem? (i := 52) rfl)) (by decide) (rm_umulh l Z a0 hw aa2 b1 T33.heap) rfl (by decide) (by decide) (by rw [hml]; rfl) pd_0 rfl rfl (Nat.le_of_eq rfl) (hb hby d_prog_29_method_6_166) (by decide) (by decide) ?_
  rintro _ T34 L34 X34 ⟨rfl, rfl, e34⟩
  rw [List.append_nil] at X34
  show GoOn _ _ _ _ (T34.setTop (mkF m 169 #[.val (.ref o1), .val (.long aa0), .second, .val (.long aa1), .second, .val (.long aa2), .second, .val (.long b0), .second, .val (.long b1), .second, .val (.long b2), .second] [(.long (own_umulh aa2 b1)), (.ref o1)]))
  refine GoOn.callP (W := 0) (argsL := [(.long (own_umulh aa2 b1))]) (rest := []) (a := o1) X34 hx hZ hown (hw _ (List.mem_of_getElem? (i := 60) rfl)) (hw _ (List.mem_of_getElem? (i := 61) rfl)) (Jvm.Kit.selects_private (by decide) (hw _ (List.mem_of_getElem? (i := 1) rfl)) (hw _ (List.mem_of_getElem? (i := 62) rfl)) (hw _ (List.mem_of_getElem? (i := 61) rfl))) (hw _ (List.mem_of_getElem? (i := 62) rfl)) (hw _ (List.mem_of_getElem? (i := 2) rfl)) (hw _ (List.mem_of_getElem? (i := 63) rfl)) (by decide) (rm_atc l Z a0 hw o1 l0 l1 l2 l3 l4 l5 (aa0 * b0) c7 c17 c28 p4 p5 c33 k33 (own_umulh aa2 b1) T33.heap n0 g_o1 I33 (by omega)) e34 (own_I_exa I33).cell (by decide) (by decide) (by rw [hml]; rfl) pd_2 rfl rfl (Nat.le_of_eq rfl) (hb hby d_prog_29_method_6_169) (by decide) (by decide) ?_
  rintro _ T35 L35 X35 ⟨rfl, N35q, c35, k35, I35, eq35, kb35⟩
  have N35 := Fr.app N33 N35q
  refine GoOn.st (fun t_ k_ => XS.aloadN X35.here hx rfl (hb hby d_prog_29_method_6_172) rfl rfl k_) ?_
  refine GoOn.st (fun t_ k_ => XS.lload X35.here hx rfl (hb hby d_prog_29_method_6_173) rfl k_) ?_
  refine GoOn.st (fun t_ k_ => XS.lload X35.here hx rfl (hb hby d_prog_29_method_6_175) rfl k_) ?_
  show GoOn _ _ _ _ (T35.setTop (mkF m 177 #[.val (.ref o1), .val (.long aa0), .second, .val (.long aa1), .second, .val (.long aa2), .second, .val (.long b0), .second, .val (.long b1), .second, .val (.long b2), .second] [(.long b2), (.long aa2), (.ref o1)]))
  refine GoOn.st (fun t_ k_ => XS.lmul X35.here hx rfl (hb hby d_prog_29_method_6_177) rfl k_) ?_
  show GoOn _ _ _ _ (T35.setTop (mkF m 178 #[.val (.ref o1), .val (.long aa0), .second, .val (.long aa1), .second, .val (.long aa2), .second, .val (.long b0), .second, .val (.long b1), .second, .val (.long b2), .second] [(.long (aa2 * b2)), (.ref o1)]))
  refine GoOn.callP (W := 0) (argsL := [(.long (aa2 * b2))]) (rest := []) (a := o1) X35 hx hZ hown (hw _ (List.mem_of_getElem? (i := 60) rfl)) (hw _ (List.mem_of_getElem? (i := 61) rfl)) (Jvm.Kit.selects_private (by decide) (hw _ (List.mem_of_getElem? (i := 1) rfl)) (hw _ (List.mem_of_getElem? (i := 62) rfl)) (hw _ (List.mem_of_getElem? (i := 61) rfl))) (hw _ (List.mem_of_getElem? (i := 62) rfl)) (hw _ (List.mem_of_getElem? (i := 2) rfl)) (hw _ (List.mem_of_getElem? (i := 63) rfl)) (by decide) (rm_atc l Z a0 hw o1 l0 l1 l2 l3 l4 l5 (aa0 * b0) c7 c17 c28 p4 p5 c35 k35 (aa2 * b2) T35.heap n0 g_o1 I35 (by omega)) rfl (own_I_exa I35).cell (by decide) (by decide) (by rw [hml]; rfl) pd_2 rfl rfl (Nat.le_of_eq rfl) (hb hby d_prog_29_method_6_178) (by decide) (by decide) ?_
  rintro _ T36 L36 X36 ⟨rfl, N36q, c36, k36, I36, eq36, kb36⟩
  have N36 := Fr.app N35 N36q
  refine GoOn.st (fun t_ k_ => XS.aloadN X36.here hx rfl (hb hby d_prog_29_method_6_181) rfl rfl k_) ?_
  refine GoOn.st (fun t_ k_ => XS.aloadN X36.here hx rfl (hb hby d_prog_29_method_6_182) rfl rfl k_) ?_
  show GoOn _ _ _ _ (T36.setTop (mkF m 183 #[.val (.ref o1), .val (.long aa0), .second, .val (.long aa1), .second, .val (.long aa2), .second, .val (.long b0), .second, .val (.long b1), .second, .val (.long b2), .second] [(.ref o1), (.ref o1)]))
  refine GoOn.callP (W := 1) (argsL := []) (rest := [(.ref o1)]) (a := o1) X36 hx hZ hown (hw _ (List.mem_of_getElem? (i := 69) rfl)) (hw _ (List.mem_of_getElem? (i := 70) rfl)) (Jvm.Kit.selects_private (by decide) (hw _ (List.mem_of_getElem? (i := 1) rfl)) (hw _ (List.mem_of_getElem? (i := 71) rfl)) (hw _ (List.mem_of_getElem? (i := 70) rfl))) (hw _ (List.mem_of_getElem? (i := 71) rfl)) (hw _ (List.mem_of_getElem? (i := 2) rfl)) (hw _ (List.mem_of_getElem? (i := 72) rfl)) (by decide) (rm_nxt l Z a0 hw o1 l0 l1 l2 l3 l4 l5 (aa0 * b0) c7 c17 c28 p4 p5 c36 k36 T36.heap n0 g_o1 I36) rfl (own_I_exa I36).cell (by decide) (by decide) (by rw [hml]; rfl) pd_3 rfl rfl (Nat.le_of_eq rfl) (hb hby d_prog_29_method_6_183) (by decide) (by decide) ?_
  rintro _ T37 L37 X37 ⟨rfl, N37q, I37⟩
  have N37 := Fr.app N36 N37q
  obtain ⟨T38, h38, X38, e38, W38, st38⟩ := putF X37 hx hZ hown (host := "") (Or.inl (hw _ (List.mem_of_getElem? (i := 79) rfl))) Via.refl rfl (own_I_get_product4 I37) (own_I_exa I37) (Or.inl (hw _ (List.mem_of_getElem? (i := 80) rfl))) (hw _ (List.mem_of_getElem? (i := 1) rfl)) (ty := .long) (by decide) rfl rfl (g := (mkF m 186 #[.val (.ref o1), .val (.long aa0), .second, .val (.long aa1), .second, .val (.long aa2), .second, .val (.long b0), .second, .val (.long b1), .second, .val (.long b2), .second] [(.long c36), (.ref o1)])) rfl rfl (hb hby d_prog_29_method_6_186)
  have I38 := own_I_put_product4 hw W38 I37
  have N39 := Fr.snoc X38 N37 g_o1
  refine GoOn.st st38 ?_
  refine GoOn.st (fun t_ k_ => XS.aloadN X38.here hx rfl (hb hby d_prog_29_method_6_189) rfl rfl k_) ?_
  refine GoOn.st (fun t_ k_ => XS.aloadN X38.here hx rfl (hb hby d_prog_29_method_6_190) rfl rfl k_) ?_
  show GoOn _ _ _ _ (T38.setTop (mkF m 191 #[.val (.ref o1), .val (.long aa0), .second, .val (.long aa1), .second, .val (.long aa2), .second, .val (.long b0), .second, .val (.long b1), .second, .val (.long b2), .second] [(.ref o1), (.ref o1)]))
  refine GoOn.st (fun t_ k_ => XS.lload X38.here hx rfl (hb hby d_prog_29_method_6_191) rfl k_) ?_
  refine GoOn.st (fun t_ k_ => XS.lload X38.here hx rfl (hb hby d_prog_29_method_6_193) rfl k_) ?_
  show GoOn _ _ _ _ (T38.setTop (mkF m 195 #[.val (.ref o1), .val (.long aa0), .second, .val (.long aa1), .second, .val (.long aa2), .second, .val (.long b0), .second, .val (.long b1), .second, .val (.long b2), .second] [(.long b2), (.long aa2), (.ref o1), (.ref o1)]))
  refine GoOn.callS (W := 2) (argsL := [(.long aa2), (.long b2)]) (rest := [(.ref o1), (.ref o1)]) X38 hx hZ hown (hw _ (List.mem_of_getElem? (i := 81) rfl)) (hw _ (List.mem_of_getElem? (i := 54) rfl)) (hw _ (List.mem_of_getElem? (i := 55) rfl)) (hw _ (List.mem_of_getElem? (i := 56) rfl)) (by decide) (rm_mulh l Z a0 hw aa2 b2 h38) e38 (by decide) (by decide) (by rw [hml]; rfl) pd_0 rfl rfl (Nat.le_of_eq rfl) (hb hby d_prog_29_method_6_195) (by decide) (by decide) ?_
  rintro _ T40 L40 X40 ⟨rfl, rfl, e40⟩
  rw [List.append_nil] at X40
  show GoOn _ _ _ _ (T40.setTop (mkF m 198 #[.val (.ref o1), .val (.long aa0), .second, .val (.long aa1), .second, .val (.long aa2), .second, .val (.long b0), .second, .val (.long b1), .second, .val (.long b2), .second] [(.long (own_mulh aa2 b2)), (.ref o1), (.ref o1)]))
  refine GoOn.callP (W := 1) (argsL := [(.long (own_mulh aa2 b2))]) (rest := [(.ref o1)]) (a := o1) X40 hx hZ hown (hw _ (List.mem_of_getElem? (i := 82) rfl)) (hw _ (List.mem_of_getElem? (i := 83) rfl)) (Jvm.Kit.selects_private (by decide) (hw _ (List.mem_of_getElem? (i := 1) rfl)) (hw _ (List.mem_of_getElem? (i := 84) rfl)) (hw _ (List.mem_of_getElem? (i := 83) rfl))) (hw _ (List.mem_of_getElem? (i := 84) rfl)) (hw _ (List.mem_of_getElem? (i := 2) rfl)) (hw _ (List.mem_of_getElem? (i := 85) rfl)) (by decide) (rm_lst l Z a0 hw o1 l0 l1 l2 l3 l4 l5 (aa0 * b0) c7 c17 c28 c36 p5 k36 (0 : Int64) (own_mulh aa2 b2) h38 I38) e40 (own_I_exa I38).cell (by decide) (by decide) (by rw [hml]; rfl) pd_4 rfl rfl (Nat.le_of_eq rfl) (hb hby d_prog_29_method_6_198) (by decide) (by decide) ?_
  rintro _ T41 L41 X41 ⟨rfl, rfl, e41⟩
  rw [List.append_nil] at X41
  obtain ⟨T42, h42, X42, e42, W42, st42⟩ := putF X41 hx hZ hown (host := "") (Or.inl (hw _ (List.mem_of_getElem? (i := 86) rfl))) Via.refl e41 (own_I_get_product5 I38) (own_I_exa I38) (Or.inl (hw _ (List.mem_of_getElem? (i := 87) rfl))) (hw _ (List.mem_of_getElem? (i := 1) rfl)) (ty := .long) (by decide) rfl rfl (g := (mkF m 201 #[.val (.ref o1), .val (.long aa0), .second, .val (.long aa1), .second, .val (.long aa2), .second, .val (.long b0), .second, .val (.long b1), .second, .val (.long b2), .second] [(.long (k36 + (own_mulh aa2 b2))), (.ref o1)])) rfl rfl (hb hby d_prog_29_method_6_201)
  have I42 := own_I_put_product5 hw W42 I38
  have N43 := Fr.snoc X42 N39 g_o1
  refine GoOn.st st42 ?_
  show GoOn _ _ _ _ (T42.setTop (mkF m 204 #[.val (.ref o1), .val (.long aa0), .second, .val (.long aa1), .second, .val (.long aa2), .second, .val (.long b0), .second, .val (.long b1), .second, .val (.long b2), .second] []))
  have hfin : own_P6 (aa0 * b0) c7 c17 c28 c36 (k36 + (own_mulh aa2 b2)) = own_V3 aa0 aa1 aa2 * own_V3 b0 b1 b2 := by
    rw [own_exp33]; unfold own_P6
    have q00 := own_lohi aa0 b0
    have m00 := own_mul_bd4 aa0 b0
    have q01 := own_lohi aa0 b1
    have m01 := own_mul_bd4 aa0 b1
    have q02 := own_lohi aa0 b2
    have m02 := own_mul_bd4 aa0 b2
    have q10 := own_lohi aa1 b0
    have m10 := own_mul_bd4 aa1 b0
    have q11 := own_lohi aa1 b1
    have m11 := own_mul_bd4 aa1 b1
    have q12 := own_lohi aa1 b2
    have m12 := own_mul_bd4 aa1 b2
    have q20 := own_lohi aa2 b0
    have m20 := own_mul_bd5 b0 ha
    have q21 := own_lohi aa2 b1
    have m21 := own_mul_bd5 b1 ha
    have q22 := own_mulh_pos ha hbb
    have m22 := own_mul_bd5 b2 ha
    have r := own_U_add k36 (own_mulh aa2 b2)
    generalize own_U aa0 * own_U b0 = x00 at *
    generalize own_U aa0 * own_U b1 = x01 at *
    generalize own_U aa0 * own_U b2 = x02 at *
    generalize own_U aa1 * own_U b0 = x10 at *
    generalize own_U aa1 * own_U b1 = x11 at *
    generalize own_U aa1 * own_U b2 = x12 at *
    generalize own_U aa2 * own_U b0 = x20 at *
    generalize own_U aa2 * own_U b1 = x21 at *
    generalize own_U aa2 * own_U b2 = x22 at *
    omega
  exact GoOn.retV X42 hx hlk hret (hb hby d_prog_29_method_6_204) (by rw [e42]; exact ⟨rfl, N43, _, _, _, _, _, _, _, I42, hfin⟩) (by decide) (by decide)
theorem d_prog_29_method_5_142 : decode prog_29_method_5_code 142 = .ok (.lload 21, 2) := by decide +kernel
theorem d_prog_29_method_5_144 : decode prog_29_method_5_code 144 = .ok (.lload 23, 2) := by decide +kernel
theorem d_prog_29_method_5_146 : decode prog_29_method_5_code 146 = .ok (.lor, 1) := by decide +kernel
theorem d_prog_29_method_5_147 : decode prog_29_method_5_code 147 = .ok (.lconst 0, 1) := by decide +kernel
theorem d_prog_29_method_5_148 : decode prog_29_method_5_code 148 = .ok (.lcmp, 1) := by decide +kernel
theorem d_prog_29_method_5_149 : decode prog_29_method_5_code 149 = .ok (.ifCond .ne 18, 3) := by decide +kernel
theorem d_prog_29_method_5_167 : decode prog_29_method_5_code 167 = .ok (.lload 15, 2) := by decide +kernel
theorem d_prog_29_method_5_169 : decode prog_29_method_5_code 169 = .ok (.lload 17, 2) := by decide +kernel
theorem d_prog_29_method_5_171 : decode prog_29_method_5_code 171 = .ok (.lor, 1) := by decide +kernel
theorem d_prog_29_method_5_172 : decode prog_29_method_5_code 172 = .ok (.lconst 0, 1) := by decide +kernel
theorem d_prog_29_method_5_173 : decode prog_29_method_5_code 173 = .ok (.lcmp, 1) := by decide +kernel
theorem d_prog_29_method_5_174 : decode prog_29_method_5_code 174 = .ok (.ifCond .ne 18, 3) := by decide +kernel
theorem d_prog_29_method_5_177 : decode prog_29_method_5_code 177 = .ok (.aload_n 0, 1) := by decide +kernel
theorem d_prog_29_method_5_178 : decode prog_29_method_5_code 178 = .ok (.lload 19, 2) := by decide +kernel
theorem d_prog_29_method_5_180 : decode prog_29_method_5_code 180 = .ok (.lload 21, 2) := by decide +kernel
theorem d_prog_29_method_5_182 : decode prog_29_method_5_code 182 = .ok (.lload 23, 2) := by decide +kernel
theorem d_prog_29_method_5_184 : decode prog_29_method_5_code 184 = .ok (.lload 13, 2) := by decide +kernel
theorem pd_5 : parseMethodDescriptor "(JJJJ)V" = some ⟨[.long, .long, .long, .long], none⟩ := by decide +kernel
theorem d_prog_29_method_5_186 : decode prog_29_method_5_code 186 = .ok (.invokevirtual 44, 3) := by decide +kernel
theorem d_prog_29_method_5_189 : decode prog_29_method_5_code 189 = .ok (.goto 92, 3) := by decide +kernel
theorem d_prog_29_method_5_281 : decode prog_29_method_5_code 281 = .ok (.return_, 1) := by decide +kernel
theorem d_prog_29_method_5_192 : decode prog_29_method_5_code 192 = .ok (.lload 17, 2) := by decide +kernel
theorem d_prog_29_method_5_194 : decode prog_29_method_5_code 194 = .ok (.lload 23, 2) := by decide +kernel
theorem d_prog_29_method_5_196 : decode prog_29_method_5_code 196 = .ok (.lor, 1) := by decide +kernel
theorem d_prog_29_method_5_197 : decode prog_29_method_5_code 197 = .ok (.lconst 0, 1) := by decide +kernel
theorem d_prog_29_method_5_198 : decode prog_29_method_5_code 198 = .ok (.lcmp, 1) := by decide +kernel
theorem d_prog_29_method_5_199 : decode prog_29_method_5_code 199 = .ok (.ifCond .ne 18, 3) := by decide +kernel
theorem d_prog_29_method_5_217 : decode prog_29_method_5_code 217 = .ok (.lload 23, 2) := by decide +kernel
theorem d_prog_29_method_5_219 : decode prog_29_method_5_code 219 = .ok (.lconst 0, 1) := by decide +kernel
theorem d_prog_29_method_5_220 : decode prog_29_method_5_code 220 = .ok (.lcmp, 1) := by decide +kernel
theorem d_prog_29_method_5_221 : decode prog_29_method_5_code 221 = .ok (.ifCond .ne 20, 3) := by decide +kernel
theorem d_prog_29_method_5_241 : decode prog_29_method_5_code 241 = .ok (.lload 17, 2) := by decide +kernel
theorem d_prog_29_method_5_243 : decode prog_29_method_5_code 243 = .ok (.lconst 0, 1) := by decide +kernel
theorem d_prog_29_method_5_244 : decode prog_29_method_5_code 244 = .ok (.lcmp, 1) := by decide +kernel
theorem d_prog_29_method_5_245 : decode prog_29_method_5_code 245 = .ok (.ifCond .ne 20, 3) := by decide +kernel
theorem d_prog_29_method_5_248 : decode prog_29_method_5_code 248 = .ok (.aload_n 0, 1) := by decide +kernel
theorem d_prog_29_method_5_249 : decode prog_29_method_5_code 249 = .ok (.lload 19, 2) := by decide +kernel
theorem d_prog_29_method_5_251 : decode prog_29_method_5_code 251 = .ok (.lload 21, 2) := by decide +kernel
theorem d_prog_29_method_5_253 : decode prog_29_method_5_code 253 = .ok (.lload 23, 2) := by decide +kernel
theorem d_prog_29_method_5_255 : decode prog_29_method_5_code 255 = .ok (.lload 13, 2) := by decide +kernel
theorem d_prog_29_method_5_257 : decode prog_29_method_5_code 257 = .ok (.lload 15, 2) := by decide +kernel
theorem pd_6 : parseMethodDescriptor "(JJJJJ)V" = some ⟨[.long, .long, .long, .long, .long], none⟩ := by decide +kernel
theorem d_prog_29_method_5_259 : decode prog_29_method_5_code 259 = .ok (.invokevirtual 51, 3) := by decide +kernel
theorem d_prog_29_method_5_262 : decode prog_29_method_5_code 262 = .ok (.goto 19, 3) := by decide +kernel
theorem d_prog_29_method_5_265 : decode prog_29_method_5_code 265 = .ok (.aload_n 0, 1) := by decide +kernel
theorem d_prog_29_method_5_266 : decode prog_29_method_5_code 266 = .ok (.lload 13, 2) := by decide +kernel
theorem d_prog_29_method_5_268 : decode prog_29_method_5_code 268 = .ok (.lload 15, 2) := by decide +kernel
theorem d_prog_29_method_5_270 : decode prog_29_method_5_code 270 = .ok (.lload 17, 2) := by decide +kernel
theorem d_prog_29_method_5_272 : decode prog_29_method_5_code 272 = .ok (.lload 19, 2) := by decide +kernel
theorem d_prog_29_method_5_274 : decode prog_29_method_5_code 274 = .ok (.lload 21, 2) := by decide +kernel
theorem d_prog_29_method_5_276 : decode prog_29_method_5_code 276 = .ok (.lload 23, 2) := by decide +kernel
theorem pd_7 : parseMethodDescriptor "(JJJJJJ)V" = some ⟨[.long, .long, .long, .long, .long, .long], none⟩ := by decide +kernel
theorem d_prog_29_method_5_278 : decode prog_29_method_5_code 278 = .ok (.invokevirtual 54, 3) := by decide +kernel
set_option maxRecDepth 65536 in
set_option maxHeartbeats 40000000 in
theorem sg_ms {p : Program} {l : Launch} {e : Env} {s : State} {m : MethodId} {args : Array Value} {below : List Frame} {meth : Method} {cd_ : Code} {T0 : State} {locs : List Loc} {Z : State} {a0 : Array Value} (hw : ∀ d ∈ tables_1, d.before a0 Z = true) (o1 : Addr) (l0 l1 l2 l3 l4 l5 p0 p1 p2 p3 p4 p5 c q1 q2 q3 q4 q5 q6 aa0 aa1 aa2 b0 b1 b2 : Int64) (h0 : Heap) (n0 : Nat)
    (X0 : Stand p l e ({ frames := 3, cells := 0, slots := 0, locals := 71 } : Room) s m args below meth cd_ T0 locs 0 0) (hx : p.tables.exec = Jvm.exec) (hby : cd_.code = prog_29_method_5_code) (hml : cd_.maxLocals = 25) (hret : meth.sig.returnType = none) (hlk : meth.locks = false) (hown : s.vm.findClass "com/example/nano_embed/nanoembed/geometry/Int384" = some m.cls) (hnm : meth.name = "multiplySizes") (hZ : Z.Warmed39 s.vm) (e0 : T0.heap = h0) (N0 : Fr n0 locs) (g_o1 : n0 ≤ o1) (I0 : own_I Z h0 o1 l0 l1 l2 l3 l4 l5 p0 p1 p2 p3 p4 p5 c 0) (ha : own_U aa2 ≤ 2305843009213693952) (hbb : own_U b2 ≤ 2305843009213693952) (hnz : ¬ b2 = 0) :
    GoOn p e below (OwPost (fun v h L => v = none ∧ Fr n0 L ∧ ∃ p0' p1' p2' p3' p4' p5' c', own_I Z h o1 l0 l1 l2 l3 l4 l5 p0' p1' p2' p3' p4' p5' c' 0 ∧ own_P6 p0' p1' p2' p3' p4' p5' = own_V3 aa0 aa1 aa2 * own_V3 b0 b1 b2) s ({ frames := 3, cells := 0, slots := 0, locals := 71 } : Room).cells ({ frames := 3, cells := 0, slots := 0, locals := 71 } : Room).slots) (T0.setTop (mkF m 142 #[.val (.ref o1), .val (.long q1), .second, .val (.long q2), .second, .val (.long q3), .second, .val (.long q4), .second, .val (.long q5), .second, .val (.long q6), .second, .val (.long aa0), .second, .val (.long aa1), .second, .val (.long aa2), .second, .val (.long b0), .second, .val (.long b1), .second, .val (.long b2), .second] [])) := by
  refine GoOn.st (fun t_ k_ => XS.lload X0.here hx rfl (hb hby d_prog_29_method_5_142) rfl k_) ?_
  refine GoOn.st (fun t_ k_ => XS.lload X0.here hx rfl (hb hby d_prog_29_method_5_144) rfl k_) ?_
  refine GoOn.st (fun t_ k_ => XS.lor X0.here hx rfl (hb hby d_prog_29_method_5_146) rfl k_) ?_
  refine GoOn.st (fun t_ k_ => XS.lconst X0.here hx rfl (hb hby d_prog_29_method_5_147)  k_) ?_
  show GoOn _ _ _ _ (T0.setTop (mkF m 148 #[.val (.ref o1), .val (.long q1), .second, .val (.long q2), .second, .val (.long q3), .second, .val (.long q4), .second, .val (.long q5), .second, .val (.long q6), .second, .val (.long aa0), .second, .val (.long aa1), .second, .val (.long aa2), .second, .val (.long b0), .second, .val (.long b1), .second, .val (.long b2), .second] [(.long (0 : Int64)), (.long (b1 ||| b2))]))
  refine GoOn.st (fun t_ k_ => XS.lcmp X0.here hx rfl (hb hby d_prog_29_method_5_148) rfl k_) ?_
  refine GoOn.st (fun t_ k_ => XS.ifYes X0.here hx rfl (pc0 := 149) (pc' := 167) rfl (hb hby d_prog_29_method_5_149) rfl ((if0 _ _).trans (feq (fun q => (fun q => hnz ((own_U_or_zero _ _).mp q).2) ((lw_eq (b1 ||| b2) (0 : Int64)).mp q))).2) (by decide) (by decide) k_) ?_
  refine GoOn.st (fun t_ k_ => XS.lload X0.here hx rfl (hb hby d_prog_29_method_5_167) rfl k_) ?_
  refine GoOn.st (fun t_ k_ => XS.lload X0.here hx rfl (hb hby d_prog_29_method_5_169) rfl k_) ?_
  show GoOn _ _ _ _ (T0.setTop (mkF m 171 #[.val (.ref o1), .val (.long q1), .second, .val (.long q2), .second, .val (.long q3), .second, .val (.long q4), .second, .val (.long q5), .second, .val (.long q6), .second, .val (.long aa0), .second, .val (.long aa1), .second, .val (.long aa2), .second, .val (.long b0), .second, .val (.long b1), .second, .val (.long b2), .second] [(.long aa2), (.long aa1)]))
  refine GoOn.st (fun t_ k_ => XS.lor X0.here hx rfl (hb hby d_prog_29_method_5_171) rfl k_) ?_
  refine GoOn.st (fun t_ k_ => XS.lconst X0.here hx rfl (hb hby d_prog_29_method_5_172)  k_) ?_
  refine GoOn.st (fun t_ k_ => XS.lcmp X0.here hx rfl (hb hby d_prog_29_method_5_173) rfl k_) ?_
  by_cases hc1 : (aa1 ||| aa2) = (0 : Int64)
  · skip
    refine GoOn.st (fun t_ k_ => XS.ifNo X0.here hx rfl (hb hby d_prog_29_method_5_174) rfl ((if0 _ _).trans (teq ((lw_eq (aa1 ||| aa2) (0 : Int64)).mpr hc1)).2) k_) ?_
    show GoOn _ _ _ _ (T0.setTop (mkF m 177 #[.val (.ref o1), .val (.long q1), .second, .val (.long q2), .second, .val (.long q3), .second, .val (.long q4), .second, .val (.long q5), .second, .val (.long q6), .second, .val (.long aa0), .second, .val (.long aa1), .second, .val (.long aa2), .second, .val (.long b0), .second, .val (.long b1), .second, .val (.long b2), .second] []))
    refine GoOn.st (fun t_ k_ => XS.aloadN X0.here hx rfl (hb hby d_prog_29_method_5_177) rfl rfl k_) ?_
    refine GoOn.st (fun t_ k_ => XS.lload X0.here hx rfl (hb hby d_prog_29_method_5_178) rfl k_) ?_
    refine GoOn.st (fun t_ k_ => XS.lload X0.here hx rfl (hb hby d_prog_29_method_5_180) rfl k_) ?_
    refine GoOn.st (fun t_ k_ => XS.lload X0.here hx rfl (hb hby d_prog_29_method_5_182) rfl k_) ?_
    show GoOn _ _ _ _ (T0.setTop (mkF m 184 #[.val (.ref o1), .val (.long q1), .second, .val (.long q2), .second, .val (.long q3), .second, .val (.long q4), .second, .val (.long q5), .second, .val (.long q6), .second, .val (.long aa0), .second, .val (.long aa1), .second, .val (.long aa2), .second, .val (.long b0), .second, .val (.long b1), .second, .val (.long b2), .second] [(.long b2), (.long b1), (.long b0), (.ref o1)]))
    refine GoOn.st (fun t_ k_ => XS.lload X0.here hx rfl (hb hby d_prog_29_method_5_184) rfl k_) ?_
    show GoOn _ _ _ _ (T0.setTop (mkF m 186 #[.val (.ref o1), .val (.long q1), .second, .val (.long q2), .second, .val (.long q3), .second, .val (.long q4), .second, .val (.long q5), .second, .val (.long q6), .second, .val (.long aa0), .second, .val (.long aa1), .second, .val (.long aa2), .second, .val (.long b0), .second, .val (.long b1), .second, .val (.long b2), .second] [(.long aa0), (.long b2), (.long b1), (.long b0), (.ref o1)]))
    refine GoOn.callP (W := 0) (argsL := [(.long b0), (.long b1), (.long b2), (.long aa0)]) (rest := []) (a := o1) X0 hx hZ hown (hw _ (List.mem_of_getElem? (i := 97) rfl)) (hw _ (List.mem_of_getElem? (i := 98) rfl)) (Jvm.Kit.selects_private (by decide) (hw _ (List.mem_of_getElem? (i := 1) rfl)) (hw _ (List.mem_of_getElem? (i := 99) rfl)) (hw _ (List.mem_of_getElem? (i := 98) rfl))) (hw _ (List.mem_of_getElem? (i := 99) rfl)) (hw _ (List.mem_of_getElem? (i := 2) rfl)) (hw _ (List.mem_of_getElem? (i := 100) rfl)) (by decide) (rm_ml31 l Z a0 hw o1 l0 l1 l2 l3 l4 l5 p0 p1 p2 p3 p4 p5 c b0 b1 b2 aa0 h0 n0 g_o1 I0 hbb) e0 (own_I_exa I0).cell (by decide) (by decide) (by rw [hml]; rfl) pd_5 rfl rfl (Nat.le_of_eq rfl) (hb hby d_prog_29_method_5_186) (by decide) (by decide) ?_
    rintro _ T2 L2 X2 ⟨rfl, N2q, p0_2, p1_2, p2_2, p3_2, p4_2, p5_2, cc2, I2, eq2⟩
    have N2 := Fr.app N0 N2q
    refine GoOn.st (fun t_ k_ => XS.goto X2.here hx rfl (pc0 := 189) (pc' := 281) rfl (hb hby d_prog_29_method_5_189) (by decide) (by decide) k_) ?_
    show GoOn _ _ _ _ (T2.setTop (mkF m 281 #[.val (.ref o1), .val (.long q1), .second, .val (.long q2), .second, .val (.long q3), .second, .val (.long q4), .second, .val (.long q5), .second, .val (.long q6), .second, .val (.long aa0), .second, .val (.long aa1), .second, .val (.long aa2), .second, .val (.long b0), .second, .val (.long b1), .second, .val (.long b2), .second] []))
    exact GoOn.retV X2 hx hlk hret (hb hby d_prog_29_method_5_281) ⟨rfl, N2, _, _, _, _, _, _, _, I2, by rw [own_V3_1 (b0 := aa0) hc1, Nat.mul_comm]; exact eq2⟩ (by decide) (by decide)
  · skip
    refine GoOn.st (fun t_ k_ => XS.ifYes X0.here hx rfl (pc0 := 174) (pc' := 192) rfl (hb hby d_prog_29_method_5_174) rfl ((if0 _ _).trans (feq (fun q => hc1 ((lw_eq (aa1 ||| aa2) (0 : Int64)).mp q))).2) (by decide) (by decide) k_) ?_
    show GoOn _ _ _ _ (T0.setTop (mkF m 192 #[.val (.ref o1), .val (.long q1), .second, .val (.long q2), .second, .val (.long q3), .second, .val (.long q4), .second, .val (.long q5), .second, .val (.long q6), .second, .val (.long aa0), .second, .val (.long aa1), .second, .val (.long aa2), .second, .val (.long b0), .second, .val (.long b1), .second, .val (.long b2), .second] []))
    refine GoOn.st (fun t_ k_ => XS.lload X0.here hx rfl (hb hby d_prog_29_method_5_192) rfl k_) ?_
    refine GoOn.st (fun t_ k_ => XS.lload X0.here hx rfl (hb hby d_prog_29_method_5_194) rfl k_) ?_
    refine GoOn.st (fun t_ k_ => XS.lor X0.here hx rfl (hb hby d_prog_29_method_5_196) rfl k_) ?_
    refine GoOn.st (fun t_ k_ => XS.lconst X0.here hx rfl (hb hby d_prog_29_method_5_197)  k_) ?_
    show GoOn _ _ _ _ (T0.setTop (mkF m 198 #[.val (.ref o1), .val (.long q1), .second, .val (.long q2), .second, .val (.long q3), .second, .val (.long q4), .second, .val (.long q5), .second, .val (.long q6), .second, .val (.long aa0), .second, .val (.long aa1), .second, .val (.long aa2), .second, .val (.long b0), .second, .val (.long b1), .second, .val (.long b2), .second] [(.long (0 : Int64)), (.long (aa2 ||| b2))]))
    refine GoOn.st (fun t_ k_ => XS.lcmp X0.here hx rfl (hb hby d_prog_29_method_5_198) rfl k_) ?_
    refine GoOn.st (fun t_ k_ => XS.ifYes X0.here hx rfl (pc0 := 199) (pc' := 217) rfl (hb hby d_prog_29_method_5_199) rfl ((if0 _ _).trans (feq (fun q => (fun q => hnz ((own_U_or_zero _ _).mp q).2) ((lw_eq (aa2 ||| b2) (0 : Int64)).mp q))).2) (by decide) (by decide) k_) ?_
    refine GoOn.st (fun t_ k_ => XS.lload X0.here hx rfl (hb hby d_prog_29_method_5_217) rfl k_) ?_
    refine GoOn.st (fun t_ k_ => XS.lconst X0.here hx rfl (hb hby d_prog_29_method_5_219)  k_) ?_
    show GoOn _ _ _ _ (T0.setTop (mkF m 220 #[.val (.ref o1), .val (.long q1), .second, .val (.long q2), .second, .val (.long q3), .second, .val (.long q4), .second, .val (.long q5), .second, .val (.long q6), .second, .val (.long aa0), .second, .val (.long aa1), .second, .val (.long aa2), .second, .val (.long b0), .second, .val (.long b1), .second, .val (.long b2), .second] [(.long (0 : Int64)), (.long b2)]))
    refine GoOn.st (fun t_ k_ => XS.lcmp X0.here hx rfl (hb hby d_prog_29_method_5_220) rfl k_) ?_
    refine GoOn.st (fun t_ k_ => XS.ifYes X0.here hx rfl (pc0 := 221) (pc' := 241) rfl (hb hby d_prog_29_method_5_221) rfl ((if0 _ _).trans (feq (fun q => hnz ((lw_eq b2 (0 : Int64)).mp q))).2) (by decide) (by decide) k_) ?_
    refine GoOn.st (fun t_ k_ => XS.lload X0.here hx rfl (hb hby d_prog_29_method_5_241) rfl k_) ?_
    refine GoOn.st (fun t_ k_ => XS.lconst X0.here hx rfl (hb hby d_prog_29_method_5_243)  k_) ?_
    show GoOn _ _ _ _ (T0.setTop (mkF m 244 #[.val (.ref o1), .val (.long q1), .second, .val (.long q2), .second, .val (.long q3), .second, .val (.long q4), .second, .val (.long q5), .second, .val (.long q6), .second, .val (.long aa0), .second, .val (.long aa1), .second, .val (.long aa2), .second, .val (.long b0), .second, .val (.long b1), .second, .val (.long b2), .second] [(.long (0 : Int64)), (.long aa2)]))
    refine GoOn.st (fun t_ k_ => XS.lcmp X0.here hx rfl (hb hby d_prog_29_method_5_244) rfl k_) ?_
    by_cases hc3 : aa2 = (0 : Int64)
    · skip
      refine GoOn.st (fun t_ k_ => XS.ifNo X0.here hx rfl (hb hby d_prog_29_method_5_245) rfl ((if0 _ _).trans (teq ((lw_eq aa2 (0 : Int64)).mpr hc3)).2) k_) ?_
      refine GoOn.st (fun t_ k_ => XS.aloadN X0.here hx rfl (hb hby d_prog_29_method_5_248) rfl rfl k_) ?_
      refine GoOn.st (fun t_ k_ => XS.lload X0.here hx rfl (hb hby d_prog_29_method_5_249) rfl k_) ?_
      show GoOn _ _ _ _ (T0.setTop (mkF m 251 #[.val (.ref o1), .val (.long q1), .second, .val (.long q2), .second, .val (.long q3), .second, .val (.long q4), .second, .val (.long q5), .second, .val (.long q6), .second, .val (.long aa0), .second, .val (.long aa1), .second, .val (.long aa2), .second, .val (.long b0), .second, .val (.long b1), .second, .val (.long b2), .second] [(.long b0), (.ref o1)]))
      refine GoOn.st (fun t_ k_ => XS.lload X0.here hx rfl (hb hby d_prog_29_method_5_251) rfl k_) ?_
      refine GoOn.st (fun t_ k_ => XS.lload X0.here hx rfl (hb hby d_prog_29_method_5_253) rfl k_) ?_
      refine GoOn.st (fun t_ k_ => XS.lload X0.here hx rfl (hb hby d_prog_29_method_5_255) rfl k_) ?_
      refine GoOn.st (fun t_ k_ => XS.lload X0.here hx rfl (hb hby d_prog_29_method_5_257) rfl k_) ?_
      show GoOn _ _ _ _ (T0.setTop (mkF m 259 #[.val (.ref o1), .val (.long q1), .second, .val (.long q2), .second, .val (.long q3), .second, .val (.long q4), .second, .val (.long q5), .second, .val (.long q6), .second, .val (.long aa0), .second, .val (.long aa1), .second, .val (.long aa2), .second, .val (.long b0), .second, .val (.long b1), .second, .val (.long b2), .second] [(.long aa1), (.long aa0), (.long b2), (.long b1), (.long b0), (.ref o1)]))
      refine GoOn.callP (W := 0) (argsL := [(.long b0), (.long b1), (.long b2), (.long aa0), (.long aa1)]) (rest := []) (a := o1) X0 hx hZ hown (hw _ (List.mem_of_getElem? (i := 101) rfl)) (hw _ (List.mem_of_getElem? (i := 102) rfl)) (Jvm.Kit.selects_private (by decide) (hw _ (List.mem_of_getElem? (i := 1) rfl)) (hw _ (List.mem_of_getElem? (i := 103) rfl)) (hw _ (List.mem_of_getElem? (i := 102) rfl))) (hw _ (List.mem_of_getElem? (i := 103) rfl)) (hw _ (List.mem_of_getElem? (i := 2) rfl)) (hw _ (List.mem_of_getElem? (i := 104) rfl)) (by decide) (rm_ml32 l Z a0 hw o1 l0 l1 l2 l3 l4 l5 p0 p1 p2 p3 p4 p5 c b0 b1 b2 aa0 aa1 h0 n0 g_o1 I0 hbb) e0 (own_I_exa I0).cell (by decide) (by decide) (by rw [hml]; rfl) pd_6 rfl rfl (Nat.le_of_eq rfl) (hb hby d_prog_29_method_5_259) (by decide) (by decide) ?_
      rintro _ T4 L4 X4 ⟨rfl, N4q, p0_4, p1_4, p2_4, p3_4, p4_4, p5_4, cc4, I4, eq4⟩
      have N4 := Fr.app N0 N4q
      refine GoOn.st (fun t_ k_ => XS.goto X4.here hx rfl (pc0 := 262) (pc' := 281) rfl (hb hby d_prog_29_method_5_262) (by decide) (by decide) k_) ?_
      show GoOn _ _ _ _ (T4.setTop (mkF m 281 #[.val (.ref o1), .val (.long q1), .second, .val (.long q2), .second, .val (.long q3), .second, .val (.long q4), .second, .val (.long q5), .second, .val (.long q6), .second, .val (.long aa0), .second, .val (.long aa1), .second, .val (.long aa2), .second, .val (.long b0), .second, .val (.long b1), .second, .val (.long b2), .second] []))
      exact GoOn.retV X4 hx hlk hret (hb hby d_prog_29_method_5_281) ⟨rfl, N4, _, _, _, _, _, _, _, I4, by rw [own_V3_2 (b0 := aa0) hc3, Nat.mul_comm]; exact eq4⟩ (by decide) (by decide)
    · skip
      refine GoOn.st (fun t_ k_ => XS.ifYes X0.here hx rfl (pc0 := 245) (pc' := 265) rfl (hb hby d_prog_29_method_5_245) rfl ((if0 _ _).trans (feq (fun q => hc3 ((lw_eq aa2 (0 : Int64)).mp q))).2) (by decide) (by decide) k_) ?_
      refine GoOn.st (fun t_ k_ => XS.aloadN X0.here hx rfl (hb hby d_prog_29_method_5_265) rfl rfl k_) ?_
      refine GoOn.st (fun t_ k_ => XS.lload X0.here hx rfl (hb hby d_prog_29_method_5_266) rfl k_) ?_
      show GoOn _ _ _ _ (T0.setTop (mkF m 268 #[.val (.ref o1), .val (.long q1), .second, .val (.long q2), .second, .val (.long q3), .second, .val (.long q4), .second, .val (.long q5), .second, .val (.long q6), .second, .val (.long aa0), .second, .val (.long aa1), .second, .val (.long aa2), .second, .val (.long b0), .second, .val (.long b1), .second, .val (.long b2), .second] [(.long aa0), (.ref o1)]))
      refine GoOn.st (fun t_ k_ => XS.lload X0.here hx rfl (hb hby d_prog_29_method_5_268) rfl k_) ?_
      refine GoOn.st (fun t_ k_ => XS.lload X0.here hx rfl (hb hby d_prog_29_method_5_270) rfl k_) ?_
      refine GoOn.st (fun t_ k_ => XS.lload X0.here hx rfl (hb hby d_prog_29_method_5_272) rfl k_) ?_
      refine GoOn.st (fun t_ k_ => XS.lload X0.here hx rfl (hb hby d_prog_29_method_5_274) rfl k_) ?_
      show GoOn _ _ _ _ (T0.setTop (mkF m 276 #[.val (.ref o1), .val (.long q1), .second, .val (.long q2), .second, .val (.long q3), .second, .val (.long q4), .second, .val (.long q5), .second, .val (.long q6), .second, .val (.long aa0), .second, .val (.long aa1), .second, .val (.long aa2), .second, .val (.long b0), .second, .val (.long b1), .second, .val (.long b2), .second] [(.long b1), (.long b0), (.long aa2), (.long aa1), (.long aa0), (.ref o1)]))
      refine GoOn.st (fun t_ k_ => XS.lload X0.here hx rfl (hb hby d_prog_29_method_5_276) rfl k_) ?_
      show GoOn _ _ _ _ (T0.setTop (mkF m 278 #[.val (.ref o1), .val (.long q1), .second, .val (.long q2), .second, .val (.long q3), .second, .val (.long q4), .second, .val (.long q5), .second, .val (.long q6), .second, .val (.long aa0), .second, .val (.long aa1), .second, .val (.long aa2), .second, .val (.long b0), .second, .val (.long b1), .second, .val (.long b2), .second] [(.long b2), (.long b1), (.long b0), (.long aa2), (.long aa1), (.long aa0), (.ref o1)]))
      refine GoOn.callP (W := 0) (argsL := [(.long aa0), (.long aa1), (.long aa2), (.long b0), (.long b1), (.long b2)]) (rest := []) (a := o1) X0 hx hZ hown (hw _ (List.mem_of_getElem? (i := 44) rfl)) (hw _ (List.mem_of_getElem? (i := 45) rfl)) (Jvm.Kit.selects_private (by decide) (hw _ (List.mem_of_getElem? (i := 1) rfl)) (hw _ (List.mem_of_getElem? (i := 46) rfl)) (hw _ (List.mem_of_getElem? (i := 45) rfl))) (hw _ (List.mem_of_getElem? (i := 46) rfl)) (hw _ (List.mem_of_getElem? (i := 2) rfl)) (hw _ (List.mem_of_getElem? (i := 47) rfl)) (by decide) (rm_ml33 l Z a0 hw o1 l0 l1 l2 l3 l4 l5 p0 p1 p2 p3 p4 p5 c aa0 aa1 aa2 b0 b1 b2 h0 n0 g_o1 I0 ha hbb) e0 (own_I_exa I0).cell (by decide) (by decide) (by rw [hml]; rfl) pd_7 rfl rfl (Nat.le_of_eq rfl) (hb hby d_prog_29_method_5_278) (by decide) (by decide) ?_
      rintro _ T5 L5 X5 ⟨rfl, N5q, p0_5, p1_5, p2_5, p3_5, p4_5, p5_5, cc5, I5, eq5⟩
      have N5 := Fr.app N0 N5q
      show GoOn _ _ _ _ (T5.setTop (mkF m 281 #[.val (.ref o1), .val (.long q1), .second, .val (.long q2), .second, .val (.long q3), .second, .val (.long q4), .second, .val (.long q5), .second, .val (.long q6), .second, .val (.long aa0), .second, .val (.long aa1), .second, .val (.long aa2), .second, .val (.long b0), .second, .val (.long b1), .second, .val (.long b2), .second] []))
      exact GoOn.retV X5 hx hlk hret (hb hby d_prog_29_method_5_281) ⟨rfl, N5, _, _, _, _, _, _, _, I5, eq5⟩ (by decide) (by decide)
theorem ef_ms (m : MethodId) (x0 : Addr) (x1 : Int64) (x2 : Int64) (x3 : Int64) (x4 : Int64) (x5 : Int64) (x6 : Int64) : entryFrame m #[(.ref x0), (.long x1), (.long x2), (.long x3), (.long x4), (.long x5), (.long x6)] 25 = mkF m 0 #[.val (.ref x0), .val (.long x1), .second, .val (.long x2), .second, .val (.long x3), .second, .val (.long x4), .second, .val (.long x5), .second, .val (.long x6), .second, .unset, .unset, .unset, .unset, .unset, .unset, .unset, .unset, .unset, .unset, .unset, .unset] [] := by first | (simp [entryFrame, mkF, argsToLocals, Value.category]; done) | rfl
theorem d_prog_29_method_5_0 : decode prog_29_method_5_code 0 = .ok (.lload_n 1, 1) := by decide +kernel
theorem d_prog_29_method_5_1 : decode prog_29_method_5_code 1 = .ok (.lconst 0, 1) := by decide +kernel
theorem d_prog_29_method_5_2 : decode prog_29_method_5_code 2 = .ok (.lcmp, 1) := by decide +kernel
theorem d_prog_29_method_5_3 : decode prog_29_method_5_code 3 = .ok (.ifCond .ge 9, 3) := by decide +kernel
theorem d_prog_29_method_5_6 : decode prog_29_method_5_code 6 = .ok (.lload 5, 2) := by decide +kernel
theorem d_prog_29_method_5_8 : decode prog_29_method_5_code 8 = .ok (.lneg, 1) := by decide +kernel
theorem d_prog_29_method_5_9 : decode prog_29_method_5_code 9 = .ok (.goto 5, 3) := by decide +kernel
theorem d_prog_29_method_5_14 : decode prog_29_method_5_code 14 = .ok (.lstore 13, 2) := by decide +kernel
theorem d_prog_29_method_5_16 : decode prog_29_method_5_code 16 = .ok (.lload_n 1, 1) := by decide +kernel
theorem d_prog_29_method_5_17 : decode prog_29_method_5_code 17 = .ok (.lconst 0, 1) := by decide +kernel
theorem d_prog_29_method_5_18 : decode prog_29_method_5_code 18 = .ok (.lcmp, 1) := by decide +kernel
theorem d_prog_29_method_5_19 : decode prog_29_method_5_code 19 = .ok (.ifCond .ge 12, 3) := by decide +kernel
theorem d_prog_29_method_5_22 : decode prog_29_method_5_code 22 = .ok (.lload_n 3, 1) := by decide +kernel
theorem d_prog_29_method_5_23 : decode prog_29_method_5_code 23 = .ok (.lload 5, 2) := by decide +kernel
theorem d_prog_29_method_5_25 : decode prog_29_method_5_code 25 = .ok (.invokestatic 36, 3) := by decide +kernel
theorem d_prog_29_method_5_28 : decode prog_29_method_5_code 28 = .ok (.goto 4, 3) := by decide +kernel
theorem d_prog_29_method_5_32 : decode prog_29_method_5_code 32 = .ok (.lstore 15, 2) := by decide +kernel
theorem d_prog_29_method_5_34 : decode prog_29_method_5_code 34 = .ok (.lload_n 1, 1) := by decide +kernel
theorem d_prog_29_method_5_35 : decode prog_29_method_5_code 35 = .ok (.lconst 0, 1) := by decide +kernel
theorem d_prog_29_method_5_36 : decode prog_29_method_5_code 36 = .ok (.lcmp, 1) := by decide +kernel
theorem d_prog_29_method_5_37 : decode prog_29_method_5_code 37 = .ok (.ifCond .ge 27, 3) := by decide +kernel
theorem d_prog_29_method_5_40 : decode prog_29_method_5_code 40 = .ok (.lload_n 1, 1) := by decide +kernel
theorem d_prog_29_method_5_41 : decode prog_29_method_5_code 41 = .ok (.ldc2_w 42, 3) := by decide +kernel
theorem d_prog_29_method_5_44 : decode prog_29_method_5_code 44 = .ok (.lxor, 1) := by decide +kernel
theorem d_prog_29_method_5_45 : decode prog_29_method_5_code 45 = .ok (.lload_n 3, 1) := by decide +kernel
theorem d_prog_29_method_5_46 : decode prog_29_method_5_code 46 = .ok (.lload 5, 2) := by decide +kernel
theorem d_prog_29_method_5_48 : decode prog_29_method_5_code 48 = .ok (.lor, 1) := by decide +kernel
theorem d_prog_29_method_5_49 : decode prog_29_method_5_code 49 = .ok (.lconst 0, 1) := by decide +kernel
theorem d_prog_29_method_5_50 : decode prog_29_method_5_code 50 = .ok (.lcmp, 1) := by decide +kernel
theorem d_prog_29_method_5_51 : decode prog_29_method_5_code 51 = .ok (.ifCond .ne 7, 3) := by decide +kernel
theorem d_prog_29_method_5_54 : decode prog_29_method_5_code 54 = .ok (.iconst 1, 1) := by decide +kernel
theorem d_prog_29_method_5_55 : decode prog_29_method_5_code 55 = .ok (.goto 4, 3) := by decide +kernel
theorem d_prog_29_method_5_58 : decode prog_29_method_5_code 58 = .ok (.iconst 0, 1) := by decide +kernel
theorem d_prog_29_method_5_59 : decode prog_29_method_5_code 59 = .ok (.i2l, 1) := by decide +kernel
theorem d_prog_29_method_5_60 : decode prog_29_method_5_code 60 = .ok (.ladd, 1) := by decide +kernel
theorem d_prog_29_method_5_61 : decode prog_29_method_5_code 61 = .ok (.goto 4, 3) := by decide +kernel
theorem d_prog_29_method_5_65 : decode prog_29_method_5_code 65 = .ok (.lstore 17, 2) := by decide +kernel
theorem d_prog_29_method_5_67 : decode prog_29_method_5_code 67 = .ok (.lload 7, 2) := by decide +kernel
theorem d_prog_29_method_5_69 : decode prog_29_method_5_code 69 = .ok (.lconst 0, 1) := by decide +kernel
theorem d_prog_29_method_5_70 : decode prog_29_method_5_code 70 = .ok (.lcmp, 1) := by decide +kernel
theorem d_prog_29_method_5_71 : decode prog_29_method_5_code 71 = .ok (.ifCond .ge 9, 3) := by decide +kernel
theorem d_prog_29_method_5_80 : decode prog_29_method_5_code 80 = .ok (.lload 11, 2) := by decide +kernel
theorem d_prog_29_method_5_82 : decode prog_29_method_5_code 82 = .ok (.lstore 19, 2) := by decide +kernel
theorem d_prog_29_method_5_84 : decode prog_29_method_5_code 84 = .ok (.lload 7, 2) := by decide +kernel
theorem d_prog_29_method_5_86 : decode prog_29_method_5_code 86 = .ok (.lconst 0, 1) := by decide +kernel
theorem d_prog_29_method_5_87 : decode prog_29_method_5_code 87 = .ok (.lcmp, 1) := by decide +kernel
theorem d_prog_29_method_5_88 : decode prog_29_method_5_code 88 = .ok (.ifCond .ge 13, 3) := by decide +kernel
theorem d_prog_29_method_5_101 : decode prog_29_method_5_code 101 = .ok (.lload 9, 2) := by decide +kernel
theorem d_prog_29_method_5_103 : decode prog_29_method_5_code 103 = .ok (.lstore 21, 2) := by decide +kernel
theorem d_prog_29_method_5_105 : decode prog_29_method_5_code 105 = .ok (.lload 7, 2) := by decide +kernel
theorem d_prog_29_method_5_107 : decode prog_29_method_5_code 107 = .ok (.lconst 0, 1) := by decide +kernel
theorem d_prog_29_method_5_108 : decode prog_29_method_5_code 108 = .ok (.lcmp, 1) := by decide +kernel
theorem d_prog_29_method_5_109 : decode prog_29_method_5_code 109 = .ok (.ifCond .ge 29, 3) := by decide +kernel
theorem d_prog_29_method_5_138 : decode prog_29_method_5_code 138 = .ok (.lload 7, 2) := by decide +kernel
theorem d_prog_29_method_5_140 : decode prog_29_method_5_code 140 = .ok (.lstore 23, 2) := by decide +kernel
theorem d_prog_29_method_5_12 : decode prog_29_method_5_code 12 = .ok (.lload 5, 2) := by decide +kernel
theorem d_prog_29_method_5_31 : decode prog_29_method_5_code 31 = .ok (.lload_n 3, 1) := by decide +kernel
theorem d_prog_29_method_5_64 : decode prog_29_method_5_code 64 = .ok (.lload_n 1, 1) := by decide +kernel
set_option maxRecDepth 65536 in
set_option maxHeartbeats 40000000 in
theorem rm_ms (l : Launch) (Z : State) (a0 : Array Value) (hw : ∀ d ∈ tables_1, d.before a0 Z = true) (o1 : Addr) (l0 l1 l2 l3 l4 l5 p0 p1 p2 p3 p4 p5 c q1 q2 q3 q4 q5 q6 : Int64) (h0 : Heap) (n0 : Nat) (g_o1 : n0 ≤ o1) (I0 : own_I Z h0 o1 l0 l1 l2 l3 l4 l5 p0 p1 p2 p3 p4 p5 c 0) (hA : -2305843009213693952 ≤ q1.toInt ∧ q1.toInt ≤ 2305843009213693952) (hB : -2305843009213693952 ≤ q4.toInt ∧ q4.toInt ≤ 2305843009213693952) (hq4 : ¬ q4 < 0) (hnzp : ¬ q4 = 0) :
    OwCon l Z (⟨"com/example/nano_embed/nanoembed/geometry/Int384", "multiplySizes", "(JJJJJJ)V"⟩ : MethodName) prog_29_method_5_code 25 none [] ({ frames := 3, cells := 0, slots := 0, locals := 71 } : Room) #[(.ref o1), (.long q1), (.long q2), (.long q3), (.long q4), (.long q5), (.long q6)] h0 (fun v h L => v = none ∧ Fr n0 L ∧ ∃ p0' p1' p2' p3' p4' p5' c', own_I Z h o1 l0 l1 l2 l3 l4 l5 p0' p1' p2' p3' p4' p5' c' 0 ∧ own_P6 p0' p1' p2' p3' p4' p5' = (own_S3 q1 q2 q3).natAbs * (own_S3 q4 q5 q6).natAbs) := by
  refine OwCon.of (plainFor_of_name pn_com_example_nano_embed_nanoembed_geometry_Int384) ?_
  intro p e s m below meth cd_ s₁ X0 hx hby hml hret hlk hown hnm hZ e0
  have N0 := Fr.nil n0
  refine GoOn.st (fun t_ k_ => castTop (ef_ms m o1 q1 q2 q3 q4 q5 q6) k_) ?_
  show GoOn _ _ _ _ (s₁.setTop (mkF m 0 #[.val (.ref o1), .val (.long q1), .second, .val (.long q2), .second, .val (.long q3), .second, .val (.long q4), .second, .val (.long q5), .second, .val (.long q6), .second, .unset, .unset, .unset, .unset, .unset, .unset, .unset, .unset, .unset, .unset, .unset, .unset] []))
  refine GoOn.st (fun t_ k_ => XS.lloadN X0.here hx rfl (hb hby d_prog_29_method_5_0) rfl k_) ?_
  refine GoOn.st (fun t_ k_ => XS.lconst X0.here hx rfl (hb hby d_prog_29_method_5_1)  k_) ?_
  refine GoOn.st (fun t_ k_ => XS.lcmp X0.here hx rfl (hb hby d_prog_29_method_5_2) rfl k_) ?_
  by_cases hc1 : q1 < (0 : Int64)
  · skip
    refine GoOn.st (fun t_ k_ => XS.ifNo X0.here hx rfl (hb hby d_prog_29_method_5_3) rfl ((if0 _ _).trans (tlt ((lw_lt q1 (0 : Int64)).mpr hc1)).2.1) k_) ?_
    show GoOn _ _ _ _ (s₁.setTop (mkF m 6 #[.val (.ref o1), .val (.long q1), .second, .val (.long q2), .second, .val (.long q3), .second, .val (.long q4), .second, .val (.long q5), .second, .val (.long q6), .second, .unset, .unset, .unset, .unset, .unset, .unset, .unset, .unset, .unset, .unset, .unset, .unset] []))
    refine GoOn.st (fun t_ k_ => XS.lload X0.here hx rfl (hb hby d_prog_29_method_5_6) rfl k_) ?_
    refine GoOn.st (fun t_ k_ => XS.lneg X0.here hx rfl (hb hby d_prog_29_method_5_8) rfl k_) ?_
    refine GoOn.st (fun t_ k_ => XS.goto X0.here hx rfl (pc0 := 9) (pc' := 14) rfl (hb hby d_prog_29_method_5_9) (by decide) (by decide) k_) ?_
    refine GoOn.st (fun t_ k_ => XS.lstore X0.here hx rfl (hb hby d_prog_29_method_5_14) rfl (l' := #[.val (.ref o1), .val (.long q1), .second, .val (.long q2), .second, .val (.long q3), .second, .val (.long q4), .second, .val (.long q5), .second, .val (.long q6), .second, .val (.long ((-q3))), .second, .unset, .unset, .unset, .unset, .unset, .unset, .unset, .unset, .unset, .unset]) rfl k_) ?_
    show GoOn _ _ _ _ (s₁.setTop (mkF m 16 #[.val (.ref o1), .val (.long q1), .second, .val (.long q2), .second, .val (.long q3), .second, .val (.long q4), .second, .val (.long q5), .second, .val (.long q6), .second, .val (.long ((-q3))), .second, .unset, .unset, .unset, .unset, .unset, .unset, .unset, .unset, .unset, .unset] []))
    refine GoOn.st (fun t_ k_ => XS.lloadN X0.here hx rfl (hb hby d_prog_29_method_5_16) rfl k_) ?_
    refine GoOn.st (fun t_ k_ => XS.lconst X0.here hx rfl (hb hby d_prog_29_method_5_17)  k_) ?_
    refine GoOn.st (fun t_ k_ => XS.lcmp X0.here hx rfl (hb hby d_prog_29_method_5_18) rfl k_) ?_
    refine GoOn.st (fun t_ k_ => XS.ifNo X0.here hx rfl (hb hby d_prog_29_method_5_19) rfl ((if0 _ _).trans (tlt ((lw_lt q1 (0 : Int64)).mpr hc1)).2.1) k_) ?_
    show GoOn _ _ _ _ (s₁.setTop (mkF m 22 #[.val (.ref o1), .val (.long q1), .second, .val (.long q2), .second, .val (.long q3), .second, .val (.long q4), .second, .val (.long q5), .second, .val (.long q6), .second, .val (.long ((-q3))), .second, .unset, .unset, .unset, .unset, .unset, .unset, .unset, .unset, .unset, .unset] []))
    refine GoOn.st (fun t_ k_ => XS.lloadN X0.here hx rfl (hb hby d_prog_29_method_5_22) rfl k_) ?_
    refine GoOn.st (fun t_ k_ => XS.lload X0.here hx rfl (hb hby d_prog_29_method_5_23) rfl k_) ?_
    show GoOn _ _ _ _ (s₁.setTop (mkF m 25 #[.val (.ref o1), .val (.long q1), .second, .val (.long q2), .second, .val (.long q3), .second, .val (.long q4), .second, .val (.long q5), .second, .val (.long q6), .second, .val (.long ((-q3))), .second, .unset, .unset, .unset, .unset, .unset, .unset, .unset, .unset, .unset, .unset] [(.long q3), (.long q2)]))
    refine GoOn.callS (W := 0) (argsL := [(.long q2), (.long q3)]) (rest := []) X0 hx hZ hown (hw _ (List.mem_of_getElem? (i := 38) rfl)) (hw _ (List.mem_of_getElem? (i := 39) rfl)) (hw _ (List.mem_of_getElem? (i := 40) rfl)) (hw _ (List.mem_of_getElem? (i := 41) rfl)) (by decide) (rm_nh l Z a0 hw q2 q3 h0) e0 (by decide) (by decide) (by rw [hml]; rfl) pd_0 rfl rfl (Nat.le_of_eq rfl) (hb hby d_prog_29_method_5_25) (by decide) (by decide) ?_
    rintro _ T2 L2 X2 ⟨rfl, rfl, e2⟩
    rw [List.append_nil] at X2
    refine GoOn.st (fun t_ k_ => XS.goto X2.here hx rfl (pc0 := 28) (pc' := 32) rfl (hb hby d_prog_29_method_5_28) (by decide) (by decide) k_) ?_
    refine GoOn.st (fun t_ k_ => XS.lstore X2.here hx rfl (hb hby d_prog_29_method_5_32) rfl (l' := #[.val (.ref o1), .val (.long q1), .second, .val (.long q2), .second, .val (.long q3), .second, .val (.long q4), .second, .val (.long q5), .second, .val (.long q6), .second, .val (.long ((-q3))), .second, .val (.long (own_nh q2 q3)), .second, .unset, .unset, .unset, .unset, .unset, .unset, .unset, .unset]) rfl k_) ?_
    refine GoOn.st (fun t_ k_ => XS.lloadN X2.here hx rfl (hb hby d_prog_29_method_5_34) rfl k_) ?_
    show GoOn _ _ _ _ (T2.setTop (mkF m 35 #[.val (.ref o1), .val (.long q1), .second, .val (.long q2), .second, .val (.long q3), .second, .val (.long q4), .second, .val (.long q5), .second, .val (.long q6), .second, .val (.long ((-q3))), .second, .val (.long (own_nh q2 q3)), .second, .unset, .unset, .unset, .unset, .unset, .unset, .unset, .unset] [(.long q1)]))
    refine GoOn.st (fun t_ k_ => XS.lconst X2.here hx rfl (hb hby d_prog_29_method_5_35)  k_) ?_
    refine GoOn.st (fun t_ k_ => XS.lcmp X2.here hx rfl (hb hby d_prog_29_method_5_36) rfl k_) ?_
    refine GoOn.st (fun t_ k_ => XS.ifNo X2.here hx rfl (hb hby d_prog_29_method_5_37) rfl ((if0 _ _).trans (tlt ((lw_lt q1 (0 : Int64)).mpr hc1)).2.1) k_) ?_
    refine GoOn.st (fun t_ k_ => XS.lloadN X2.here hx rfl (hb hby d_prog_29_method_5_40) rfl k_) ?_
    show GoOn _ _ _ _ (T2.setTop (mkF m 41 #[.val (.ref o1), .val (.long q1), .second, .val (.long q2), .second, .val (.long q3), .second, .val (.long q4), .second, .val (.long q5), .second, .val (.long q6), .second, .val (.long ((-q3))), .second, .val (.long (own_nh q2 q3)), .second, .unset, .unset, .unset, .unset, .unset, .unset, .unset, .unset] [(.long q1)]))
    refine GoOn.st (fun t_ k_ => X2.ldc2Long hx hown (mvT hZ (hw _ (List.mem_of_getElem? (i := 43) rfl))) (g := (mkF m 41 #[.val (.ref o1), .val (.long q1), .second, .val (.long q2), .second, .val (.long q3), .second, .val (.long q4), .second, .val (.long q5), .second, .val (.long q6), .second, .val (.long ((-q3))), .second, .val (.long (own_nh q2 q3)), .second, .unset, .unset, .unset, .unset, .unset, .unset, .unset, .unset] [(.long q1)])) rfl (hb hby d_prog_29_method_5_41) _ k_) ?_
    refine GoOn.st (fun t_ k_ => XS.lxor X2.here hx rfl (hb hby d_prog_29_method_5_44) rfl k_) ?_
    refine GoOn.st (fun t_ k_ => XS.lloadN X2.here hx rfl (hb hby d_prog_29_method_5_45) rfl k_) ?_
    refine GoOn.st (fun t_ k_ => XS.lload X2.here hx rfl (hb hby d_prog_29_method_5_46) rfl k_) ?_
    show GoOn _ _ _ _ (T2.setTop (mkF m 48 #[.val (.ref o1), .val (.long q1), .second, .val (.long q2), .second, .val (.long q3), .second, .val (.long q4), .second, .val (.long q5), .second, .val (.long q6), .second, .val (.long ((-q3))), .second, .val (.long (own_nh q2 q3)), .second, .unset, .unset, .unset, .unset, .unset, .unset, .unset, .unset] [(.long q3), (.long q2), (.long (q1 ^^^ (-1 : Int64)))]))
    refine GoOn.st (fun t_ k_ => XS.lor X2.here hx rfl (hb hby d_prog_29_method_5_48) rfl k_) ?_
    refine GoOn.st (fun t_ k_ => XS.lconst X2.here hx rfl (hb hby d_prog_29_method_5_49)  k_) ?_
    refine GoOn.st (fun t_ k_ => XS.lcmp X2.here hx rfl (hb hby d_prog_29_method_5_50) rfl k_) ?_
    have dm3 : ∀ zz : Int32, zz = (if (q2 ||| q3) = (0 : Int64) then (1 : Int32) else (0 : Int32)) → ∀ t_, Steps p.tables e below (T2.setTop (mkF m 59 #[.val (.ref o1), .val (.long q1), .second, .val (.long q2), .second, .val (.long q3), .second, .val (.long q4), .second, .val (.long q5), .second, .val (.long q6), .second, .val (.long ((-q3))), .second, .val (.long (own_nh q2 q3)), .second, .unset, .unset, .unset, .unset, .unset, .unset, .unset, .unset] [(.int zz), (.long (q1 ^^^ (-1 : Int64)))])) t_ → Steps p.tables e below (T2.setTop (mkF m 51 #[.val (.ref o1), .val (.long q1), .second, .val (.long q2), .second, .val (.long q3), .second, .val (.long q4), .second, .val (.long q5), .second, .val (.long q6), .second, .val (.long ((-q3))), .second, .val (.long (own_nh q2 q3)), .second, .unset, .unset, .unset, .unset, .unset, .unset, .unset, .unset] [(.int (lcmpW (q2 ||| q3) (0 : Int64))), (.long (q1 ^^^ (-1 : Int64)))])) t_ := by
      intro zz hzz t_ k_; by_cases hc : (q2 ||| q3) = (0 : Int64)
      · rw [hzz.trans (if_pos hc)] at k_
        refine XS.ifNo X2.here hx rfl (hb hby d_prog_29_method_5_51) rfl ((if0 _ _).trans (teq ((lw_eq (q2 ||| q3) (0 : Int64)).mpr hc)).2) ?_
        show Steps _ _ _ (T2.setTop (mkF m 54 #[.val (.ref o1), .val (.long q1), .second, .val (.long q2), .second, .val (.long q3), .second, .val (.long q4), .second, .val (.long q5), .second, .val (.long q6), .second, .val (.long ((-q3))), .second, .val (.long (own_nh q2 q3)), .second, .unset, .unset, .unset, .unset, .unset, .unset, .unset, .unset] [(.long (q1 ^^^ (-1 : Int64)))])) _
        refine XS.iconst X2.here hx rfl (hb hby d_prog_29_method_5_54) ?_
        show Steps _ _ _ (T2.setTop (mkF m 55 #[.val (.ref o1), .val (.long q1), .second, .val (.long q2), .second, .val (.long q3), .second, .val (.long q4), .second, .val (.long q5), .second, .val (.long q6), .second, .val (.long ((-q3))), .second, .val (.long (own_nh q2 q3)), .second, .unset, .unset, .unset, .unset, .unset, .unset, .unset, .unset] [(.int (1 : Int32)), (.long (q1 ^^^ (-1 : Int64)))])) _
        exact XS.goto X2.here hx rfl (pc0 := 55) (pc' := 59) rfl (hb hby d_prog_29_method_5_55) (by decide) (by decide) k_
      · rw [hzz.trans (if_neg hc)] at k_
        refine XS.ifYes X2.here hx rfl (pc0 := 51) (pc' := 58) rfl (hb hby d_prog_29_method_5_51) rfl ((if0 _ _).trans (feq (fun q => hc ((lw_eq (q2 ||| q3) (0 : Int64)).mp q))).2) (by decide) (by decide) ?_
        show Steps _ _ _ (T2.setTop (mkF m 58 #[.val (.ref o1), .val (.long q1), .second, .val (.long q2), .second, .val (.long q3), .second, .val (.long q4), .second, .val (.long q5), .second, .val (.long q6), .second, .val (.long ((-q3))), .second, .val (.long (own_nh q2 q3)), .second, .unset, .unset, .unset, .unset, .unset, .unset, .unset, .unset] [(.long (q1 ^^^ (-1 : Int64)))])) _
        exact XS.iconst X2.here hx rfl (hb hby d_prog_29_method_5_58) k_
    refine GoOn.st (dm3 _ rfl) ?_
    show GoOn _ _ _ _ (T2.setTop (mkF m 59 #[.val (.ref o1), .val (.long q1), .second, .val (.long q2), .second, .val (.long q3), .second, .val (.long q4), .second, .val (.long q5), .second, .val (.long q6), .second, .val (.long ((-q3))), .second, .val (.long (own_nh q2 q3)), .second, .unset, .unset, .unset, .unset, .unset, .unset, .unset, .unset] [(.int (if (q2 ||| q3) = (0 : Int64) then (1 : Int32) else (0 : Int32))), (.long (q1 ^^^ (-1 : Int64)))]))
    refine GoOn.st (fun t_ k_ => XS.i2l X2.here hx rfl (hb hby d_prog_29_method_5_59) rfl k_) ?_
    refine GoOn.st (fun t_ k_ => XS.ladd X2.here hx rfl (hb hby d_prog_29_method_5_60) rfl k_) ?_
    refine GoOn.st (fun t_ k_ => XS.goto X2.here hx rfl (pc0 := 61) (pc' := 65) rfl (hb hby d_prog_29_method_5_61) (by decide) (by decide) k_) ?_
    refine GoOn.st (fun t_ k_ => XS.lstore X2.here hx rfl (hb hby d_prog_29_method_5_65) rfl (l' := #[.val (.ref o1), .val (.long q1), .second, .val (.long q2), .second, .val (.long q3), .second, .val (.long q4), .second, .val (.long q5), .second, .val (.long q6), .second, .val (.long ((-q3))), .second, .val (.long (own_nh q2 q3)), .second, .val (.long ((q1 ^^^ (-1 : Int64)) + (((if (q2 ||| q3) = (0 : Int64) then (1 : Int32) else (0 : Int32))).toInt64))), .second, .unset, .unset, .unset, .unset, .unset, .unset]) rfl k_) ?_
    show GoOn _ _ _ _ (T2.setTop (mkF m 67 #[.val (.ref o1), .val (.long q1), .second, .val (.long q2), .second, .val (.long q3), .second, .val (.long q4), .second, .val (.long q5), .second, .val (.long q6), .second, .val (.long ((-q3))), .second, .val (.long (own_nh q2 q3)), .second, .val (.long ((q1 ^^^ (-1 : Int64)) + (((if (q2 ||| q3) = (0 : Int64) then (1 : Int32) else (0 : Int32))).toInt64))), .second, .unset, .unset, .unset, .unset, .unset, .unset] []))
    refine GoOn.st (fun t_ k_ => XS.lload X2.here hx rfl (hb hby d_prog_29_method_5_67) rfl k_) ?_
    refine GoOn.st (fun t_ k_ => XS.lconst X2.here hx rfl (hb hby d_prog_29_method_5_69)  k_) ?_
    refine GoOn.st (fun t_ k_ => XS.lcmp X2.here hx rfl (hb hby d_prog_29_method_5_70) rfl k_) ?_
    refine GoOn.st (fun t_ k_ => XS.ifYes X2.here hx rfl (pc0 := 71) (pc' := 80) rfl (hb hby d_prog_29_method_5_71) rfl ((if0 _ _).trans (flt (fun q => hq4 ((lw_lt q4 (0 : Int64)).mp q))).2.1) (by decide) (by decide) k_) ?_
    show GoOn _ _ _ _ (T2.setTop (mkF m 80 #[.val (.ref o1), .val (.long q1), .second, .val (.long q2), .second, .val (.long q3), .second, .val (.long q4), .second, .val (.long q5), .second, .val (.long q6), .second, .val (.long ((-q3))), .second, .val (.long (own_nh q2 q3)), .second, .val (.long ((q1 ^^^ (-1 : Int64)) + (((if (q2 ||| q3) = (0 : Int64) then (1 : Int32) else (0 : Int32))).toInt64))), .second, .unset, .unset, .unset, .unset, .unset, .unset] []))
    refine GoOn.st (fun t_ k_ => XS.lload X2.here hx rfl (hb hby d_prog_29_method_5_80) rfl k_) ?_
    refine GoOn.st (fun t_ k_ => XS.lstore X2.here hx rfl (hb hby d_prog_29_method_5_82) rfl (l' := #[.val (.ref o1), .val (.long q1), .second, .val (.long q2), .second, .val (.long q3), .second, .val (.long q4), .second, .val (.long q5), .second, .val (.long q6), .second, .val (.long ((-q3))), .second, .val (.long (own_nh q2 q3)), .second, .val (.long ((q1 ^^^ (-1 : Int64)) + (((if (q2 ||| q3) = (0 : Int64) then (1 : Int32) else (0 : Int32))).toInt64))), .second, .val (.long q6), .second, .unset, .unset, .unset, .unset]) rfl k_) ?_
    refine GoOn.st (fun t_ k_ => XS.lload X2.here hx rfl (hb hby d_prog_29_method_5_84) rfl k_) ?_
    refine GoOn.st (fun t_ k_ => XS.lconst X2.here hx rfl (hb hby d_prog_29_method_5_86)  k_) ?_
    show GoOn _ _ _ _ (T2.setTop (mkF m 87 #[.val (.ref o1), .val (.long q1), .second, .val (.long q2), .second, .val (.long q3), .second, .val (.long q4), .second, .val (.long q5), .second, .val (.long q6), .second, .val (.long ((-q3))), .second, .val (.long (own_nh q2 q3)), .second, .val (.long ((q1 ^^^ (-1 : Int64)) + (((if (q2 ||| q3) = (0 : Int64) then (1 : Int32) else (0 : Int32))).toInt64))), .second, .val (.long q6), .second, .unset, .unset, .unset, .unset] [(.long (0 : Int64)), (.long q4)]))
    refine GoOn.st (fun t_ k_ => XS.lcmp X2.here hx rfl (hb hby d_prog_29_method_5_87) rfl k_) ?_
    refine GoOn.st (fun t_ k_ => XS.ifYes X2.here hx rfl (pc0 := 88) (pc' := 101) rfl (hb hby d_prog_29_method_5_88) rfl ((if0 _ _).trans (flt (fun q => hq4 ((lw_lt q4 (0 : Int64)).mp q))).2.1) (by decide) (by decide) k_) ?_
    refine GoOn.st (fun t_ k_ => XS.lload X2.here hx rfl (hb hby d_prog_29_method_5_101) rfl k_) ?_
    refine GoOn.st (fun t_ k_ => XS.lstore X2.here hx rfl (hb hby d_prog_29_method_5_103) rfl (l' := #[.val (.ref o1), .val (.long q1), .second, .val (.long q2), .second, .val (.long q3), .second, .val (.long q4), .second, .val (.long q5), .second, .val (.long q6), .second, .val (.long ((-q3))), .second, .val (.long (own_nh q2 q3)), .second, .val (.long ((q1 ^^^ (-1 : Int64)) + (((if (q2 ||| q3) = (0 : Int64) then (1 : Int32) else (0 : Int32))).toInt64))), .second, .val (.long q6), .second, .val (.long q5), .second, .unset, .unset]) rfl k_) ?_
    show GoOn _ _ _ _ (T2.setTop (mkF m 105 #[.val (.ref o1), .val (.long q1), .second, .val (.long q2), .second, .val (.long q3), .second, .val (.long q4), .second, .val (.long q5), .second, .val (.long q6), .second, .val (.long ((-q3))), .second, .val (.long (own_nh q2 q3)), .second, .val (.long ((q1 ^^^ (-1 : Int64)) + (((if (q2 ||| q3) = (0 : Int64) then (1 : Int32) else (0 : Int32))).toInt64))), .second, .val (.long q6), .second, .val (.long q5), .second, .unset, .unset] []))
    refine GoOn.st (fun t_ k_ => XS.lload X2.here hx rfl (hb hby d_prog_29_method_5_105) rfl k_) ?_
    refine GoOn.st (fun t_ k_ => XS.lconst X2.here hx rfl (hb hby d_prog_29_method_5_107)  k_) ?_
    refine GoOn.st (fun t_ k_ => XS.lcmp X2.here hx rfl (hb hby d_prog_29_method_5_108) rfl k_) ?_
    refine GoOn.st (fun t_ k_ => XS.ifYes X2.here hx rfl (pc0 := 109) (pc' := 138) rfl (hb hby d_prog_29_method_5_109) rfl ((if0 _ _).trans (flt (fun q => hq4 ((lw_lt q4 (0 : Int64)).mp q))).2.1) (by decide) (by decide) k_) ?_
    show GoOn _ _ _ _ (T2.setTop (mkF m 138 #[.val (.ref o1), .val (.long q1), .second, .val (.long q2), .second, .val (.long q3), .second, .val (.long q4), .second, .val (.long q5), .second, .val (.long q6), .second, .val (.long ((-q3))), .second, .val (.long (own_nh q2 q3)), .second, .val (.long ((q1 ^^^ (-1 : Int64)) + (((if (q2 ||| q3) = (0 : Int64) then (1 : Int32) else (0 : Int32))).toInt64))), .second, .val (.long q6), .second, .val (.long q5), .second, .unset, .unset] []))
    refine GoOn.st (fun t_ k_ => XS.lload X2.here hx rfl (hb hby d_prog_29_method_5_138) rfl k_) ?_
    refine GoOn.st (fun t_ k_ => XS.lstore X2.here hx rfl (hb hby d_prog_29_method_5_140) rfl (l' := #[.val (.ref o1), .val (.long q1), .second, .val (.long q2), .second, .val (.long q3), .second, .val (.long q4), .second, .val (.long q5), .second, .val (.long q6), .second, .val (.long ((-q3))), .second, .val (.long (own_nh q2 q3)), .second, .val (.long ((q1 ^^^ (-1 : Int64)) + (((if (q2 ||| q3) = (0 : Int64) then (1 : Int32) else (0 : Int32))).toInt64))), .second, .val (.long q6), .second, .val (.long q5), .second, .val (.long q4), .second]) rfl k_) ?_
    obtain ⟨s2, o2, r1, r2, r3, v2, L2, r4, ⟨r5, r6, p0', p1', p2', p3', p4', p5', cc, r7, r8⟩, r9⟩ := sg_ms hw o1 l0 l1 l2 l3 l4 l5 p0 p1 p2 p3 p4 p5 c q1 q2 q3 q4 q5 q6 ((-q3)) (own_nh q2 q3) ((q1 ^^^ (-1 : Int64)) + (((if (q2 ||| q3) = (0 : Int64) then (1 : Int32) else (0 : Int32))).toInt64)) q6 q5 q4 h0 n0 X2 hx hby hml hret hlk hown hnm hZ e2 N0 g_o1 I0 (own_top_neg hc1 hA.1) (own_top_pos hq4 hB.2) (hnzp)
    exact ⟨s2, o2, r1, r2, r3, v2, L2, r4, ⟨r5, r6, p0', p1', p2', p3', p4', p5', cc, r7, r8.trans (by rw [own_abs_neg hc1, own_abs_pos hq4])⟩, r9⟩
  · skip
    refine GoOn.st (fun t_ k_ => XS.ifYes X0.here hx rfl (pc0 := 3) (pc' := 12) rfl (hb hby d_prog_29_method_5_3) rfl ((if0 _ _).trans (flt (fun q => hc1 ((lw_lt q1 (0 : Int64)).mp q))).2.1) (by decide) (by decide) k_) ?_
    show GoOn _ _ _ _ (s₁.setTop (mkF m 12 #[.val (.ref o1), .val (.long q1), .second, .val (.long q2), .second, .val (.long q3), .second, .val (.long q4), .second, .val (.long q5), .second, .val (.long q6), .second, .unset, .unset, .unset, .unset, .unset, .unset, .unset, .unset, .unset, .unset, .unset, .unset] []))
    refine GoOn.st (fun t_ k_ => XS.lload X0.here hx rfl (hb hby d_prog_29_method_5_12) rfl k_) ?_
    refine GoOn.st (fun t_ k_ => XS.lstore X0.here hx rfl (hb hby d_prog_29_method_5_14) rfl (l' := #[.val (.ref o1), .val (.long q1), .second, .val (.long q2), .second, .val (.long q3), .second, .val (.long q4), .second, .val (.long q5), .second, .val (.long q6), .second, .val (.long q3), .second, .unset, .unset, .unset, .unset, .unset, .unset, .unset, .unset, .unset, .unset]) rfl k_) ?_
    refine GoOn.st (fun t_ k_ => XS.lloadN X0.here hx rfl (hb hby d_prog_29_method_5_16) rfl k_) ?_
    refine GoOn.st (fun t_ k_ => XS.lconst X0.here hx rfl (hb hby d_prog_29_method_5_17)  k_) ?_
    show GoOn _ _ _ _ (s₁.setTop (mkF m 18 #[.val (.ref o1), .val (.long q1), .second, .val (.long q2), .second, .val (.long q3), .second, .val (.long q4), .second, .val (.long q5), .second, .val (.long q6), .second, .val (.long q3), .second, .unset, .unset, .unset, .unset, .unset, .unset, .unset, .unset, .unset, .unset] [(.long (0 : Int64)), (.long q1)]))
    refine GoOn.st (fun t_ k_ => XS.lcmp X0.here hx rfl (hb hby d_prog_29_method_5_18) rfl k_) ?_
    refine GoOn.st (fun t_ k_ => XS.ifYes X0.here hx rfl (pc0 := 19) (pc' := 31) rfl (hb hby d_prog_29_method_5_19) rfl ((if0 _ _).trans (flt (fun q => hc1 ((lw_lt q1 (0 : Int64)).mp q))).2.1) (by decide) (by decide) k_) ?_
    refine GoOn.st (fun t_ k_ => XS.lloadN X0.here hx rfl (hb hby d_prog_29_method_5_31) rfl k_) ?_
    refine GoOn.st (fun t_ k_ => XS.lstore X0.here hx rfl (hb hby d_prog_29_method_5_32) rfl (l' := #[.val (.ref o1), .val (.long q1), .second, .val (.long q2), .second, .val (.long q3), .second, .val (.long q4), .second, .val (.long q5), .second, .val (.long q6), .second, .val (.long q3), .second, .val (.long q2), .second, .unset, .unset, .unset, .unset, .unset, .unset, .unset, .unset]) rfl k_) ?_
    show GoOn _ _ _ _ (s₁.setTop (mkF m 34 #[.val (.ref o1), .val (.long q1), .second, .val (.long q2), .second, .val (.long q3), .second, .val (.long q4), .second, .val (.long q5), .second, .val (.long q6), .second, .val (.long q3), .second, .val (.long q2), .second, .unset, .unset, .unset, .unset, .unset, .unset, .unset, .unset] []))
    refine GoOn.st (fun t_ k_ => XS.lloadN X0.here hx rfl (hb hby d_prog_29_method_5_34) rfl k_) ?_
    refine GoOn.st (fun t_ k_ => XS.lconst X0.here hx rfl (hb hby d_prog_29_method_5_35)  k_) ?_
    refine GoOn.st (fun t_ k_ => XS.lcmp X0.here hx rfl (hb hby d_prog_29_method_5_36) rfl k_) ?_
    refine GoOn.st (fun t_ k_ => XS.ifYes X0.here hx rfl (pc0 := 37) (pc' := 64) rfl (hb hby d_prog_29_method_5_37) rfl ((if0 _ _).trans (flt (fun q => hc1 ((lw_lt q1 (0 : Int64)).mp q))).2.1) (by decide) (by decide) k_) ?_
    show GoOn _ _ _ _ (s₁.setTop (mkF m 64 #[.val (.ref o1), .val (.long q1), .second, .val (.long q2), .second, .val (.long q3), .second, .val (.long q4), .second, .val (.long q5), .second, .val (.long q6), .second, .val (.long q3), .second, .val (.long q2), .second, .unset, .unset, .unset, .unset, .unset, .unset, .unset, .unset] []))
    refine GoOn.st (fun t_ k_ => XS.lloadN X0.here hx rfl (hb hby d_prog_29_method_5_64) rfl k_) ?_
    refine GoOn.st (fun t_ k_ => XS.lstore X0.here hx rfl (hb hby d_prog_29_method_5_65) rfl (l' := #[.val (.ref o1), .val (.long q1), .second, .val (.long q2), .second, .val (.long q3), .second, .val (.long q4), .second, .val (.long q5), .second, .val (.long q6), .second, .val (.long q3), .second, .val (.long q2), .second, .val (.long q1), .second, .unset, .unset, .unset, .unset, .unset, .unset]) rfl k_) ?_
    refine GoOn.st (fun t_ k_ => XS.lload X0.here hx rfl (hb hby d_prog_29_method_5_67) rfl k_) ?_
    refine GoOn.st (fun t_ k_ => XS.lconst X0.here hx rfl (hb hby d_prog_29_method_5_69)  k_) ?_
    show GoOn _ _ _ _ (s₁.setTop (mkF m 70 #[.val (.ref o1), .val (.long q1), .second, .val (.long q2), .second, .val (.long q3), .second, .val (.long q4), .second, .val (.long q5), .second, .val (.long q6), .second, .val (.long q3), .second, .val (.long q2), .second, .val (.long q1), .second, .unset, .unset, .unset, .unset, .unset, .unset] [(.long (0 : Int64)), (.long q4)]))
    refine GoOn.st (fun t_ k_ => XS.lcmp X0.here hx rfl (hb hby d_prog_29_method_5_70) rfl k_) ?_
    refine GoOn.st (fun t_ k_ => XS.ifYes X0.here hx rfl (pc0 := 71) (pc' := 80) rfl (hb hby d_prog_29_method_5_71) rfl ((if0 _ _).trans (flt (fun q => hq4 ((lw_lt q4 (0 : Int64)).mp q))).2.1) (by decide) (by decide) k_) ?_
    refine GoOn.st (fun t_ k_ => XS.lload X0.here hx rfl (hb hby d_prog_29_method_5_80) rfl k_) ?_
    refine GoOn.st (fun t_ k_ => XS.lstore X0.here hx rfl (hb hby d_prog_29_method_5_82) rfl (l' := #[.val (.ref o1), .val (.long q1), .second, .val (.long q2), .second, .val (.long q3), .second, .val (.long q4), .second, .val (.long q5), .second, .val (.long q6), .second, .val (.long q3), .second, .val (.long q2), .second, .val (.long q1), .second, .val (.long q6), .second, .unset, .unset, .unset, .unset]) rfl k_) ?_
    show GoOn _ _ _ _ (s₁.setTop (mkF m 84 #[.val (.ref o1), .val (.long q1), .second, .val (.long q2), .second, .val (.long q3), .second, .val (.long q4), .second, .val (.long q5), .second, .val (.long q6), .second, .val (.long q3), .second, .val (.long q2), .second, .val (.long q1), .second, .val (.long q6), .second, .unset, .unset, .unset, .unset] []))
    refine GoOn.st (fun t_ k_ => XS.lload X0.here hx rfl (hb hby d_prog_29_method_5_84) rfl k_) ?_
    refine GoOn.st (fun t_ k_ => XS.lconst X0.here hx rfl (hb hby d_prog_29_method_5_86)  k_) ?_
    refine GoOn.st (fun t_ k_ => XS.lcmp X0.here hx rfl (hb hby d_prog_29_method_5_87) rfl k_) ?_
    refine GoOn.st (fun t_ k_ => XS.ifYes X0.here hx rfl (pc0 := 88) (pc' := 101) rfl (hb hby d_prog_29_method_5_88) rfl ((if0 _ _).trans (flt (fun q => hq4 ((lw_lt q4 (0 : Int64)).mp q))).2.1) (by decide) (by decide) k_) ?_
    show GoOn _ _ _ _ (s₁.setTop (mkF m 101 #[.val (.ref o1), .val (.long q1), .second, .val (.long q2), .second, .val (.long q3), .second, .val (.long q4), .second, .val (.long q5), .second, .val (.long q6), .second, .val (.long q3), .second, .val (.long q2), .second, .val (.long q1), .second, .val (.long q6), .second, .unset, .unset, .unset, .unset] []))
    refine GoOn.st (fun t_ k_ => XS.lload X0.here hx rfl (hb hby d_prog_29_method_5_101) rfl k_) ?_
    refine GoOn.st (fun t_ k_ => XS.lstore X0.here hx rfl (hb hby d_prog_29_method_5_103) rfl (l' := #[.val (.ref o1), .val (.long q1), .second, .val (.long q2), .second, .val (.long q3), .second, .val (.long q4), .second, .val (.long q5), .second, .val (.long q6), .second, .val (.long q3), .second, .val (.long q2), .second, .val (.long q1), .second, .val (.long q6), .second, .val (.long q5), .second, .unset, .unset]) rfl k_) ?_
    refine GoOn.st (fun t_ k_ => XS.lload X0.here hx rfl (hb hby d_prog_29_method_5_105) rfl k_) ?_
    refine GoOn.st (fun t_ k_ => XS.lconst X0.here hx rfl (hb hby d_prog_29_method_5_107)  k_) ?_
    show GoOn _ _ _ _ (s₁.setTop (mkF m 108 #[.val (.ref o1), .val (.long q1), .second, .val (.long q2), .second, .val (.long q3), .second, .val (.long q4), .second, .val (.long q5), .second, .val (.long q6), .second, .val (.long q3), .second, .val (.long q2), .second, .val (.long q1), .second, .val (.long q6), .second, .val (.long q5), .second, .unset, .unset] [(.long (0 : Int64)), (.long q4)]))
    refine GoOn.st (fun t_ k_ => XS.lcmp X0.here hx rfl (hb hby d_prog_29_method_5_108) rfl k_) ?_
    refine GoOn.st (fun t_ k_ => XS.ifYes X0.here hx rfl (pc0 := 109) (pc' := 138) rfl (hb hby d_prog_29_method_5_109) rfl ((if0 _ _).trans (flt (fun q => hq4 ((lw_lt q4 (0 : Int64)).mp q))).2.1) (by decide) (by decide) k_) ?_
    refine GoOn.st (fun t_ k_ => XS.lload X0.here hx rfl (hb hby d_prog_29_method_5_138) rfl k_) ?_
    refine GoOn.st (fun t_ k_ => XS.lstore X0.here hx rfl (hb hby d_prog_29_method_5_140) rfl (l' := #[.val (.ref o1), .val (.long q1), .second, .val (.long q2), .second, .val (.long q3), .second, .val (.long q4), .second, .val (.long q5), .second, .val (.long q6), .second, .val (.long q3), .second, .val (.long q2), .second, .val (.long q1), .second, .val (.long q6), .second, .val (.long q5), .second, .val (.long q4), .second]) rfl k_) ?_
    show GoOn _ _ _ _ (s₁.setTop (mkF m 142 #[.val (.ref o1), .val (.long q1), .second, .val (.long q2), .second, .val (.long q3), .second, .val (.long q4), .second, .val (.long q5), .second, .val (.long q6), .second, .val (.long q3), .second, .val (.long q2), .second, .val (.long q1), .second, .val (.long q6), .second, .val (.long q5), .second, .val (.long q4), .second] []))
    obtain ⟨s2, o2, r1, r2, r3, v2, L2, r4, ⟨r5, r6, p0', p1', p2', p3', p4', p5', cc, r7, r8⟩, r9⟩ := sg_ms hw o1 l0 l1 l2 l3 l4 l5 p0 p1 p2 p3 p4 p5 c q1 q2 q3 q4 q5 q6 q3 q2 q1 q6 q5 q4 h0 n0 X0 hx hby hml hret hlk hown hnm hZ e0 N0 g_o1 I0 (own_top_pos hc1 hA.2) (own_top_pos hq4 hB.2) (hnzp)
    exact ⟨s2, o2, r1, r2, r3, v2, L2, r4, ⟨r5, r6, p0', p1', p2', p3', p4', p5', cc, r7, r8.trans (by rw [own_abs_pos hc1, own_abs_pos hq4])⟩, r9⟩
theorem ef_ap0 (m : MethodId) (x0 : Addr) (x1 : Int32) : entryFrame m #[(.ref x0), (.int x1)] 34 = mkF m 0 #[.val (.ref x0), .val (.int x1), .unset, .unset, .unset, .unset, .unset, .unset, .unset, .unset, .unset, .unset, .unset, .unset, .unset, .unset, .unset, .unset, .unset, .unset, .unset, .unset, .unset, .unset, .unset, .unset, .unset, .unset, .unset, .unset, .unset, .unset, .unset, .unset] [] := by first | (simp [entryFrame, mkF, argsToLocals, Value.category]; done) | rfl
theorem d_prog_29_method_13_0 : decode prog_29_method_13_code 0 = .ok (.iload_n 1, 1) := by decide +kernel
theorem d_prog_29_method_13_1 : decode prog_29_method_13_code 1 = .ok (.ifCond .eq 9, 3) := by decide +kernel
theorem d_prog_29_method_13_10 : decode prog_29_method_13_code 10 = .ok (.lconst 0, 1) := by decide +kernel
theorem d_prog_29_method_13_11 : decode prog_29_method_13_code 11 = .ok (.lstore_n 2, 1) := by decide +kernel
theorem d_prog_29_method_13_12 : decode prog_29_method_13_code 12 = .ok (.aload_n 0, 1) := by decide +kernel
theorem d_prog_29_method_13_13 : decode prog_29_method_13_code 13 = .ok (.getfield 56, 3) := by decide +kernel
theorem d_prog_29_method_13_16 : decode prog_29_method_13_code 16 = .ok (.lload_n 2, 1) := by decide +kernel
theorem d_prog_29_method_13_17 : decode prog_29_method_13_code 17 = .ok (.lxor, 1) := by decide +kernel
theorem d_prog_29_method_13_18 : decode prog_29_method_13_code 18 = .ok (.lstore 4, 2) := by decide +kernel
theorem d_prog_29_method_13_20 : decode prog_29_method_13_code 20 = .ok (.aload_n 0, 1) := by decide +kernel
theorem d_prog_29_method_13_21 : decode prog_29_method_13_code 21 = .ok (.getfield 73, 3) := by decide +kernel
theorem d_prog_29_method_13_24 : decode prog_29_method_13_code 24 = .ok (.lload_n 2, 1) := by decide +kernel
theorem d_prog_29_method_13_25 : decode prog_29_method_13_code 25 = .ok (.lxor, 1) := by decide +kernel
theorem d_prog_29_method_13_26 : decode prog_29_method_13_code 26 = .ok (.lstore 6, 2) := by decide +kernel
theorem d_prog_29_method_13_28 : decode prog_29_method_13_code 28 = .ok (.aload_n 0, 1) := by decide +kernel
theorem d_prog_29_method_13_29 : decode prog_29_method_13_code 29 = .ok (.getfield 76, 3) := by decide +kernel
theorem d_prog_29_method_13_32 : decode prog_29_method_13_code 32 = .ok (.lload_n 2, 1) := by decide +kernel
theorem d_prog_29_method_13_33 : decode prog_29_method_13_code 33 = .ok (.lxor, 1) := by decide +kernel
theorem d_prog_29_method_13_34 : decode prog_29_method_13_code 34 = .ok (.lstore 8, 2) := by decide +kernel
theorem d_prog_29_method_13_36 : decode prog_29_method_13_code 36 = .ok (.aload_n 0, 1) := by decide +kernel
theorem d_prog_29_method_13_37 : decode prog_29_method_13_code 37 = .ok (.getfield 79, 3) := by decide +kernel
theorem d_prog_29_method_13_40 : decode prog_29_method_13_code 40 = .ok (.lload_n 2, 1) := by decide +kernel
theorem d_prog_29_method_13_41 : decode prog_29_method_13_code 41 = .ok (.lxor, 1) := by decide +kernel
theorem d_prog_29_method_13_42 : decode prog_29_method_13_code 42 = .ok (.lstore 10, 2) := by decide +kernel
theorem d_prog_29_method_13_44 : decode prog_29_method_13_code 44 = .ok (.aload_n 0, 1) := by decide +kernel
theorem d_prog_29_method_13_45 : decode prog_29_method_13_code 45 = .ok (.getfield 82, 3) := by decide +kernel
theorem d_prog_29_method_13_48 : decode prog_29_method_13_code 48 = .ok (.lload_n 2, 1) := by decide +kernel
theorem d_prog_29_method_13_49 : decode prog_29_method_13_code 49 = .ok (.lxor, 1) := by decide +kernel
theorem d_prog_29_method_13_50 : decode prog_29_method_13_code 50 = .ok (.lstore 12, 2) := by decide +kernel
theorem d_prog_29_method_13_52 : decode prog_29_method_13_code 52 = .ok (.aload_n 0, 1) := by decide +kernel
theorem d_prog_29_method_13_53 : decode prog_29_method_13_code 53 = .ok (.getfield 7, 3) := by decide +kernel
theorem d_prog_29_method_13_56 : decode prog_29_method_13_code 56 = .ok (.lload 4, 2) := by decide +kernel
theorem d_prog_29_method_13_58 : decode prog_29_method_13_code 58 = .ok (.ladd, 1) := by decide +kernel
theorem d_prog_29_method_13_59 : decode prog_29_method_13_code 59 = .ok (.iload_n 1, 1) := by decide +kernel
theorem d_prog_29_method_13_60 : decode prog_29_method_13_code 60 = .ok (.ifCond .eq 7, 3) := by decide +kernel
theorem d_prog_29_method_13_67 : decode prog_29_method_13_code 67 = .ok (.iconst 0, 1) := by decide +kernel
theorem d_prog_29_method_13_68 : decode prog_29_method_13_code 68 = .ok (.i2l, 1) := by decide +kernel
theorem d_prog_29_method_13_69 : decode prog_29_method_13_code 69 = .ok (.ladd, 1) := by decide +kernel
theorem d_prog_29_method_13_70 : decode prog_29_method_13_code 70 = .ok (.lstore 14, 2) := by decide +kernel
theorem d_prog_29_method_13_72 : decode prog_29_method_13_code 72 = .ok (.aload_n 0, 1) := by decide +kernel
theorem d_prog_29_method_13_73 : decode prog_29_method_13_code 73 = .ok (.getfield 7, 3) := by decide +kernel
theorem d_prog_29_method_13_76 : decode prog_29_method_13_code 76 = .ok (.lload 4, 2) := by decide +kernel
theorem d_prog_29_method_13_78 : decode prog_29_method_13_code 78 = .ok (.lload 14, 2) := by decide +kernel
theorem d_prog_29_method_13_80 : decode prog_29_method_13_code 80 = .ok (.invokestatic 100, 3) := by decide +kernel
theorem d_prog_29_method_13_83 : decode prog_29_method_13_code 83 = .ok (.lstore 16, 2) := by decide +kernel
theorem d_prog_29_method_13_85 : decode prog_29_method_13_code 85 = .ok (.aload_n 0, 1) := by decide +kernel
theorem d_prog_29_method_13_86 : decode prog_29_method_13_code 86 = .ok (.getfield 13, 3) := by decide +kernel
theorem d_prog_29_method_13_89 : decode prog_29_method_13_code 89 = .ok (.lload 6, 2) := by decide +kernel
theorem d_prog_29_method_13_91 : decode prog_29_method_13_code 91 = .ok (.ladd, 1) := by decide +kernel
theorem d_prog_29_method_13_92 : decode prog_29_method_13_code 92 = .ok (.lload 16, 2) := by decide +kernel
theorem d_prog_29_method_13_94 : decode prog_29_method_13_code 94 = .ok (.ladd, 1) := by decide +kernel
theorem d_prog_29_method_13_95 : decode prog_29_method_13_code 95 = .ok (.lstore 18, 2) := by decide +kernel
theorem d_prog_29_method_13_97 : decode prog_29_method_13_code 97 = .ok (.aload_n 0, 1) := by decide +kernel
theorem d_prog_29_method_13_98 : decode prog_29_method_13_code 98 = .ok (.getfield 13, 3) := by decide +kernel
theorem d_prog_29_method_13_101 : decode prog_29_method_13_code 101 = .ok (.lload 6, 2) := by decide +kernel
theorem d_prog_29_method_13_103 : decode prog_29_method_13_code 103 = .ok (.lload 18, 2) := by decide +kernel
theorem d_prog_29_method_13_105 : decode prog_29_method_13_code 105 = .ok (.invokestatic 100, 3) := by decide +kernel
theorem d_prog_29_method_13_108 : decode prog_29_method_13_code 108 = .ok (.lstore 20, 2) := by decide +kernel
theorem d_prog_29_method_13_110 : decode prog_29_method_13_code 110 = .ok (.aload_n 0, 1) := by decide +kernel
theorem d_prog_29_method_13_111 : decode prog_29_method_13_code 111 = .ok (.getfield 16, 3) := by decide +kernel
theorem d_prog_29_method_13_114 : decode prog_29_method_13_code 114 = .ok (.lload 8, 2) := by decide +kernel
theorem d_prog_29_method_13_116 : decode prog_29_method_13_code 116 = .ok (.ladd, 1) := by decide +kernel
theorem d_prog_29_method_13_117 : decode prog_29_method_13_code 117 = .ok (.lload 20, 2) := by decide +kernel
theorem d_prog_29_method_13_119 : decode prog_29_method_13_code 119 = .ok (.ladd, 1) := by decide +kernel
theorem d_prog_29_method_13_120 : decode prog_29_method_13_code 120 = .ok (.lstore 22, 2) := by decide +kernel
theorem d_prog_29_method_13_122 : decode prog_29_method_13_code 122 = .ok (.aload_n 0, 1) := by decide +kernel
theorem d_prog_29_method_13_123 : decode prog_29_method_13_code 123 = .ok (.getfield 16, 3) := by decide +kernel
theorem d_prog_29_method_13_126 : decode prog_29_method_13_code 126 = .ok (.lload 8, 2) := by decide +kernel
theorem d_prog_29_method_13_128 : decode prog_29_method_13_code 128 = .ok (.lload 22, 2) := by decide +kernel
theorem d_prog_29_method_13_130 : decode prog_29_method_13_code 130 = .ok (.invokestatic 100, 3) := by decide +kernel
theorem d_prog_29_method_13_133 : decode prog_29_method_13_code 133 = .ok (.lstore 24, 2) := by decide +kernel
theorem d_prog_29_method_13_135 : decode prog_29_method_13_code 135 = .ok (.aload_n 0, 1) := by decide +kernel
theorem d_prog_29_method_13_136 : decode prog_29_method_13_code 136 = .ok (.getfield 19, 3) := by decide +kernel
theorem d_prog_29_method_13_139 : decode prog_29_method_13_code 139 = .ok (.lload 10, 2) := by decide +kernel
theorem d_prog_29_method_13_141 : decode prog_29_method_13_code 141 = .ok (.ladd, 1) := by decide +kernel
theorem d_prog_29_method_13_142 : decode prog_29_method_13_code 142 = .ok (.lload 24, 2) := by decide +kernel
theorem d_prog_29_method_13_144 : decode prog_29_method_13_code 144 = .ok (.ladd, 1) := by decide +kernel
theorem d_prog_29_method_13_145 : decode prog_29_method_13_code 145 = .ok (.lstore 26, 2) := by decide +kernel
theorem d_prog_29_method_13_147 : decode prog_29_method_13_code 147 = .ok (.aload_n 0, 1) := by decide +kernel
theorem d_prog_29_method_13_148 : decode prog_29_method_13_code 148 = .ok (.getfield 19, 3) := by decide +kernel
theorem d_prog_29_method_13_151 : decode prog_29_method_13_code 151 = .ok (.lload 10, 2) := by decide +kernel
theorem d_prog_29_method_13_153 : decode prog_29_method_13_code 153 = .ok (.lload 26, 2) := by decide +kernel
theorem d_prog_29_method_13_155 : decode prog_29_method_13_code 155 = .ok (.invokestatic 100, 3) := by decide +kernel
theorem d_prog_29_method_13_158 : decode prog_29_method_13_code 158 = .ok (.lstore 28, 2) := by decide +kernel
theorem d_prog_29_method_13_160 : decode prog_29_method_13_code 160 = .ok (.aload_n 0, 1) := by decide +kernel
theorem d_prog_29_method_13_161 : decode prog_29_method_13_code 161 = .ok (.getfield 22, 3) := by decide +kernel
theorem d_prog_29_method_13_164 : decode prog_29_method_13_code 164 = .ok (.lload 12, 2) := by decide +kernel
theorem d_prog_29_method_13_166 : decode prog_29_method_13_code 166 = .ok (.ladd, 1) := by decide +kernel
theorem d_prog_29_method_13_167 : decode prog_29_method_13_code 167 = .ok (.lload 28, 2) := by decide +kernel
theorem d_prog_29_method_13_169 : decode prog_29_method_13_code 169 = .ok (.ladd, 1) := by decide +kernel
theorem d_prog_29_method_13_170 : decode prog_29_method_13_code 170 = .ok (.lstore 30, 2) := by decide +kernel
theorem d_prog_29_method_13_172 : decode prog_29_method_13_code 172 = .ok (.aload_n 0, 1) := by decide +kernel
theorem d_prog_29_method_13_173 : decode prog_29_method_13_code 173 = .ok (.getfield 22, 3) := by decide +kernel
theorem d_prog_29_method_13_176 : decode prog_29_method_13_code 176 = .ok (.lload 12, 2) := by decide +kernel
theorem d_prog_29_method_13_178 : decode prog_29_method_13_code 178 = .ok (.lload 30, 2) := by decide +kernel
theorem d_prog_29_method_13_180 : decode prog_29_method_13_code 180 = .ok (.invokestatic 100, 3) := by decide +kernel
theorem d_prog_29_method_13_183 : decode prog_29_method_13_code 183 = .ok (.lstore 32, 2) := by decide +kernel
theorem d_prog_29_method_13_185 : decode prog_29_method_13_code 185 = .ok (.aload_n 0, 1) := by decide +kernel
theorem d_prog_29_method_13_186 : decode prog_29_method_13_code 186 = .ok (.dup, 1) := by decide +kernel
theorem d_prog_29_method_13_187 : decode prog_29_method_13_code 187 = .ok (.getfield 25, 3) := by decide +kernel
theorem d_prog_29_method_13_190 : decode prog_29_method_13_code 190 = .ok (.aload_n 0, 1) := by decide +kernel
theorem d_prog_29_method_13_191 : decode prog_29_method_13_code 191 = .ok (.getfield 94, 3) := by decide +kernel
theorem d_prog_29_method_13_194 : decode prog_29_method_13_code 194 = .ok (.lload_n 2, 1) := by decide +kernel
theorem d_prog_29_method_13_195 : decode prog_29_method_13_code 195 = .ok (.lxor, 1) := by decide +kernel
theorem d_prog_29_method_13_196 : decode prog_29_method_13_code 196 = .ok (.lload 32, 2) := by decide +kernel
theorem d_prog_29_method_13_198 : decode prog_29_method_13_code 198 = .ok (.ladd, 1) := by decide +kernel
theorem d_prog_29_method_13_199 : decode prog_29_method_13_code 199 = .ok (.ladd, 1) := by decide +kernel
theorem d_prog_29_method_13_200 : decode prog_29_method_13_code 200 = .ok (.putfield 25, 3) := by decide +kernel
theorem d_prog_29_method_13_203 : decode prog_29_method_13_code 203 = .ok (.aload_n 0, 1) := by decide +kernel
theorem d_prog_29_method_13_204 : decode prog_29_method_13_code 204 = .ok (.lload 14, 2) := by decide +kernel
theorem d_prog_29_method_13_206 : decode prog_29_method_13_code 206 = .ok (.putfield 7, 3) := by decide +kernel
theorem d_prog_29_method_13_209 : decode prog_29_method_13_code 209 = .ok (.aload_n 0, 1) := by decide +kernel
theorem d_prog_29_method_13_210 : decode prog_29_method_13_code 210 = .ok (.lload 18, 2) := by decide +kernel
theorem d_prog_29_method_13_212 : decode prog_29_method_13_code 212 = .ok (.putfield 13, 3) := by decide +kernel
theorem d_prog_29_method_13_215 : decode prog_29_method_13_code 215 = .ok (.aload_n 0, 1) := by decide +kernel
theorem d_prog_29_method_13_216 : decode prog_29_method_13_code 216 = .ok (.lload 22, 2) := by decide +kernel
theorem d_prog_29_method_13_218 : decode prog_29_method_13_code 218 = .ok (.putfield 16, 3) := by decide +kernel
theorem d_prog_29_method_13_221 : decode prog_29_method_13_code 221 = .ok (.aload_n 0, 1) := by decide +kernel
theorem d_prog_29_method_13_222 : decode prog_29_method_13_code 222 = .ok (.lload 26, 2) := by decide +kernel
theorem d_prog_29_method_13_224 : decode prog_29_method_13_code 224 = .ok (.putfield 19, 3) := by decide +kernel
theorem d_prog_29_method_13_227 : decode prog_29_method_13_code 227 = .ok (.aload_n 0, 1) := by decide +kernel
theorem d_prog_29_method_13_228 : decode prog_29_method_13_code 228 = .ok (.lload 30, 2) := by decide +kernel
theorem d_prog_29_method_13_230 : decode prog_29_method_13_code 230 = .ok (.putfield 22, 3) := by decide +kernel
theorem d_prog_29_method_13_233 : decode prog_29_method_13_code 233 = .ok (.return_, 1) := by decide +kernel
set_option maxRecDepth 65536 in
set_option maxHeartbeats 40000000 in
theorem rm_ap0 (l : Launch) (Z : State) (a0 : Array Value) (hw : ∀ d ∈ tables_1, d.before a0 Z = true) (o1 : Addr) (l0 l1 l2 l3 l4 l5 p0 p1 p2 p3 p4 p5 c : Int64) (h0 : Heap) (n0 : Nat) (g_o1 : n0 ≤ o1) (I0 : own_I Z h0 o1 l0 l1 l2 l3 l4 l5 p0 p1 p2 p3 p4 p5 c 0) :
    OwCon l Z (⟨"com/example/nano_embed/nanoembed/geometry/Int384", "addProduct", "(Z)V"⟩ : MethodName) prog_29_method_13_code 34 none [] ({ frames := 1, cells := 0, slots := 0, locals := 17 } : Room) #[(.ref o1), (.int (0 : Int32))] h0 (fun v h L => v = none ∧ Fr n0 L ∧ ∃ l0' l1' l2' l3' l4' l5', own_I Z h o1 l0' l1' l2' l3' l4' l5' p0 p1 p2 p3 p4 p5 c 0 ∧ own_P6 l0' l1' l2' l3' l4' l5' = (own_P6 l0 l1 l2 l3 l4 l5 + own_P6 p0 p1 p2 p3 p4 p5) % 39402006196394479212279040100143613805079739270465446667948293404245721771497210611414266254884915640806627990306816) := by
  refine OwCon.of (plainFor_of_name pn_com_example_nano_embed_nanoembed_geometry_Int384) ?_
  intro p e s m below meth cd_ s₁ X0 hx hby hml hret hlk hown hnm hZ e0
  have N0 := Fr.nil n0
  refine GoOn.st (fun t_ k_ => castTop (ef_ap0 m o1 (0 : Int32)) k_) ?_
  show GoOn _ _ _ _ (s₁.setTop (mkF m 0 #[.val (.ref o1), .val (.int (0 : Int32)), .unset, .unset, .unset, .unset, .unset, .unset, .unset, .unset, .unset, .unset, .unset, .unset, .unset, .unset, .unset, .unset, .unset, .unset, .unset, .unset, .unset, .unset, .unset, .unset, .unset, .unset, .unset, .unset, .unset, .unset, .unset, .unset] []))
  refine GoOn.st (fun t_ k_ => XS.iloadN X0.here hx rfl (hb hby d_prog_29_method_13_0) rfl k_) ?_
  refine GoOn.st (fun t_ k_ => XS.ifYes X0.here hx rfl (pc0 := 1) (pc' := 10) rfl (hb hby d_prog_29_method_13_1) rfl ((if0 _ _).trans (teq (by decide : (0 : Int32) = (0 : Int32))).1) (by decide) (by decide) k_) ?_
  refine GoOn.st (fun t_ k_ => XS.lconst X0.here hx rfl (hb hby d_prog_29_method_13_10)  k_) ?_
  refine GoOn.st (fun t_ k_ => XS.lstoreN X0.here hx rfl (hb hby d_prog_29_method_13_11) rfl (l' := #[.val (.ref o1), .val (.int (0 : Int32)), .val (.long (0 : Int64)), .second, .unset, .unset, .unset, .unset, .unset, .unset, .unset, .unset, .unset, .unset, .unset, .unset, .unset, .unset, .unset, .unset, .unset, .unset, .unset, .unset, .unset, .unset, .unset, .unset, .unset, .unset, .unset, .unset, .unset, .unset]) rfl k_) ?_
  show GoOn _ _ _ _ (s₁.setTop (mkF m 12 #[.val (.ref o1), .val (.int (0 : Int32)), .val (.long (0 : Int64)), .second, .unset, .unset, .unset, .unset, .unset, .unset, .unset, .unset, .unset, .unset, .unset, .unset, .unset, .unset, .unset, .unset, .unset, .unset, .unset, .unset, .unset, .unset, .unset, .unset, .unset, .unset, .unset, .unset, .unset, .unset] []))
  refine GoOn.st (fun t_ k_ => XS.aloadN X0.here hx rfl (hb hby d_prog_29_method_13_12) rfl rfl k_) ?_
  obtain ⟨T1, X1, e1, st1⟩ := getF X0 hx hZ hown (host := "") (Or.inl (hw _ (List.mem_of_getElem? (i := 48) rfl))) Via.refl e0 (own_I_get_product0 I0) (g := (mkF m 13 #[.val (.ref o1), .val (.int (0 : Int32)), .val (.long (0 : Int64)), .second, .unset, .unset, .unset, .unset, .unset, .unset, .unset, .unset, .unset, .unset, .unset, .unset, .unset, .unset, .unset, .unset, .unset, .unset, .unset, .unset, .unset, .unset, .unset, .unset, .unset, .unset, .unset, .unset, .unset, .unset] [(.ref o1)])) rfl rfl (hb hby d_prog_29_method_13_13)
  refine GoOn.st st1 ?_
  refine GoOn.st (fun t_ k_ => XS.lloadN X1.here hx rfl (hb hby d_prog_29_method_13_16) rfl k_) ?_
  refine GoOn.st (fun t_ k_ => XS.lxor X1.here hx rfl (hb hby d_prog_29_method_13_17) rfl k_) ?_
  show GoOn _ _ _ _ (T1.setTop (mkF m 18 #[.val (.ref o1), .val (.int (0 : Int32)), .val (.long (0 : Int64)), .second, .unset, .unset, .unset, .unset, .unset, .unset, .unset, .unset, .unset, .unset, .unset, .unset, .unset, .unset, .unset, .unset, .unset, .unset, .unset, .unset, .unset, .unset, .unset, .unset, .unset, .unset, .unset, .unset, .unset, .unset] [(.long (p0 ^^^ (0 : Int64)))]))
  refine GoOn.st (fun t_ k_ => XS.lstore X1.here hx rfl (hb hby d_prog_29_method_13_18) rfl (l' := #[.val (.ref o1), .val (.int (0 : Int32)), .val (.long (0 : Int64)), .second, .val (.long (p0 ^^^ (0 : Int64))), .second, .unset, .unset, .unset, .unset, .unset, .unset, .unset, .unset, .unset, .unset, .unset, .unset, .unset, .unset, .unset, .unset, .unset, .unset, .unset, .unset, .unset, .unset, .unset, .unset, .unset, .unset, .unset, .unset]) rfl k_) ?_
  show GoOn _ _ _ _ (T1.setTop (mkF m 20 #[.val (.ref o1), .val (.int (0 : Int32)), .val (.long (0 : Int64)), .second, .val (.long (p0 ^^^ (0 : Int64))), .second, .unset, .unset, .unset, .unset, .unset, .unset, .unset, .unset, .unset, .unset, .unset, .unset, .unset, .unset, .unset, .unset, .unset, .unset, .unset, .unset, .unset, .unset, .unset, .unset, .unset, .unset, .unset, .unset] []))
  obtain ⟨m0, e_m0⟩ : ∃ z : Int64, z = (p0 ^^^ (0 : Int64)) := ⟨_, rfl⟩
  rw [← e_m0]
  refine GoOn.st (fun t_ k_ => XS.aloadN X1.here hx rfl (hb hby d_prog_29_method_13_20) rfl rfl k_) ?_
  obtain ⟨T2, X2, e2, st2⟩ := getF X1 hx hZ hown (host := "") (Or.inl (hw _ (List.mem_of_getElem? (i := 73) rfl))) Via.refl e1 (own_I_get_product1 I0) (g := (mkF m 21 #[.val (.ref o1), .val (.int (0 : Int32)), .val (.long (0 : Int64)), .second, .val (.long m0), .second, .unset, .unset, .unset, .unset, .unset, .unset, .unset, .unset, .unset, .unset, .unset, .unset, .unset, .unset, .unset, .unset, .unset, .unset, .unset, .unset, .unset, .unset, .unset, .unset, .unset, .unset, .unset, .unset] [(.ref o1)])) rfl rfl (hb hby d_prog_29_method_13_21)
  refine GoOn.st st2 ?_
  refine GoOn.st (fun t_ k_ => XS.lloadN X2.here hx rfl (hb hby d_prog_29_method_13_24) rfl k_) ?_
  show GoOn _ _ _ _ (T2.setTop (mkF m 25 #[.val (.ref o1), .val (.int (0 : Int32)), .val (.long (0 : Int64)), .second, .val (.long m0), .second, .unset, .unset, .unset, .unset, .unset, .unset, .unset, .unset, .unset, .unset, .unset, .unset, .unset, .unset, .unset, .unset, .unset, .unset, .unset, .unset, .unset, .unset, .unset, .unset, .unset, .unset, .unset, .unset] [(.long (0 : Int64)), (.long p1)]))
  refine GoOn.st (fun t_ k_ => XS.lxor X2.here hx rfl (hb hby d_prog_29_method_13_25) rfl k_) ?_
  refine GoOn.st (fun t_ k_ => XS.lstore X2.here hx rfl (hb hby d_prog_29_method_13_26) rfl (l' := #[.val (.ref o1), .val (.int (0 : Int32)), .val (.long (0 : Int64)), .second, .val (.long m0), .second, .val (.long (p1 ^^^ (0 : Int64))), .second, .unset, .unset, .unset, .unset, .unset, .unset, .unset, .unset, .unset, .unset, .unset, .unset, .unset, .unset, .unset, .unset, .unset, .unset, .unset, .unset, .unset, .unset, .unset, .unset, .unset, .unset]) rfl k_) ?_
  show GoOn _ _ _ _ (T2.setTop (mkF m 28 #[.val (.ref o1), .val (.int (0 : Int32)), .val (.long (0 : Int64)), .second, .val (.long m0), .second, .val (.long (p1 ^^^ (0 : Int64))), .second, .unset, .unset, .unset, .unset, .unset, .unset, .unset, .unset, .unset, .unset, .unset, .unset, .unset, .unset, .unset, .unset, .unset, .unset, .unset, .unset, .unset, .unset, .unset, .unset, .unset, .unset] []))
  obtain ⟨m1, e_m1⟩ : ∃ z : Int64, z = (p1 ^^^ (0 : Int64)) := ⟨_, rfl⟩
  rw [← e_m1]
  refine GoOn.st (fun t_ k_ => XS.aloadN X2.here hx rfl (hb hby d_prog_29_method_13_28) rfl rfl k_) ?_
  obtain ⟨T3, X3, e3, st3⟩ := getF X2 hx hZ hown (host := "") (Or.inl (hw _ (List.mem_of_getElem? (i := 75) rfl))) Via.refl e2 (own_I_get_product2 I0) (g := (mkF m 29 #[.val (.ref o1), .val (.int (0 : Int32)), .val (.long (0 : Int64)), .second, .val (.long m0), .second, .val (.long m1), .second, .unset, .unset, .unset, .unset, .unset, .unset, .unset, .unset, .unset, .unset, .unset, .unset, .unset, .unset, .unset, .unset, .unset, .unset, .unset, .unset, .unset, .unset, .unset, .unset, .unset, .unset] [(.ref o1)])) rfl rfl (hb hby d_prog_29_method_13_29)
  refine GoOn.st st3 ?_
  refine GoOn.st (fun t_ k_ => XS.lloadN X3.here hx rfl (hb hby d_prog_29_method_13_32) rfl k_) ?_
  show GoOn _ _ _ _ (T3.setTop (mkF m 33 #[.val (.ref o1), .val (.int (0 : Int32)), .val (.long (0 : Int64)), .second, .val (.long m0), .second, .val (.long m1), .second, .unset, .unset, .unset, .unset, .unset, .unset, .unset, .unset, .unset, .unset, .unset, .unset, .unset, .unset, .unset, .unset, .unset, .unset, .unset, .unset, .unset, .unset, .unset, .unset, .unset, .unset] [(.long (0 : Int64)), (.long p2)]))
  refine GoOn.st (fun t_ k_ => XS.lxor X3.here hx rfl (hb hby d_prog_29_method_13_33) rfl k_) ?_
  refine GoOn.st (fun t_ k_ => XS.lstore X3.here hx rfl (hb hby d_prog_29_method_13_34) rfl (l' := #[.val (.ref o1), .val (.int (0 : Int32)), .val (.long (0 : Int64)), .second, .val (.long m0), .second, .val (.long m1), .second, .val (.long (p2 ^^^ (0 : Int64))), .second, .unset, .unset, .unset, .unset, .unset, .unset, .unset, .unset, .unset, .unset, .unset, .unset, .unset, .unset, .unset, .unset, .unset, .unset, .unset, .unset, .unset, .unset, .unset, .unset]) rfl k_) ?_
  show GoOn _ _ _ _ (T3.setTop (mkF m 36 #[.val (.ref o1), .val (.int (0 : Int32)), .val (.long (0 : Int64)), .second, .val (.long m0), .second, .val (.long m1), .second, .val (.long (p2 ^^^ (0 : Int64))), .second, .unset, .unset, .unset, .unset, .unset, .unset, .unset, .unset, .unset, .unset, .unset, .unset, .unset, .unset, .unset, .unset, .unset, .unset, .unset, .unset, .unset, .unset, .unset, .unset] []))
  obtain ⟨m2, e_m2⟩ : ∃ z : Int64, z = (p2 ^^^ (0 : Int64)) := ⟨_, rfl⟩
  rw [← e_m2]
  refine GoOn.st (fun t_ k_ => XS.aloadN X3.here hx rfl (hb hby d_prog_29_method_13_36) rfl rfl k_) ?_
  obtain ⟨T4, X4, e4, st4⟩ := getF X3 hx hZ hown (host := "") (Or.inl (hw _ (List.mem_of_getElem? (i := 77) rfl))) Via.refl e3 (own_I_get_product3 I0) (g := (mkF m 37 #[.val (.ref o1), .val (.int (0 : Int32)), .val (.long (0 : Int64)), .second, .val (.long m0), .second, .val (.long m1), .second, .val (.long m2), .second, .unset, .unset, .unset, .unset, .unset, .unset, .unset, .unset, .unset, .unset, .unset, .unset, .unset, .unset, .unset, .unset, .unset, .unset, .unset, .unset, .unset, .unset, .unset, .unset] [(.ref o1)])) rfl rfl (hb hby d_prog_29_method_13_37)
  refine GoOn.st st4 ?_
  refine GoOn.st (fun t_ k_ => XS.lloadN X4.here hx rfl (hb hby d_prog_29_method_13_40) rfl k_) ?_
  show GoOn _ _ _ _ (T4.setTop (mkF m 41 #[.val (.ref o1), .val (.int (0 : Int32)), .val (.long (0 : Int64)), .second, .val (.long m0), .second, .val (.long m1), .second, .val (.long m2), .second, .unset, .unset, .unset, .unset, .unset, .unset, .unset, .unset, .unset, .unset, .unset, .unset, .unset, .unset, .unset, .unset, .unset, .unset, .unset, .unset, .unset, .unset, .unset, .unset] [(.long (0 : Int64)), (.long p3)]))
  refine GoOn.st (fun t_ k_ => XS.lxor X4.here hx rfl (hb hby d_prog_29_method_13_41) rfl k_) ?_
  refine GoOn.st (fun t_ k_ => XS.lstore X4.here hx rfl (hb hby d_prog_29_method_13_42) rfl (l' := #[.val (.ref o1), .val (.int (0 : Int32)), .val (.long (0 : Int64)), .second, .val (.long m0), .second, .val (.long m1), .second, .val (.long m2), .second, .val (.long (p3 ^^^ (0 : Int64))), .second, .unset, .unset, .unset, .unset, .unset, .unset, .unset, .unset, .unset, .unset, .unset, .unset, .unset, .unset, .unset, .unset, .unset, .unset, .unset, .unset, .unset, .unset]) rfl k_) ?_
  show GoOn _ _ _ _ (T4.setTop (mkF m 44 #[.val (.ref o1), .val (.int (0 : Int32)), .val (.long (0 : Int64)), .second, .val (.long m0), .second, .val (.long m1), .second, .val (.long m2), .second, .val (.long (p3 ^^^ (0 : Int64))), .second, .unset, .unset, .unset, .unset, .unset, .unset, .unset, .unset, .unset, .unset, .unset, .unset, .unset, .unset, .unset, .unset, .unset, .unset, .unset, .unset, .unset, .unset] []))
  obtain ⟨m3, e_m3⟩ : ∃ z : Int64, z = (p3 ^^^ (0 : Int64)) := ⟨_, rfl⟩
  rw [← e_m3]
  refine GoOn.st (fun t_ k_ => XS.aloadN X4.here hx rfl (hb hby d_prog_29_method_13_44) rfl rfl k_) ?_
  obtain ⟨T5, X5, e5, st5⟩ := getF X4 hx hZ hown (host := "") (Or.inl (hw _ (List.mem_of_getElem? (i := 79) rfl))) Via.refl e4 (own_I_get_product4 I0) (g := (mkF m 45 #[.val (.ref o1), .val (.int (0 : Int32)), .val (.long (0 : Int64)), .second, .val (.long m0), .second, .val (.long m1), .second, .val (.long m2), .second, .val (.long m3), .second, .unset, .unset, .unset, .unset, .unset, .unset, .unset, .unset, .unset, .unset, .unset, .unset, .unset, .unset, .unset, .unset, .unset, .unset, .unset, .unset, .unset, .unset] [(.ref o1)])) rfl rfl (hb hby d_prog_29_method_13_45)
  refine GoOn.st st5 ?_
  refine GoOn.st (fun t_ k_ => XS.lloadN X5.here hx rfl (hb hby d_prog_29_method_13_48) rfl k_) ?_
  show GoOn _ _ _ _ (T5.setTop (mkF m 49 #[.val (.ref o1), .val (.int (0 : Int32)), .val (.long (0 : Int64)), .second, .val (.long m0), .second, .val (.long m1), .second, .val (.long m2), .second, .val (.long m3), .second, .unset, .unset, .unset, .unset, .unset, .unset, .unset, .unset, .unset, .unset, .unset, .unset, .unset, .unset, .unset, .unset, .unset, .unset, .unset, .unset, .unset, .unset] [(.long (0 : Int64)), (.long p4)]))
  refine GoOn.st (fun t_ k_ => XS.lxor X5.here hx rfl (hb hby d_prog_29_method_13_49) rfl k_) ?_
  refine GoOn.st (fun t_ k_ => XS.lstore X5.here hx rfl (hb hby d_prog_29_method_13_50) rfl (l' := #[.val (.ref o1), .val (.int (0 : Int32)), .val (.long (0 : Int64)), .second, .val (.long m0), .second, .val (.long m1), .second, .val (.long m2), .second, .val (.long m3), .second, .val (.long (p4 ^^^ (0 : Int64))), .second, .unset, .unset, .unset, .unset, .unset, .unset, .unset, .unset, .unset, .unset, .unset, .unset, .unset, .unset, .unset, .unset, .unset, .unset, .unset, .unset]) rfl k_) ?_
  show GoOn _ _ _ _ (T5.setTop (mkF m 52 #[.val (.ref o1), .val (.int (0 : Int32)), .val (.long (0 : Int64)), .second, .val (.long m0), .second, .val (.long m1), .second, .val (.long m2), .second, .val (.long m3), .second, .val (.long (p4 ^^^ (0 : Int64))), .second, .unset, .unset, .unset, .unset, .unset, .unset, .unset, .unset, .unset, .unset, .unset, .unset, .unset, .unset, .unset, .unset, .unset, .unset, .unset, .unset] []))
  obtain ⟨m4, e_m4⟩ : ∃ z : Int64, z = (p4 ^^^ (0 : Int64)) := ⟨_, rfl⟩
  rw [← e_m4]
  refine GoOn.st (fun t_ k_ => XS.aloadN X5.here hx rfl (hb hby d_prog_29_method_13_52) rfl rfl k_) ?_
  obtain ⟨T6, X6, e6, st6⟩ := getF X5 hx hZ hown (host := "") (Or.inl (hw _ (List.mem_of_getElem? (i := 9) rfl))) Via.refl e5 (own_I_get_limb0 I0) (g := (mkF m 53 #[.val (.ref o1), .val (.int (0 : Int32)), .val (.long (0 : Int64)), .second, .val (.long m0), .second, .val (.long m1), .second, .val (.long m2), .second, .val (.long m3), .second, .val (.long m4), .second, .unset, .unset, .unset, .unset, .unset, .unset, .unset, .unset, .unset, .unset, .unset, .unset, .unset, .unset, .unset, .unset, .unset, .unset, .unset, .unset] [(.ref o1)])) rfl rfl (hb hby d_prog_29_method_13_53)
  refine GoOn.st st6 ?_
  refine GoOn.st (fun t_ k_ => XS.lload X6.here hx rfl (hb hby d_prog_29_method_13_56) rfl k_) ?_
  show GoOn _ _ _ _ (T6.setTop (mkF m 58 #[.val (.ref o1), .val (.int (0 : Int32)), .val (.long (0 : Int64)), .second, .val (.long m0), .second, .val (.long m1), .second, .val (.long m2), .second, .val (.long m3), .second, .val (.long m4), .second, .unset, .unset, .unset, .unset, .unset, .unset, .unset, .unset, .unset, .unset, .unset, .unset, .unset, .unset, .unset, .unset, .unset, .unset, .unset, .unset] [(.long m0), (.long l0)]))
  refine GoOn.st (fun t_ k_ => XS.ladd X6.here hx rfl (hb hby d_prog_29_method_13_58) rfl k_) ?_
  refine GoOn.st (fun t_ k_ => XS.iloadN X6.here hx rfl (hb hby d_prog_29_method_13_59) rfl k_) ?_
  refine GoOn.st (fun t_ k_ => XS.ifYes X6.here hx rfl (pc0 := 60) (pc' := 67) rfl (hb hby d_prog_29_method_13_60) rfl ((if0 _ _).trans (teq (by decide : (0 : Int32) = (0 : Int32))).1) (by decide) (by decide) k_) ?_
  refine GoOn.st (fun t_ k_ => XS.iconst X6.here hx rfl (hb hby d_prog_29_method_13_67)  k_) ?_
  show GoOn _ _ _ _ (T6.setTop (mkF m 68 #[.val (.ref o1), .val (.int (0 : Int32)), .val (.long (0 : Int64)), .second, .val (.long m0), .second, .val (.long m1), .second, .val (.long m2), .second, .val (.long m3), .second, .val (.long m4), .second, .unset, .unset, .unset, .unset, .unset, .unset, .unset, .unset, .unset, .unset, .unset, .unset, .unset, .unset, .unset, .unset, .unset, .unset, .unset, .unset] [(.int (0 : Int32)), (.long (l0 + m0))]))
  refine GoOn.st (fun t_ k_ => XS.i2l X6.here hx rfl (hb hby d_prog_29_method_13_68) rfl k_) ?_
  refine GoOn.st (fun t_ k_ => XS.ladd X6.here hx rfl (hb hby d_prog_29_method_13_69) rfl k_) ?_
  refine GoOn.st (fun t_ k_ => XS.lstore X6.here hx rfl (hb hby d_prog_29_method_13_70) rfl (l' := #[.val (.ref o1), .val (.int (0 : Int32)), .val (.long (0 : Int64)), .second, .val (.long m0), .second, .val (.long m1), .second, .val (.long m2), .second, .val (.long m3), .second, .val (.long m4), .second, .val (.long ((l0 + m0) + (((0 : Int32)).toInt64))), .second, .unset, .unset, .unset, .unset, .unset, .unset, .unset, .unset, .unset, .unset, .unset, .unset, .unset, .unset, .unset, .unset, .unset, .unset]) rfl k_) ?_
  show GoOn _ _ _ _ (T6.setTop (mkF m 72 #[.val (.ref o1), .val (.int (0 : Int32)), .val (.long (0 : Int64)), .second, .val (.long m0), .second, .val (.long m1), .second, .val (.long m2), .second, .val (.long m3), .second, .val (.long m4), .second, .val (.long ((l0 + m0) + (((0 : Int32)).toInt64))), .second, .unset, .unset, .unset, .unset, .unset, .unset, .unset, .unset, .unset, .unset, .unset, .unset, .unset, .unset, .unset, .unset, .unset, .unset] []))
  obtain ⟨s0, e_s0⟩ : ∃ z : Int64, z = ((l0 + m0) + (((0 : Int32)).toInt64)) := ⟨_, rfl⟩
  rw [← e_s0]
  refine GoOn.st (fun t_ k_ => XS.aloadN X6.here hx rfl (hb hby d_prog_29_method_13_72) rfl rfl k_) ?_
  obtain ⟨T7, X7, e7, st7⟩ := getF X6 hx hZ hown (host := "") (Or.inl (hw _ (List.mem_of_getElem? (i := 9) rfl))) Via.refl e6 (own_I_get_limb0 I0) (g := (mkF m 73 #[.val (.ref o1), .val (.int (0 : Int32)), .val (.long (0 : Int64)), .second, .val (.long m0), .second, .val (.long m1), .second, .val (.long m2), .second, .val (.long m3), .second, .val (.long m4), .second, .val (.long s0), .second, .unset, .unset, .unset, .unset, .unset, .unset, .unset, .unset, .unset, .unset, .unset, .unset, .unset, .unset, .unset, .unset, .unset, .unset] [(.ref o1)])) rfl rfl (hb hby d_prog_29_method_13_73)
  refine GoOn.st st7 ?_
  refine GoOn.st (fun t_ k_ => XS.lload X7.here hx rfl (hb hby d_prog_29_method_13_76) rfl k_) ?_
  show GoOn _ _ _ _ (T7.setTop (mkF m 78 #[.val (.ref o1), .val (.int (0 : Int32)), .val (.long (0 : Int64)), .second, .val (.long m0), .second, .val (.long m1), .second, .val (.long m2), .second, .val (.long m3), .second, .val (.long m4), .second, .val (.long s0), .second, .unset, .unset, .unset, .unset, .unset, .unset, .unset, .unset, .unset, .unset, .unset, .unset, .unset, .unset, .unset, .unset, .unset, .unset] [(.long m0), (.long l0)]))
  refine GoOn.st (fun t_ k_ => XS.lload X7.here hx rfl (hb hby d_prog_29_method_13_78) rfl k_) ?_
  show GoOn _ _ _ _ (T7.setTop (mkF m 80 #[.val (.ref o1), .val (.int (0 : Int32)), .val (.long (0 : Int64)), .second, .val (.long m0), .second, .val (.long m1), .second, .val (.long m2), .second, .val (.long m3), .second, .val (.long m4), .second, .val (.long s0), .second, .unset, .unset, .unset, .unset, .unset, .unset, .unset, .unset, .unset, .unset, .unset, .unset, .unset, .unset, .unset, .unset, .unset, .unset] [(.long s0), (.long m0), (.long l0)]))
  refine GoOn.callS (W := 0) (argsL := [(.long l0), (.long m0), (.long s0)]) (rest := []) X7 hx hZ hown (hw _ (List.mem_of_getElem? (i := 66) rfl)) (hw _ (List.mem_of_getElem? (i := 67) rfl)) (hw _ (List.mem_of_getElem? (i := 40) rfl)) (hw _ (List.mem_of_getElem? (i := 68) rfl)) (by decide) (rm_carry l Z a0 hw l0 m0 s0 h0) e7 (by decide) (by decide) (by rw [hml]; rfl) pd_1 rfl rfl (Nat.le_of_eq rfl) (hb hby d_prog_29_method_13_80) (by decide) (by decide) ?_
  rintro _ T8 L8 X8 ⟨rfl, rfl, e8⟩
  rw [List.append_nil] at X8
  refine GoOn.st (fun t_ k_ => XS.lstore X8.here hx rfl (hb hby d_prog_29_method_13_83) rfl (l' := #[.val (.ref o1), .val (.int (0 : Int32)), .val (.long (0 : Int64)), .second, .val (.long m0), .second, .val (.long m1), .second, .val (.long m2), .second, .val (.long m3), .second, .val (.long m4), .second, .val (.long s0), .second, .val (.long (own_carry l0 m0 s0)), .second, .unset, .unset, .unset, .unset, .unset, .unset, .unset, .unset, .unset, .unset, .unset, .unset, .unset, .unset, .unset, .unset]) rfl k_) ?_
  show GoOn _ _ _ _ (T8.setTop (mkF m 85 #[.val (.ref o1), .val (.int (0 : Int32)), .val (.long (0 : Int64)), .second, .val (.long m0), .second, .val (.long m1), .second, .val (.long m2), .second, .val (.long m3), .second, .val (.long m4), .second, .val (.long s0), .second, .val (.long (own_carry l0 m0 s0)), .second, .unset, .unset, .unset, .unset, .unset, .unset, .unset, .unset, .unset, .unset, .unset, .unset, .unset, .unset, .unset, .unset] []))
  obtain ⟨c0, e_c0⟩ : ∃ z : Int64, z = (own_carry l0 m0 s0) := ⟨_, rfl⟩
  rw [← e_c0]
  refine GoOn.st (fun t_ k_ => XS.aloadN X8.here hx rfl (hb hby d_prog_29_method_13_85) rfl rfl k_) ?_
  obtain ⟨T9, X9, e9, st9⟩ := getF X8 hx hZ hown (host := "") (Or.inl (hw _ (List.mem_of_getElem? (i := 11) rfl))) Via.refl e8 (own_I_get_limb1 I0) (g := (mkF m 86 #[.val (.ref o1), .val (.int (0 : Int32)), .val (.long (0 : Int64)), .second, .val (.long m0), .second, .val (.long m1), .second, .val (.long m2), .second, .val (.long m3), .second, .val (.long m4), .second, .val (.long s0), .second, .val (.long c0), .second, .unset, .unset, .unset, .unset, .unset, .unset, .unset, .unset, .unset, .unset, .unset, .unset, .unset, .unset, .unset, .unset] [(.ref o1)])) rfl rfl (hb hby d_prog_29_method_13_86)
  refine GoOn.st st9 ?_
  refine GoOn.st (fun t_ k_ => XS.lload X9.here hx rfl (hb hby d_prog_29_method_13_89) rfl k_) ?_
  show GoOn _ _ _ _ (T9.setTop (mkF m 91 #[.val (.ref o1), .val (.int (0 : Int32)), .val (.long (0 : Int64)), .second, .val (.long m0), .second, .val (.long m1), .second, .val (.long m2), .second, .val (.long m3), .second, .val (.long m4), .second, .val (.long s0), .second, .val (.long c0), .second, .unset, .unset, .unset, .unset, .unset, .unset, .unset, .unset, .unset, .unset, .unset, .unset, .unset, .unset, .unset, .unset] [(.long m1), (.long l1)]))
  refine GoOn.st (fun t_ k_ => XS.ladd X9.here hx rfl (hb hby d_prog_29_method_13_91) rfl k_) ?_
  refine GoOn.st (fun t_ k_ => XS.lload X9.here hx rfl (hb hby d_prog_29_method_13_92) rfl k_) ?_
  refine GoOn.st (fun t_ k_ => XS.ladd X9.here hx rfl (hb hby d_prog_29_method_13_94) rfl k_) ?_
  refine GoOn.st (fun t_ k_ => XS.lstore X9.here hx rfl (hb hby d_prog_29_method_13_95) rfl (l' := #[.val (.ref o1), .val (.int (0 : Int32)), .val (.long (0 : Int64)), .second, .val (.long m0), .second, .val (.long m1), .second, .val (.long m2), .second, .val (.long m3), .second, .val (.long m4), .second, .val (.long s0), .second, .val (.long c0), .second, .val (.long ((l1 + m1) + c0)), .second, .unset, .unset, .unset, .unset, .unset, .unset, .unset, .unset, .unset, .unset, .unset, .unset, .unset, .unset]) rfl k_) ?_
  show GoOn _ _ _ _ (T9.setTop (mkF m 97 #[.val (.ref o1), .val (.int (0 : Int32)), .val (.long (0 : Int64)), .second, .val (.long m0), .second, .val (.long m1), .second, .val (.long m2), .second, .val (.long m3), .second, .val (.long m4), .second, .val (.long s0), .second, .val (.long c0), .second, .val (.long ((l1 + m1) + c0)), .second, .unset, .unset, .unset, .unset, .unset, .unset, .unset, .unset, .unset, .unset, .unset, .unset, .unset, .unset] []))
  obtain ⟨s1, e_s1⟩ : ∃ z : Int64, z = ((l1 + m1) + c0) := ⟨_, rfl⟩
  rw [← e_s1]
  refine GoOn.st (fun t_ k_ => XS.aloadN X9.here hx rfl (hb hby d_prog_29_method_13_97) rfl rfl k_) ?_
  obtain ⟨T10, X10, e10, st10⟩ := getF X9 hx hZ hown (host := "") (Or.inl (hw _ (List.mem_of_getElem? (i := 11) rfl))) Via.refl e9 (own_I_get_limb1 I0) (g := (mkF m 98 #[.val (.ref o1), .val (.int (0 : Int32)), .val (.long (0 : Int64)), .second, .val (.long m0), .second, .val (.long m1), .second, .val (.long m2), .second, .val (.long m3), .second, .val (.long m4), .second, .val (.long s0), .second, .val (.long c0), .second, .val (.long s1), .second, .unset, .unset, .unset, .unset, .unset, .unset, .unset, .unset, .unset, .unset, .unset, .unset, .unset, .unset] [(.ref o1)])) rfl rfl (hb hby d_prog_29_method_13_98)
  refine GoOn.st st10 ?_
  refine GoOn.st (fun t_ k_ => XS.lload X10.here hx rfl (hb hby d_prog_29_method_13_101) rfl k_) ?_
  show GoOn _ _ _ _ (T10.setTop (mkF m 103 #[.val (.ref o1), .val (.int (0 : Int32)), .val (.long (0 : Int64)), .second, .val (.long m0), .second, .val (.long m1), .second, .val (.long m2), .second, .val (.long m3), .second, .val (.long m4), .second, .val (.long s0), .second, .val (.long c0), .second, .val (.long s1), .second, .unset, .unset, .unset, .unset, .unset, .unset, .unset, .unset, .unset, .unset, .unset, .unset, .unset, .unset] [(.long m1), (.long l1)]))
  refine GoOn.st (fun t_ k_ => XS.lload X10.here hx rfl (hb hby d_prog_29_method_13_103) rfl k_) ?_
  show GoOn _ _ _ _ (T10.setTop (mkF m 105 #[.val (.ref o1), .val (.int (0 : Int32)), .val (.long (0 : Int64)), .second, .val (.long m0), .second, .val (.long m1), .second, .val (.long m2), .second, .val (.long m3), .second, .val (.long m4), .second, .val (.long s0), .second, .val (.long c0), .second, .val (.long s1), .second, .unset, .unset, .unset, .unset, .unset, .unset, .unset, .unset, .unset, .unset, .unset, .unset, .unset, .unset] [(.long s1), (.long m1), (.long l1)]))
  refine GoOn.callS (W := 0) (argsL := [(.long l1), (.long m1), (.long s1)]) (rest := []) X10 hx hZ hown (hw _ (List.mem_of_getElem? (i := 66) rfl)) (hw _ (List.mem_of_getElem? (i := 67) rfl)) (hw _ (List.mem_of_getElem? (i := 40) rfl)) (hw _ (List.mem_of_getElem? (i := 68) rfl)) (by decide) (rm_carry l Z a0 hw l1 m1 s1 h0) e10 (by decide) (by decide) (by rw [hml]; rfl) pd_1 rfl rfl (Nat.le_of_eq rfl) (hb hby d_prog_29_method_13_105) (by decide) (by decide) ?_
  rintro _ T11 L11 X11 ⟨rfl, rfl, e11⟩
  rw [List.append_nil] at X11
  refine GoOn.st (fun t_ k_ => XS.lstore X11.here hx rfl (hb hby d_prog_29_method_13_108) rfl (l' := #[.val (.ref o1), .val (.int (0 : Int32)), .val (.long (0 : Int64)), .second, .val (.long m0), .second, .val (.long m1), .second, .val (.long m2), .second, .val (.long m3), .second, .val (.long m4), .second, .val (.long s0), .second, .val (.long c0), .second, .val (.long s1), .second, .val (.long (own_carry l1 m1 s1)), .second, .unset, .unset, .unset, .unset, .unset, .unset, .unset, .unset, .unset, .unset, .unset, .unset]) rfl k_) ?_
  show GoOn _ _ _ _ (T11.setTop (mkF m 110 #[.val (.ref o1), .val (.int (0 : Int32)), .val (.long (0 : Int64)), .second, .val (.long m0), .second, .val (.long m1), .second, .val (.long m2), .second, .val (.long m3), .second, .val (.long m4), .second, .val (.long s0), .second, .val (.long c0), .second, .val (.long s1), .second, .val (.long (own_carry l1 m1 s1)), .second, .unset, .unset, .unset, .unset, .unset, .unset, .unset, .unset, .unset, .unset, .unset, .unset] []))
  obtain ⟨c1, e_c1⟩ : ∃ z : Int64, z = (own_carry l1 m1 s1) := ⟨_, rfl⟩
  rw [← e_c1]
  refine GoOn.st (fun t_ k_ => XS.aloadN X11.here hx rfl (hb hby d_prog_29_method_13_110) rfl rfl k_) ?_
  obtain ⟨T12, X12, e12, st12⟩ := getF X11 hx hZ hown (host := "") (Or.inl (hw _ (List.mem_of_getElem? (i := 13) rfl))) Via.refl e11 (own_I_get_limb2 I0) (g := (mkF m 111 #[.val (.ref o1), .val (.int (0 : Int32)), .val (.long (0 : Int64)), .second, .val (.long m0), .second, .val (.long m1), .second, .val (.long m2), .second, .val (.long m3), .second, .val (.long m4), .second, .val (.long s0), .second, .val (.long c0), .second, .val (.long s1), .second, .val (.long c1), .second, .unset, .unset, .unset, .unset, .unset, .unset, .unset, .unset, .unset, .unset, .unset, .unset] [(.ref o1)])) rfl rfl (hb hby d_prog_29_method_13_111)
  refine GoOn.st st12 ?_
  refine GoOn.st (fun t_ k_ => XS.lload X12.here hx rfl (hb hby d_prog_29_method_13_114) rfl k_) ?_
  show GoOn _ _ _ _ (T12.setTop (mkF m 116 #[.val (.ref o1), .val (.int (0 : Int32)), .val (.long (0 : Int64)), .second, .val (.long m0), .second, .val (.long m1), .second, .val (.long m2), .second, .val (.long m3), .second, .val (.long m4), .second, .val (.long s0), .second, .val (.long c0), .second, .val (.long s1), .second, .val (.long c1), .second, .unset, .unset, .unset, .unset, .unset, .unset, .unset, .unset, .unset, .unset, .unset, .unset] [(.long m2), (.long l2)]))
  refine GoOn.st (fun t_ k_ => XS.ladd X12.here hx rfl (hb hby d_prog_29_method_13_116) rfl k_) ?_
  refine GoOn.st (fun t_ k_ => XS.lload X12.here hx rfl (hb hby d_prog_29_method_13_117) rfl k_) ?_
  refine GoOn.st (fun t_ k_ => XS.ladd X12.here hx rfl (hb hby d_prog_29_method_13_119) rfl k_) ?_
  refine GoOn.st (fun t_ k_ => XS.lstore X12.here hx rfl (hb hby d_prog_29_method_13_120) rfl (l' := #[.val (.ref o1), .val (.int (0 : Int32)), .val (.long (0 : Int64)), .second, .val (.long m0), .second, .val (.long m1), .second, .val (.long m2), .second, .val (.long m3), .second, .val (.long m4), .second, .val (.long s0), .second, .val (.long c0), .second, .val (.long s1), .second, .val (.long c1), .second, .val (.long ((l2 + m2) + c1)), .second, .unset, .unset, .unset, .unset, .unset, .unset, .unset, .unset, .unset, .unset]) rfl k_) ?_
  show GoOn _ _ _ _ (T12.setTop (mkF m 122 #[.val (.ref o1), .val (.int (0 : Int32)), .val (.long (0 : Int64)), .second, .val (.long m0), .second, .val (.long m1), .second, .val (.long m2), .second, .val (.long m3), .second, .val (.long m4), .second, .val (.long s0), .second, .val (.long c0), .second, .val (.long s1), .second, .val (.long c1), .second, .val (.long ((l2 + m2) + c1)), .second, .unset, .unset, .unset, .unset, .unset, .unset, .unset, .unset, .unset, .unset] []))
  obtain ⟨s2, e_s2⟩ : ∃ z : Int64, z = ((l2 + m2) + c1) := ⟨_, rfl⟩
  rw [← e_s2]
  refine GoOn.st (fun t_ k_ => XS.aloadN X12.here hx rfl (hb hby d_prog_29_method_13_122) rfl rfl k_) ?_
  obtain ⟨T13, X13, e13, st13⟩ := getF X12 hx hZ hown (host := "") (Or.inl (hw _ (List.mem_of_getElem? (i := 13) rfl))) Via.refl e12 (own_I_get_limb2 I0) (g := (mkF m 123 #[.val (.ref o1), .val (.int (0 : Int32)), .val (.long (0 : Int64)), .second, .val (.long m0), .second, .val (.long m1), .second, .val (.long m2), .second, .val (.long m3), .second, .val (.long m4), .second, .val (.long s0), .second, .val (.long c0), .second, .val (.long s1), .second, .val (.long c1), .second, .val (.long s2), .second, .unset, .unset, .unset, .unset, .unset, .unset, .unset, .unset, .unset, .unset] [(.ref o1)])) rfl rfl (hb hby d_prog_29_method_13_123)
  refine GoOn.st st13 ?_
  refine GoOn.st (fun t_ k_ => XS.lload X13.here hx rfl (hb hby d_prog_29_method_13_126) rfl k_) ?_
  show GoOn _ _ _ _ (T13.setTop (mkF m 128 #[.val (.ref o1), .val (.int (0 : Int32)), .val (.long (0 : Int64)), .second, .val (.long m0), .second, .val (.long m1), .second, .val (.long m2), .second, .val (.long m3), .second, .val (.long m4), .second, .val (.long s0), .second, .val (.long c0), .second, .val (.long s1), .second, .val (.long c1), .second, .val (.long s2), .second, .unset, .unset, .unset, .unset, .unset, .unset, .unset, .unset, .unset, .unset] [(.long m2), (.long l2)]))
  refine GoOn.st (fun t_ k_ => XS.lload X13.here hx rfl (hb hby d_prog_29_method_13_128) rfl k_) ?_
  show GoOn _ _ _ _ (T13.setTop (mkF m 130 #[.val (.ref o1), .val (.int (0 : Int32)), .val (.long (0 : Int64)), .second, .val (.long m0), .second, .val (.long m1), .second, .val (.long m2), .second, .val (.long m3), .second, .val (.long m4), .second, .val (.long s0), .second, .val (.long c0), .second, .val (.long s1), .second, .val (.long c1), .second, .val (.long s2), .second, .unset, .unset, .unset, .unset, .unset, .unset, .unset, .unset, .unset, .unset] [(.long s2), (.long m2), (.long l2)]))
  refine GoOn.callS (W := 0) (argsL := [(.long l2), (.long m2), (.long s2)]) (rest := []) X13 hx hZ hown (hw _ (List.mem_of_getElem? (i := 66) rfl)) (hw _ (List.mem_of_getElem? (i := 67) rfl)) (hw _ (List.mem_of_getElem? (i := 40) rfl)) (hw _ (List.mem_of_getElem? (i := 68) rfl)) (by decide) (rm_carry l Z a0 hw l2 m2 s2 h0) e13 (by decide) (by decide) (by rw [hml]; rfl) pd_1 rfl rfl (Nat.le_of_eq rfl) (hb hby d_prog_29_method_13_130) (by decide) (by decide) ?_
  rintro _ T14 L14 X14 ⟨rfl, rfl, e14⟩
  rw [List.append_nil] at X14
  refine GoOn.st (fun t_ k_ => XS.lstore X14.here hx rfl (hb hby d_prog_29_method_13_133) rfl (l' := #[.val (.ref o1), .val (.int (0 : Int32)), .val (.long (0 : Int64)), .second, .val (.long m0), .second, .val (.long m1), .second, .val (.long m2), .second, .val (.long m3), .second, .val (.long m4), .second, .val (.long s0), .second, .val (.long c0), .second, .val (.long s1), .second, .val (.long c1), .second, .val (.long s2), .second, .val (.long (own_carry l2 m2 s2)), .second, .unset, .unset, .unset, .unset, .unset, .unset, .unset, .unset]) rfl k_) ?_
  show GoOn _ _ _ _ (T14.setTop (mkF m 135 #[.val (.ref o1), .val (.int (0 : Int32)), .val (.long (0 : Int64)), .second, .val (.long m0), .second, .val (.long m1), .second, .val (.long m2), .second, .val (.long m3), .second, .val (.long m4), .second, .val (.long s0), .second, .val (.long c0), .second, .val (.long s1), .second, .val (.long c1), .second, .val (.long s2), .second, .val (.long (own_carry l2 m2 s2)), .second, .unset, .unset, .unset, .unset, .unset, .unset, .unset, .unset] []))
  obtain ⟨c2, e_c2⟩ : ∃ z : Int64, z = (own_carry l2 m2 s2) := ⟨_, rfl⟩
  rw [← e_c2]
  refine GoOn.st (fun t_ k_ => XS.aloadN X14.here hx rfl (hb hby d_prog_29_method_13_135) rfl rfl k_) ?_
  obtain ⟨T15, X15, e15, st15⟩ := getF X14 hx hZ hown (host := "") (Or.inl (hw _ (List.mem_of_getElem? (i := 15) rfl))) Via.refl e14 (own_I_get_limb3 I0) (g := (mkF m 136 #[.val (.ref o1), .val (.int (0 : Int32)), .val (.long (0 : Int64)), .second, .val (.long m0), .second, .val (.long m1), .second, .val (.long m2), .second, .val (.long m3), .second, .val (.long m4), .second, .val (.long s0), .second, .val (.long c0), .second, .val (.long s1), .second, .val (.long c1), .second, .val (.long s2), .second, .val (.long c2), .second, .unset, .unset, .unset, .unset, .unset, .unset, .unset, .unset] [(.ref o1)])) rfl rfl (hb hby d_prog_29_method_13_136)
  refine GoOn.st st15 ?_
  refine GoOn.st (fun t_ k_ => XS.lload X15.here hx rfl (hb hby d_prog_29_method_13_139) rfl k_) ?_
  show GoOn _ _ _ _ (T15.setTop (mkF m 141 #[.val (.ref o1), .val (.int (0 : Int32)), .val (.long (0 : Int64)), .second, .val (.long m0), .second, .val (.long m1), .second, .val (.long m2), .second, .val (.long m3), .second, .val (.long m4), .second, .val (.long s0), .second, .val (.long c0), .second, .val (.long s1), .second, .val (.long c1), .second, .val (.long s2), .second, .val (.long c2), .second, .unset, .unset, .unset, .unset, .unset, .unset, .unset, .unset] [(.long m3), (.long l3)]))
  refine GoOn.st (fun t_ k_ => XS.ladd X15.here hx rfl (hb hby d_prog_29_method_13_141) rfl k_) ?_
  refine GoOn.st (fun t_ k_ => XS.lload X15.here hx rfl (hb hby d_prog_29_method_13_142) rfl k_) ?_
  refine GoOn.st (fun t_ k_ => XS.ladd X15.here hx rfl (hb hby d_prog_29_method_13_144) rfl k_) ?_
  refine GoOn.st (fun t_ k_ => XS.lstore X15.here hx rfl (hb hby d_prog_29_method_13_145) rfl (l' := #[.val (.ref o1), .val (.int (0 : Int32)), .val (.long (0 : Int64)), .second, .val (.long m0), .second, .val (.long m1), .second, .val (.long m2), .second, .val (.long m3), .second, .val (.long m4), .second, .val (.long s0), .second, .val (.long c0), .second, .val (.long s1), .second, .val (.long c1), .second, .val (.long s2), .second, .val (.long c2), .second, .val (.long ((l3 + m3) + c2)), .second, .unset, .unset, .unset, .unset, .unset, .unset]) rfl k_) ?_
  show GoOn _ _ _ _ (T15.setTop (mkF m 147 #[.val (.ref o1), .val (.int (0 : Int32)), .val (.long (0 : Int64)), .second, .val (.long m0), .second, .val (.long m1), .second, .val (.long m2), .second, .val (.long m3), .second, .val (.long m4), .second, .val (.long s0), .second, .val (.long c0), .second, .val (.long s1), .second, .val (.long c1), .second, .val (.long s2), .second, .val (.long c2), .second, .val (.long ((l3 + m3) + c2)), .second, .unset, .unset, .unset, .unset, .unset, .unset] []))
  obtain ⟨s3, e_s3⟩ : ∃ z : Int64, z = ((l3 + m3) + c2) := ⟨_, rfl⟩
  rw [← e_s3]
  refine GoOn.st (fun t_ k_ => XS.aloadN X15.here hx rfl (hb hby d_prog_29_method_13_147) rfl rfl k_) ?_
  obtain ⟨T16, X16, e16, st16⟩ := getF X15 hx hZ hown (host := "") (Or.inl (hw _ (List.mem_of_getElem? (i := 15) rfl))) Via.refl e15 (own_I_get_limb3 I0) (g := (mkF m 148 #[.val (.ref o1), .val (.int (0 : Int32)), .val (.long (0 : Int64)), .second, .val (.long m0), .second, .val (.long m1), .second, .val (.long m2), .second, .val (.long m3), .second, .val (.long m4), .second, .val (.long s0), .second, .val (.long c0), .second, .val (.long s1), .second, .val (.long c1), .second, .val (.long s2), .second, .val (.long c2), .second, .val (.long s3), .second, .unset, .unset, .unset, .unset, .unset, .unset] [(.ref o1)])) rfl rfl (hb hby d_prog_29_method_13_148)
  refine GoOn.st st16 ?_
  refine GoOn.st (fun t_ k_ => XS.lload X16.here hx rfl (hb hby d_prog_29_method_13_151) rfl k_) ?_
  show GoOn _ _ _ _ (T16.setTop (mkF m 153 #[.val (.ref o1), .val (.int (0 : Int32)), .val (.long (0 : Int64)), .second, .val (.long m0), .second, .val (.long m1), .second, .val (.long m2), .second, .val (.long m3), .second, .val (.long m4), .second, .val (.long s0), .second, .val (.long c0), .second, .val (.long s1), .second, .val (.long c1), .second, .val (.long s2), .second, .val (.long c2), .second, .val (.long s3), .second, .unset, .unset, .unset, .unset, .unset, .unset] [(.long m3), (.long l3)]))
  refine GoOn.st (fun t_ k_ => XS.lload X16.here hx rfl (hb hby d_prog_29_method_13_153) rfl k_) ?_
  show GoOn _ _ _ _ (T16.setTop (mkF m 155 #[.val (.ref o1), .val (.int (0 : Int32)), .val (.long (0 : Int64)), .second, .val (.long m0), .second, .val (.long m1), .second, .val (.long m2), .second, .val (.long m3), .second, .val (.long m4), .second, .val (.long s0), .second, .val (.long c0), .second, .val (.long s1), .second, .val (.long c1), .second, .val (.long s2), .second, .val (.long c2), .second, .val (.long s3), .second, .unset, .unset, .unset, .unset, .unset, .unset] [(.long s3), (.long m3), (.long l3)]))
  refine GoOn.callS (W := 0) (argsL := [(.long l3), (.long m3), (.long s3)]) (rest := []) X16 hx hZ hown (hw _ (List.mem_of_getElem? (i := 66) rfl)) (hw _ (List.mem_of_getElem? (i := 67) rfl)) (hw _ (List.mem_of_getElem? (i := 40) rfl)) (hw _ (List.mem_of_getElem? (i := 68) rfl)) (by decide) (rm_carry l Z a0 hw l3 m3 s3 h0) e16 (by decide) (by decide) (by rw [hml]; rfl) pd_1 rfl rfl (Nat.le_of_eq rfl) (hb hby d_prog_29_method_13_155) (by decide) (by decide) ?_
  rintro _ T17 L17 X17 ⟨rfl, rfl, e17⟩
  rw [List.append_nil] at X17
  refine GoOn.st (fun t_ k_ => XS.lstore X17.here hx rfl (hb hby d_prog_29_method_13_158) rfl (l' := #[.val (.ref o1), .val (.int (0 : Int32)), .val (.long (0 : Int64)), .second, .val (.long m0), .second, .val (.long m1), .second, .val (.long m2), .second, .val (.long m3), .second, .val (.long m4), .second, .val (.long s0), .second, .val (.long c0), .second, .val (.long s1), .second, .val (.long c1), .second, .val (.long s2), .second, .val (.long c2), .second, .val (.long s3), .second, .val (.long (own_carry l3 m3 s3)), .second, .unset, .unset, .unset, .unset]) rfl k_) ?_
  show GoOn _ _ _ _ (T17.setTop (mkF m 160 #[.val (.ref o1), .val (.int (0 : Int32)), .val (.long (0 : Int64)), .second, .val (.long m0), .second, .val (.long m1), .second, .val (.long m2), .second, .val (.long m3), .second, .val (.long m4), .second, .val (.long s0), .second, .val (.long c0), .second, .val (.long s1), .second, .val (.long c1), .second, .val (.long s2), .second, .val (.long c2), .second, .val (.long s3), .second, .val (.long (own_carry l3 m3 s3)), .second, .unset, .unset, .unset, .unset] []))
  obtain ⟨c3, e_c3⟩ : ∃ z : Int64, z = (own_carry l3 m3 s3) := ⟨_, rfl⟩
  rw [← e_c3]
  refine GoOn.st (fun t_ k_ => XS.aloadN X17.here hx rfl (hb hby d_prog_29_method_13_160) rfl rfl k_) ?_
  obtain ⟨T18, X18, e18, st18⟩ := getF X17 hx hZ hown (host := "") (Or.inl (hw _ (List.mem_of_getElem? (i := 17) rfl))) Via.refl e17 (own_I_get_limb4 I0) (g := (mkF m 161 #[.val (.ref o1), .val (.int (0 : Int32)), .val (.long (0 : Int64)), .second, .val (.long m0), .second, .val (.long m1), .second, .val (.long m2), .second, .val (.long m3), .second, .val (.long m4), .second, .val (.long s0), .second, .val (.long c0), .second, .val (.long s1), .second, .val (.long c1), .second, .val (.long s2), .second, .val (.long c2), .second, .val (.long s3), .second, .val (.long c3), .second, .unset, .unset, .unset, .unset] [(.ref o1)])) rfl rfl (hb hby d_prog_29_method_13_161)
  refine GoOn.st st18 ?_
  refine GoOn.st (fun t_ k_ => XS.lload X18.here hx rfl (hb hby d_prog_29_method_13_164) rfl k_) ?_
  show GoOn _ _ _ _ (T18.setTop (mkF m 166 #[.val (.ref o1), .val (.int (0 : Int32)), .val (.long (0 : Int64)), .second, .val (.long m0), .second, .val (.long m1), .second, .val (.long m2), .second, .val (.long m3), .second, .val (.long m4), .second, .val (.long s0), .second, .val (.long c0), .second, .val (.long s1), .second, .val (.long c1), .second, .val (.long s2), .second, .val (.long c2), .second, .val (.long s3), .second, .val (.long c3), .second, .unset, .unset, .unset, .unset] [(.long m4), (.long l4)]))
  refine GoOn.st (fun t_ k_ => XS.ladd X18.here hx rfl (hb hby d_prog_29_method_13_166) rfl k_) ?_
  refine GoOn.st (fun t_ k_ => XS.lload X18.here hx rfl (hb hby d_prog_29_method_13_167) rfl k_) ?_
  refine GoOn.st (fun t_ k_ => XS.ladd X18.here hx rfl (hb hby d_prog_29_method_13_169) rfl k_) ?_
  refine GoOn.st (fun t_ k_ => XS.lstore X18.here hx rfl (hb hby d_prog_29_method_13_170) rfl (l' := #[.val (.ref o1), .val (.int (0 : Int32)), .val (.long (0 : Int64)), .second, .val (.long m0), .second, .val (.long m1), .second, .val (.long m2), .second, .val (.long m3), .second, .val (.long m4), .second, .val (.long s0), .second, .val (.long c0), .second, .val (.long s1), .second, .val (.long c1), .second, .val (.long s2), .second, .val (.long c2), .second, .val (.long s3), .second, .val (.long c3), .second, .val (.long ((l4 + m4) + c3)), .second, .unset, .unset]) rfl k_) ?_
  show GoOn _ _ _ _ (T18.setTop (mkF m 172 #[.val (.ref o1), .val (.int (0 : Int32)), .val (.long (0 : Int64)), .second, .val (.long m0), .second, .val (.long m1), .second, .val (.long m2), .second, .val (.long m3), .second, .val (.long m4), .second, .val (.long s0), .second, .val (.long c0), .second, .val (.long s1), .second, .val (.long c1), .second, .val (.long s2), .second, .val (.long c2), .second, .val (.long s3), .second, .val (.long c3), .second, .val (.long ((l4 + m4) + c3)), .second, .unset, .unset] []))
  obtain ⟨s4, e_s4⟩ : ∃ z : Int64, z = ((l4 + m4) + c3) := ⟨_, rfl⟩
  rw [← e_s4]
  refine GoOn.st (fun t_ k_ => XS.aloadN X18.here hx rfl (hb hby d_prog_29_method_13_172) rfl rfl k_) ?_
  obtain ⟨T19, X19, e19, st19⟩ := getF X18 hx hZ hown (host := "") (Or.inl (hw _ (List.mem_of_getElem? (i := 17) rfl))) Via.refl e18 (own_I_get_limb4 I0) (g := (mkF m 173 #[.val (.ref o1), .val (.int (0 : Int32)), .val (.long (0 : Int64)), .second, .val (.long m0), .second, .val (.long m1), .second, .val (.long m2), .second, .val (.long m3), .second, .val (.long m4), .second, .val (.long s0), .second, .val (.long c0), .second, .val (.long s1), .second, .val (.long c1), .second, .val (.long s2), .second, .val (.long c2), .second, .val (.long s3), .second, .val (.long c3), .second, .val (.long s4), .second, .unset, .unset] [(.ref o1)])) rfl rfl (hb hby d_prog_29_method_13_173)
  refine GoOn.st st19 ?_
  refine GoOn.st (fun t_ k_ => XS.lload X19.here hx rfl (hb hby d_prog_29_method_13_176) rfl k_) ?_
  show GoOn _ _ _ _ (T19.setTop (mkF m 178 #[.val (.ref o1), .val (.int (0 : Int32)), .val (.long (0 : Int64)), .second, .val (.long m0), .second, .val (.long m1), .second, .val (.long m2), .second, .val (.long m3), .second, .val (.long m4), .second, .val (.long s0), .second, .val (.long c0), .second, .val (.long s1), .second, .val (.long c1), .second, .val (.long s2), .second, .val (.long c2), .second, .val (.long s3), .second, .val (.long c3), .second, .val (.long s4), .second, .unset, .unset] [(.long m4), (.long l4)]))
  refine GoOn.st (fun t_ k_ => XS.lload X19.here hx rfl (hb hby d_prog_29_method_13_178) rfl k_) ?_
  show GoOn _ _ _ _ (T19.setTop (mkF m 180 #[.val (.ref o1), .val (.int (0 : Int32)), .val (.long (0 : Int64)), .second, .val (.long m0), .second, .val (.long m1), .second, .val (.long m2), .second, .val (.long m3), .second, .val (.long m4), .second, .val (.long s0), .second, .val (.long c0), .second, .val (.long s1), .second, .val (.long c1), .second, .val (.long s2), .second, .val (.long c2), .second, .val (.long s3), .second, .val (.long c3), .second, .val (.long s4), .second, .unset, .unset] [(.long s4), (.long m4), (.long l4)]))
  refine GoOn.callS (W := 0) (argsL := [(.long l4), (.long m4), (.long s4)]) (rest := []) X19 hx hZ hown (hw _ (List.mem_of_getElem? (i := 66) rfl)) (hw _ (List.mem_of_getElem? (i := 67) rfl)) (hw _ (List.mem_of_getElem? (i := 40) rfl)) (hw _ (List.mem_of_getElem? (i := 68) rfl)) (by decide) (rm_carry l Z a0 hw l4 m4 s4 h0) e19 (by decide) (by decide) (by rw [hml]; rfl) pd_1 rfl rfl (Nat.le_of_eq rfl) (hb hby d_prog_29_method_13_180) (by decide) (by decide) ?_
  rintro _ T20 L20 X20 ⟨rfl, rfl, e20⟩
  rw [List.append_nil] at X20
  refine GoOn.st (fun t_ k_ => XS.lstore X20.here hx rfl (hb hby d_prog_29_method_13_183) rfl (l' := #[.val (.ref o1), .val (.int (0 : Int32)), .val (.long (0 : Int64)), .second, .val (.long m0), .second, .val (.long m1), .second, .val (.long m2), .second, .val (.long m3), .second, .val (.long m4), .second, .val (.long s0), .second, .val (.long c0), .second, .val (.long s1), .second, .val (.long c1), .second, .val (.long s2), .second, .val (.long c2), .second, .val (.long s3), .second, .val (.long c3), .second, .val (.long s4), .second, .val (.long (own_carry l4 m4 s4)), .second]) rfl k_) ?_
  show GoOn _ _ _ _ (T20.setTop (mkF m 185 #[.val (.ref o1), .val (.int (0 : Int32)), .val (.long (0 : Int64)), .second, .val (.long m0), .second, .val (.long m1), .second, .val (.long m2), .second, .val (.long m3), .second, .val (.long m4), .second, .val (.long s0), .second, .val (.long c0), .second, .val (.long s1), .second, .val (.long c1), .second, .val (.long s2), .second, .val (.long c2), .second, .val (.long s3), .second, .val (.long c3), .second, .val (.long s4), .second, .val (.long (own_carry l4 m4 s4)), .second] []))
  obtain ⟨c4, e_c4⟩ : ∃ z : Int64, z = (own_carry l4 m4 s4) := ⟨_, rfl⟩
  rw [← e_c4]
  refine GoOn.st (fun t_ k_ => XS.aloadN X20.here hx rfl (hb hby d_prog_29_method_13_185) rfl rfl k_) ?_
  refine GoOn.st (fun t_ k_ => XS.dup X20.here hx rfl (hb hby d_prog_29_method_13_186) rfl rfl k_) ?_
  obtain ⟨T21, X21, e21, st21⟩ := getF X20 hx hZ hown (host := "") (Or.inl (hw _ (List.mem_of_getElem? (i := 19) rfl))) Via.refl e20 (own_I_get_limb5 I0) (g := (mkF m 187 #[.val (.ref o1), .val (.int (0 : Int32)), .val (.long (0 : Int64)), .second, .val (.long m0), .second, .val (.long m1), .second, .val (.long m2), .second, .val (.long m3), .second, .val (.long m4), .second, .val (.long s0), .second, .val (.long c0), .second, .val (.long s1), .second, .val (.long c1), .second, .val (.long s2), .second, .val (.long c2), .second, .val (.long s3), .second, .val (.long c3), .second, .val (.long s4), .second, .val (.long c4), .second] [(.ref o1), (.ref o1)])) rfl rfl (hb hby d_prog_29_method_13_187)
  refine GoOn.st st21 ?_
  show GoOn _ _ _ _ (T21.setTop (mkF m 190 #[.val (.ref o1), .val (.int (0 : Int32)), .val (.long (0 : Int64)), .second, .val (.long m0), .second, .val (.long m1), .second, .val (.long m2), .second, .val (.long m3), .second, .val (.long m4), .second, .val (.long s0), .second, .val (.long c0), .second, .val (.long s1), .second, .val (.long c1), .second, .val (.long s2), .second, .val (.long c2), .second, .val (.long s3), .second, .val (.long c3), .second, .val (.long s4), .second, .val (.long c4), .second] [(.long l5), (.ref o1)]))
  refine GoOn.st (fun t_ k_ => XS.aloadN X21.here hx rfl (hb hby d_prog_29_method_13_190) rfl rfl k_) ?_
  obtain ⟨T22, X22, e22, st22⟩ := getF X21 hx hZ hown (host := "") (Or.inl (hw _ (List.mem_of_getElem? (i := 86) rfl))) Via.refl e21 (own_I_get_product5 I0) (g := (mkF m 191 #[.val (.ref o1), .val (.int (0 : Int32)), .val (.long (0 : Int64)), .second, .val (.long m0), .second, .val (.long m1), .second, .val (.long m2), .second, .val (.long m3), .second, .val (.long m4), .second, .val (.long s0), .second, .val (.long c0), .second, .val (.long s1), .second, .val (.long c1), .second, .val (.long s2), .second, .val (.long c2), .second, .val (.long s3), .second, .val (.long c3), .second, .val (.long s4), .second, .val (.long c4), .second] [(.ref o1), (.long l5), (.ref o1)])) rfl rfl (hb hby d_prog_29_method_13_191)
  refine GoOn.st st22 ?_
  refine GoOn.st (fun t_ k_ => XS.lloadN X22.here hx rfl (hb hby d_prog_29_method_13_194) rfl k_) ?_
  refine GoOn.st (fun t_ k_ => XS.lxor X22.here hx rfl (hb hby d_prog_29_method_13_195) rfl k_) ?_
  show GoOn _ _ _ _ (T22.setTop (mkF m 196 #[.val (.ref o1), .val (.int (0 : Int32)), .val (.long (0 : Int64)), .second, .val (.long m0), .second, .val (.long m1), .second, .val (.long m2), .second, .val (.long m3), .second, .val (.long m4), .second, .val (.long s0), .second, .val (.long c0), .second, .val (.long s1), .second, .val (.long c1), .second, .val (.long s2), .second, .val (.long c2), .second, .val (.long s3), .second, .val (.long c3), .second, .val (.long s4), .second, .val (.long c4), .second] [(.long (p5 ^^^ (0 : Int64))), (.long l5), (.ref o1)]))
  refine GoOn.st (fun t_ k_ => XS.lload X22.here hx rfl (hb hby d_prog_29_method_13_196) rfl k_) ?_
  refine GoOn.st (fun t_ k_ => XS.ladd X22.here hx rfl (hb hby d_prog_29_method_13_198) rfl k_) ?_
  refine GoOn.st (fun t_ k_ => XS.ladd X22.here hx rfl (hb hby d_prog_29_method_13_199) rfl k_) ?_
  obtain ⟨T23, h23, X23, e23, W23, st23⟩ := putF X22 hx hZ hown (host := "") (Or.inl (hw _ (List.mem_of_getElem? (i := 19) rfl))) Via.refl e22 (own_I_get_limb5 I0) (own_I_exa I0) (Or.inl (hw _ (List.mem_of_getElem? (i := 20) rfl))) (hw _ (List.mem_of_getElem? (i := 1) rfl)) (ty := .long) (by decide) rfl rfl (g := (mkF m 200 #[.val (.ref o1), .val (.int (0 : Int32)), .val (.long (0 : Int64)), .second, .val (.long m0), .second, .val (.long m1), .second, .val (.long m2), .second, .val (.long m3), .second, .val (.long m4), .second, .val (.long s0), .second, .val (.long c0), .second, .val (.long s1), .second, .val (.long c1), .second, .val (.long s2), .second, .val (.long c2), .second, .val (.long s3), .second, .val (.long c3), .second, .val (.long s4), .second, .val (.long c4), .second] [(.long (l5 + ((p5 ^^^ (0 : Int64)) + c4))), (.ref o1)])) rfl rfl (hb hby d_prog_29_method_13_200)
  have I23 := own_I_put_limb5 hw W23 I0
  have N24 := Fr.snoc X23 N0 g_o1
  refine GoOn.st st23 ?_
  show GoOn _ _ _ _ (T23.setTop (mkF m 203 #[.val (.ref o1), .val (.int (0 : Int32)), .val (.long (0 : Int64)), .second, .val (.long m0), .second, .val (.long m1), .second, .val (.long m2), .second, .val (.long m3), .second, .val (.long m4), .second, .val (.long s0), .second, .val (.long c0), .second, .val (.long s1), .second, .val (.long c1), .second, .val (.long s2), .second, .val (.long c2), .second, .val (.long s3), .second, .val (.long c3), .second, .val (.long s4), .second, .val (.long c4), .second] []))
  refine GoOn.st (fun t_ k_ => XS.aloadN X23.here hx rfl (hb hby d_prog_29_method_13_203) rfl rfl k_) ?_
  refine GoOn.st (fun t_ k_ => XS.lload X23.here hx rfl (hb hby d_prog_29_method_13_204) rfl k_) ?_
  obtain ⟨T25, h25, X25, e25, W25, st25⟩ := putF X23 hx hZ hown (host := "") (Or.inl (hw _ (List.mem_of_getElem? (i := 9) rfl))) Via.refl e23 (own_I_get_limb0 I23) (own_I_exa I23) (Or.inl (hw _ (List.mem_of_getElem? (i := 10) rfl))) (hw _ (List.mem_of_getElem? (i := 1) rfl)) (ty := .long) (by decide) rfl rfl (g := (mkF m 206 #[.val (.ref o1), .val (.int (0 : Int32)), .val (.long (0 : Int64)), .second, .val (.long m0), .second, .val (.long m1), .second, .val (.long m2), .second, .val (.long m3), .second, .val (.long m4), .second, .val (.long s0), .second, .val (.long c0), .second, .val (.long s1), .second, .val (.long c1), .second, .val (.long s2), .second, .val (.long c2), .second, .val (.long s3), .second, .val (.long c3), .second, .val (.long s4), .second, .val (.long c4), .second] [(.long s0), (.ref o1)])) rfl rfl (hb hby d_prog_29_method_13_206)
  have I25 := own_I_put_limb0 hw W25 I23
  have N26 := Fr.snoc X25 N24 g_o1
  refine GoOn.st st25 ?_
  refine GoOn.st (fun t_ k_ => XS.aloadN X25.here hx rfl (hb hby d_prog_29_method_13_209) rfl rfl k_) ?_
  show GoOn _ _ _ _ (T25.setTop (mkF m 210 #[.val (.ref o1), .val (.int (0 : Int32)), .val (.long (0 : Int64)), .second, .val (.long m0), .second, .val (.long m1), .second, .val (.long m2), .second, .val (.long m3), .second, .val (.long m4), .second, .val (.long s0), .second, .val (.long c0), .second, .val (.long s1), .second, .val (.long c1), .second, .val (.long s2), .second, .val (.long c2), .second, .val (.long s3), .second, .val (.long c3), .second, .val (.long s4), .second, .val (.long c4), .second] [(.ref o1)]))
  refine GoOn.st (fun t_ k_ => XS.lload X25.here hx rfl (hb hby d_prog_29_method_13_210) rfl k_) ?_
  obtain ⟨T27, h27, X27, e27, W27, st27⟩ := putF X25 hx hZ hown (host := "") (Or.inl (hw _ (List.mem_of_getElem? (i := 11) rfl))) Via.refl e25 (own_I_get_limb1 I25) (own_I_exa I25) (Or.inl (hw _ (List.mem_of_getElem? (i := 12) rfl))) (hw _ (List.mem_of_getElem? (i := 1) rfl)) (ty := .long) (by decide) rfl rfl (g := (mkF m 212 #[.val (.ref o1), .val (.int (0 : Int32)), .val (.long (0 : Int64)), .second, .val (.long m0), .second, .val (.long m1), .second, .val (.long m2), .second, .val (.long m3), .second, .val (.long m4), .second, .val (.long s0), .second, .val (.long c0), .second, .val (.long s1), .second, .val (.long c1), .second, .val (.long s2), .second, .val (.long c2), .second, .val (.long s3), .second, .val (.long c3), .second, .val (.long s4), .second, .val (.long c4), .second] [(.long s1), (.ref o1)])) rfl rfl (hb hby d_prog_29_method_13_212)
  have I27 := own_I_put_limb1 hw W27 I25
  have N28 := Fr.snoc X27 N26 g_o1
  refine GoOn.st st27 ?_
  refine GoOn.st (fun t_ k_ => XS.aloadN X27.here hx rfl (hb hby d_prog_29_method_13_215) rfl rfl k_) ?_
  refine GoOn.st (fun t_ k_ => XS.lload X27.here hx rfl (hb hby d_prog_29_method_13_216) rfl k_) ?_
  show GoOn _ _ _ _ (T27.setTop (mkF m 218 #[.val (.ref o1), .val (.int (0 : Int32)), .val (.long (0 : Int64)), .second, .val (.long m0), .second, .val (.long m1), .second, .val (.long m2), .second, .val (.long m3), .second, .val (.long m4), .second, .val (.long s0), .second, .val (.long c0), .second, .val (.long s1), .second, .val (.long c1), .second, .val (.long s2), .second, .val (.long c2), .second, .val (.long s3), .second, .val (.long c3), .second, .val (.long s4), .second, .val (.long c4), .second] [(.long s2), (.ref o1)]))
  obtain ⟨T29, h29, X29, e29, W29, st29⟩ := putF X27 hx hZ hown (host := "") (Or.inl (hw _ (List.mem_of_getElem? (i := 13) rfl))) Via.refl e27 (own_I_get_limb2 I27) (own_I_exa I27) (Or.inl (hw _ (List.mem_of_getElem? (i := 14) rfl))) (hw _ (List.mem_of_getElem? (i := 1) rfl)) (ty := .long) (by decide) rfl rfl (g := (mkF m 218 #[.val (.ref o1), .val (.int (0 : Int32)), .val (.long (0 : Int64)), .second, .val (.long m0), .second, .val (.long m1), .second, .val (.long m2), .second, .val (.long m3), .second, .val (.long m4), .second, .val (.long s0), .second, .val (.long c0), .second, .val (.long s1), .second, .val (.long c1), .second, .val (.long s2), .second, .val (.long c2), .second, .val (.long s3), .second, .val (.long c3), .second, .val (.long s4), .second, .val (.long c4), .second] [(.long s2), (.ref o1)])) rfl rfl (hb hby d_prog_29_method_13_218)
  have I29 := own_I_put_limb2 hw W29 I27
  have N30 := Fr.snoc X29 N28 g_o1
  refine GoOn.st st29 ?_
  refine GoOn.st (fun t_ k_ => XS.aloadN X29.here hx rfl (hb hby d_prog_29_method_13_221) rfl rfl k_) ?_
  refine GoOn.st (fun t_ k_ => XS.lload X29.here hx rfl (hb hby d_prog_29_method_13_222) rfl k_) ?_
  obtain ⟨T31, h31, X31, e31, W31, st31⟩ := putF X29 hx hZ hown (host := "") (Or.inl (hw _ (List.mem_of_getElem? (i := 15) rfl))) Via.refl e29 (own_I_get_limb3 I29) (own_I_exa I29) (Or.inl (hw _ (List.mem_of_getElem? (i := 16) rfl))) (hw _ (List.mem_of_getElem? (i := 1) rfl)) (ty := .long) (by decide) rfl rfl (g := (mkF m 224 #[.val (.ref o1), .val (.int (0 : Int32)), .val (.long (0 : Int64)), .second, .val (.long m0), .second, .val (.long m1), .second, .val (.long m2), .second, .val (.long m3), .second, .val (.long m4), .second, .val (.long s0), .second, .val (.long c0), .second, .val (.long s1), .second, .val (.long c1), .second, .val (.long s2), .second, .val (.long c2), .second, .val (.long s3), .second, .val (.long c3), .second, .val (.long s4), .second, .val (.long c4), .second] [(.long s3), (.ref o1)])) rfl rfl (hb hby d_prog_29_method_13_224)
  have I31 := own_I_put_limb3 hw W31 I29
  have N32 := Fr.snoc X31 N30 g_o1
  refine GoOn.st st31 ?_
  show GoOn _ _ _ _ (T31.setTop (mkF m 227 #[.val (.ref o1), .val (.int (0 : Int32)), .val (.long (0 : Int64)), .second, .val (.long m0), .second, .val (.long m1), .second, .val (.long m2), .second, .val (.long m3), .second, .val (.long m4), .second, .val (.long s0), .second, .val (.long c0), .second, .val (.long s1), .second, .val (.long c1), .second, .val (.long s2), .second, .val (.long c2), .second, .val (.long s3), .second, .val (.long c3), .second, .val (.long s4), .second, .val (.long c4), .second] []))
  refine GoOn.st (fun t_ k_ => XS.aloadN X31.here hx rfl (hb hby d_prog_29_method_13_227) rfl rfl k_) ?_
  refine GoOn.st (fun t_ k_ => XS.lload X31.here hx rfl (hb hby d_prog_29_method_13_228) rfl k_) ?_
  obtain ⟨T33, h33, X33, e33, W33, st33⟩ := putF X31 hx hZ hown (host := "") (Or.inl (hw _ (List.mem_of_getElem? (i := 17) rfl))) Via.refl e31 (own_I_get_limb4 I31) (own_I_exa I31) (Or.inl (hw _ (List.mem_of_getElem? (i := 18) rfl))) (hw _ (List.mem_of_getElem? (i := 1) rfl)) (ty := .long) (by decide) rfl rfl (g := (mkF m 230 #[.val (.ref o1), .val (.int (0 : Int32)), .val (.long (0 : Int64)), .second, .val (.long m0), .second, .val (.long m1), .second, .val (.long m2), .second, .val (.long m3), .second, .val (.long m4), .second, .val (.long s0), .second, .val (.long c0), .second, .val (.long s1), .second, .val (.long c1), .second, .val (.long s2), .second, .val (.long c2), .second, .val (.long s3), .second, .val (.long c3), .second, .val (.long s4), .second, .val (.long c4), .second] [(.long s4), (.ref o1)])) rfl rfl (hb hby d_prog_29_method_13_230)
  have I33 := own_I_put_limb4 hw W33 I31
  have N34 := Fr.snoc X33 N32 g_o1
  refine GoOn.st st33 ?_
  show GoOn _ _ _ _ (T33.setTop (mkF m 233 #[.val (.ref o1), .val (.int (0 : Int32)), .val (.long (0 : Int64)), .second, .val (.long m0), .second, .val (.long m1), .second, .val (.long m2), .second, .val (.long m3), .second, .val (.long m4), .second, .val (.long s0), .second, .val (.long c0), .second, .val (.long s1), .second, .val (.long c1), .second, .val (.long s2), .second, .val (.long c2), .second, .val (.long s3), .second, .val (.long c3), .second, .val (.long s4), .second, .val (.long c4), .second] []))
  have hs := own_sum6 (l5 := l5) (m5 := p5 ^^^ (0 : Int64)) (n := (0 : Int32).toInt64) (by decide) e_s0 e_c0 e_s1 e_c1 e_s2 e_c2 e_s3 e_c3 e_s4 e_c4 rfl
  have e6 : own_P6 (p0 ^^^ (0 : Int64)) (p1 ^^^ (0 : Int64)) (p2 ^^^ (0 : Int64)) (p3 ^^^ (0 : Int64)) (p4 ^^^ (0 : Int64)) (p5 ^^^ (0 : Int64)) = own_P6 p0 p1 p2 p3 p4 p5 := by rw [own_xor0, own_xor0, own_xor0, own_xor0, own_xor0, own_xor0]
  rw [e_m0, e_m1, e_m2, e_m3, e_m4, e6] at hs
  exact GoOn.retV X33 hx hlk hret (hb hby d_prog_29_method_13_233) (by rw [e33]; exact ⟨rfl, N34, _, _, _, _, _, _, I33, hs.trans (by have z1 : own_U ((0 : Int32).toInt64) = 0 := rfl; rw [z1]; rw [Nat.add_zero])⟩) (by decide) (by decide)
theorem ef_ap1 (m : MethodId) (x0 : Addr) (x1 : Int32) : entryFrame m #[(.ref x0), (.int x1)] 34 = mkF m 0 #[.val (.ref x0), .val (.int x1), .unset, .unset, .unset, .unset, .unset, .unset, .unset, .unset, .unset, .unset, .unset, .unset, .unset, .unset, .unset, .unset, .unset, .unset, .unset, .unset, .unset, .unset, .unset, .unset, .unset, .unset, .unset, .unset, .unset, .unset, .unset, .unset] [] := by first | (simp [entryFrame, mkF, argsToLocals, Value.category]; done) | rfl
theorem d_prog_29_method_13_4 : decode prog_29_method_13_code 4 = .ok (.ldc2_w 42, 3) := by decide +kernel
theorem d_prog_29_method_13_7 : decode prog_29_method_13_code 7 = .ok (.goto 4, 3) := by decide +kernel
theorem d_prog_29_method_13_63 : decode prog_29_method_13_code 63 = .ok (.iconst 1, 1) := by decide +kernel
theorem d_prog_29_method_13_64 : decode prog_29_method_13_code 64 = .ok (.goto 4, 3) := by decide +kernel
set_option maxRecDepth 65536 in
set_option maxHeartbeats 40000000 in
theorem rm_ap1 (l : Launch) (Z : State) (a0 : Array Value) (hw : ∀ d ∈ tables_1, d.before a0 Z = true) (o1 : Addr) (l0 l1 l2 l3 l4 l5 p0 p1 p2 p3 p4 p5 c : Int64) (h0 : Heap) (n0 : Nat) (g_o1 : n0 ≤ o1) (I0 : own_I Z h0 o1 l0 l1 l2 l3 l4 l5 p0 p1 p2 p3 p4 p5 c 0) :
    OwCon l Z (⟨"com/example/nano_embed/nanoembed/geometry/Int384", "addProduct", "(Z)V"⟩ : MethodName) prog_29_method_13_code 34 none [] ({ frames := 1, cells := 0, slots := 0, locals := 17 } : Room) #[(.ref o1), (.int (1 : Int32))] h0 (fun v h L => v = none ∧ Fr n0 L ∧ ∃ l0' l1' l2' l3' l4' l5', own_I Z h o1 l0' l1' l2' l3' l4' l5' p0 p1 p2 p3 p4 p5 c 0 ∧ own_P6 l0' l1' l2' l3' l4' l5' = (own_P6 l0 l1 l2 l3 l4 l5 + (39402006196394479212279040100143613805079739270465446667948293404245721771497210611414266254884915640806627990306816 - own_P6 p0 p1 p2 p3 p4 p5)) % 39402006196394479212279040100143613805079739270465446667948293404245721771497210611414266254884915640806627990306816) := by
  refine OwCon.of (plainFor_of_name pn_com_example_nano_embed_nanoembed_geometry_Int384) ?_
  intro p e s m below meth cd_ s₁ X0 hx hby hml hret hlk hown hnm hZ e0
  have N0 := Fr.nil n0
  refine GoOn.st (fun t_ k_ => castTop (ef_ap1 m o1 (1 : Int32)) k_) ?_
  show GoOn _ _ _ _ (s₁.setTop (mkF m 0 #[.val (.ref o1), .val (.int (1 : Int32)), .unset, .unset, .unset, .unset, .unset, .unset, .unset, .unset, .unset, .unset, .unset, .unset, .unset, .unset, .unset, .unset, .unset, .unset, .unset, .unset, .unset, .unset, .unset, .unset, .unset, .unset, .unset, .unset, .unset, .unset, .unset, .unset] []))
  refine GoOn.st (fun t_ k_ => XS.iloadN X0.here hx rfl (hb hby d_prog_29_method_13_0) rfl k_) ?_
  refine GoOn.st (fun t_ k_ => XS.ifNo X0.here hx rfl (hb hby d_prog_29_method_13_1) rfl ((if0 _ _).trans (feq (by decide : ¬ ((1 : Int32) = (0 : Int32)))).1) k_) ?_
  refine GoOn.st (fun t_ k_ => X0.ldc2Long hx hown (mvT hZ (hw _ (List.mem_of_getElem? (i := 43) rfl))) (g := (mkF m 4 #[.val (.ref o1), .val (.int (1 : Int32)), .unset, .unset, .unset, .unset, .unset, .unset, .unset, .unset, .unset, .unset, .unset, .unset, .unset, .unset, .unset, .unset, .unset, .unset, .unset, .unset, .unset, .unset, .unset, .unset, .unset, .unset, .unset, .unset, .unset, .unset, .unset, .unset] [])) rfl (hb hby d_prog_29_method_13_4) _ k_) ?_
  refine GoOn.st (fun t_ k_ => XS.goto X0.here hx rfl (pc0 := 7) (pc' := 11) rfl (hb hby d_prog_29_method_13_7) (by decide) (by decide) k_) ?_
  show GoOn _ _ _ _ (s₁.setTop (mkF m 11 #[.val (.ref o1), .val (.int (1 : Int32)), .unset, .unset, .unset, .unset, .unset, .unset, .unset, .unset, .unset, .unset, .unset, .unset, .unset, .unset, .unset, .unset, .unset, .unset, .unset, .unset, .unset, .unset, .unset, .unset, .unset, .unset, .unset, .unset, .unset, .unset, .unset, .unset] [(.long (-1 : Int64))]))
  refine GoOn.st (fun t_ k_ => XS.lstoreN X0.here hx rfl (hb hby d_prog_29_method_13_11) rfl (l' := #[.val (.ref o1), .val (.int (1 : Int32)), .val (.long (-1 : Int64)), .second, .unset, .unset, .unset, .unset, .unset, .unset, .unset, .unset, .unset, .unset, .unset, .unset, .unset, .unset, .unset, .unset, .unset, .unset, .unset, .unset, .unset, .unset, .unset, .unset, .unset, .unset, .unset, .unset, .unset, .unset]) rfl k_) ?_
  refine GoOn.st (fun t_ k_ => XS.aloadN X0.here hx rfl (hb hby d_prog_29_method_13_12) rfl rfl k_) ?_
  obtain ⟨T1, X1, e1, st1⟩ := getF X0 hx hZ hown (host := "") (Or.inl (hw _ (List.mem_of_getElem? (i := 48) rfl))) Via.refl e0 (own_I_get_product0 I0) (g := (mkF m 13 #[.val (.ref o1), .val (.int (1 : Int32)), .val (.long (-1 : Int64)), .second, .unset, .unset, .unset, .unset, .unset, .unset, .unset, .unset, .unset, .unset, .unset, .unset, .unset, .unset, .unset, .unset, .unset, .unset, .unset, .unset, .unset, .unset, .unset, .unset, .unset, .unset, .unset, .unset, .unset, .unset] [(.ref o1)])) rfl rfl (hb hby d_prog_29_method_13_13)
  refine GoOn.st st1 ?_
  refine GoOn.st (fun t_ k_ => XS.lloadN X1.here hx rfl (hb hby d_prog_29_method_13_16) rfl k_) ?_
  show GoOn _ _ _ _ (T1.setTop (mkF m 17 #[.val (.ref o1), .val (.int (1 : Int32)), .val (.long (-1 : Int64)), .second, .unset, .unset, .unset, .unset, .unset, .unset, .unset, .unset, .unset, .unset, .unset, .unset, .unset, .unset, .unset, .unset, .unset, .unset, .unset, .unset, .unset, .unset, .unset, .unset, .unset, .unset, .unset, .unset, .unset, .unset] [(.long (-1 : Int64)), (.long p0)]))
  refine GoOn.st (fun t_ k_ => XS.lxor X1.here hx rfl (hb hby d_prog_29_method_13_17) rfl k_) ?_
  refine GoOn.st (fun t_ k_ => XS.lstore X1.here hx rfl (hb hby d_prog_29_method_13_18) rfl (l' := #[.val (.ref o1), .val (.int (1 : Int32)), .val (.long (-1 : Int64)), .second, .val (.long (p0 ^^^ (-1 : Int64))), .second, .unset, .unset, .unset, .unset, .unset, .unset, .unset, .unset, .unset, .unset, .unset, .unset, .unset, .unset, .unset, .unset, .unset, .unset, .unset, .unset, .unset, .unset, .unset, .unset, .unset, .unset, .unset, .unset]) rfl k_) ?_
  show GoOn _ _ _ _ (T1.setTop (mkF m 20 #[.val (.ref o1), .val (.int (1 : Int32)), .val (.long (-1 : Int64)), .second, .val (.long (p0 ^^^ (-1 : Int64))), .second, .unset, .unset, .unset, .unset, .unset, .unset, .unset, .unset, .unset, .unset, .unset, .unset, .unset, .unset, .unset, .unset, .unset, .unset, .unset, .unset, .unset, .unset, .unset, .unset, .unset, .unset, .unset, .unset] []))
  obtain ⟨m0, e_m0⟩ : ∃ z : Int64, z = (p0 ^^^ (-1 : Int64)) := ⟨_, rfl⟩
  rw [← e_m0]
  refine GoOn.st (fun t_ k_ => XS.aloadN X1.here hx rfl (hb hby d_prog_29_method_13_20) rfl rfl k_) ?_
  obtain ⟨T2, X2, e2, st2⟩ := getF X1 hx hZ hown (host := "") (Or.inl (hw _ (List.mem_of_getElem? (i := 73) rfl))) Via.refl e1 (own_I_get_product1 I0) (g := (mkF m 21 #[.val (.ref o1), .val (.int (1 : Int32)), .val (.long (-1 : Int64)), .second, .val (.long m0), .second, .unset, .unset, .unset, .unset, .unset, .unset, .unset, .unset, .unset, .unset, .unset, .unset, .unset, .unset, .unset, .unset, .unset, .unset, .unset, .unset, .unset, .unset, .unset, .unset, .unset, .unset, .unset, .unset] [(.ref o1)])) rfl rfl (hb hby d_prog_29_method_13_21)
  refine GoOn.st st2 ?_
  refine GoOn.st (fun t_ k_ => XS.lloadN X2.here hx rfl (hb hby d_prog_29_method_13_24) rfl k_) ?_
  show GoOn _ _ _ _ (T2.setTop (mkF m 25 #[.val (.ref o1), .val (.int (1 : Int32)), .val (.long (-1 : Int64)), .second, .val (.long m0), .second, .unset, .unset, .unset, .unset, .unset, .unset, .unset, .unset, .unset, .unset, .unset, .unset, .unset, .unset, .unset, .unset, .unset, .unset, .unset, .unset, .unset, .unset, .unset, .unset, .unset, .unset, .unset, .unset] [(.long (-1 : Int64)), (.long p1)]))
  refine GoOn.st (fun t_ k_ => XS.lxor X2.here hx rfl (hb hby d_prog_29_method_13_25) rfl k_) ?_
  refine GoOn.st (fun t_ k_ => XS.lstore X2.here hx rfl (hb hby d_prog_29_method_13_26) rfl (l' := #[.val (.ref o1), .val (.int (1 : Int32)), .val (.long (-1 : Int64)), .second, .val (.long m0), .second, .val (.long (p1 ^^^ (-1 : Int64))), .second, .unset, .unset, .unset, .unset, .unset, .unset, .unset, .unset, .unset, .unset, .unset, .unset, .unset, .unset, .unset, .unset, .unset, .unset, .unset, .unset, .unset, .unset, .unset, .unset, .unset, .unset]) rfl k_) ?_
  show GoOn _ _ _ _ (T2.setTop (mkF m 28 #[.val (.ref o1), .val (.int (1 : Int32)), .val (.long (-1 : Int64)), .second, .val (.long m0), .second, .val (.long (p1 ^^^ (-1 : Int64))), .second, .unset, .unset, .unset, .unset, .unset, .unset, .unset, .unset, .unset, .unset, .unset, .unset, .unset, .unset, .unset, .unset, .unset, .unset, .unset, .unset, .unset, .unset, .unset, .unset, .unset, .unset] []))
  obtain ⟨m1, e_m1⟩ : ∃ z : Int64, z = (p1 ^^^ (-1 : Int64)) := ⟨_, rfl⟩
  rw [← e_m1]
  refine GoOn.st (fun t_ k_ => XS.aloadN X2.here hx rfl (hb hby d_prog_29_method_13_28) rfl rfl k_) ?_
  obtain ⟨T3, X3, e3, st3⟩ := getF X2 hx hZ hown (host := "") (Or.inl (hw _ (List.mem_of_getElem? (i := 75) rfl))) Via.refl e2 (own_I_get_product2 I0) (g := (mkF m 29 #[.val (.ref o1), .val (.int (1 : Int32)), .val (.long (-1 : Int64)), .second, .val (.long m0), .second, .val (.long m1), .second, .unset, .unset, .unset, .unset, .unset, .unset, .unset, .unset, .unset, .unset, .unset, .unset, .unset, .unset, .unset, .unset, .unset, .unset, .unset, .unset, .unset, .unset, .unset, .unset, .unset, .unset] [(.ref o1)])) rfl rfl (hb hby d_prog_29_method_13_29)
  refine GoOn.st st3 ?_
  refine GoOn.st (fun t_ k_ => XS.lloadN X3.here hx rfl (hb hby d_prog_29_method_13_32) rfl k_) ?_
  show GoOn _ _ _ _ (T3.setTop (mkF m 33 #[.val (.ref o1), .val (.int (1 : Int32)), .val (.long (-1 : Int64)), .second, .val (.long m0), .second, .val (.long m1), .second, .unset, .unset, .unset, .unset, .unset, .unset, .unset, .unset, .unset, .unset, .unset, .unset, .unset, .unset, .unset, .unset, .unset, .unset, .unset, .unset, .unset, .unset, .unset, .unset, .unset, .unset] [(.long (-1 : Int64)), (.long p2)]))
  refine GoOn.st (fun t_ k_ => XS.lxor X3.here hx rfl (hb hby d_prog_29_method_13_33) rfl k_) ?_
  refine GoOn.st (fun t_ k_ => XS.lstore X3.here hx rfl (hb hby d_prog_29_method_13_34) rfl (l' := #[.val (.ref o1), .val (.int (1 : Int32)), .val (.long (-1 : Int64)), .second, .val (.long m0), .second, .val (.long m1), .second, .val (.long (p2 ^^^ (-1 : Int64))), .second, .unset, .unset, .unset, .unset, .unset, .unset, .unset, .unset, .unset, .unset, .unset, .unset, .unset, .unset, .unset, .unset, .unset, .unset, .unset, .unset, .unset, .unset, .unset, .unset]) rfl k_) ?_
  show GoOn _ _ _ _ (T3.setTop (mkF m 36 #[.val (.ref o1), .val (.int (1 : Int32)), .val (.long (-1 : Int64)), .second, .val (.long m0), .second, .val (.long m1), .second, .val (.long (p2 ^^^ (-1 : Int64))), .second, .unset, .unset, .unset, .unset, .unset, .unset, .unset, .unset, .unset, .unset, .unset, .unset, .unset, .unset, .unset, .unset, .unset, .unset, .unset, .unset, .unset, .unset, .unset, .unset] []))
  obtain ⟨m2, e_m2⟩ : ∃ z : Int64, z = (p2 ^^^ (-1 : Int64)) := ⟨_, rfl⟩
  rw [← e_m2]
  refine GoOn.st (fun t_ k_ => XS.aloadN X3.here hx rfl (hb hby d_prog_29_method_13_36) rfl rfl k_) ?_
  obtain ⟨T4, X4, e4, st4⟩ := getF X3 hx hZ hown (host := "") (Or.inl (hw _ (List.mem_of_getElem? (i := 77) rfl))) Via.refl e3 (own_I_get_product3 I0) (g := (mkF m 37 #[.val (.ref o1), .val (.int (1 : Int32)), .val (.long (-1 : Int64)), .second, .val (.long m0), .second, .val (.long m1), .second, .val (.long m2), .second, .unset, .unset, .unset, .unset, .unset, .unset, .unset, .unset, .unset, .unset, .unset, .unset, .unset, .unset, .unset, .unset, .unset, .unset, .unset, .unset, .unset, .unset, .unset, .unset] [(.ref o1)])) rfl rfl (hb hby d_prog_29_method_13_37)
  refine GoOn.st st4 ?_
  refine GoOn.st (fun t_ k_ => XS.lloadN X4.here hx rfl (hb hby d_prog_29_method_13_40) rfl k_) ?_
  show GoOn _ _ _ _ (T4.setTop (mkF m 41 #[.val (.ref o1), .val (.int (1 : Int32)), .val (.long (-1 : Int64)), .second, .val (.long m0), .second, .val (.long m1), .second, .val (.long m2), .second, .unset, .unset, .unset, .unset, .unset, .unset, .unset, .unset, .unset, .unset, .unset, .unset, .unset, .unset, .unset, .unset, .unset, .unset, .unset, .unset, .unset, .unset, .unset, .unset] [(.long (-1 : Int64)), (.long p3)]))
  refine GoOn.st (fun t_ k_ => XS.lxor X4.here hx rfl (hb hby d_prog_29_method_13_41) rfl k_) ?_
  refine GoOn.st (fun t_ k_ => XS.lstore X4.here hx rfl (hb hby d_prog_29_method_13_42) rfl (l' := #[.val (.ref o1), .val (.int (1 : Int32)), .val (.long (-1 : Int64)), .second, .val (.long m0), .second, .val (.long m1), .second, .val (.long m2), .second, .val (.long (p3 ^^^ (-1 : Int64))), .second, .unset, .unset, .unset, .unset, .unset, .unset, .unset, .unset, .unset, .unset, .unset, .unset, .unset, .unset, .unset, .unset, .unset, .unset, .unset, .unset, .unset, .unset]) rfl k_) ?_
  show GoOn _ _ _ _ (T4.setTop (mkF m 44 #[.val (.ref o1), .val (.int (1 : Int32)), .val (.long (-1 : Int64)), .second, .val (.long m0), .second, .val (.long m1), .second, .val (.long m2), .second, .val (.long (p3 ^^^ (-1 : Int64))), .second, .unset, .unset, .unset, .unset, .unset, .unset, .unset, .unset, .unset, .unset, .unset, .unset, .unset, .unset, .unset, .unset, .unset, .unset, .unset, .unset, .unset, .unset] []))
  obtain ⟨m3, e_m3⟩ : ∃ z : Int64, z = (p3 ^^^ (-1 : Int64)) := ⟨_, rfl⟩
  rw [← e_m3]
  refine GoOn.st (fun t_ k_ => XS.aloadN X4.here hx rfl (hb hby d_prog_29_method_13_44) rfl rfl k_) ?_
  obtain ⟨T5, X5, e5, st5⟩ := getF X4 hx hZ hown (host := "") (Or.inl (hw _ (List.mem_of_getElem? (i := 79) rfl))) Via.refl e4 (own_I_get_product4 I0) (g := (mkF m 45 #[.val (.ref o1), .val (.int (1 : Int32)), .val (.long (-1 : Int64)), .second, .val (.long m0), .second, .val (.long m1), .second, .val (.long m2), .second, .val (.long m3), .second, .unset, .unset, .unset, .unset, .unset, .unset, .unset, .unset, .unset, .unset, .unset, .unset, .unset, .unset, .unset, .unset, .unset, .unset, .unset, .unset, .unset, .unset] [(.ref o1)])) rfl rfl (hb hby d_prog_29_method_13_45)
  refine GoOn.st st5 ?_
  refine GoOn.st (fun t_ k_ => XS.lloadN X5.here hx rfl (hb hby d_prog_29_method_13_48) rfl k_) ?_
  show GoOn _ _ _ _ (T5.setTop (mkF m 49 #[.val (.ref o1), .val (.int (1 : Int32)), .val (.long (-1 : Int64)), .second, .val (.long m0), .second, .val (.long m1), .second, .val (.long m2), .second, .val (.long m3), .second, .unset, .unset, .unset, .unset, .unset, .unset, .unset, .unset, .unset, .unset, .unset, .unset, .unset, .unset, .unset, .unset, .unset, .unset, .unset, .unset, .unset, .unset] [(.long (-1 : Int64)), (.long p4)]))
  refine GoOn.st (fun t_ k_ => XS.lxor X5.here hx rfl (hb hby d_prog_29_method_13_49) rfl k_) ?_
  refine GoOn.st (fun t_ k_ => XS.lstore X5.here hx rfl (hb hby d_prog_29_method_13_50) rfl (l' := #[.val (.ref o1), .val (.int (1 : Int32)), .val (.long (-1 : Int64)), .second, .val (.long m0), .second, .val (.long m1), .second, .val (.long m2), .second, .val (.long m3), .second, .val (.long (p4 ^^^ (-1 : Int64))), .second, .unset, .unset, .unset, .unset, .unset, .unset, .unset, .unset, .unset, .unset, .unset, .unset, .unset, .unset, .unset, .unset, .unset, .unset, .unset, .unset]) rfl k_) ?_
  show GoOn _ _ _ _ (T5.setTop (mkF m 52 #[.val (.ref o1), .val (.int (1 : Int32)), .val (.long (-1 : Int64)), .second, .val (.long m0), .second, .val (.long m1), .second, .val (.long m2), .second, .val (.long m3), .second, .val (.long (p4 ^^^ (-1 : Int64))), .second, .unset, .unset, .unset, .unset, .unset, .unset, .unset, .unset, .unset, .unset, .unset, .unset, .unset, .unset, .unset, .unset, .unset, .unset, .unset, .unset] []))
  obtain ⟨m4, e_m4⟩ : ∃ z : Int64, z = (p4 ^^^ (-1 : Int64)) := ⟨_, rfl⟩
  rw [← e_m4]
  refine GoOn.st (fun t_ k_ => XS.aloadN X5.here hx rfl (hb hby d_prog_29_method_13_52) rfl rfl k_) ?_
  obtain ⟨T6, X6, e6, st6⟩ := getF X5 hx hZ hown (host := "") (Or.inl (hw _ (List.mem_of_getElem? (i := 9) rfl))) Via.refl e5 (own_I_get_limb0 I0) (g := (mkF m 53 #[.val (.ref o1), .val (.int (1 : Int32)), .val (.long (-1 : Int64)), .second, .val (.long m0), .second, .val (.long m1), .second, .val (.long m2), .second, .val (.long m3), .second, .val (.long m4), .second, .unset, .unset, .unset, .unset, .unset, .unset, .unset, .unset, .unset, .unset, .unset, .unset, .unset, .unset, .unset, .unset, .unset, .unset, .unset, .unset] [(.ref o1)])) rfl rfl (hb hby d_prog_29_method_13_53)
  refine GoOn.st st6 ?_
  refine GoOn.st (fun t_ k_ => XS.lload X6.here hx rfl (hb hby d_prog_29_method_13_56) rfl k_) ?_
  show GoOn _ _ _ _ (T6.setTop (mkF m 58 #[.val (.ref o1), .val (.int (1 : Int32)), .val (.long (-1 : Int64)), .second, .val (.long m0), .second, .val (.long m1), .second, .val (.long m2), .second, .val (.long m3), .second, .val (.long m4), .second, .unset, .unset, .unset, .unset, .unset, .unset, .unset, .unset, .unset, .unset, .unset, .unset, .unset, .unset, .unset, .unset, .unset, .unset, .unset, .unset] [(.long m0), (.long l0)]))
  refine GoOn.st (fun t_ k_ => XS.ladd X6.here hx rfl (hb hby d_prog_29_method_13_58) rfl k_) ?_
  refine GoOn.st (fun t_ k_ => XS.iloadN X6.here hx rfl (hb hby d_prog_29_method_13_59) rfl k_) ?_
  refine GoOn.st (fun t_ k_ => XS.ifNo X6.here hx rfl (hb hby d_prog_29_method_13_60) rfl ((if0 _ _).trans (feq (by decide : ¬ ((1 : Int32) = (0 : Int32)))).1) k_) ?_
  refine GoOn.st (fun t_ k_ => XS.iconst X6.here hx rfl (hb hby d_prog_29_method_13_63)  k_) ?_
  show GoOn _ _ _ _ (T6.setTop (mkF m 64 #[.val (.ref o1), .val (.int (1 : Int32)), .val (.long (-1 : Int64)), .second, .val (.long m0), .second, .val (.long m1), .second, .val (.long m2), .second, .val (.long m3), .second, .val (.long m4), .second, .unset, .unset, .unset, .unset, .unset, .unset, .unset, .unset, .unset, .unset, .unset, .unset, .unset, .unset, .unset, .unset, .unset, .unset, .unset, .unset] [(.int (1 : Int32)), (.long (l0 + m0))]))
  refine GoOn.st (fun t_ k_ => XS.goto X6.here hx rfl (pc0 := 64) (pc' := 68) rfl (hb hby d_prog_29_method_13_64) (by decide) (by decide) k_) ?_
  refine GoOn.st (fun t_ k_ => XS.i2l X6.here hx rfl (hb hby d_prog_29_method_13_68) rfl k_) ?_
  refine GoOn.st (fun t_ k_ => XS.ladd X6.here hx rfl (hb hby d_prog_29_method_13_69) rfl k_) ?_
  refine GoOn.st (fun t_ k_ => XS.lstore X6.here hx rfl (hb hby d_prog_29_method_13_70) rfl (l' := #[.val (.ref o1), .val (.int (1 : Int32)), .val (.long (-1 : Int64)), .second, .val (.long m0), .second, .val (.long m1), .second, .val (.long m2), .second, .val (.long m3), .second, .val (.long m4), .second, .val (.long ((l0 + m0) + (((1 : Int32)).toInt64))), .second, .unset, .unset, .unset, .unset, .unset, .unset, .unset, .unset, .unset, .unset, .unset, .unset, .unset, .unset, .unset, .unset, .unset, .unset]) rfl k_) ?_
  show GoOn _ _ _ _ (T6.setTop (mkF m 72 #[.val (.ref o1), .val (.int (1 : Int32)), .val (.long (-1 : Int64)), .second, .val (.long m0), .second, .val (.long m1), .second, .val (.long m2), .second, .val (.long m3), .second, .val (.long m4), .second, .val (.long ((l0 + m0) + (((1 : Int32)).toInt64))), .second, .unset, .unset, .unset, .unset, .unset, .unset, .unset, .unset, .unset, .unset, .unset, .unset, .unset, .unset, .unset, .unset, .unset, .unset] []))
  obtain ⟨s0, e_s0⟩ : ∃ z : Int64, z = ((l0 + m0) + (((1 : Int32)).toInt64)) := ⟨_, rfl⟩
  rw [← e_s0]
  refine GoOn.st (fun t_ k_ => XS.aloadN X6.here hx rfl (hb hby d_prog_29_method_13_72) rfl rfl k_) ?_
  obtain ⟨T7, X7, e7, st7⟩ := getF X6 hx hZ hown (host := "") (Or.inl (hw _ (List.mem_of_getElem? (i := 9) rfl))) Via.refl e6 (own_I_get_limb0 I0) (g := (mkF m 73 #[.val (.ref o1), .val (.int (1 : Int32)), .val (.long (-1 : Int64)), .second, .val (.long m0), .second, .val (.long m1), .second, .val (.long m2), .second, .val (.long m3), .second, .val (.long m4), .second, .val (.long s0), .second, .unset, .unset, .unset, .unset, .unset, .unset, .unset, .unset, .unset, .unset, .unset, .unset, .unset, .unset, .unset, .unset, .unset, .unset] [(.ref o1)])) rfl rfl (hb hby d_prog_29_method_13_73)
  refine GoOn.st st7 ?_
  refine GoOn.st (fun t_ k_ => XS.lload X7.here hx rfl (hb hby d_prog_29_method_13_76) rfl k_) ?_
  show GoOn _ _ _ _ (T7.setTop (mkF m 78 #[.val (.ref o1), .val (.int (1 : Int32)), .val (.long (-1 : Int64)), .second, .val (.long m0), .second, .val (.long m1), .second, .val (.long m2), .second, .val (.long m3), .second, .val (.long m4), .second, .val (.long s0), .second, .unset, .unset, .unset, .unset, .unset, .unset, .unset, .unset, .unset, .unset, .unset, .unset, .unset, .unset, .unset, .unset, .unset, .unset] [(.long m0), (.long l0)]))
  refine GoOn.st (fun t_ k_ => XS.lload X7.here hx rfl (hb hby d_prog_29_method_13_78) rfl k_) ?_
  show GoOn _ _ _ _ (T7.setTop (mkF m 80 #[.val (.ref o1), .val (.int (1 : Int32)), .val (.long (-1 : Int64)), .second, .val (.long m0), .second, .val (.long m1), .second, .val (.long m2), .second, .val (.long m3), .second, .val (.long m4), .second, .val (.long s0), .second, .unset, .unset, .unset, .unset, .unset, .unset, .unset, .unset, .unset, .unset, .unset, .unset, .unset, .unset, .unset, .unset, .unset, .unset] [(.long s0), (.long m0), (.long l0)]))
  refine GoOn.callS (W := 0) (argsL := [(.long l0), (.long m0), (.long s0)]) (rest := []) X7 hx hZ hown (hw _ (List.mem_of_getElem? (i := 66) rfl)) (hw _ (List.mem_of_getElem? (i := 67) rfl)) (hw _ (List.mem_of_getElem? (i := 40) rfl)) (hw _ (List.mem_of_getElem? (i := 68) rfl)) (by decide) (rm_carry l Z a0 hw l0 m0 s0 h0) e7 (by decide) (by decide) (by rw [hml]; rfl) pd_1 rfl rfl (Nat.le_of_eq rfl) (hb hby d_prog_29_method_13_80) (by decide) (by decide) ?_
  rintro _ T8 L8 X8 ⟨rfl, rfl, e8⟩
  rw [List.append_nil] at X8
  refine GoOn.st (fun t_ k_ => XS.lstore X8.here hx rfl (hb hby d_prog_29_method_13_83) rfl (l' := #[.val (.ref o1), .val (.int (1 : Int32)), .val (.long (-1 : Int64)), .second, .val (.long m0), .second, .val (.long m1), .second, .val (.long m2), .second, .val (.long m3), .second, .val (.long m4), .second, .val (.long s0), .second, .val (.long (own_carry l0 m0 s0)), .second, .unset, .unset, .unset, .unset, .unset, .unset, .unset, .unset, .unset, .unset, .unset, .unset, .unset, .unset, .unset, .unset]) rfl k_) ?_
  show GoOn _ _ _ _ (T8.setTop (mkF m 85 #[.val (.ref o1), .val (.int (1 : Int32)), .val (.long (-1 : Int64)), .second, .val (.long m0), .second, .val (.long m1), .second, .val (.long m2), .second, .val (.long m3), .second, .val (.long m4), .second, .val (.long s0), .second, .val (.long (own_carry l0 m0 s0)), .second, .unset, .unset, .unset, .unset, .unset, .unset, .unset, .unset, .unset, .unset, .unset, .unset, .unset, .unset, .unset, .unset] []))
  obtain ⟨c0, e_c0⟩ : ∃ z : Int64, z = (own_carry l0 m0 s0) := ⟨_, rfl⟩
  rw [← e_c0]
  refine GoOn.st (fun t_ k_ => XS.aloadN X8.here hx rfl (hb hby d_prog_29_method_13_85) rfl rfl k_) ?_
  obtain ⟨T9, X9, e9, st9⟩ := getF X8 hx hZ hown (host := "") (Or.inl (hw _ (List.mem_of_getElem? (i := 11) rfl))) Via.refl e8 (own_I_get_limb1 I0) (g := (mkF m 86 #[.val (.ref o1), .val (.int (1 : Int32)), .val (.long (-1 : Int64)), .second, .val (.long m0), .second, .val (.long m1), .second, .val (.long m2), .second, .val (.long m3), .second, .val (.long m4), .second, .val (.long s0), .second, .val (.long c0), .second, .unset, .unset, .unset, .unset, .unset, .unset, .unset, .unset, .unset, .unset, .unset, .unset, .unset, .unset, .unset, .unset] [(.ref o1)])) rfl rfl (hb hby d_prog_29_method_13_86)
  refine GoOn.st st9 ?_
  refine GoOn.st (fun t_ k_ => XS.lload X9.here hx rfl (hb hby d_prog_29_method_13_89) rfl k_) ?_
  show GoOn _ _ _ _ (T9.setTop (mkF m 91 #[.val (.ref o1), .val (.int (1 : Int32)), .val (.long (-1 : Int64)), .second, .val (.long m0), .second, .val (.long m1), .second, .val (.long m2), .second, .val (.long m3), .second, .val (.long m4), .second, .val (.long s0), .second, .val (.long c0), .second, .unset, .unset, .unset, .unset, .unset, .unset, .unset, .unset, .unset, .unset, .unset, .unset, .unset, .unset, .unset, .unset] [(.long m1), (.long l1)]))
  refine GoOn.st (fun t_ k_ => XS.ladd X9.here hx rfl (hb hby d_prog_29_method_13_91) rfl k_) ?_
  refine GoOn.st (fun t_ k_ => XS.lload X9.here hx rfl (hb hby d_prog_29_method_13_92) rfl k_) ?_
  refine GoOn.st (fun t_ k_ => XS.ladd X9.here hx rfl (hb hby d_prog_29_method_13_94) rfl k_) ?_
  refine GoOn.st (fun t_ k_ => XS.lstore X9.here hx rfl (hb hby d_prog_29_method_13_95) rfl (l' := #[.val (.ref o1), .val (.int (1 : Int32)), .val (.long (-1 : Int64)), .second, .val (.long m0), .second, .val (.long m1), .second, .val (.long m2), .second, .val (.long m3), .second, .val (.long m4), .second, .val (.long s0), .second, .val (.long c0), .second, .val (.long ((l1 + m1) + c0)), .second, .unset, .unset, .unset, .unset, .unset, .unset, .unset, .unset, .unset, .unset, .unset, .unset, .unset, .unset]) rfl k_) ?_
  show GoOn _ _ _ _ (T9.setTop (mkF m 97 #[.val (.ref o1), .val (.int (1 : Int32)), .val (.long (-1 : Int64)), .second, .val (.long m0), .second, .val (.long m1), .second, .val (.long m2), .second, .val (.long m3), .second, .val (.long m4), .second, .val (.long s0), .second, .val (.long c0), .second, .val (.long ((l1 + m1) + c0)), .second, .unset, .unset, .unset, .unset, .unset, .unset, .unset, .unset, .unset, .unset, .unset, .unset, .unset, .unset] []))
  obtain ⟨s1, e_s1⟩ : ∃ z : Int64, z = ((l1 + m1) + c0) := ⟨_, rfl⟩
  rw [← e_s1]
  refine GoOn.st (fun t_ k_ => XS.aloadN X9.here hx rfl (hb hby d_prog_29_method_13_97) rfl rfl k_) ?_
  obtain ⟨T10, X10, e10, st10⟩ := getF X9 hx hZ hown (host := "") (Or.inl (hw _ (List.mem_of_getElem? (i := 11) rfl))) Via.refl e9 (own_I_get_limb1 I0) (g := (mkF m 98 #[.val (.ref o1), .val (.int (1 : Int32)), .val (.long (-1 : Int64)), .second, .val (.long m0), .second, .val (.long m1), .second, .val (.long m2), .second, .val (.long m3), .second, .val (.long m4), .second, .val (.long s0), .second, .val (.long c0), .second, .val (.long s1), .second, .unset, .unset, .unset, .unset, .unset, .unset, .unset, .unset, .unset, .unset, .unset, .unset, .unset, .unset] [(.ref o1)])) rfl rfl (hb hby d_prog_29_method_13_98)
  refine GoOn.st st10 ?_
  refine GoOn.st (fun t_ k_ => XS.lload X10.here hx rfl (hb hby d_prog_29_method_13_101) rfl k_) ?_
  show GoOn _ _ _ _ (T10.setTop (mkF m 103 #[.val (.ref o1), .val (.int (1 : Int32)), .val (.long (-1 : Int64)), .second, .val (.long m0), .second, .val (.long m1), .second, .val (.long m2), .second, .val (.long m3), .second, .val (.long m4), .second, .val (.long s0), .second, .val (.long c0), .second, .val (.long s1), .second, .unset, .unset, .unset, .unset, .unset, .unset, .unset, .unset, .unset, .unset, .unset, .unset, .unset, .unset] [(.long m1), (.long l1)]))
  refine GoOn.st (fun t_ k_ => XS.lload X10.here hx rfl (hb hby d_prog_29_method_13_103) rfl k_) ?_
  show GoOn _ _ _ _ (T10.setTop (mkF m 105 #[.val (.ref o1), .val (.int (1 : Int32)), .val (.long (-1 : Int64)), .second, .val (.long m0), .second, .val (.long m1), .second, .val (.long m2), .second, .val (.long m3), .second, .val (.long m4), .second, .val (.long s0), .second, .val (.long c0), .second, .val (.long s1), .second, .unset, .unset, .unset, .unset, .unset, .unset, .unset, .unset, .unset, .unset, .unset, .unset, .unset, .unset] [(.long s1), (.long m1), (.long l1)]))
  refine GoOn.callS (W := 0) (argsL := [(.long l1), (.long m1), (.long s1)]) (rest := []) X10 hx hZ hown (hw _ (List.mem_of_getElem? (i := 66) rfl)) (hw _ (List.mem_of_getElem? (i := 67) rfl)) (hw _ (List.mem_of_getElem? (i := 40) rfl)) (hw _ (List.mem_of_getElem? (i := 68) rfl)) (by decide) (rm_carry l Z a0 hw l1 m1 s1 h0) e10 (by decide) (by decide) (by rw [hml]; rfl) pd_1 rfl rfl (Nat.le_of_eq rfl) (hb hby d_prog_29_method_13_105) (by decide) (by decide) ?_
  rintro _ T11 L11 X11 ⟨rfl, rfl, e11⟩
  rw [List.append_nil] at X11
  refine GoOn.st (fun t_ k_ => XS.lstore X11.here hx rfl (hb hby d_prog_29_method_13_108) rfl (l' := #[.val (.ref o1), .val (.int (1 : Int32)), .val (.long (-1 : Int64)), .second, .val (.long m0), .second, .val (.long m1), .second, .val (.long m2), .second, .val (.long m3), .second, .val (.long m4), .second, .val (.long s0), .second, .val (.long c0), .second, .val (.long s1), .second, .val (.long (own_carry l1 m1 s1)), .second, .unset, .unset, .unset, .unset, .unset, .unset, .unset, .unset, .unset, .unset, .unset, .unset]) rfl k_) ?_
  show GoOn _ _ _ _ (T11.setTop (mkF m 110 #[.val (.ref o1), .val (.int (1 : Int32)), .val (.long (-1 : Int64)), .second, .val (.long m0), .second, .val (.long m1), .second, .val (.long m2), .second, .val (.long m3), .second, .val (.long m4), .second, .val (.long s0), .second, .val (.long c0), .second, .val (.long s1), .second, .val (.long (own_carry l1 m1 s1)), .second, .unset, .unset, .unset, .unset, .unset, .unset, .unset, .unset, .unset, .unset, .unset, .unset] []))
  obtain ⟨c1, e_c1⟩ : ∃ z : Int64, z = (own_carry l1 m1 s1) := ⟨_, rfl⟩
  rw [← e_c1]
  refine GoOn.st (fun t_ k_ => XS.aloadN X11.here hx rfl (hb hby d_prog_29_method_13_110) rfl rfl k_) ?_
  obtain ⟨T12, X12, e12, st12⟩ := getF X11 hx hZ hown (host := "") (Or.inl (hw _ (List.mem_of_getElem? (i := 13) rfl))) Via.refl e11 (own_I_get_limb2 I0) (g := (mkF m 111 #[.val (.ref o1), .val (.int (1 : Int32)), .val (.long (-1 : Int64)), .second, .val (.long m0), .second, .val (.long m1), .second, .val (.long m2), .second, .val (.long m3), .second, .val (.long m4), .second, .val (.long s0), .second, .val (.long c0), .second, .val (.long s1), .second, .val (.long c1), .second, .unset, .unset, .unset, .unset, .unset, .unset, .unset, .unset, .unset, .unset, .unset, .unset] [(.ref o1)])) rfl rfl (hb hby d_prog_29_method_13_111)
  refine GoOn.st st12 ?_
  refine GoOn.st (fun t_ k_ => XS.lload X12.here hx rfl (hb hby d_prog_29_method_13_114) rfl k_) ?_
  show GoOn _ _ _ _ (T12.setTop (mkF m 116 #[.val (.ref o1), .val (.int (1 : Int32)), .val (.long (-1 : Int64)), .second, .val (.long m0), .second, .val (.long m1), .second, .val (.long m2), .second, .val (.long m3), .second, .val (.long m4), .second, .val (.long s0), .second, .val (.long c0), .second, .val (.long s1), .second, .val (.long c1), .second, .unset, .unset, .unset, .unset, .unset, .unset, .unset, .unset, .unset, .unset, .unset, .unset] [(.long m2), (.long l2)]))
  refine GoOn.st (fun t_ k_ => XS.ladd X12.here hx rfl (hb hby d_prog_29_method_13_116) rfl k_) ?_
  refine GoOn.st (fun t_ k_ => XS.lload X12.here hx rfl (hb hby d_prog_29_method_13_117) rfl k_) ?_
  refine GoOn.st (fun t_ k_ => XS.ladd X12.here hx rfl (hb hby d_prog_29_method_13_119) rfl k_) ?_
  refine GoOn.st (fun t_ k_ => XS.lstore X12.here hx rfl (hb hby d_prog_29_method_13_120) rfl (l' := #[.val (.ref o1), .val (.int (1 : Int32)), .val (.long (-1 : Int64)), .second, .val (.long m0), .second, .val (.long m1), .second, .val (.long m2), .second, .val (.long m3), .second, .val (.long m4), .second, .val (.long s0), .second, .val (.long c0), .second, .val (.long s1), .second, .val (.long c1), .second, .val (.long ((l2 + m2) + c1)), .second, .unset, .unset, .unset, .unset, .unset, .unset, .unset, .unset, .unset, .unset]) rfl k_) ?_
  show GoOn _ _ _ _ (T12.setTop (mkF m 122 #[.val (.ref o1), .val (.int (1 : Int32)), .val (.long (-1 : Int64)), .second, .val (.long m0), .second, .val (.long m1), .second, .val (.long m2), .second, .val (.long m3), .second, .val (.long m4), .second, .val (.long s0), .second, .val (.long c0), .second, .val (.long s1), .second, .val (.long c1), .second, .val (.long ((l2 + m2) + c1)), .second, .unset, .unset, .unset, .unset, .unset, .unset, .unset, .unset, .unset, .unset] []))
  obtain ⟨s2, e_s2⟩ : ∃ z : Int64, z = ((l2 + m2) + c1) := ⟨_, rfl⟩
  rw [← e_s2]
  refine GoOn.st (fun t_ k_ => XS.aloadN X12.here hx rfl (hb hby d_prog_29_method_13_122) rfl rfl k_) ?_
  obtain ⟨T13, X13, e13, st13⟩ := getF X12 hx hZ hown (host := "") (Or.inl (hw _ (List.mem_of_getElem? (i := 13) rfl))) Via.refl e12 (own_I_get_limb2 I0) (g := (mkF m 123 #[.val (.ref o1), .val (.int (1 : Int32)), .val (.long (-1 : Int64)), .second, .val (.long m0), .second, .val (.long m1), .second, .val (.long m2), .second, .val (.long m3), .second, .val (.long m4), .second, .val (.long s0), .second, .val (.long c0), .second, .val (.long s1), .second, .val (.long c1), .second, .val (.long s2), .second, .unset, .unset, .unset, .unset, .unset, .unset, .unset, .unset, .unset, .unset] [(.ref o1)])) rfl rfl (hb hby d_prog_29_method_13_123)
  refine GoOn.st st13 ?_
  refine GoOn.st (fun t_ k_ => XS.lload X13.here hx rfl (hb hby d_prog_29_method_13_126) rfl k_) ?_
  show GoOn _ _ _ _ (T13.setTop (mkF m 128 #[.val (.ref o1), .val (.int (1 : Int32)), .val (.long (-1 : Int64)), .second, .val (.long m0), .second, .val (.long m1), .second, .val (.long m2), .second, .val (.long m3), .second, .val (.long m4), .second, .val (.long s0), .second, .val (.long c0), .second, .val (.long s1), .second, .val (.long c1), .second, .val (.long s2), .second, .unset, .unset, .unset, .unset, .unset, .unset, .unset, .unset, .unset, .unset] [(.long m2), (.long l2)]))
  refine GoOn.st (fun t_ k_ => XS.lload X13.here hx rfl (hb hby d_prog_29_method_13_128) rfl k_) ?_
  show GoOn _ _ _ _ (T13.setTop (mkF m 130 #[.val (.ref o1), .val (.int (1 : Int32)), .val (.long (-1 : Int64)), .second, .val (.long m0), .second, .val (.long m1), .second, .val (.long m2), .second, .val (.long m3), .second, .val (.long m4), .second, .val (.long s0), .second, .val (.long c0), .second, .val (.long s1), .second, .val (.long c1), .second, .val (.long s2), .second, .unset, .unset, .unset, .unset, .unset, .unset, .unset, .unset, .unset, .unset] [(.long s2), (.long m2), (.long l2)]))
  refine GoOn.callS (W := 0) (argsL := [(.long l2), (.long m2), (.long s2)]) (rest := []) X13 hx hZ hown (hw _ (List.mem_of_getElem? (i := 66) rfl)) (hw _ (List.mem_of_getElem? (i := 67) rfl)) (hw _ (List.mem_of_getElem? (i := 40) rfl)) (hw _ (List.mem_of_getElem? (i := 68) rfl)) (by decide) (rm_carry l Z a0 hw l2 m2 s2 h0) e13 (by decide) (by decide) (by rw [hml]; rfl) pd_1 rfl rfl (Nat.le_of_eq rfl) (hb hby d_prog_29_method_13_130) (by decide) (by decide) ?_
  rintro _ T14 L14 X14 ⟨rfl, rfl, e14⟩
  rw [List.append_nil] at X14
  refine GoOn.st (fun t_ k_ => XS.lstore X14.here hx rfl (hb hby d_prog_29_method_13_133) rfl (l' := #[.val (.ref o1), .val (.int (1 : Int32)), .val (.long (-1 : Int64)), .second, .val (.long m0), .second, .val (.long m1), .second, .val (.long m2), .second, .val (.long m3), .second, .val (.long m4), .second, .val (.long s0), .second, .val (.long c0), .second, .val (.long s1), .second, .val (.long c1), .second, .val (.long s2), .second, .val (.long (own_carry l2 m2 s2)), .second, .unset, .unset, .unset, .unset, .unset, .unset, .unset, .unset]) rfl k_) ?_
  show GoOn _ _ _ _ (T14.setTop (mkF m 135 #[.val (.ref o1), .val (.int (1 : Int32)), .val (.long (-1 : Int64)), .second, .val (.long m0), .second, .val (.long m1), .second, .val (.long m2), .second, .val (.long m3), .second, .val (.long m4), .second, .val (.long s0), .second, .val (.long c0), .second, .val (.long s1), .second, .val (.long c1), .second, .val (.long s2), .second, .val (.long (own_carry l2 m2 s2)), .second, .unset, .unset, .unset, .unset, .unset, .unset, .unset, .unset] []))
  obtain ⟨c2, e_c2⟩ : ∃ z : Int64, z = (own_carry l2 m2 s2) := ⟨_, rfl⟩
  rw [← e_c2]
  refine GoOn.st (fun t_ k_ => XS.aloadN X14.here hx rfl (hb hby d_prog_29_method_13_135) rfl rfl k_) ?_
  obtain ⟨T15, X15, e15, st15⟩ := getF X14 hx hZ hown (host := "") (Or.inl (hw _ (List.mem_of_getElem? (i := 15) rfl))) Via.refl e14 (own_I_get_limb3 I0) (g := (mkF m 136 #[.val (.ref o1), .val (.int (1 : Int32)), .val (.long (-1 : Int64)), .second, .val (.long m0), .second, .val (.long m1), .second, .val (.long m2), .second, .val (.long m3), .second, .val (.long m4), .second, .val (.long s0), .second, .val (.long c0), .second, .val (.long s1), .second, .val (.long c1), .second, .val (.long s2), .second, .val (.long c2), .second, .unset, .unset, .unset, .unset, .unset, .unset, .unset, .unset] [(.ref o1)])) rfl rfl (hb hby d_prog_29_method_13_136)
  refine GoOn.st st15 ?_
  refine GoOn.st (fun t_ k_ => XS.lload X15.here hx rfl (hb hby d_prog_29_method_13_139) rfl k_) ?_
  show GoOn _ _ _ _ (T15.setTop (mkF m 141 #[.val (.ref o1), .val (.int (1 : Int32)), .val (.long (-1 : Int64)), .second, .val (.long m0), .second, .val (.long m1), .second, .val (.long m2), .second, .val (.long m3), .second, .val (.long m4), .second, .val (.long s0), .second, .val (.long c0), .second, .val (.long s1), .second, .val (.long c1), .second, .val (.long s2), .second, .val (.long c2), .second, .unset, .unset, .unset, .unset, .unset, .unset, .unset, .unset] [(.long m3), (.long l3)]))
  refine GoOn.st (fun t_ k_ => XS.ladd X15.here hx rfl (hb hby d_prog_29_method_13_141) rfl k_) ?_
  refine GoOn.st (fun t_ k_ => XS.lload X15.here hx rfl (hb hby d_prog_29_method_13_142) rfl k_) ?_
  refine GoOn.st (fun t_ k_ => XS.ladd X15.here hx rfl (hb hby d_prog_29_method_13_144) rfl k_) ?_
  refine GoOn.st (fun t_ k_ => XS.lstore X15.here hx rfl (hb hby d_prog_29_method_13_145) rfl (l' := #[.val (.ref o1), .val (.int (1 : Int32)), .val (.long (-1 : Int64)), .second, .val (.long m0), .second, .val (.long m1), .second, .val (.long m2), .second, .val (.long m3), .second, .val (.long m4), .second, .val (.long s0), .second, .val (.long c0), .second, .val (.long s1), .second, .val (.long c1), .second, .val (.long s2), .second, .val (.long c2), .second, .val (.long ((l3 + m3) + c2)), .second, .unset, .unset, .unset, .unset, .unset, .unset]) rfl k_) ?_
  show GoOn _ _ _ _ (T15.setTop (mkF m 147 #[.val (.ref o1), .val (.int (1 : Int32)), .val (.long (-1 : Int64)), .second, .val (.long m0), .second, .val (.long m1), .second, .val (.long m2), .second, .val (.long m3), .second, .val (.long m4), .second, .val (.long s0), .second, .val (.long c0), .second, .val (.long s1), .second, .val (.long c1), .second, .val (.long s2), .second, .val (.long c2), .second, .val (.long ((l3 + m3) + c2)), .second, .unset, .unset, .unset, .unset, .unset, .unset] []))
  obtain ⟨s3, e_s3⟩ : ∃ z : Int64, z = ((l3 + m3) + c2) := ⟨_, rfl⟩
  rw [← e_s3]
  refine GoOn.st (fun t_ k_ => XS.aloadN X15.here hx rfl (hb hby d_prog_29_method_13_147) rfl rfl k_) ?_
  obtain ⟨T16, X16, e16, st16⟩ := getF X15 hx hZ hown (host := "") (Or.inl (hw _ (List.mem_of_getElem? (i := 15) rfl))) Via.refl e15 (own_I_get_limb3 I0) (g := (mkF m 148 #[.val (.ref o1), .val (.int (1 : Int32)), .val (.long (-1 : Int64)), .second, .val (.long m0), .second, .val (.long m1), .second, .val (.long m2), .second, .val (.long m3), .second, .val (.long m4), .second, .val (.long s0), .second, .val (.long c0), .second, .val (.long s1), .second, .val (.long c1), .second, .val (.long s2), .second, .val (.long c2), .second, .val (.long s3), .second, .unset, .unset, .unset, .unset, .unset, .unset] [(.ref o1)])) rfl rfl (hb hby d_prog_29_method_13_148)
  refine GoOn.st st16 ?_
  refine GoOn.st (fun t_ k_ => XS.lload X16.here hx rfl (hb hby d_prog_29_method_13_151) rfl k_) ?_
  show GoOn _ _ _ _ (T16.setTop (mkF m 153 #[.val (.ref o1), .val (.int (1 : Int32)), .val (.long (-1 : Int64)), .second, .val (.long m0), .second, .val (.long m1), .second, .val (.long m2), .second, .val (.long m3), .second, .val (.long m4), .second, .val (.long s0), .second, .val (.long c0), .second, .val (.long s1), .second, .val (.long c1), .second, .val (.long s2), .second, .val (.long c2), .second, .val (.long s3), .second, .unset, .unset, .unset, .unset, .unset, .unset] [(.long m3), (.long l3)]))
  refine GoOn.st (fun t_ k_ => XS.lload X16.here hx rfl (hb hby d_prog_29_method_13_153) rfl k_) ?_
  show GoOn _ _ _ _ (T16.setTop (mkF m 155 #[.val (.ref o1), .val (.int (1 : Int32)), .val (.long (-1 : Int64)), .second, .val (.long m0), .second, .val (.long m1), .second, .val (.long m2), .second, .val (.long m3), .second, .val (.long m4), .second, .val (.long s0), .second, .val (.long c0), .second, .val (.long s1), .second, .val (.long c1), .second, .val (.long s2), .second, .val (.long c2), .second, .val (.long s3), .second, .unset, .unset, .unset, .unset, .unset, .unset] [(.long s3), (.long m3), (.long l3)]))
  refine GoOn.callS (W := 0) (argsL := [(.long l3), (.long m3), (.long s3)]) (rest := []) X16 hx hZ hown (hw _ (List.mem_of_getElem? (i := 66) rfl)) (hw _ (List.mem_of_getElem? (i := 67) rfl)) (hw _ (List.mem_of_getElem? (i := 40) rfl)) (hw _ (List.mem_of_getElem? (i := 68) rfl)) (by decide) (rm_carry l Z a0 hw l3 m3 s3 h0) e16 (by decide) (by decide) (by rw [hml]; rfl) pd_1 rfl rfl (Nat.le_of_eq rfl) (hb hby d_prog_29_method_13_155) (by decide) (by decide) ?_
  rintro _ T17 L17 X17 ⟨rfl, rfl, e17⟩
  rw [List.append_nil] at X17
  refine GoOn.st (fun t_ k_ => XS.lstore X17.here hx rfl (hb hby d_prog_29_method_13_158) rfl (l' := #[.val (.ref o1), .val (.int (1 : Int32)), .val (.long (-1 : Int64)), .second, .val (.long m0), .second, .val (.long m1), .second, .val (.long m2), .second, .val (.long m3), .second, .val (.long m4), .second, .val (.long s0), .second, .val (.long c0), .second, .val (.long s1), .second, .val (.long c1), .second, .val (.long s2), .second, .val (.long c2), .second, .val (.long s3), .second, .val (.long (own_carry l3 m3 s3)), .second, .unset, .unset, .unset, .unset]) rfl k_) ?_
  show GoOn _ _ _ _ (T17.setTop (mkF m 160 #[.val (.ref o1), .val (.int (1 : Int32)), .val (.long (-1 : Int64)), .second, .val (.long m0), .second, .val (.long m1), .second, .val (.long m2), .second, .val (.long m3), .second, .val (.long m4), .second, .val (.long s0), .second, .val (.long c0), .second, .val (.long s1), .second, .val (.long c1), .second, .val (.long s2), .second, .val (.long c2), .second, .val (.long s3), .second, .val (.long (own_carry l3 m3 s3)), .second, .unset, .unset, .unset, .unset] []))
  obtain ⟨c3, e_c3⟩ : ∃ z : Int64, z = (own_carry l3 m3 s3) := ⟨_, rfl⟩
  rw [← e_c3]
  refine GoOn.st (fun t_ k_ => XS.aloadN X17.here hx rfl (hb hby d_prog_29_method_13_160) rfl rfl k_) ?_
  obtain ⟨T18, X18, e18, st18⟩ := getF X17 hx hZ hown (host := "") (Or.inl (hw _ (List.mem_of_getElem? (i := 17) rfl))) Via.refl e17 (own_I_get_limb4 I0) (g := (mkF m 161 #[.val (.ref o1), .val (.int (1 : Int32)), .val (.long (-1 : Int64)), .second, .val (.long m0), .second, .val (.long m1), .second, .val (.long m2), .second, .val (.long m3), .second, .val (.long m4), .second, .val (.long s0), .second, .val (.long c0), .second, .val (.long s1), .second, .val (.long c1), .second, .val (.long s2), .second, .val (.long c2), .second, .val (.long s3), .second, .val (.long c3), .second, .unset, .unset, .unset, .unset] [(.ref o1)])) rfl rfl (hb hby d_prog_29_method_13_161)
  refine GoOn.st st18 ?_
  refine GoOn.st (fun t_ k_ => XS.lload X18.here hx rfl (hb hby d_prog_29_method_13_164) rfl k_) ?_
  show GoOn _ _ _ _ (T18.setTop (mkF m 166 #[.val (.ref o1), .val (.int (1 : Int32)), .val (.long (-1 : Int64)), .second, .val (.long m0), .second, .val (.long m1), .second, .val (.long m2), .second, .val (.long m3), .second, .val (.long m4), .second, .val (.long s0), .second, .val (.long c0), .second, .val (.long s1), .second, .val (.long c1), .second, .val (.long s2), .second, .val (.long c2), .second, .val (.long s3), .second, .val (.long c3), .second, .unset, .unset, .unset, .unset] [(.long m4), (.long l4)]))
  refine GoOn.st (fun t_ k_ => XS.ladd X18.here hx rfl (hb hby d_prog_29_method_13_166) rfl k_) ?_
  refine GoOn.st (fun t_ k_ => XS.lload X18.here hx rfl (hb hby d_prog_29_method_13_167) rfl k_) ?_
  refine GoOn.st (fun t_ k_ => XS.ladd X18.here hx rfl (hb hby d_prog_29_method_13_169) rfl k_) ?_
  refine GoOn.st (fun t_ k_ => XS.lstore X18.here hx rfl (hb hby d_prog_29_method_13_170) rfl (l' := #[.val (.ref o1), .val (.int (1 : Int32)), .val (.long (-1 : Int64)), .second, .val (.long m0), .second, .val (.long m1), .second, .val (.long m2), .second, .val (.long m3), .second, .val (.long m4), .second, .val (.long s0), .second, .val (.long c0), .second, .val (.long s1), .second, .val (.long c1), .second, .val (.long s2), .second, .val (.long c2), .second, .val (.long s3), .second, .val (.long c3), .second, .val (.long ((l4 + m4) + c3)), .second, .unset, .unset]) rfl k_) ?_
  show GoOn _ _ _ _ (T18.setTop (mkF m 172 #[.val (.ref o1), .val (.int (1 : Int32)), .val (.long (-1 : Int64)), .second, .val (.long m0), .second, .val (.long m1), .second, .val (.long m2), .second, .val (.long m3), .second, .val (.long m4), .second, .val (.long s0), .second, .val (.long c0), .second, .val (.long s1), .second, .val (.long c1), .second, .val (.long s2), .second, .val (.long c2), .second, .val (.long s3), .second, .val (.long c3), .second, .val (.long ((l4 + m4) + c3)), .second, .unset, .unset] []))
  obtain ⟨s4, e_s4⟩ : ∃ z : Int64, z = ((l4 + m4) + c3) := ⟨_, rfl⟩
  rw [← e_s4]
  refine GoOn.st (fun t_ k_ => XS.aloadN X18.here hx rfl (hb hby d_prog_29_method_13_172) rfl rfl k_) ?_
  obtain ⟨T19, X19, e19, st19⟩ := getF X18 hx hZ hown (host := "") (Or.inl (hw _ (List.mem_of_getElem? (i := 17) rfl))) Via.refl e18 (own_I_get_limb4 I0) (g := (mkF m 173 #[.val (.ref o1), .val (.int (1 : Int32)), .val (.long (-1 : Int64)), .second, .val (.long m0), .second, .val (.long m1), .second, .val (.long m2), .second, .val (.long m3), .second, .val (.long m4), .second, .val (.long s0), .second, .val (.long c0), .second, .val (.long s1), .second, .val (.long c1), .second, .val (.long s2), .second, .val (.long c2), .second, .val (.long s3), .second, .val (.long c3), .second, .val (.long s4), .second, .unset, .unset] [(.ref o1)])) rfl rfl (hb hby d_prog_29_method_13_173)
  refine GoOn.st st19 ?_
  refine GoOn.st (fun t_ k_ => XS.lload X19.here hx rfl (hb hby d_prog_29_method_13_176) rfl k_) ?_
  show GoOn _ _ _ _ (T19.setTop (mkF m 178 #[.val (.ref o1), .val (.int (1 : Int32)), .val (.long (-1 : Int64)), .second, .val (.long m0), .second, .val (.long m1), .second, .val (.long m2), .second, .val (.long m3), .second, .val (.long m4), .second, .val (.long s0), .second, .val (.long c0), .second, .val (.long s1), .second, .val (.long c1), .second, .val (.long s2), .second, .val (.long c2), .second, .val (.long s3), .second, .val (.long c3), .second, .val (.long s4), .second, .unset, .unset] [(.long m4), (.long l4)]))
  refine GoOn.st (fun t_ k_ => XS.lload X19.here hx rfl (hb hby d_prog_29_method_13_178) rfl k_) ?_
  show GoOn _ _ _ _ (T19.setTop (mkF m 180 #[.val (.ref o1), .val (.int (1 : Int32)), .val (.long (-1 : Int64)), .second, .val (.long m0), .second, .val (.long m1), .second, .val (.long m2), .second, .val (.long m3), .second, .val (.long m4), .second, .val (.long s0), .second, .val (.long c0), .second, .val (.long s1), .second, .val (.long c1), .second, .val (.long s2), .second, .val (.long c2), .second, .val (.long s3), .second, .val (.long c3), .second, .val (.long s4), .second, .unset, .unset] [(.long s4), (.long m4), (.long l4)]))
  refine GoOn.callS (W := 0) (argsL := [(.long l4), (.long m4), (.long s4)]) (rest := []) X19 hx hZ hown (hw _ (List.mem_of_getElem? (i := 66) rfl)) (hw _ (List.mem_of_getElem? (i := 67) rfl)) (hw _ (List.mem_of_getElem? (i := 40) rfl)) (hw _ (List.mem_of_getElem? (i := 68) rfl)) (by decide) (rm_carry l Z a0 hw l4 m4 s4 h0) e19 (by decide) (by decide) (by rw [hml]; rfl) pd_1 rfl rfl (Nat.le_of_eq rfl) (hb hby d_prog_29_method_13_180) (by decide) (by decide) ?_
  rintro _ T20 L20 X20 ⟨rfl, rfl, e20⟩
  rw [List.append_nil] at X20
  refine GoOn.st (fun t_ k_ => XS.lstore X20.here hx rfl (hb hby d_prog_29_method_13_183) rfl (l' := #[.val (.ref o1), .val (.int (1 : Int32)), .val (.long (-1 : Int64)), .second, .val (.long m0), .second, .val (.long m1), .second, .val (.long m2), .second, .val (.long m3), .second, .val (.long m4), .second, .val (.long s0), .second, .val (.long c0), .second, .val (.long s1), .second, .val (.long c1), .second, .val (.long s2), .second, .val (.long c2), .second, .val (.long s3), .second, .val (.long c3), .second, .val (.long s4), .second, .val (.long (own_carry l4 m4 s4)), .second]) rfl k_) ?_
  show GoOn _ _ _ _ (T20.setTop (mkF m 185 #[.val (.ref o1), .val (.int (1 : Int32)), .val (.long (-1 : Int64)), .second, .val (.long m0), .second, .val (.long m1), .second, .val (.long m2), .second, .val (.long m3), .second, .val (.long m4), .second, .val (.long s0), .second, .val (.long c0), .second, .val (.long s1), .second, .val (.long c1), .second, .val (.long s2), .second, .val (.long c2), .second, .val (.long s3), .second, .val (.long c3), .second, .val (.long s4), .second, .val (.long (own_carry l4 m4 s4)), .second] []))
  obtain ⟨c4, e_c4⟩ : ∃ z : Int64, z = (own_carry l4 m4 s4) := ⟨_, rfl⟩
  rw [← e_c4]
  refine GoOn.st (fun t_ k_ => XS.aloadN X20.here hx rfl (hb hby d_prog_29_method_13_185) rfl rfl k_) ?_
  refine GoOn.st (fun t_ k_ => XS.dup X20.here hx rfl (hb hby d_prog_29_method_13_186) rfl rfl k_) ?_
  obtain ⟨T21, X21, e21, st21⟩ := getF X20 hx hZ hown (host := "") (Or.inl (hw _ (List.mem_of_getElem? (i := 19) rfl))) Via.refl e20 (own_I_get_limb5 I0) (g := (mkF m 187 #[.val (.ref o1), .val (.int (1 : Int32)), .val (.long (-1 : Int64)), .second, .val (.long m0), .second, .val (.long m1), .second, .val (.long m2), .second, .val (.long m3), .second, .val (.long m4), .second, .val (.long s0), .second, .val (.long c0), .second, .val (.long s1), .second, .val (.long c1), .second, .val (.long s2), .second, .val (.long c2), .second, .val (.long s3), .second, .val (.long c3), .second, .val (.long s4), .second, .val (.long c4), .second] [(.ref o1), (.ref o1)])) rfl rfl (hb hby d_prog_29_method_13_187)
  refine GoOn.st st21 ?_
  show GoOn _ _ _ _ (T21.setTop (mkF m 190 #[.val (.ref o1), .val (.int (1 : Int32)), .val (.long (-1 : Int64)), .second, .val (.long m0), .second, .val (.long m1), .second, .val (.long m2), .second, .val (.long m3), .second, .val (.long m4), .second, .val (.long s0), .second, .val (.long c0), .second, .val (.long s1), .second, .val (.long c1), .second, .val (.long s2), .second, .val (.long c2), .second, .val (.long s3), .second, .val (.long c3), .second, .val (.long s4), .second, .val (.long c4), .second] [(.long l5), (.ref o1)]))
  refine GoOn.st (fun t_ k_ => XS.aloadN X21.here hx rfl (hb hby d_prog_29_method_13_190) rfl rfl k_) ?_
  obtain ⟨T22, X22, e22, st22⟩ := getF X21 hx hZ hown (host := "") (Or.inl (hw _ (List.mem_of_getElem? (i := 86) rfl))) Via.refl e21 (own_I_get_product5 I0) (g := (mkF m 191 #[.val (.ref o1), .val (.int (1 : Int32)), .val (.long (-1 : Int64)), .second, .val (.long m0), .second, .val (.long m1), .second, .val (.long m2), .second, .val (.long m3), .second, .val (.long m4), .second, .val (.long s0), .second, .val (.long c0), .second, .val (.long s1), .second, .val (.long c1), .second, .val (.long s2), .second, .val (.long c2), .second, .val (.long s3), .second, .val (.long c3), .second, .val (.long s4), .second, .val (.long c4), .second] [(.ref o1), (.long l5), (.ref o1)])) rfl rfl (hb hby d_prog_29_method_13_191)
  refine GoOn.st st22 ?_
  refine GoOn.st (fun t_ k_ => XS.lloadN X22.here hx rfl (hb hby d_prog_29_method_13_194) rfl k_) ?_
  refine GoOn.st (fun t_ k_ => XS.lxor X22.here hx rfl (hb hby d_prog_29_method_13_195) rfl k_) ?_
  show GoOn _ _ _ _ (T22.setTop (mkF m 196 #[.val (.ref o1), .val (.int (1 : Int32)), .val (.long (-1 : Int64)), .second, .val (.long m0), .second, .val (.long m1), .second, .val (.long m2), .second, .val (.long m3), .second, .val (.long m4), .second, .val (.long s0), .second, .val (.long c0), .second, .val (.long s1), .second, .val (.long c1), .second, .val (.long s2), .second, .val (.long c2), .second, .val (.long s3), .second, .val (.long c3), .second, .val (.long s4), .second, .val (.long c4), .second] [(.long (p5 ^^^ (-1 : Int64))), (.long l5), (.ref o1)]))
  refine GoOn.st (fun t_ k_ => XS.lload X22.here hx rfl (hb hby d_prog_29_method_13_196) rfl k_) ?_
  refine GoOn.st (fun t_ k_ => XS.ladd X22.here hx rfl (hb hby d_prog_29_method_13_198) rfl k_) ?_
  refine GoOn.st (fun t_ k_ => XS.ladd X22.here hx rfl (hb hby d_prog_29_method_13_199) rfl k_) ?_
  obtain ⟨T23, h23, X23, e23, W23, st23⟩ := putF X22 hx hZ hown (host := "") (Or.inl (hw _ (List.mem_of_getElem? (i := 19) rfl))) Via.refl e22 (own_I_get_limb5 I0) (own_I_exa I0) (Or.inl (hw _ (List.mem_of_getElem? (i := 20) rfl))) (hw _ (List.mem_of_getElem? (i := 1) rfl)) (ty := .long) (by decide) rfl rfl (g := (mkF m 200 #[.val (.ref o1), .val (.int (1 : Int32)), .val (.long (-1 : Int64)), .second, .val (.long m0), .second, .val (.long m1), .second, .val (.long m2), .second, .val (.long m3), .second, .val (.long m4), .second, .val (.long s0), .second, .val (.long c0), .second, .val (.long s1), .second, .val (.long c1), .second, .val (.long s2), .second, .val (.long c2), .second, .val (.long s3), .second, .val (.long c3), .second, .val (.long s4), .second, .val (.long c4), .second] [(.long (l5 + ((p5 ^^^ (-1 : Int64)) + c4))), (.ref o1)])) rfl rfl (hb hby d_prog_29_method_13_200)
  have I23 := own_I_put_limb5 hw W23 I0
  have N24 := Fr.snoc X23 N0 g_o1
  refine GoOn.st st23 ?_
  show GoOn _ _ _ _ (T23.setTop (mkF m 203 #[.val (.ref o1), .val (.int (1 : Int32)), .val (.long (-1 : Int64)), .second, .val (.long m0), .second, .val (.long m1), .second, .val (.long m2), .second, .val (.long m3), .second, .val (.long m4), .second, .val (.long s0), .second, .val (.long c0), .second, .val (.long s1), .second, .val (.long c1), .second, .val (.long s2), .second, .val (.long c2), .second, .val (.long s3), .second, .val (.long c3), .second, .val (.long s4), .second, .val (.long c4), .second] []))
  refine GoOn.st (fun t_ k_ => XS.aloadN X23.here hx rfl (hb hby d_prog_29_method_13_203) rfl rfl k_) ?_
  refine GoOn.st (fun t_ k_ => XS.lload X23.here hx rfl (hb hby d_prog_29_method_13_204) rfl k_) ?_
  obtain ⟨T25, h25, X25, e25, W25, st25⟩ := putF X23 hx hZ hown (host := "") (Or.inl (hw _ (List.mem_of_getElem? (i := 9) rfl))) Via.refl e23 (own_I_get_limb0 I23) (own_I_exa I23) (Or.inl (hw _ (List.mem_of_getElem? (i := 10) rfl))) (hw _ (List.mem_of_getElem? (i := 1) rfl)) (ty := .long) (by decide) rfl rfl (g := (mkF m 206 #[.val (.ref o1), .val (.int (1 : Int32)), .val (.long (-1 : Int64)), .second, .val (.long m0), .second, .val (.long m1), .second, .val (.long m2), .second, .val (.long m3), .second, .val (.long m4), .second, .val (.long s0), .second, .val (.long c0), .second, .val (.long s1), .second, .val (.long c1), .second, .val (.long s2), .second, .val (.long c2), .second, .val (.long s3), .second, .val (.long c3), .second, .val (.long s4), .second, .val (.long c4), .second] [(.long s0), (.ref o1)])) rfl rfl (hb hby d_prog_29_method_13_206)
  have I25 := own_I_put_limb0 hw W25 I23
  have N26 := Fr.snoc X25 N24 g_o1
  refine GoOn.st st25 ?_
  refine GoOn.st (fun t_ k_ => XS.aloadN X25.here hx rfl (hb hby d_prog_29_method_13_209) rfl rfl k_) ?_
  show GoOn _ _ _ _ (T25.setTop (mkF m 210 #[.val (.ref o1), .val (.int (1 : Int32)), .val (.long (-1 : Int64)), .second, .val (.long m0), .second, .val (.long m1), .second, .val (.long m2), .second, .val (.long m3), .second, .val (.long m4), .second, .val (.long s0), .second, .val (.long c0), .second, .val (.long s1), .second, .val (.long c1), .second, .val (.long s2), .second, .val (.long c2), .second, .val (.long s3), .second, .val (.long c3), .second, .val (.long s4), .second, .val (.long c4), .second] [(.ref o1)]))
  refine GoOn.st (fun t_ k_ => XS.lload X25.here hx rfl (hb hby d_prog_29_method_13_210) rfl k_) ?_
  obtain ⟨T27, h27, X27, e27, W27, st27⟩ := putF X25 hx hZ hown (host := "") (Or.inl (hw _ (List.mem_of_getElem? (i := 11) rfl))) Via.refl e25 (own_I_get_limb1 I25) (own_I_exa I25) (Or.inl (hw _ (List.mem_of_getElem? (i := 12) rfl))) (hw _ (List.mem_of_getElem? (i := 1) rfl)) (ty := .long) (by decide) rfl rfl (g := (mkF m 212 #[.val (.ref o1), .val (.int (1 : Int32)), .val (.long (-1 : Int64)), .second, .val (.long m0), .second, .val (.long m1), .second, .val (.long m2), .second, .val (.long m3), .second, .val (.long m4), .second, .val (.long s0), .second, .val (.long c0), .second, .val (.long s1), .second, .val (.long c1), .second, .val (.long s2), .second, .val (.long c2), .second, .val (.long s3), .second, .val (.long c3), .second, .val (.long s4), .second, .val (.long c4), .second] [(.long s1), (.ref o1)])) rfl rfl (hb hby d_prog_29_method_13_212)
  have I27 := own_I_put_limb1 hw W27 I25
  have N28 := Fr.snoc X27 N26 g_o1
  refine GoOn.st st27 ?_
  refine GoOn.st (fun t_ k_ => XS.aloadN X27.here hx rfl (hb hby d_prog_29_method_13_215) rfl rfl k_) ?_
  refine GoOn.st (fun t_ k_ => XS.lload X27.here hx rfl (hb hby d_prog_29_method_13_216) rfl k_) ?_
  show GoOn _ _ _ _ (T27.setTop (mkF m 218 #[.val (.ref o1), .val (.int (1 : Int32)), .val (.long (-1 : Int64)), .second, .val (.long m0), .second, .val (.long m1), .second, .val (.long m2), .second, .val (.long m3), .second, .val (.long m4), .second, .val (.long s0), .second, .val (.long c0), .second, .val (.long s1), .second, .val (.long c1), .second, .val (.long s2), .second, .val (.long c2), .second, .val (.long s3), .second, .val (.long c3), .second, .val (.long s4), .second, .val (.long c4), .second] [(.long s2), (.ref o1)]))
  obtain ⟨T29, h29, X29, e29, W29, st29⟩ := putF X27 hx hZ hown (host := "") (Or.inl (hw _ (List.mem_of_getElem? (i := 13) rfl))) Via.refl e27 (own_I_get_limb2 I27) (own_I_exa I27) (Or.inl (hw _ (List.mem_of_getElem? (i := 14) rfl))) (hw _ (List.mem_of_getElem? (i := 1) rfl)) (ty := .long) (by decide) rfl rfl (g := (mkF m 218 #[.val (.ref o1), .val (.int (1 : Int32)), .val (.long (-1 : Int64)), .second, .val (.long m0), .second, .val (.long m1), .second, .val (.long m2), .second, .val (.long m3), .second, .val (.long m4), .second, .val (.long s0), .second, .val (.long c0), .second, .val (.long s1), .second, .val (.long c1), .second, .val (.long s2), .second, .val (.long c2), .second, .val (.long s3), .second, .val (.long c3), .second, .val (.long s4), .second, .val (.long c4), .second] [(.long s2), (.ref o1)])) rfl rfl (hb hby d_prog_29_method_13_218)
  have I29 := own_I_put_limb2 hw W29 I27
  have N30 := Fr.snoc X29 N28 g_o1
  refine GoOn.st st29 ?_
  refine GoOn.st (fun t_ k_ => XS.aloadN X29.here hx rfl (hb hby d_prog_29_method_13_221) rfl rfl k_) ?_
  refine GoOn.st (fun t_ k_ => XS.lload X29.here hx rfl (hb hby d_prog_29_method_13_222) rfl k_) ?_
  obtain ⟨T31, h31, X31, e31, W31, st31⟩ := putF X29 hx hZ hown (host := "") (Or.inl (hw _ (List.mem_of_getElem? (i := 15) rfl))) Via.refl e29 (own_I_get_limb3 I29) (own_I_exa I29) (Or.inl (hw _ (List.mem_of_getElem? (i := 16) rfl))) (hw _ (List.mem_of_getElem? (i := 1) rfl)) (ty := .long) (by decide) rfl rfl (g := (mkF m 224 #[.val (.ref o1), .val (.int (1 : Int32)), .val (.long (-1 : Int64)), .second, .val (.long m0), .second, .val (.long m1), .second, .val (.long m2), .second, .val (.long m3), .second, .val (.long m4), .second, .val (.long s0), .second, .val (.long c0), .second, .val (.long s1), .second, .val (.long c1), .second, .val (.long s2), .second, .val (.long c2), .second, .val (.long s3), .second, .val (.long c3), .second, .val (.long s4), .second, .val (.long c4), .second] [(.long s3), (.ref o1)])) rfl rfl (hb hby d_prog_29_method_13_224)
  have I31 := own_I_put_limb3 hw W31 I29
  have N32 := Fr.snoc X31 N30 g_o1
  refine GoOn.st st31 ?_
  show GoOn _ _ _ _ (T31.setTop (mkF m 227 #[.val (.ref o1), .val (.int (1 : Int32)), .val (.long (-1 : Int64)), .second, .val (.long m0), .second, .val (.long m1), .second, .val (.long m2), .second, .val (.long m3), .second, .val (.long m4), .second, .val (.long s0), .second, .val (.long c0), .second, .val (.long s1), .second, .val (.long c1), .second, .val (.long s2), .second, .val (.long c2), .second, .val (.long s3), .second, .val (.long c3), .second, .val (.long s4), .second, .val (.long c4), .second] []))
  refine GoOn.st (fun t_ k_ => XS.aloadN X31.here hx rfl (hb hby d_prog_29_method_13_227) rfl rfl k_) ?_
  refine GoOn.st (fun t_ k_ => XS.lload X31.here hx rfl (hb hby d_prog_29_method_13_228) rfl k_) ?_
  obtain ⟨T33, h33, X33, e33, W33, st33⟩ := putF X31 hx hZ hown (host := "") (Or.inl (hw _ (List.mem_of_getElem? (i := 17) rfl))) Via.refl e31 (own_I_get_limb4 I31) (own_I_exa I31) (Or.inl (hw _ (List.mem_of_getElem? (i := 18) rfl))) (hw _ (List.mem_of_getElem? (i := 1) rfl)) (ty := .long) (by decide) rfl rfl (g := (mkF m 230 #[.val (.ref o1), .val (.int (1 : Int32)), .val (.long (-1 : Int64)), .second, .val (.long m0), .second, .val (.long m1), .second, .val (.long m2), .second, .val (.long m3), .second, .val (.long m4), .second, .val (.long s0), .second, .val (.long c0), .second, .val (.long s1), .second, .val (.long c1), .second, .val (.long s2), .second, .val (.long c2), .second, .val (.long s3), .second, .val (.long c3), .second, .val (.long s4), .second, .val (.long c4), .second] [(.long s4), (.ref o1)])) rfl rfl (hb hby d_prog_29_method_13_230)
  have I33 := own_I_put_limb4 hw W33 I31
  have N34 := Fr.snoc X33 N32 g_o1
  refine GoOn.st st33 ?_
  show GoOn _ _ _ _ (T33.setTop (mkF m 233 #[.val (.ref o1), .val (.int (1 : Int32)), .val (.long (-1 : Int64)), .second, .val (.long m0), .second, .val (.long m1), .second, .val (.long m2), .second, .val (.long m3), .second, .val (.long m4), .second, .val (.long s0), .second, .val (.long c0), .second, .val (.long s1), .second, .val (.long c1), .second, .val (.long s2), .second, .val (.long c2), .second, .val (.long s3), .second, .val (.long c3), .second, .val (.long s4), .second, .val (.long c4), .second] []))
  have hs := own_sum6 (l5 := l5) (m5 := p5 ^^^ (-1 : Int64)) (n := (1 : Int32).toInt64) (by decide) e_s0 e_c0 e_s1 e_c1 e_s2 e_c2 e_s3 e_c3 e_s4 e_c4 rfl
  rw [e_m0, e_m1, e_m2, e_m3, e_m4] at hs
  have hf := own_flip6 p0 p1 p2 p3 p4 p5
  exact GoOn.retV X33 hx hlk hret (hb hby d_prog_29_method_13_233) (by rw [e33]; exact ⟨rfl, N34, _, _, _, _, _, _, I33, hs.trans (by have z1 : own_U ((1 : Int32).toInt64) = 1 := rfl; rw [z1]; congr 1; omega)⟩) (by decide) (by decide)
theorem ef_init (m : MethodId) (x0 : Addr) : entryFrame m #[(.ref x0)] 1 = mkF m 0 #[.val (.ref x0)] [] := by first | (simp [entryFrame, mkF, argsToLocals, Value.category]; done) | rfl
theorem d_prog_29_method_1_0 : decode prog_29_method_1_code 0 = .ok (.aload_n 0, 1) := by decide +kernel
theorem d_prog_29_method_1_1 : decode prog_29_method_1_code 1 = .ok (.invokespecial 1, 3) := by decide +kernel
theorem d_prog_29_method_1_4 : decode prog_29_method_1_code 4 = .ok (.return_, 1) := by decide +kernel
set_option maxRecDepth 65536 in
set_option maxHeartbeats 40000000 in
theorem rm_init (l : Launch) (Z : State) (a0 : Array Value) (hw : ∀ d ∈ tables_1, d.before a0 Z = true) (o1 : Addr) (h0 : Heap) :
    OwCon l Z (⟨"com/example/nano_embed/nanoembed/geometry/Int384", "<init>", "()V"⟩ : MethodName) prog_29_method_1_code 1 none [] ({ frames := 1, cells := 0, slots := 0, locals := 12 } : Room) #[(.ref o1)] h0 (OwRet none h0) := by
  refine OwCon.of (plainFor_of_name pn_com_example_nano_embed_nanoembed_geometry_Int384) ?_
  intro p e s m below meth cd_ s₁ X0 hx hby hml hret hlk hown hnm hZ e0
  refine GoOn.st (fun t_ k_ => castTop (ef_init m o1) k_) ?_
  show GoOn _ _ _ _ (s₁.setTop (mkF m 0 #[.val (.ref o1)] []))
  refine GoOn.st (fun t_ k_ => XS.aloadN X0.here hx rfl (hb hby d_prog_29_method_1_0) rfl rfl k_) ?_
  show GoOn _ _ _ _ (s₁.setTop (mkF m 1 #[.val (.ref o1)] [(.ref o1)]))
  obtain ⟨T1, X1, e1, st1⟩ := initO X0 hx hZ hown (hw _ (List.mem_of_getElem? (i := 6) rfl)) (hw _ (List.mem_of_getElem? (i := 7) rfl)) (hw _ (List.mem_of_getElem? (i := 8) rfl)) e0 (g := (mkF m 1 #[.val (.ref o1)] [(.ref o1)])) rfl (by rw [hml]; rfl) rfl (hb hby d_prog_29_method_1_1) (by decide) (W := 0) (by show 2 * 0 + _ ≤ _; exact Nat.le_of_eq rfl) (by decide)
  refine GoOn.st st1 ?_
  show GoOn _ _ _ _ (T1.setTop (mkF m 4 #[.val (.ref o1)] []))
  exact GoOn.retV X1 hx hlk hret (hb hby d_prog_29_method_1_4) (by rw [e1]; exact ⟨rfl, rfl, rfl⟩) (by decide) (by decide)
theorem ef_add (m : MethodId) (x0 : Addr) (x1 : Int64) (x2 : Int64) (x3 : Int64) (x4 : Int64) (x5 : Int64) (x6 : Int64) : entryFrame m #[(.ref x0), (.long x1), (.long x2), (.long x3), (.long x4), (.long x5), (.long x6)] 13 = mkF m 0 #[.val (.ref x0), .val (.long x1), .second, .val (.long x2), .second, .val (.long x3), .second, .val (.long x4), .second, .val (.long x5), .second, .val (.long x6), .second] [] := by first | (simp [entryFrame, mkF, argsToLocals, Value.category]; done) | rfl
theorem d_prog_29_method_3_0 : decode prog_29_method_3_code 0 = .ok (.aload_n 0, 1) := by decide +kernel
theorem d_prog_29_method_3_1 : decode prog_29_method_3_code 1 = .ok (.lload_n 1, 1) := by decide +kernel
theorem d_prog_29_method_3_2 : decode prog_29_method_3_code 2 = .ok (.lload_n 3, 1) := by decide +kernel
theorem d_prog_29_method_3_3 : decode prog_29_method_3_code 3 = .ok (.lload 5, 2) := by decide +kernel
theorem d_prog_29_method_3_5 : decode prog_29_method_3_code 5 = .ok (.lload 7, 2) := by decide +kernel
theorem d_prog_29_method_3_7 : decode prog_29_method_3_code 7 = .ok (.lload 9, 2) := by decide +kernel
theorem d_prog_29_method_3_9 : decode prog_29_method_3_code 9 = .ok (.lload 11, 2) := by decide +kernel
theorem d_prog_29_method_3_11 : decode prog_29_method_3_code 11 = .ok (.invokevirtual 28, 3) := by decide +kernel
theorem d_prog_29_method_3_14 : decode prog_29_method_3_code 14 = .ok (.aload_n 0, 1) := by decide +kernel
theorem d_prog_29_method_3_15 : decode prog_29_method_3_code 15 = .ok (.lload_n 1, 1) := by decide +kernel
theorem d_prog_29_method_3_16 : decode prog_29_method_3_code 16 = .ok (.lload 7, 2) := by decide +kernel
theorem d_prog_29_method_3_18 : decode prog_29_method_3_code 18 = .ok (.lxor, 1) := by decide +kernel
theorem d_prog_29_method_3_19 : decode prog_29_method_3_code 19 = .ok (.lconst 0, 1) := by decide +kernel
theorem d_prog_29_method_3_20 : decode prog_29_method_3_code 20 = .ok (.lcmp, 1) := by decide +kernel
theorem d_prog_29_method_3_21 : decode prog_29_method_3_code 21 = .ok (.ifCond .ge 7, 3) := by decide +kernel
theorem d_prog_29_method_3_24 : decode prog_29_method_3_code 24 = .ok (.iconst 1, 1) := by decide +kernel
theorem d_prog_29_method_3_25 : decode prog_29_method_3_code 25 = .ok (.goto 4, 3) := by decide +kernel
theorem pd_8 : parseMethodDescriptor "(Z)V" = some ⟨[.boolean], none⟩ := by decide +kernel
theorem d_prog_29_method_3_29 : decode prog_29_method_3_code 29 = .ok (.invokevirtual 32, 3) := by decide +kernel
theorem d_prog_29_method_3_32 : decode prog_29_method_3_code 32 = .ok (.aload_n 0, 1) := by decide +kernel
theorem d_prog_29_method_3_33 : decode prog_29_method_3_code 33 = .ok (.areturn, 1) := by decide +kernel
theorem d_prog_29_method_3_28 : decode prog_29_method_3_code 28 = .ok (.iconst 0, 1) := by decide +kernel
set_option maxRecDepth 65536 in
set_option maxHeartbeats 40000000 in
theorem rm_add (l : Launch) (Z : State) (a0 : Array Value) (hw : ∀ d ∈ tables_1, d.before a0 Z = true) (o1 : Addr) (l0 l1 l2 l3 l4 l5 p0 p1 p2 p3 p4 p5 c q1 q2 q3 q4 q5 q6 : Int64) (h0 : Heap) (n0 : Nat) (g_o1 : n0 ≤ o1) (I0 : own_I Z h0 o1 l0 l1 l2 l3 l4 l5 p0 p1 p2 p3 p4 p5 c 0) (hA : -2305843009213693952 ≤ q1.toInt ∧ q1.toInt ≤ 2305843009213693952) (hB : -2305843009213693952 ≤ q4.toInt ∧ q4.toInt ≤ 2305843009213693952) (hq4 : ¬ q4 < 0) (hnzp : ¬ q4 = 0) :
    OwCon l Z (⟨"com/example/nano_embed/nanoembed/geometry/Int384", "add", "(JJJJJJ)Lcom/example/nano_embed/nanoembed/geometry/Int384;"⟩ : MethodName) prog_29_method_3_code 13 (some (.object "com/example/nano_embed/nanoembed/geometry/Int384")) [] ({ frames := 4, cells := 0, slots := 0, locals := 107 } : Room) #[(.ref o1), (.long q1), (.long q2), (.long q3), (.long q4), (.long q5), (.long q6)] h0 (fun v h L => v = some (.ref o1) ∧ Fr n0 L ∧ ∃ l0' l1' l2' l3' l4' l5' p0' p1' p2' p3' p4' p5' c', own_I Z h o1 l0' l1' l2' l3' l4' l5' p0' p1' p2' p3' p4' p5' c' 0 ∧ (own_P6 l0' l1' l2' l3' l4' l5' : Int) = ((own_P6 l0 l1 l2 l3 l4 l5 : Int) + own_S3 q1 q2 q3 * own_S3 q4 q5 q6) % 39402006196394479212279040100143613805079739270465446667948293404245721771497210611414266254884915640806627990306816) := by
  refine OwCon.of (plainFor_of_name pn_com_example_nano_embed_nanoembed_geometry_Int384) ?_
  intro p e s m below meth cd_ s₁ X0 hx hby hml hret hlk hown hnm hZ e0
  have N0 := Fr.nil n0
  refine GoOn.st (fun t_ k_ => castTop (ef_add m o1 q1 q2 q3 q4 q5 q6) k_) ?_
  show GoOn _ _ _ _ (s₁.setTop (mkF m 0 #[.val (.ref o1), .val (.long q1), .second, .val (.long q2), .second, .val (.long q3), .second, .val (.long q4), .second, .val (.long q5), .second, .val (.long q6), .second] []))
  refine GoOn.st (fun t_ k_ => XS.aloadN X0.here hx rfl (hb hby d_prog_29_method_3_0) rfl rfl k_) ?_
  refine GoOn.st (fun t_ k_ => XS.lloadN X0.here hx rfl (hb hby d_prog_29_method_3_1) rfl k_) ?_
  refine GoOn.st (fun t_ k_ => XS.lloadN X0.here hx rfl (hb hby d_prog_29_method_3_2) rfl k_) ?_
  refine GoOn.st (fun t_ k_ => XS.lload X0.here hx rfl (hb hby d_prog_29_method_3_3) rfl k_) ?_
  show GoOn _ _ _ _ (s₁.setTop (mkF m 5 #[.val (.ref o1), .val (.long q1), .second, .val (.long q2), .second, .val (.long q3), .second, .val (.long q4), .second, .val (.long q5), .second, .val (.long q6), .second] [(.long q3), (.long q2), (.long q1), (.ref o1)]))
  refine GoOn.st (fun t_ k_ => XS.lload X0.here hx rfl (hb hby d_prog_29_method_3_5) rfl k_) ?_
  refine GoOn.st (fun t_ k_ => XS.lload X0.here hx rfl (hb hby d_prog_29_method_3_7) rfl k_) ?_
  refine GoOn.st (fun t_ k_ => XS.lload X0.here hx rfl (hb hby d_prog_29_method_3_9) rfl k_) ?_
  show GoOn _ _ _ _ (s₁.setTop (mkF m 11 #[.val (.ref o1), .val (.long q1), .second, .val (.long q2), .second, .val (.long q3), .second, .val (.long q4), .second, .val (.long q5), .second, .val (.long q6), .second] [(.long q6), (.long q5), (.long q4), (.long q3), (.long q2), (.long q1), (.ref o1)]))
  refine GoOn.callP (W := 0) (argsL := [(.long q1), (.long q2), (.long q3), (.long q4), (.long q5), (.long q6)]) (rest := []) (a := o1) X0 hx hZ hown (hw _ (List.mem_of_getElem? (i := 34) rfl)) (hw _ (List.mem_of_getElem? (i := 35) rfl)) (Jvm.Kit.selects_private (by decide) (hw _ (List.mem_of_getElem? (i := 1) rfl)) (hw _ (List.mem_of_getElem? (i := 36) rfl)) (hw _ (List.mem_of_getElem? (i := 35) rfl))) (hw _ (List.mem_of_getElem? (i := 36) rfl)) (hw _ (List.mem_of_getElem? (i := 2) rfl)) (hw _ (List.mem_of_getElem? (i := 37) rfl)) (by decide) (rm_ms l Z a0 hw o1 l0 l1 l2 l3 l4 l5 p0 p1 p2 p3 p4 p5 c q1 q2 q3 q4 q5 q6 h0 n0 g_o1 I0 hA hB hq4 hnzp) e0 (own_I_exa I0).cell (by decide) (by decide) (by rw [hml]; rfl) pd_7 rfl rfl (Nat.le_of_eq rfl) (hb hby d_prog_29_method_3_11) (by decide) (by decide) ?_
  rintro _ T1 L1 X1 ⟨rfl, N1q, p0_1, p1_1, p2_1, p3_1, p4_1, p5_1, cc1, I1, eq1⟩
  have N1 := Fr.app N0 N1q
  refine GoOn.st (fun t_ k_ => XS.aloadN X1.here hx rfl (hb hby d_prog_29_method_3_14) rfl rfl k_) ?_
  refine GoOn.st (fun t_ k_ => XS.lloadN X1.here hx rfl (hb hby d_prog_29_method_3_15) rfl k_) ?_
  refine GoOn.st (fun t_ k_ => XS.lload X1.here hx rfl (hb hby d_prog_29_method_3_16) rfl k_) ?_
  show GoOn _ _ _ _ (T1.setTop (mkF m 18 #[.val (.ref o1), .val (.long q1), .second, .val (.long q2), .second, .val (.long q3), .second, .val (.long q4), .second, .val (.long q5), .second, .val (.long q6), .second] [(.long q4), (.long q1), (.ref o1)]))
  refine GoOn.st (fun t_ k_ => XS.lxor X1.here hx rfl (hb hby d_prog_29_method_3_18) rfl k_) ?_
  refine GoOn.st (fun t_ k_ => XS.lconst X1.here hx rfl (hb hby d_prog_29_method_3_19)  k_) ?_
  refine GoOn.st (fun t_ k_ => XS.lcmp X1.here hx rfl (hb hby d_prog_29_method_3_20) rfl k_) ?_
  by_cases hc2 : (q1 ^^^ q4) < (0 : Int64)
  · skip
    refine GoOn.st (fun t_ k_ => XS.ifNo X1.here hx rfl (hb hby d_prog_29_method_3_21) rfl ((if0 _ _).trans (tlt ((lw_lt (q1 ^^^ q4) (0 : Int64)).mpr hc2)).2.1) k_) ?_
    show GoOn _ _ _ _ (T1.setTop (mkF m 24 #[.val (.ref o1), .val (.long q1), .second, .val (.long q2), .second, .val (.long q3), .second, .val (.long q4), .second, .val (.long q5), .second, .val (.long q6), .second] [(.ref o1)]))
    refine GoOn.st (fun t_ k_ => XS.iconst X1.here hx rfl (hb hby d_prog_29_method_3_24)  k_) ?_
    refine GoOn.st (fun t_ k_ => XS.goto X1.here hx rfl (pc0 := 25) (pc' := 29) rfl (hb hby d_prog_29_method_3_25) (by decide) (by decide) k_) ?_
    show GoOn _ _ _ _ (T1.setTop (mkF m 29 #[.val (.ref o1), .val (.long q1), .second, .val (.long q2), .second, .val (.long q3), .second, .val (.long q4), .second, .val (.long q5), .second, .val (.long q6), .second] [(.int (1 : Int32)), (.ref o1)]))
    refine GoOn.callP (W := 0) (argsL := [(.int (1 : Int32))]) (rest := []) (a := o1) X1 hx hZ hown (hw _ (List.mem_of_getElem? (i := 88) rfl)) (hw _ (List.mem_of_getElem? (i := 89) rfl)) (Jvm.Kit.selects_private (by decide) (hw _ (List.mem_of_getElem? (i := 1) rfl)) (hw _ (List.mem_of_getElem? (i := 90) rfl)) (hw _ (List.mem_of_getElem? (i := 89) rfl))) (hw _ (List.mem_of_getElem? (i := 90) rfl)) (hw _ (List.mem_of_getElem? (i := 2) rfl)) (hw _ (List.mem_of_getElem? (i := 91) rfl)) (by decide) (rm_ap1 l Z a0 hw o1 l0 l1 l2 l3 l4 l5 p0_1 p1_1 p2_1 p3_1 p4_1 p5_1 cc1 T1.heap n0 g_o1 I1) rfl (own_I_exa I1).cell (by decide) (by decide) (by rw [hml]; rfl) pd_8 rfl rfl (Nat.le_of_eq rfl) (hb hby d_prog_29_method_3_29) (by decide) (by decide) ?_
    rintro _ T3 L3 X3 ⟨rfl, N3q, l0_3, l1_3, l2_3, l3_3, l4_3, l5_3, I3, eq3⟩
    have N3 := Fr.app N1 N3q
    refine GoOn.st (fun t_ k_ => XS.aloadN X3.here hx rfl (hb hby d_prog_29_method_3_32) rfl rfl k_) ?_
    show GoOn _ _ _ _ (T3.setTop (mkF m 33 #[.val (.ref o1), .val (.long q1), .second, .val (.long q2), .second, .val (.long q3), .second, .val (.long q4), .second, .val (.long q5), .second, .val (.long q6), .second] [(.ref o1)]))
    exact GoOn.retA X3 hx hlk hret rfl rfl rfl (hb hby d_prog_29_method_3_33) ⟨rfl, N3, _, _, _, _, _, _, _, _, _, _, _, _, _, I3, own_add_diff eq1 (own_P6_lt _ _ _ _ _ _) hc2 eq3⟩ (by decide) (by decide)
  · skip
    refine GoOn.st (fun t_ k_ => XS.ifYes X1.here hx rfl (pc0 := 21) (pc' := 28) rfl (hb hby d_prog_29_method_3_21) rfl ((if0 _ _).trans (flt (fun q => hc2 ((lw_lt (q1 ^^^ q4) (0 : Int64)).mp q))).2.1) (by decide) (by decide) k_) ?_
    show GoOn _ _ _ _ (T1.setTop (mkF m 28 #[.val (.ref o1), .val (.long q1), .second, .val (.long q2), .second, .val (.long q3), .second, .val (.long q4), .second, .val (.long q5), .second, .val (.long q6), .second] [(.ref o1)]))
    refine GoOn.st (fun t_ k_ => XS.iconst X1.here hx rfl (hb hby d_prog_29_method_3_28)  k_) ?_
    show GoOn _ _ _ _ (T1.setTop (mkF m 29 #[.val (.ref o1), .val (.long q1), .second, .val (.long q2), .second, .val (.long q3), .second, .val (.long q4), .second, .val (.long q5), .second, .val (.long q6), .second] [(.int (0 : Int32)), (.ref o1)]))
    refine GoOn.callP (W := 0) (argsL := [(.int (0 : Int32))]) (rest := []) (a := o1) X1 hx hZ hown (hw _ (List.mem_of_getElem? (i := 88) rfl)) (hw _ (List.mem_of_getElem? (i := 89) rfl)) (Jvm.Kit.selects_private (by decide) (hw _ (List.mem_of_getElem? (i := 1) rfl)) (hw _ (List.mem_of_getElem? (i := 90) rfl)) (hw _ (List.mem_of_getElem? (i := 89) rfl))) (hw _ (List.mem_of_getElem? (i := 90) rfl)) (hw _ (List.mem_of_getElem? (i := 2) rfl)) (hw _ (List.mem_of_getElem? (i := 91) rfl)) (by decide) (rm_ap0 l Z a0 hw o1 l0 l1 l2 l3 l4 l5 p0_1 p1_1 p2_1 p3_1 p4_1 p5_1 cc1 T1.heap n0 g_o1 I1) rfl (own_I_exa I1).cell (by decide) (by decide) (by rw [hml]; rfl) pd_8 rfl rfl (Nat.le_of_eq rfl) (hb hby d_prog_29_method_3_29) (by decide) (by decide) ?_
    rintro _ T4 L4 X4 ⟨rfl, N4q, l0_4, l1_4, l2_4, l3_4, l4_4, l5_4, I4, eq4⟩
    have N4 := Fr.app N1 N4q
    refine GoOn.st (fun t_ k_ => XS.aloadN X4.here hx rfl (hb hby d_prog_29_method_3_32) rfl rfl k_) ?_
    show GoOn _ _ _ _ (T4.setTop (mkF m 33 #[.val (.ref o1), .val (.long q1), .second, .val (.long q2), .second, .val (.long q3), .second, .val (.long q4), .second, .val (.long q5), .second, .val (.long q6), .second] [(.ref o1)]))
    exact GoOn.retA X4 hx hlk hret rfl rfl rfl (hb hby d_prog_29_method_3_33) ⟨rfl, N4, _, _, _, _, _, _, _, _, _, _, _, _, _, I4, own_add_same eq1 hc2 eq4⟩ (by decide) (by decide)
theorem ef_ini3 (m : MethodId) (x0 : Addr) (x1 : Int64) (x2 : Int64) (x3 : Int64) : entryFrame m #[(.ref x0), (.long x1), (.long x2), (.long x3)] 9 = mkF m 0 #[.val (.ref x0), .val (.long x1), .second, .val (.long x2), .second, .val (.long x3), .second, .unset, .unset] [] := by first | (simp [entryFrame, mkF, argsToLocals, Value.category]; done) | rfl
theorem d_prog_29_method_2_0 : decode prog_29_method_2_code 0 = .ok (.aload_n 0, 1) := by decide +kernel
theorem d_prog_29_method_2_1 : decode prog_29_method_2_code 1 = .ok (.invokespecial 1, 3) := by decide +kernel
theorem d_prog_29_method_2_4 : decode prog_29_method_2_code 4 = .ok (.lload_n 1, 1) := by decide +kernel
theorem d_prog_29_method_2_5 : decode prog_29_method_2_code 5 = .ok (.bipush 63, 2) := by decide +kernel
theorem d_prog_29_method_2_7 : decode prog_29_method_2_code 7 = .ok (.lshr, 1) := by decide +kernel
theorem d_prog_29_method_2_8 : decode prog_29_method_2_code 8 = .ok (.lstore 7, 2) := by decide +kernel
theorem d_prog_29_method_2_10 : decode prog_29_method_2_code 10 = .ok (.aload_n 0, 1) := by decide +kernel
theorem d_prog_29_method_2_11 : decode prog_29_method_2_code 11 = .ok (.lload 5, 2) := by decide +kernel
theorem d_prog_29_method_2_13 : decode prog_29_method_2_code 13 = .ok (.putfield 7, 3) := by decide +kernel
theorem d_prog_29_method_2_16 : decode prog_29_method_2_code 16 = .ok (.aload_n 0, 1) := by decide +kernel
theorem d_prog_29_method_2_17 : decode prog_29_method_2_code 17 = .ok (.lload_n 3, 1) := by decide +kernel
theorem d_prog_29_method_2_18 : decode prog_29_method_2_code 18 = .ok (.putfield 13, 3) := by decide +kernel
theorem d_prog_29_method_2_21 : decode prog_29_method_2_code 21 = .ok (.aload_n 0, 1) := by decide +kernel
theorem d_prog_29_method_2_22 : decode prog_29_method_2_code 22 = .ok (.lload_n 1, 1) := by decide +kernel
theorem d_prog_29_method_2_23 : decode prog_29_method_2_code 23 = .ok (.putfield 16, 3) := by decide +kernel
theorem d_prog_29_method_2_26 : decode prog_29_method_2_code 26 = .ok (.aload_n 0, 1) := by decide +kernel
theorem d_prog_29_method_2_27 : decode prog_29_method_2_code 27 = .ok (.lload 7, 2) := by decide +kernel
theorem d_prog_29_method_2_29 : decode prog_29_method_2_code 29 = .ok (.putfield 19, 3) := by decide +kernel
theorem d_prog_29_method_2_32 : decode prog_29_method_2_code 32 = .ok (.aload_n 0, 1) := by decide +kernel
theorem d_prog_29_method_2_33 : decode prog_29_method_2_code 33 = .ok (.lload 7, 2) := by decide +kernel
theorem d_prog_29_method_2_35 : decode prog_29_method_2_code 35 = .ok (.putfield 22, 3) := by decide +kernel
theorem d_prog_29_method_2_38 : decode prog_29_method_2_code 38 = .ok (.aload_n 0, 1) := by decide +kernel
theorem d_prog_29_method_2_39 : decode prog_29_method_2_code 39 = .ok (.lload 7, 2) := by decide +kernel
theorem d_prog_29_method_2_41 : decode prog_29_method_2_code 41 = .ok (.putfield 25, 3) := by decide +kernel
theorem d_prog_29_method_2_44 : decode prog_29_method_2_code 44 = .ok (.return_, 1) := by decide +kernel
set_option maxRecDepth 65536 in
set_option maxHeartbeats 40000000 in
theorem rm_ini3 (l : Launch) (Z : State) (a0 : Array Value) (hw : ∀ d ∈ tables_1, d.before a0 Z = true) (o1 : Addr) (l0 l1 l2 l3 l4 l5 p0 p1 p2 p3 p4 p5 c k q1 q2 q3 : Int64) (h0 : Heap) (n0 : Nat) (g_o1 : n0 ≤ o1) (I0 : own_I Z h0 o1 l0 l1 l2 l3 l4 l5 p0 p1 p2 p3 p4 p5 c k) :
    OwCon l Z (⟨"com/example/nano_embed/nanoembed/geometry/Int384", "<init>", "(JJJ)V"⟩ : MethodName) prog_29_method_2_code 9 none [] ({ frames := 1, cells := 0, slots := 0, locals := 12 } : Room) #[(.ref o1), (.long q1), (.long q2), (.long q3)] h0 (fun v h L => v = none ∧ Fr n0 L ∧ own_I Z h o1 q3 q2 q1 (own_sg q1) (own_sg q1) (own_sg q1) p0 p1 p2 p3 p4 p5 c k) := by
  refine OwCon.of (plainFor_of_name pn_com_example_nano_embed_nanoembed_geometry_Int384) ?_
  intro p e s m below meth cd_ s₁ X0 hx hby hml hret hlk hown hnm hZ e0
  have N0 := Fr.nil n0
  refine GoOn.st (fun t_ k_ => castTop (ef_ini3 m o1 q1 q2 q3) k_) ?_
  show GoOn _ _ _ _ (s₁.setTop (mkF m 0 #[.val (.ref o1), .val (.long q1), .second, .val (.long q2), .second, .val (.long q3), .second, .unset, .unset] []))
  refine GoOn.st (fun t_ k_ => XS.aloadN X0.here hx rfl (hb hby d_prog_29_method_2_0) rfl rfl k_) ?_
  show GoOn _ _ _ _ (s₁.setTop (mkF m 1 #[.val (.ref o1), .val (.long q1), .second, .val (.long q2), .second, .val (.long q3), .second, .unset, .unset] [(.ref o1)]))
  obtain ⟨T1, X1, e1, st1⟩ := initO X0 hx hZ hown (hw _ (List.mem_of_getElem? (i := 6) rfl)) (hw _ (List.mem_of_getElem? (i := 7) rfl)) (hw _ (List.mem_of_getElem? (i := 8) rfl)) e0 (g := (mkF m 1 #[.val (.ref o1), .val (.long q1), .second, .val (.long q2), .second, .val (.long q3), .second, .unset, .unset] [(.ref o1)])) rfl (by rw [hml]; rfl) rfl (hb hby d_prog_29_method_2_1) (by decide) (W := 0) (by show 2 * 0 + _ ≤ _; exact Nat.le_of_eq rfl) (by decide)
  refine GoOn.st st1 ?_
  refine GoOn.st (fun t_ k_ => XS.lloadN X1.here hx rfl (hb hby d_prog_29_method_2_4) rfl k_) ?_
  refine GoOn.st (fun t_ k_ => XS.bipush X1.here hx rfl (hb hby d_prog_29_method_2_5)  k_) ?_
  refine GoOn.st (fun t_ k_ => XS.lshr X1.here hx rfl (hb hby d_prog_29_method_2_7) rfl k_) ?_
  show GoOn _ _ _ _ (T1.setTop (mkF m 8 #[.val (.ref o1), .val (.long q1), .second, .val (.long q2), .second, .val (.long q3), .second, .unset, .unset] [(.long (q1 >>> ((63 : Int32) &&& 0x3f).toInt64))]))
  refine GoOn.st (fun t_ k_ => XS.lstore X1.here hx rfl (hb hby d_prog_29_method_2_8) rfl (l' := #[.val (.ref o1), .val (.long q1), .second, .val (.long q2), .second, .val (.long q3), .second, .val (.long (q1 >>> ((63 : Int32) &&& 0x3f).toInt64)), .second]) rfl k_) ?_
  refine GoOn.st (fun t_ k_ => XS.aloadN X1.here hx rfl (hb hby d_prog_29_method_2_10) rfl rfl k_) ?_
  refine GoOn.st (fun t_ k_ => XS.lload X1.here hx rfl (hb hby d_prog_29_method_2_11) rfl k_) ?_
  obtain ⟨T2, h2, X2, e2, W2, st2⟩ := putF X1 hx hZ hown (host := "") (Or.inl (hw _ (List.mem_of_getElem? (i := 9) rfl))) Via.refl e1 (own_I_get_limb0 I0) (own_I_exa I0) (Or.inl (hw _ (List.mem_of_getElem? (i := 10) rfl))) (hw _ (List.mem_of_getElem? (i := 1) rfl)) (ty := .long) (by decide) rfl rfl (g := (mkF m 13 #[.val (.ref o1), .val (.long q1), .second, .val (.long q2), .second, .val (.long q3), .second, .val (.long (q1 >>> ((63 : Int32) &&& 0x3f).toInt64)), .second] [(.long q3), (.ref o1)])) rfl rfl (hb hby d_prog_29_method_2_13)
  have I2 := own_I_put_limb0 hw W2 I0
  have N3 := Fr.snoc X2 N0 g_o1
  refine GoOn.st st2 ?_
  show GoOn _ _ _ _ (T2.setTop (mkF m 16 #[.val (.ref o1), .val (.long q1), .second, .val (.long q2), .second, .val (.long q3), .second, .val (.long (q1 >>> ((63 : Int32) &&& 0x3f).toInt64)), .second] []))
  refine GoOn.st (fun t_ k_ => XS.aloadN X2.here hx rfl (hb hby d_prog_29_method_2_16) rfl rfl k_) ?_
  refine GoOn.st (fun t_ k_ => XS.lloadN X2.here hx rfl (hb hby d_prog_29_method_2_17) rfl k_) ?_
  obtain ⟨T4, h4, X4, e4, W4, st4⟩ := putF X2 hx hZ hown (host := "") (Or.inl (hw _ (List.mem_of_getElem? (i := 11) rfl))) Via.refl e2 (own_I_get_limb1 I2) (own_I_exa I2) (Or.inl (hw _ (List.mem_of_getElem? (i := 12) rfl))) (hw _ (List.mem_of_getElem? (i := 1) rfl)) (ty := .long) (by decide) rfl rfl (g := (mkF m 18 #[.val (.ref o1), .val (.long q1), .second, .val (.long q2), .second, .val (.long q3), .second, .val (.long (q1 >>> ((63 : Int32) &&& 0x3f).toInt64)), .second] [(.long q2), (.ref o1)])) rfl rfl (hb hby d_prog_29_method_2_18)
  have I4 := own_I_put_limb1 hw W4 I2
  have N5 := Fr.snoc X4 N3 g_o1
  refine GoOn.st st4 ?_
  refine GoOn.st (fun t_ k_ => XS.aloadN X4.here hx rfl (hb hby d_prog_29_method_2_21) rfl rfl k_) ?_
  show GoOn _ _ _ _ (T4.setTop (mkF m 22 #[.val (.ref o1), .val (.long q1), .second, .val (.long q2), .second, .val (.long q3), .second, .val (.long (q1 >>> ((63 : Int32) &&& 0x3f).toInt64)), .second] [(.ref o1)]))
  refine GoOn.st (fun t_ k_ => XS.lloadN X4.here hx rfl (hb hby d_prog_29_method_2_22) rfl k_) ?_
  obtain ⟨T6, h6, X6, e6, W6, st6⟩ := putF X4 hx hZ hown (host := "") (Or.inl (hw _ (List.mem_of_getElem? (i := 13) rfl))) Via.refl e4 (own_I_get_limb2 I4) (own_I_exa I4) (Or.inl (hw _ (List.mem_of_getElem? (i := 14) rfl))) (hw _ (List.mem_of_getElem? (i := 1) rfl)) (ty := .long) (by decide) rfl rfl (g := (mkF m 23 #[.val (.ref o1), .val (.long q1), .second, .val (.long q2), .second, .val (.long q3), .second, .val (.long (q1 >>> ((63 : Int32) &&& 0x3f).toInt64)), .second] [(.long q1), (.ref o1)])) rfl rfl (hb hby d_prog_29_method_2_23)
  have I6 := own_I_put_limb2 hw W6 I4
  have N7 := Fr.snoc X6 N5 g_o1
  refine GoOn.st st6 ?_
  refine GoOn.st (fun t_ k_ => XS.aloadN X6.here hx rfl (hb hby d_prog_29_method_2_26) rfl rfl k_) ?_
  refine GoOn.st (fun t_ k_ => XS.lload X6.here hx rfl (hb hby d_prog_29_method_2_27) rfl k_) ?_
  show GoOn _ _ _ _ (T6.setTop (mkF m 29 #[.val (.ref o1), .val (.long q1), .second, .val (.long q2), .second, .val (.long q3), .second, .val (.long (q1 >>> ((63 : Int32) &&& 0x3f).toInt64)), .second] [(.long (q1 >>> ((63 : Int32) &&& 0x3f).toInt64)), (.ref o1)]))
  obtain ⟨T8, h8, X8, e8, W8, st8⟩ := putF X6 hx hZ hown (host := "") (Or.inl (hw _ (List.mem_of_getElem? (i := 15) rfl))) Via.refl e6 (own_I_get_limb3 I6) (own_I_exa I6) (Or.inl (hw _ (List.mem_of_getElem? (i := 16) rfl))) (hw _ (List.mem_of_getElem? (i := 1) rfl)) (ty := .long) (by decide) rfl rfl (g := (mkF m 29 #[.val (.ref o1), .val (.long q1), .second, .val (.long q2), .second, .val (.long q3), .second, .val (.long (q1 >>> ((63 : Int32) &&& 0x3f).toInt64)), .second] [(.long (q1 >>> ((63 : Int32) &&& 0x3f).toInt64)), (.ref o1)])) rfl rfl (hb hby d_prog_29_method_2_29)
  have I8 := own_I_put_limb3 hw W8 I6
  have N9 := Fr.snoc X8 N7 g_o1
  refine GoOn.st st8 ?_
  refine GoOn.st (fun t_ k_ => XS.aloadN X8.here hx rfl (hb hby d_prog_29_method_2_32) rfl rfl k_) ?_
  refine GoOn.st (fun t_ k_ => XS.lload X8.here hx rfl (hb hby d_prog_29_method_2_33) rfl k_) ?_
  obtain ⟨T10, h10, X10, e10, W10, st10⟩ := putF X8 hx hZ hown (host := "") (Or.inl (hw _ (List.mem_of_getElem? (i := 17) rfl))) Via.refl e8 (own_I_get_limb4 I8) (own_I_exa I8) (Or.inl (hw _ (List.mem_of_getElem? (i := 18) rfl))) (hw _ (List.mem_of_getElem? (i := 1) rfl)) (ty := .long) (by decide) rfl rfl (g := (mkF m 35 #[.val (.ref o1), .val (.long q1), .second, .val (.long q2), .second, .val (.long q3), .second, .val (.long (q1 >>> ((63 : Int32) &&& 0x3f).toInt64)), .second] [(.long (q1 >>> ((63 : Int32) &&& 0x3f).toInt64)), (.ref o1)])) rfl rfl (hb hby d_prog_29_method_2_35)
  have I10 := own_I_put_limb4 hw W10 I8
  have N11 := Fr.snoc X10 N9 g_o1
  refine GoOn.st st10 ?_
  show GoOn _ _ _ _ (T10.setTop (mkF m 38 #[.val (.ref o1), .val (.long q1), .second, .val (.long q2), .second, .val (.long q3), .second, .val (.long (q1 >>> ((63 : Int32) &&& 0x3f).toInt64)), .second] []))
  refine GoOn.st (fun t_ k_ => XS.aloadN X10.here hx rfl (hb hby d_prog_29_method_2_38) rfl rfl k_) ?_
  refine GoOn.st (fun t_ k_ => XS.lload X10.here hx rfl (hb hby d_prog_29_method_2_39) rfl k_) ?_
  obtain ⟨T12, h12, X12, e12, W12, st12⟩ := putF X10 hx hZ hown (host := "") (Or.inl (hw _ (List.mem_of_getElem? (i := 19) rfl))) Via.refl e10 (own_I_get_limb5 I10) (own_I_exa I10) (Or.inl (hw _ (List.mem_of_getElem? (i := 20) rfl))) (hw _ (List.mem_of_getElem? (i := 1) rfl)) (ty := .long) (by decide) rfl rfl (g := (mkF m 41 #[.val (.ref o1), .val (.long q1), .second, .val (.long q2), .second, .val (.long q3), .second, .val (.long (q1 >>> ((63 : Int32) &&& 0x3f).toInt64)), .second] [(.long (q1 >>> ((63 : Int32) &&& 0x3f).toInt64)), (.ref o1)])) rfl rfl (hb hby d_prog_29_method_2_41)
  have I12 := own_I_put_limb5 hw W12 I10
  have N13 := Fr.snoc X12 N11 g_o1
  refine GoOn.st st12 ?_
  show GoOn _ _ _ _ (T12.setTop (mkF m 44 #[.val (.ref o1), .val (.long q1), .second, .val (.long q2), .second, .val (.long q3), .second, .val (.long (q1 >>> ((63 : Int32) &&& 0x3f).toInt64)), .second] []))
  exact GoOn.retV X12 hx hlk hret (hb hby d_prog_29_method_2_44) (by rw [e12]; exact ⟨rfl, N13, I12⟩) (by decide) (by decide)
theorem ef_fits (m : MethodId) (x0 : Addr) (x1 : Int32) : entryFrame m #[(.ref x0), (.int x1)] 5 = mkF m 0 #[.val (.ref x0), .val (.int x1), .unset, .unset, .unset] [] := by first | (simp [entryFrame, mkF, argsToLocals, Value.category]; done) | rfl
theorem d_prog_29_method_15_0 : decode prog_29_method_15_code 0 = .ok (.aload_n 0, 1) := by decide +kernel
theorem d_prog_29_method_15_1 : decode prog_29_method_15_code 1 = .ok (.getfield 25, 3) := by decide +kernel
theorem d_prog_29_method_15_4 : decode prog_29_method_15_code 4 = .ok (.bipush 63, 2) := by decide +kernel
theorem d_prog_29_method_15_6 : decode prog_29_method_15_code 6 = .ok (.lshr, 1) := by decide +kernel
theorem d_prog_29_method_15_7 : decode prog_29_method_15_code 7 = .ok (.lstore_n 2, 1) := by decide +kernel
theorem d_prog_29_method_15_8 : decode prog_29_method_15_code 8 = .ok (.aload_n 0, 1) := by decide +kernel
theorem d_prog_29_method_15_9 : decode prog_29_method_15_code 9 = .ok (.getfield 25, 3) := by decide +kernel
theorem d_prog_29_method_15_12 : decode prog_29_method_15_code 12 = .ok (.lload_n 2, 1) := by decide +kernel
theorem d_prog_29_method_15_13 : decode prog_29_method_15_code 13 = .ok (.lcmp, 1) := by decide +kernel
theorem d_prog_29_method_15_14 : decode prog_29_method_15_code 14 = .ok (.ifCond .ne 25, 3) := by decide +kernel
theorem d_prog_29_method_15_17 : decode prog_29_method_15_code 17 = .ok (.aload_n 0, 1) := by decide +kernel
theorem d_prog_29_method_15_18 : decode prog_29_method_15_code 18 = .ok (.getfield 22, 3) := by decide +kernel
theorem d_prog_29_method_15_21 : decode prog_29_method_15_code 21 = .ok (.lload_n 2, 1) := by decide +kernel
theorem d_prog_29_method_15_22 : decode prog_29_method_15_code 22 = .ok (.lcmp, 1) := by decide +kernel
theorem d_prog_29_method_15_23 : decode prog_29_method_15_code 23 = .ok (.ifCond .ne 16, 3) := by decide +kernel
theorem d_prog_29_method_15_26 : decode prog_29_method_15_code 26 = .ok (.aload_n 0, 1) := by decide +kernel
theorem d_prog_29_method_15_27 : decode prog_29_method_15_code 27 = .ok (.getfield 19, 3) := by decide +kernel
theorem d_prog_29_method_15_30 : decode prog_29_method_15_code 30 = .ok (.lload_n 2, 1) := by decide +kernel
theorem d_prog_29_method_15_31 : decode prog_29_method_15_code 31 = .ok (.lcmp, 1) := by decide +kernel
theorem d_prog_29_method_15_32 : decode prog_29_method_15_code 32 = .ok (.ifCond .ne 7, 3) := by decide +kernel
theorem d_prog_29_method_15_35 : decode prog_29_method_15_code 35 = .ok (.iconst 1, 1) := by decide +kernel
theorem d_prog_29_method_15_36 : decode prog_29_method_15_code 36 = .ok (.goto 4, 3) := by decide +kernel
theorem d_prog_29_method_15_40 : decode prog_29_method_15_code 40 = .ok (.istore 4, 2) := by decide +kernel
theorem d_prog_29_method_15_42 : decode prog_29_method_15_code 42 = .ok (.iload_n 1, 1) := by decide +kernel
theorem d_prog_29_method_15_43 : decode prog_29_method_15_code 43 = .ok (.sipush 128, 3) := by decide +kernel
theorem d_prog_29_method_15_46 : decode prog_29_method_15_code 46 = .ok (.if_icmp .ge 41, 3) := by decide +kernel
theorem d_prog_29_method_15_49 : decode prog_29_method_15_code 49 = .ok (.iload 4, 2) := by decide +kernel
theorem d_prog_29_method_15_51 : decode prog_29_method_15_code 51 = .ok (.ifCond .eq 30, 3) := by decide +kernel
theorem d_prog_29_method_15_54 : decode prog_29_method_15_code 54 = .ok (.aload_n 0, 1) := by decide +kernel
theorem d_prog_29_method_15_55 : decode prog_29_method_15_code 55 = .ok (.getfield 16, 3) := by decide +kernel
theorem d_prog_29_method_15_58 : decode prog_29_method_15_code 58 = .ok (.lload_n 2, 1) := by decide +kernel
theorem d_prog_29_method_15_59 : decode prog_29_method_15_code 59 = .ok (.lcmp, 1) := by decide +kernel
theorem d_prog_29_method_15_60 : decode prog_29_method_15_code 60 = .ok (.ifCond .ne 21, 3) := by decide +kernel
theorem d_prog_29_method_15_63 : decode prog_29_method_15_code 63 = .ok (.aload_n 0, 1) := by decide +kernel
theorem d_prog_29_method_15_64 : decode prog_29_method_15_code 64 = .ok (.getfield 13, 3) := by decide +kernel
theorem d_prog_29_method_15_67 : decode prog_29_method_15_code 67 = .ok (.iload_n 1, 1) := by decide +kernel
theorem d_prog_29_method_15_68 : decode prog_29_method_15_code 68 = .ok (.bipush 64, 2) := by decide +kernel
theorem d_prog_29_method_15_70 : decode prog_29_method_15_code 70 = .ok (.isub, 1) := by decide +kernel
theorem d_prog_29_method_15_71 : decode prog_29_method_15_code 71 = .ok (.lshr, 1) := by decide +kernel
theorem d_prog_29_method_15_72 : decode prog_29_method_15_code 72 = .ok (.lload_n 2, 1) := by decide +kernel
theorem d_prog_29_method_15_73 : decode prog_29_method_15_code 73 = .ok (.lcmp, 1) := by decide +kernel
theorem d_prog_29_method_15_74 : decode prog_29_method_15_code 74 = .ok (.ifCond .ne 7, 3) := by decide +kernel
theorem d_prog_29_method_15_77 : decode prog_29_method_15_code 77 = .ok (.iconst 1, 1) := by decide +kernel
theorem d_prog_29_method_15_78 : decode prog_29_method_15_code 78 = .ok (.goto 4, 3) := by decide +kernel
theorem d_prog_29_method_15_82 : decode prog_29_method_15_code 82 = .ok (.istore 4, 2) := by decide +kernel
theorem d_prog_29_method_15_84 : decode prog_29_method_15_code 84 = .ok (.goto 30, 3) := by decide +kernel
theorem d_prog_29_method_15_114 : decode prog_29_method_15_code 114 = .ok (.iload 4, 2) := by decide +kernel
theorem d_prog_29_method_15_116 : decode prog_29_method_15_code 116 = .ok (.ireturn, 1) := by decide +kernel
theorem d_prog_29_method_15_81 : decode prog_29_method_15_code 81 = .ok (.iconst 0, 1) := by decide +kernel
theorem d_prog_29_method_15_87 : decode prog_29_method_15_code 87 = .ok (.iload 4, 2) := by decide +kernel
theorem d_prog_29_method_15_89 : decode prog_29_method_15_code 89 = .ok (.ifCond .eq 22, 3) := by decide +kernel
theorem d_prog_29_method_15_92 : decode prog_29_method_15_code 92 = .ok (.aload_n 0, 1) := by decide +kernel
theorem d_prog_29_method_15_93 : decode prog_29_method_15_code 93 = .ok (.getfield 16, 3) := by decide +kernel
theorem d_prog_29_method_15_96 : decode prog_29_method_15_code 96 = .ok (.iload_n 1, 1) := by decide +kernel
theorem d_prog_29_method_15_97 : decode prog_29_method_15_code 97 = .ok (.sipush 128, 3) := by decide +kernel
theorem d_prog_29_method_15_100 : decode prog_29_method_15_code 100 = .ok (.isub, 1) := by decide +kernel
theorem d_prog_29_method_15_101 : decode prog_29_method_15_code 101 = .ok (.lshr, 1) := by decide +kernel
theorem d_prog_29_method_15_102 : decode prog_29_method_15_code 102 = .ok (.lload_n 2, 1) := by decide +kernel
theorem d_prog_29_method_15_103 : decode prog_29_method_15_code 103 = .ok (.lcmp, 1) := by decide +kernel
theorem d_prog_29_method_15_104 : decode prog_29_method_15_code 104 = .ok (.ifCond .ne 7, 3) := by decide +kernel
theorem d_prog_29_method_15_107 : decode prog_29_method_15_code 107 = .ok (.iconst 1, 1) := by decide +kernel
theorem d_prog_29_method_15_108 : decode prog_29_method_15_code 108 = .ok (.goto 4, 3) := by decide +kernel
theorem d_prog_29_method_15_112 : decode prog_29_method_15_code 112 = .ok (.istore 4, 2) := by decide +kernel
theorem d_prog_29_method_15_111 : decode prog_29_method_15_code 111 = .ok (.iconst 0, 1) := by decide +kernel
theorem d_prog_29_method_15_39 : decode prog_29_method_15_code 39 = .ok (.iconst 0, 1) := by decide +kernel
set_option maxRecDepth 65536 in
set_option maxHeartbeats 40000000 in
theorem rm_fits (l : Launch) (Z : State) (a0 : Array Value) (hw : ∀ d ∈ tables_1, d.before a0 Z = true) (o1 : Addr) (l0 l1 l2 l3 l4 l5 p0 p1 p2 p3 p4 p5 c k : Int64) (b : Int32) (h0 : Heap) (I0 : own_I Z h0 o1 l0 l1 l2 l3 l4 l5 p0 p1 p2 p3 p4 p5 c k) :
    OwCon l Z (⟨"com/example/nano_embed/nanoembed/geometry/Int384", "fits", "(I)Z"⟩ : MethodName) prog_29_method_15_code 5 (some .boolean) [] ({ frames := 0, cells := 0, slots := 0, locals := 0 } : Room) #[(.ref o1), (.int b)] h0 (OwRet (some (.int (own_fits l1 l2 l3 l4 l5 b))) h0) := by
  refine OwCon.of (plainFor_of_name pn_com_example_nano_embed_nanoembed_geometry_Int384) ?_
  intro p e s m below meth cd_ s₁ X0 hx hby hml hret hlk hown hnm hZ e0
  refine GoOn.st (fun t_ k_ => castTop (ef_fits m o1 b) k_) ?_
  show GoOn _ _ _ _ (s₁.setTop (mkF m 0 #[.val (.ref o1), .val (.int b), .unset, .unset, .unset] []))
  refine GoOn.st (fun t_ k_ => XS.aloadN X0.here hx rfl (hb hby d_prog_29_method_15_0) rfl rfl k_) ?_
  obtain ⟨T1, X1, e1, st1⟩ := getF X0 hx hZ hown (host := "") (Or.inl (hw _ (List.mem_of_getElem? (i := 19) rfl))) Via.refl e0 (own_I_get_limb5 I0) (g := (mkF m 1 #[.val (.ref o1), .val (.int b), .unset, .unset, .unset] [(.ref o1)])) rfl rfl (hb hby d_prog_29_method_15_1)
  refine GoOn.st st1 ?_
  refine GoOn.st (fun t_ k_ => XS.bipush X1.here hx rfl (hb hby d_prog_29_method_15_4)  k_) ?_
  refine GoOn.st (fun t_ k_ => XS.lshr X1.here hx rfl (hb hby d_prog_29_method_15_6) rfl k_) ?_
  show GoOn _ _ _ _ (T1.setTop (mkF m 7 #[.val (.ref o1), .val (.int b), .unset, .unset, .unset] [(.long (l5 >>> ((63 : Int32) &&& 0x3f).toInt64))]))
  refine GoOn.st (fun t_ k_ => XS.lstoreN X1.here hx rfl (hb hby d_prog_29_method_15_7) rfl (l' := #[.val (.ref o1), .val (.int b), .val (.long (l5 >>> ((63 : Int32) &&& 0x3f).toInt64)), .second, .unset]) rfl k_) ?_
  show GoOn _ _ _ _ (T1.setTop (mkF m 8 #[.val (.ref o1), .val (.int b), .val (.long (l5 >>> ((63 : Int32) &&& 0x3f).toInt64)), .second, .unset] []))
  obtain ⟨sg, e_sg⟩ : ∃ z : Int64, z = (l5 >>> ((63 : Int32) &&& 0x3f).toInt64) := ⟨_, rfl⟩
  rw [← e_sg]
  refine GoOn.st (fun t_ k_ => XS.aloadN X1.here hx rfl (hb hby d_prog_29_method_15_8) rfl rfl k_) ?_
  obtain ⟨T2, X2, e2, st2⟩ := getF X1 hx hZ hown (host := "") (Or.inl (hw _ (List.mem_of_getElem? (i := 19) rfl))) Via.refl e1 (own_I_get_limb5 I0) (g := (mkF m 9 #[.val (.ref o1), .val (.int b), .val (.long sg), .second, .unset] [(.ref o1)])) rfl rfl (hb hby d_prog_29_method_15_9)
  refine GoOn.st st2 ?_
  refine GoOn.st (fun t_ k_ => XS.lloadN X2.here hx rfl (hb hby d_prog_29_method_15_12) rfl k_) ?_
  show GoOn _ _ _ _ (T2.setTop (mkF m 13 #[.val (.ref o1), .val (.int b), .val (.long sg), .second, .unset] [(.long sg), (.long l5)]))
  refine GoOn.st (fun t_ k_ => XS.lcmp X2.here hx rfl (hb hby d_prog_29_method_15_13) rfl k_) ?_
  by_cases hc3 : l5 = sg
  · skip
    refine GoOn.st (fun t_ k_ => XS.ifNo X2.here hx rfl (hb hby d_prog_29_method_15_14) rfl ((if0 _ _).trans (teq ((lw_eq l5 sg).mpr hc3)).2) k_) ?_
    refine GoOn.st (fun t_ k_ => XS.aloadN X2.here hx rfl (hb hby d_prog_29_method_15_17) rfl rfl k_) ?_
    obtain ⟨T4, X4, e4, st4⟩ := getF X2 hx hZ hown (host := "") (Or.inl (hw _ (List.mem_of_getElem? (i := 17) rfl))) Via.refl e2 (own_I_get_limb4 I0) (g := (mkF m 18 #[.val (.ref o1), .val (.int b), .val (.long sg), .second, .unset] [(.ref o1)])) rfl rfl (hb hby d_prog_29_method_15_18)
    refine GoOn.st st4 ?_
    show GoOn _ _ _ _ (T4.setTop (mkF m 21 #[.val (.ref o1), .val (.int b), .val (.long sg), .second, .unset] [(.long l4)]))
    refine GoOn.st (fun t_ k_ => XS.lloadN X4.here hx rfl (hb hby d_prog_29_method_15_21) rfl k_) ?_
    refine GoOn.st (fun t_ k_ => XS.lcmp X4.here hx rfl (hb hby d_prog_29_method_15_22) rfl k_) ?_
    by_cases hc5 : l4 = sg
    · skip
      refine GoOn.st (fun t_ k_ => XS.ifNo X4.here hx rfl (hb hby d_prog_29_method_15_23) rfl ((if0 _ _).trans (teq ((lw_eq l4 sg).mpr hc5)).2) k_) ?_
      refine GoOn.st (fun t_ k_ => XS.aloadN X4.here hx rfl (hb hby d_prog_29_method_15_26) rfl rfl k_) ?_
      show GoOn _ _ _ _ (T4.setTop (mkF m 27 #[.val (.ref o1), .val (.int b), .val (.long sg), .second, .unset] [(.ref o1)]))
      obtain ⟨T6, X6, e6, st6⟩ := getF X4 hx hZ hown (host := "") (Or.inl (hw _ (List.mem_of_getElem? (i := 15) rfl))) Via.refl e4 (own_I_get_limb3 I0) (g := (mkF m 27 #[.val (.ref o1), .val (.int b), .val (.long sg), .second, .unset] [(.ref o1)])) rfl rfl (hb hby d_prog_29_method_15_27)
      refine GoOn.st st6 ?_
      refine GoOn.st (fun t_ k_ => XS.lloadN X6.here hx rfl (hb hby d_prog_29_method_15_30) rfl k_) ?_
      refine GoOn.st (fun t_ k_ => XS.lcmp X6.here hx rfl (hb hby d_prog_29_method_15_31) rfl k_) ?_
      by_cases hc7 : l3 = sg
      · skip
        refine GoOn.st (fun t_ k_ => XS.ifNo X6.here hx rfl (hb hby d_prog_29_method_15_32) rfl ((if0 _ _).trans (teq ((lw_eq l3 sg).mpr hc7)).2) k_) ?_
        show GoOn _ _ _ _ (T6.setTop (mkF m 35 #[.val (.ref o1), .val (.int b), .val (.long sg), .second, .unset] []))
        refine GoOn.st (fun t_ k_ => XS.iconst X6.here hx rfl (hb hby d_prog_29_method_15_35)  k_) ?_
        refine GoOn.st (fun t_ k_ => XS.goto X6.here hx rfl (pc0 := 36) (pc' := 40) rfl (hb hby d_prog_29_method_15_36) (by decide) (by decide) k_) ?_
        refine GoOn.st (fun t_ k_ => XS.istore X6.here hx rfl (hb hby d_prog_29_method_15_40) rfl (l' := #[.val (.ref o1), .val (.int b), .val (.long sg), .second, .val (.int (1 : Int32))]) rfl k_) ?_
        refine GoOn.st (fun t_ k_ => XS.iloadN X6.here hx rfl (hb hby d_prog_29_method_15_42) rfl k_) ?_
        show GoOn _ _ _ _ (T6.setTop (mkF m 43 #[.val (.ref o1), .val (.int b), .val (.long sg), .second, .val (.int (1 : Int32))] [(.int b)]))
        refine GoOn.st (fun t_ k_ => XS.sipush X6.here hx rfl (hb hby d_prog_29_method_15_43)  k_) ?_
        by_cases hc8 : b < (128 : Int32)
        · skip
          refine GoOn.st (fun t_ k_ => XS.icmpNo X6.here hx rfl (hb hby d_prog_29_method_15_46) rfl (tlt hc8).2.1 k_) ?_
          refine GoOn.st (fun t_ k_ => XS.iload X6.here hx rfl (hb hby d_prog_29_method_15_49) rfl k_) ?_
          refine GoOn.st (fun t_ k_ => XS.ifNo X6.here hx rfl (hb hby d_prog_29_method_15_51) rfl ((if0 _ _).trans (feq (by decide : ¬ ((1 : Int32) = (0 : Int32)))).1) k_) ?_
          show GoOn _ _ _ _ (T6.setTop (mkF m 54 #[.val (.ref o1), .val (.int b), .val (.long sg), .second, .val (.int (1 : Int32))] []))
          refine GoOn.st (fun t_ k_ => XS.aloadN X6.here hx rfl (hb hby d_prog_29_method_15_54) rfl rfl k_) ?_
          obtain ⟨T9, X9, e9, st9⟩ := getF X6 hx hZ hown (host := "") (Or.inl (hw _ (List.mem_of_getElem? (i := 13) rfl))) Via.refl e6 (own_I_get_limb2 I0) (g := (mkF m 55 #[.val (.ref o1), .val (.int b), .val (.long sg), .second, .val (.int (1 : Int32))] [(.ref o1)])) rfl rfl (hb hby d_prog_29_method_15_55)
          refine GoOn.st st9 ?_
          refine GoOn.st (fun t_ k_ => XS.lloadN X9.here hx rfl (hb hby d_prog_29_method_15_58) rfl k_) ?_
          refine GoOn.st (fun t_ k_ => XS.lcmp X9.here hx rfl (hb hby d_prog_29_method_15_59) rfl k_) ?_
          show GoOn _ _ _ _ (T9.setTop (mkF m 60 #[.val (.ref o1), .val (.int b), .val (.long sg), .second, .val (.int (1 : Int32))] [(.int (lcmpW l2 sg))]))
          by_cases hc10 : l2 = sg
          · skip
            refine GoOn.st (fun t_ k_ => XS.ifNo X9.here hx rfl (hb hby d_prog_29_method_15_60) rfl ((if0 _ _).trans (teq ((lw_eq l2 sg).mpr hc10)).2) k_) ?_
            refine GoOn.st (fun t_ k_ => XS.aloadN X9.here hx rfl (hb hby d_prog_29_method_15_63) rfl rfl k_) ?_
            obtain ⟨T11, X11, e11, st11⟩ := getF X9 hx hZ hown (host := "") (Or.inl (hw _ (List.mem_of_getElem? (i := 11) rfl))) Via.refl e9 (own_I_get_limb1 I0) (g := (mkF m 64 #[.val (.ref o1), .val (.int b), .val (.long sg), .second, .val (.int (1 : Int32))] [(.ref o1)])) rfl rfl (hb hby d_prog_29_method_15_64)
            refine GoOn.st st11 ?_
            refine GoOn.st (fun t_ k_ => XS.iloadN X11.here hx rfl (hb hby d_prog_29_method_15_67) rfl k_) ?_
            show GoOn _ _ _ _ (T11.setTop (mkF m 68 #[.val (.ref o1), .val (.int b), .val (.long sg), .second, .val (.int (1 : Int32))] [(.int b), (.long l1)]))
            refine GoOn.st (fun t_ k_ => XS.bipush X11.here hx rfl (hb hby d_prog_29_method_15_68)  k_) ?_
            refine GoOn.st (fun t_ k_ => XS.isub X11.here hx rfl (hb hby d_prog_29_method_15_70) rfl k_) ?_
            refine GoOn.st (fun t_ k_ => XS.lshr X11.here hx rfl (hb hby d_prog_29_method_15_71) rfl k_) ?_
            refine GoOn.st (fun t_ k_ => XS.lloadN X11.here hx rfl (hb hby d_prog_29_method_15_72) rfl k_) ?_
            show GoOn _ _ _ _ (T11.setTop (mkF m 73 #[.val (.ref o1), .val (.int b), .val (.long sg), .second, .val (.int (1 : Int32))] [(.long sg), (.long (l1 >>> ((b - (64 : Int32)) &&& 0x3f).toInt64))]))
            refine GoOn.st (fun t_ k_ => XS.lcmp X11.here hx rfl (hb hby d_prog_29_method_15_73) rfl k_) ?_
            by_cases hc12 : (l1 >>> ((b - (64 : Int32)) &&& 0x3f).toInt64) = sg
            · skip
              refine GoOn.st (fun t_ k_ => XS.ifNo X11.here hx rfl (hb hby d_prog_29_method_15_74) rfl ((if0 _ _).trans (teq ((lw_eq (l1 >>> ((b - (64 : Int32)) &&& 0x3f).toInt64) sg).mpr hc12)).2) k_) ?_
              refine GoOn.st (fun t_ k_ => XS.iconst X11.here hx rfl (hb hby d_prog_29_method_15_77)  k_) ?_
              refine GoOn.st (fun t_ k_ => XS.goto X11.here hx rfl (pc0 := 78) (pc' := 82) rfl (hb hby d_prog_29_method_15_78) (by decide) (by decide) k_) ?_
              show GoOn _ _ _ _ (T11.setTop (mkF m 82 #[.val (.ref o1), .val (.int b), .val (.long sg), .second, .val (.int (1 : Int32))] [(.int (1 : Int32))]))
              refine GoOn.st (fun t_ k_ => XS.istore X11.here hx rfl (hb hby d_prog_29_method_15_82) rfl (l' := #[.val (.ref o1), .val (.int b), .val (.long sg), .second, .val (.int (1 : Int32))]) rfl k_) ?_
              refine GoOn.st (fun t_ k_ => XS.goto X11.here hx rfl (pc0 := 84) (pc' := 114) rfl (hb hby d_prog_29_method_15_84) (by decide) (by decide) k_) ?_
              refine GoOn.st (fun t_ k_ => XS.iload X11.here hx rfl (hb hby d_prog_29_method_15_114) rfl k_) ?_
              show GoOn _ _ _ _ (T11.setTop (mkF m 116 #[.val (.ref o1), .val (.int b), .val (.long sg), .second, .val (.int (1 : Int32))] [(.int (1 : Int32))]))
              exact GoOn.retZ X11 hx hlk hret (by simp) rfl (hb hby d_prog_29_method_15_116) (by rw [e11]; exact ⟨(by unfold own_fits; rw [show own_sg l5 = sg from e_sg.symm]; rw [if_pos ⟨hc3, hc5, hc7, (by rw [if_pos hc8]; exact ⟨hc10, hc12⟩)⟩]), rfl, rfl⟩) (by decide) (by decide)
            · skip
              refine GoOn.st (fun t_ k_ => XS.ifYes X11.here hx rfl (pc0 := 74) (pc' := 81) rfl (hb hby d_prog_29_method_15_74) rfl ((if0 _ _).trans (feq (fun q => hc12 ((lw_eq (l1 >>> ((b - (64 : Int32)) &&& 0x3f).toInt64) sg).mp q))).2) (by decide) (by decide) k_) ?_
              refine GoOn.st (fun t_ k_ => XS.iconst X11.here hx rfl (hb hby d_prog_29_method_15_81)  k_) ?_
              refine GoOn.st (fun t_ k_ => XS.istore X11.here hx rfl (hb hby d_prog_29_method_15_82) rfl (l' := #[.val (.ref o1), .val (.int b), .val (.long sg), .second, .val (.int (0 : Int32))]) rfl k_) ?_
              show GoOn _ _ _ _ (T11.setTop (mkF m 84 #[.val (.ref o1), .val (.int b), .val (.long sg), .second, .val (.int (0 : Int32))] []))
              refine GoOn.st (fun t_ k_ => XS.goto X11.here hx rfl (pc0 := 84) (pc' := 114) rfl (hb hby d_prog_29_method_15_84) (by decide) (by decide) k_) ?_
              refine GoOn.st (fun t_ k_ => XS.iload X11.here hx rfl (hb hby d_prog_29_method_15_114) rfl k_) ?_
              show GoOn _ _ _ _ (T11.setTop (mkF m 116 #[.val (.ref o1), .val (.int b), .val (.long sg), .second, .val (.int (0 : Int32))] [(.int (0 : Int32))]))
              exact GoOn.retZ X11 hx hlk hret (by simp) rfl (hb hby d_prog_29_method_15_116) (by rw [e11]; exact ⟨(by unfold own_fits; rw [show own_sg l5 = sg from e_sg.symm]; rw [if_neg (fun q => hc12 (by have r := q.2.2.2; rw [if_pos hc8] at r; exact r.2))]), rfl, rfl⟩) (by decide) (by decide)
          · skip
            refine GoOn.st (fun t_ k_ => XS.ifYes X9.here hx rfl (pc0 := 60) (pc' := 81) rfl (hb hby d_prog_29_method_15_60) rfl ((if0 _ _).trans (feq (fun q => hc10 ((lw_eq l2 sg).mp q))).2) (by decide) (by decide) k_) ?_
            refine GoOn.st (fun t_ k_ => XS.iconst X9.here hx rfl (hb hby d_prog_29_method_15_81)  k_) ?_
            refine GoOn.st (fun t_ k_ => XS.istore X9.here hx rfl (hb hby d_prog_29_method_15_82) rfl (l' := #[.val (.ref o1), .val (.int b), .val (.long sg), .second, .val (.int (0 : Int32))]) rfl k_) ?_
            refine GoOn.st (fun t_ k_ => XS.goto X9.here hx rfl (pc0 := 84) (pc' := 114) rfl (hb hby d_prog_29_method_15_84) (by decide) (by decide) k_) ?_
            show GoOn _ _ _ _ (T9.setTop (mkF m 114 #[.val (.ref o1), .val (.int b), .val (.long sg), .second, .val (.int (0 : Int32))] []))
            refine GoOn.st (fun t_ k_ => XS.iload X9.here hx rfl (hb hby d_prog_29_method_15_114) rfl k_) ?_
            show GoOn _ _ _ _ (T9.setTop (mkF m 116 #[.val (.ref o1), .val (.int b), .val (.long sg), .second, .val (.int (0 : Int32))] [(.int (0 : Int32))]))
            exact GoOn.retZ X9 hx hlk hret (by simp) rfl (hb hby d_prog_29_method_15_116) (by rw [e9]; exact ⟨(by unfold own_fits; rw [show own_sg l5 = sg from e_sg.symm]; rw [if_neg (fun q => hc10 (by have r := q.2.2.2; rw [if_pos hc8] at r; exact r.1))]), rfl, rfl⟩) (by decide) (by decide)
        · skip
          refine GoOn.st (fun t_ k_ => XS.icmpYes X6.here hx rfl (pc0 := 46) (pc' := 87) rfl (hb hby d_prog_29_method_15_46) rfl (flt hc8).2.1 (by decide) (by decide) k_) ?_
          refine GoOn.st (fun t_ k_ => XS.iload X6.here hx rfl (hb hby d_prog_29_method_15_87) rfl k_) ?_
          refine GoOn.st (fun t_ k_ => XS.ifNo X6.here hx rfl (hb hby d_prog_29_method_15_89) rfl ((if0 _ _).trans (feq (by decide : ¬ ((1 : Int32) = (0 : Int32)))).1) k_) ?_
          show GoOn _ _ _ _ (T6.setTop (mkF m 92 #[.val (.ref o1), .val (.int b), .val (.long sg), .second, .val (.int (1 : Int32))] []))
          refine GoOn.st (fun t_ k_ => XS.aloadN X6.here hx rfl (hb hby d_prog_29_method_15_92) rfl rfl k_) ?_
          obtain ⟨T13, X13, e13, st13⟩ := getF X6 hx hZ hown (host := "") (Or.inl (hw _ (List.mem_of_getElem? (i := 13) rfl))) Via.refl e6 (own_I_get_limb2 I0) (g := (mkF m 93 #[.val (.ref o1), .val (.int b), .val (.long sg), .second, .val (.int (1 : Int32))] [(.ref o1)])) rfl rfl (hb hby d_prog_29_method_15_93)
          refine GoOn.st st13 ?_
          refine GoOn.st (fun t_ k_ => XS.iloadN X13.here hx rfl (hb hby d_prog_29_method_15_96) rfl k_) ?_
          refine GoOn.st (fun t_ k_ => XS.sipush X13.here hx rfl (hb hby d_prog_29_method_15_97)  k_) ?_
          show GoOn _ _ _ _ (T13.setTop (mkF m 100 #[.val (.ref o1), .val (.int b), .val (.long sg), .second, .val (.int (1 : Int32))] [(.int (128 : Int32)), (.int b), (.long l2)]))
          refine GoOn.st (fun t_ k_ => XS.isub X13.here hx rfl (hb hby d_prog_29_method_15_100) rfl k_) ?_
          refine GoOn.st (fun t_ k_ => XS.lshr X13.here hx rfl (hb hby d_prog_29_method_15_101) rfl k_) ?_
          refine GoOn.st (fun t_ k_ => XS.lloadN X13.here hx rfl (hb hby d_prog_29_method_15_102) rfl k_) ?_
          refine GoOn.st (fun t_ k_ => XS.lcmp X13.here hx rfl (hb hby d_prog_29_method_15_103) rfl k_) ?_
          show GoOn _ _ _ _ (T13.setTop (mkF m 104 #[.val (.ref o1), .val (.int b), .val (.long sg), .second, .val (.int (1 : Int32))] [(.int (lcmpW (l2 >>> ((b - (128 : Int32)) &&& 0x3f).toInt64) sg))]))
          by_cases hc14 : (l2 >>> ((b - (128 : Int32)) &&& 0x3f).toInt64) = sg
          · skip
            refine GoOn.st (fun t_ k_ => XS.ifNo X13.here hx rfl (hb hby d_prog_29_method_15_104) rfl ((if0 _ _).trans (teq ((lw_eq (l2 >>> ((b - (128 : Int32)) &&& 0x3f).toInt64) sg).mpr hc14)).2) k_) ?_
            refine GoOn.st (fun t_ k_ => XS.iconst X13.here hx rfl (hb hby d_prog_29_method_15_107)  k_) ?_
            refine GoOn.st (fun t_ k_ => XS.goto X13.here hx rfl (pc0 := 108) (pc' := 112) rfl (hb hby d_prog_29_method_15_108) (by decide) (by decide) k_) ?_
            refine GoOn.st (fun t_ k_ => XS.istore X13.here hx rfl (hb hby d_prog_29_method_15_112) rfl (l' := #[.val (.ref o1), .val (.int b), .val (.long sg), .second, .val (.int (1 : Int32))]) rfl k_) ?_
            show GoOn _ _ _ _ (T13.setTop (mkF m 114 #[.val (.ref o1), .val (.int b), .val (.long sg), .second, .val (.int (1 : Int32))] []))
            refine GoOn.st (fun t_ k_ => XS.iload X13.here hx rfl (hb hby d_prog_29_method_15_114) rfl k_) ?_
            show GoOn _ _ _ _ (T13.setTop (mkF m 116 #[.val (.ref o1), .val (.int b), .val (.long sg), .second, .val (.int (1 : Int32))] [(.int (1 : Int32))]))
            exact GoOn.retZ X13 hx hlk hret (by simp) rfl (hb hby d_prog_29_method_15_116) (by rw [e13]; exact ⟨(by unfold own_fits; rw [show own_sg l5 = sg from e_sg.symm]; rw [if_pos ⟨hc3, hc5, hc7, (by rw [if_neg hc8]; exact hc14)⟩]), rfl, rfl⟩) (by decide) (by decide)
          · skip
            refine GoOn.st (fun t_ k_ => XS.ifYes X13.here hx rfl (pc0 := 104) (pc' := 111) rfl (hb hby d_prog_29_method_15_104) rfl ((if0 _ _).trans (feq (fun q => hc14 ((lw_eq (l2 >>> ((b - (128 : Int32)) &&& 0x3f).toInt64) sg).mp q))).2) (by decide) (by decide) k_) ?_
            refine GoOn.st (fun t_ k_ => XS.iconst X13.here hx rfl (hb hby d_prog_29_method_15_111)  k_) ?_
            refine GoOn.st (fun t_ k_ => XS.istore X13.here hx rfl (hb hby d_prog_29_method_15_112) rfl (l' := #[.val (.ref o1), .val (.int b), .val (.long sg), .second, .val (.int (0 : Int32))]) rfl k_) ?_
            refine GoOn.st (fun t_ k_ => XS.iload X13.here hx rfl (hb hby d_prog_29_method_15_114) rfl k_) ?_
            show GoOn _ _ _ _ (T13.setTop (mkF m 116 #[.val (.ref o1), .val (.int b), .val (.long sg), .second, .val (.int (0 : Int32))] [(.int (0 : Int32))]))
            exact GoOn.retZ X13 hx hlk hret (by simp) rfl (hb hby d_prog_29_method_15_116) (by rw [e13]; exact ⟨(by unfold own_fits; rw [show own_sg l5 = sg from e_sg.symm]; rw [if_neg (fun q => hc14 (by have r := q.2.2.2; rw [if_neg hc8] at r; exact r))]), rfl, rfl⟩) (by decide) (by decide)
      · skip
        refine GoOn.st (fun t_ k_ => XS.ifYes X6.here hx rfl (pc0 := 32) (pc' := 39) rfl (hb hby d_prog_29_method_15_32) rfl ((if0 _ _).trans (feq (fun q => hc7 ((lw_eq l3 sg).mp q))).2) (by decide) (by decide) k_) ?_
        show GoOn _ _ _ _ (T6.setTop (mkF m 39 #[.val (.ref o1), .val (.int b), .val (.long sg), .second, .unset] []))
        refine GoOn.st (fun t_ k_ => XS.iconst X6.here hx rfl (hb hby d_prog_29_method_15_39)  k_) ?_
        refine GoOn.st (fun t_ k_ => XS.istore X6.here hx rfl (hb hby d_prog_29_method_15_40) rfl (l' := #[.val (.ref o1), .val (.int b), .val (.long sg), .second, .val (.int (0 : Int32))]) rfl k_) ?_
        refine GoOn.st (fun t_ k_ => XS.iloadN X6.here hx rfl (hb hby d_prog_29_method_15_42) rfl k_) ?_
        refine GoOn.st (fun t_ k_ => XS.sipush X6.here hx rfl (hb hby d_prog_29_method_15_43)  k_) ?_
        show GoOn _ _ _ _ (T6.setTop (mkF m 46 #[.val (.ref o1), .val (.int b), .val (.long sg), .second, .val (.int (0 : Int32))] [(.int (128 : Int32)), (.int b)]))
        by_cases hc15 : b < (128 : Int32)
        · skip
          refine GoOn.st (fun t_ k_ => XS.icmpNo X6.here hx rfl (hb hby d_prog_29_method_15_46) rfl (tlt hc15).2.1 k_) ?_
          refine GoOn.st (fun t_ k_ => XS.iload X6.here hx rfl (hb hby d_prog_29_method_15_49) rfl k_) ?_
          refine GoOn.st (fun t_ k_ => XS.ifYes X6.here hx rfl (pc0 := 51) (pc' := 81) rfl (hb hby d_prog_29_method_15_51) rfl ((if0 _ _).trans (teq (by decide : (0 : Int32) = (0 : Int32))).1) (by decide) (by decide) k_) ?_
          refine GoOn.st (fun t_ k_ => XS.iconst X6.here hx rfl (hb hby d_prog_29_method_15_81)  k_) ?_
          show GoOn _ _ _ _ (T6.setTop (mkF m 82 #[.val (.ref o1), .val (.int b), .val (.long sg), .second, .val (.int (0 : Int32))] [(.int (0 : Int32))]))
          refine GoOn.st (fun t_ k_ => XS.istore X6.here hx rfl (hb hby d_prog_29_method_15_82) rfl (l' := #[.val (.ref o1), .val (.int b), .val (.long sg), .second, .val (.int (0 : Int32))]) rfl k_) ?_
          refine GoOn.st (fun t_ k_ => XS.goto X6.here hx rfl (pc0 := 84) (pc' := 114) rfl (hb hby d_prog_29_method_15_84) (by decide) (by decide) k_) ?_
          refine GoOn.st (fun t_ k_ => XS.iload X6.here hx rfl (hb hby d_prog_29_method_15_114) rfl k_) ?_
          show GoOn _ _ _ _ (T6.setTop (mkF m 116 #[.val (.ref o1), .val (.int b), .val (.long sg), .second, .val (.int (0 : Int32))] [(.int (0 : Int32))]))
          exact GoOn.retZ X6 hx hlk hret (by simp) rfl (hb hby d_prog_29_method_15_116) (by rw [e6]; exact ⟨(by unfold own_fits; rw [show own_sg l5 = sg from e_sg.symm]; rw [if_neg (fun q => hc7 q.2.2.1)]), rfl, rfl⟩) (by decide) (by decide)
        · skip
          refine GoOn.st (fun t_ k_ => XS.icmpYes X6.here hx rfl (pc0 := 46) (pc' := 87) rfl (hb hby d_prog_29_method_15_46) rfl (flt hc15).2.1 (by decide) (by decide) k_) ?_
          refine GoOn.st (fun t_ k_ => XS.iload X6.here hx rfl (hb hby d_prog_29_method_15_87) rfl k_) ?_
          refine GoOn.st (fun t_ k_ => XS.ifYes X6.here hx rfl (pc0 := 89) (pc' := 111) rfl (hb hby d_prog_29_method_15_89) rfl ((if0 _ _).trans (teq (by decide : (0 : Int32) = (0 : Int32))).1) (by decide) (by decide) k_) ?_
          refine GoOn.st (fun t_ k_ => XS.iconst X6.here hx rfl (hb hby d_prog_29_method_15_111)  k_) ?_
          show GoOn _ _ _ _ (T6.setTop (mkF m 112 #[.val (.ref o1), .val (.int b), .val (.long sg), .second, .val (.int (0 : Int32))] [(.int (0 : Int32))]))
          refine GoOn.st (fun t_ k_ => XS.istore X6.here hx rfl (hb hby d_prog_29_method_15_112) rfl (l' := #[.val (.ref o1), .val (.int b), .val (.long sg), .second, .val (.int (0 : Int32))]) rfl k_) ?_
          refine GoOn.st (fun t_ k_ => XS.iload X6.here hx rfl (hb hby d_prog_29_method_15_114) rfl k_) ?_
          show GoOn _ _ _ _ (T6.setTop (mkF m 116 #[.val (.ref o1), .val (.int b), .val (.long sg), .second, .val (.int (0 : Int32))] [(.int (0 : Int32))]))
          exact GoOn.retZ X6 hx hlk hret (by simp) rfl (hb hby d_prog_29_method_15_116) (by rw [e6]; exact ⟨(by unfold own_fits; rw [show own_sg l5 = sg from e_sg.symm]; rw [if_neg (fun q => hc7 q.2.2.1)]), rfl, rfl⟩) (by decide) (by decide)
    · skip
      refine GoOn.st (fun t_ k_ => XS.ifYes X4.here hx rfl (pc0 := 23) (pc' := 39) rfl (hb hby d_prog_29_method_15_23) rfl ((if0 _ _).trans (feq (fun q => hc5 ((lw_eq l4 sg).mp q))).2) (by decide) (by decide) k_) ?_
      refine GoOn.st (fun t_ k_ => XS.iconst X4.here hx rfl (hb hby d_prog_29_method_15_39)  k_) ?_
      show GoOn _ _ _ _ (T4.setTop (mkF m 40 #[.val (.ref o1), .val (.int b), .val (.long sg), .second, .unset] [(.int (0 : Int32))]))
      refine GoOn.st (fun t_ k_ => XS.istore X4.here hx rfl (hb hby d_prog_29_method_15_40) rfl (l' := #[.val (.ref o1), .val (.int b), .val (.long sg), .second, .val (.int (0 : Int32))]) rfl k_) ?_
      refine GoOn.st (fun t_ k_ => XS.iloadN X4.here hx rfl (hb hby d_prog_29_method_15_42) rfl k_) ?_
      refine GoOn.st (fun t_ k_ => XS.sipush X4.here hx rfl (hb hby d_prog_29_method_15_43)  k_) ?_
      by_cases hc16 : b < (128 : Int32)
      · skip
        refine GoOn.st (fun t_ k_ => XS.icmpNo X4.here hx rfl (hb hby d_prog_29_method_15_46) rfl (tlt hc16).2.1 k_) ?_
        show GoOn _ _ _ _ (T4.setTop (mkF m 49 #[.val (.ref o1), .val (.int b), .val (.long sg), .second, .val (.int (0 : Int32))] []))
        refine GoOn.st (fun t_ k_ => XS.iload X4.here hx rfl (hb hby d_prog_29_method_15_49) rfl k_) ?_
        refine GoOn.st (fun t_ k_ => XS.ifYes X4.here hx rfl (pc0 := 51) (pc' := 81) rfl (hb hby d_prog_29_method_15_51) rfl ((if0 _ _).trans (teq (by decide : (0 : Int32) = (0 : Int32))).1) (by decide) (by decide) k_) ?_
        refine GoOn.st (fun t_ k_ => XS.iconst X4.here hx rfl (hb hby d_prog_29_method_15_81)  k_) ?_
        refine GoOn.st (fun t_ k_ => XS.istore X4.here hx rfl (hb hby d_prog_29_method_15_82) rfl (l' := #[.val (.ref o1), .val (.int b), .val (.long sg), .second, .val (.int (0 : Int32))]) rfl k_) ?_
        show GoOn _ _ _ _ (T4.setTop (mkF m 84 #[.val (.ref o1), .val (.int b), .val (.long sg), .second, .val (.int (0 : Int32))] []))
        refine GoOn.st (fun t_ k_ => XS.goto X4.here hx rfl (pc0 := 84) (pc' := 114) rfl (hb hby d_prog_29_method_15_84) (by decide) (by decide) k_) ?_
        refine GoOn.st (fun t_ k_ => XS.iload X4.here hx rfl (hb hby d_prog_29_method_15_114) rfl k_) ?_
        show GoOn _ _ _ _ (T4.setTop (mkF m 116 #[.val (.ref o1), .val (.int b), .val (.long sg), .second, .val (.int (0 : Int32))] [(.int (0 : Int32))]))
        exact GoOn.retZ X4 hx hlk hret (by simp) rfl (hb hby d_prog_29_method_15_116) (by rw [e4]; exact ⟨(by unfold own_fits; rw [show own_sg l5 = sg from e_sg.symm]; rw [if_neg (fun q => hc5 q.2.1)]), rfl, rfl⟩) (by decide) (by decide)
      · skip
        refine GoOn.st (fun t_ k_ => XS.icmpYes X4.here hx rfl (pc0 := 46) (pc' := 87) rfl (hb hby d_prog_29_method_15_46) rfl (flt hc16).2.1 (by decide) (by decide) k_) ?_
        show GoOn _ _ _ _ (T4.setTop (mkF m 87 #[.val (.ref o1), .val (.int b), .val (.long sg), .second, .val (.int (0 : Int32))] []))
        refine GoOn.st (fun t_ k_ => XS.iload X4.here hx rfl (hb hby d_prog_29_method_15_87) rfl k_) ?_
        refine GoOn.st (fun t_ k_ => XS.ifYes X4.here hx rfl (pc0 := 89) (pc' := 111) rfl (hb hby d_prog_29_method_15_89) rfl ((if0 _ _).trans (teq (by decide : (0 : Int32) = (0 : Int32))).1) (by decide) (by decide) k_) ?_
        refine GoOn.st (fun t_ k_ => XS.iconst X4.here hx rfl (hb hby d_prog_29_method_15_111)  k_) ?_
        refine GoOn.st (fun t_ k_ => XS.istore X4.here hx rfl (hb hby d_prog_29_method_15_112) rfl (l' := #[.val (.ref o1), .val (.int b), .val (.long sg), .second, .val (.int (0 : Int32))]) rfl k_) ?_
        show GoOn _ _ _ _ (T4.setTop (mkF m 114 #[.val (.ref o1), .val (.int b), .val (.long sg), .second, .val (.int (0 : Int32))] []))
        refine GoOn.st (fun t_ k_ => XS.iload X4.here hx rfl (hb hby d_prog_29_method_15_114) rfl k_) ?_
        show GoOn _ _ _ _ (T4.setTop (mkF m 116 #[.val (.ref o1), .val (.int b), .val (.long sg), .second, .val (.int (0 : Int32))] [(.int (0 : Int32))]))
        exact GoOn.retZ X4 hx hlk hret (by simp) rfl (hb hby d_prog_29_method_15_116) (by rw [e4]; exact ⟨(by unfold own_fits; rw [show own_sg l5 = sg from e_sg.symm]; rw [if_neg (fun q => hc5 q.2.1)]), rfl, rfl⟩) (by decide) (by decide)
  · skip
    refine GoOn.st (fun t_ k_ => XS.ifYes X2.here hx rfl (pc0 := 14) (pc' := 39) rfl (hb hby d_prog_29_method_15_14) rfl ((if0 _ _).trans (feq (fun q => hc3 ((lw_eq l5 sg).mp q))).2) (by decide) (by decide) k_) ?_
    refine GoOn.st (fun t_ k_ => XS.iconst X2.here hx rfl (hb hby d_prog_29_method_15_39)  k_) ?_
    refine GoOn.st (fun t_ k_ => XS.istore X2.here hx rfl (hb hby d_prog_29_method_15_40) rfl (l' := #[.val (.ref o1), .val (.int b), .val (.long sg), .second, .val (.int (0 : Int32))]) rfl k_) ?_
    show GoOn _ _ _ _ (T2.setTop (mkF m 42 #[.val (.ref o1), .val (.int b), .val (.long sg), .second, .val (.int (0 : Int32))] []))
    refine GoOn.st (fun t_ k_ => XS.iloadN X2.here hx rfl (hb hby d_prog_29_method_15_42) rfl k_) ?_
    refine GoOn.st (fun t_ k_ => XS.sipush X2.here hx rfl (hb hby d_prog_29_method_15_43)  k_) ?_
    by_cases hc17 : b < (128 : Int32)
    · skip
      refine GoOn.st (fun t_ k_ => XS.icmpNo X2.here hx rfl (hb hby d_prog_29_method_15_46) rfl (tlt hc17).2.1 k_) ?_
      refine GoOn.st (fun t_ k_ => XS.iload X2.here hx rfl (hb hby d_prog_29_method_15_49) rfl k_) ?_
      show GoOn _ _ _ _ (T2.setTop (mkF m 51 #[.val (.ref o1), .val (.int b), .val (.long sg), .second, .val (.int (0 : Int32))] [(.int (0 : Int32))]))
      refine GoOn.st (fun t_ k_ => XS.ifYes X2.here hx rfl (pc0 := 51) (pc' := 81) rfl (hb hby d_prog_29_method_15_51) rfl ((if0 _ _).trans (teq (by decide : (0 : Int32) = (0 : Int32))).1) (by decide) (by decide) k_) ?_
      refine GoOn.st (fun t_ k_ => XS.iconst X2.here hx rfl (hb hby d_prog_29_method_15_81)  k_) ?_
      refine GoOn.st (fun t_ k_ => XS.istore X2.here hx rfl (hb hby d_prog_29_method_15_82) rfl (l' := #[.val (.ref o1), .val (.int b), .val (.long sg), .second, .val (.int (0 : Int32))]) rfl k_) ?_
      refine GoOn.st (fun t_ k_ => XS.goto X2.here hx rfl (pc0 := 84) (pc' := 114) rfl (hb hby d_prog_29_method_15_84) (by decide) (by decide) k_) ?_
      show GoOn _ _ _ _ (T2.setTop (mkF m 114 #[.val (.ref o1), .val (.int b), .val (.long sg), .second, .val (.int (0 : Int32))] []))
      refine GoOn.st (fun t_ k_ => XS.iload X2.here hx rfl (hb hby d_prog_29_method_15_114) rfl k_) ?_
      show GoOn _ _ _ _ (T2.setTop (mkF m 116 #[.val (.ref o1), .val (.int b), .val (.long sg), .second, .val (.int (0 : Int32))] [(.int (0 : Int32))]))
      exact GoOn.retZ X2 hx hlk hret (by simp) rfl (hb hby d_prog_29_method_15_116) (by rw [e2]; exact ⟨(by unfold own_fits; rw [show own_sg l5 = sg from e_sg.symm]; rw [if_neg (fun q => hc3 q.1)]), rfl, rfl⟩) (by decide) (by decide)
    · skip
      refine GoOn.st (fun t_ k_ => XS.icmpYes X2.here hx rfl (pc0 := 46) (pc' := 87) rfl (hb hby d_prog_29_method_15_46) rfl (flt hc17).2.1 (by decide) (by decide) k_) ?_
      refine GoOn.st (fun t_ k_ => XS.iload X2.here hx rfl (hb hby d_prog_29_method_15_87) rfl k_) ?_
      show GoOn _ _ _ _ (T2.setTop (mkF m 89 #[.val (.ref o1), .val (.int b), .val (.long sg), .second, .val (.int (0 : Int32))] [(.int (0 : Int32))]))
      refine GoOn.st (fun t_ k_ => XS.ifYes X2.here hx rfl (pc0 := 89) (pc' := 111) rfl (hb hby d_prog_29_method_15_89) rfl ((if0 _ _).trans (teq (by decide : (0 : Int32) = (0 : Int32))).1) (by decide) (by decide) k_) ?_
      refine GoOn.st (fun t_ k_ => XS.iconst X2.here hx rfl (hb hby d_prog_29_method_15_111)  k_) ?_
      refine GoOn.st (fun t_ k_ => XS.istore X2.here hx rfl (hb hby d_prog_29_method_15_112) rfl (l' := #[.val (.ref o1), .val (.int b), .val (.long sg), .second, .val (.int (0 : Int32))]) rfl k_) ?_
      refine GoOn.st (fun t_ k_ => XS.iload X2.here hx rfl (hb hby d_prog_29_method_15_114) rfl k_) ?_
      show GoOn _ _ _ _ (T2.setTop (mkF m 116 #[.val (.ref o1), .val (.int b), .val (.long sg), .second, .val (.int (0 : Int32))] [(.int (0 : Int32))]))
      exact GoOn.retZ X2 hx hlk hret (by simp) rfl (hb hby d_prog_29_method_15_116) (by rw [e2]; exact ⟨(by unfold own_fits; rw [show own_sg l5 = sg from e_sg.symm]; rw [if_neg (fun q => hc3 q.1)]), rfl, rfl⟩) (by decide) (by decide)
theorem ef_inr (m : MethodId) (x0 : Int64) (x1 : Int64) (x2 : Int32) : entryFrame m #[(.long x0), (.long x1), (.int x2)] 5 = mkF m 0 #[.val (.long x0), .second, .val (.long x1), .second, .val (.int x2)] [] := by first | (simp [entryFrame, mkF, argsToLocals, Value.category]; done) | rfl
theorem pn_com_example_nano_embed_nanoembed_geometry_Int384FitsPinLaw : plainName "com/example/nano_embed/nanoembed/geometry/Int384FitsPinLaw" = true := by first | (simp [plainName, overriddenIn]; done) | decide +kernel
theorem d_method_3_0 : decode method_3_code 0 = .ok (.lload_n 0, 1) := by decide +kernel
theorem d_method_3_1 : decode method_3_code 1 = .ok (.lconst 0, 1) := by decide +kernel
theorem d_method_3_2 : decode method_3_code 2 = .ok (.lcmp, 1) := by decide +kernel
theorem d_method_3_3 : decode method_3_code 3 = .ok (.ifCond .ne 31, 3) := by decide +kernel
theorem d_method_3_6 : decode method_3_code 6 = .ok (.lload_n 2, 1) := by decide +kernel
theorem d_method_3_7 : decode method_3_code 7 = .ok (.lconst 0, 1) := by decide +kernel
theorem d_method_3_8 : decode method_3_code 8 = .ok (.lcmp, 1) := by decide +kernel
theorem d_method_3_9 : decode method_3_code 9 = .ok (.ifCond .lt 23, 3) := by decide +kernel
theorem d_method_3_32 : decode method_3_code 32 = .ok (.iconst 0, 1) := by decide +kernel
theorem d_method_3_33 : decode method_3_code 33 = .ok (.ireturn, 1) := by decide +kernel
theorem d_method_3_12 : decode method_3_code 12 = .ok (.iload 4, 2) := by decide +kernel
theorem d_method_3_14 : decode method_3_code 14 = .ok (.bipush 63, 2) := by decide +kernel
theorem d_method_3_16 : decode method_3_code 16 = .ok (.if_icmp .eq 12, 3) := by decide +kernel
theorem d_method_3_28 : decode method_3_code 28 = .ok (.iconst 1, 1) := by decide +kernel
theorem d_method_3_29 : decode method_3_code 29 = .ok (.goto 4, 3) := by decide +kernel
theorem d_method_3_19 : decode method_3_code 19 = .ok (.lload_n 2, 1) := by decide +kernel
theorem d_method_3_20 : decode method_3_code 20 = .ok (.lconst 1, 1) := by decide +kernel
theorem d_method_3_21 : decode method_3_code 21 = .ok (.iload 4, 2) := by decide +kernel
theorem d_method_3_23 : decode method_3_code 23 = .ok (.lshl, 1) := by decide +kernel
theorem d_method_3_24 : decode method_3_code 24 = .ok (.lcmp, 1) := by decide +kernel
theorem d_method_3_25 : decode method_3_code 25 = .ok (.ifCond .ge 7, 3) := by decide +kernel
theorem d_method_3_34 : decode method_3_code 34 = .ok (.lload_n 2, 1) := by decide +kernel
theorem d_method_3_35 : decode method_3_code 35 = .ok (.lconst 0, 1) := by decide +kernel
theorem d_method_3_36 : decode method_3_code 36 = .ok (.lcmp, 1) := by decide +kernel
theorem d_method_3_37 : decode method_3_code 37 = .ok (.ifCond .ge 18, 3) := by decide +kernel
theorem d_method_3_40 : decode method_3_code 40 = .ok (.lload_n 2, 1) := by decide +kernel
theorem d_method_3_41 : decode method_3_code 41 = .ok (.ldc2_w 29, 3) := by decide +kernel
theorem d_method_3_44 : decode method_3_code 44 = .ok (.iload 4, 2) := by decide +kernel
theorem d_method_3_46 : decode method_3_code 46 = .ok (.lshl, 1) := by decide +kernel
theorem d_method_3_47 : decode method_3_code 47 = .ok (.lcmp, 1) := by decide +kernel
theorem d_method_3_48 : decode method_3_code 48 = .ok (.ifCond .lt 7, 3) := by decide +kernel
theorem d_method_3_55 : decode method_3_code 55 = .ok (.iconst 0, 1) := by decide +kernel
theorem d_method_3_56 : decode method_3_code 56 = .ok (.ireturn, 1) := by decide +kernel
theorem d_method_3_51 : decode method_3_code 51 = .ok (.iconst 1, 1) := by decide +kernel
theorem d_method_3_52 : decode method_3_code 52 = .ok (.goto 4, 3) := by decide +kernel
set_option maxRecDepth 65536 in
set_option maxHeartbeats 40000000 in
theorem rm_inr (l : Launch) (Z : State) (a0 : Array Value) (hw : ∀ d ∈ tables_1, d.before a0 Z = true) (q1 q2 : Int64) (p1 : Int32) (h0 : Heap) :
    OwCon l Z (⟨"com/example/nano_embed/nanoembed/geometry/Int384FitsPinLaw", "inRange", "(JJI)Z"⟩ : MethodName) method_3_code 5 (some .boolean) [] ({ frames := 0, cells := 0, slots := 0, locals := 0 } : Room) #[(.long q1), (.long q2), (.int p1)] h0 (OwRet (some (.int (own_inr q1 q2 p1))) h0) := by
  refine OwCon.of (plainFor_of_name pn_com_example_nano_embed_nanoembed_geometry_Int384FitsPinLaw) ?_
  intro p e s m below meth cd_ s₁ X0 hx hby hml hret hlk hown hnm hZ e0
  refine GoOn.st (fun t_ k_ => castTop (ef_inr m q1 q2 p1) k_) ?_
  show GoOn _ _ _ _ (s₁.setTop (mkF m 0 #[.val (.long q1), .second, .val (.long q2), .second, .val (.int p1)] []))
  refine GoOn.st (fun t_ k_ => XS.lloadN X0.here hx rfl (hb hby d_method_3_0) rfl k_) ?_
  refine GoOn.st (fun t_ k_ => XS.lconst X0.here hx rfl (hb hby d_method_3_1)  k_) ?_
  refine GoOn.st (fun t_ k_ => XS.lcmp X0.here hx rfl (hb hby d_method_3_2) rfl k_) ?_
  by_cases hc1 : q1 = (0 : Int64)
  · skip
    refine GoOn.st (fun t_ k_ => XS.ifNo X0.here hx rfl (hb hby d_method_3_3) rfl ((if0 _ _).trans (teq ((lw_eq q1 (0 : Int64)).mpr hc1)).2) k_) ?_
    show GoOn _ _ _ _ (s₁.setTop (mkF m 6 #[.val (.long q1), .second, .val (.long q2), .second, .val (.int p1)] []))
    refine GoOn.st (fun t_ k_ => XS.lloadN X0.here hx rfl (hb hby d_method_3_6) rfl k_) ?_
    refine GoOn.st (fun t_ k_ => XS.lconst X0.here hx rfl (hb hby d_method_3_7)  k_) ?_
    refine GoOn.st (fun t_ k_ => XS.lcmp X0.here hx rfl (hb hby d_method_3_8) rfl k_) ?_
    by_cases hc2 : q2 < (0 : Int64)
    · skip
      refine GoOn.st (fun t_ k_ => XS.ifYes X0.here hx rfl (pc0 := 9) (pc' := 32) rfl (hb hby d_method_3_9) rfl ((if0 _ _).trans (tlt ((lw_lt q2 (0 : Int64)).mpr hc2)).1) (by decide) (by decide) k_) ?_
      show GoOn _ _ _ _ (s₁.setTop (mkF m 32 #[.val (.long q1), .second, .val (.long q2), .second, .val (.int p1)] []))
      refine GoOn.st (fun t_ k_ => XS.iconst X0.here hx rfl (hb hby d_method_3_32)  k_) ?_
      show GoOn _ _ _ _ (s₁.setTop (mkF m 33 #[.val (.long q1), .second, .val (.long q2), .second, .val (.int p1)] [(.int (0 : Int32))]))
      exact GoOn.retZ X0 hx hlk hret (by simp) rfl (hb hby d_method_3_33) (by rw [e0]; exact ⟨(by unfold own_inr; rw [if_pos hc1, if_pos hc2]), rfl, rfl⟩) (by decide) (by decide)
    · skip
      refine GoOn.st (fun t_ k_ => XS.ifNo X0.here hx rfl (hb hby d_method_3_9) rfl ((if0 _ _).trans (flt (fun q => hc2 ((lw_lt q2 (0 : Int64)).mp q))).1) k_) ?_
      show GoOn _ _ _ _ (s₁.setTop (mkF m 12 #[.val (.long q1), .second, .val (.long q2), .second, .val (.int p1)] []))
      refine GoOn.st (fun t_ k_ => XS.iload X0.here hx rfl (hb hby d_method_3_12) rfl k_) ?_
      refine GoOn.st (fun t_ k_ => XS.bipush X0.here hx rfl (hb hby d_method_3_14)  k_) ?_
      by_cases hc3 : p1 = (63 : Int32)
      · skip
        refine GoOn.st (fun t_ k_ => XS.icmpYes X0.here hx rfl (pc0 := 16) (pc' := 28) rfl (hb hby d_method_3_16) rfl (teq hc3).1 (by decide) (by decide) k_) ?_
        refine GoOn.st (fun t_ k_ => XS.iconst X0.here hx rfl (hb hby d_method_3_28)  k_) ?_
        show GoOn _ _ _ _ (s₁.setTop (mkF m 29 #[.val (.long q1), .second, .val (.long q2), .second, .val (.int p1)] [(.int (1 : Int32))]))
        refine GoOn.st (fun t_ k_ => XS.goto X0.here hx rfl (pc0 := 29) (pc' := 33) rfl (hb hby d_method_3_29) (by decide) (by decide) k_) ?_
        show GoOn _ _ _ _ (s₁.setTop (mkF m 33 #[.val (.long q1), .second, .val (.long q2), .second, .val (.int p1)] [(.int (1 : Int32))]))
        exact GoOn.retZ X0 hx hlk hret (by simp) rfl (hb hby d_method_3_33) (by rw [e0]; exact ⟨(by unfold own_inr; rw [if_pos hc1, if_neg hc2, if_pos hc3]), rfl, rfl⟩) (by decide) (by decide)
      · skip
        refine GoOn.st (fun t_ k_ => XS.icmpNo X0.here hx rfl (hb hby d_method_3_16) rfl (feq hc3).1 k_) ?_
        refine GoOn.st (fun t_ k_ => XS.lloadN X0.here hx rfl (hb hby d_method_3_19) rfl k_) ?_
        show GoOn _ _ _ _ (s₁.setTop (mkF m 20 #[.val (.long q1), .second, .val (.long q2), .second, .val (.int p1)] [(.long q2)]))
        refine GoOn.st (fun t_ k_ => XS.lconst X0.here hx rfl (hb hby d_method_3_20)  k_) ?_
        refine GoOn.st (fun t_ k_ => XS.iload X0.here hx rfl (hb hby d_method_3_21) rfl k_) ?_
        refine GoOn.st (fun t_ k_ => XS.lshl X0.here hx rfl (hb hby d_method_3_23) rfl k_) ?_
        refine GoOn.st (fun t_ k_ => XS.lcmp X0.here hx rfl (hb hby d_method_3_24) rfl k_) ?_
        show GoOn _ _ _ _ (s₁.setTop (mkF m 25 #[.val (.long q1), .second, .val (.long q2), .second, .val (.int p1)] [(.int (lcmpW q2 ((1 : Int64) <<< (p1 &&& 0x3f).toInt64)))]))
        by_cases hc4 : q2 < ((1 : Int64) <<< (p1 &&& 0x3f).toInt64)
        · skip
          refine GoOn.st (fun t_ k_ => XS.ifNo X0.here hx rfl (hb hby d_method_3_25) rfl ((if0 _ _).trans (tlt ((lw_lt q2 ((1 : Int64) <<< (p1 &&& 0x3f).toInt64)).mpr hc4)).2.1) k_) ?_
          refine GoOn.st (fun t_ k_ => XS.iconst X0.here hx rfl (hb hby d_method_3_28)  k_) ?_
          refine GoOn.st (fun t_ k_ => XS.goto X0.here hx rfl (pc0 := 29) (pc' := 33) rfl (hb hby d_method_3_29) (by decide) (by decide) k_) ?_
          show GoOn _ _ _ _ (s₁.setTop (mkF m 33 #[.val (.long q1), .second, .val (.long q2), .second, .val (.int p1)] [(.int (1 : Int32))]))
          exact GoOn.retZ X0 hx hlk hret (by simp) rfl (hb hby d_method_3_33) (by rw [e0]; exact ⟨(by unfold own_inr; rw [if_pos hc1, if_neg hc2, if_neg hc3, if_pos hc4]), rfl, rfl⟩) (by decide) (by decide)
        · skip
          refine GoOn.st (fun t_ k_ => XS.ifYes X0.here hx rfl (pc0 := 25) (pc' := 32) rfl (hb hby d_method_3_25) rfl ((if0 _ _).trans (flt (fun q => hc4 ((lw_lt q2 ((1 : Int64) <<< (p1 &&& 0x3f).toInt64)).mp q))).2.1) (by decide) (by decide) k_) ?_
          refine GoOn.st (fun t_ k_ => XS.iconst X0.here hx rfl (hb hby d_method_3_32)  k_) ?_
          show GoOn _ _ _ _ (s₁.setTop (mkF m 33 #[.val (.long q1), .second, .val (.long q2), .second, .val (.int p1)] [(.int (0 : Int32))]))
          exact GoOn.retZ X0 hx hlk hret (by simp) rfl (hb hby d_method_3_33) (by rw [e0]; exact ⟨(by unfold own_inr; rw [if_pos hc1, if_neg hc2, if_neg hc3, if_neg hc4]), rfl, rfl⟩) (by decide) (by decide)
  · skip
    refine GoOn.st (fun t_ k_ => XS.ifYes X0.here hx rfl (pc0 := 3) (pc' := 34) rfl (hb hby d_method_3_3) rfl ((if0 _ _).trans (feq (fun q => hc1 ((lw_eq q1 (0 : Int64)).mp q))).2) (by decide) (by decide) k_) ?_
    show GoOn _ _ _ _ (s₁.setTop (mkF m 34 #[.val (.long q1), .second, .val (.long q2), .second, .val (.int p1)] []))
    refine GoOn.st (fun t_ k_ => XS.lloadN X0.here hx rfl (hb hby d_method_3_34) rfl k_) ?_
    refine GoOn.st (fun t_ k_ => XS.lconst X0.here hx rfl (hb hby d_method_3_35)  k_) ?_
    refine GoOn.st (fun t_ k_ => XS.lcmp X0.here hx rfl (hb hby d_method_3_36) rfl k_) ?_
    by_cases hc5 : q2 < (0 : Int64)
    · skip
      refine GoOn.st (fun t_ k_ => XS.ifNo X0.here hx rfl (hb hby d_method_3_37) rfl ((if0 _ _).trans (tlt ((lw_lt q2 (0 : Int64)).mpr hc5)).2.1) k_) ?_
      show GoOn _ _ _ _ (s₁.setTop (mkF m 40 #[.val (.long q1), .second, .val (.long q2), .second, .val (.int p1)] []))
      refine GoOn.st (fun t_ k_ => XS.lloadN X0.here hx rfl (hb hby d_method_3_40) rfl k_) ?_
      refine GoOn.st (fun t_ k_ => X0.ldc2Long hx hown (mvT hZ (hw _ (List.mem_of_getElem? (i := 105) rfl))) (g := (mkF m 41 #[.val (.long q1), .second, .val (.long q2), .second, .val (.int p1)] [(.long q2)])) rfl (hb hby d_method_3_41) _ k_) ?_
      refine GoOn.st (fun t_ k_ => XS.iload X0.here hx rfl (hb hby d_method_3_44) rfl k_) ?_
      refine GoOn.st (fun t_ k_ => XS.lshl X0.here hx rfl (hb hby d_method_3_46) rfl k_) ?_
      show GoOn _ _ _ _ (s₁.setTop (mkF m 47 #[.val (.long q1), .second, .val (.long q2), .second, .val (.int p1)] [(.long ((-1 : Int64) <<< (p1 &&& 0x3f).toInt64)), (.long q2)]))
      refine GoOn.st (fun t_ k_ => XS.lcmp X0.here hx rfl (hb hby d_method_3_47) rfl k_) ?_
      by_cases hc6 : q2 < ((-1 : Int64) <<< (p1 &&& 0x3f).toInt64)
      · skip
        refine GoOn.st (fun t_ k_ => XS.ifYes X0.here hx rfl (pc0 := 48) (pc' := 55) rfl (hb hby d_method_3_48) rfl ((if0 _ _).trans (tlt ((lw_lt q2 ((-1 : Int64) <<< (p1 &&& 0x3f).toInt64)).mpr hc6)).1) (by decide) (by decide) k_) ?_
        refine GoOn.st (fun t_ k_ => XS.iconst X0.here hx rfl (hb hby d_method_3_55)  k_) ?_
        show GoOn _ _ _ _ (s₁.setTop (mkF m 56 #[.val (.long q1), .second, .val (.long q2), .second, .val (.int p1)] [(.int (0 : Int32))]))
        exact GoOn.retZ X0 hx hlk hret (by simp) rfl (hb hby d_method_3_56) (by rw [e0]; exact ⟨(by unfold own_inr; rw [if_neg hc1, if_pos hc5, if_pos hc6]), rfl, rfl⟩) (by decide) (by decide)
      · skip
        refine GoOn.st (fun t_ k_ => XS.ifNo X0.here hx rfl (hb hby d_method_3_48) rfl ((if0 _ _).trans (flt (fun q => hc6 ((lw_lt q2 ((-1 : Int64) <<< (p1 &&& 0x3f).toInt64)).mp q))).1) k_) ?_
        refine GoOn.st (fun t_ k_ => XS.iconst X0.here hx rfl (hb hby d_method_3_51)  k_) ?_
        refine GoOn.st (fun t_ k_ => XS.goto X0.here hx rfl (pc0 := 52) (pc' := 56) rfl (hb hby d_method_3_52) (by decide) (by decide) k_) ?_
        show GoOn _ _ _ _ (s₁.setTop (mkF m 56 #[.val (.long q1), .second, .val (.long q2), .second, .val (.int p1)] [(.int (1 : Int32))]))
        exact GoOn.retZ X0 hx hlk hret (by simp) rfl (hb hby d_method_3_56) (by rw [e0]; exact ⟨(by unfold own_inr; rw [if_neg hc1, if_pos hc5, if_neg hc6]), rfl, rfl⟩) (by decide) (by decide)
    · skip
      refine GoOn.st (fun t_ k_ => XS.ifYes X0.here hx rfl (pc0 := 37) (pc' := 55) rfl (hb hby d_method_3_37) rfl ((if0 _ _).trans (flt (fun q => hc5 ((lw_lt q2 (0 : Int64)).mp q))).2.1) (by decide) (by decide) k_) ?_
      show GoOn _ _ _ _ (s₁.setTop (mkF m 55 #[.val (.long q1), .second, .val (.long q2), .second, .val (.int p1)] []))
      refine GoOn.st (fun t_ k_ => XS.iconst X0.here hx rfl (hb hby d_method_3_55)  k_) ?_
      show GoOn _ _ _ _ (s₁.setTop (mkF m 56 #[.val (.long q1), .second, .val (.long q2), .second, .val (.int p1)] [(.int (0 : Int32))]))
      exact GoOn.retZ X0 hx hlk hret (by simp) rfl (hb hby d_method_3_56) (by rw [e0]; exact ⟨(by unfold own_inr; rw [if_neg hc1, if_neg hc5]), rfl, rfl⟩) (by decide) (by decide)
theorem ef_law (m : MethodId) (x0 : Int32) (x1 : Int32) (x2 : Int64) (x3 : Int64) (x4 : Int64) : entryFrame m #[(.int x0), (.int x1), (.long x2), (.long x3), (.long x4)] maxLocals = mkF m 0 #[.val (.int x0), .val (.int x1), .val (.long x2), .second, .val (.long x3), .second, .val (.long x4), .second, .unset, .unset, .unset, .unset, .unset, .unset, .unset, .unset, .unset] [] := by first | (simp [entryFrame, mkF, argsToLocals, Value.category, maxLocals]; done) | rfl
theorem pd_9 : parseMethodDescriptor "(JJJ)V" = some ⟨[.long, .long, .long], none⟩ := by decide +kernel
theorem pd_10 : parseMethodDescriptor "(JJI)Z" = some ⟨[.long, .long, .int], some .boolean⟩ := by decide +kernel
theorem pd_11 : parseMethodDescriptor "(I)Z" = some ⟨[.int], some .boolean⟩ := by decide +kernel
theorem pd_12 : parseMethodDescriptor "()V" = some ⟨[], none⟩ := by decide +kernel
theorem pd_13 : parseMethodDescriptor "(JJJJJJ)Lcom/example/nano_embed/nanoembed/geometry/Int384;" = some ⟨[.long, .long, .long, .long, .long, .long], some (.object "com/example/nano_embed/nanoembed/geometry/Int384")⟩ := by decide +kernel
set_option maxRecDepth 65536 in
set_option maxHeartbeats 40000000 in
theorem rm_law (l : Launch) (Z : State) (a0 : Array Value) (hw : ∀ d ∈ tables_1, d.before a0 Z = true) (ws : List Jvm.Cond) (p1 p2 : Int32) (q1 q2 q3 : Int64) (h0 : Heap) (n0 : Nat) (Z0 : n0 ≤ h0.size) :
    OwCon l Z x code maxLocals ret ws room_1 #[(.int p1), (.int p2), (.long q1), (.long q2), (.long q3)] h0 (fun v h L => v = some (.int 1) ∧ Fr n0 L) := by
  refine OwCon.of (plainFor_of_name pn_com_example_nano_embed_nanoembed_geometry_Int384FitsPinLaw) ?_
  intro p e s m below meth cd_ s₁ X0 hx hby hml hret hlk hown hnm hZ e0
  have N0 := Fr.nil n0
  refine GoOn.st (fun t_ k_ => castTop (ef_law m p1 p2 q1 q2 q3) k_) ?_
  show GoOn _ _ _ _ (s₁.setTop (mkF m 0 #[.val (.int p1), .val (.int p2), .val (.long q1), .second, .val (.long q2), .second, .val (.long q3), .second, .unset, .unset, .unset, .unset, .unset, .unset, .unset, .unset, .unset] []))
  refine GoOn.st (fun t_ k_ => XS.bipush X0.here hx rfl (hb hby at_0)  k_) ?_
  refine GoOn.st (fun t_ k_ => XS.iloadN X0.here hx rfl (hb hby at_2) rfl k_) ?_
  refine GoOn.st (fun t_ k_ => XS.bipush X0.here hx rfl (hb hby at_3)  k_) ?_
  refine GoOn.st (fun t_ k_ => XS.iand X0.here hx rfl (hb hby at_5) rfl k_) ?_
  show GoOn _ _ _ _ (s₁.setTop (mkF m 6 #[.val (.int p1), .val (.int p2), .val (.long q1), .second, .val (.long q2), .second, .val (.long q3), .second, .unset, .unset, .unset, .unset, .unset, .unset, .unset, .unset, .unset] [(.int (p2 &&& (127 : Int32))), (.int (64 : Int32))]))
  refine GoOn.st (fun t_ k_ => XS.iadd X0.here hx rfl (hb hby at_6) rfl k_) ?_
  refine GoOn.st (fun t_ k_ => XS.istore X0.here hx rfl (hb hby at_7) rfl (l' := #[.val (.int p1), .val (.int p2), .val (.long q1), .second, .val (.long q2), .second, .val (.long q3), .second, .val (.int ((64 : Int32) + (p2 &&& (127 : Int32)))), .unset, .unset, .unset, .unset, .unset, .unset, .unset, .unset]) rfl k_) ?_
  refine GoOn.st (fun t_ k_ => XS.iloadN X0.here hx rfl (hb hby at_9) rfl k_) ?_
  refine GoOn.st (fun t_ k_ => XS.iconst X0.here hx rfl (hb hby at_10)  k_) ?_
  show GoOn _ _ _ _ (s₁.setTop (mkF m 11 #[.val (.int p1), .val (.int p2), .val (.long q1), .second, .val (.long q2), .second, .val (.long q3), .second, .val (.int ((64 : Int32) + (p2 &&& (127 : Int32)))), .unset, .unset, .unset, .unset, .unset, .unset, .unset, .unset] [(.int (3 : Int32)), (.int p1)]))
  refine GoOn.st (fun t_ k_ => XS.iand X0.here hx rfl (hb hby at_11) rfl k_) ?_
  refine GoOn.st (fun t_ k_ => XS.istore X0.here hx rfl (hb hby at_12) rfl (l' := #[.val (.int p1), .val (.int p2), .val (.long q1), .second, .val (.long q2), .second, .val (.long q3), .second, .val (.int ((64 : Int32) + (p2 &&& (127 : Int32)))), .val (.int (p1 &&& (3 : Int32))), .unset, .unset, .unset, .unset, .unset, .unset, .unset]) rfl k_) ?_
  show GoOn _ _ _ _ (s₁.setTop (mkF m 14 #[.val (.int p1), .val (.int p2), .val (.long q1), .second, .val (.long q2), .second, .val (.long q3), .second, .val (.int ((64 : Int32) + (p2 &&& (127 : Int32)))), .val (.int (p1 &&& (3 : Int32))), .unset, .unset, .unset, .unset, .unset, .unset, .unset] []))
  obtain ⟨b, e_b⟩ : ∃ z : Int32, z = ((64 : Int32) + (p2 &&& (127 : Int32))) := ⟨_, rfl⟩
  rw [← e_b]
  have hB := own_and127 p2
  rw [← e_b] at hB
  show GoOn _ _ _ _ (s₁.setTop (mkF m 14 #[.val (.int p1), .val (.int p2), .val (.long q1), .second, .val (.long q2), .second, .val (.long q3), .second, .val (.int b), .val (.int (p1 &&& (3 : Int32))), .unset, .unset, .unset, .unset, .unset, .unset, .unset] []))
  rcases own_and3 p1 with hk1 | hk1 | hk1 | hk1
  · rw [hk1]
    refine GoOn.st (fun t_ k_ => XS.iload X0.here hx rfl (hb hby at_14) rfl k_) ?_
    refine GoOn.st (fun t_ k_ => XS.ifNo X0.here hx rfl (hb hby at_16) rfl ((if0 _ _).trans (teq (by decide : (0 : Int32) = (0 : Int32))).2) k_) ?_
    obtain ⟨T2, h2, X2, e2, E2, A2, D2, -, st2⟩ := newO X0 hx hZ hown (hw _ (List.mem_of_getElem? (i := 0) rfl)) (hw _ (List.mem_of_getElem? (i := 1) rfl)) (hw _ (List.mem_of_getElem? (i := 2) rfl)) e0 (g := (mkF m 19 #[.val (.int p1), .val (.int p2), .val (.long q1), .second, .val (.long q2), .second, .val (.long q3), .second, .val (.int b), .val (.int (0 : Int32)), .unset, .unset, .unset, .unset, .unset, .unset, .unset] [])) rfl (hb hby at_19) (by decide) (by decide)
    obtain ⟨b2, g2⟩ : ∃ z, z = h0.size := ⟨_, rfl⟩
    rw [← g2] at A2 D2 st2
    have g_b2 : n0 ≤ b2 := Nat.le_trans Z0 (Nat.le_of_eq g2.symm)
    have F_limb0_b2 : Fld Z h2 b2 "com/example/nano_embed/nanoembed/geometry/Int384" "limb0" "J" (.long (0 : Int64)) := D2 (Or.inl (hw _ (List.mem_of_getElem? (i := 10) rfl))) (ty := .long) (by decide)
    have F_limb1_b2 : Fld Z h2 b2 "com/example/nano_embed/nanoembed/geometry/Int384" "limb1" "J" (.long (0 : Int64)) := D2 (Or.inl (hw _ (List.mem_of_getElem? (i := 12) rfl))) (ty := .long) (by decide)
    have F_limb2_b2 : Fld Z h2 b2 "com/example/nano_embed/nanoembed/geometry/Int384" "limb2" "J" (.long (0 : Int64)) := D2 (Or.inl (hw _ (List.mem_of_getElem? (i := 14) rfl))) (ty := .long) (by decide)
    have F_limb3_b2 : Fld Z h2 b2 "com/example/nano_embed/nanoembed/geometry/Int384" "limb3" "J" (.long (0 : Int64)) := D2 (Or.inl (hw _ (List.mem_of_getElem? (i := 16) rfl))) (ty := .long) (by decide)
    have F_limb4_b2 : Fld Z h2 b2 "com/example/nano_embed/nanoembed/geometry/Int384" "limb4" "J" (.long (0 : Int64)) := D2 (Or.inl (hw _ (List.mem_of_getElem? (i := 18) rfl))) (ty := .long) (by decide)
    have F_limb5_b2 : Fld Z h2 b2 "com/example/nano_embed/nanoembed/geometry/Int384" "limb5" "J" (.long (0 : Int64)) := D2 (Or.inl (hw _ (List.mem_of_getElem? (i := 20) rfl))) (ty := .long) (by decide)
    have F_product0_b2 : Fld Z h2 b2 "com/example/nano_embed/nanoembed/geometry/Int384" "product0" "J" (.long (0 : Int64)) := D2 (Or.inl (hw _ (List.mem_of_getElem? (i := 49) rfl))) (ty := .long) (by decide)
    have F_column_b2 : Fld Z h2 b2 "com/example/nano_embed/nanoembed/geometry/Int384" "column" "J" (.long (0 : Int64)) := D2 (Or.inl (hw _ (List.mem_of_getElem? (i := 59) rfl))) (ty := .long) (by decide)
    have F_columnCarries_b2 : Fld Z h2 b2 "com/example/nano_embed/nanoembed/geometry/Int384" "columnCarries" "J" (.long (0 : Int64)) := D2 (Or.inl (hw _ (List.mem_of_getElem? (i := 65) rfl))) (ty := .long) (by decide)
    have F_product1_b2 : Fld Z h2 b2 "com/example/nano_embed/nanoembed/geometry/Int384" "product1" "J" (.long (0 : Int64)) := D2 (Or.inl (hw _ (List.mem_of_getElem? (i := 74) rfl))) (ty := .long) (by decide)
    have F_product2_b2 : Fld Z h2 b2 "com/example/nano_embed/nanoembed/geometry/Int384" "product2" "J" (.long (0 : Int64)) := D2 (Or.inl (hw _ (List.mem_of_getElem? (i := 76) rfl))) (ty := .long) (by decide)
    have F_product3_b2 : Fld Z h2 b2 "com/example/nano_embed/nanoembed/geometry/Int384" "product3" "J" (.long (0 : Int64)) := D2 (Or.inl (hw _ (List.mem_of_getElem? (i := 78) rfl))) (ty := .long) (by decide)
    have F_product4_b2 : Fld Z h2 b2 "com/example/nano_embed/nanoembed/geometry/Int384" "product4" "J" (.long (0 : Int64)) := D2 (Or.inl (hw _ (List.mem_of_getElem? (i := 80) rfl))) (ty := .long) (by decide)
    have F_product5_b2 : Fld Z h2 b2 "com/example/nano_embed/nanoembed/geometry/Int384" "product5" "J" (.long (0 : Int64)) := D2 (Or.inl (hw _ (List.mem_of_getElem? (i := 87) rfl))) (ty := .long) (by decide)
    refine GoOn.st st2 ?_
    show GoOn _ _ _ _ (T2.setTop (mkF m 22 #[.val (.int p1), .val (.int p2), .val (.long q1), .second, .val (.long q2), .second, .val (.long q3), .second, .val (.int b), .val (.int (0 : Int32)), .unset, .unset, .unset, .unset, .unset, .unset, .unset] [(.ref b2)]))
    refine GoOn.st (fun t_ k_ => XS.dup X2.here hx rfl (hb hby at_22) rfl rfl k_) ?_
    refine GoOn.st (fun t_ k_ => XS.lloadN X2.here hx rfl (hb hby at_23) rfl k_) ?_
    refine GoOn.st (fun t_ k_ => XS.lload X2.here hx rfl (hb hby at_24) rfl k_) ?_
    refine GoOn.st (fun t_ k_ => XS.lload X2.here hx rfl (hb hby at_26) rfl k_) ?_
    show GoOn _ _ _ _ (T2.setTop (mkF m 28 #[.val (.int p1), .val (.int p2), .val (.long q1), .second, .val (.long q2), .second, .val (.long q3), .second, .val (.int b), .val (.int (0 : Int32)), .unset, .unset, .unset, .unset, .unset, .unset, .unset] [(.long q3), (.long q2), (.long q1), (.ref b2), (.ref b2)]))
    have I3 : own_I Z h2 b2 (0 : Int64) (0 : Int64) (0 : Int64) (0 : Int64) (0 : Int64) (0 : Int64) (0 : Int64) (0 : Int64) (0 : Int64) (0 : Int64) (0 : Int64) (0 : Int64) (0 : Int64) (0 : Int64) := ⟨A2, F_limb0_b2, F_limb1_b2, F_limb2_b2, F_limb3_b2, F_limb4_b2, F_limb5_b2, F_product0_b2, F_product1_b2, F_product2_b2, F_product3_b2, F_product4_b2, F_product5_b2, F_column_b2, F_columnCarries_b2⟩
    refine GoOn.callC (W := 1) (argsL := [(.long q1), (.long q2), (.long q3)]) (rest := [(.ref b2)]) (a := b2) X2 hx hZ hown rfl (hw _ (List.mem_of_getElem? (i := 3) rfl)) (hw _ (List.mem_of_getElem? (i := 4) rfl)) (hw _ (List.mem_of_getElem? (i := 2) rfl)) (hw _ (List.mem_of_getElem? (i := 5) rfl)) (by decide) (rm_ini3 l Z a0 hw b2 (0 : Int64) (0 : Int64) (0 : Int64) (0 : Int64) (0 : Int64) (0 : Int64) (0 : Int64) (0 : Int64) (0 : Int64) (0 : Int64) (0 : Int64) (0 : Int64) (0 : Int64) (0 : Int64) q1 q2 q3 h2 n0 g_b2 I3) e2 (by decide) (by decide) (by rw [hml]; rfl) pd_9 rfl rfl (Nat.le_of_eq rfl) (hb hby at_28) (by decide) (by decide) ?_
    rintro _ T4 L4 X4 ⟨rfl, N4q, I4⟩
    have N4 := Fr.app N0 N4q
    refine GoOn.st (fun t_ k_ => XS.astore X4.here hx rfl (hb hby at_31) rfl rfl (l' := #[.val (.int p1), .val (.int p2), .val (.long q1), .second, .val (.long q2), .second, .val (.long q3), .second, .val (.int b), .val (.int (0 : Int32)), .val (.ref b2), .unset, .unset, .unset, .unset, .unset, .unset]) rfl k_) ?_
    refine GoOn.st (fun t_ k_ => XS.iload X4.here hx rfl (hb hby at_33) rfl k_) ?_
    refine GoOn.st (fun t_ k_ => XS.sipush X4.here hx rfl (hb hby at_35)  k_) ?_
    show GoOn _ _ _ _ (T4.setTop (mkF m 38 #[.val (.int p1), .val (.int p2), .val (.long q1), .second, .val (.long q2), .second, .val (.long q3), .second, .val (.int b), .val (.int (0 : Int32)), .val (.ref b2), .unset, .unset, .unset, .unset, .unset, .unset] [(.int (128 : Int32)), (.int b)]))
    by_cases hc5 : b < (128 : Int32)
    · skip
      refine GoOn.st (fun t_ k_ => XS.icmpYes X4.here hx rfl (pc0 := 38) (pc' := 60) rfl (hb hby at_38) rfl (tlt hc5).1 (by decide) (by decide) k_) ?_
      refine GoOn.st (fun t_ k_ => XS.lload X4.here hx rfl (hb hby at_60) rfl k_) ?_
      refine GoOn.st (fun t_ k_ => XS.bipush X4.here hx rfl (hb hby at_62)  k_) ?_
      refine GoOn.st (fun t_ k_ => XS.lshr X4.here hx rfl (hb hby at_64) rfl k_) ?_
      show GoOn _ _ _ _ (T4.setTop (mkF m 65 #[.val (.int p1), .val (.int p2), .val (.long q1), .second, .val (.long q2), .second, .val (.long q3), .second, .val (.int b), .val (.int (0 : Int32)), .val (.ref b2), .unset, .unset, .unset, .unset, .unset, .unset] [(.long (q2 >>> ((63 : Int32) &&& 0x3f).toInt64))]))
      refine GoOn.st (fun t_ k_ => XS.lstore X4.here hx rfl (hb hby at_65) rfl (l' := #[.val (.int p1), .val (.int p2), .val (.long q1), .second, .val (.long q2), .second, .val (.long q3), .second, .val (.int b), .val (.int (0 : Int32)), .val (.ref b2), .unset, .val (.long (q2 >>> ((63 : Int32) &&& 0x3f).toInt64)), .second, .unset, .unset, .unset]) rfl k_) ?_
      refine GoOn.st (fun t_ k_ => XS.lloadN X4.here hx rfl (hb hby at_67) rfl k_) ?_
      refine GoOn.st (fun t_ k_ => XS.lload X4.here hx rfl (hb hby at_68) rfl k_) ?_
      refine GoOn.st (fun t_ k_ => XS.lcmp X4.here hx rfl (hb hby at_70) rfl k_) ?_
      show GoOn _ _ _ _ (T4.setTop (mkF m 71 #[.val (.int p1), .val (.int p2), .val (.long q1), .second, .val (.long q2), .second, .val (.long q3), .second, .val (.int b), .val (.int (0 : Int32)), .val (.ref b2), .unset, .val (.long (q2 >>> ((63 : Int32) &&& 0x3f).toInt64)), .second, .unset, .unset, .unset] [(.int (lcmpW q1 (q2 >>> ((63 : Int32) &&& 0x3f).toInt64)))]))
      by_cases hc6 : q1 = (q2 >>> ((63 : Int32) &&& 0x3f).toInt64)
      · skip
        refine GoOn.st (fun t_ k_ => XS.ifNo X4.here hx rfl (hb hby at_71) rfl ((if0 _ _).trans (teq ((lw_eq q1 (q2 >>> ((63 : Int32) &&& 0x3f).toInt64)).mpr hc6)).2) k_) ?_
        refine GoOn.st (fun t_ k_ => XS.lload X4.here hx rfl (hb hby at_74) rfl k_) ?_
        refine GoOn.st (fun t_ k_ => XS.lload X4.here hx rfl (hb hby at_76) rfl k_) ?_
        refine GoOn.st (fun t_ k_ => XS.iload X4.here hx rfl (hb hby at_78) rfl k_) ?_
        show GoOn _ _ _ _ (T4.setTop (mkF m 80 #[.val (.int p1), .val (.int p2), .val (.long q1), .second, .val (.long q2), .second, .val (.long q3), .second, .val (.int b), .val (.int (0 : Int32)), .val (.ref b2), .unset, .val (.long (q2 >>> ((63 : Int32) &&& 0x3f).toInt64)), .second, .unset, .unset, .unset] [(.int b), (.long q2), (.long (q2 >>> ((63 : Int32) &&& 0x3f).toInt64))]))
        refine GoOn.st (fun t_ k_ => XS.bipush X4.here hx rfl (hb hby at_80)  k_) ?_
        refine GoOn.st (fun t_ k_ => XS.isub X4.here hx rfl (hb hby at_82) rfl k_) ?_
        show GoOn _ _ _ _ (T4.setTop (mkF m 83 #[.val (.int p1), .val (.int p2), .val (.long q1), .second, .val (.long q2), .second, .val (.long q3), .second, .val (.int b), .val (.int (0 : Int32)), .val (.ref b2), .unset, .val (.long (q2 >>> ((63 : Int32) &&& 0x3f).toInt64)), .second, .unset, .unset, .unset] [(.int (b - (64 : Int32))), (.long q2), (.long (q2 >>> ((63 : Int32) &&& 0x3f).toInt64))]))
        refine GoOn.callS (W := 0) (argsL := [(.long (q2 >>> ((63 : Int32) &&& 0x3f).toInt64)), (.long q2), (.int (b - (64 : Int32)))]) (rest := []) X4 hx hZ hown (hw _ (List.mem_of_getElem? (i := 92) rfl)) (hw _ (List.mem_of_getElem? (i := 93) rfl)) (hw _ (List.mem_of_getElem? (i := 94) rfl)) (hw _ (List.mem_of_getElem? (i := 95) rfl)) (by decide) (rm_inr l Z a0 hw (q2 >>> ((63 : Int32) &&& 0x3f).toInt64) q2 (b - (64 : Int32)) T4.heap) rfl (by decide) (by decide) (by rw [hml]; rfl) pd_10 rfl rfl (Nat.le_of_eq rfl) (hb hby at_83) (by decide) (by decide) ?_
        rintro _ T7 L7 X7 ⟨rfl, rfl, e7⟩
        rw [List.append_nil] at X7
        have dm8 : ∀ zz : Int32, zz = (if (own_inr (q2 >>> ((63 : Int32) &&& 0x3f).toInt64) q2 (b - (64 : Int32))) = (0 : Int32) then (0 : Int32) else (1 : Int32)) → ∀ t_, Steps p.tables e below (T7.setTop (mkF m 94 #[.val (.int p1), .val (.int p2), .val (.long q1), .second, .val (.long q2), .second, .val (.long q3), .second, .val (.int b), .val (.int (0 : Int32)), .val (.ref b2), .unset, .val (.long (q2 >>> ((63 : Int32) &&& 0x3f).toInt64)), .second, .unset, .unset, .unset] [(.int zz)])) t_ → Steps p.tables e below (T7.setTop (mkF m 86 #[.val (.int p1), .val (.int p2), .val (.long q1), .second, .val (.long q2), .second, .val (.long q3), .second, .val (.int b), .val (.int (0 : Int32)), .val (.ref b2), .unset, .val (.long (q2 >>> ((63 : Int32) &&& 0x3f).toInt64)), .second, .unset, .unset, .unset] [(.int (own_inr (q2 >>> ((63 : Int32) &&& 0x3f).toInt64) q2 (b - (64 : Int32))))])) t_ := by
          intro zz hzz t_ k_; by_cases hc : (own_inr (q2 >>> ((63 : Int32) &&& 0x3f).toInt64) q2 (b - (64 : Int32))) = (0 : Int32)
          · rw [hzz.trans (if_pos hc)] at k_
            refine XS.ifYes X7.here hx rfl (pc0 := 86) (pc' := 93) rfl (hb hby at_86) rfl ((if0 _ _).trans (teq hc).1) (by decide) (by decide) ?_
            show Steps _ _ _ (T7.setTop (mkF m 93 #[.val (.int p1), .val (.int p2), .val (.long q1), .second, .val (.long q2), .second, .val (.long q3), .second, .val (.int b), .val (.int (0 : Int32)), .val (.ref b2), .unset, .val (.long (q2 >>> ((63 : Int32) &&& 0x3f).toInt64)), .second, .unset, .unset, .unset] [])) _
            exact XS.iconst X7.here hx rfl (hb hby at_93) k_
          · rw [hzz.trans (if_neg hc)] at k_
            refine XS.ifNo X7.here hx rfl (hb hby at_86) rfl ((if0 _ _).trans (feq hc).1) ?_
            show Steps _ _ _ (T7.setTop (mkF m 89 #[.val (.int p1), .val (.int p2), .val (.long q1), .second, .val (.long q2), .second, .val (.long q3), .second, .val (.int b), .val (.int (0 : Int32)), .val (.ref b2), .unset, .val (.long (q2 >>> ((63 : Int32) &&& 0x3f).toInt64)), .second, .unset, .unset, .unset] [])) _
            refine XS.iconst X7.here hx rfl (hb hby at_89) ?_
            show Steps _ _ _ (T7.setTop (mkF m 90 #[.val (.int p1), .val (.int p2), .val (.long q1), .second, .val (.long q2), .second, .val (.long q3), .second, .val (.int b), .val (.int (0 : Int32)), .val (.ref b2), .unset, .val (.long (q2 >>> ((63 : Int32) &&& 0x3f).toInt64)), .second, .unset, .unset, .unset] [(.int (1 : Int32))])) _
            exact XS.goto X7.here hx rfl (pc0 := 90) (pc' := 94) rfl (hb hby at_90) (by decide) (by decide) k_
        refine GoOn.st (dm8 _ rfl) ?_
        refine GoOn.st (fun t_ k_ => XS.istore X7.here hx rfl (hb hby at_94) rfl (l' := #[.val (.int p1), .val (.int p2), .val (.long q1), .second, .val (.long q2), .second, .val (.long q3), .second, .val (.int b), .val (.int (0 : Int32)), .val (.ref b2), .val (.int (if (own_inr (q2 >>> ((63 : Int32) &&& 0x3f).toInt64) q2 (b - (64 : Int32))) = (0 : Int32) then (0 : Int32) else (1 : Int32))), .val (.long (q2 >>> ((63 : Int32) &&& 0x3f).toInt64)), .second, .unset, .unset, .unset]) rfl k_) ?_
        refine GoOn.st (fun t_ k_ => XS.goto X7.here hx rfl (pc0 := 96) (pc' := 280) rfl (hb hby at_96) (by decide) (by decide) k_) ?_
        show GoOn _ _ _ _ (T7.setTop (mkF m 280 #[.val (.int p1), .val (.int p2), .val (.long q1), .second, .val (.long q2), .second, .val (.long q3), .second, .val (.int b), .val (.int (0 : Int32)), .val (.ref b2), .val (.int (if (own_inr (q2 >>> ((63 : Int32) &&& 0x3f).toInt64) q2 (b - (64 : Int32))) = (0 : Int32) then (0 : Int32) else (1 : Int32))), .val (.long (q2 >>> ((63 : Int32) &&& 0x3f).toInt64)), .second, .unset, .unset, .unset] []))
        refine GoOn.st (fun t_ k_ => XS.aload X7.here hx rfl (hb hby at_280) rfl rfl k_) ?_
        refine GoOn.st (fun t_ k_ => XS.iload X7.here hx rfl (hb hby at_282) rfl k_) ?_
        show GoOn _ _ _ _ (T7.setTop (mkF m 284 #[.val (.int p1), .val (.int p2), .val (.long q1), .second, .val (.long q2), .second, .val (.long q3), .second, .val (.int b), .val (.int (0 : Int32)), .val (.ref b2), .val (.int (if (own_inr (q2 >>> ((63 : Int32) &&& 0x3f).toInt64) q2 (b - (64 : Int32))) = (0 : Int32) then (0 : Int32) else (1 : Int32))), .val (.long (q2 >>> ((63 : Int32) &&& 0x3f).toInt64)), .second, .unset, .unset, .unset] [(.int b), (.ref b2)]))
        refine GoOn.callV (W := 0) (argsL := [(.int b)]) (rest := []) (a := b2) X7 hx hZ hown (hw _ (List.mem_of_getElem? (i := 21) rfl)) (hw _ (List.mem_of_getElem? (i := 22) rfl)) (notFace_of_selects (args := #[]) (mvT hZ (hw _ (List.mem_of_getElem? (i := 24) rfl)))) (hw _ (List.mem_of_getElem? (i := 24) rfl)) (hw _ (List.mem_of_getElem? (i := 23) rfl)) (hw _ (List.mem_of_getElem? (i := 2) rfl)) (hw _ (List.mem_of_getElem? (i := 25) rfl)) (by decide) (rm_fits l Z a0 hw b2 q3 q2 q1 (own_sg q1) (own_sg q1) (own_sg q1) (0 : Int64) (0 : Int64) (0 : Int64) (0 : Int64) (0 : Int64) (0 : Int64) (0 : Int64) (0 : Int64) b T4.heap I4) e7 (own_I_exa I4) (by decide) (by decide) (by rw [hml]; rfl) pd_11 rfl rfl (Nat.le_of_eq rfl) (hb hby at_284) (by decide) (by decide) ?_
        rintro _ T9 L9 X9 ⟨rfl, rfl, e9⟩
        rw [List.append_nil] at X9
        refine GoOn.st (fun t_ k_ => XS.iload X9.here hx rfl (hb hby at_287) rfl k_) ?_
        refine GoOn.st (fun t_ k_ => XS.icmpNo X9.here hx rfl (hb hby at_289) rfl (teq ((own_law0' hB hc5).trans (if_pos (show q1 = own_sg q2 from hc6)))).2 k_) ?_
        refine GoOn.st (fun t_ k_ => XS.iconst X9.here hx rfl (hb hby at_292)  k_) ?_
        show GoOn _ _ _ _ (T9.setTop (mkF m 293 #[.val (.int p1), .val (.int p2), .val (.long q1), .second, .val (.long q2), .second, .val (.long q3), .second, .val (.int b), .val (.int (0 : Int32)), .val (.ref b2), .val (.int (if (own_inr (q2 >>> ((63 : Int32) &&& 0x3f).toInt64) q2 (b - (64 : Int32))) = (0 : Int32) then (0 : Int32) else (1 : Int32))), .val (.long (q2 >>> ((63 : Int32) &&& 0x3f).toInt64)), .second, .unset, .unset, .unset] [(.int (1 : Int32))]))
        refine GoOn.st (fun t_ k_ => XS.goto X9.here hx rfl (pc0 := 293) (pc' := 297) rfl (hb hby at_293) (by decide) (by decide) k_) ?_
        show GoOn _ _ _ _ (T9.setTop (mkF m 297 #[.val (.int p1), .val (.int p2), .val (.long q1), .second, .val (.long q2), .second, .val (.long q3), .second, .val (.int b), .val (.int (0 : Int32)), .val (.ref b2), .val (.int (if (own_inr (q2 >>> ((63 : Int32) &&& 0x3f).toInt64) q2 (b - (64 : Int32))) = (0 : Int32) then (0 : Int32) else (1 : Int32))), .val (.long (q2 >>> ((63 : Int32) &&& 0x3f).toInt64)), .second, .unset, .unset, .unset] [(.int (1 : Int32))]))
        exact GoOn.retZ X9 hx hlk hret (by simp) rfl (hb hby at_297) ⟨rfl, N4⟩ (by decide) (by decide)
      · skip
        refine GoOn.st (fun t_ k_ => XS.ifYes X4.here hx rfl (pc0 := 71) (pc' := 93) rfl (hb hby at_71) rfl ((if0 _ _).trans (feq (fun q => hc6 ((lw_eq q1 (q2 >>> ((63 : Int32) &&& 0x3f).toInt64)).mp q))).2) (by decide) (by decide) k_) ?_
        refine GoOn.st (fun t_ k_ => XS.iconst X4.here hx rfl (hb hby at_93)  k_) ?_
        refine GoOn.st (fun t_ k_ => XS.istore X4.here hx rfl (hb hby at_94) rfl (l' := #[.val (.int p1), .val (.int p2), .val (.long q1), .second, .val (.long q2), .second, .val (.long q3), .second, .val (.int b), .val (.int (0 : Int32)), .val (.ref b2), .val (.int (0 : Int32)), .val (.long (q2 >>> ((63 : Int32) &&& 0x3f).toInt64)), .second, .unset, .unset, .unset]) rfl k_) ?_
        refine GoOn.st (fun t_ k_ => XS.goto X4.here hx rfl (pc0 := 96) (pc' := 280) rfl (hb hby at_96) (by decide) (by decide) k_) ?_
        show GoOn _ _ _ _ (T4.setTop (mkF m 280 #[.val (.int p1), .val (.int p2), .val (.long q1), .second, .val (.long q2), .second, .val (.long q3), .second, .val (.int b), .val (.int (0 : Int32)), .val (.ref b2), .val (.int (0 : Int32)), .val (.long (q2 >>> ((63 : Int32) &&& 0x3f).toInt64)), .second, .unset, .unset, .unset] []))
        refine GoOn.st (fun t_ k_ => XS.aload X4.here hx rfl (hb hby at_280) rfl rfl k_) ?_
        refine GoOn.st (fun t_ k_ => XS.iload X4.here hx rfl (hb hby at_282) rfl k_) ?_
        show GoOn _ _ _ _ (T4.setTop (mkF m 284 #[.val (.int p1), .val (.int p2), .val (.long q1), .second, .val (.long q2), .second, .val (.long q3), .second, .val (.int b), .val (.int (0 : Int32)), .val (.ref b2), .val (.int (0 : Int32)), .val (.long (q2 >>> ((63 : Int32) &&& 0x3f).toInt64)), .second, .unset, .unset, .unset] [(.int b), (.ref b2)]))
        refine GoOn.callV (W := 0) (argsL := [(.int b)]) (rest := []) (a := b2) X4 hx hZ hown (hw _ (List.mem_of_getElem? (i := 21) rfl)) (hw _ (List.mem_of_getElem? (i := 22) rfl)) (notFace_of_selects (args := #[]) (mvT hZ (hw _ (List.mem_of_getElem? (i := 24) rfl)))) (hw _ (List.mem_of_getElem? (i := 24) rfl)) (hw _ (List.mem_of_getElem? (i := 23) rfl)) (hw _ (List.mem_of_getElem? (i := 2) rfl)) (hw _ (List.mem_of_getElem? (i := 25) rfl)) (by decide) (rm_fits l Z a0 hw b2 q3 q2 q1 (own_sg q1) (own_sg q1) (own_sg q1) (0 : Int64) (0 : Int64) (0 : Int64) (0 : Int64) (0 : Int64) (0 : Int64) (0 : Int64) (0 : Int64) b T4.heap I4) rfl (own_I_exa I4) (by decide) (by decide) (by rw [hml]; rfl) pd_11 rfl rfl (Nat.le_of_eq rfl) (hb hby at_284) (by decide) (by decide) ?_
        rintro _ T10 L10 X10 ⟨rfl, rfl, e10⟩
        rw [List.append_nil] at X10
        refine GoOn.st (fun t_ k_ => XS.iload X10.here hx rfl (hb hby at_287) rfl k_) ?_
        refine GoOn.st (fun t_ k_ => XS.icmpNo X10.here hx rfl (hb hby at_289) rfl (teq ((own_law0' hB hc5).trans (if_neg (show ¬ q1 = own_sg q2 from hc6)))).2 k_) ?_
        refine GoOn.st (fun t_ k_ => XS.iconst X10.here hx rfl (hb hby at_292)  k_) ?_
        show GoOn _ _ _ _ (T10.setTop (mkF m 293 #[.val (.int p1), .val (.int p2), .val (.long q1), .second, .val (.long q2), .second, .val (.long q3), .second, .val (.int b), .val (.int (0 : Int32)), .val (.ref b2), .val (.int (0 : Int32)), .val (.long (q2 >>> ((63 : Int32) &&& 0x3f).toInt64)), .second, .unset, .unset, .unset] [(.int (1 : Int32))]))
        refine GoOn.st (fun t_ k_ => XS.goto X10.here hx rfl (pc0 := 293) (pc' := 297) rfl (hb hby at_293) (by decide) (by decide) k_) ?_
        show GoOn _ _ _ _ (T10.setTop (mkF m 297 #[.val (.int p1), .val (.int p2), .val (.long q1), .second, .val (.long q2), .second, .val (.long q3), .second, .val (.int b), .val (.int (0 : Int32)), .val (.ref b2), .val (.int (0 : Int32)), .val (.long (q2 >>> ((63 : Int32) &&& 0x3f).toInt64)), .second, .unset, .unset, .unset] [(.int (1 : Int32))]))
        exact GoOn.retZ X10 hx hlk hret (by simp) rfl (hb hby at_297) ⟨rfl, N4⟩ (by decide) (by decide)
    · skip
      refine GoOn.st (fun t_ k_ => XS.icmpNo X4.here hx rfl (hb hby at_38) rfl (flt hc5).1 k_) ?_
      refine GoOn.st (fun t_ k_ => XS.lloadN X4.here hx rfl (hb hby at_41) rfl k_) ?_
      refine GoOn.st (fun t_ k_ => XS.bipush X4.here hx rfl (hb hby at_42)  k_) ?_
      refine GoOn.st (fun t_ k_ => XS.lshr X4.here hx rfl (hb hby at_44) rfl k_) ?_
      show GoOn _ _ _ _ (T4.setTop (mkF m 45 #[.val (.int p1), .val (.int p2), .val (.long q1), .second, .val (.long q2), .second, .val (.long q3), .second, .val (.int b), .val (.int (0 : Int32)), .val (.ref b2), .unset, .unset, .unset, .unset, .unset, .unset] [(.long (q1 >>> ((63 : Int32) &&& 0x3f).toInt64))]))
      refine GoOn.st (fun t_ k_ => XS.lloadN X4.here hx rfl (hb hby at_45) rfl k_) ?_
      refine GoOn.st (fun t_ k_ => XS.iload X4.here hx rfl (hb hby at_46) rfl k_) ?_
      refine GoOn.st (fun t_ k_ => XS.sipush X4.here hx rfl (hb hby at_48)  k_) ?_
      refine GoOn.st (fun t_ k_ => XS.isub X4.here hx rfl (hb hby at_51) rfl k_) ?_
      show GoOn _ _ _ _ (T4.setTop (mkF m 52 #[.val (.int p1), .val (.int p2), .val (.long q1), .second, .val (.long q2), .second, .val (.long q3), .second, .val (.int b), .val (.int (0 : Int32)), .val (.ref b2), .unset, .unset, .unset, .unset, .unset, .unset] [(.int (b - (128 : Int32))), (.long q1), (.long (q1 >>> ((63 : Int32) &&& 0x3f).toInt64))]))
      refine GoOn.callS (W := 0) (argsL := [(.long (q1 >>> ((63 : Int32) &&& 0x3f).toInt64)), (.long q1), (.int (b - (128 : Int32)))]) (rest := []) X4 hx hZ hown (hw _ (List.mem_of_getElem? (i := 92) rfl)) (hw _ (List.mem_of_getElem? (i := 93) rfl)) (hw _ (List.mem_of_getElem? (i := 94) rfl)) (hw _ (List.mem_of_getElem? (i := 95) rfl)) (by decide) (rm_inr l Z a0 hw (q1 >>> ((63 : Int32) &&& 0x3f).toInt64) q1 (b - (128 : Int32)) T4.heap) rfl (by decide) (by decide) (by rw [hml]; rfl) pd_10 rfl rfl (Nat.le_of_eq rfl) (hb hby at_52) (by decide) (by decide) ?_
      rintro _ T11 L11 X11 ⟨rfl, rfl, e11⟩
      rw [List.append_nil] at X11
      refine GoOn.st (fun t_ k_ => XS.istore X11.here hx rfl (hb hby at_55) rfl (l' := #[.val (.int p1), .val (.int p2), .val (.long q1), .second, .val (.long q2), .second, .val (.long q3), .second, .val (.int b), .val (.int (0 : Int32)), .val (.ref b2), .val (.int (own_inr (q1 >>> ((63 : Int32) &&& 0x3f).toInt64) q1 (b - (128 : Int32)))), .unset, .unset, .unset, .unset, .unset]) rfl k_) ?_
      refine GoOn.st (fun t_ k_ => XS.goto X11.here hx rfl (pc0 := 57) (pc' := 280) rfl (hb hby at_57) (by decide) (by decide) k_) ?_
      refine GoOn.st (fun t_ k_ => XS.aload X11.here hx rfl (hb hby at_280) rfl rfl k_) ?_
      show GoOn _ _ _ _ (T11.setTop (mkF m 282 #[.val (.int p1), .val (.int p2), .val (.long q1), .second, .val (.long q2), .second, .val (.long q3), .second, .val (.int b), .val (.int (0 : Int32)), .val (.ref b2), .val (.int (own_inr (q1 >>> ((63 : Int32) &&& 0x3f).toInt64) q1 (b - (128 : Int32)))), .unset, .unset, .unset, .unset, .unset] [(.ref b2)]))
      refine GoOn.st (fun t_ k_ => XS.iload X11.here hx rfl (hb hby at_282) rfl k_) ?_
      show GoOn _ _ _ _ (T11.setTop (mkF m 284 #[.val (.int p1), .val (.int p2), .val (.long q1), .second, .val (.long q2), .second, .val (.long q3), .second, .val (.int b), .val (.int (0 : Int32)), .val (.ref b2), .val (.int (own_inr (q1 >>> ((63 : Int32) &&& 0x3f).toInt64) q1 (b - (128 : Int32)))), .unset, .unset, .unset, .unset, .unset] [(.int b), (.ref b2)]))
      refine GoOn.callV (W := 0) (argsL := [(.int b)]) (rest := []) (a := b2) X11 hx hZ hown (hw _ (List.mem_of_getElem? (i := 21) rfl)) (hw _ (List.mem_of_getElem? (i := 22) rfl)) (notFace_of_selects (args := #[]) (mvT hZ (hw _ (List.mem_of_getElem? (i := 24) rfl)))) (hw _ (List.mem_of_getElem? (i := 24) rfl)) (hw _ (List.mem_of_getElem? (i := 23) rfl)) (hw _ (List.mem_of_getElem? (i := 2) rfl)) (hw _ (List.mem_of_getElem? (i := 25) rfl)) (by decide) (rm_fits l Z a0 hw b2 q3 q2 q1 (own_sg q1) (own_sg q1) (own_sg q1) (0 : Int64) (0 : Int64) (0 : Int64) (0 : Int64) (0 : Int64) (0 : Int64) (0 : Int64) (0 : Int64) b T4.heap I4) e11 (own_I_exa I4) (by decide) (by decide) (by rw [hml]; rfl) pd_11 rfl rfl (Nat.le_of_eq rfl) (hb hby at_284) (by decide) (by decide) ?_
      rintro _ T12 L12 X12 ⟨rfl, rfl, e12⟩
      rw [List.append_nil] at X12
      refine GoOn.st (fun t_ k_ => XS.iload X12.here hx rfl (hb hby at_287) rfl k_) ?_
      refine GoOn.st (fun t_ k_ => XS.icmpNo X12.here hx rfl (hb hby at_289) rfl (teq (own_law0 hB hc5)).2 k_) ?_
      refine GoOn.st (fun t_ k_ => XS.iconst X12.here hx rfl (hb hby at_292)  k_) ?_
      show GoOn _ _ _ _ (T12.setTop (mkF m 293 #[.val (.int p1), .val (.int p2), .val (.long q1), .second, .val (.long q2), .second, .val (.long q3), .second, .val (.int b), .val (.int (0 : Int32)), .val (.ref b2), .val (.int (own_inr (q1 >>> ((63 : Int32) &&& 0x3f).toInt64) q1 (b - (128 : Int32)))), .unset, .unset, .unset, .unset, .unset] [(.int (1 : Int32))]))
      refine GoOn.st (fun t_ k_ => XS.goto X12.here hx rfl (pc0 := 293) (pc' := 297) rfl (hb hby at_293) (by decide) (by decide) k_) ?_
      show GoOn _ _ _ _ (T12.setTop (mkF m 297 #[.val (.int p1), .val (.int p2), .val (.long q1), .second, .val (.long q2), .second, .val (.long q3), .second, .val (.int b), .val (.int (0 : Int32)), .val (.ref b2), .val (.int (own_inr (q1 >>> ((63 : Int32) &&& 0x3f).toInt64) q1 (b - (128 : Int32)))), .unset, .unset, .unset, .unset, .unset] [(.int (1 : Int32))]))
      exact GoOn.retZ X12 hx hlk hret (by simp) rfl (hb hby at_297) ⟨rfl, N4⟩ (by decide) (by decide)
  · rw [hk1]
    refine GoOn.st (fun t_ k_ => XS.iload X0.here hx rfl (hb hby at_14) rfl k_) ?_
    refine GoOn.st (fun t_ k_ => XS.ifYes X0.here hx rfl (pc0 := 16) (pc' := 99) rfl (hb hby at_16) rfl ((if0 _ _).trans (feq (by decide : ¬ ((1 : Int32) = (0 : Int32)))).2) (by decide) (by decide) k_) ?_
    refine GoOn.st (fun t_ k_ => XS.iload X0.here hx rfl (hb hby at_99) rfl k_) ?_
    show GoOn _ _ _ _ (s₁.setTop (mkF m 101 #[.val (.int p1), .val (.int p2), .val (.long q1), .second, .val (.long q2), .second, .val (.long q3), .second, .val (.int b), .val (.int (1 : Int32)), .unset, .unset, .unset, .unset, .unset, .unset, .unset] [(.int (1 : Int32))]))
    refine GoOn.st (fun t_ k_ => XS.iconst X0.here hx rfl (hb hby at_101)  k_) ?_
    refine GoOn.st (fun t_ k_ => XS.icmpNo X0.here hx rfl (hb hby at_102) rfl (teq (by decide : (1 : Int32) = (1 : Int32))).2 k_) ?_
    refine GoOn.st (fun t_ k_ => XS.lloadN X0.here hx rfl (hb hby at_105) rfl k_) ?_
    refine GoOn.st (fun t_ k_ => XS.iconst X0.here hx rfl (hb hby at_106)  k_) ?_
    show GoOn _ _ _ _ (s₁.setTop (mkF m 107 #[.val (.int p1), .val (.int p2), .val (.long q1), .second, .val (.long q2), .second, .val (.long q3), .second, .val (.int b), .val (.int (1 : Int32)), .unset, .unset, .unset, .unset, .unset, .unset, .unset] [(.int (3 : Int32)), (.long q1)]))
    refine GoOn.st (fun t_ k_ => XS.lshr X0.here hx rfl (hb hby at_107) rfl k_) ?_
    refine GoOn.st (fun t_ k_ => XS.lstore X0.here hx rfl (hb hby at_108) rfl (l' := #[.val (.int p1), .val (.int p2), .val (.long q1), .second, .val (.long q2), .second, .val (.long q3), .second, .val (.int b), .val (.int (1 : Int32)), .unset, .unset, .val (.long (q1 >>> ((3 : Int32) &&& 0x3f).toInt64)), .second, .unset, .unset, .unset]) rfl k_) ?_
    show GoOn _ _ _ _ (s₁.setTop (mkF m 110 #[.val (.int p1), .val (.int p2), .val (.long q1), .second, .val (.long q2), .second, .val (.long q3), .second, .val (.int b), .val (.int (1 : Int32)), .unset, .unset, .val (.long (q1 >>> ((3 : Int32) &&& 0x3f).toInt64)), .second, .unset, .unset, .unset] []))
    obtain ⟨y2, e_y2⟩ : ∃ z : Int64, z = (q1 >>> ((3 : Int32) &&& 0x3f).toInt64) := ⟨_, rfl⟩
    rw [← e_y2]
    obtain ⟨T13, h13, X13, e13, E13, A13, D13, -, st13⟩ := newO X0 hx hZ hown (hw _ (List.mem_of_getElem? (i := 0) rfl)) (hw _ (List.mem_of_getElem? (i := 1) rfl)) (hw _ (List.mem_of_getElem? (i := 2) rfl)) e0 (g := (mkF m 110 #[.val (.int p1), .val (.int p2), .val (.long q1), .second, .val (.long q2), .second, .val (.long q3), .second, .val (.int b), .val (.int (1 : Int32)), .unset, .unset, .val (.long y2), .second, .unset, .unset, .unset] [])) rfl (hb hby at_110) (by decide) (by decide)
    obtain ⟨b13, g13⟩ : ∃ z, z = h0.size := ⟨_, rfl⟩
    rw [← g13] at A13 D13 st13
    have g_b13 : n0 ≤ b13 := Nat.le_trans Z0 (Nat.le_of_eq g13.symm)
    have F_limb0_b13 : Fld Z h13 b13 "com/example/nano_embed/nanoembed/geometry/Int384" "limb0" "J" (.long (0 : Int64)) := D13 (Or.inl (hw _ (List.mem_of_getElem? (i := 10) rfl))) (ty := .long) (by decide)
    have F_limb1_b13 : Fld Z h13 b13 "com/example/nano_embed/nanoembed/geometry/Int384" "limb1" "J" (.long (0 : Int64)) := D13 (Or.inl (hw _ (List.mem_of_getElem? (i := 12) rfl))) (ty := .long) (by decide)
    have F_limb2_b13 : Fld Z h13 b13 "com/example/nano_embed/nanoembed/geometry/Int384" "limb2" "J" (.long (0 : Int64)) := D13 (Or.inl (hw _ (List.mem_of_getElem? (i := 14) rfl))) (ty := .long) (by decide)
    have F_limb3_b13 : Fld Z h13 b13 "com/example/nano_embed/nanoembed/geometry/Int384" "limb3" "J" (.long (0 : Int64)) := D13 (Or.inl (hw _ (List.mem_of_getElem? (i := 16) rfl))) (ty := .long) (by decide)
    have F_limb4_b13 : Fld Z h13 b13 "com/example/nano_embed/nanoembed/geometry/Int384" "limb4" "J" (.long (0 : Int64)) := D13 (Or.inl (hw _ (List.mem_of_getElem? (i := 18) rfl))) (ty := .long) (by decide)
    have F_limb5_b13 : Fld Z h13 b13 "com/example/nano_embed/nanoembed/geometry/Int384" "limb5" "J" (.long (0 : Int64)) := D13 (Or.inl (hw _ (List.mem_of_getElem? (i := 20) rfl))) (ty := .long) (by decide)
    have F_product0_b13 : Fld Z h13 b13 "com/example/nano_embed/nanoembed/geometry/Int384" "product0" "J" (.long (0 : Int64)) := D13 (Or.inl (hw _ (List.mem_of_getElem? (i := 49) rfl))) (ty := .long) (by decide)
    have F_column_b13 : Fld Z h13 b13 "com/example/nano_embed/nanoembed/geometry/Int384" "column" "J" (.long (0 : Int64)) := D13 (Or.inl (hw _ (List.mem_of_getElem? (i := 59) rfl))) (ty := .long) (by decide)
    have F_columnCarries_b13 : Fld Z h13 b13 "com/example/nano_embed/nanoembed/geometry/Int384" "columnCarries" "J" (.long (0 : Int64)) := D13 (Or.inl (hw _ (List.mem_of_getElem? (i := 65) rfl))) (ty := .long) (by decide)
    have F_product1_b13 : Fld Z h13 b13 "com/example/nano_embed/nanoembed/geometry/Int384" "product1" "J" (.long (0 : Int64)) := D13 (Or.inl (hw _ (List.mem_of_getElem? (i := 74) rfl))) (ty := .long) (by decide)
    have F_product2_b13 : Fld Z h13 b13 "com/example/nano_embed/nanoembed/geometry/Int384" "product2" "J" (.long (0 : Int64)) := D13 (Or.inl (hw _ (List.mem_of_getElem? (i := 76) rfl))) (ty := .long) (by decide)
    have F_product3_b13 : Fld Z h13 b13 "com/example/nano_embed/nanoembed/geometry/Int384" "product3" "J" (.long (0 : Int64)) := D13 (Or.inl (hw _ (List.mem_of_getElem? (i := 78) rfl))) (ty := .long) (by decide)
    have F_product4_b13 : Fld Z h13 b13 "com/example/nano_embed/nanoembed/geometry/Int384" "product4" "J" (.long (0 : Int64)) := D13 (Or.inl (hw _ (List.mem_of_getElem? (i := 80) rfl))) (ty := .long) (by decide)
    have F_product5_b13 : Fld Z h13 b13 "com/example/nano_embed/nanoembed/geometry/Int384" "product5" "J" (.long (0 : Int64)) := D13 (Or.inl (hw _ (List.mem_of_getElem? (i := 87) rfl))) (ty := .long) (by decide)
    refine GoOn.st st13 ?_
    refine GoOn.st (fun t_ k_ => XS.dup X13.here hx rfl (hb hby at_113) rfl rfl k_) ?_
    show GoOn _ _ _ _ (T13.setTop (mkF m 114 #[.val (.int p1), .val (.int p2), .val (.long q1), .second, .val (.long q2), .second, .val (.long q3), .second, .val (.int b), .val (.int (1 : Int32)), .unset, .unset, .val (.long y2), .second, .unset, .unset, .unset] [(.ref b13), (.ref b13)]))
    refine GoOn.callC (W := 1) (argsL := []) (rest := [(.ref b13)]) (a := b13) X13 hx hZ hown rfl (hw _ (List.mem_of_getElem? (i := 26) rfl)) (hw _ (List.mem_of_getElem? (i := 27) rfl)) (hw _ (List.mem_of_getElem? (i := 2) rfl)) (hw _ (List.mem_of_getElem? (i := 28) rfl)) (by decide) (rm_init l Z a0 hw b13 h13) e13 (by decide) (by decide) (by rw [hml]; rfl) pd_12 rfl rfl (Nat.le_of_eq rfl) (hb hby at_114) (by decide) (by decide) ?_
    rintro _ T14 L14 X14 ⟨rfl, rfl, e14⟩
    rw [List.append_nil] at X14
    refine GoOn.st (fun t_ k_ => XS.astore X14.here hx rfl (hb hby at_117) rfl rfl (l' := #[.val (.int p1), .val (.int p2), .val (.long q1), .second, .val (.long q2), .second, .val (.long q3), .second, .val (.int b), .val (.int (1 : Int32)), .val (.ref b13), .unset, .val (.long y2), .second, .unset, .unset, .unset]) rfl k_) ?_
    refine GoOn.st (fun t_ k_ => XS.aload X14.here hx rfl (hb hby at_119) rfl rfl k_) ?_
    refine GoOn.st (fun t_ k_ => XS.lload X14.here hx rfl (hb hby at_121) rfl k_) ?_
    show GoOn _ _ _ _ (T14.setTop (mkF m 123 #[.val (.int p1), .val (.int p2), .val (.long q1), .second, .val (.long q2), .second, .val (.long q3), .second, .val (.int b), .val (.int (1 : Int32)), .val (.ref b13), .unset, .val (.long y2), .second, .unset, .unset, .unset] [(.long y2), (.ref b13)]))
    refine GoOn.st (fun t_ k_ => XS.lload X14.here hx rfl (hb hby at_123) rfl k_) ?_
    refine GoOn.st (fun t_ k_ => XS.lload X14.here hx rfl (hb hby at_125) rfl k_) ?_
    refine GoOn.st (fun t_ k_ => XS.lconst X14.here hx rfl (hb hby at_127)  k_) ?_
    refine GoOn.st (fun t_ k_ => XS.lconst X14.here hx rfl (hb hby at_128)  k_) ?_
    show GoOn _ _ _ _ (T14.setTop (mkF m 129 #[.val (.int p1), .val (.int p2), .val (.long q1), .second, .val (.long q2), .second, .val (.long q3), .second, .val (.int b), .val (.int (1 : Int32)), .val (.ref b13), .unset, .val (.long y2), .second, .unset, .unset, .unset] [(.long (0 : Int64)), (.long (1 : Int64)), (.long q3), (.long q2), (.long y2), (.ref b13)]))
    refine GoOn.st (fun t_ k_ => XS.lconst X14.here hx rfl (hb hby at_129)  k_) ?_
    show GoOn _ _ _ _ (T14.setTop (mkF m 130 #[.val (.int p1), .val (.int p2), .val (.long q1), .second, .val (.long q2), .second, .val (.long q3), .second, .val (.int b), .val (.int (1 : Int32)), .val (.ref b13), .unset, .val (.long y2), .second, .unset, .unset, .unset] [(.long (0 : Int64)), (.long (0 : Int64)), (.long (1 : Int64)), (.long q3), (.long q2), (.long y2), (.ref b13)]))
    have I15 : own_I Z h13 b13 (0 : Int64) (0 : Int64) (0 : Int64) (0 : Int64) (0 : Int64) (0 : Int64) (0 : Int64) (0 : Int64) (0 : Int64) (0 : Int64) (0 : Int64) (0 : Int64) (0 : Int64) (0 : Int64) := ⟨A13, F_limb0_b13, F_limb1_b13, F_limb2_b13, F_limb3_b13, F_limb4_b13, F_limb5_b13, F_product0_b13, F_product1_b13, F_product2_b13, F_product3_b13, F_product4_b13, F_product5_b13, F_column_b13, F_columnCarries_b13⟩
    refine GoOn.callV (W := 0) (argsL := [(.long y2), (.long q2), (.long q3), (.long (1 : Int64)), (.long (0 : Int64)), (.long (0 : Int64))]) (rest := []) (a := b13) X14 hx hZ hown (hw _ (List.mem_of_getElem? (i := 29) rfl)) (hw _ (List.mem_of_getElem? (i := 30) rfl)) (notFace_of_selects (args := #[]) (mvT hZ (hw _ (List.mem_of_getElem? (i := 32) rfl)))) (hw _ (List.mem_of_getElem? (i := 32) rfl)) (hw _ (List.mem_of_getElem? (i := 31) rfl)) (hw _ (List.mem_of_getElem? (i := 2) rfl)) (hw _ (List.mem_of_getElem? (i := 33) rfl)) (by decide) (rm_add l Z a0 hw b13 (0 : Int64) (0 : Int64) (0 : Int64) (0 : Int64) (0 : Int64) (0 : Int64) (0 : Int64) (0 : Int64) (0 : Int64) (0 : Int64) (0 : Int64) (0 : Int64) (0 : Int64) y2 q2 q3 (1 : Int64) (0 : Int64) (0 : Int64) h13 n0 g_b13 I15 (by rw [e_y2]; exact ⟨Int.le_trans (by decide) (own_shr3_bd q1).1, Int.le_trans (own_shr3_bd q1).2 (by decide)⟩) (by decide) (by decide) (by decide)) e14 (own_I_exa I15) (by decide) (by decide) (by rw [hml]; rfl) pd_13 rfl rfl (Nat.le_of_eq rfl) (hb hby at_130) (by decide) (by decide) ?_
    rintro _ T16 L16 X16 ⟨rfl, N16q, l0_16, l1_16, l2_16, l3_16, l4_16, l5_16, p0_16, p1_16, p2_16, p3_16, p4_16, p5_16, cc16, I16, eq16⟩
    have N16 := Fr.app N0 N16q
    obtain ⟨z1, z2, z3, z4, z5⟩ := own_limbs1 eq16
    replace z1 := z1.symm; replace z2 := z2.symm; replace z3 := z3.symm; replace z4 := z4.symm; replace z5 := z5.symm
    subst z1 z2 z3 z4 z5
    refine GoOn.st (fun t_ k_ => XS.pop X16.here hx rfl (hb hby at_133) rfl rfl k_) ?_
    refine GoOn.st (fun t_ k_ => XS.lload X16.here hx rfl (hb hby at_134) rfl k_) ?_
    refine GoOn.st (fun t_ k_ => XS.lload X16.here hx rfl (hb hby at_136) rfl k_) ?_
    show GoOn _ _ _ _ (T16.setTop (mkF m 138 #[.val (.int p1), .val (.int p2), .val (.long q1), .second, .val (.long q2), .second, .val (.long q3), .second, .val (.int b), .val (.int (1 : Int32)), .val (.ref b13), .unset, .val (.long y2), .second, .unset, .unset, .unset] [(.long q2), (.long y2)]))
    refine GoOn.st (fun t_ k_ => XS.lor X16.here hx rfl (hb hby at_138) rfl k_) ?_
    refine GoOn.st (fun t_ k_ => XS.lload X16.here hx rfl (hb hby at_139) rfl k_) ?_
    refine GoOn.st (fun t_ k_ => XS.lor X16.here hx rfl (hb hby at_141) rfl k_) ?_
    refine GoOn.st (fun t_ k_ => XS.lconst X16.here hx rfl (hb hby at_142)  k_) ?_
    show GoOn _ _ _ _ (T16.setTop (mkF m 143 #[.val (.int p1), .val (.int p2), .val (.long q1), .second, .val (.long q2), .second, .val (.long q3), .second, .val (.int b), .val (.int (1 : Int32)), .val (.ref b13), .unset, .val (.long y2), .second, .unset, .unset, .unset] [(.long (0 : Int64)), (.long ((y2 ||| q2) ||| q3))]))
    refine GoOn.st (fun t_ k_ => XS.lcmp X16.here hx rfl (hb hby at_143) rfl k_) ?_
    have dm17 : ∀ zz : Int32, zz = (if ((y2 ||| q2) ||| q3) = (0 : Int64) then (1 : Int32) else (0 : Int32)) → ∀ t_, Steps p.tables e below (T16.setTop (mkF m 152 #[.val (.int p1), .val (.int p2), .val (.long q1), .second, .val (.long q2), .second, .val (.long q3), .second, .val (.int b), .val (.int (1 : Int32)), .val (.ref b13), .unset, .val (.long y2), .second, .unset, .unset, .unset] [(.int zz)])) t_ → Steps p.tables e below (T16.setTop (mkF m 144 #[.val (.int p1), .val (.int p2), .val (.long q1), .second, .val (.long q2), .second, .val (.long q3), .second, .val (.int b), .val (.int (1 : Int32)), .val (.ref b13), .unset, .val (.long y2), .second, .unset, .unset, .unset] [(.int (lcmpW ((y2 ||| q2) ||| q3) (0 : Int64)))])) t_ := by
      intro zz hzz t_ k_; by_cases hc : ((y2 ||| q2) ||| q3) = (0 : Int64)
      · rw [hzz.trans (if_pos hc)] at k_
        refine XS.ifNo X16.here hx rfl (hb hby at_144) rfl ((if0 _ _).trans (teq ((lw_eq ((y2 ||| q2) ||| q3) (0 : Int64)).mpr hc)).2) ?_
        show Steps _ _ _ (T16.setTop (mkF m 147 #[.val (.int p1), .val (.int p2), .val (.long q1), .second, .val (.long q2), .second, .val (.long q3), .second, .val (.int b), .val (.int (1 : Int32)), .val (.ref b13), .unset, .val (.long y2), .second, .unset, .unset, .unset] [])) _
        refine XS.iconst X16.here hx rfl (hb hby at_147) ?_
        show Steps _ _ _ (T16.setTop (mkF m 148 #[.val (.int p1), .val (.int p2), .val (.long q1), .second, .val (.long q2), .second, .val (.long q3), .second, .val (.int b), .val (.int (1 : Int32)), .val (.ref b13), .unset, .val (.long y2), .second, .unset, .unset, .unset] [(.int (1 : Int32))])) _
        exact XS.goto X16.here hx rfl (pc0 := 148) (pc' := 152) rfl (hb hby at_148) (by decide) (by decide) k_
      · rw [hzz.trans (if_neg hc)] at k_
        refine XS.ifYes X16.here hx rfl (pc0 := 144) (pc' := 151) rfl (hb hby at_144) rfl ((if0 _ _).trans (feq (fun q => hc ((lw_eq ((y2 ||| q2) ||| q3) (0 : Int64)).mp q))).2) (by decide) (by decide) ?_
        show Steps _ _ _ (T16.setTop (mkF m 151 #[.val (.int p1), .val (.int p2), .val (.long q1), .second, .val (.long q2), .second, .val (.long q3), .second, .val (.int b), .val (.int (1 : Int32)), .val (.ref b13), .unset, .val (.long y2), .second, .unset, .unset, .unset] [])) _
        exact XS.iconst X16.here hx rfl (hb hby at_151) k_
    refine GoOn.st (dm17 _ rfl) ?_
    refine GoOn.st (fun t_ k_ => XS.istore X16.here hx rfl (hb hby at_152) rfl (l' := #[.val (.int p1), .val (.int p2), .val (.long q1), .second, .val (.long q2), .second, .val (.long q3), .second, .val (.int b), .val (.int (1 : Int32)), .val (.ref b13), .unset, .val (.long y2), .second, .val (.int (if ((y2 ||| q2) ||| q3) = (0 : Int64) then (1 : Int32) else (0 : Int32))), .unset, .unset]) rfl k_) ?_
    refine GoOn.st (fun t_ k_ => XS.lload X16.here hx rfl (hb hby at_154) rfl k_) ?_
    show GoOn _ _ _ _ (T16.setTop (mkF m 156 #[.val (.int p1), .val (.int p2), .val (.long q1), .second, .val (.long q2), .second, .val (.long q3), .second, .val (.int b), .val (.int (1 : Int32)), .val (.ref b13), .unset, .val (.long y2), .second, .val (.int (if ((y2 ||| q2) ||| q3) = (0 : Int64) then (1 : Int32) else (0 : Int32))), .unset, .unset] [(.long q3)]))
    refine GoOn.st (fun t_ k_ => XS.bipush X16.here hx rfl (hb hby at_156)  k_) ?_
    refine GoOn.st (fun t_ k_ => XS.lshr X16.here hx rfl (hb hby at_158) rfl k_) ?_
    refine GoOn.st (fun t_ k_ => XS.lstore X16.here hx rfl (hb hby at_159) rfl (l' := #[.val (.int p1), .val (.int p2), .val (.long q1), .second, .val (.long q2), .second, .val (.long q3), .second, .val (.int b), .val (.int (1 : Int32)), .val (.ref b13), .unset, .val (.long y2), .second, .val (.int (if ((y2 ||| q2) ||| q3) = (0 : Int64) then (1 : Int32) else (0 : Int32))), .val (.long (q3 >>> ((63 : Int32) &&& 0x3f).toInt64)), .second]) rfl k_) ?_
    refine GoOn.st (fun t_ k_ => XS.iload X16.here hx rfl (hb hby at_161) rfl k_) ?_
    show GoOn _ _ _ _ (T16.setTop (mkF m 163 #[.val (.int p1), .val (.int p2), .val (.long q1), .second, .val (.long q2), .second, .val (.long q3), .second, .val (.int b), .val (.int (1 : Int32)), .val (.ref b13), .unset, .val (.long y2), .second, .val (.int (if ((y2 ||| q2) ||| q3) = (0 : Int64) then (1 : Int32) else (0 : Int32))), .val (.long (q3 >>> ((63 : Int32) &&& 0x3f).toInt64)), .second] [(.int (if ((y2 ||| q2) ||| q3) = (0 : Int64) then (1 : Int32) else (0 : Int32)))]))
    by_cases hc18 : ((y2 ||| q2) ||| q3) = (0 : Int64)
    · skip
      refine GoOn.st (fun t_ k_ => XS.ifYes X16.here hx rfl (pc0 := 163) (pc' := 206) rfl (hb hby at_163) rfl ((if0 _ _).trans (feq (by rw [if_pos hc18] <;> decide)).2) (by decide) (by decide) k_) ?_
      refine GoOn.st (fun t_ k_ => XS.iconst X16.here hx rfl (hb hby at_206)  k_) ?_
      refine GoOn.st (fun t_ k_ => XS.goto X16.here hx rfl (pc0 := 207) (pc' := 211) rfl (hb hby at_207) (by decide) (by decide) k_) ?_
      refine GoOn.st (fun t_ k_ => XS.istore X16.here hx rfl (hb hby at_211) rfl (l' := #[.val (.int p1), .val (.int p2), .val (.long q1), .second, .val (.long q2), .second, .val (.long q3), .second, .val (.int b), .val (.int (1 : Int32)), .val (.ref b13), .val (.int (1 : Int32)), .val (.long y2), .second, .val (.int (if ((y2 ||| q2) ||| q3) = (0 : Int64) then (1 : Int32) else (0 : Int32))), .val (.long (q3 >>> ((63 : Int32) &&& 0x3f).toInt64)), .second]) rfl k_) ?_
      show GoOn _ _ _ _ (T16.setTop (mkF m 213 #[.val (.int p1), .val (.int p2), .val (.long q1), .second, .val (.long q2), .second, .val (.long q3), .second, .val (.int b), .val (.int (1 : Int32)), .val (.ref b13), .val (.int (1 : Int32)), .val (.long y2), .second, .val (.int (if ((y2 ||| q2) ||| q3) = (0 : Int64) then (1 : Int32) else (0 : Int32))), .val (.long (q3 >>> ((63 : Int32) &&& 0x3f).toInt64)), .second] []))
      refine GoOn.st (fun t_ k_ => XS.goto X16.here hx rfl (pc0 := 213) (pc' := 280) rfl (hb hby at_213) (by decide) (by decide) k_) ?_
      refine GoOn.st (fun t_ k_ => XS.aload X16.here hx rfl (hb hby at_280) rfl rfl k_) ?_
      refine GoOn.st (fun t_ k_ => XS.iload X16.here hx rfl (hb hby at_282) rfl k_) ?_
      show GoOn _ _ _ _ (T16.setTop (mkF m 284 #[.val (.int p1), .val (.int p2), .val (.long q1), .second, .val (.long q2), .second, .val (.long q3), .second, .val (.int b), .val (.int (1 : Int32)), .val (.ref b13), .val (.int (1 : Int32)), .val (.long y2), .second, .val (.int (if ((y2 ||| q2) ||| q3) = (0 : Int64) then (1 : Int32) else (0 : Int32))), .val (.long (q3 >>> ((63 : Int32) &&& 0x3f).toInt64)), .second] [(.int b), (.ref b13)]))
      refine GoOn.callV (W := 0) (argsL := [(.int b)]) (rest := []) (a := b13) X16 hx hZ hown (hw _ (List.mem_of_getElem? (i := 21) rfl)) (hw _ (List.mem_of_getElem? (i := 22) rfl)) (notFace_of_selects (args := #[]) (mvT hZ (hw _ (List.mem_of_getElem? (i := 24) rfl)))) (hw _ (List.mem_of_getElem? (i := 24) rfl)) (hw _ (List.mem_of_getElem? (i := 23) rfl)) (hw _ (List.mem_of_getElem? (i := 2) rfl)) (hw _ (List.mem_of_getElem? (i := 25) rfl)) (by decide) (rm_fits l Z a0 hw b13 l0_16 (0 : Int64) q3 q2 y2 (own_sg y2) p0_16 p1_16 p2_16 p3_16 p4_16 p5_16 cc16 (0 : Int64) b T16.heap I16) rfl (own_I_exa I16) (by decide) (by decide) (by rw [hml]; rfl) pd_11 rfl rfl (Nat.le_of_eq rfl) (hb hby at_284) (by decide) (by decide) ?_
      rintro _ T19 L19 X19 ⟨rfl, rfl, e19⟩
      rw [List.append_nil] at X19
      refine GoOn.st (fun t_ k_ => XS.iload X19.here hx rfl (hb hby at_287) rfl k_) ?_
      refine GoOn.st (fun t_ k_ => XS.icmpNo X19.here hx rfl (hb hby at_289) rfl (teq ((own_law1 hB).trans (by rw [if_pos hc18] <;> rfl))).2 k_) ?_
      refine GoOn.st (fun t_ k_ => XS.iconst X19.here hx rfl (hb hby at_292)  k_) ?_
      show GoOn _ _ _ _ (T19.setTop (mkF m 293 #[.val (.int p1), .val (.int p2), .val (.long q1), .second, .val (.long q2), .second, .val (.long q3), .second, .val (.int b), .val (.int (1 : Int32)), .val (.ref b13), .val (.int (1 : Int32)), .val (.long y2), .second, .val (.int (if ((y2 ||| q2) ||| q3) = (0 : Int64) then (1 : Int32) else (0 : Int32))), .val (.long (q3 >>> ((63 : Int32) &&& 0x3f).toInt64)), .second] [(.int (1 : Int32))]))
      refine GoOn.st (fun t_ k_ => XS.goto X19.here hx rfl (pc0 := 293) (pc' := 297) rfl (hb hby at_293) (by decide) (by decide) k_) ?_
      show GoOn _ _ _ _ (T19.setTop (mkF m 297 #[.val (.int p1), .val (.int p2), .val (.long q1), .second, .val (.long q2), .second, .val (.long q3), .second, .val (.int b), .val (.int (1 : Int32)), .val (.ref b13), .val (.int (1 : Int32)), .val (.long y2), .second, .val (.int (if ((y2 ||| q2) ||| q3) = (0 : Int64) then (1 : Int32) else (0 : Int32))), .val (.long (q3 >>> ((63 : Int32) &&& 0x3f).toInt64)), .second] [(.int (1 : Int32))]))
      exact GoOn.retZ X19 hx hlk hret (by simp) rfl (hb hby at_297) ⟨rfl, N16⟩ (by decide) (by decide)
    · skip
      refine GoOn.st (fun t_ k_ => XS.ifNo X16.here hx rfl (hb hby at_163) rfl ((if0 _ _).trans (teq (by rw [if_neg hc18] <;> decide)).2) k_) ?_
      refine GoOn.st (fun t_ k_ => XS.iload X16.here hx rfl (hb hby at_166) rfl k_) ?_
      refine GoOn.st (fun t_ k_ => XS.sipush X16.here hx rfl (hb hby at_168)  k_) ?_
      by_cases hc20 : b < (128 : Int32)
      · skip
        refine GoOn.st (fun t_ k_ => XS.icmpYes X16.here hx rfl (pc0 := 171) (pc' := 210) rfl (hb hby at_171) rfl (tlt hc20).1 (by decide) (by decide) k_) ?_
        show GoOn _ _ _ _ (T16.setTop (mkF m 210 #[.val (.int p1), .val (.int p2), .val (.long q1), .second, .val (.long q2), .second, .val (.long q3), .second, .val (.int b), .val (.int (1 : Int32)), .val (.ref b13), .unset, .val (.long y2), .second, .val (.int (if ((y2 ||| q2) ||| q3) = (0 : Int64) then (1 : Int32) else (0 : Int32))), .val (.long (q3 >>> ((63 : Int32) &&& 0x3f).toInt64)), .second] []))
        refine GoOn.st (fun t_ k_ => XS.iconst X16.here hx rfl (hb hby at_210)  k_) ?_
        refine GoOn.st (fun t_ k_ => XS.istore X16.here hx rfl (hb hby at_211) rfl (l' := #[.val (.int p1), .val (.int p2), .val (.long q1), .second, .val (.long q2), .second, .val (.long q3), .second, .val (.int b), .val (.int (1 : Int32)), .val (.ref b13), .val (.int (0 : Int32)), .val (.long y2), .second, .val (.int (if ((y2 ||| q2) ||| q3) = (0 : Int64) then (1 : Int32) else (0 : Int32))), .val (.long (q3 >>> ((63 : Int32) &&& 0x3f).toInt64)), .second]) rfl k_) ?_
        refine GoOn.st (fun t_ k_ => XS.goto X16.here hx rfl (pc0 := 213) (pc' := 280) rfl (hb hby at_213) (by decide) (by decide) k_) ?_
        refine GoOn.st (fun t_ k_ => XS.aload X16.here hx rfl (hb hby at_280) rfl rfl k_) ?_
        show GoOn _ _ _ _ (T16.setTop (mkF m 282 #[.val (.int p1), .val (.int p2), .val (.long q1), .second, .val (.long q2), .second, .val (.long q3), .second, .val (.int b), .val (.int (1 : Int32)), .val (.ref b13), .val (.int (0 : Int32)), .val (.long y2), .second, .val (.int (if ((y2 ||| q2) ||| q3) = (0 : Int64) then (1 : Int32) else (0 : Int32))), .val (.long (q3 >>> ((63 : Int32) &&& 0x3f).toInt64)), .second] [(.ref b13)]))
        refine GoOn.st (fun t_ k_ => XS.iload X16.here hx rfl (hb hby at_282) rfl k_) ?_
        show GoOn _ _ _ _ (T16.setTop (mkF m 284 #[.val (.int p1), .val (.int p2), .val (.long q1), .second, .val (.long q2), .second, .val (.long q3), .second, .val (.int b), .val (.int (1 : Int32)), .val (.ref b13), .val (.int (0 : Int32)), .val (.long y2), .second, .val (.int (if ((y2 ||| q2) ||| q3) = (0 : Int64) then (1 : Int32) else (0 : Int32))), .val (.long (q3 >>> ((63 : Int32) &&& 0x3f).toInt64)), .second] [(.int b), (.ref b13)]))
        refine GoOn.callV (W := 0) (argsL := [(.int b)]) (rest := []) (a := b13) X16 hx hZ hown (hw _ (List.mem_of_getElem? (i := 21) rfl)) (hw _ (List.mem_of_getElem? (i := 22) rfl)) (notFace_of_selects (args := #[]) (mvT hZ (hw _ (List.mem_of_getElem? (i := 24) rfl)))) (hw _ (List.mem_of_getElem? (i := 24) rfl)) (hw _ (List.mem_of_getElem? (i := 23) rfl)) (hw _ (List.mem_of_getElem? (i := 2) rfl)) (hw _ (List.mem_of_getElem? (i := 25) rfl)) (by decide) (rm_fits l Z a0 hw b13 l0_16 (0 : Int64) q3 q2 y2 (own_sg y2) p0_16 p1_16 p2_16 p3_16 p4_16 p5_16 cc16 (0 : Int64) b T16.heap I16) rfl (own_I_exa I16) (by decide) (by decide) (by rw [hml]; rfl) pd_11 rfl rfl (Nat.le_of_eq rfl) (hb hby at_284) (by decide) (by decide) ?_
        rintro _ T21 L21 X21 ⟨rfl, rfl, e21⟩
        rw [List.append_nil] at X21
        refine GoOn.st (fun t_ k_ => XS.iload X21.here hx rfl (hb hby at_287) rfl k_) ?_
        refine GoOn.st (fun t_ k_ => XS.icmpNo X21.here hx rfl (hb hby at_289) rfl (teq ((own_law1 hB).trans (by rw [if_neg hc18, if_pos hc20] <;> rfl))).2 k_) ?_
        refine GoOn.st (fun t_ k_ => XS.iconst X21.here hx rfl (hb hby at_292)  k_) ?_
        show GoOn _ _ _ _ (T21.setTop (mkF m 293 #[.val (.int p1), .val (.int p2), .val (.long q1), .second, .val (.long q2), .second, .val (.long q3), .second, .val (.int b), .val (.int (1 : Int32)), .val (.ref b13), .val (.int (0 : Int32)), .val (.long y2), .second, .val (.int (if ((y2 ||| q2) ||| q3) = (0 : Int64) then (1 : Int32) else (0 : Int32))), .val (.long (q3 >>> ((63 : Int32) &&& 0x3f).toInt64)), .second] [(.int (1 : Int32))]))
        refine GoOn.st (fun t_ k_ => XS.goto X21.here hx rfl (pc0 := 293) (pc' := 297) rfl (hb hby at_293) (by decide) (by decide) k_) ?_
        show GoOn _ _ _ _ (T21.setTop (mkF m 297 #[.val (.int p1), .val (.int p2), .val (.long q1), .second, .val (.long q2), .second, .val (.long q3), .second, .val (.int b), .val (.int (1 : Int32)), .val (.ref b13), .val (.int (0 : Int32)), .val (.long y2), .second, .val (.int (if ((y2 ||| q2) ||| q3) = (0 : Int64) then (1 : Int32) else (0 : Int32))), .val (.long (q3 >>> ((63 : Int32) &&& 0x3f).toInt64)), .second] [(.int (1 : Int32))]))
        exact GoOn.retZ X21 hx hlk hret (by simp) rfl (hb hby at_297) ⟨rfl, N16⟩ (by decide) (by decide)
      · skip
        refine GoOn.st (fun t_ k_ => XS.icmpNo X16.here hx rfl (hb hby at_171) rfl (flt hc20).1 k_) ?_
        show GoOn _ _ _ _ (T16.setTop (mkF m 174 #[.val (.int p1), .val (.int p2), .val (.long q1), .second, .val (.long q2), .second, .val (.long q3), .second, .val (.int b), .val (.int (1 : Int32)), .val (.ref b13), .unset, .val (.long y2), .second, .val (.int (if ((y2 ||| q2) ||| q3) = (0 : Int64) then (1 : Int32) else (0 : Int32))), .val (.long (q3 >>> ((63 : Int32) &&& 0x3f).toInt64)), .second] []))
        refine GoOn.st (fun t_ k_ => XS.lload X16.here hx rfl (hb hby at_174) rfl k_) ?_
        refine GoOn.st (fun t_ k_ => XS.lload X16.here hx rfl (hb hby at_176) rfl k_) ?_
        refine GoOn.st (fun t_ k_ => XS.lcmp X16.here hx rfl (hb hby at_178) rfl k_) ?_
        by_cases hc22 : q2 = (q3 >>> ((63 : Int32) &&& 0x3f).toInt64)
        · skip
          refine GoOn.st (fun t_ k_ => XS.ifNo X16.here hx rfl (hb hby at_179) rfl ((if0 _ _).trans (teq ((lw_eq q2 (q3 >>> ((63 : Int32) &&& 0x3f).toInt64)).mpr hc22)).2) k_) ?_
          show GoOn _ _ _ _ (T16.setTop (mkF m 182 #[.val (.int p1), .val (.int p2), .val (.long q1), .second, .val (.long q2), .second, .val (.long q3), .second, .val (.int b), .val (.int (1 : Int32)), .val (.ref b13), .unset, .val (.long y2), .second, .val (.int (if ((y2 ||| q2) ||| q3) = (0 : Int64) then (1 : Int32) else (0 : Int32))), .val (.long (q3 >>> ((63 : Int32) &&& 0x3f).toInt64)), .second] []))
          refine GoOn.st (fun t_ k_ => XS.lload X16.here hx rfl (hb hby at_182) rfl k_) ?_
          refine GoOn.st (fun t_ k_ => XS.lload X16.here hx rfl (hb hby at_184) rfl k_) ?_
          refine GoOn.st (fun t_ k_ => XS.lcmp X16.here hx rfl (hb hby at_186) rfl k_) ?_
          by_cases hc23 : y2 = (q3 >>> ((63 : Int32) &&& 0x3f).toInt64)
          · skip
            refine GoOn.st (fun t_ k_ => XS.ifNo X16.here hx rfl (hb hby at_187) rfl ((if0 _ _).trans (teq ((lw_eq y2 (q3 >>> ((63 : Int32) &&& 0x3f).toInt64)).mpr hc23)).2) k_) ?_
            show GoOn _ _ _ _ (T16.setTop (mkF m 190 #[.val (.int p1), .val (.int p2), .val (.long q1), .second, .val (.long q2), .second, .val (.long q3), .second, .val (.int b), .val (.int (1 : Int32)), .val (.ref b13), .unset, .val (.long y2), .second, .val (.int (if ((y2 ||| q2) ||| q3) = (0 : Int64) then (1 : Int32) else (0 : Int32))), .val (.long (q3 >>> ((63 : Int32) &&& 0x3f).toInt64)), .second] []))
            refine GoOn.st (fun t_ k_ => XS.lload X16.here hx rfl (hb hby at_190) rfl k_) ?_
            refine GoOn.st (fun t_ k_ => XS.lload X16.here hx rfl (hb hby at_192) rfl k_) ?_
            refine GoOn.st (fun t_ k_ => XS.iload X16.here hx rfl (hb hby at_194) rfl k_) ?_
            refine GoOn.st (fun t_ k_ => XS.sipush X16.here hx rfl (hb hby at_196)  k_) ?_
            show GoOn _ _ _ _ (T16.setTop (mkF m 199 #[.val (.int p1), .val (.int p2), .val (.long q1), .second, .val (.long q2), .second, .val (.long q3), .second, .val (.int b), .val (.int (1 : Int32)), .val (.ref b13), .unset, .val (.long y2), .second, .val (.int (if ((y2 ||| q2) ||| q3) = (0 : Int64) then (1 : Int32) else (0 : Int32))), .val (.long (q3 >>> ((63 : Int32) &&& 0x3f).toInt64)), .second] [(.int (128 : Int32)), (.int b), (.long q3), (.long (q3 >>> ((63 : Int32) &&& 0x3f).toInt64))]))
            refine GoOn.st (fun t_ k_ => XS.isub X16.here hx rfl (hb hby at_199) rfl k_) ?_
            show GoOn _ _ _ _ (T16.setTop (mkF m 200 #[.val (.int p1), .val (.int p2), .val (.long q1), .second, .val (.long q2), .second, .val (.long q3), .second, .val (.int b), .val (.int (1 : Int32)), .val (.ref b13), .unset, .val (.long y2), .second, .val (.int (if ((y2 ||| q2) ||| q3) = (0 : Int64) then (1 : Int32) else (0 : Int32))), .val (.long (q3 >>> ((63 : Int32) &&& 0x3f).toInt64)), .second] [(.int (b - (128 : Int32))), (.long q3), (.long (q3 >>> ((63 : Int32) &&& 0x3f).toInt64))]))
            refine GoOn.callS (W := 0) (argsL := [(.long (q3 >>> ((63 : Int32) &&& 0x3f).toInt64)), (.long q3), (.int (b - (128 : Int32)))]) (rest := []) X16 hx hZ hown (hw _ (List.mem_of_getElem? (i := 92) rfl)) (hw _ (List.mem_of_getElem? (i := 93) rfl)) (hw _ (List.mem_of_getElem? (i := 94) rfl)) (hw _ (List.mem_of_getElem? (i := 95) rfl)) (by decide) (rm_inr l Z a0 hw (q3 >>> ((63 : Int32) &&& 0x3f).toInt64) q3 (b - (128 : Int32)) T16.heap) rfl (by decide) (by decide) (by rw [hml]; rfl) pd_10 rfl rfl (Nat.le_of_eq rfl) (hb hby at_200) (by decide) (by decide) ?_
            rintro _ T24 L24 X24 ⟨rfl, rfl, e24⟩
            rw [List.append_nil] at X24
            have dm25 : ∀ zz : Int32, zz = (if (own_inr (q3 >>> ((63 : Int32) &&& 0x3f).toInt64) q3 (b - (128 : Int32))) = (0 : Int32) then (0 : Int32) else (1 : Int32)) → ∀ t_, Steps p.tables e below (T24.setTop (mkF m 211 #[.val (.int p1), .val (.int p2), .val (.long q1), .second, .val (.long q2), .second, .val (.long q3), .second, .val (.int b), .val (.int (1 : Int32)), .val (.ref b13), .unset, .val (.long y2), .second, .val (.int (if ((y2 ||| q2) ||| q3) = (0 : Int64) then (1 : Int32) else (0 : Int32))), .val (.long (q3 >>> ((63 : Int32) &&& 0x3f).toInt64)), .second] [(.int zz)])) t_ → Steps p.tables e below (T24.setTop (mkF m 203 #[.val (.int p1), .val (.int p2), .val (.long q1), .second, .val (.long q2), .second, .val (.long q3), .second, .val (.int b), .val (.int (1 : Int32)), .val (.ref b13), .unset, .val (.long y2), .second, .val (.int (if ((y2 ||| q2) ||| q3) = (0 : Int64) then (1 : Int32) else (0 : Int32))), .val (.long (q3 >>> ((63 : Int32) &&& 0x3f).toInt64)), .second] [(.int (own_inr (q3 >>> ((63 : Int32) &&& 0x3f).toInt64) q3 (b - (128 : Int32))))])) t_ := by
              intro zz hzz t_ k_; by_cases hc : (own_inr (q3 >>> ((63 : Int32) &&& 0x3f).toInt64) q3 (b - (128 : Int32))) = (0 : Int32)
              · rw [hzz.trans (if_pos hc)] at k_
                refine XS.ifYes X24.here hx rfl (pc0 := 203) (pc' := 210) rfl (hb hby at_203) rfl ((if0 _ _).trans (teq hc).1) (by decide) (by decide) ?_
                show Steps _ _ _ (T24.setTop (mkF m 210 #[.val (.int p1), .val (.int p2), .val (.long q1), .second, .val (.long q2), .second, .val (.long q3), .second, .val (.int b), .val (.int (1 : Int32)), .val (.ref b13), .unset, .val (.long y2), .second, .val (.int (if ((y2 ||| q2) ||| q3) = (0 : Int64) then (1 : Int32) else (0 : Int32))), .val (.long (q3 >>> ((63 : Int32) &&& 0x3f).toInt64)), .second] [])) _
                exact XS.iconst X24.here hx rfl (hb hby at_210) k_
              · rw [hzz.trans (if_neg hc)] at k_
                refine XS.ifNo X24.here hx rfl (hb hby at_203) rfl ((if0 _ _).trans (feq hc).1) ?_
                show Steps _ _ _ (T24.setTop (mkF m 206 #[.val (.int p1), .val (.int p2), .val (.long q1), .second, .val (.long q2), .second, .val (.long q3), .second, .val (.int b), .val (.int (1 : Int32)), .val (.ref b13), .unset, .val (.long y2), .second, .val (.int (if ((y2 ||| q2) ||| q3) = (0 : Int64) then (1 : Int32) else (0 : Int32))), .val (.long (q3 >>> ((63 : Int32) &&& 0x3f).toInt64)), .second] [])) _
                refine XS.iconst X24.here hx rfl (hb hby at_206) ?_
                show Steps _ _ _ (T24.setTop (mkF m 207 #[.val (.int p1), .val (.int p2), .val (.long q1), .second, .val (.long q2), .second, .val (.long q3), .second, .val (.int b), .val (.int (1 : Int32)), .val (.ref b13), .unset, .val (.long y2), .second, .val (.int (if ((y2 ||| q2) ||| q3) = (0 : Int64) then (1 : Int32) else (0 : Int32))), .val (.long (q3 >>> ((63 : Int32) &&& 0x3f).toInt64)), .second] [(.int (1 : Int32))])) _
                exact XS.goto X24.here hx rfl (pc0 := 207) (pc' := 211) rfl (hb hby at_207) (by decide) (by decide) k_
            refine GoOn.st (dm25 _ rfl) ?_
            refine GoOn.st (fun t_ k_ => XS.istore X24.here hx rfl (hb hby at_211) rfl (l' := #[.val (.int p1), .val (.int p2), .val (.long q1), .second, .val (.long q2), .second, .val (.long q3), .second, .val (.int b), .val (.int (1 : Int32)), .val (.ref b13), .val (.int (if (own_inr (q3 >>> ((63 : Int32) &&& 0x3f).toInt64) q3 (b - (128 : Int32))) = (0 : Int32) then (0 : Int32) else (1 : Int32))), .val (.long y2), .second, .val (.int (if ((y2 ||| q2) ||| q3) = (0 : Int64) then (1 : Int32) else (0 : Int32))), .val (.long (q3 >>> ((63 : Int32) &&& 0x3f).toInt64)), .second]) rfl k_) ?_
            refine GoOn.st (fun t_ k_ => XS.goto X24.here hx rfl (pc0 := 213) (pc' := 280) rfl (hb hby at_213) (by decide) (by decide) k_) ?_
            show GoOn _ _ _ _ (T24.setTop (mkF m 280 #[.val (.int p1), .val (.int p2), .val (.long q1), .second, .val (.long q2), .second, .val (.long q3), .second, .val (.int b), .val (.int (1 : Int32)), .val (.ref b13), .val (.int (if (own_inr (q3 >>> ((63 : Int32) &&& 0x3f).toInt64) q3 (b - (128 : Int32))) = (0 : Int32) then (0 : Int32) else (1 : Int32))), .val (.long y2), .second, .val (.int (if ((y2 ||| q2) ||| q3) = (0 : Int64) then (1 : Int32) else (0 : Int32))), .val (.long (q3 >>> ((63 : Int32) &&& 0x3f).toInt64)), .second] []))
            refine GoOn.st (fun t_ k_ => XS.aload X24.here hx rfl (hb hby at_280) rfl rfl k_) ?_
            refine GoOn.st (fun t_ k_ => XS.iload X24.here hx rfl (hb hby at_282) rfl k_) ?_
            show GoOn _ _ _ _ (T24.setTop (mkF m 284 #[.val (.int p1), .val (.int p2), .val (.long q1), .second, .val (.long q2), .second, .val (.long q3), .second, .val (.int b), .val (.int (1 : Int32)), .val (.ref b13), .val (.int (if (own_inr (q3 >>> ((63 : Int32) &&& 0x3f).toInt64) q3 (b - (128 : Int32))) = (0 : Int32) then (0 : Int32) else (1 : Int32))), .val (.long y2), .second, .val (.int (if ((y2 ||| q2) ||| q3) = (0 : Int64) then (1 : Int32) else (0 : Int32))), .val (.long (q3 >>> ((63 : Int32) &&& 0x3f).toInt64)), .second] [(.int b), (.ref b13)]))
            refine GoOn.callV (W := 0) (argsL := [(.int b)]) (rest := []) (a := b13) X24 hx hZ hown (hw _ (List.mem_of_getElem? (i := 21) rfl)) (hw _ (List.mem_of_getElem? (i := 22) rfl)) (notFace_of_selects (args := #[]) (mvT hZ (hw _ (List.mem_of_getElem? (i := 24) rfl)))) (hw _ (List.mem_of_getElem? (i := 24) rfl)) (hw _ (List.mem_of_getElem? (i := 23) rfl)) (hw _ (List.mem_of_getElem? (i := 2) rfl)) (hw _ (List.mem_of_getElem? (i := 25) rfl)) (by decide) (rm_fits l Z a0 hw b13 l0_16 (0 : Int64) q3 q2 y2 (own_sg y2) p0_16 p1_16 p2_16 p3_16 p4_16 p5_16 cc16 (0 : Int64) b T16.heap I16) e24 (own_I_exa I16) (by decide) (by decide) (by rw [hml]; rfl) pd_11 rfl rfl (Nat.le_of_eq rfl) (hb hby at_284) (by decide) (by decide) ?_
            rintro _ T26 L26 X26 ⟨rfl, rfl, e26⟩
            rw [List.append_nil] at X26
            refine GoOn.st (fun t_ k_ => XS.iload X26.here hx rfl (hb hby at_287) rfl k_) ?_
            refine GoOn.st (fun t_ k_ => XS.icmpNo X26.here hx rfl (hb hby at_289) rfl (teq ((own_law1 hB).trans (by rw [if_neg hc18, if_neg hc20, if_pos (show q2 = own_sg q3 from hc22), if_pos (show y2 = own_sg q3 from hc23)] <;> rfl))).2 k_) ?_
            refine GoOn.st (fun t_ k_ => XS.iconst X26.here hx rfl (hb hby at_292)  k_) ?_
            show GoOn _ _ _ _ (T26.setTop (mkF m 293 #[.val (.int p1), .val (.int p2), .val (.long q1), .second, .val (.long q2), .second, .val (.long q3), .second, .val (.int b), .val (.int (1 : Int32)), .val (.ref b13), .val (.int (if (own_inr (q3 >>> ((63 : Int32) &&& 0x3f).toInt64) q3 (b - (128 : Int32))) = (0 : Int32) then (0 : Int32) else (1 : Int32))), .val (.long y2), .second, .val (.int (if ((y2 ||| q2) ||| q3) = (0 : Int64) then (1 : Int32) else (0 : Int32))), .val (.long (q3 >>> ((63 : Int32) &&& 0x3f).toInt64)), .second] [(.int (1 : Int32))]))
            refine GoOn.st (fun t_ k_ => XS.goto X26.here hx rfl (pc0 := 293) (pc' := 297) rfl (hb hby at_293) (by decide) (by decide) k_) ?_
            show GoOn _ _ _ _ (T26.setTop (mkF m 297 #[.val (.int p1), .val (.int p2), .val (.long q1), .second, .val (.long q2), .second, .val (.long q3), .second, .val (.int b), .val (.int (1 : Int32)), .val (.ref b13), .val (.int (if (own_inr (q3 >>> ((63 : Int32) &&& 0x3f).toInt64) q3 (b - (128 : Int32))) = (0 : Int32) then (0 : Int32) else (1 : Int32))), .val (.long y2), .second, .val (.int (if ((y2 ||| q2) ||| q3) = (0 : Int64) then (1 : Int32) else (0 : Int32))), .val (.long (q3 >>> ((63 : Int32) &&& 0x3f).toInt64)), .second] [(.int (1 : Int32))]))
            exact GoOn.retZ X26 hx hlk hret (by simp) rfl (hb hby at_297) ⟨rfl, N16⟩ (by decide) (by decide)
          · skip
            refine GoOn.st (fun t_ k_ => XS.ifYes X16.here hx rfl (pc0 := 187) (pc' := 210) rfl (hb hby at_187) rfl ((if0 _ _).trans (feq (fun q => hc23 ((lw_eq y2 (q3 >>> ((63 : Int32) &&& 0x3f).toInt64)).mp q))).2) (by decide) (by decide) k_) ?_
            show GoOn _ _ _ _ (T16.setTop (mkF m 210 #[.val (.int p1), .val (.int p2), .val (.long q1), .second, .val (.long q2), .second, .val (.long q3), .second, .val (.int b), .val (.int (1 : Int32)), .val (.ref b13), .unset, .val (.long y2), .second, .val (.int (if ((y2 ||| q2) ||| q3) = (0 : Int64) then (1 : Int32) else (0 : Int32))), .val (.long (q3 >>> ((63 : Int32) &&& 0x3f).toInt64)), .second] []))
            refine GoOn.st (fun t_ k_ => XS.iconst X16.here hx rfl (hb hby at_210)  k_) ?_
            refine GoOn.st (fun t_ k_ => XS.istore X16.here hx rfl (hb hby at_211) rfl (l' := #[.val (.int p1), .val (.int p2), .val (.long q1), .second, .val (.long q2), .second, .val (.long q3), .second, .val (.int b), .val (.int (1 : Int32)), .val (.ref b13), .val (.int (0 : Int32)), .val (.long y2), .second, .val (.int (if ((y2 ||| q2) ||| q3) = (0 : Int64) then (1 : Int32) else (0 : Int32))), .val (.long (q3 >>> ((63 : Int32) &&& 0x3f).toInt64)), .second]) rfl k_) ?_
            refine GoOn.st (fun t_ k_ => XS.goto X16.here hx rfl (pc0 := 213) (pc' := 280) rfl (hb hby at_213) (by decide) (by decide) k_) ?_
            refine GoOn.st (fun t_ k_ => XS.aload X16.here hx rfl (hb hby at_280) rfl rfl k_) ?_
            show GoOn _ _ _ _ (T16.setTop (mkF m 282 #[.val (.int p1), .val (.int p2), .val (.long q1), .second, .val (.long q2), .second, .val (.long q3), .second, .val (.int b), .val (.int (1 : Int32)), .val (.ref b13), .val (.int (0 : Int32)), .val (.long y2), .second, .val (.int (if ((y2 ||| q2) ||| q3) = (0 : Int64) then (1 : Int32) else (0 : Int32))), .val (.long (q3 >>> ((63 : Int32) &&& 0x3f).toInt64)), .second] [(.ref b13)]))
            refine GoOn.st (fun t_ k_ => XS.iload X16.here hx rfl (hb hby at_282) rfl k_) ?_
            show GoOn _ _ _ _ (T16.setTop (mkF m 284 #[.val (.int p1), .val (.int p2), .val (.long q1), .second, .val (.long q2), .second, .val (.long q3), .second, .val (.int b), .val (.int (1 : Int32)), .val (.ref b13), .val (.int (0 : Int32)), .val (.long y2), .second, .val (.int (if ((y2 ||| q2) ||| q3) = (0 : Int64) then (1 : Int32) else (0 : Int32))), .val (.long (q3 >>> ((63 : Int32) &&& 0x3f).toInt64)), .second] [(.int b), (.ref b13)]))
            refine GoOn.callV (W := 0) (argsL := [(.int b)]) (rest := []) (a := b13) X16 hx hZ hown (hw _ (List.mem_of_getElem? (i := 21) rfl)) (hw _ (List.mem_of_getElem? (i := 22) rfl)) (notFace_of_selects (args := #[]) (mvT hZ (hw _ (List.mem_of_getElem? (i := 24) rfl)))) (hw _ (List.mem_of_getElem? (i := 24) rfl)) (hw _ (List.mem_of_getElem? (i := 23) rfl)) (hw _ (List.mem_of_getElem? (i := 2) rfl)) (hw _ (List.mem_of_getElem? (i := 25) rfl)) (by decide) (rm_fits l Z a0 hw b13 l0_16 (0 : Int64) q3 q2 y2 (own_sg y2) p0_16 p1_16 p2_16 p3_16 p4_16 p5_16 cc16 (0 : Int64) b T16.heap I16) rfl (own_I_exa I16) (by decide) (by decide) (by rw [hml]; rfl) pd_11 rfl rfl (Nat.le_of_eq rfl) (hb hby at_284) (by decide) (by decide) ?_
            rintro _ T27 L27 X27 ⟨rfl, rfl, e27⟩
            rw [List.append_nil] at X27
            refine GoOn.st (fun t_ k_ => XS.iload X27.here hx rfl (hb hby at_287) rfl k_) ?_
            refine GoOn.st (fun t_ k_ => XS.icmpNo X27.here hx rfl (hb hby at_289) rfl (teq ((own_law1 hB).trans (by rw [if_neg hc18, if_neg hc20, if_pos (show q2 = own_sg q3 from hc22), if_neg (show ¬ y2 = own_sg q3 from hc23)] <;> rfl))).2 k_) ?_
            refine GoOn.st (fun t_ k_ => XS.iconst X27.here hx rfl (hb hby at_292)  k_) ?_
            show GoOn _ _ _ _ (T27.setTop (mkF m 293 #[.val (.int p1), .val (.int p2), .val (.long q1), .second, .val (.long q2), .second, .val (.long q3), .second, .val (.int b), .val (.int (1 : Int32)), .val (.ref b13), .val (.int (0 : Int32)), .val (.long y2), .second, .val (.int (if ((y2 ||| q2) ||| q3) = (0 : Int64) then (1 : Int32) else (0 : Int32))), .val (.long (q3 >>> ((63 : Int32) &&& 0x3f).toInt64)), .second] [(.int (1 : Int32))]))
            refine GoOn.st (fun t_ k_ => XS.goto X27.here hx rfl (pc0 := 293) (pc' := 297) rfl (hb hby at_293) (by decide) (by decide) k_) ?_
            show GoOn _ _ _ _ (T27.setTop (mkF m 297 #[.val (.int p1), .val (.int p2), .val (.long q1), .second, .val (.long q2), .second, .val (.long q3), .second, .val (.int b), .val (.int (1 : Int32)), .val (.ref b13), .val (.int (0 : Int32)), .val (.long y2), .second, .val (.int (if ((y2 ||| q2) ||| q3) = (0 : Int64) then (1 : Int32) else (0 : Int32))), .val (.long (q3 >>> ((63 : Int32) &&& 0x3f).toInt64)), .second] [(.int (1 : Int32))]))
            exact GoOn.retZ X27 hx hlk hret (by simp) rfl (hb hby at_297) ⟨rfl, N16⟩ (by decide) (by decide)
        · skip
          refine GoOn.st (fun t_ k_ => XS.ifYes X16.here hx rfl (pc0 := 179) (pc' := 210) rfl (hb hby at_179) rfl ((if0 _ _).trans (feq (fun q => hc22 ((lw_eq q2 (q3 >>> ((63 : Int32) &&& 0x3f).toInt64)).mp q))).2) (by decide) (by decide) k_) ?_
          show GoOn _ _ _ _ (T16.setTop (mkF m 210 #[.val (.int p1), .val (.int p2), .val (.long q1), .second, .val (.long q2), .second, .val (.long q3), .second, .val (.int b), .val (.int (1 : Int32)), .val (.ref b13), .unset, .val (.long y2), .second, .val (.int (if ((y2 ||| q2) ||| q3) = (0 : Int64) then (1 : Int32) else (0 : Int32))), .val (.long (q3 >>> ((63 : Int32) &&& 0x3f).toInt64)), .second] []))
          refine GoOn.st (fun t_ k_ => XS.iconst X16.here hx rfl (hb hby at_210)  k_) ?_
          refine GoOn.st (fun t_ k_ => XS.istore X16.here hx rfl (hb hby at_211) rfl (l' := #[.val (.int p1), .val (.int p2), .val (.long q1), .second, .val (.long q2), .second, .val (.long q3), .second, .val (.int b), .val (.int (1 : Int32)), .val (.ref b13), .val (.int (0 : Int32)), .val (.long y2), .second, .val (.int (if ((y2 ||| q2) ||| q3) = (0 : Int64) then (1 : Int32) else (0 : Int32))), .val (.long (q3 >>> ((63 : Int32) &&& 0x3f).toInt64)), .second]) rfl k_) ?_
          refine GoOn.st (fun t_ k_ => XS.goto X16.here hx rfl (pc0 := 213) (pc' := 280) rfl (hb hby at_213) (by decide) (by decide) k_) ?_
          refine GoOn.st (fun t_ k_ => XS.aload X16.here hx rfl (hb hby at_280) rfl rfl k_) ?_
          show GoOn _ _ _ _ (T16.setTop (mkF m 282 #[.val (.int p1), .val (.int p2), .val (.long q1), .second, .val (.long q2), .second, .val (.long q3), .second, .val (.int b), .val (.int (1 : Int32)), .val (.ref b13), .val (.int (0 : Int32)), .val (.long y2), .second, .val (.int (if ((y2 ||| q2) ||| q3) = (0 : Int64) then (1 : Int32) else (0 : Int32))), .val (.long (q3 >>> ((63 : Int32) &&& 0x3f).toInt64)), .second] [(.ref b13)]))
          refine GoOn.st (fun t_ k_ => XS.iload X16.here hx rfl (hb hby at_282) rfl k_) ?_
          show GoOn _ _ _ _ (T16.setTop (mkF m 284 #[.val (.int p1), .val (.int p2), .val (.long q1), .second, .val (.long q2), .second, .val (.long q3), .second, .val (.int b), .val (.int (1 : Int32)), .val (.ref b13), .val (.int (0 : Int32)), .val (.long y2), .second, .val (.int (if ((y2 ||| q2) ||| q3) = (0 : Int64) then (1 : Int32) else (0 : Int32))), .val (.long (q3 >>> ((63 : Int32) &&& 0x3f).toInt64)), .second] [(.int b), (.ref b13)]))
          refine GoOn.callV (W := 0) (argsL := [(.int b)]) (rest := []) (a := b13) X16 hx hZ hown (hw _ (List.mem_of_getElem? (i := 21) rfl)) (hw _ (List.mem_of_getElem? (i := 22) rfl)) (notFace_of_selects (args := #[]) (mvT hZ (hw _ (List.mem_of_getElem? (i := 24) rfl)))) (hw _ (List.mem_of_getElem? (i := 24) rfl)) (hw _ (List.mem_of_getElem? (i := 23) rfl)) (hw _ (List.mem_of_getElem? (i := 2) rfl)) (hw _ (List.mem_of_getElem? (i := 25) rfl)) (by decide) (rm_fits l Z a0 hw b13 l0_16 (0 : Int64) q3 q2 y2 (own_sg y2) p0_16 p1_16 p2_16 p3_16 p4_16 p5_16 cc16 (0 : Int64) b T16.heap I16) rfl (own_I_exa I16) (by decide) (by decide) (by rw [hml]; rfl) pd_11 rfl rfl (Nat.le_of_eq rfl) (hb hby at_284) (by decide) (by decide) ?_
          rintro _ T28 L28 X28 ⟨rfl, rfl, e28⟩
          rw [List.append_nil] at X28
          refine GoOn.st (fun t_ k_ => XS.iload X28.here hx rfl (hb hby at_287) rfl k_) ?_
          refine GoOn.st (fun t_ k_ => XS.icmpNo X28.here hx rfl (hb hby at_289) rfl (teq ((own_law1 hB).trans (by rw [if_neg hc18, if_neg hc20, if_neg (show ¬ q2 = own_sg q3 from hc22)] <;> rfl))).2 k_) ?_
          refine GoOn.st (fun t_ k_ => XS.iconst X28.here hx rfl (hb hby at_292)  k_) ?_
          show GoOn _ _ _ _ (T28.setTop (mkF m 293 #[.val (.int p1), .val (.int p2), .val (.long q1), .second, .val (.long q2), .second, .val (.long q3), .second, .val (.int b), .val (.int (1 : Int32)), .val (.ref b13), .val (.int (0 : Int32)), .val (.long y2), .second, .val (.int (if ((y2 ||| q2) ||| q3) = (0 : Int64) then (1 : Int32) else (0 : Int32))), .val (.long (q3 >>> ((63 : Int32) &&& 0x3f).toInt64)), .second] [(.int (1 : Int32))]))
          refine GoOn.st (fun t_ k_ => XS.goto X28.here hx rfl (pc0 := 293) (pc' := 297) rfl (hb hby at_293) (by decide) (by decide) k_) ?_
          show GoOn _ _ _ _ (T28.setTop (mkF m 297 #[.val (.int p1), .val (.int p2), .val (.long q1), .second, .val (.long q2), .second, .val (.long q3), .second, .val (.int b), .val (.int (1 : Int32)), .val (.ref b13), .val (.int (0 : Int32)), .val (.long y2), .second, .val (.int (if ((y2 ||| q2) ||| q3) = (0 : Int64) then (1 : Int32) else (0 : Int32))), .val (.long (q3 >>> ((63 : Int32) &&& 0x3f).toInt64)), .second] [(.int (1 : Int32))]))
          exact GoOn.retZ X28 hx hlk hret (by simp) rfl (hb hby at_297) ⟨rfl, N16⟩ (by decide) (by decide)
  · rw [hk1]
    refine GoOn.st (fun t_ k_ => XS.iload X0.here hx rfl (hb hby at_14) rfl k_) ?_
    refine GoOn.st (fun t_ k_ => XS.ifYes X0.here hx rfl (pc0 := 16) (pc' := 99) rfl (hb hby at_16) rfl ((if0 _ _).trans (feq (by decide : ¬ ((2 : Int32) = (0 : Int32)))).2) (by decide) (by decide) k_) ?_
    refine GoOn.st (fun t_ k_ => XS.iload X0.here hx rfl (hb hby at_99) rfl k_) ?_
    show GoOn _ _ _ _ (s₁.setTop (mkF m 101 #[.val (.int p1), .val (.int p2), .val (.long q1), .second, .val (.long q2), .second, .val (.long q3), .second, .val (.int b), .val (.int (2 : Int32)), .unset, .unset, .unset, .unset, .unset, .unset, .unset] [(.int (2 : Int32))]))
    refine GoOn.st (fun t_ k_ => XS.iconst X0.here hx rfl (hb hby at_101)  k_) ?_
    refine GoOn.st (fun t_ k_ => XS.icmpYes X0.here hx rfl (pc0 := 102) (pc' := 216) rfl (hb hby at_102) rfl (feq (by decide : ¬ ((2 : Int32) = (1 : Int32)))).2 (by decide) (by decide) k_) ?_
    refine GoOn.st (fun t_ k_ => XS.iload X0.here hx rfl (hb hby at_216) rfl k_) ?_
    refine GoOn.st (fun t_ k_ => XS.iconst X0.here hx rfl (hb hby at_218)  k_) ?_
    show GoOn _ _ _ _ (s₁.setTop (mkF m 219 #[.val (.int p1), .val (.int p2), .val (.long q1), .second, .val (.long q2), .second, .val (.long q3), .second, .val (.int b), .val (.int (2 : Int32)), .unset, .unset, .unset, .unset, .unset, .unset, .unset] [(.int (2 : Int32)), (.int (2 : Int32))]))
    refine GoOn.st (fun t_ k_ => XS.icmpNo X0.here hx rfl (hb hby at_219) rfl (teq (by decide : (2 : Int32) = (2 : Int32))).2 k_) ?_
    refine GoOn.st (fun t_ k_ => XS.lloadN X0.here hx rfl (hb hby at_222) rfl k_) ?_
    refine GoOn.st (fun t_ k_ => XS.iconst X0.here hx rfl (hb hby at_223)  k_) ?_
    refine GoOn.st (fun t_ k_ => XS.lshr X0.here hx rfl (hb hby at_224) rfl k_) ?_
    show GoOn _ _ _ _ (s₁.setTop (mkF m 225 #[.val (.int p1), .val (.int p2), .val (.long q1), .second, .val (.long q2), .second, .val (.long q3), .second, .val (.int b), .val (.int (2 : Int32)), .unset, .unset, .unset, .unset, .unset, .unset, .unset] [(.long (q1 >>> ((3 : Int32) &&& 0x3f).toInt64))]))
    refine GoOn.st (fun t_ k_ => XS.lstore X0.here hx rfl (hb hby at_225) rfl (l' := #[.val (.int p1), .val (.int p2), .val (.long q1), .second, .val (.long q2), .second, .val (.long q3), .second, .val (.int b), .val (.int (2 : Int32)), .unset, .unset, .val (.long (q1 >>> ((3 : Int32) &&& 0x3f).toInt64)), .second, .unset, .unset, .unset]) rfl k_) ?_
    show GoOn _ _ _ _ (s₁.setTop (mkF m 227 #[.val (.int p1), .val (.int p2), .val (.long q1), .second, .val (.long q2), .second, .val (.long q3), .second, .val (.int b), .val (.int (2 : Int32)), .unset, .unset, .val (.long (q1 >>> ((3 : Int32) &&& 0x3f).toInt64)), .second, .unset, .unset, .unset] []))
    obtain ⟨y2, e_y2⟩ : ∃ z : Int64, z = (q1 >>> ((3 : Int32) &&& 0x3f).toInt64) := ⟨_, rfl⟩
    rw [← e_y2]
    obtain ⟨T29, h29, X29, e29, E29, A29, D29, -, st29⟩ := newO X0 hx hZ hown (hw _ (List.mem_of_getElem? (i := 0) rfl)) (hw _ (List.mem_of_getElem? (i := 1) rfl)) (hw _ (List.mem_of_getElem? (i := 2) rfl)) e0 (g := (mkF m 227 #[.val (.int p1), .val (.int p2), .val (.long q1), .second, .val (.long q2), .second, .val (.long q3), .second, .val (.int b), .val (.int (2 : Int32)), .unset, .unset, .val (.long y2), .second, .unset, .unset, .unset] [])) rfl (hb hby at_227) (by decide) (by decide)
    obtain ⟨b29, g29⟩ : ∃ z, z = h0.size := ⟨_, rfl⟩
    rw [← g29] at A29 D29 st29
    have g_b29 : n0 ≤ b29 := Nat.le_trans Z0 (Nat.le_of_eq g29.symm)
    have F_limb0_b29 : Fld Z h29 b29 "com/example/nano_embed/nanoembed/geometry/Int384" "limb0" "J" (.long (0 : Int64)) := D29 (Or.inl (hw _ (List.mem_of_getElem? (i := 10) rfl))) (ty := .long) (by decide)
    have F_limb1_b29 : Fld Z h29 b29 "com/example/nano_embed/nanoembed/geometry/Int384" "limb1" "J" (.long (0 : Int64)) := D29 (Or.inl (hw _ (List.mem_of_getElem? (i := 12) rfl))) (ty := .long) (by decide)
    have F_limb2_b29 : Fld Z h29 b29 "com/example/nano_embed/nanoembed/geometry/Int384" "limb2" "J" (.long (0 : Int64)) := D29 (Or.inl (hw _ (List.mem_of_getElem? (i := 14) rfl))) (ty := .long) (by decide)
    have F_limb3_b29 : Fld Z h29 b29 "com/example/nano_embed/nanoembed/geometry/Int384" "limb3" "J" (.long (0 : Int64)) := D29 (Or.inl (hw _ (List.mem_of_getElem? (i := 16) rfl))) (ty := .long) (by decide)
    have F_limb4_b29 : Fld Z h29 b29 "com/example/nano_embed/nanoembed/geometry/Int384" "limb4" "J" (.long (0 : Int64)) := D29 (Or.inl (hw _ (List.mem_of_getElem? (i := 18) rfl))) (ty := .long) (by decide)
    have F_limb5_b29 : Fld Z h29 b29 "com/example/nano_embed/nanoembed/geometry/Int384" "limb5" "J" (.long (0 : Int64)) := D29 (Or.inl (hw _ (List.mem_of_getElem? (i := 20) rfl))) (ty := .long) (by decide)
    have F_product0_b29 : Fld Z h29 b29 "com/example/nano_embed/nanoembed/geometry/Int384" "product0" "J" (.long (0 : Int64)) := D29 (Or.inl (hw _ (List.mem_of_getElem? (i := 49) rfl))) (ty := .long) (by decide)
    have F_column_b29 : Fld Z h29 b29 "com/example/nano_embed/nanoembed/geometry/Int384" "column" "J" (.long (0 : Int64)) := D29 (Or.inl (hw _ (List.mem_of_getElem? (i := 59) rfl))) (ty := .long) (by decide)
    have F_columnCarries_b29 : Fld Z h29 b29 "com/example/nano_embed/nanoembed/geometry/Int384" "columnCarries" "J" (.long (0 : Int64)) := D29 (Or.inl (hw _ (List.mem_of_getElem? (i := 65) rfl))) (ty := .long) (by decide)
    have F_product1_b29 : Fld Z h29 b29 "com/example/nano_embed/nanoembed/geometry/Int384" "product1" "J" (.long (0 : Int64)) := D29 (Or.inl (hw _ (List.mem_of_getElem? (i := 74) rfl))) (ty := .long) (by decide)
    have F_product2_b29 : Fld Z h29 b29 "com/example/nano_embed/nanoembed/geometry/Int384" "product2" "J" (.long (0 : Int64)) := D29 (Or.inl (hw _ (List.mem_of_getElem? (i := 76) rfl))) (ty := .long) (by decide)
    have F_product3_b29 : Fld Z h29 b29 "com/example/nano_embed/nanoembed/geometry/Int384" "product3" "J" (.long (0 : Int64)) := D29 (Or.inl (hw _ (List.mem_of_getElem? (i := 78) rfl))) (ty := .long) (by decide)
    have F_product4_b29 : Fld Z h29 b29 "com/example/nano_embed/nanoembed/geometry/Int384" "product4" "J" (.long (0 : Int64)) := D29 (Or.inl (hw _ (List.mem_of_getElem? (i := 80) rfl))) (ty := .long) (by decide)
    have F_product5_b29 : Fld Z h29 b29 "com/example/nano_embed/nanoembed/geometry/Int384" "product5" "J" (.long (0 : Int64)) := D29 (Or.inl (hw _ (List.mem_of_getElem? (i := 87) rfl))) (ty := .long) (by decide)
    refine GoOn.st st29 ?_
    refine GoOn.st (fun t_ k_ => XS.dup X29.here hx rfl (hb hby at_230) rfl rfl k_) ?_
    show GoOn _ _ _ _ (T29.setTop (mkF m 231 #[.val (.int p1), .val (.int p2), .val (.long q1), .second, .val (.long q2), .second, .val (.long q3), .second, .val (.int b), .val (.int (2 : Int32)), .unset, .unset, .val (.long y2), .second, .unset, .unset, .unset] [(.ref b29), (.ref b29)]))
    refine GoOn.callC (W := 1) (argsL := []) (rest := [(.ref b29)]) (a := b29) X29 hx hZ hown rfl (hw _ (List.mem_of_getElem? (i := 26) rfl)) (hw _ (List.mem_of_getElem? (i := 27) rfl)) (hw _ (List.mem_of_getElem? (i := 2) rfl)) (hw _ (List.mem_of_getElem? (i := 28) rfl)) (by decide) (rm_init l Z a0 hw b29 h29) e29 (by decide) (by decide) (by rw [hml]; rfl) pd_12 rfl rfl (Nat.le_of_eq rfl) (hb hby at_231) (by decide) (by decide) ?_
    rintro _ T30 L30 X30 ⟨rfl, rfl, e30⟩
    rw [List.append_nil] at X30
    refine GoOn.st (fun t_ k_ => XS.astore X30.here hx rfl (hb hby at_234) rfl rfl (l' := #[.val (.int p1), .val (.int p2), .val (.long q1), .second, .val (.long q2), .second, .val (.long q3), .second, .val (.int b), .val (.int (2 : Int32)), .val (.ref b29), .unset, .val (.long y2), .second, .unset, .unset, .unset]) rfl k_) ?_
    refine GoOn.st (fun t_ k_ => XS.aload X30.here hx rfl (hb hby at_236) rfl rfl k_) ?_
    refine GoOn.st (fun t_ k_ => XS.lload X30.here hx rfl (hb hby at_238) rfl k_) ?_
    show GoOn _ _ _ _ (T30.setTop (mkF m 240 #[.val (.int p1), .val (.int p2), .val (.long q1), .second, .val (.long q2), .second, .val (.long q3), .second, .val (.int b), .val (.int (2 : Int32)), .val (.ref b29), .unset, .val (.long y2), .second, .unset, .unset, .unset] [(.long y2), (.ref b29)]))
    refine GoOn.st (fun t_ k_ => XS.lconst X30.here hx rfl (hb hby at_240)  k_) ?_
    refine GoOn.st (fun t_ k_ => XS.lconst X30.here hx rfl (hb hby at_241)  k_) ?_
    refine GoOn.st (fun t_ k_ => X30.ldc2Long hx hown (mvT hZ (hw _ (List.mem_of_getElem? (i := 96) rfl))) (g := (mkF m 242 #[.val (.int p1), .val (.int p2), .val (.long q1), .second, .val (.long q2), .second, .val (.long q3), .second, .val (.int b), .val (.int (2 : Int32)), .val (.ref b29), .unset, .val (.long y2), .second, .unset, .unset, .unset] [(.long (0 : Int64)), (.long (0 : Int64)), (.long y2), (.ref b29)])) rfl (hb hby at_242) _ k_) ?_
    refine GoOn.st (fun t_ k_ => XS.lconst X30.here hx rfl (hb hby at_245)  k_) ?_
    show GoOn _ _ _ _ (T30.setTop (mkF m 246 #[.val (.int p1), .val (.int p2), .val (.long q1), .second, .val (.long q2), .second, .val (.long q3), .second, .val (.int b), .val (.int (2 : Int32)), .val (.ref b29), .unset, .val (.long y2), .second, .unset, .unset, .unset] [(.long (0 : Int64)), (.long (2305843009213693952 : Int64)), (.long (0 : Int64)), (.long (0 : Int64)), (.long y2), (.ref b29)]))
    refine GoOn.st (fun t_ k_ => XS.lconst X30.here hx rfl (hb hby at_246)  k_) ?_
    show GoOn _ _ _ _ (T30.setTop (mkF m 247 #[.val (.int p1), .val (.int p2), .val (.long q1), .second, .val (.long q2), .second, .val (.long q3), .second, .val (.int b), .val (.int (2 : Int32)), .val (.ref b29), .unset, .val (.long y2), .second, .unset, .unset, .unset] [(.long (0 : Int64)), (.long (0 : Int64)), (.long (2305843009213693952 : Int64)), (.long (0 : Int64)), (.long (0 : Int64)), (.long y2), (.ref b29)]))
    have I31 : own_I Z h29 b29 (0 : Int64) (0 : Int64) (0 : Int64) (0 : Int64) (0 : Int64) (0 : Int64) (0 : Int64) (0 : Int64) (0 : Int64) (0 : Int64) (0 : Int64) (0 : Int64) (0 : Int64) (0 : Int64) := ⟨A29, F_limb0_b29, F_limb1_b29, F_limb2_b29, F_limb3_b29, F_limb4_b29, F_limb5_b29, F_product0_b29, F_product1_b29, F_product2_b29, F_product3_b29, F_product4_b29, F_product5_b29, F_column_b29, F_columnCarries_b29⟩
    refine GoOn.callV (W := 0) (argsL := [(.long y2), (.long (0 : Int64)), (.long (0 : Int64)), (.long (2305843009213693952 : Int64)), (.long (0 : Int64)), (.long (0 : Int64))]) (rest := []) (a := b29) X30 hx hZ hown (hw _ (List.mem_of_getElem? (i := 29) rfl)) (hw _ (List.mem_of_getElem? (i := 30) rfl)) (notFace_of_selects (args := #[]) (mvT hZ (hw _ (List.mem_of_getElem? (i := 32) rfl)))) (hw _ (List.mem_of_getElem? (i := 32) rfl)) (hw _ (List.mem_of_getElem? (i := 31) rfl)) (hw _ (List.mem_of_getElem? (i := 2) rfl)) (hw _ (List.mem_of_getElem? (i := 33) rfl)) (by decide) (rm_add l Z a0 hw b29 (0 : Int64) (0 : Int64) (0 : Int64) (0 : Int64) (0 : Int64) (0 : Int64) (0 : Int64) (0 : Int64) (0 : Int64) (0 : Int64) (0 : Int64) (0 : Int64) (0 : Int64) y2 (0 : Int64) (0 : Int64) (2305843009213693952 : Int64) (0 : Int64) (0 : Int64) h29 n0 g_b29 I31 (by rw [e_y2]; exact ⟨Int.le_trans (by decide) (own_shr3_bd q1).1, Int.le_trans (own_shr3_bd q1).2 (by decide)⟩) (by decide) (by decide) (by decide)) e30 (own_I_exa I31) (by decide) (by decide) (by rw [hml]; rfl) pd_13 rfl rfl (Nat.le_of_eq rfl) (hb hby at_247) (by decide) (by decide) ?_
    rintro _ T32 L32 X32 ⟨rfl, N32q, l0_32, l1_32, l2_32, l3_32, l4_32, l5_32, p0_32, p1_32, p2_32, p3_32, p4_32, p5_32, cc32, I32, eq32⟩
    have N32 := Fr.app N0 N32q
    refine GoOn.st (fun t_ k_ => XS.pop X32.here hx rfl (hb hby at_250) rfl rfl k_) ?_
    refine GoOn.st (fun t_ k_ => XS.lload X32.here hx rfl (hb hby at_251) rfl k_) ?_
    refine GoOn.st (fun t_ k_ => XS.lconst X32.here hx rfl (hb hby at_253)  k_) ?_
    show GoOn _ _ _ _ (T32.setTop (mkF m 254 #[.val (.int p1), .val (.int p2), .val (.long q1), .second, .val (.long q2), .second, .val (.long q3), .second, .val (.int b), .val (.int (2 : Int32)), .val (.ref b29), .unset, .val (.long y2), .second, .unset, .unset, .unset] [(.long (0 : Int64)), (.long y2)]))
    refine GoOn.st (fun t_ k_ => XS.lcmp X32.here hx rfl (hb hby at_254) rfl k_) ?_
    have dm33 : ∀ zz : Int32, zz = (if y2 = (0 : Int64) then (1 : Int32) else (0 : Int32)) → ∀ t_, Steps p.tables e below (T32.setTop (mkF m 263 #[.val (.int p1), .val (.int p2), .val (.long q1), .second, .val (.long q2), .second, .val (.long q3), .second, .val (.int b), .val (.int (2 : Int32)), .val (.ref b29), .unset, .val (.long y2), .second, .unset, .unset, .unset] [(.int zz)])) t_ → Steps p.tables e below (T32.setTop (mkF m 255 #[.val (.int p1), .val (.int p2), .val (.long q1), .second, .val (.long q2), .second, .val (.long q3), .second, .val (.int b), .val (.int (2 : Int32)), .val (.ref b29), .unset, .val (.long y2), .second, .unset, .unset, .unset] [(.int (lcmpW y2 (0 : Int64)))])) t_ := by
      intro zz hzz t_ k_; by_cases hc : y2 = (0 : Int64)
      · rw [hzz.trans (if_pos hc)] at k_
        refine XS.ifNo X32.here hx rfl (hb hby at_255) rfl ((if0 _ _).trans (teq ((lw_eq y2 (0 : Int64)).mpr hc)).2) ?_
        show Steps _ _ _ (T32.setTop (mkF m 258 #[.val (.int p1), .val (.int p2), .val (.long q1), .second, .val (.long q2), .second, .val (.long q3), .second, .val (.int b), .val (.int (2 : Int32)), .val (.ref b29), .unset, .val (.long y2), .second, .unset, .unset, .unset] [])) _
        refine XS.iconst X32.here hx rfl (hb hby at_258) ?_
        show Steps _ _ _ (T32.setTop (mkF m 259 #[.val (.int p1), .val (.int p2), .val (.long q1), .second, .val (.long q2), .second, .val (.long q3), .second, .val (.int b), .val (.int (2 : Int32)), .val (.ref b29), .unset, .val (.long y2), .second, .unset, .unset, .unset] [(.int (1 : Int32))])) _
        exact XS.goto X32.here hx rfl (pc0 := 259) (pc' := 263) rfl (hb hby at_259) (by decide) (by decide) k_
      · rw [hzz.trans (if_neg hc)] at k_
        refine XS.ifYes X32.here hx rfl (pc0 := 255) (pc' := 262) rfl (hb hby at_255) rfl ((if0 _ _).trans (feq (fun q => hc ((lw_eq y2 (0 : Int64)).mp q))).2) (by decide) (by decide) ?_
        show Steps _ _ _ (T32.setTop (mkF m 262 #[.val (.int p1), .val (.int p2), .val (.long q1), .second, .val (.long q2), .second, .val (.long q3), .second, .val (.int b), .val (.int (2 : Int32)), .val (.ref b29), .unset, .val (.long y2), .second, .unset, .unset, .unset] [])) _
        exact XS.iconst X32.here hx rfl (hb hby at_262) k_
    refine GoOn.st (dm33 _ rfl) ?_
    refine GoOn.st (fun t_ k_ => XS.istore X32.here hx rfl (hb hby at_263) rfl (l' := #[.val (.int p1), .val (.int p2), .val (.long q1), .second, .val (.long q2), .second, .val (.long q3), .second, .val (.int b), .val (.int (2 : Int32)), .val (.ref b29), .val (.int (if y2 = (0 : Int64) then (1 : Int32) else (0 : Int32))), .val (.long y2), .second, .unset, .unset, .unset]) rfl k_) ?_
    refine GoOn.st (fun t_ k_ => XS.goto X32.here hx rfl (pc0 := 265) (pc' := 280) rfl (hb hby at_265) (by decide) (by decide) k_) ?_
    show GoOn _ _ _ _ (T32.setTop (mkF m 280 #[.val (.int p1), .val (.int p2), .val (.long q1), .second, .val (.long q2), .second, .val (.long q3), .second, .val (.int b), .val (.int (2 : Int32)), .val (.ref b29), .val (.int (if y2 = (0 : Int64) then (1 : Int32) else (0 : Int32))), .val (.long y2), .second, .unset, .unset, .unset] []))
    refine GoOn.st (fun t_ k_ => XS.aload X32.here hx rfl (hb hby at_280) rfl rfl k_) ?_
    refine GoOn.st (fun t_ k_ => XS.iload X32.here hx rfl (hb hby at_282) rfl k_) ?_
    show GoOn _ _ _ _ (T32.setTop (mkF m 284 #[.val (.int p1), .val (.int p2), .val (.long q1), .second, .val (.long q2), .second, .val (.long q3), .second, .val (.int b), .val (.int (2 : Int32)), .val (.ref b29), .val (.int (if y2 = (0 : Int64) then (1 : Int32) else (0 : Int32))), .val (.long y2), .second, .unset, .unset, .unset] [(.int b), (.ref b29)]))
    refine GoOn.callV (W := 0) (argsL := [(.int b)]) (rest := []) (a := b29) X32 hx hZ hown (hw _ (List.mem_of_getElem? (i := 21) rfl)) (hw _ (List.mem_of_getElem? (i := 22) rfl)) (notFace_of_selects (args := #[]) (mvT hZ (hw _ (List.mem_of_getElem? (i := 24) rfl)))) (hw _ (List.mem_of_getElem? (i := 24) rfl)) (hw _ (List.mem_of_getElem? (i := 23) rfl)) (hw _ (List.mem_of_getElem? (i := 2) rfl)) (hw _ (List.mem_of_getElem? (i := 25) rfl)) (by decide) (rm_fits l Z a0 hw b29 l0_32 l1_32 l2_32 l3_32 l4_32 l5_32 p0_32 p1_32 p2_32 p3_32 p4_32 p5_32 cc32 (0 : Int64) b T32.heap I32) rfl (own_I_exa I32) (by decide) (by decide) (by rw [hml]; rfl) pd_11 rfl rfl (Nat.le_of_eq rfl) (hb hby at_284) (by decide) (by decide) ?_
    rintro _ T34 L34 X34 ⟨rfl, rfl, e34⟩
    rw [List.append_nil] at X34
    refine GoOn.st (fun t_ k_ => XS.iload X34.here hx rfl (hb hby at_287) rfl k_) ?_
    refine GoOn.st (fun t_ k_ => XS.icmpNo X34.here hx rfl (hb hby at_289) rfl (teq (own_law2 hB (by rw [e_y2]; exact own_shr3_bd q1) eq32)).2 k_) ?_
    refine GoOn.st (fun t_ k_ => XS.iconst X34.here hx rfl (hb hby at_292)  k_) ?_
    show GoOn _ _ _ _ (T34.setTop (mkF m 293 #[.val (.int p1), .val (.int p2), .val (.long q1), .second, .val (.long q2), .second, .val (.long q3), .second, .val (.int b), .val (.int (2 : Int32)), .val (.ref b29), .val (.int (if y2 = (0 : Int64) then (1 : Int32) else (0 : Int32))), .val (.long y2), .second, .unset, .unset, .unset] [(.int (1 : Int32))]))
    refine GoOn.st (fun t_ k_ => XS.goto X34.here hx rfl (pc0 := 293) (pc' := 297) rfl (hb hby at_293) (by decide) (by decide) k_) ?_
    show GoOn _ _ _ _ (T34.setTop (mkF m 297 #[.val (.int p1), .val (.int p2), .val (.long q1), .second, .val (.long q2), .second, .val (.long q3), .second, .val (.int b), .val (.int (2 : Int32)), .val (.ref b29), .val (.int (if y2 = (0 : Int64) then (1 : Int32) else (0 : Int32))), .val (.long y2), .second, .unset, .unset, .unset] [(.int (1 : Int32))]))
    exact GoOn.retZ X34 hx hlk hret (by simp) rfl (hb hby at_297) ⟨rfl, N32⟩ (by decide) (by decide)
  · rw [hk1]
    refine GoOn.st (fun t_ k_ => XS.iload X0.here hx rfl (hb hby at_14) rfl k_) ?_
    refine GoOn.st (fun t_ k_ => XS.ifYes X0.here hx rfl (pc0 := 16) (pc' := 99) rfl (hb hby at_16) rfl ((if0 _ _).trans (feq (by decide : ¬ ((3 : Int32) = (0 : Int32)))).2) (by decide) (by decide) k_) ?_
    refine GoOn.st (fun t_ k_ => XS.iload X0.here hx rfl (hb hby at_99) rfl k_) ?_
    show GoOn _ _ _ _ (s₁.setTop (mkF m 101 #[.val (.int p1), .val (.int p2), .val (.long q1), .second, .val (.long q2), .second, .val (.long q3), .second, .val (.int b), .val (.int (3 : Int32)), .unset, .unset, .unset, .unset, .unset, .unset, .unset] [(.int (3 : Int32))]))
    refine GoOn.st (fun t_ k_ => XS.iconst X0.here hx rfl (hb hby at_101)  k_) ?_
    refine GoOn.st (fun t_ k_ => XS.icmpYes X0.here hx rfl (pc0 := 102) (pc' := 216) rfl (hb hby at_102) rfl (feq (by decide : ¬ ((3 : Int32) = (1 : Int32)))).2 (by decide) (by decide) k_) ?_
    refine GoOn.st (fun t_ k_ => XS.iload X0.here hx rfl (hb hby at_216) rfl k_) ?_
    refine GoOn.st (fun t_ k_ => XS.iconst X0.here hx rfl (hb hby at_218)  k_) ?_
    show GoOn _ _ _ _ (s₁.setTop (mkF m 219 #[.val (.int p1), .val (.int p2), .val (.long q1), .second, .val (.long q2), .second, .val (.long q3), .second, .val (.int b), .val (.int (3 : Int32)), .unset, .unset, .unset, .unset, .unset, .unset, .unset] [(.int (2 : Int32)), (.int (3 : Int32))]))
    refine GoOn.st (fun t_ k_ => XS.icmpYes X0.here hx rfl (pc0 := 219) (pc' := 268) rfl (hb hby at_219) rfl (feq (by decide : ¬ ((3 : Int32) = (2 : Int32)))).2 (by decide) (by decide) k_) ?_
    obtain ⟨T35, h35, X35, e35, E35, A35, D35, -, st35⟩ := newO X0 hx hZ hown (hw _ (List.mem_of_getElem? (i := 0) rfl)) (hw _ (List.mem_of_getElem? (i := 1) rfl)) (hw _ (List.mem_of_getElem? (i := 2) rfl)) e0 (g := (mkF m 268 #[.val (.int p1), .val (.int p2), .val (.long q1), .second, .val (.long q2), .second, .val (.long q3), .second, .val (.int b), .val (.int (3 : Int32)), .unset, .unset, .unset, .unset, .unset, .unset, .unset] [])) rfl (hb hby at_268) (by decide) (by decide)
    obtain ⟨b35, g35⟩ : ∃ z, z = h0.size := ⟨_, rfl⟩
    rw [← g35] at A35 D35 st35
    have g_b35 : n0 ≤ b35 := Nat.le_trans Z0 (Nat.le_of_eq g35.symm)
    have F_limb0_b35 : Fld Z h35 b35 "com/example/nano_embed/nanoembed/geometry/Int384" "limb0" "J" (.long (0 : Int64)) := D35 (Or.inl (hw _ (List.mem_of_getElem? (i := 10) rfl))) (ty := .long) (by decide)
    have F_limb1_b35 : Fld Z h35 b35 "com/example/nano_embed/nanoembed/geometry/Int384" "limb1" "J" (.long (0 : Int64)) := D35 (Or.inl (hw _ (List.mem_of_getElem? (i := 12) rfl))) (ty := .long) (by decide)
    have F_limb2_b35 : Fld Z h35 b35 "com/example/nano_embed/nanoembed/geometry/Int384" "limb2" "J" (.long (0 : Int64)) := D35 (Or.inl (hw _ (List.mem_of_getElem? (i := 14) rfl))) (ty := .long) (by decide)
    have F_limb3_b35 : Fld Z h35 b35 "com/example/nano_embed/nanoembed/geometry/Int384" "limb3" "J" (.long (0 : Int64)) := D35 (Or.inl (hw _ (List.mem_of_getElem? (i := 16) rfl))) (ty := .long) (by decide)
    have F_limb4_b35 : Fld Z h35 b35 "com/example/nano_embed/nanoembed/geometry/Int384" "limb4" "J" (.long (0 : Int64)) := D35 (Or.inl (hw _ (List.mem_of_getElem? (i := 18) rfl))) (ty := .long) (by decide)
    have F_limb5_b35 : Fld Z h35 b35 "com/example/nano_embed/nanoembed/geometry/Int384" "limb5" "J" (.long (0 : Int64)) := D35 (Or.inl (hw _ (List.mem_of_getElem? (i := 20) rfl))) (ty := .long) (by decide)
    have F_product0_b35 : Fld Z h35 b35 "com/example/nano_embed/nanoembed/geometry/Int384" "product0" "J" (.long (0 : Int64)) := D35 (Or.inl (hw _ (List.mem_of_getElem? (i := 49) rfl))) (ty := .long) (by decide)
    have F_column_b35 : Fld Z h35 b35 "com/example/nano_embed/nanoembed/geometry/Int384" "column" "J" (.long (0 : Int64)) := D35 (Or.inl (hw _ (List.mem_of_getElem? (i := 59) rfl))) (ty := .long) (by decide)
    have F_columnCarries_b35 : Fld Z h35 b35 "com/example/nano_embed/nanoembed/geometry/Int384" "columnCarries" "J" (.long (0 : Int64)) := D35 (Or.inl (hw _ (List.mem_of_getElem? (i := 65) rfl))) (ty := .long) (by decide)
    have F_product1_b35 : Fld Z h35 b35 "com/example/nano_embed/nanoembed/geometry/Int384" "product1" "J" (.long (0 : Int64)) := D35 (Or.inl (hw _ (List.mem_of_getElem? (i := 74) rfl))) (ty := .long) (by decide)
    have F_product2_b35 : Fld Z h35 b35 "com/example/nano_embed/nanoembed/geometry/Int384" "product2" "J" (.long (0 : Int64)) := D35 (Or.inl (hw _ (List.mem_of_getElem? (i := 76) rfl))) (ty := .long) (by decide)
    have F_product3_b35 : Fld Z h35 b35 "com/example/nano_embed/nanoembed/geometry/Int384" "product3" "J" (.long (0 : Int64)) := D35 (Or.inl (hw _ (List.mem_of_getElem? (i := 78) rfl))) (ty := .long) (by decide)
    have F_product4_b35 : Fld Z h35 b35 "com/example/nano_embed/nanoembed/geometry/Int384" "product4" "J" (.long (0 : Int64)) := D35 (Or.inl (hw _ (List.mem_of_getElem? (i := 80) rfl))) (ty := .long) (by decide)
    have F_product5_b35 : Fld Z h35 b35 "com/example/nano_embed/nanoembed/geometry/Int384" "product5" "J" (.long (0 : Int64)) := D35 (Or.inl (hw _ (List.mem_of_getElem? (i := 87) rfl))) (ty := .long) (by decide)
    refine GoOn.st st35 ?_
    refine GoOn.st (fun t_ k_ => XS.dup X35.here hx rfl (hb hby at_271) rfl rfl k_) ?_
    show GoOn _ _ _ _ (T35.setTop (mkF m 272 #[.val (.int p1), .val (.int p2), .val (.long q1), .second, .val (.long q2), .second, .val (.long q3), .second, .val (.int b), .val (.int (3 : Int32)), .unset, .unset, .unset, .unset, .unset, .unset, .unset] [(.ref b35), (.ref b35)]))
    refine GoOn.callC (W := 1) (argsL := []) (rest := [(.ref b35)]) (a := b35) X35 hx hZ hown rfl (hw _ (List.mem_of_getElem? (i := 26) rfl)) (hw _ (List.mem_of_getElem? (i := 27) rfl)) (hw _ (List.mem_of_getElem? (i := 2) rfl)) (hw _ (List.mem_of_getElem? (i := 28) rfl)) (by decide) (rm_init l Z a0 hw b35 h35) e35 (by decide) (by decide) (by rw [hml]; rfl) pd_12 rfl rfl (Nat.le_of_eq rfl) (hb hby at_272) (by decide) (by decide) ?_
    rintro _ T36 L36 X36 ⟨rfl, rfl, e36⟩
    rw [List.append_nil] at X36
    refine GoOn.st (fun t_ k_ => XS.astore X36.here hx rfl (hb hby at_275) rfl rfl (l' := #[.val (.int p1), .val (.int p2), .val (.long q1), .second, .val (.long q2), .second, .val (.long q3), .second, .val (.int b), .val (.int (3 : Int32)), .val (.ref b35), .unset, .unset, .unset, .unset, .unset, .unset]) rfl k_) ?_
    refine GoOn.st (fun t_ k_ => XS.iconst X36.here hx rfl (hb hby at_277)  k_) ?_
    refine GoOn.st (fun t_ k_ => XS.istore X36.here hx rfl (hb hby at_278) rfl (l' := #[.val (.int p1), .val (.int p2), .val (.long q1), .second, .val (.long q2), .second, .val (.long q3), .second, .val (.int b), .val (.int (3 : Int32)), .val (.ref b35), .val (.int (1 : Int32)), .unset, .unset, .unset, .unset, .unset]) rfl k_) ?_
    show GoOn _ _ _ _ (T36.setTop (mkF m 280 #[.val (.int p1), .val (.int p2), .val (.long q1), .second, .val (.long q2), .second, .val (.long q3), .second, .val (.int b), .val (.int (3 : Int32)), .val (.ref b35), .val (.int (1 : Int32)), .unset, .unset, .unset, .unset, .unset] []))
    refine GoOn.st (fun t_ k_ => XS.aload X36.here hx rfl (hb hby at_280) rfl rfl k_) ?_
    refine GoOn.st (fun t_ k_ => XS.iload X36.here hx rfl (hb hby at_282) rfl k_) ?_
    show GoOn _ _ _ _ (T36.setTop (mkF m 284 #[.val (.int p1), .val (.int p2), .val (.long q1), .second, .val (.long q2), .second, .val (.long q3), .second, .val (.int b), .val (.int (3 : Int32)), .val (.ref b35), .val (.int (1 : Int32)), .unset, .unset, .unset, .unset, .unset] [(.int b), (.ref b35)]))
    have I37 : own_I Z h35 b35 (0 : Int64) (0 : Int64) (0 : Int64) (0 : Int64) (0 : Int64) (0 : Int64) (0 : Int64) (0 : Int64) (0 : Int64) (0 : Int64) (0 : Int64) (0 : Int64) (0 : Int64) (0 : Int64) := ⟨A35, F_limb0_b35, F_limb1_b35, F_limb2_b35, F_limb3_b35, F_limb4_b35, F_limb5_b35, F_product0_b35, F_product1_b35, F_product2_b35, F_product3_b35, F_product4_b35, F_product5_b35, F_column_b35, F_columnCarries_b35⟩
    refine GoOn.callV (W := 0) (argsL := [(.int b)]) (rest := []) (a := b35) X36 hx hZ hown (hw _ (List.mem_of_getElem? (i := 21) rfl)) (hw _ (List.mem_of_getElem? (i := 22) rfl)) (notFace_of_selects (args := #[]) (mvT hZ (hw _ (List.mem_of_getElem? (i := 24) rfl)))) (hw _ (List.mem_of_getElem? (i := 24) rfl)) (hw _ (List.mem_of_getElem? (i := 23) rfl)) (hw _ (List.mem_of_getElem? (i := 2) rfl)) (hw _ (List.mem_of_getElem? (i := 25) rfl)) (by decide) (rm_fits l Z a0 hw b35 (0 : Int64) (0 : Int64) (0 : Int64) (0 : Int64) (0 : Int64) (0 : Int64) (0 : Int64) (0 : Int64) (0 : Int64) (0 : Int64) (0 : Int64) (0 : Int64) (0 : Int64) (0 : Int64) b h35 I37) e36 (own_I_exa I37) (by decide) (by decide) (by rw [hml]; rfl) pd_11 rfl rfl (Nat.le_of_eq rfl) (hb hby at_284) (by decide) (by decide) ?_
    rintro _ T38 L38 X38 ⟨rfl, rfl, e38⟩
    rw [List.append_nil] at X38
    refine GoOn.st (fun t_ k_ => XS.iload X38.here hx rfl (hb hby at_287) rfl k_) ?_
    refine GoOn.st (fun t_ k_ => XS.icmpNo X38.here hx rfl (hb hby at_289) rfl (teq (own_law3 hB)).2 k_) ?_
    refine GoOn.st (fun t_ k_ => XS.iconst X38.here hx rfl (hb hby at_292)  k_) ?_
    show GoOn _ _ _ _ (T38.setTop (mkF m 293 #[.val (.int p1), .val (.int p2), .val (.long q1), .second, .val (.long q2), .second, .val (.long q3), .second, .val (.int b), .val (.int (3 : Int32)), .val (.ref b35), .val (.int (1 : Int32)), .unset, .unset, .unset, .unset, .unset] [(.int (1 : Int32))]))
    refine GoOn.st (fun t_ k_ => XS.goto X38.here hx rfl (pc0 := 293) (pc' := 297) rfl (hb hby at_293) (by decide) (by decide) k_) ?_
    show GoOn _ _ _ _ (T38.setTop (mkF m 297 #[.val (.int p1), .val (.int p2), .val (.long q1), .second, .val (.long q2), .second, .val (.long q3), .second, .val (.int b), .val (.int (3 : Int32)), .val (.ref b35), .val (.int (1 : Int32)), .unset, .unset, .unset, .unset, .unset] [(.int (1 : Int32))]))
    exact GoOn.retZ X38 hx hlk hret (by simp) rfl (hb hby at_297) ⟨rfl, N0⟩ (by decide) (by decide)
set_option maxRecDepth 65536 in
set_option maxHeartbeats 40000000 in
theorem comes_1 {Post : Tables → Env → Array Value → State → Outcome → State → Prop} (hpost : ∀ tb e args s v u, (limb_1_1.after args s (.returned v) u = true ∧ limb_1_2.after args s (.returned v) u = true ∧ True) → FrameEnd s (.returned v) u (Jvm.fieldLocs frame_1_writes args s ++ Jvm.arrayLocs frame_1_arrays args s ++ Jvm.staticLocs frame_1_statics s) 16 128 → Post tb e args s (.returned v) u) :
    ArmFor flags0 classFile x code maxLocals ret World_1 tables_1 room_1 Calls_1 rest_1 Pre_1 Post := by
  intro l hfl _ _ p e ha hc hk s m args below hf hA hF happ hP
  obtain ⟨hcalls, hrest, hpre⟩ := hP
  obtain ⟨-, -, -, hnamed, -, -, -, hat⟩ := (Spec.applies_iff hf).mp happ
  obtain ⟨hg, hn⟩ := and_e (Cond.before_iff.mp (show (Jvm.Cond.and given_1 narrow_1).before args s = true from hpre))
  obtain ⟨hcount, hk0⟩ := and_e hg
  obtain ⟨ha0, hk1⟩ := and_e hk0
  obtain ⟨ha1, hk2⟩ := and_e hk1
  obtain ⟨ha2, hk3⟩ := and_e hk2
  obtain ⟨ha3, hk4⟩ := and_e hk3
  obtain ⟨w0, w1, w2, w3, w4, rfl⟩ : ∃ w0 w1 w2 w3 w4 : Value, args = #[w0, w1, w2, w3, w4] := by
    have hs : args.size = 5 := by simpa [Cond.value, given_1] using hcount
    obtain ⟨L⟩ := args
    match L, hs with
    | [w0, w1, w2, w3, w4], _ => exact ⟨w0, w1, w2, w3, w4, rfl⟩
  have hw := fun d (hd : d ∈ tables_1) => atoms_spec (ws := Jvm.Cond.code x code maxLocals ret :: tables_1) hat d (List.mem_cons_of_mem _ hd)
  have hfit : Fit s := fun {y c} hc i hi => by
    obtain ⟨ha, rfl⟩ := Array.getElem?_eq_some_iff.mp hc
    have q := List.all_eq_true.mp ((Array.all_eq_true_iff_forall_mem.mp hF) _ (Array.getElem_mem ha)) i (List.mem_range.mpr hi)
    simpa [Array.getElem?_eq_getElem hi] using q
  obtain ⟨i0, ei0⟩ := is_v ha0
  obtain rfl : w0 = (.int i0) := Option.some.inj ei0
  obtain ⟨i1, ei1⟩ := is_v ha1
  obtain rfl : w1 = (.int i1) := Option.some.inj ei1
  obtain ⟨i2, ei2⟩ := isL_v ha2
  obtain rfl : w2 = (.long i2) := Option.some.inj ei2
  obtain ⟨i3, ei3⟩ := isL_v ha3
  obtain rfl : w3 = (.long i3) := Option.some.inj ei3
  obtain ⟨i4, ei4⟩ := isL_v hk4
  obtain rfl : w4 = (.long i4) := Option.some.inj ei4
  obtain ⟨n, o, h1, h2, h3, _, L, rfl, ⟨rfl, N⟩, hq⟩ := rm_law l s _ hw tables_1 i0 i1 i2 i3 i4 s.heap s.heap.size (Nat.le_refl _) p e ha hc hk s m _ below hf ((Spec.applies_iff_loose hf).mp happ).1 ⟨rfl, State.Warmed39.refl s, rfl⟩ trivial
  refine ⟨n, _, h1, h2, h3, hpost _ _ _ _ _ _ ⟨Cond.after_iff.mpr rfl, Cond.after_iff.mpr (eq_i res_at (Term.int_eval (1)) rfl), trivial⟩ ⟨hq.1, hq.2.1, (hq.2.2.sift fun y hy => Or.inr (N y hy)).mono (by decide) (by decide)⟩⟩
theorem main_1_1 : Claimed_1_1 := comes_1 fun _ _ _ _ _ _ h hF => ⟨h.1, hF⟩
theorem main_1_2 : Claimed_1_2 := comes_1 fun _ _ _ _ _ _ h hF => ⟨h.2.1, hF⟩
end Jvm.Pilot.@@N@@
namespace Jvm.Pilot.@@N@@
open Jvm Jvm.ClassFile Sem Op Lib Jvm.Free Jvm.Stand Jvm.Pilot.@@N@@.Jvm.D
/-! MADE BY PROGRAM (witnessworld.py) out of the Statement's table words and the real class files: 11 classes; the members and pool entries that the words name. The judged class is class 1, her method 1. -/
namespace start1
open Jvm.ClassFile
def u (s : String) : CpInfo := .utf8 (stringToUtf16 s)
/-- a pool by its gaps: so many unusable entries, then the entry; so many at the end -/
def gap : Nat → List CpInfo → List CpInfo
  | 0, r => r
  | n + 1, r => .unusable :: gap n r
def poolList (es : List (Nat × CpInfo)) (last : Nat) : List CpInfo := es.foldr (fun e r => gap e.1 (e.2 :: r)) (gap last [])
def pool (es : List (Nat × CpInfo)) (last : Nat) : Array CpInfo := ⟨poolList es last⟩
def fileOf (pool : Array CpInfo) (this : Nat) (attrs : Array Attribute := #[]) (ms : Array MethodInfo := #[]) (fl : Nat := 33) (sup : Nat := 0) (ifs : Array Nat := #[]) (fds : Array FieldInfo := #[]) : ClassFile where
  minorVersion := 0
  majorVersion := 65
  constantPool := pool
  accessFlags := fl
  thisClass := this
  superClass := sup
  interfaces := ifs
  fields := fds
  methods := ms
  attributes := attrs
def plain (name : String) (sup : Option ClassId) : Class where
  name := name
  kind := .ordinary
  loader := none
  accessFlags := 33
  super := sup
  interfaces := #[]
  cf := none
  fields := #[]
  methods := #[]
  instanceTypes := #[]
  staticTypes := #[]
  resolved := #[]
  callSites := []
  init := .initialized
  statics := none
  mirror := none

def pool0 : Array CpInfo := pool [(5, u "<init>"), (0, u "()V"), (1, .class_ 10), (1, u "java/lang/Object")] 113

def k0c0 : Code := { maxStack := 0, maxLocals := 1, code := object_method_1_code, exceptionTable := #[], attributes := #[] }
def k0m0 : Method := { name := "<init>", desc := "()V", sig := { parameters := [], returnType := none }, accessFlags := 1, code := some k0c0 }
/-- java/lang/Object -/
def k0 : Class := { plain "java/lang/Object" none with
  accessFlags := 33
  interfaces := #[]
  cf := some (fileOf pool0 8 #[] #[{ accessFlags := 1, nameIndex := 5, descriptorIndex := 6, attributes := #[] }] 33 0 #[] #[])
  fields := #[]
  methods := #[k0m0]
  instanceTypes := #[]
  staticTypes := #[]
  resolved := Array.replicate 124 none
  statics := none }

def pool1 : Array CpInfo := pool [(2, .class_ 4), (0, .nameAndType 5 6), (0, u "java/lang/Object"), (0, u "<init>"), (0, u "()V"), (0, .class_ 8), (0, u "com/example/nano_embed/nanoembed/geometry/Int384"), (0, .methodref 7 10), (0, .nameAndType 5 11), (0, u "(JJJ)V"), (0, .methodref 13 14), (0, .class_ 15), (0, .nameAndType 16 17), (0, u "com/example/nano_embed/nanoembed/geometry/Int384FitsPinLaw"), (0, u "inRange"), (0, u "(JJI)Z"), (0, .methodref 7 3), (0, .methodref 7 20), (0, .nameAndType 21 22), (0, u "add"), (0, u "(JJJJJJ)Lcom/example/nano_embed/nanoembed/geometry/Int384;"), (0, .long 2305843009213693952), (1, .methodref 7 26), (0, .nameAndType 27 28), (0, u "fits"), (0, u "(I)Z"), (0, .long 18446744073709551615), (3, u "law"), (0, u "(IIJJJ)Z")] 3

def k1m0 : Method := { name := "<init>", desc := "()V", sig := { parameters := [], returnType := none }, accessFlags := 2, code := none }
def k1c1 : Code := { maxStack := 13, maxLocals := 17, code := code, exceptionTable := #[], attributes := #[] }
def k1m1 : Method := { name := "law", desc := "(IIJJJ)Z", sig := { parameters := [.int, .int, .long, .long, .long], returnType := some .boolean }, accessFlags := 9, code := some k1c1 }
def k1c2 : Code := { maxStack := 5, maxLocals := 5, code := method_3_code, exceptionTable := #[], attributes := #[] }
def k1m2 : Method := { name := "inRange", desc := "(JJI)Z", sig := { parameters := [.long, .long, .int], returnType := some .boolean }, accessFlags := 10, code := some k1c2 }
/-- com/example/nano_embed/nanoembed/geometry/Int384FitsPinLaw -/
def k1 : Class := { plain "com/example/nano_embed/nanoembed/geometry/Int384FitsPinLaw" (some 0) with
  accessFlags := 49
  interfaces := #[]
  cf := some (fileOf pool1 13 #[] #[{ accessFlags := 2, nameIndex := 5, descriptorIndex := 6, attributes := #[] }, { accessFlags := 9, nameIndex := 33, descriptorIndex := 34, attributes := #[] }, { accessFlags := 10, nameIndex := 16, descriptorIndex := 17, attributes := #[] }] 49 2 #[] #[])
  fields := #[]
  methods := #[k1m0, k1m1, k1m2]
  instanceTypes := #[]
  staticTypes := #[]
  resolved := Array.replicate 38 none
  statics := none }

def pool2 : Array CpInfo := pool [(1, .methodref 2 3), (0, .class_ 4), (0, .nameAndType 5 6), (0, u "java/lang/Object"), (0, u "<init>"), (0, u "()V"), (0, .fieldref 8 9), (0, .class_ 10), (0, .nameAndType 11 12), (0, u "com/example/nano_embed/nanoembed/geometry/Int384"), (0, u "limb0"), (0, u "J"), (0, .fieldref 8 14), (0, .nameAndType 15 12), (0, u "limb1"), (0, .fieldref 8 17), (0, .nameAndType 18 12), (0, u "limb2"), (0, .fieldref 8 20), (0, .nameAndType 21 12), (0, u "limb3"), (0, .fieldref 8 23), (0, .nameAndType 24 12), (0, u "limb4"), (0, .fieldref 8 26), (0, .nameAndType 27 12), (0, u "limb5"), (0, .methodref 8 29), (0, .nameAndType 30 31), (0, u "multiplySizes"), (0, u "(JJJJJJ)V"), (0, .methodref 8 33), (0, .nameAndType 34 35), (0, u "addProduct"), (0, u "(Z)V"), (0, .methodref 37 38), (0, .class_ 39), (0, .nameAndType 40 41), (0, u "com/example/nano_embed/nanoembed/geometry/Int128"), (0, u "negatedHigh"), (0, u "(JJ)J"), (0, .long 18446744073709551615), (1, .methodref 8 45), (0, .nameAndType 46 47), (0, u "multiplyLimbs"), (0, u "(JJJJ)V"), (3, .methodref 8 52), (0, .nameAndType 46 53), (0, u "(JJJJJ)V"), (0, .methodref 8 55), (0, .nameAndType 46 31), (0, .fieldref 8 57), (0, .nameAndType 58 12), (0, u "product0"), (0, .methodref 37 60), (0, .nameAndType 61 41), (0, u "unsignedMultiplyHigh"), (0, .fieldref 8 63), (0, .nameAndType 64 12), (0, u "column"), (0, .methodref 8 66), (0, .nameAndType 67 68), (0, u "addToColumn"), (0, u "(J)V"), (0, .methodref 8 70), (0, .nameAndType 71 72), (0, u "nextColumn"), (0, u "()J"), (0, .fieldref 8 74), (0, .nameAndType 75 12), (0, u "product1"), (0, .fieldref 8 77), (0, .nameAndType 78 12), (0, u "product2"), (0, .fieldref 8 80), (0, .nameAndType 81 12), (0, u "product3"), (0, .fieldref 8 83), (0, .nameAndType 84 12), (0, u "product4"), (0, .methodref 86 87), (0, .class_ 88), (0, .nameAndType 89 41), (0, u "java/lang/Math"), (0, u "multiplyHigh"), (0, .methodref 8 91), (0, .nameAndType 92 93), (0, u "lastColumn"), (0, u "(J)J"), (0, .fieldref 8 95), (0, .nameAndType 96 12), (0, u "product5"), (0, .fieldref 8 98), (0, .nameAndType 99 12), (0, u "columnCarries"), (0, .methodref 37 101), (0, .nameAndType 102 103), (0, u "carry"), (0, u "(JJJ)J"), (4, u "(JJJ)V"), (0, u "add"), (0, u "(JJJJJJ)Lcom/example/nano_embed/nanoembed/geometry/Int384;"), (4, u "fits"), (0, u "(I)Z")] 5

def k2c0 : Code := { maxStack := 1, maxLocals := 1, code := prog_29_method_1_code, exceptionTable := #[], attributes := #[] }
def k2m0 : Method := { name := "<init>", desc := "()V", sig := { parameters := [], returnType := none }, accessFlags := 0, code := some k2c0 }
def k2c1 : Code := { maxStack := 3, maxLocals := 9, code := prog_29_method_2_code, exceptionTable := #[], attributes := #[] }
def k2m1 : Method := { name := "<init>", desc := "(JJJ)V", sig := { parameters := [.long, .long, .long], returnType := none }, accessFlags := 0, code := some k2c1 }
def k2c2 : Code := { maxStack := 13, maxLocals := 13, code := prog_29_method_3_code, exceptionTable := #[], attributes := #[] }
def k2m2 : Method := { name := "add", desc := "(JJJJJJ)Lcom/example/nano_embed/nanoembed/geometry/Int384;", sig := { parameters := [.long, .long, .long, .long, .long, .long], returnType := some (.object "com/example/nano_embed/nanoembed/geometry/Int384") }, accessFlags := 0, code := some k2c2 }
def k2c3 : Code := { maxStack := 13, maxLocals := 25, code := prog_29_method_5_code, exceptionTable := #[], attributes := #[] }
def k2m3 : Method := { name := "multiplySizes", desc := "(JJJJJJ)V", sig := { parameters := [.long, .long, .long, .long, .long, .long], returnType := none }, accessFlags := 2, code := some k2c3 }
def k2c4 : Code := { maxStack := 6, maxLocals := 13, code := prog_29_method_6_code, exceptionTable := #[], attributes := #[] }
def k2m4 : Method := { name := "multiplyLimbs", desc := "(JJJJJJ)V", sig := { parameters := [.long, .long, .long, .long, .long, .long], returnType := none }, accessFlags := 2, code := some k2c4 }
def k2c5 : Code := { maxStack := 6, maxLocals := 11, code := prog_29_method_7_code, exceptionTable := #[], attributes := #[] }
def k2m5 : Method := { name := "multiplyLimbs", desc := "(JJJJJ)V", sig := { parameters := [.long, .long, .long, .long, .long], returnType := none }, accessFlags := 2, code := some k2c5 }
def k2c6 : Code := { maxStack := 6, maxLocals := 9, code := prog_29_method_9_code, exceptionTable := #[], attributes := #[] }
def k2m6 : Method := { name := "multiplyLimbs", desc := "(JJJJ)V", sig := { parameters := [.long, .long, .long, .long], returnType := none }, accessFlags := 2, code := some k2c6 }
def k2c7 : Code := { maxStack := 9, maxLocals := 5, code := prog_29_method_10_code, exceptionTable := #[], attributes := #[] }
def k2m7 : Method := { name := "addToColumn", desc := "(J)V", sig := { parameters := [.long], returnType := none }, accessFlags := 2, code := some k2c7 }
def k2c8 : Code := { maxStack := 3, maxLocals := 3, code := prog_29_method_11_code, exceptionTable := #[], attributes := #[] }
def k2m8 : Method := { name := "nextColumn", desc := "()J", sig := { parameters := [], returnType := some .long }, accessFlags := 2, code := some k2c8 }
def k2c9 : Code := { maxStack := 4, maxLocals := 3, code := prog_29_method_12_code, exceptionTable := #[], attributes := #[] }
def k2m9 : Method := { name := "lastColumn", desc := "(J)J", sig := { parameters := [.long], returnType := some .long }, accessFlags := 2, code := some k2c9 }
def k2c10 : Code := { maxStack := 7, maxLocals := 34, code := prog_29_method_13_code, exceptionTable := #[], attributes := #[] }
def k2m10 : Method := { name := "addProduct", desc := "(Z)V", sig := { parameters := [.boolean], returnType := none }, accessFlags := 2, code := some k2c10 }
def k2c11 : Code := { maxStack := 4, maxLocals := 5, code := prog_29_method_15_code, exceptionTable := #[], attributes := #[] }
def k2m11 : Method := { name := "fits", desc := "(I)Z", sig := { parameters := [.int], returnType := some .boolean }, accessFlags := 0, code := some k2c11 }
/-- com/example/nano_embed/nanoembed/geometry/Int384 -/
def k2 : Class := { plain "com/example/nano_embed/nanoembed/geometry/Int384" (some 0) with
  accessFlags := 32
  interfaces := #[]
  cf := some (fileOf pool2 8 #[] #[{ accessFlags := 0, nameIndex := 5, descriptorIndex := 6, attributes := #[] }, { accessFlags := 0, nameIndex := 5, descriptorIndex := 108, attributes := #[] }, { accessFlags := 0, nameIndex := 109, descriptorIndex := 110, attributes := #[] }, { accessFlags := 2, nameIndex := 30, descriptorIndex := 31, attributes := #[] }, { accessFlags := 2, nameIndex := 46, descriptorIndex := 31, attributes := #[] }, { accessFlags := 2, nameIndex := 46, descriptorIndex := 53, attributes := #[] }, { accessFlags := 2, nameIndex := 46, descriptorIndex := 47, attributes := #[] }, { accessFlags := 2, nameIndex := 67, descriptorIndex := 68, attributes := #[] }, { accessFlags := 2, nameIndex := 71, descriptorIndex := 72, attributes := #[] }, { accessFlags := 2, nameIndex := 92, descriptorIndex := 93, attributes := #[] }, { accessFlags := 2, nameIndex := 34, descriptorIndex := 35, attributes := #[] }, { accessFlags := 0, nameIndex := 115, descriptorIndex := 116, attributes := #[] }] 32 2 #[] #[{ accessFlags := 2, nameIndex := 11, descriptorIndex := 12, attributes := #[] }, { accessFlags := 2, nameIndex := 15, descriptorIndex := 12, attributes := #[] }, { accessFlags := 2, nameIndex := 18, descriptorIndex := 12, attributes := #[] }, { accessFlags := 2, nameIndex := 21, descriptorIndex := 12, attributes := #[] }, { accessFlags := 2, nameIndex := 24, descriptorIndex := 12, attributes := #[] }, { accessFlags := 2, nameIndex := 27, descriptorIndex := 12, attributes := #[] }, { accessFlags := 2, nameIndex := 58, descriptorIndex := 12, attributes := #[] }, { accessFlags := 2, nameIndex := 75, descriptorIndex := 12, attributes := #[] }, { accessFlags := 2, nameIndex := 78, descriptorIndex := 12, attributes := #[] }, { accessFlags := 2, nameIndex := 81, descriptorIndex := 12, attributes := #[] }, { accessFlags := 2, nameIndex := 84, descriptorIndex := 12, attributes := #[] }, { accessFlags := 2, nameIndex := 96, descriptorIndex := 12, attributes := #[] }, { accessFlags := 2, nameIndex := 64, descriptorIndex := 12, attributes := #[] }, { accessFlags := 2, nameIndex := 99, descriptorIndex := 12, attributes := #[] }])
  fields := #[{ name := "limb0", type := .long, accessFlags := 2, slot := 0, constantValue := 0 }, { name := "limb1", type := .long, accessFlags := 2, slot := 1, constantValue := 0 }, { name := "limb2", type := .long, accessFlags := 2, slot := 2, constantValue := 0 }, { name := "limb3", type := .long, accessFlags := 2, slot := 3, constantValue := 0 }, { name := "limb4", type := .long, accessFlags := 2, slot := 4, constantValue := 0 }, { name := "limb5", type := .long, accessFlags := 2, slot := 5, constantValue := 0 }, { name := "product0", type := .long, accessFlags := 2, slot := 6, constantValue := 0 }, { name := "product1", type := .long, accessFlags := 2, slot := 7, constantValue := 0 }, { name := "product2", type := .long, accessFlags := 2, slot := 8, constantValue := 0 }, { name := "product3", type := .long, accessFlags := 2, slot := 9, constantValue := 0 }, { name := "product4", type := .long, accessFlags := 2, slot := 10, constantValue := 0 }, { name := "product5", type := .long, accessFlags := 2, slot := 11, constantValue := 0 }, { name := "column", type := .long, accessFlags := 2, slot := 12, constantValue := 0 }, { name := "columnCarries", type := .long, accessFlags := 2, slot := 13, constantValue := 0 }]
  methods := #[k2m0, k2m1, k2m2, k2m3, k2m4, k2m5, k2m6, k2m7, k2m8, k2m9, k2m10, k2m11]
  instanceTypes := #[.long, .long, .long, .long, .long, .long, .long, .long, .long, .long, .long, .long, .long, .long]
  staticTypes := #[]
  resolved := Array.replicate 122 none
  statics := none }

def pool3 : Array CpInfo := pool [(2, .class_ 4), (1, u "java/lang/Object"), (0, u "<init>"), (0, u "()V"), (20, .class_ 29), (1, u "com/example/nano_embed/nanoembed/geometry/Int128"), (0, u "negatedHigh"), (0, u "(JJ)J"), (5, .long 18446744073709551615), (21, u "(JJJ)J"), (26, .methodref 87 88), (0, .class_ 89), (0, .nameAndType 90 31), (0, u "java/lang/Math"), (0, u "multiplyHigh"), (0, u "DIGIT"), (0, u "J"), (1, u "DECIMAL_BASE"), (13, u "carry"), (0, u "unsignedMultiplyHigh")] 2

def k3m0 : Method := { name := "<init>", desc := "()V", sig := { parameters := [], returnType := none }, accessFlags := 2, code := none }
def k3c1 : Code := { maxStack := 6, maxLocals := 4, code := prog_28_method_4_code, exceptionTable := #[], attributes := #[] }
def k3m1 : Method := { name := "negatedHigh", desc := "(JJ)J", sig := { parameters := [.long, .long], returnType := some .long }, accessFlags := 8, code := some k3c1 }
def k3c2 : Code := { maxStack := 8, maxLocals := 6, code := prog_28_method_12_code, exceptionTable := #[], attributes := #[] }
def k3m2 : Method := { name := "carry", desc := "(JJJ)J", sig := { parameters := [.long, .long, .long], returnType := some .long }, accessFlags := 8, code := some k3c2 }
def k3c3 : Code := { maxStack := 6, maxLocals := 4, code := prog_28_method_13_code, exceptionTable := #[], attributes := #[] }
def k3m3 : Method := { name := "unsignedMultiplyHigh", desc := "(JJ)J", sig := { parameters := [.long, .long], returnType := some .long }, accessFlags := 8, code := some k3c3 }
/-- com/example/nano_embed/nanoembed/geometry/Int128 -/
def k3 : Class := { plain "com/example/nano_embed/nanoembed/geometry/Int128" (some 0) with
  accessFlags := 32
  interfaces := #[]
  cf := some (fileOf pool3 27 #[] #[{ accessFlags := 2, nameIndex := 5, descriptorIndex := 6, attributes := #[] }, { accessFlags := 8, nameIndex := 30, descriptorIndex := 31, attributes := #[] }, { accessFlags := 8, nameIndex := 108, descriptorIndex := 59, attributes := #[] }, { accessFlags := 8, nameIndex := 109, descriptorIndex := 31, attributes := #[] }] 32 2 #[] #[{ accessFlags := 26, nameIndex := 91, descriptorIndex := 92, attributes := #[] }, { accessFlags := 24, nameIndex := 94, descriptorIndex := 92, attributes := #[] }])
  fields := #[{ name := "DIGIT", type := .long, accessFlags := 26, slot := 0, constantValue := 0 }, { name := "DECIMAL_BASE", type := .long, accessFlags := 24, slot := 1, constantValue := 0 }]
  methods := #[k3m0, k3m1, k3m2, k3m3]
  instanceTypes := #[]
  staticTypes := #[.long, .long]
  resolved := Array.replicate 112 none
  statics := none }

def pool4 : Array CpInfo := pool [(1, .class_ 2), (0, u "java/lang/Math"), (1, .class_ 6), (1, u "java/lang/Object"), (0, u "<init>"), (0, u "()V"), (89, .class_ 100), (1, u "java/lang/Math$RandomNumberGeneratorHolder"), (20, u "(JJ)J"), (16, .long 4294967295), (3, u "multiplyHigh"), (29, u "negativeZeroFloatBits"), (0, u "J"), (2, u "negativeZeroDoubleBits"), (68, u "$assertionsDisabled"), (0, u "Z"), (91, u "twoToTheDoubleScaleDown"), (0, u "D"), (4, u "twoToTheDoubleScaleUp"), (9, u "E"), (3, u "PI"), (2, u "TAU"), (2, u "DEGREES_TO_RADIANS"), (0, u "RADIANS_TO_DEGREES")] 94

def k4m0 : Method := { name := "<init>", desc := "()V", sig := { parameters := [], returnType := none }, accessFlags := 2, code := none }
def k4c1 : Code := { maxStack := 6, maxLocals := 20, code := jdk_29_method_45_code, exceptionTable := #[], attributes := #[] }
def k4m1 : Method := { name := "multiplyHigh", desc := "(JJ)J", sig := { parameters := [.long, .long], returnType := some .long }, accessFlags := 9, code := some k4c1 }
/-- java/lang/Math -/
def k4 : Class := { plain "java/lang/Math" (some 0) with
  accessFlags := 49
  interfaces := #[]
  cf := some (fileOf pool4 1 #[.nestMembers #[98]] #[{ accessFlags := 2, nameIndex := 7, descriptorIndex := 8, attributes := #[] }, { accessFlags := 9, nameIndex := 142, descriptorIndex := 121, attributes := #[] }] 49 4 #[] #[{ accessFlags := 25, nameIndex := 354, descriptorIndex := 339, attributes := #[] }, { accessFlags := 25, nameIndex := 358, descriptorIndex := 339, attributes := #[] }, { accessFlags := 25, nameIndex := 361, descriptorIndex := 339, attributes := #[] }, { accessFlags := 26, nameIndex := 364, descriptorIndex := 339, attributes := #[] }, { accessFlags := 26, nameIndex := 365, descriptorIndex := 339, attributes := #[] }, { accessFlags := 26, nameIndex := 172, descriptorIndex := 173, attributes := #[] }, { accessFlags := 26, nameIndex := 176, descriptorIndex := 173, attributes := #[] }, { accessFlags := 8, nameIndex := 344, descriptorIndex := 339, attributes := #[] }, { accessFlags := 8, nameIndex := 338, descriptorIndex := 339, attributes := #[] }, { accessFlags := 4120, nameIndex := 245, descriptorIndex := 246, attributes := #[] }])
  fields := #[{ name := "E", type := .double, accessFlags := 25, slot := 0, constantValue := 0 }, { name := "PI", type := .double, accessFlags := 25, slot := 1, constantValue := 0 }, { name := "TAU", type := .double, accessFlags := 25, slot := 2, constantValue := 0 }, { name := "DEGREES_TO_RADIANS", type := .double, accessFlags := 26, slot := 3, constantValue := 0 }, { name := "RADIANS_TO_DEGREES", type := .double, accessFlags := 26, slot := 4, constantValue := 0 }, { name := "negativeZeroFloatBits", type := .long, accessFlags := 26, slot := 5, constantValue := 0 }, { name := "negativeZeroDoubleBits", type := .long, accessFlags := 26, slot := 6, constantValue := 0 }, { name := "twoToTheDoubleScaleUp", type := .double, accessFlags := 8, slot := 7, constantValue := 0 }, { name := "twoToTheDoubleScaleDown", type := .double, accessFlags := 8, slot := 8, constantValue := 0 }, { name := "$assertionsDisabled", type := .boolean, accessFlags := 4120, slot := 9, constantValue := 0 }]
  methods := #[k4m0, k4m1]
  instanceTypes := #[]
  staticTypes := #[.double, .double, .double, .double, .double, .long, .long, .double, .double, .boolean]
  resolved := Array.replicate 460 none
  statics := none }

def pool5 : Array CpInfo := pool [(1, u "java/lang/Cloneable"), (0, .class_ 1), (0, u "java/lang/Object"), (0, .class_ 3)] 3

/-- java/lang/Cloneable -/
def k5 : Class := { plain "java/lang/Cloneable" (some 0) with
  accessFlags := 1537
  interfaces := #[]
  cf := some (fileOf pool5 2 #[] #[] 1537 4 #[] #[])
  fields := #[]
  methods := #[]
  instanceTypes := #[]
  staticTypes := #[]
  resolved := Array.replicate 8 none
  statics := none }

def pool6 : Array CpInfo := pool [(1, u "java/io/Serializable"), (0, .class_ 1), (0, u "java/lang/Object"), (0, .class_ 3)] 3

/-- java/io/Serializable -/
def k6 : Class := { plain "java/io/Serializable" (some 0) with
  accessFlags := 1537
  interfaces := #[]
  cf := some (fileOf pool6 2 #[] #[] 1537 4 #[] #[])
  fields := #[]
  methods := #[]
  instanceTypes := #[]
  staticTypes := #[]
  resolved := Array.replicate 8 none
  statics := none }

/-- the primitive byte -/
def k7 : Class := { plain "byte" none with kind := .primitive 'B', accessFlags := 0x411 }
/-- [B -/
def k8 : Class := { plain "[B" (some 0) with kind := .array 7 .byte, interfaces := #[5, 6], accessFlags := 1041 }

/-- the primitive int -/
def k9 : Class := { plain "int" none with kind := .primitive 'I', accessFlags := 0x411 }
/-- [I -/
def k10 : Class := { plain "[I" (some 0) with kind := .array 9 .int, interfaces := #[5, 6], accessFlags := 1041 }

def heap : Heap := #[]
def classes : Array Class := #[k0, k1, k2, k3, k4, k5, k6, k7, k8, k9, k10]
def interned : List (Array UInt16 × Addr) := []
def slotsUsed : Nat := 0
def theMethod : MethodId := ⟨1, 1⟩
def args0 : Array Value := #[.int 5, .int 7, .long 9, .long 3, .long 4]
def aboutOver (below : List Frame) : State where
  vm := { classes := classes, interned := interned.toArray }
  heap := heap
  slotsUsed := slotsUsed
  threads := #[{ frames := .invoking theMethod args0 :: below }]
def below0 : List Frame := [.native { method := ⟨0, 0⟩, args := #[] }]
def about1 : State := aboutOver below0
def p0 : Program := .bare "" "" ""
def e0 : Env := launch0.env 0 0 0
theorem w_frames : about1.frames = Frame.invoking theMethod args0 :: below0 := rfl
set_option maxRecDepth 65536 in
theorem w_args : argsFit about1.vm theMethod args0 = true := by decide +kernel
set_option maxRecDepth 65536 in
theorem w_heap : heapFits about1 = true := by decide +kernel
set_option maxRecDepth 65536 in
theorem w_runnable : about1.curStatus? = some .runnable := by decide +kernel
set_option maxRecDepth 65536 in
theorem w_alone : about1.alone = true := by decide +kernel
set_option maxRecDepth 65536 in
theorem w_named : about1.methodNamed? x = some theMethod := by decide +kernel
set_option maxRecDepth 65536 in
theorem w_hears : about1.hears theMethod below0 = true := by decide +kernel
set_option maxRecDepth 65536 in
theorem w_ripe : about1.ripe theMethod args0 below0 = true := by decide +kernel
theorem w_running : about1.status = .running := rfl
set_option maxRecDepth 65536 in
theorem w_room : about1.hasRoom e0.platform room_1 = true :=
  launch0.hasRoom_least _ room_1 (by decide +kernel) (by decide +kernel) (by decide +kernel) (by decide +kernel) (by decide +kernel) (by decide +kernel)
theorem allAtoms_all (ts : List Jvm.Cond) (a : Array Jvm.Value) (st : Jvm.State) : (allAtoms ts).before a st = ts.all (fun c => c.before a st) := by
  induction ts with
  | nil => rfl
  | cons c t ih =>
    show (Jvm.Cond.and c (allAtoms t)).before a st = _
    rw [Jvm.Cond.before_and, ih, List.all_cons]
def words1 : List Jvm.Cond := Jvm.Cond.code x code maxLocals ret :: tables_1
/-- a 'code' word, met by the world's own term for the bytes: nothing is compared byte by byte -/
theorem code_word {y : MethodName} {bytes : ByteArray} {mx : Nat} {rt : Option FieldType} {a : Array Value} {s : State} {m : MethodId} {meth : Method} {c : Code} (h1 : s.methodNamed? y = some m) (h2 : s.vm.method? m = some meth) (h3 : meth.code = some c) (h4 : c.code = bytes)
    (h5 : (c.maxLocals == mx && c.exceptionTable.isEmpty && decide (c.maxStack ≤ mostOperands) && decide (meth.sig.returnType = rt) && !meth.locks && decide (parseMethodDescriptor y.desc = some meth.sig)) = true) : (Jvm.Cond.code y bytes mx rt).before a s = true := by
  simp only [Bool.and_eq_true, beq_iff_eq, Bool.not_eq_true', decide_eq_true_eq] at h5
  obtain ⟨⟨⟨⟨⟨g1, g2⟩, g3⟩, g4⟩, g5⟩, g6⟩ := h5
  simp [Cond.before, Cond.holds, Cond.value, h1, h2, h3, h4, g1, g2, g3, g4, g5, g6]
def isCode : Jvm.Cond → Bool
  | .code _ _ _ _ => true
  | _ => false
theorem all_split {L : List Jvm.Cond} {P : Jvm.Cond → Bool} (h1 : L.all (fun c => isCode c || P c) = true) (h2 : ∀ c ∈ L.filter isCode, P c = true) : L.all P = true := by
  refine List.all_eq_true.mpr fun c hc => ?_
  have h := List.all_eq_true.mp h1 c hc
  rcases Bool.eq_false_or_eq_true (isCode c) with hi | hi
  · exact h2 c (List.mem_filter.mpr ⟨hc, hi⟩)
  · simpa [hi] using h
set_option maxRecDepth 65536 in
theorem w_c0 : (Jvm.Cond.code x code maxLocals ret).before args0 about1 = true := code_word (m := ⟨1, 1⟩) (meth := k1m1) (c := k1c1) (by decide +kernel) rfl rfl rfl (by decide +kernel)
set_option maxRecDepth 65536 in
theorem w_c1 : (Jvm.Cond.code ({ cls := "com/example/nano_embed/nanoembed/geometry/Int384", name := "<init>", desc := "(JJJ)V" } : Jvm.MethodName) prog_29_method_2_code (9 : Nat) (Option.none : Option Jvm.ClassFile.FieldType)).before args0 about1 = true := code_word (m := ⟨2, 1⟩) (meth := k2m1) (c := k2c1) (by decide +kernel) rfl rfl rfl (by decide +kernel)
set_option maxRecDepth 65536 in
theorem w_c2 : (Jvm.Cond.code ({ cls := "java/lang/Object", name := "<init>", desc := "()V" } : Jvm.MethodName) object_method_1_code (1 : Nat) (Option.none : Option Jvm.ClassFile.FieldType)).before args0 about1 = true := code_word (m := ⟨0, 0⟩) (meth := k0m0) (c := k0c0) (by decide +kernel) rfl rfl rfl (by decide +kernel)
set_option maxRecDepth 65536 in
theorem w_c3 : (Jvm.Cond.code ({ cls := "com/example/nano_embed/nanoembed/geometry/Int384", name := "fits", desc := "(I)Z" } : Jvm.MethodName) prog_29_method_15_code (5 : Nat) (Option.some Jvm.ClassFile.FieldType.boolean)).before args0 about1 = true := code_word (m := ⟨2, 11⟩) (meth := k2m11) (c := k2c11) (by decide +kernel) rfl rfl rfl (by decide +kernel)
set_option maxRecDepth 65536 in
theorem w_c4 : (Jvm.Cond.code ({ cls := "com/example/nano_embed/nanoembed/geometry/Int384", name := "<init>", desc := "()V" } : Jvm.MethodName) prog_29_method_1_code (1 : Nat) (Option.none : Option Jvm.ClassFile.FieldType)).before args0 about1 = true := code_word (m := ⟨2, 0⟩) (meth := k2m0) (c := k2c0) (by decide +kernel) rfl rfl rfl (by decide +kernel)
set_option maxRecDepth 65536 in
theorem w_c5 : (Jvm.Cond.code ({ cls := "com/example/nano_embed/nanoembed/geometry/Int384", name := "add", desc := "(JJJJJJ)Lcom/example/nano_embed/nanoembed/geometry/Int384;" } : Jvm.MethodName) prog_29_method_3_code (13 : Nat) (Option.some (Jvm.ClassFile.FieldType.object "com/example/nano_embed/nanoembed/geometry/Int384"))).before args0 about1 = true := code_word (m := ⟨2, 2⟩) (meth := k2m2) (c := k2c2) (by decide +kernel) rfl rfl rfl (by decide +kernel)
set_option maxRecDepth 65536 in
theorem w_c6 : (Jvm.Cond.code ({ cls := "com/example/nano_embed/nanoembed/geometry/Int384", name := "multiplySizes", desc := "(JJJJJJ)V" } : Jvm.MethodName) prog_29_method_5_code (25 : Nat) (Option.none : Option Jvm.ClassFile.FieldType)).before args0 about1 = true := code_word (m := ⟨2, 3⟩) (meth := k2m3) (c := k2c3) (by decide +kernel) rfl rfl rfl (by decide +kernel)
set_option maxRecDepth 65536 in
theorem w_c7 : (Jvm.Cond.code ({ cls := "com/example/nano_embed/nanoembed/geometry/Int128", name := "negatedHigh", desc := "(JJ)J" } : Jvm.MethodName) prog_28_method_4_code (4 : Nat) (Option.some Jvm.ClassFile.FieldType.long)).before args0 about1 = true := code_word (m := ⟨3, 1⟩) (meth := k3m1) (c := k3c1) (by decide +kernel) rfl rfl rfl (by decide +kernel)
set_option maxRecDepth 65536 in
theorem w_c8 : (Jvm.Cond.code ({ cls := "com/example/nano_embed/nanoembed/geometry/Int384", name := "multiplyLimbs", desc := "(JJJJJJ)V" } : Jvm.MethodName) prog_29_method_6_code (13 : Nat) (Option.none : Option Jvm.ClassFile.FieldType)).before args0 about1 = true := code_word (m := ⟨2, 4⟩) (meth := k2m4) (c := k2c4) (by decide +kernel) rfl rfl rfl (by decide +kernel)
set_option maxRecDepth 65536 in
theorem w_c9 : (Jvm.Cond.code ({ cls := "com/example/nano_embed/nanoembed/geometry/Int128", name := "unsignedMultiplyHigh", desc := "(JJ)J" } : Jvm.MethodName) prog_28_method_13_code (4 : Nat) (Option.some Jvm.ClassFile.FieldType.long)).before args0 about1 = true := code_word (m := ⟨3, 3⟩) (meth := k3m3) (c := k3c3) (by decide +kernel) rfl rfl rfl (by decide +kernel)
set_option maxRecDepth 65536 in
theorem w_c10 : (Jvm.Cond.code ({ cls := "java/lang/Math", name := "multiplyHigh", desc := "(JJ)J" } : Jvm.MethodName) jdk_29_method_45_code (20 : Nat) (Option.some Jvm.ClassFile.FieldType.long)).before args0 about1 = true := code_word (m := ⟨4, 1⟩) (meth := k4m1) (c := k4c1) (by decide +kernel) rfl rfl rfl (by decide +kernel)
set_option maxRecDepth 65536 in
theorem w_c11 : (Jvm.Cond.code ({ cls := "com/example/nano_embed/nanoembed/geometry/Int384", name := "addToColumn", desc := "(J)V" } : Jvm.MethodName) prog_29_method_10_code (5 : Nat) (Option.none : Option Jvm.ClassFile.FieldType)).before args0 about1 = true := code_word (m := ⟨2, 7⟩) (meth := k2m7) (c := k2c7) (by decide +kernel) rfl rfl rfl (by decide +kernel)
set_option maxRecDepth 65536 in
theorem w_c12 : (Jvm.Cond.code ({ cls := "com/example/nano_embed/nanoembed/geometry/Int128", name := "carry", desc := "(JJJ)J" } : Jvm.MethodName) prog_28_method_12_code (6 : Nat) (Option.some Jvm.ClassFile.FieldType.long)).before args0 about1 = true := code_word (m := ⟨3, 2⟩) (meth := k3m2) (c := k3c2) (by decide +kernel) rfl rfl rfl (by decide +kernel)
set_option maxRecDepth 65536 in
theorem w_c13 : (Jvm.Cond.code ({ cls := "com/example/nano_embed/nanoembed/geometry/Int384", name := "nextColumn", desc := "()J" } : Jvm.MethodName) prog_29_method_11_code (3 : Nat) (Option.some Jvm.ClassFile.FieldType.long)).before args0 about1 = true := code_word (m := ⟨2, 8⟩) (meth := k2m8) (c := k2c8) (by decide +kernel) rfl rfl rfl (by decide +kernel)
set_option maxRecDepth 65536 in
theorem w_c14 : (Jvm.Cond.code ({ cls := "com/example/nano_embed/nanoembed/geometry/Int384", name := "lastColumn", desc := "(J)J" } : Jvm.MethodName) prog_29_method_12_code (3 : Nat) (Option.some Jvm.ClassFile.FieldType.long)).before args0 about1 = true := code_word (m := ⟨2, 9⟩) (meth := k2m9) (c := k2c9) (by decide +kernel) rfl rfl rfl (by decide +kernel)
set_option maxRecDepth 65536 in
theorem w_c15 : (Jvm.Cond.code ({ cls := "com/example/nano_embed/nanoembed/geometry/Int384", name := "addProduct", desc := "(Z)V" } : Jvm.MethodName) prog_29_method_13_code (34 : Nat) (Option.none : Option Jvm.ClassFile.FieldType)).before args0 about1 = true := code_word (m := ⟨2, 10⟩) (meth := k2m10) (c := k2c10) (by decide +kernel) rfl rfl rfl (by decide +kernel)
set_option maxRecDepth 65536 in
theorem w_c16 : (Jvm.Cond.code ({ cls := "com/example/nano_embed/nanoembed/geometry/Int384FitsPinLaw", name := "inRange", desc := "(JJI)Z" } : Jvm.MethodName) method_3_code (5 : Nat) (Option.some Jvm.ClassFile.FieldType.boolean)).before args0 about1 = true := code_word (m := ⟨1, 2⟩) (meth := k1m2) (c := k1c2) (by decide +kernel) rfl rfl rfl (by decide +kernel)
set_option maxRecDepth 65536 in
theorem w_c17 : (Jvm.Cond.code ({ cls := "com/example/nano_embed/nanoembed/geometry/Int384", name := "multiplyLimbs", desc := "(JJJJ)V" } : Jvm.MethodName) prog_29_method_9_code (9 : Nat) (Option.none : Option Jvm.ClassFile.FieldType)).before args0 about1 = true := code_word (m := ⟨2, 6⟩) (meth := k2m6) (c := k2c6) (by decide +kernel) rfl rfl rfl (by decide +kernel)
set_option maxRecDepth 65536 in
theorem w_c18 : (Jvm.Cond.code ({ cls := "com/example/nano_embed/nanoembed/geometry/Int384", name := "multiplyLimbs", desc := "(JJJJJ)V" } : Jvm.MethodName) prog_29_method_7_code (11 : Nat) (Option.none : Option Jvm.ClassFile.FieldType)).before args0 about1 = true := code_word (m := ⟨2, 5⟩) (meth := k2m5) (c := k2c5) (by decide +kernel) rfl rfl rfl (by decide +kernel)
def codes1 : List Jvm.Cond := [Jvm.Cond.code x code maxLocals ret, Jvm.Cond.code ({ cls := "com/example/nano_embed/nanoembed/geometry/Int384", name := "<init>", desc := "(JJJ)V" } : Jvm.MethodName) prog_29_method_2_code (9 : Nat) (Option.none : Option Jvm.ClassFile.FieldType), Jvm.Cond.code ({ cls := "java/lang/Object", name := "<init>", desc := "()V" } : Jvm.MethodName) object_method_1_code (1 : Nat) (Option.none : Option Jvm.ClassFile.FieldType), Jvm.Cond.code ({ cls := "com/example/nano_embed/nanoembed/geometry/Int384", name := "fits", desc := "(I)Z" } : Jvm.MethodName) prog_29_method_15_code (5 : Nat) (Option.some Jvm.ClassFile.FieldType.boolean), Jvm.Cond.code ({ cls := "com/example/nano_embed/nanoembed/geometry/Int384", name := "<init>", desc := "()V" } : Jvm.MethodName) prog_29_method_1_code (1 : Nat) (Option.none : Option Jvm.ClassFile.FieldType), Jvm.Cond.code ({ cls := "com/example/nano_embed/nanoembed/geometry/Int384", name := "add", desc := "(JJJJJJ)Lcom/example/nano_embed/nanoembed/geometry/Int384;" } : Jvm.MethodName) prog_29_method_3_code (13 : Nat) (Option.some (Jvm.ClassFile.FieldType.object "com/example/nano_embed/nanoembed/geometry/Int384")), Jvm.Cond.code ({ cls := "com/example/nano_embed/nanoembed/geometry/Int384", name := "multiplySizes", desc := "(JJJJJJ)V" } : Jvm.MethodName) prog_29_method_5_code (25 : Nat) (Option.none : Option Jvm.ClassFile.FieldType), Jvm.Cond.code ({ cls := "com/example/nano_embed/nanoembed/geometry/Int128", name := "negatedHigh", desc := "(JJ)J" } : Jvm.MethodName) prog_28_method_4_code (4 : Nat) (Option.some Jvm.ClassFile.FieldType.long), Jvm.Cond.code ({ cls := "com/example/nano_embed/nanoembed/geometry/Int384", name := "multiplyLimbs", desc := "(JJJJJJ)V" } : Jvm.MethodName) prog_29_method_6_code (13 : Nat) (Option.none : Option Jvm.ClassFile.FieldType), Jvm.Cond.code ({ cls := "com/example/nano_embed/nanoembed/geometry/Int128", name := "unsignedMultiplyHigh", desc := "(JJ)J" } : Jvm.MethodName) prog_28_method_13_code (4 : Nat) (Option.some Jvm.ClassFile.FieldType.long), Jvm.Cond.code ({ cls := "java/lang/Math", name := "multiplyHigh", desc := "(JJ)J" } : Jvm.MethodName) jdk_29_method_45_code (20 : Nat) (Option.some Jvm.ClassFile.FieldType.long), Jvm.Cond.code ({ cls := "com/example/nano_embed/nanoembed/geometry/Int384", name := "addToColumn", desc := "(J)V" } : Jvm.MethodName) prog_29_method_10_code (5 : Nat) (Option.none : Option Jvm.ClassFile.FieldType), Jvm.Cond.code ({ cls := "com/example/nano_embed/nanoembed/geometry/Int128", name := "carry", desc := "(JJJ)J" } : Jvm.MethodName) prog_28_method_12_code (6 : Nat) (Option.some Jvm.ClassFile.FieldType.long), Jvm.Cond.code ({ cls := "com/example/nano_embed/nanoembed/geometry/Int384", name := "nextColumn", desc := "()J" } : Jvm.MethodName) prog_29_method_11_code (3 : Nat) (Option.some Jvm.ClassFile.FieldType.long), Jvm.Cond.code ({ cls := "com/example/nano_embed/nanoembed/geometry/Int384", name := "lastColumn", desc := "(J)J" } : Jvm.MethodName) prog_29_method_12_code (3 : Nat) (Option.some Jvm.ClassFile.FieldType.long), Jvm.Cond.code ({ cls := "com/example/nano_embed/nanoembed/geometry/Int384", name := "addProduct", desc := "(Z)V" } : Jvm.MethodName) prog_29_method_13_code (34 : Nat) (Option.none : Option Jvm.ClassFile.FieldType), Jvm.Cond.code ({ cls := "com/example/nano_embed/nanoembed/geometry/Int384FitsPinLaw", name := "inRange", desc := "(JJI)Z" } : Jvm.MethodName) method_3_code (5 : Nat) (Option.some Jvm.ClassFile.FieldType.boolean), Jvm.Cond.code ({ cls := "com/example/nano_embed/nanoembed/geometry/Int384", name := "multiplyLimbs", desc := "(JJJJ)V" } : Jvm.MethodName) prog_29_method_9_code (9 : Nat) (Option.none : Option Jvm.ClassFile.FieldType), Jvm.Cond.code ({ cls := "com/example/nano_embed/nanoembed/geometry/Int384", name := "multiplyLimbs", desc := "(JJJJJ)V" } : Jvm.MethodName) prog_29_method_7_code (11 : Nat) (Option.none : Option Jvm.ClassFile.FieldType)]
set_option maxRecDepth 65536 in
theorem codes_eq : words1.filter isCode = codes1 := rfl
theorem w_codes : ∀ c ∈ words1.filter isCode, c.before args0 about1 = true := by
  rw [codes_eq]
  intro c hc
  simp only [codes1, List.mem_cons, List.not_mem_nil, or_false] at hc
  rcases hc with rfl | rfl | rfl | rfl | rfl | rfl | rfl | rfl | rfl | rfl | rfl | rfl | rfl | rfl | rfl | rfl | rfl | rfl | rfl
  · exact w_c0
  · exact w_c1
  · exact w_c2
  · exact w_c3
  · exact w_c4
  · exact w_c5
  · exact w_c6
  · exact w_c7
  · exact w_c8
  · exact w_c9
  · exact w_c10
  · exact w_c11
  · exact w_c12
  · exact w_c13
  · exact w_c14
  · exact w_c15
  · exact w_c16
  · exact w_c17
  · exact w_c18
set_option maxRecDepth 65536 in
theorem w_t1 : (words1.take 24).all (fun c => isCode c || c.before args0 about1) = true := by decide +kernel
set_option maxRecDepth 65536 in
theorem w_t2 : ((words1.drop 24).take 24).all (fun c => isCode c || c.before args0 about1) = true := by decide +kernel
set_option maxRecDepth 65536 in
theorem w_t3 : (((words1.drop 24).drop 24).take 24).all (fun c => isCode c || c.before args0 about1) = true := by decide +kernel
set_option maxRecDepth 65536 in
theorem w_t4 : ((((words1.drop 24).drop 24).drop 24).take 24).all (fun c => isCode c || c.before args0 about1) = true := by decide +kernel
set_option maxRecDepth 65536 in
theorem w_t5 : ((((words1.drop 24).drop 24).drop 24).drop 24).all (fun c => isCode c || c.before args0 about1) = true := by decide +kernel
theorem w_tables : (allAtoms (Jvm.Cond.code x code maxLocals ret :: tables_1)).before args0 about1 = true := by
  rw [allAtoms_all]
  show words1.all (fun c => c.before args0 about1) = true
  refine all_split ?_ w_codes
  rw [← List.take_append_drop 24 words1, List.all_append, w_t1, ← List.take_append_drop 24 (words1.drop 24), List.all_append, w_t2, ← List.take_append_drop 24 ((words1.drop 24).drop 24), List.all_append, w_t3, ← List.take_append_drop 24 (((words1.drop 24).drop 24).drop 24), List.all_append, w_t4, w_t5]
  rfl
set_option maxRecDepth 65536 in
theorem w_case : (Jvm.Cond.and given_1 narrow_1).before args0 about1 = true := by decide +kernel
theorem w_applies : (headSpec (Jvm.Cond.code x code maxLocals ret :: tables_1) room_1).applies x e0.platform about1 = true :=
  (Spec.applies_iff w_frames).mpr ⟨w_running, w_runnable, w_alone, w_named, w_hears, w_ripe, w_room, w_tables⟩
theorem atStart : AtStart classFile x code maxLocals ret World_1 tables_1 room_1 Calls_1 rest_1 Pre_1 launch0 p0 e0 about1 theMethod args0 below0 :=
  ⟨lists_1, trivial, launch0.admits_env _ _ _, launch0.least_env, fairChoices_fair.cas, fairChoices_fair.clock, w_frames, w_args, w_heap, w_applies, trivial, trivial, w_case⟩
end start1
theorem witness_1 : WitnessClaimed_1 := ⟨start1.p0, start1.e0, start1.about1, start1.theMethod, start1.args0, start1.below0, start1.atStart⟩
end Jvm.Pilot.@@N@@
