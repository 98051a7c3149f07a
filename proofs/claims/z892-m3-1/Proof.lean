import JvmDerived
import JvmDerived.Pilot.@@N@@Statement
import JvmDerived.Pilot.@@N@@Code
set_option linter.unusedVariables false
set_option linter.unusedSimpArgs false
namespace Jvm.OwnKit
open Sem ClassFile Op Lib Jvm.Stand Jvm.Free Jvm.LawKit Jvm.RoadKit
section Own
variable {p : Program} {l : Launch} {e : Env} {R : Room} {s : State} {m : MethodId} {args : Array Value} {below : List Frame} {meth : Method} {c : Code} {T : State} {locs : List Loc} {cells slots : Nat}
/-- from the state S the run ends, and P says how -/
def GoOn (p : Program) (e : Env) (below : List Frame) (P : Outcome → State → Prop) (S : State) : Prop := ∃ s₂ o, Steps p.tables e below S s₂ ∧ s₂.status = .running ∧ Ended s₂ below o ∧ P o s₂
theorem GoOn.st {P : Outcome → State → Prop} {S S' : State} (h : ∀ t, Steps p.tables e below S' t → Steps p.tables e below S t) (k : GoOn p e below P S') : GoOn p e below P S := by
  obtain ⟨s₂, o, h1, h2⟩ := k; exact ⟨s₂, o, h _ h1, h2⟩
/-- the end as a contract says it: what is returned, the heap, the written places -/
def OwPost (Q : Option Value → Heap → List Loc → Prop) (s : State) (rc rs : Nat) : Outcome → State → Prop := fun o U' => ∃ v L, o = .returned v ∧ Q v U'.heap L ∧ FrameEnd s o U' L rc rs
/-- a contract: the body y, called with as at a heap h0, ends as Q says -/
def OwCon (l : Launch) (Z : State) (y : MethodName) (bytes : ByteArray) (maxL : Nat) (ret : Option FieldType) (ws : List Jvm.Cond) (rm : Room) (as : Array Value) (h0 : Heap) (Q : Option Value → Heap → List Loc → Prop) : Prop :=
  MetFree l y (head1 (Jvm.Cond.code y bytes maxL ret :: ws) rm) (fun a U => a = as ∧ Z.Warmed39 U.vm ∧ U.heap = h0) (fun _ _ _ _ _ => True) (fun _ U o U' => ∃ v L, o = .returned v ∧ Q v U'.heap L ∧ FrameEnd U o U' L rm.cells rm.slots)
theorem OwCon.of {Z : State} {y : MethodName} {bytes : ByteArray} {maxL : Nat} {ret : Option FieldType} {ws : List Jvm.Cond} {rm : Room} {as : Array Value} {h0 : Heap} {Q : Option Value → Heap → List Loc → Prop} (hpl : plainFor y = true)
    (body : ∀ (p : Program) (e : Env) (s : State) (m : MethodId) (below : List Frame) (meth : Method) (c : Code) (s₁ : State), Stand p l e rm s m as below meth c s₁ [] 0 0 → p.tables.exec = Jvm.exec → c.code = bytes → c.maxLocals = maxL → meth.sig.returnType = ret → meth.locks = false → s.vm.findClass y.cls = some m.cls → meth.name = y.name → Z.Warmed39 s.vm → s₁.heap = h0 →
      GoOn p e below (OwPost Q s rm.cells rm.slots) (s₁.setTop (entryFrame m as maxL))) : OwCon l Z y bytes maxL ret ws rm as h0 Q := by
  refine MetFree.of_bodySF hpl hisR ?_
  intro p e s m args below meth c s₁ Bd hml hP hK
  obtain ⟨rfl, hZ, hh⟩ := hP
  exact body p e s m below meth c s₁ (Stand.of_body Bd) Bd.exec Bd.bytes hml Bd.returns Bd.notSynchronized (findClass_of_methodNamed Bd.named) (name_of_methodNamed Bd.named Bd.method).1 hZ (by rw [← hh, Bd.state]; rfl)
theorem OwCon.mono {Z : State} {y : MethodName} {bytes : ByteArray} {maxL : Nat} {ret : Option FieldType} {ws : List Jvm.Cond} {rm : Room} {as : Array Value} {h0 : Heap} {Q Q' : Option Value → Heap → List Loc → Prop} (C : OwCon l Z y bytes maxL ret ws rm as h0 Q) (h : ∀ v u L, Q v u L → Q' v u L) : OwCon l Z y bytes maxL ret ws rm as h0 Q' := by
  intro p e ha hc hk s m args below hf happ hP hK
  obtain ⟨n, o, h1, h2, h3, v, L, h4, h5, h6⟩ := C p e ha hc hk s m args below hf happ hP hK
  exact ⟨n, o, h1, h2, h3, v, L, h4, h _ _ _ h5, h6⟩
theorem GoOn.out {Q : Option Value → Heap → List Loc → Prop} {rc rs : Nat} {S : State} (X : Stand p l e R s m args below meth c T locs cells slots) (hlk : meth.locks = false) {v : Option Value} (hv : meth.sig.returnType = none → v = none) (hq : Q v T.heap locs) (hc : cells ≤ rc) (hs : slots ≤ rs)
    (st : ∀ fs, (∀ (f : JFrame) (acts : List Action), f.method = m → f.locked = none → f.entered = [] → (doReturn e (T.setTop f) acts v).1 = T.setFrames fs) → Steps p.tables e below S (T.setFrames fs)) : GoOn p e below (OwPost Q s rc rs) S := by
  obtain ⟨fs, hr, hrun, hended, hW, hsame⟩ := X.leave (v := v) hv hlk
  exact ⟨_, _, st fs hr, hrun, hended, v, locs, rfl, hq, ⟨_, rfl⟩, hW, hsame.mono hc hs⟩
theorem GoOn.retI {Q : Option Value → Heap → List Loc → Prop} {rc rs : Nat} (X : Stand p l e R s m args below meth c T locs cells slots) (hx : p.tables.exec = Jvm.exec) (hlk : meth.locks = false) {pc : Nat} {Ls : Array Slot} {z : Int32} {rest : List Value} (hret : meth.sig.returnType = some .int) (hd : decode c.code pc = .ok (.ireturn, 1))
    (hq : Q (some (.int z)) T.heap locs) (hc : cells ≤ rc) (hs : slots ≤ rs) : GoOn p e below (OwPost Q s rc rs) (T.setTop (mkF m pc Ls (.int z :: rest))) :=
  GoOn.out X hlk (fun h => by rw [hret] at h; cases h) hq hc hs fun fs hr => retOut X hx hret rfl (Or.inl ⟨rfl, Or.inl rfl, _, rfl⟩) hd hr
theorem GoOn.retZ {Q : Option Value → Heap → List Loc → Prop} {rc rs : Nat} (X : Stand p l e R s m args below meth c T locs cells slots) (hx : p.tables.exec = Jvm.exec) (hlk : meth.locks = false) {pc : Nat} {Ls : Array Slot} {z : Int32} {rest : List Value} {t : FieldType} (hret : meth.sig.returnType = some t) (ht : t = .boolean ∨ t = .byte ∨ t = .char ∨ t = .short) (hn : narrow t (.int z) = .int z) (hd : decode c.code pc = .ok (.ireturn, 1))
    (hq : Q (some (.int z)) T.heap locs) (hc : cells ≤ rc) (hs : slots ≤ rs) : GoOn p e below (OwPost Q s rc rs) (T.setTop (mkF m pc Ls (.int z :: rest))) :=
  GoOn.out X hlk (fun h => by rw [hret] at h; cases h) hq hc hs fun fs hr => retOut X hx hret hn (Or.inl ⟨rfl, Or.inr ht, _, rfl⟩) hd hr
theorem GoOn.retJ {Q : Option Value → Heap → List Loc → Prop} {rc rs : Nat} (X : Stand p l e R s m args below meth c T locs cells slots) (hx : p.tables.exec = Jvm.exec) (hlk : meth.locks = false) {pc : Nat} {Ls : Array Slot} {z : Int64} {rest : List Value} (hret : meth.sig.returnType = some .long) (hd : decode c.code pc = .ok (.lreturn, 1))
    (hq : Q (some (.long z)) T.heap locs) (hc : cells ≤ rc) (hs : slots ≤ rs) : GoOn p e below (OwPost Q s rc rs) (T.setTop (mkF m pc Ls (.long z :: rest))) :=
  GoOn.out X hlk (fun h => by rw [hret] at h; cases h) hq hc hs fun fs hr => retOut X hx hret rfl (Or.inr (Or.inl ⟨rfl, rfl, _, rfl⟩)) hd hr
theorem GoOn.retA {Q : Option Value → Heap → List Loc → Prop} {rc rs : Nat} (X : Stand p l e R s m args below meth c T locs cells slots) (hx : p.tables.exec = Jvm.exec) (hlk : meth.locks = false) {pc : Nat} {Ls : Array Slot} {w : Value} {rest : List Value} {t : FieldType} (hret : meth.sig.returnType = some t) (ht : t.isReference = true) (hw : w.isRef = true) (hn : narrow t w = w) (hd : decode c.code pc = .ok (.areturn, 1))
    (hq : Q (some w) T.heap locs) (hc : cells ≤ rc) (hs : slots ≤ rs) : GoOn p e below (OwPost Q s rc rs) (T.setTop (mkF m pc Ls (w :: rest))) :=
  GoOn.out X hlk (fun h => by rw [hret] at h; cases h) hq hc hs fun fs hr => retOut X hx hret hn (Or.inr (Or.inr (Or.inr (Or.inr ⟨rfl, ht, hw⟩)))) hd hr
theorem GoOn.retV {Q : Option Value → Heap → List Loc → Prop} {rc rs : Nat} (X : Stand p l e R s m args below meth c T locs cells slots) (hx : p.tables.exec = Jvm.exec) (hlk : meth.locks = false) {pc : Nat} {Ls : Array Slot} (hret : meth.sig.returnType = none) (hd : decode c.code pc = .ok (.return_, 1))
    (hq : Q none T.heap locs) (hc : cells ≤ rc) (hs : slots ≤ rs) : GoOn p e below (OwPost Q s rc rs) (T.setTop (mkF m pc Ls [])) :=
  GoOn.out X hlk (fun _ => rfl) hq hc hs fun fs hr => X.returnOut hx hret hd hr
/-- nothing written, nothing made: v is returned -/
def OwRet (v : Option Value) (h0 : Heap) : Option Value → Heap → List Loc → Prop := fun v' h L => v' = v ∧ L = [] ∧ h = h0
variable {Z : State} {a0 : Array Value} {h : Heap} {own : String} {index : Nat} {y z : MethodName} {bytes : ByteArray} {maxL : Nat} {ret : Option FieldType} {rm : Room} {Q : Option Value → Heap → List Loc → Prop} {P : Outcome → State → Prop}
theorem GoOn.callS {W pc : Nat} {Ls : Array Slot} {argsL rest : List Value} {ps : List FieldType} {rt : Option FieldType} {st : List Value} (X : Stand p l e R s m args below meth c T locs cells slots) (hx : p.tables.exec = Jvm.exec) (hZ : Z.Warmed39 s.vm) (hown : s.vm.findClass own = some m.cls)
    (w1 : (Cond.methodLink own index y).before a0 Z = true) (w2 : (Cond.static y).before a0 Z = true) (w3 : (Cond.initialized y.cls).before a0 Z = true) (w4 : (Cond.code y bytes maxL ret).before a0 Z = true) (hy : y.cls ≠ "java/lang/invoke/MethodHandle" ∧ y.cls ≠ "java/lang/invoke/VarHandle")
    (C : OwCon l Z y bytes maxL ret [] rm argsL.toArray h Q) (eT : T.heap = h) (hfr : rm.frames + 1 ≤ R.frames) (hlo : W + (maxL + 11) + rm.locals ≤ R.locals) (hsize : Ls.size = c.maxLocals) (hd : parseMethodDescriptor y.desc = some ⟨ps, rt⟩) (hl : argsL.length = ps.length) (hst : st = argsL.reverse ++ rest)
    (hW : (rest.map fun v => v.category).sum ≤ W) (hdg : decode c.code pc = .ok (.invokestatic index, 3)) (hc : cells + rm.cells ≤ R.cells) (hs : slots + rm.slots ≤ R.slots)
    (k : ∀ (v : Option Value) (T' : State) (L : List Loc), Stand p l e R s m args below meth c T' (locs ++ L) (cells + rm.cells) (slots + rm.slots) → Q v T'.heap L → GoOn p e below P (T'.setTop (mkF m (pc + 3) Ls (v.toList ++ rest)))) : GoOn p e below P (T.setTop (mkF m pc Ls st)) := by
  obtain ⟨v, vm₁, ⟨T', L', c', s'⟩, -, X', ⟨Lc, hQ, l1, l2, l3⟩, stp⟩ := Jvm.LawKit.callS X hx (y := y) hown (mvT hZ w1) (mvT hZ w2) (mvT hZ w3) (mvT hZ w4) hy (backOf (W := W) C hZ w4 w3 hfr hlo) (g := mkF m pc Ls st) rfl hsize (argsL := argsL) (rest := rest) (lenOf hd hl) hst (by show 2 * 0 + _ ≤ _; omega) hdg (fun _ _ => ⟨rfl, eT, hc, hs⟩)
  dsimp only [Pt.U, Pt.locs, Pt.cells, Pt.slots] at X' l1 l2 l3 stp hQ
  subst l1 l2 l3
  exact GoOn.st stp (k _ _ _ X' hQ)
theorem GoOn.callC {W pc : Nat} {Ls : Array Slot} {a : Addr} {argsL rest : List Value} {ps : List FieldType} {rt : Option FieldType} {st : List Value} (X : Stand p l e R s m args below meth c T locs cells slots) (hx : p.tables.exec = Jvm.exec) (hZ : Z.Warmed39 s.vm) (hown : s.vm.findClass own = some m.cls) (hy1 : y.name = "<init>")
    (w1 : (Cond.methodLink own index y).before a0 Z = true) (w2 : (Cond.instanceMethod y).before a0 Z = true) (w3 : (Cond.initialized y.cls).before a0 Z = true) (w4 : (Cond.code y bytes maxL none).before a0 Z = true) (hy : y.cls ≠ "java/lang/invoke/MethodHandle" ∧ y.cls ≠ "java/lang/invoke/VarHandle")
    (C : OwCon l Z y bytes maxL none [] rm (.ref a :: argsL).toArray h Q) (eT : T.heap = h) (hfr : rm.frames + 1 ≤ R.frames) (hlo : W + (maxL + 11) + rm.locals ≤ R.locals) (hsize : Ls.size = c.maxLocals) (hd : parseMethodDescriptor y.desc = some ⟨ps, rt⟩) (hl : argsL.length = ps.length) (hst : st = argsL.reverse ++ .ref a :: rest)
    (hW : (rest.map fun v => v.category).sum ≤ W) (hdg : decode c.code pc = .ok (.invokespecial index, 3)) (hc : cells + rm.cells ≤ R.cells) (hs : slots + rm.slots ≤ R.slots)
    (k : ∀ (v : Option Value) (T' : State) (L : List Loc), Stand p l e R s m args below meth c T' (locs ++ L) (cells + rm.cells) (slots + rm.slots) → Q v T'.heap L → GoOn p e below P (T'.setTop (mkF m (pc + 3) Ls (v.toList ++ rest)))) : GoOn p e below P (T.setTop (mkF m pc Ls st)) := by
  obtain ⟨v, vm₁, ⟨T', L', c', s'⟩, -, X', ⟨Lc, hQ, l1, l2, l3⟩, stp⟩ := X.specialBack hx (y := y) hy1 hown (mvT hZ w1) (mvT hZ w2) (mvT hZ w4) hy (backOf (W := W) C hZ w4 w3 hfr hlo) (g := mkF m pc Ls st) rfl hsize (Steps.refl _) (a := a) (argsL := argsL) (rest := rest) (lenOf hd hl) hst (by show 2 * 0 + _ ≤ _; omega) hdg (fun _ _ => ⟨rfl, eT, hc, hs⟩)
  dsimp only [Pt.U, Pt.locs, Pt.cells, Pt.slots] at X' l1 l2 l3 stp hQ
  subst l1 l2 l3
  exact GoOn.st (fun _ q => stp.trans q) (k _ _ _ X' hQ)
theorem GoOn.callV {W pc : Nat} {Ls : Array Slot} {a : Addr} {K : String} {argsL rest : List Value} {ps : List FieldType} {rt : Option FieldType} {st : List Value} (X : Stand p l e R s m args below meth c T locs cells slots) (hx : p.tables.exec = Jvm.exec) (hZ : Z.Warmed39 s.vm) (hown : s.vm.findClass own = some m.cls)
    (w1 : (Cond.methodLink own index y).before a0 Z = true) (w5 : (Cond.declares y).before a0 Z = true) (nf : NotFace s y) (w6 : (Cond.selects K y z).before a0 Z = true) (w2 : (Cond.instanceMethod z).before a0 Z = true) (w3 : (Cond.initialized z.cls).before a0 Z = true) (w4 : (Cond.code z bytes maxL ret).before a0 Z = true) (hy : y.cls ≠ "java/lang/invoke/MethodHandle" ∧ y.cls ≠ "java/lang/invoke/VarHandle")
    (C : OwCon l Z z bytes maxL ret [] rm (.ref a :: argsL).toArray h Q) (eT : T.heap = h) (E : Exa Z h a K) (hfr : rm.frames + 1 ≤ R.frames) (hlo : W + (maxL + 11) + rm.locals ≤ R.locals) (hsize : Ls.size = c.maxLocals) (hd : parseMethodDescriptor y.desc = some ⟨ps, rt⟩) (hl : argsL.length = ps.length) (hst : st = argsL.reverse ++ .ref a :: rest)
    (hW : (rest.map fun v => v.category).sum ≤ W) (hdg : decode c.code pc = .ok (.invokevirtual index, 3)) (hc : cells + rm.cells ≤ R.cells) (hs : slots + rm.slots ≤ R.slots)
    (k : ∀ (v : Option Value) (T' : State) (L : List Loc), Stand p l e R s m args below meth c T' (locs ++ L) (cells + rm.cells) (slots + rm.slots) → Q v T'.heap L → GoOn p e below P (T'.setTop (mkF m (pc + 3) Ls (v.toList ++ rest)))) : GoOn p e below P (T.setTop (mkF m pc Ls st)) := by
  obtain ⟨cB, kB, q1, q2, q3⟩ := isOf hZ eT E
  obtain ⟨v, vm₁, ⟨T', L', c', s'⟩, -, X', ⟨Lc, hQ, l1, l2, l3⟩, stp⟩ := X.virtualBack hx (y := y) (z := z) hown (mvT hZ w1) (mvT hZ w5) nf (mvT hZ w6) (mvT hZ w2) hy (backOf (W := W) C hZ w4 w3 hfr hlo) q1 q3 (g := mkF m pc Ls st) rfl hsize (Steps.refl _) (argsL := argsL) (rest := rest) (lenOf hd hl) hst (by show 2 * 0 + _ ≤ _; omega) hdg (fun _ _ => ⟨rfl, eT, hc, hs⟩)
  dsimp only [Pt.U, Pt.locs, Pt.cells, Pt.slots] at X' l1 l2 l3 stp hQ
  subst l1 l2 l3
  exact GoOn.st (fun _ q => stp.trans q) (k _ _ _ X' hQ)
theorem GoOn.callP {W pc : Nat} {Ls : Array Slot} {a : Addr} {argsL rest : List Value} {ps : List FieldType} {rt : Option FieldType} {st : List Value} (X : Stand p l e R s m args below meth c T locs cells slots) (hx : p.tables.exec = Jvm.exec) (hZ : Z.Warmed39 s.vm) (hown : s.vm.findClass own = some m.cls)
    (w1 : (Cond.methodLink own index y).before a0 Z = true) (w2 : (Cond.instanceMethod y).before a0 Z = true) (w5 : (Cond.selects y.cls y y).before a0 Z = true) (w6 : (Cond.privateMethod y).before a0 Z = true) (w3 : (Cond.initialized y.cls).before a0 Z = true) (w4 : (Cond.code y bytes maxL ret).before a0 Z = true) (hy : y.cls ≠ "java/lang/invoke/MethodHandle" ∧ y.cls ≠ "java/lang/invoke/VarHandle")
    (C : OwCon l Z y bytes maxL ret [] rm (.ref a :: argsL).toArray h Q) (eT : T.heap = h) (hcl : ∃ cl : Cell, h[a]? = some cl ∧ ∀ q, cl.vm ≠ .statics q) (hfr : rm.frames + 1 ≤ R.frames) (hlo : W + (maxL + 11) + rm.locals ≤ R.locals) (hsize : Ls.size = c.maxLocals) (hd : parseMethodDescriptor y.desc = some ⟨ps, rt⟩) (hl : argsL.length = ps.length) (hst : st = argsL.reverse ++ .ref a :: rest)
    (hW : (rest.map fun v => v.category).sum ≤ W) (hdg : decode c.code pc = .ok (.invokevirtual index, 3)) (hc : cells + rm.cells ≤ R.cells) (hs : slots + rm.slots ≤ R.slots)
    (k : ∀ (v : Option Value) (T' : State) (L : List Loc), Stand p l e R s m args below meth c T' (locs ++ L) (cells + rm.cells) (slots + rm.slots) → Q v T'.heap L → GoOn p e below P (T'.setTop (mkF m (pc + 3) Ls (v.toList ++ rest)))) : GoOn p e below P (T.setTop (mkF m pc Ls st)) := by
  obtain ⟨cl, q1, q2⟩ := hcl
  obtain ⟨v, vm₁, ⟨T', L', c', s'⟩, -, X', ⟨Lc, hQ, l1, l2, l3⟩, stp⟩ := X.privateBack hx (y := y) hown (mvT hZ w1) (mvT hZ w2) (mvT hZ w5) (Cond.privateMethod_at (mvP hZ w6 (args := #[]))) (mvT hZ w4) hy (backOf (W := W) C hZ w4 w3 hfr hlo) (g := mkF m pc Ls st) rfl hsize (Steps.refl _) (a := a) (by rw [eT]; exact q1) q2 (argsL := argsL) (rest := rest) (lenOf hd hl) hst (by show 2 * 0 + _ ≤ _; omega) hdg (fun _ _ => ⟨rfl, eT, hc, hs⟩)
  dsimp only [Pt.U, Pt.locs, Pt.cells, Pt.slots] at X' l1 l2 l3 stp hQ
  subst l1 l2 l3
  exact GoOn.st (fun _ q => stp.trans q) (k _ _ _ X' hQ)
theorem GoOn.callI {W pc count : Nat} {Ls : Array Slot} {a : Addr} {K : String} {argsL rest : List Value} {ps : List FieldType} {rt : Option FieldType} {st : List Value} (X : Stand p l e R s m args below meth c T locs cells slots) (hx : p.tables.exec = Jvm.exec) (hZ : Z.Warmed39 s.vm) (hown : s.vm.findClass own = some m.cls)
    (w1 : (Cond.methodLink own index y).before a0 Z = true) (w5 : (Cond.declares y).before a0 Z = true) (w7 : (Cond.interfaceMethod y.cls y.cls y.name y.desc).before a0 Z = true) (w6 : (Cond.selects K y z).before a0 Z = true) (w2 : (Cond.instanceMethod z).before a0 Z = true) (w8 : (Cond.publicMethod z).before a0 Z = true) (w9 : (Cond.unhidden K y.name y.desc).before a0 Z = true) (w10 : (Cond.castable K y.cls).before a0 Z = true) (hfa : ((Cond.interfaceMethod y.cls y.cls y.name y.desc).onTables && (Cond.interfaceMethod y.cls y.cls y.name y.desc).keepsFace) = true) (w3 : (Cond.initialized z.cls).before a0 Z = true) (w4 : (Cond.code z bytes maxL ret).before a0 Z = true) (hy : y.cls ≠ "java/lang/invoke/MethodHandle" ∧ y.cls ≠ "java/lang/invoke/VarHandle")
    (C : OwCon l Z z bytes maxL ret [] rm (.ref a :: argsL).toArray h Q) (eT : T.heap = h) (E : Exa Z h a K) (hfr : rm.frames + 1 ≤ R.frames) (hlo : W + (maxL + 11) + rm.locals ≤ R.locals) (hsize : Ls.size = c.maxLocals) (hd : parseMethodDescriptor y.desc = some ⟨ps, rt⟩) (hl : argsL.length = ps.length) (hst : st = argsL.reverse ++ .ref a :: rest)
    (hW : (rest.map fun v => v.category).sum ≤ W) (hdg : decode c.code pc = .ok (.invokeinterface index count, 5)) (hc : cells + rm.cells ≤ R.cells) (hs : slots + rm.slots ≤ R.slots)
    (k : ∀ (v : Option Value) (T' : State) (L : List Loc), Stand p l e R s m args below meth c T' (locs ++ L) (cells + rm.cells) (slots + rm.slots) → Q v T'.heap L → GoOn p e below P (T'.setTop (mkF m (pc + 5) Ls (v.toList ++ rest)))) : GoOn p e below P (T.setTop (mkF m pc Ls st)) := by
  obtain ⟨cB, kB, q1, q2, q3⟩ := isOf hZ eT E
  obtain ⟨v, vm₁, ⟨T', L', c', s'⟩, -, X', ⟨Lc, hQ, l1, l2, l3⟩, stp⟩ := X.interfaceBack hx (xi := y) (y := z) hown (mvT hZ w1) (mvT hZ w5) (mvT hZ w7 hfa) (mvT hZ w6) (mvT hZ w2) (mvT hZ w8) (mvT hZ w9) (mvT hZ w10) hy (backOf (W := W) C hZ w4 w3 hfr hlo) q1 q2 q3 (g := mkF m pc Ls st) rfl hsize (Steps.refl _) (argsL := argsL) (rest := rest) (lenOf hd hl) hst (by show 2 * 0 + _ ≤ _; omega) hdg (fun _ _ => ⟨rfl, eT, hc, hs⟩)
  dsimp only [Pt.U, Pt.locs, Pt.cells, Pt.slots] at X' l1 l2 l3 stp hQ
  subst l1 l2 l3
  exact GoOn.st (fun _ q => stp.trans q) (k _ _ _ X' hQ)
theorem own_aaload {a : Addr} {kc : ClassId} {ty : FieldType} {zl j : Int32} {vs : List Value} {dv v : Value} (X : Stand p l e R s m args below meth c T locs cells slots) (hx : p.tables.exec = Jvm.exec) (hZ : Z.Warmed39 s.vm) (eT : T.heap = h) (V : Arv Z h a kc ty zl vs dv) (hty : ty.isReference = true) (hj : ¬ j < 0 ∧ j < zl) (hv : vs.getD j.toNatClampNeg dv = v) {pc : Nat} {Ls : Array Slot} {rest : List Value} (hd : decode c.code pc = .ok (.aaload, 1)) :
    ∀ t, Steps p.tables e below (T.setTop (mkF m (pc + 1) Ls (v :: rest))) t → Steps p.tables e below (T.setTop (mkF m pc Ls (.int j :: .ref a :: rest))) t := by
  obtain ⟨cl, A, -, S, N, H, -⟩ := V
  intro t k
  exact X.aaload hx (j := j) (v := v) (by rw [eT]; exact A.1) (State.isArrayOf_alike hZ.alike A.2.1) hty A.2.2 (inb_of S hj) (H.at (inb_of S hj) hv) (g := mkF m pc Ls (.int j :: .ref a :: rest)) rfl rfl hd _ k
theorem own_aastore {a b : Addr} {kc : ClassId} {C : String} {ty : FieldType} {zl j : Int32} {vs : List Value} {dv : Value} (X : Stand p l e R s m args below meth c T locs cells slots) (hx : p.tables.exec = Jvm.exec) (hZ : Z.Warmed39 s.vm) (eT : T.heap = h) (V : Arv Z h a kc ty zl vs dv) (hty : ty.isReference = true) (hfit : fits ty (.ref b) = true) (O : Ovr Z kc C) (I : Ins Z h b C true) (hj : ¬ j < 0 ∧ j < zl) (i : Nat) (hi : j.toNatClampNeg = i) (hl : i < vs.length) {pc : Nat} {Ls : Array Slot} {rest : List Value} (hd : decode c.code pc = .ok (.aastore, 1)) :
    ∃ T' h', Stand p l e R s m args below meth c T' (locs ++ [⟨a, j.toNatClampNeg⟩]) cells slots ∧ T'.heap = h' ∧ Wr h h' a j.toNatClampNeg (.ref b) ∧ Arv Z h' a kc ty zl (vs.set i (.ref b)) dv ∧ ∀ t, Steps p.tables e below (T'.setTop (mkF m (pc + 1) Ls rest)) t → Steps p.tables e below (T.setTop (mkF m pc Ls (.ref b :: .int j :: .ref a :: rest))) t := by
  obtain ⟨cl, A, q1, S, N, H, G⟩ := V
  obtain ⟨T', h', X', e', W, st⟩ := stR X hx hZ eT A (j := j) (inb_of S hj) hty (Sto.ofV A q1 O I) (g := mkF m pc Ls (.ref b :: .int j :: .ref a :: rest)) rfl rfl hd
  exact ⟨T', h', X', e', W, Arv.set A q1 S N H G hfit W i hi hl, st⟩
theorem own_aastoreN {a : Addr} {kc : ClassId} {ty : FieldType} {zl j : Int32} {vs : List Value} {dv : Value} (X : Stand p l e R s m args below meth c T locs cells slots) (hx : p.tables.exec = Jvm.exec) (hZ : Z.Warmed39 s.vm) (eT : T.heap = h) (V : Arv Z h a kc ty zl vs dv) (hty : ty.isReference = true) (hfit : fits ty .null = true) (hj : ¬ j < 0 ∧ j < zl) (i : Nat) (hi : j.toNatClampNeg = i) (hl : i < vs.length) {pc : Nat} {Ls : Array Slot} {rest : List Value} (hd : decode c.code pc = .ok (.aastore, 1)) :
    ∃ T' h', Stand p l e R s m args below meth c T' (locs ++ [⟨a, j.toNatClampNeg⟩]) cells slots ∧ T'.heap = h' ∧ Wr h h' a j.toNatClampNeg .null ∧ Arv Z h' a kc ty zl (vs.set i .null) dv ∧ ∀ t, Steps p.tables e below (T'.setTop (mkF m (pc + 1) Ls rest)) t → Steps p.tables e below (T.setTop (mkF m pc Ls (.null :: .int j :: .ref a :: rest))) t := by
  obtain ⟨cl, A, q1, S, N, H, G⟩ := V
  obtain ⟨T', h', X', e', W, st⟩ := stR X hx hZ eT A (j := j) (inb_of S hj) hty (Or.inl rfl) (g := mkF m pc Ls (.null :: .int j :: .ref a :: rest)) rfl rfl hd
  exact ⟨T', h', X', e', W, Arv.set A q1 S N H G hfit W i hi hl, st⟩
theorem own_arrlen {a : Addr} {kc : ClassId} {ty : FieldType} {zl : Int32} {vs : List Value} {dv : Value} (X : Stand p l e R s m args below meth c T locs cells slots) (hx : p.tables.exec = Jvm.exec) (hZ : Z.Warmed39 s.vm) (eT : T.heap = h) (V : Arv Z h a kc ty zl vs dv) {pc : Nat} {Ls : Array Slot} {rest : List Value} (hd : decode c.code pc = .ok (.arraylength, 1)) :
    ∀ t, Steps p.tables e below (T.setTop (mkF m (pc + 1) Ls (.int zl :: rest))) t → Steps p.tables e below (T.setTop (mkF m pc Ls (.ref a :: rest))) t := by
  obtain ⟨cl, A, -, S, N, -, -⟩ := V
  intro t k
  refine X.arraylength hx (by rw [eT]; exact A.1) (State.isArrayOf_alike hZ.alike A.2.1) (g := mkF m pc Ls (.ref a :: rest)) rfl rfl hd _ ?_
  rw [len_of S N]; exact k
theorem own_iaload {a : Addr} {kc : ClassId} {zl j : Int32} {vs : List Value} {dv v : Value} (X : Stand p l e R s m args below meth c T locs cells slots) (hx : p.tables.exec = Jvm.exec) (hZ : Z.Warmed39 s.vm) (eT : T.heap = h) (V : Arv Z h a kc .int zl vs dv) (hj : ¬ j < 0 ∧ j < zl) (hv : vs.getD j.toNatClampNeg dv = v) {pc : Nat} {Ls : Array Slot} {rest : List Value} (hd : decode c.code pc = .ok (.iaload, 1)) :
    ∀ t, Steps p.tables e below (T.setTop (mkF m (pc + 1) Ls (v :: rest))) t → Steps p.tables e below (T.setTop (mkF m pc Ls (.int j :: .ref a :: rest))) t := by
  obtain ⟨cl, A, -, S, N, H, -⟩ := V
  intro t k
  exact X.iaload hx (j := j) (v := v) (by rw [eT]; exact A.1) (State.isArrayOf_alike hZ.alike A.2.1) A.2.2 (inb_of S hj) (H.at (inb_of S hj) hv) (g := mkF m pc Ls (.int j :: .ref a :: rest)) rfl rfl hd _ k
theorem own_caload {a : Addr} {kc : ClassId} {zl j : Int32} {vs : List Value} {dv v : Value} (X : Stand p l e R s m args below meth c T locs cells slots) (hx : p.tables.exec = Jvm.exec) (hZ : Z.Warmed39 s.vm) (eT : T.heap = h) (V : Arv Z h a kc .char zl vs dv) (hj : ¬ j < 0 ∧ j < zl) (hv : vs.getD j.toNatClampNeg dv = v) {pc : Nat} {Ls : Array Slot} {rest : List Value} (hd : decode c.code pc = .ok (.caload, 1)) :
    ∀ t, Steps p.tables e below (T.setTop (mkF m (pc + 1) Ls (v :: rest))) t → Steps p.tables e below (T.setTop (mkF m pc Ls (.int j :: .ref a :: rest))) t := by
  obtain ⟨cl, A, -, S, N, H, -⟩ := V
  intro t k
  exact X.caload hx (j := j) (v := v) (by rw [eT]; exact A.1) (State.isArrayOf_alike hZ.alike A.2.1) A.2.2 (inb_of S hj) (H.at (inb_of S hj) hv) (g := mkF m pc Ls (.int j :: .ref a :: rest)) rfl rfl hd _ k
theorem own_baload {a : Addr} {kc : ClassId} {zl j : Int32} {vs : List Value} {dv v : Value} (X : Stand p l e R s m args below meth c T locs cells slots) (hx : p.tables.exec = Jvm.exec) (hZ : Z.Warmed39 s.vm) (eT : T.heap = h) (V : Arv Z h a kc .byte zl vs dv) (hj : ¬ j < 0 ∧ j < zl) (hv : vs.getD j.toNatClampNeg dv = v) {pc : Nat} {Ls : Array Slot} {rest : List Value} (hd : decode c.code pc = .ok (.baload, 1)) :
    ∀ t, Steps p.tables e below (T.setTop (mkF m (pc + 1) Ls (v :: rest))) t → Steps p.tables e below (T.setTop (mkF m pc Ls (.int j :: .ref a :: rest))) t := by
  obtain ⟨cl, A, -, S, N, H, -⟩ := V
  intro t k
  exact X.baloadBytes hx (j := j) (v := v) (by rw [eT]; exact A.1) (State.isArrayOf_alike hZ.alike A.2.1) A.2.2 (inb_of S hj) (H.at (inb_of S hj) hv) (g := mkF m pc Ls (.int j :: .ref a :: rest)) rfl rfl hd _ k
theorem own_zaload {a : Addr} {kc : ClassId} {zl j : Int32} {vs : List Value} {dv v : Value} (X : Stand p l e R s m args below meth c T locs cells slots) (hx : p.tables.exec = Jvm.exec) (hZ : Z.Warmed39 s.vm) (eT : T.heap = h) (V : Arv Z h a kc .boolean zl vs dv) (hj : ¬ j < 0 ∧ j < zl) (hv : vs.getD j.toNatClampNeg dv = v) {pc : Nat} {Ls : Array Slot} {rest : List Value} (hd : decode c.code pc = .ok (.baload, 1)) :
    ∀ t, Steps p.tables e below (T.setTop (mkF m (pc + 1) Ls (v :: rest))) t → Steps p.tables e below (T.setTop (mkF m pc Ls (.int j :: .ref a :: rest))) t := by
  obtain ⟨cl, A, -, S, N, H, -⟩ := V
  intro t k
  exact X.baloadBooleans hx (j := j) (v := v) (by rw [eT]; exact A.1) (State.isArrayOf_alike hZ.alike A.2.1) A.2.2 (inb_of S hj) (H.at (inb_of S hj) hv) (g := mkF m pc Ls (.int j :: .ref a :: rest)) rfl rfl hd _ k
theorem own_laload {a : Addr} {kc : ClassId} {zl j : Int32} {vs : List Value} {dv v : Value} (X : Stand p l e R s m args below meth c T locs cells slots) (hx : p.tables.exec = Jvm.exec) (hZ : Z.Warmed39 s.vm) (eT : T.heap = h) (V : Arv Z h a kc .long zl vs dv) (hj : ¬ j < 0 ∧ j < zl) (hv : vs.getD j.toNatClampNeg dv = v) {pc : Nat} {Ls : Array Slot} {rest : List Value} (hd : decode c.code pc = .ok (.laload, 1)) :
    ∀ t, Steps p.tables e below (T.setTop (mkF m (pc + 1) Ls (v :: rest))) t → Steps p.tables e below (T.setTop (mkF m pc Ls (.int j :: .ref a :: rest))) t := by
  obtain ⟨cl, A, -, S, N, H, -⟩ := V
  intro t k
  exact X.laload hx (j := j) (v := v) (by rw [eT]; exact A.1) (State.isArrayOf_alike hZ.alike A.2.1) A.2.2 (inb_of S hj) (H.at (inb_of S hj) hv) (g := mkF m pc Ls (.int j :: .ref a :: rest)) rfl rfl hd _ k
theorem own_iastore {a : Addr} {kc : ClassId} {zl j : Int32} {x : Int32} {vs : List Value} {dv : Value} (X : Stand p l e R s m args below meth c T locs cells slots) (hx : p.tables.exec = Jvm.exec) (hZ : Z.Warmed39 s.vm) (eT : T.heap = h) (V : Arv Z h a kc .int zl vs dv) (hj : ¬ j < 0 ∧ j < zl) (i : Nat) (hi : j.toNatClampNeg = i) (hl : i < vs.length) {pc : Nat} {Ls : Array Slot} {rest : List Value} (hd : decode c.code pc = .ok (.iastore, 1)) :
    ∃ T' h', Stand p l e R s m args below meth c T' (locs ++ [⟨a, j.toNatClampNeg⟩]) cells slots ∧ T'.heap = h' ∧ Wr h h' a j.toNatClampNeg (.int x) ∧ Arv Z h' a kc .int zl (vs.set i (.int x)) dv ∧ ∀ t, Steps p.tables e below (T'.setTop (mkF m (pc + 1) Ls rest)) t → Steps p.tables e below (T.setTop (mkF m pc Ls ((.int x) :: .int j :: .ref a :: rest))) t := by
  obtain ⟨cl, A, q1, S, N, H, G⟩ := V
  obtain ⟨T', h', X', e', W, st⟩ := stI X hx hZ eT A (j := j) (x := x) (inb_of S hj) (g := mkF m pc Ls ((.int x) :: .int j :: .ref a :: rest)) rfl rfl hd
  exact ⟨T', h', X', e', W, Arv.set A q1 S N H G rfl W i hi hl, st⟩
theorem own_castore {a : Addr} {kc : ClassId} {zl j : Int32} {x : Int32} {vs : List Value} {dv : Value} (X : Stand p l e R s m args below meth c T locs cells slots) (hx : p.tables.exec = Jvm.exec) (hZ : Z.Warmed39 s.vm) (eT : T.heap = h) (V : Arv Z h a kc .char zl vs dv) (hj : ¬ j < 0 ∧ j < zl) (i : Nat) (hi : j.toNatClampNeg = i) (hl : i < vs.length) {pc : Nat} {Ls : Array Slot} {rest : List Value} (hd : decode c.code pc = .ok (.castore, 1)) :
    ∃ T' h', Stand p l e R s m args below meth c T' (locs ++ [⟨a, j.toNatClampNeg⟩]) cells slots ∧ T'.heap = h' ∧ Wr h h' a j.toNatClampNeg (.int (nar .char x)) ∧ Arv Z h' a kc .char zl (vs.set i (.int (nar .char x))) dv ∧ ∀ t, Steps p.tables e below (T'.setTop (mkF m (pc + 1) Ls rest)) t → Steps p.tables e below (T.setTop (mkF m pc Ls ((.int x) :: .int j :: .ref a :: rest))) t := by
  obtain ⟨cl, A, q1, S, N, H, G⟩ := V
  obtain ⟨T', h', X', e', W, st⟩ := stC X hx hZ eT A (j := j) (x := x) (inb_of S hj) (g := mkF m pc Ls ((.int x) :: .int j :: .ref a :: rest)) rfl rfl hd
  exact ⟨T', h', X', e', W, Arv.set A q1 S N H G (fits_nar_char x) W i hi hl, st⟩
theorem own_bastore {a : Addr} {kc : ClassId} {zl j : Int32} {x : Int32} {vs : List Value} {dv : Value} (X : Stand p l e R s m args below meth c T locs cells slots) (hx : p.tables.exec = Jvm.exec) (hZ : Z.Warmed39 s.vm) (eT : T.heap = h) (V : Arv Z h a kc .byte zl vs dv) (hj : ¬ j < 0 ∧ j < zl) (i : Nat) (hi : j.toNatClampNeg = i) (hl : i < vs.length) {pc : Nat} {Ls : Array Slot} {rest : List Value} (hd : decode c.code pc = .ok (.bastore, 1)) :
    ∃ T' h', Stand p l e R s m args below meth c T' (locs ++ [⟨a, j.toNatClampNeg⟩]) cells slots ∧ T'.heap = h' ∧ Wr h h' a j.toNatClampNeg (.int (nar .byte x)) ∧ Arv Z h' a kc .byte zl (vs.set i (.int (nar .byte x))) dv ∧ ∀ t, Steps p.tables e below (T'.setTop (mkF m (pc + 1) Ls rest)) t → Steps p.tables e below (T.setTop (mkF m pc Ls ((.int x) :: .int j :: .ref a :: rest))) t := by
  obtain ⟨cl, A, q1, S, N, H, G⟩ := V
  obtain ⟨T', h', X', e', W, st⟩ := stB X hx hZ eT A (j := j) (x := x) (inb_of S hj) (g := mkF m pc Ls ((.int x) :: .int j :: .ref a :: rest)) rfl rfl hd
  exact ⟨T', h', X', e', W, Arv.set A q1 S N H G (fits_nar_byte x) W i hi hl, st⟩
theorem own_zastore {a : Addr} {kc : ClassId} {zl j : Int32} {x : Int32} {vs : List Value} {dv : Value} (X : Stand p l e R s m args below meth c T locs cells slots) (hx : p.tables.exec = Jvm.exec) (hZ : Z.Warmed39 s.vm) (eT : T.heap = h) (V : Arv Z h a kc .boolean zl vs dv) (hj : ¬ j < 0 ∧ j < zl) (i : Nat) (hi : j.toNatClampNeg = i) (hl : i < vs.length) {pc : Nat} {Ls : Array Slot} {rest : List Value} (hd : decode c.code pc = .ok (.bastore, 1)) :
    ∃ T' h', Stand p l e R s m args below meth c T' (locs ++ [⟨a, j.toNatClampNeg⟩]) cells slots ∧ T'.heap = h' ∧ Wr h h' a j.toNatClampNeg (.int (nar .boolean x)) ∧ Arv Z h' a kc .boolean zl (vs.set i (.int (nar .boolean x))) dv ∧ ∀ t, Steps p.tables e below (T'.setTop (mkF m (pc + 1) Ls rest)) t → Steps p.tables e below (T.setTop (mkF m pc Ls ((.int x) :: .int j :: .ref a :: rest))) t := by
  obtain ⟨cl, A, q1, S, N, H, G⟩ := V
  obtain ⟨T', h', X', e', W, st⟩ := stZ X hx hZ eT A (j := j) (x := x) (inb_of S hj) (g := mkF m pc Ls ((.int x) :: .int j :: .ref a :: rest)) rfl rfl hd
  exact ⟨T', h', X', e', W, Arv.set A q1 S N H G (fits_nar_bool x) W i hi hl, st⟩
theorem own_lastore {a : Addr} {kc : ClassId} {zl j : Int32} {x : Int64} {vs : List Value} {dv : Value} (X : Stand p l e R s m args below meth c T locs cells slots) (hx : p.tables.exec = Jvm.exec) (hZ : Z.Warmed39 s.vm) (eT : T.heap = h) (V : Arv Z h a kc .long zl vs dv) (hj : ¬ j < 0 ∧ j < zl) (i : Nat) (hi : j.toNatClampNeg = i) (hl : i < vs.length) {pc : Nat} {Ls : Array Slot} {rest : List Value} (hd : decode c.code pc = .ok (.lastore, 1)) :
    ∃ T' h', Stand p l e R s m args below meth c T' (locs ++ [⟨a, j.toNatClampNeg⟩]) cells slots ∧ T'.heap = h' ∧ Wr h h' a j.toNatClampNeg (.long x) ∧ Arv Z h' a kc .long zl (vs.set i (.long x)) dv ∧ ∀ t, Steps p.tables e below (T'.setTop (mkF m (pc + 1) Ls rest)) t → Steps p.tables e below (T.setTop (mkF m pc Ls ((.long x) :: .int j :: .ref a :: rest))) t := by
  obtain ⟨cl, A, q1, S, N, H, G⟩ := V
  obtain ⟨T', h', X', e', W, st⟩ := stJ X hx hZ eT A (j := j) (x := x) (inb_of S hj) (g := mkF m pc Ls ((.long x) :: .int j :: .ref a :: rest)) rfl rfl hd
  exact ⟨T', h', X', e', W, Arv.set A q1 S N H G rfl W i hi hl, st⟩
theorem own_if_pos {P : Prop} [Decidable P] {a b z : Int32} (h : P) (e : a = z) : (if P then a else b) = z := (if_pos h).trans e
theorem own_nar_ite {P : Prop} [Decidable P] : narrow .boolean (.int (if P then (1 : Int32) else (0 : Int32))) = .int (if P then (1 : Int32) else (0 : Int32)) := by split <;> rfl
theorem own_nar_ite' {P : Prop} [Decidable P] : narrow .boolean (.int (if P then (0 : Int32) else (1 : Int32))) = .int (if P then (0 : Int32) else (1 : Int32)) := by split <;> rfl
theorem own_nar_char (x : Int32) : nar .char x.toUInt32.toUInt16.toUInt32.toInt32 = x.toUInt32.toUInt16.toUInt32.toInt32 := by
  simp [nar]
  congr 1
  apply UInt32.toNat_inj.mp
  simp
theorem GoOn.retD {Q : Option Value → Heap → List Loc → Prop} {rc rs : Nat} (X : Stand p l e R s m args below meth c T locs cells slots) (hx : p.tables.exec = Jvm.exec) (hlk : meth.locks = false) {pc : Nat} {Ls : Array Slot} {z : UInt64} {rest : List Value} (hret : meth.sig.returnType = some .double) (hd : decode c.code pc = .ok (.dreturn, 1))
    (hq : Q (some (.double z)) T.heap locs) (hc : cells ≤ rc) (hs : slots ≤ rs) : GoOn p e below (OwPost Q s rc rs) (T.setTop (mkF m pc Ls (.double z :: rest))) :=
  GoOn.out X hlk (fun h => by rw [hret] at h; cases h) hq hc hs fun fs hr => retOut X hx hret rfl (Or.inr (Or.inr (Or.inl ⟨rfl, rfl, _, rfl⟩))) hd hr
theorem own_daload {a : Addr} {kc : ClassId} {zl j : Int32} {vs : List Value} {dv v : Value} (X : Stand p l e R s m args below meth c T locs cells slots) (hx : p.tables.exec = Jvm.exec) (hZ : Z.Warmed39 s.vm) (eT : T.heap = h) (V : Arv Z h a kc .double zl vs dv) (hj : ¬ j < 0 ∧ j < zl) (hv : vs.getD j.toNatClampNeg dv = v) {pc : Nat} {Ls : Array Slot} {rest : List Value} (hd : decode c.code pc = .ok (.daload, 1)) :
    ∀ t, Steps p.tables e below (T.setTop (mkF m (pc + 1) Ls (v :: rest))) t → Steps p.tables e below (T.setTop (mkF m pc Ls (.int j :: .ref a :: rest))) t := by
  obtain ⟨cl, A, -, S, N, H, -⟩ := V
  intro t k
  exact X.daload hx (j := j) (v := v) (by rw [eT]; exact A.1) (State.isArrayOf_alike hZ.alike A.2.1) A.2.2 (inb_of S hj) (H.at (inb_of S hj) hv) (g := mkF m pc Ls (.int j :: .ref a :: rest)) rfl rfl hd _ k
theorem own_dastore {a : Addr} {kc : ClassId} {zl j : Int32} {x : UInt64} {vs : List Value} {dv : Value} (X : Stand p l e R s m args below meth c T locs cells slots) (hx : p.tables.exec = Jvm.exec) (hZ : Z.Warmed39 s.vm) (eT : T.heap = h) (V : Arv Z h a kc .double zl vs dv) (hj : ¬ j < 0 ∧ j < zl) (i : Nat) (hi : j.toNatClampNeg = i) (hl : i < vs.length) {pc : Nat} {Ls : Array Slot} {rest : List Value} (hd : decode c.code pc = .ok (.dastore, 1)) :
    ∃ T' h', Stand p l e R s m args below meth c T' (locs ++ [⟨a, j.toNatClampNeg⟩]) cells slots ∧ T'.heap = h' ∧ Wr h h' a j.toNatClampNeg (.double x) ∧ Arv Z h' a kc .double zl (vs.set i (.double x)) dv ∧ ∀ t, Steps p.tables e below (T'.setTop (mkF m (pc + 1) Ls rest)) t → Steps p.tables e below (T.setTop (mkF m pc Ls (.double x :: .int j :: .ref a :: rest))) t := by
  obtain ⟨cl, A, q1, S, N, H, G⟩ := V
  obtain ⟨T', h', X', e', W, st⟩ := stD X hx hZ eT A (j := j) (x := x) (inb_of S hj) (g := mkF m pc Ls (.double x :: .int j :: .ref a :: rest)) rfl rfl hd
  exact ⟨T', h', X', e', W, Arv.set A q1 S N H G rfl W i hi hl, st⟩
theorem own_arv_out {a : Addr} {kc : ClassId} {ty : FieldType} {zl j : Int32} {vs : List Value} {dv v : Value} (V : Arv Z h a kc ty zl vs dv) (i : Nat) (hi : j.toNatClampNeg = i) (hj : ¬ j < 0) (hz : ¬ j < zl) : Arv Z h a kc ty zl (vs.set i v) dv := by
  obtain ⟨cl, A, q1, S, N, H, G⟩ := V
  have hlt : cl.slots.size ≤ i := by
    rw [S, ← hi]
    rw [Int32.lt_iff_toInt_lt] at hj hz N
    have e0 : (0 : Int32).toInt = 0 := rfl
    simp only [Int32.toNatClampNeg]; omega
  have e : ∀ x, x < cl.slots.size → (vs.set i v).getD x dv = vs.getD x dv := fun x hx => by
    simp only [List.getD_eq_getElem?_getD]
    rw [List.getElem?_set_ne (by omega)]
  exact ⟨cl, A, q1, S, N, fun x hx => by rw [e x hx]; exact H x hx, fun x hx => by rw [e x hx]; exact G x hx⟩
end Own
end Jvm.OwnKit
namespace Jvm.Pilot.@@N@@
open Jvm Jvm.ClassFile Sem Op Lib Jvm.Free Jvm.Stand Jvm.LawKit Jvm.RoadKit Jvm.OwnKit Bundle Jvm.Pilot.@@N@@.Jvm.D
theorem own_not (h : Int64) : h ^^^ (-1) = -h - 1 := by
  have : h ^^^ (-1) = ~~~h := by
    apply Int64.toBitVec.inj; simp
  rw [this]
  exact Int64.not_eq_neg_sub h
theorem own_one : (1 : Int32).toInt64 = 1 := rfl
theorem own_zero : (0 : Int32).toInt64 = 0 := rfl
theorem own_sum (h l : Int64) : h + ((h ^^^ (-1 : Int64)) + ((if l = (0 : Int64) then (1 : Int32) else (0 : Int32))).toInt64) + (if l = (0 : Int64) then (0 : Int64) else (1 : Int64)) = 0 := by
  rw [own_not]
  split
  · rw [own_one]; grind
  · rw [own_zero]; grind
theorem own_low (l : Int64) : l + (-l) = 0 := by grind
theorem ef_nh (m : MethodId) (x0 : Int64) (x1 : Int64) : entryFrame m #[(.long x0), (.long x1)] 4 = mkF m 0 #[.val (.long x0), .second, .val (.long x1), .second] [] := by first | (simp [entryFrame, mkF, argsToLocals, Value.category]; done) | rfl
theorem pn_com_example_nano_embed_nanoembed_geometry_Int128 : plainName "com/example/nano_embed/nanoembed/geometry/Int128" = true := by first | (simp [plainName, overriddenIn]; done) | decide +kernel
theorem d_prog_28_method_4_0 : decode prog_28_method_4_code 0 = .ok (.lload_n 0, 1) := by decide +kernel
theorem d_prog_28_method_4_1 : decode prog_28_method_4_code 1 = .ok (.ldc2_w 37, 3) := by decide +kernel
theorem d_prog_28_method_4_4 : decode prog_28_method_4_code 4 = .ok (.lxor, 1) := by decide +kernel
theorem d_prog_28_method_4_5 : decode prog_28_method_4_code 5 = .ok (.lload_n 2, 1) := by decide +kernel
theorem d_prog_28_method_4_6 : decode prog_28_method_4_code 6 = .ok (.lconst 0, 1) := by decide +kernel
theorem d_prog_28_method_4_7 : decode prog_28_method_4_code 7 = .ok (.lcmp, 1) := by decide +kernel
theorem d_prog_28_method_4_8 : decode prog_28_method_4_code 8 = .ok (.ifCond .ne 7, 3) := by decide +kernel
theorem d_prog_28_method_4_11 : decode prog_28_method_4_code 11 = .ok (.iconst 1, 1) := by decide +kernel
theorem d_prog_28_method_4_12 : decode prog_28_method_4_code 12 = .ok (.goto 4, 3) := by decide +kernel
theorem d_prog_28_method_4_15 : decode prog_28_method_4_code 15 = .ok (.iconst 0, 1) := by decide +kernel
theorem d_prog_28_method_4_16 : decode prog_28_method_4_code 16 = .ok (.i2l, 1) := by decide +kernel
theorem d_prog_28_method_4_17 : decode prog_28_method_4_code 17 = .ok (.ladd, 1) := by decide +kernel
theorem d_prog_28_method_4_18 : decode prog_28_method_4_code 18 = .ok (.lreturn, 1) := by decide +kernel
set_option maxRecDepth 65536 in
set_option maxHeartbeats 40000000 in
theorem rm_nh (l : Launch) (Z : State) (a0 : Array Value) (hw : ∀ d ∈ tables_1, d.before a0 Z = true) (q1 q2 : Int64) (h0 : Heap) :
    OwCon l Z (⟨"com/example/nano_embed/nanoembed/geometry/Int128", "negatedHigh", "(JJ)J"⟩ : MethodName) prog_28_method_4_code 4 (some .long) [] ({ frames := 0, cells := 0, slots := 0, locals := 0 } : Room) #[(.long q1), (.long q2)] h0 (OwRet (some (.long ((q1 ^^^ (-1 : Int64)) + ((if q2 = (0 : Int64) then (1 : Int32) else (0 : Int32))).toInt64))) h0) := by
  refine OwCon.of (plainFor_of_name pn_com_example_nano_embed_nanoembed_geometry_Int128) ?_
  intro p e s m below meth c s₁ X0 hx hby hml hret hlk hown hnm hZ e0
  refine GoOn.st (fun t k => castTop (ef_nh m q1 q2) k) ?_
  show GoOn _ _ _ _ (s₁.setTop (mkF m 0 #[.val (.long q1), .second, .val (.long q2), .second] []))
  refine GoOn.st (fun t k => XS.lloadN X0.here hx rfl (hb hby d_prog_28_method_4_0) rfl k) ?_
  show GoOn _ _ _ _ (s₁.setTop (mkF m 1 #[.val (.long q1), .second, .val (.long q2), .second] [(.long q1)]))
  refine GoOn.st (fun t k => X0.ldc2Long hx hown (mvT hZ (hw _ (List.mem_of_getElem? (i := 4) rfl))) (g := (mkF m 1 #[.val (.long q1), .second, .val (.long q2), .second] [(.long q1)])) rfl (hb hby d_prog_28_method_4_1) _ k) ?_
  show GoOn _ _ _ _ (s₁.setTop (mkF m 4 #[.val (.long q1), .second, .val (.long q2), .second] [(.long (-1 : Int64)), (.long q1)]))
  refine GoOn.st (fun t k => XS.lxor X0.here hx rfl (hb hby d_prog_28_method_4_4) rfl k) ?_
  show GoOn _ _ _ _ (s₁.setTop (mkF m 5 #[.val (.long q1), .second, .val (.long q2), .second] [(.long (q1 ^^^ (-1 : Int64)))]))
  refine GoOn.st (fun t k => XS.lloadN X0.here hx rfl (hb hby d_prog_28_method_4_5) rfl k) ?_
  show GoOn _ _ _ _ (s₁.setTop (mkF m 6 #[.val (.long q1), .second, .val (.long q2), .second] [(.long q2), (.long (q1 ^^^ (-1 : Int64)))]))
  refine GoOn.st (fun t k => XS.lconst X0.here hx rfl (hb hby d_prog_28_method_4_6)  k) ?_
  show GoOn _ _ _ _ (s₁.setTop (mkF m 7 #[.val (.long q1), .second, .val (.long q2), .second] [(.long (0 : Int64)), (.long q2), (.long (q1 ^^^ (-1 : Int64)))]))
  refine GoOn.st (fun t k => XS.lcmp X0.here hx rfl (hb hby d_prog_28_method_4_7) rfl k) ?_
  show GoOn _ _ _ _ (s₁.setTop (mkF m 8 #[.val (.long q1), .second, .val (.long q2), .second] [(.int (lcmpW q2 (0 : Int64))), (.long (q1 ^^^ (-1 : Int64)))]))
  have dm1 : ∀ zz : Int32, zz = (if q2 = (0 : Int64) then (1 : Int32) else (0 : Int32)) → ∀ t, Steps p.tables e below (s₁.setTop (mkF m 16 #[.val (.long q1), .second, .val (.long q2), .second] [(.int zz), (.long (q1 ^^^ (-1 : Int64)))])) t → Steps p.tables e below (s₁.setTop (mkF m 8 #[.val (.long q1), .second, .val (.long q2), .second] [(.int (lcmpW q2 (0 : Int64))), (.long (q1 ^^^ (-1 : Int64)))])) t := by
    intro zz hzz t k; by_cases hc : q2 = (0 : Int64)
    · rw [hzz.trans (if_pos hc)] at k
      refine XS.ifNo X0.here hx rfl (hb hby d_prog_28_method_4_8) rfl ((if0 _ _).trans (teq ((lw_eq q2 (0 : Int64)).mpr hc)).2) ?_
      show Steps _ _ _ (s₁.setTop (mkF m 11 #[.val (.long q1), .second, .val (.long q2), .second] [(.long (q1 ^^^ (-1 : Int64)))])) _
      refine XS.iconst X0.here hx rfl (hb hby d_prog_28_method_4_11) ?_
      show Steps _ _ _ (s₁.setTop (mkF m 12 #[.val (.long q1), .second, .val (.long q2), .second] [(.int (1 : Int32)), (.long (q1 ^^^ (-1 : Int64)))])) _
      exact XS.goto X0.here hx rfl (pc0 := 12) (pc' := 16) rfl (hb hby d_prog_28_method_4_12) (by decide) (by decide) k
    · rw [hzz.trans (if_neg hc)] at k
      refine XS.ifYes X0.here hx rfl (pc0 := 8) (pc' := 15) rfl (hb hby d_prog_28_method_4_8) rfl ((if0 _ _).trans (feq (fun q => hc ((lw_eq q2 (0 : Int64)).mp q))).2) (by decide) (by decide) ?_
      show Steps _ _ _ (s₁.setTop (mkF m 15 #[.val (.long q1), .second, .val (.long q2), .second] [(.long (q1 ^^^ (-1 : Int64)))])) _
      exact XS.iconst X0.here hx rfl (hb hby d_prog_28_method_4_15) k
  refine GoOn.st (dm1 _ rfl) ?_
  show GoOn _ _ _ _ (s₁.setTop (mkF m 16 #[.val (.long q1), .second, .val (.long q2), .second] [(.int (if q2 = (0 : Int64) then (1 : Int32) else (0 : Int32))), (.long (q1 ^^^ (-1 : Int64)))]))
  refine GoOn.st (fun t k => XS.i2l X0.here hx rfl (hb hby d_prog_28_method_4_16) rfl k) ?_
  show GoOn _ _ _ _ (s₁.setTop (mkF m 17 #[.val (.long q1), .second, .val (.long q2), .second] [(.long (((if q2 = (0 : Int64) then (1 : Int32) else (0 : Int32))).toInt64)), (.long (q1 ^^^ (-1 : Int64)))]))
  refine GoOn.st (fun t k => XS.ladd X0.here hx rfl (hb hby d_prog_28_method_4_17) rfl k) ?_
  show GoOn _ _ _ _ (s₁.setTop (mkF m 18 #[.val (.long q1), .second, .val (.long q2), .second] [(.long ((q1 ^^^ (-1 : Int64)) + (((if q2 = (0 : Int64) then (1 : Int32) else (0 : Int32))).toInt64)))]))
  exact GoOn.retJ X0 hx hlk hret (hb hby d_prog_28_method_4_18) ⟨rfl, rfl, e0⟩ (by decide) (by decide)
theorem ef_law (m : MethodId) (x0 : Int64) (x1 : Int64) : entryFrame m #[(.long x0), (.long x1)] maxLocals = mkF m 0 #[.val (.long x0), .second, .val (.long x1), .second, .unset, .unset, .unset, .unset, .unset, .unset, .unset, .unset] [] := by first | (simp [entryFrame, mkF, argsToLocals, Value.category, maxLocals]; done) | rfl
theorem pn_com_example_nano_embed_nanoembed_geometry_Int128NegatedHighPinLaw : plainName "com/example/nano_embed/nanoembed/geometry/Int128NegatedHighPinLaw" = true := by first | (simp [plainName, overriddenIn]; done) | decide +kernel
theorem pd_0 : parseMethodDescriptor "(JJ)J" = some ⟨[.long, .long], some .long⟩ := by decide +kernel
set_option maxRecDepth 65536 in
set_option maxHeartbeats 40000000 in
theorem rm_law (l : Launch) (Z : State) (a0 : Array Value) (hw : ∀ d ∈ tables_1, d.before a0 Z = true) (ws : List Jvm.Cond) (q1 q2 : Int64) (h0 : Heap) (n0 : Nat) (Z0 : n0 ≤ h0.size) :
    OwCon l Z x code maxLocals ret ws room_1 #[(.long q1), (.long q2)] h0 (fun v h L => v = some (.int 1) ∧ Fr n0 L) := by
  refine OwCon.of (plainFor_of_name pn_com_example_nano_embed_nanoembed_geometry_Int128NegatedHighPinLaw) ?_
  intro p e s m below meth c s₁ X0 hx hby hml hret hlk hown hnm hZ e0
  have N0 := Fr.nil n0
  refine GoOn.st (fun t k => castTop (ef_law m q1 q2) k) ?_
  show GoOn _ _ _ _ (s₁.setTop (mkF m 0 #[.val (.long q1), .second, .val (.long q2), .second, .unset, .unset, .unset, .unset, .unset, .unset, .unset, .unset] []))
  refine GoOn.st (fun t k => XS.lloadN X0.here hx rfl (hb hby at_0) rfl k) ?_
  show GoOn _ _ _ _ (s₁.setTop (mkF m 1 #[.val (.long q1), .second, .val (.long q2), .second, .unset, .unset, .unset, .unset, .unset, .unset, .unset, .unset] [(.long q1)]))
  refine GoOn.st (fun t k => XS.lloadN X0.here hx rfl (hb hby at_1) rfl k) ?_
  show GoOn _ _ _ _ (s₁.setTop (mkF m 2 #[.val (.long q1), .second, .val (.long q2), .second, .unset, .unset, .unset, .unset, .unset, .unset, .unset, .unset] [(.long q2), (.long q1)]))
  refine GoOn.callS (W := 0) (argsL := [(.long q1), (.long q2)]) (rest := []) X0 hx hZ hown (hw _ (List.mem_of_getElem? (i := 0) rfl)) (hw _ (List.mem_of_getElem? (i := 1) rfl)) (hw _ (List.mem_of_getElem? (i := 2) rfl)) (hw _ (List.mem_of_getElem? (i := 3) rfl)) (by decide) (rm_nh l Z a0 hw q1 q2 h0) e0 (by decide) (by decide) (by rw [hml]; rfl) pd_0 rfl rfl (by decide) (hb hby at_2) (by decide) (by decide) ?_
  rintro _ T1 L1 X1 ⟨rfl, rfl, e1⟩
  rw [List.append_nil] at X1
  show GoOn _ _ _ _ (T1.setTop (mkF m 5 #[.val (.long q1), .second, .val (.long q2), .second, .unset, .unset, .unset, .unset, .unset, .unset, .unset, .unset] [(.long ((q1 ^^^ (-1 : Int64)) + ((if q2 = (0 : Int64) then (1 : Int32) else (0 : Int32))).toInt64))]))
  refine GoOn.st (fun t k => XS.lstore X1.here hx rfl (hb hby at_5) rfl (l' := #[.val (.long q1), .second, .val (.long q2), .second, .val (.long ((q1 ^^^ (-1 : Int64)) + ((if q2 = (0 : Int64) then (1 : Int32) else (0 : Int32))).toInt64)), .second, .unset, .unset, .unset, .unset, .unset, .unset]) rfl k) ?_
  show GoOn _ _ _ _ (T1.setTop (mkF m 7 #[.val (.long q1), .second, .val (.long q2), .second, .val (.long ((q1 ^^^ (-1 : Int64)) + ((if q2 = (0 : Int64) then (1 : Int32) else (0 : Int32))).toInt64)), .second, .unset, .unset, .unset, .unset, .unset, .unset] []))
  refine GoOn.st (fun t k => XS.lloadN X1.here hx rfl (hb hby at_7) rfl k) ?_
  show GoOn _ _ _ _ (T1.setTop (mkF m 8 #[.val (.long q1), .second, .val (.long q2), .second, .val (.long ((q1 ^^^ (-1 : Int64)) + ((if q2 = (0 : Int64) then (1 : Int32) else (0 : Int32))).toInt64)), .second, .unset, .unset, .unset, .unset, .unset, .unset] [(.long q2)]))
  refine GoOn.st (fun t k => XS.lneg X1.here hx rfl (hb hby at_8) rfl k) ?_
  show GoOn _ _ _ _ (T1.setTop (mkF m 9 #[.val (.long q1), .second, .val (.long q2), .second, .val (.long ((q1 ^^^ (-1 : Int64)) + ((if q2 = (0 : Int64) then (1 : Int32) else (0 : Int32))).toInt64)), .second, .unset, .unset, .unset, .unset, .unset, .unset] [(.long ((-q2)))]))
  refine GoOn.st (fun t k => XS.lstore X1.here hx rfl (hb hby at_9) rfl (l' := #[.val (.long q1), .second, .val (.long q2), .second, .val (.long ((q1 ^^^ (-1 : Int64)) + ((if q2 = (0 : Int64) then (1 : Int32) else (0 : Int32))).toInt64)), .second, .val (.long ((-q2))), .second, .unset, .unset, .unset, .unset]) rfl k) ?_
  show GoOn _ _ _ _ (T1.setTop (mkF m 11 #[.val (.long q1), .second, .val (.long q2), .second, .val (.long ((q1 ^^^ (-1 : Int64)) + ((if q2 = (0 : Int64) then (1 : Int32) else (0 : Int32))).toInt64)), .second, .val (.long ((-q2))), .second, .unset, .unset, .unset, .unset] []))
  refine GoOn.st (fun t k => XS.lloadN X1.here hx rfl (hb hby at_11) rfl k) ?_
  show GoOn _ _ _ _ (T1.setTop (mkF m 12 #[.val (.long q1), .second, .val (.long q2), .second, .val (.long ((q1 ^^^ (-1 : Int64)) + ((if q2 = (0 : Int64) then (1 : Int32) else (0 : Int32))).toInt64)), .second, .val (.long ((-q2))), .second, .unset, .unset, .unset, .unset] [(.long q2)]))
  refine GoOn.st (fun t k => XS.lload X1.here hx rfl (hb hby at_12) rfl k) ?_
  show GoOn _ _ _ _ (T1.setTop (mkF m 14 #[.val (.long q1), .second, .val (.long q2), .second, .val (.long ((q1 ^^^ (-1 : Int64)) + ((if q2 = (0 : Int64) then (1 : Int32) else (0 : Int32))).toInt64)), .second, .val (.long ((-q2))), .second, .unset, .unset, .unset, .unset] [(.long ((-q2))), (.long q2)]))
  refine GoOn.st (fun t k => XS.ladd X1.here hx rfl (hb hby at_14) rfl k) ?_
  show GoOn _ _ _ _ (T1.setTop (mkF m 15 #[.val (.long q1), .second, .val (.long q2), .second, .val (.long ((q1 ^^^ (-1 : Int64)) + ((if q2 = (0 : Int64) then (1 : Int32) else (0 : Int32))).toInt64)), .second, .val (.long ((-q2))), .second, .unset, .unset, .unset, .unset] [(.long (q2 + ((-q2))))]))
  refine GoOn.st (fun t k => XS.lstore X1.here hx rfl (hb hby at_15) rfl (l' := #[.val (.long q1), .second, .val (.long q2), .second, .val (.long ((q1 ^^^ (-1 : Int64)) + ((if q2 = (0 : Int64) then (1 : Int32) else (0 : Int32))).toInt64)), .second, .val (.long ((-q2))), .second, .val (.long (q2 + ((-q2)))), .second, .unset, .unset]) rfl k) ?_
  show GoOn _ _ _ _ (T1.setTop (mkF m 17 #[.val (.long q1), .second, .val (.long q2), .second, .val (.long ((q1 ^^^ (-1 : Int64)) + ((if q2 = (0 : Int64) then (1 : Int32) else (0 : Int32))).toInt64)), .second, .val (.long ((-q2))), .second, .val (.long (q2 + ((-q2)))), .second, .unset, .unset] []))
  refine GoOn.st (fun t k => XS.lloadN X1.here hx rfl (hb hby at_17) rfl k) ?_
  show GoOn _ _ _ _ (T1.setTop (mkF m 18 #[.val (.long q1), .second, .val (.long q2), .second, .val (.long ((q1 ^^^ (-1 : Int64)) + ((if q2 = (0 : Int64) then (1 : Int32) else (0 : Int32))).toInt64)), .second, .val (.long ((-q2))), .second, .val (.long (q2 + ((-q2)))), .second, .unset, .unset] [(.long q2)]))
  refine GoOn.st (fun t k => XS.lconst X1.here hx rfl (hb hby at_18)  k) ?_
  show GoOn _ _ _ _ (T1.setTop (mkF m 19 #[.val (.long q1), .second, .val (.long q2), .second, .val (.long ((q1 ^^^ (-1 : Int64)) + ((if q2 = (0 : Int64) then (1 : Int32) else (0 : Int32))).toInt64)), .second, .val (.long ((-q2))), .second, .val (.long (q2 + ((-q2)))), .second, .unset, .unset] [(.long (0 : Int64)), (.long q2)]))
  refine GoOn.st (fun t k => XS.lcmp X1.here hx rfl (hb hby at_19) rfl k) ?_
  show GoOn _ _ _ _ (T1.setTop (mkF m 20 #[.val (.long q1), .second, .val (.long q2), .second, .val (.long ((q1 ^^^ (-1 : Int64)) + ((if q2 = (0 : Int64) then (1 : Int32) else (0 : Int32))).toInt64)), .second, .val (.long ((-q2))), .second, .val (.long (q2 + ((-q2)))), .second, .unset, .unset] [(.int (lcmpW q2 (0 : Int64)))]))
  have dm2 : ∀ zz : Int64, zz = (if q2 = (0 : Int64) then (0 : Int64) else (1 : Int64)) → ∀ t, Steps p.tables e below (T1.setTop (mkF m 28 #[.val (.long q1), .second, .val (.long q2), .second, .val (.long ((q1 ^^^ (-1 : Int64)) + ((if q2 = (0 : Int64) then (1 : Int32) else (0 : Int32))).toInt64)), .second, .val (.long ((-q2))), .second, .val (.long (q2 + ((-q2)))), .second, .unset, .unset] [(.long zz)])) t → Steps p.tables e below (T1.setTop (mkF m 20 #[.val (.long q1), .second, .val (.long q2), .second, .val (.long ((q1 ^^^ (-1 : Int64)) + ((if q2 = (0 : Int64) then (1 : Int32) else (0 : Int32))).toInt64)), .second, .val (.long ((-q2))), .second, .val (.long (q2 + ((-q2)))), .second, .unset, .unset] [(.int (lcmpW q2 (0 : Int64)))])) t := by
    intro zz hzz t k; by_cases hc : q2 = (0 : Int64)
    · rw [hzz.trans (if_pos hc)] at k
      refine XS.ifYes X1.here hx rfl (pc0 := 20) (pc' := 27) rfl (hb hby at_20) rfl ((if0 _ _).trans (teq ((lw_eq q2 (0 : Int64)).mpr hc)).1) (by decide) (by decide) ?_
      show Steps _ _ _ (T1.setTop (mkF m 27 #[.val (.long q1), .second, .val (.long q2), .second, .val (.long ((q1 ^^^ (-1 : Int64)) + ((if q2 = (0 : Int64) then (1 : Int32) else (0 : Int32))).toInt64)), .second, .val (.long ((-q2))), .second, .val (.long (q2 + ((-q2)))), .second, .unset, .unset] [])) _
      exact XS.lconst X1.here hx rfl (hb hby at_27) k
    · rw [hzz.trans (if_neg hc)] at k
      refine XS.ifNo X1.here hx rfl (hb hby at_20) rfl ((if0 _ _).trans (feq (fun q => hc ((lw_eq q2 (0 : Int64)).mp q))).1) ?_
      show Steps _ _ _ (T1.setTop (mkF m 23 #[.val (.long q1), .second, .val (.long q2), .second, .val (.long ((q1 ^^^ (-1 : Int64)) + ((if q2 = (0 : Int64) then (1 : Int32) else (0 : Int32))).toInt64)), .second, .val (.long ((-q2))), .second, .val (.long (q2 + ((-q2)))), .second, .unset, .unset] [])) _
      refine XS.lconst X1.here hx rfl (hb hby at_23) ?_
      show Steps _ _ _ (T1.setTop (mkF m 24 #[.val (.long q1), .second, .val (.long q2), .second, .val (.long ((q1 ^^^ (-1 : Int64)) + ((if q2 = (0 : Int64) then (1 : Int32) else (0 : Int32))).toInt64)), .second, .val (.long ((-q2))), .second, .val (.long (q2 + ((-q2)))), .second, .unset, .unset] [(.long (1 : Int64))])) _
      exact XS.goto X1.here hx rfl (pc0 := 24) (pc' := 28) rfl (hb hby at_24) (by decide) (by decide) k
  refine GoOn.st (dm2 _ rfl) ?_
  show GoOn _ _ _ _ (T1.setTop (mkF m 28 #[.val (.long q1), .second, .val (.long q2), .second, .val (.long ((q1 ^^^ (-1 : Int64)) + ((if q2 = (0 : Int64) then (1 : Int32) else (0 : Int32))).toInt64)), .second, .val (.long ((-q2))), .second, .val (.long (q2 + ((-q2)))), .second, .unset, .unset] [(.long (if q2 = (0 : Int64) then (0 : Int64) else (1 : Int64)))]))
  refine GoOn.st (fun t k => XS.lstore X1.here hx rfl (hb hby at_28) rfl (l' := #[.val (.long q1), .second, .val (.long q2), .second, .val (.long ((q1 ^^^ (-1 : Int64)) + ((if q2 = (0 : Int64) then (1 : Int32) else (0 : Int32))).toInt64)), .second, .val (.long ((-q2))), .second, .val (.long (q2 + ((-q2)))), .second, .val (.long (if q2 = (0 : Int64) then (0 : Int64) else (1 : Int64))), .second]) rfl k) ?_
  show GoOn _ _ _ _ (T1.setTop (mkF m 30 #[.val (.long q1), .second, .val (.long q2), .second, .val (.long ((q1 ^^^ (-1 : Int64)) + ((if q2 = (0 : Int64) then (1 : Int32) else (0 : Int32))).toInt64)), .second, .val (.long ((-q2))), .second, .val (.long (q2 + ((-q2)))), .second, .val (.long (if q2 = (0 : Int64) then (0 : Int64) else (1 : Int64))), .second] []))
  refine GoOn.st (fun t k => XS.lload X1.here hx rfl (hb hby at_30) rfl k) ?_
  show GoOn _ _ _ _ (T1.setTop (mkF m 32 #[.val (.long q1), .second, .val (.long q2), .second, .val (.long ((q1 ^^^ (-1 : Int64)) + ((if q2 = (0 : Int64) then (1 : Int32) else (0 : Int32))).toInt64)), .second, .val (.long ((-q2))), .second, .val (.long (q2 + ((-q2)))), .second, .val (.long (if q2 = (0 : Int64) then (0 : Int64) else (1 : Int64))), .second] [(.long (q2 + ((-q2))))]))
  refine GoOn.st (fun t k => XS.lconst X1.here hx rfl (hb hby at_32)  k) ?_
  show GoOn _ _ _ _ (T1.setTop (mkF m 33 #[.val (.long q1), .second, .val (.long q2), .second, .val (.long ((q1 ^^^ (-1 : Int64)) + ((if q2 = (0 : Int64) then (1 : Int32) else (0 : Int32))).toInt64)), .second, .val (.long ((-q2))), .second, .val (.long (q2 + ((-q2)))), .second, .val (.long (if q2 = (0 : Int64) then (0 : Int64) else (1 : Int64))), .second] [(.long (0 : Int64)), (.long (q2 + ((-q2))))]))
  refine GoOn.st (fun t k => XS.lcmp X1.here hx rfl (hb hby at_33) rfl k) ?_
  show GoOn _ _ _ _ (T1.setTop (mkF m 34 #[.val (.long q1), .second, .val (.long q2), .second, .val (.long ((q1 ^^^ (-1 : Int64)) + ((if q2 = (0 : Int64) then (1 : Int32) else (0 : Int32))).toInt64)), .second, .val (.long ((-q2))), .second, .val (.long (q2 + ((-q2)))), .second, .val (.long (if q2 = (0 : Int64) then (0 : Int64) else (1 : Int64))), .second] [(.int (lcmpW (q2 + ((-q2))) (0 : Int64)))]))
  refine GoOn.st (fun t k => XS.ifNo X1.here hx rfl (hb hby at_34) rfl ((if0 _ _).trans (teq ((lw_eq (q2 + ((-q2))) (0 : Int64)).mpr (own_low _))).2) k) ?_
  show GoOn _ _ _ _ (T1.setTop (mkF m 37 #[.val (.long q1), .second, .val (.long q2), .second, .val (.long ((q1 ^^^ (-1 : Int64)) + ((if q2 = (0 : Int64) then (1 : Int32) else (0 : Int32))).toInt64)), .second, .val (.long ((-q2))), .second, .val (.long (q2 + ((-q2)))), .second, .val (.long (if q2 = (0 : Int64) then (0 : Int64) else (1 : Int64))), .second] []))
  refine GoOn.st (fun t k => XS.lloadN X1.here hx rfl (hb hby at_37) rfl k) ?_
  show GoOn _ _ _ _ (T1.setTop (mkF m 38 #[.val (.long q1), .second, .val (.long q2), .second, .val (.long ((q1 ^^^ (-1 : Int64)) + ((if q2 = (0 : Int64) then (1 : Int32) else (0 : Int32))).toInt64)), .second, .val (.long ((-q2))), .second, .val (.long (q2 + ((-q2)))), .second, .val (.long (if q2 = (0 : Int64) then (0 : Int64) else (1 : Int64))), .second] [(.long q1)]))
  refine GoOn.st (fun t k => XS.lload X1.here hx rfl (hb hby at_38) rfl k) ?_
  show GoOn _ _ _ _ (T1.setTop (mkF m 40 #[.val (.long q1), .second, .val (.long q2), .second, .val (.long ((q1 ^^^ (-1 : Int64)) + ((if q2 = (0 : Int64) then (1 : Int32) else (0 : Int32))).toInt64)), .second, .val (.long ((-q2))), .second, .val (.long (q2 + ((-q2)))), .second, .val (.long (if q2 = (0 : Int64) then (0 : Int64) else (1 : Int64))), .second] [(.long ((q1 ^^^ (-1 : Int64)) + ((if q2 = (0 : Int64) then (1 : Int32) else (0 : Int32))).toInt64)), (.long q1)]))
  refine GoOn.st (fun t k => XS.ladd X1.here hx rfl (hb hby at_40) rfl k) ?_
  show GoOn _ _ _ _ (T1.setTop (mkF m 41 #[.val (.long q1), .second, .val (.long q2), .second, .val (.long ((q1 ^^^ (-1 : Int64)) + ((if q2 = (0 : Int64) then (1 : Int32) else (0 : Int32))).toInt64)), .second, .val (.long ((-q2))), .second, .val (.long (q2 + ((-q2)))), .second, .val (.long (if q2 = (0 : Int64) then (0 : Int64) else (1 : Int64))), .second] [(.long (q1 + ((q1 ^^^ (-1 : Int64)) + ((if q2 = (0 : Int64) then (1 : Int32) else (0 : Int32))).toInt64)))]))
  refine GoOn.st (fun t k => XS.lload X1.here hx rfl (hb hby at_41) rfl k) ?_
  show GoOn _ _ _ _ (T1.setTop (mkF m 43 #[.val (.long q1), .second, .val (.long q2), .second, .val (.long ((q1 ^^^ (-1 : Int64)) + ((if q2 = (0 : Int64) then (1 : Int32) else (0 : Int32))).toInt64)), .second, .val (.long ((-q2))), .second, .val (.long (q2 + ((-q2)))), .second, .val (.long (if q2 = (0 : Int64) then (0 : Int64) else (1 : Int64))), .second] [(.long (if q2 = (0 : Int64) then (0 : Int64) else (1 : Int64))), (.long (q1 + ((q1 ^^^ (-1 : Int64)) + ((if q2 = (0 : Int64) then (1 : Int32) else (0 : Int32))).toInt64)))]))
  refine GoOn.st (fun t k => XS.ladd X1.here hx rfl (hb hby at_43) rfl k) ?_
  show GoOn _ _ _ _ (T1.setTop (mkF m 44 #[.val (.long q1), .second, .val (.long q2), .second, .val (.long ((q1 ^^^ (-1 : Int64)) + ((if q2 = (0 : Int64) then (1 : Int32) else (0 : Int32))).toInt64)), .second, .val (.long ((-q2))), .second, .val (.long (q2 + ((-q2)))), .second, .val (.long (if q2 = (0 : Int64) then (0 : Int64) else (1 : Int64))), .second] [(.long ((q1 + ((q1 ^^^ (-1 : Int64)) + ((if q2 = (0 : Int64) then (1 : Int32) else (0 : Int32))).toInt64)) + (if q2 = (0 : Int64) then (0 : Int64) else (1 : Int64))))]))
  refine GoOn.st (fun t k => XS.lconst X1.here hx rfl (hb hby at_44)  k) ?_
  show GoOn _ _ _ _ (T1.setTop (mkF m 45 #[.val (.long q1), .second, .val (.long q2), .second, .val (.long ((q1 ^^^ (-1 : Int64)) + ((if q2 = (0 : Int64) then (1 : Int32) else (0 : Int32))).toInt64)), .second, .val (.long ((-q2))), .second, .val (.long (q2 + ((-q2)))), .second, .val (.long (if q2 = (0 : Int64) then (0 : Int64) else (1 : Int64))), .second] [(.long (0 : Int64)), (.long ((q1 + ((q1 ^^^ (-1 : Int64)) + ((if q2 = (0 : Int64) then (1 : Int32) else (0 : Int32))).toInt64)) + (if q2 = (0 : Int64) then (0 : Int64) else (1 : Int64))))]))
  refine GoOn.st (fun t k => XS.lcmp X1.here hx rfl (hb hby at_45) rfl k) ?_
  show GoOn _ _ _ _ (T1.setTop (mkF m 46 #[.val (.long q1), .second, .val (.long q2), .second, .val (.long ((q1 ^^^ (-1 : Int64)) + ((if q2 = (0 : Int64) then (1 : Int32) else (0 : Int32))).toInt64)), .second, .val (.long ((-q2))), .second, .val (.long (q2 + ((-q2)))), .second, .val (.long (if q2 = (0 : Int64) then (0 : Int64) else (1 : Int64))), .second] [(.int (lcmpW ((q1 + ((q1 ^^^ (-1 : Int64)) + ((if q2 = (0 : Int64) then (1 : Int32) else (0 : Int32))).toInt64)) + (if q2 = (0 : Int64) then (0 : Int64) else (1 : Int64))) (0 : Int64)))]))
  refine GoOn.st (fun t k => XS.ifNo X1.here hx rfl (hb hby at_46) rfl ((if0 _ _).trans (teq ((lw_eq ((q1 + ((q1 ^^^ (-1 : Int64)) + ((if q2 = (0 : Int64) then (1 : Int32) else (0 : Int32))).toInt64)) + (if q2 = (0 : Int64) then (0 : Int64) else (1 : Int64))) (0 : Int64)).mpr (own_sum _ _))).2) k) ?_
  show GoOn _ _ _ _ (T1.setTop (mkF m 49 #[.val (.long q1), .second, .val (.long q2), .second, .val (.long ((q1 ^^^ (-1 : Int64)) + ((if q2 = (0 : Int64) then (1 : Int32) else (0 : Int32))).toInt64)), .second, .val (.long ((-q2))), .second, .val (.long (q2 + ((-q2)))), .second, .val (.long (if q2 = (0 : Int64) then (0 : Int64) else (1 : Int64))), .second] []))
  refine GoOn.st (fun t k => XS.iconst X1.here hx rfl (hb hby at_49)  k) ?_
  show GoOn _ _ _ _ (T1.setTop (mkF m 50 #[.val (.long q1), .second, .val (.long q2), .second, .val (.long ((q1 ^^^ (-1 : Int64)) + ((if q2 = (0 : Int64) then (1 : Int32) else (0 : Int32))).toInt64)), .second, .val (.long ((-q2))), .second, .val (.long (q2 + ((-q2)))), .second, .val (.long (if q2 = (0 : Int64) then (0 : Int64) else (1 : Int64))), .second] [(.int (1 : Int32))]))
  refine GoOn.st (fun t k => XS.goto X1.here hx rfl (pc0 := 50) (pc' := 54) rfl (hb hby at_50) (by decide) (by decide) k) ?_
  show GoOn _ _ _ _ (T1.setTop (mkF m 54 #[.val (.long q1), .second, .val (.long q2), .second, .val (.long ((q1 ^^^ (-1 : Int64)) + ((if q2 = (0 : Int64) then (1 : Int32) else (0 : Int32))).toInt64)), .second, .val (.long ((-q2))), .second, .val (.long (q2 + ((-q2)))), .second, .val (.long (if q2 = (0 : Int64) then (0 : Int64) else (1 : Int64))), .second] [(.int (1 : Int32))]))
  exact GoOn.retZ X1 hx hlk hret (by simp) rfl (hb hby at_54) ⟨rfl, N0⟩ (by decide) (by decide)
set_option maxRecDepth 65536 in
set_option maxHeartbeats 40000000 in
theorem comes_1 {Post : Tables → Env → Array Value → State → Outcome → State → Prop} (hpost : ∀ tb e args s v u, (limb_1_1.after args s (.returned v) u = true ∧ limb_1_2.after args s (.returned v) u = true ∧ True) → FrameEnd s (.returned v) u (Jvm.fieldLocs frame_1_writes args s ++ Jvm.arrayLocs frame_1_arrays args s ++ Jvm.staticLocs frame_1_statics s) 0 0 → Post tb e args s (.returned v) u) :
    ArmFor flags0 classFile x code maxLocals ret World_1 tables_1 room_1 Calls_1 rest_1 Pre_1 Post := by
  intro l hfl _ _ p e ha hc hk s m args below hf hA hF happ hP
  obtain ⟨hcalls, hrest, hpre⟩ := hP
  obtain ⟨-, -, -, hnamed, -, -, -, hat⟩ := (Spec.applies_iff hf).mp happ
  obtain ⟨hg, hn⟩ := and_e (Cond.before_iff.mp (show (Jvm.Cond.and given_1 narrow_1).before args s = true from hpre))
  obtain ⟨hcount, hk0⟩ := and_e hg
  obtain ⟨ha0, hk1⟩ := and_e hk0
  obtain ⟨w0, w1, rfl⟩ : ∃ w0 w1 : Value, args = #[w0, w1] := by
    have hs : args.size = 2 := by simpa [Cond.value, given_1] using hcount
    obtain ⟨L⟩ := args
    match L, hs with
    | [w0, w1], _ => exact ⟨w0, w1, rfl⟩
  have hw := fun d (hd : d ∈ tables_1) => atoms_spec (ws := Jvm.Cond.code x code maxLocals ret :: tables_1) hat d (List.mem_cons_of_mem _ hd)
  have hfit : Fit s := fun {y c} hc i hi => by
    obtain ⟨ha, rfl⟩ := Array.getElem?_eq_some_iff.mp hc
    have q := List.all_eq_true.mp ((Array.all_eq_true_iff_forall_mem.mp hF) _ (Array.getElem_mem ha)) i (List.mem_range.mpr hi)
    simpa [Array.getElem?_eq_getElem hi] using q
  obtain ⟨i0, ei0⟩ := isL_v ha0
  obtain rfl : w0 = (.long i0) := Option.some.inj ei0
  obtain ⟨i1, ei1⟩ := isL_v hk1
  obtain rfl : w1 = (.long i1) := Option.some.inj ei1
  obtain ⟨n, o, h1, h2, h3, _, L, rfl, ⟨rfl, N⟩, hq⟩ := rm_law l s _ hw tables_1 i0 i1 s.heap s.heap.size (Nat.le_refl _) p e ha hc hk s m _ below hf ((Spec.applies_iff_loose hf).mp happ).1 ⟨rfl, State.Warmed39.refl s, rfl⟩ trivial
  refine ⟨n, _, h1, h2, h3, hpost _ _ _ _ _ _ ⟨Cond.after_iff.mpr rfl, Cond.after_iff.mpr (eq_i res_at (Term.int_eval (1)) rfl), trivial⟩ ⟨hq.1, hq.2.1, (hq.2.2.sift fun y hy => Or.inr (N y hy)).mono (by decide) (by decide)⟩⟩
theorem main_1_1 : Claimed_1_1 := comes_1 fun _ _ _ _ _ _ h hF => ⟨h.1, hF⟩
theorem main_1_2 : Claimed_1_2 := comes_1 fun _ _ _ _ _ _ h hF => ⟨h.2.1, hF⟩
end Jvm.Pilot.@@N@@
namespace Jvm.Pilot.@@N@@
open Jvm Jvm.ClassFile Sem Op Lib Jvm.Free Jvm.Stand Jvm.Pilot.@@N@@.Jvm.D
/-! MADE BY PROGRAM (witnessworld.py) out of the Statement's table words and the real class files: 9 classes; the members and pool entries that the words name. The judged class is class 1, her method 1. -/
namespace start1
open Jvm.ClassFile
def u (s : String) : CpInfo := .utf8 (stringToUtf16 s)
/-- a pool by its gaps: so many unusable entries, then the entry; so many at the end -/
def gap : Nat → List CpInfo → List CpInfo
  | 0, r => r
  | n + 1, r => .unusable :: gap n r
def poolList (es : List (Nat × CpInfo)) (last : Nat) : List CpInfo := es.foldr (fun e r => gap e.1 (e.2 :: r)) (gap last [])
def pool (es : List (Nat × CpInfo)) (last : Nat) : Array CpInfo := ⟨poolList es last⟩
def fileOf (pool : Array CpInfo) (this : Nat) (attrs : Array Attribute := #[]) (ms : Array MethodInfo := #[]) (fl : Nat := 33) (sup : Nat := 0) (ifs : Array Nat := #[]) (fds : Array FieldInfo := #[]) : ClassFile where
  minorVersion := 0
  majorVersion := 65
  constantPool := pool
  accessFlags := fl
  thisClass := this
  superClass := sup
  interfaces := ifs
  fields := fds
  methods := ms
  attributes := attrs
def plain (name : String) (sup : Option ClassId) : Class where
  name := name
  kind := .ordinary
  loader := none
  accessFlags := 33
  super := sup
  interfaces := #[]
  cf := none
  fields := #[]
  methods := #[]
  instanceTypes := #[]
  staticTypes := #[]
  resolved := #[]
  callSites := []
  init := .initialized
  statics := none
  mirror := none

def pool0 : Array CpInfo := pool [(5, u "<init>"), (0, u "()V"), (1, .class_ 10), (1, u "java/lang/Object")] 113

def k0m0 : Method := { name := "<init>", desc := "()V", sig := { parameters := [], returnType := none }, accessFlags := 1, code := none }
/-- java/lang/Object -/
def k0 : Class := { plain "java/lang/Object" none with
  accessFlags := 33
  interfaces := #[]
  cf := some (fileOf pool0 8 #[] #[{ accessFlags := 1, nameIndex := 5, descriptorIndex := 6, attributes := #[] }] 33 0 #[] #[])
  fields := #[]
  methods := #[k0m0]
  instanceTypes := #[]
  staticTypes := #[]
  resolved := Array.replicate 124 none
  statics := none }

def pool1 : Array CpInfo := pool [(2, .class_ 4), (1, u "java/lang/Object"), (0, u "<init>"), (0, u "()V"), (0, .methodref 8 9), (0, .class_ 10), (0, .nameAndType 11 12), (0, u "com/example/nano_embed/nanoembed/geometry/Int128"), (0, u "negatedHigh"), (0, u "(JJ)J"), (0, .class_ 14), (0, u "com/example/nano_embed/nanoembed/geometry/Int128NegatedHighPinLaw"), (2, u "law"), (0, u "(JJ)Z")] 3

def k1m0 : Method := { name := "<init>", desc := "()V", sig := { parameters := [], returnType := none }, accessFlags := 2, code := none }
def k1c1 : Code := { maxStack := 4, maxLocals := 12, code := code, exceptionTable := #[], attributes := #[] }
def k1m1 : Method := { name := "law", desc := "(JJ)Z", sig := { parameters := [.long, .long], returnType := some .boolean }, accessFlags := 9, code := some k1c1 }
/-- com/example/nano_embed/nanoembed/geometry/Int128NegatedHighPinLaw -/
def k1 : Class := { plain "com/example/nano_embed/nanoembed/geometry/Int128NegatedHighPinLaw" (some 0) with
  accessFlags := 49
  interfaces := #[]
  cf := some (fileOf pool1 13 #[] #[{ accessFlags := 2, nameIndex := 5, descriptorIndex := 6, attributes := #[] }, { accessFlags := 9, nameIndex := 17, descriptorIndex := 18, attributes := #[] }] 49 2 #[] #[])
  fields := #[]
  methods := #[k1m0, k1m1]
  instanceTypes := #[]
  staticTypes := #[]
  resolved := Array.replicate 22 none
  statics := none }

def pool2 : Array CpInfo := pool [(2, .class_ 4), (1, u "java/lang/Object"), (0, u "<init>"), (0, u "()V"), (20, .class_ 29), (1, u "com/example/nano_embed/nanoembed/geometry/Int128"), (0, u "negatedHigh"), (0, u "(JJ)J"), (5, .long 18446744073709551615), (53, u "DIGIT"), (0, u "J"), (1, u "DECIMAL_BASE")] 17

def k2m0 : Method := { name := "<init>", desc := "()V", sig := { parameters := [], returnType := none }, accessFlags := 2, code := none }
def k2c1 : Code := { maxStack := 6, maxLocals := 4, code := prog_28_method_4_code, exceptionTable := #[], attributes := #[] }
def k2m1 : Method := { name := "negatedHigh", desc := "(JJ)J", sig := { parameters := [.long, .long], returnType := some .long }, accessFlags := 8, code := some k2c1 }
/-- com/example/nano_embed/nanoembed/geometry/Int128 -/
def k2 : Class := { plain "com/example/nano_embed/nanoembed/geometry/Int128" (some 0) with
  accessFlags := 32
  interfaces := #[]
  cf := some (fileOf pool2 27 #[] #[{ accessFlags := 2, nameIndex := 5, descriptorIndex := 6, attributes := #[] }, { accessFlags := 8, nameIndex := 30, descriptorIndex := 31, attributes := #[] }] 32 2 #[] #[{ accessFlags := 26, nameIndex := 91, descriptorIndex := 92, attributes := #[] }, { accessFlags := 24, nameIndex := 94, descriptorIndex := 92, attributes := #[] }])
  fields := #[{ name := "DIGIT", type := .long, accessFlags := 26, slot := 0, constantValue := 0 }, { name := "DECIMAL_BASE", type := .long, accessFlags := 24, slot := 1, constantValue := 0 }]
  methods := #[k2m0, k2m1]
  instanceTypes := #[]
  staticTypes := #[.long, .long]
  resolved := Array.replicate 112 none
  statics := none }

def pool3 : Array CpInfo := pool [(1, u "java/lang/Cloneable"), (0, .class_ 1), (0, u "java/lang/Object"), (0, .class_ 3)] 3

/-- java/lang/Cloneable -/
def k3 : Class := { plain "java/lang/Cloneable" (some 0) with
  accessFlags := 1537
  interfaces := #[]
  cf := some (fileOf pool3 2 #[] #[] 1537 4 #[] #[])
  fields := #[]
  methods := #[]
  instanceTypes := #[]
  staticTypes := #[]
  resolved := Array.replicate 8 none
  statics := none }

def pool4 : Array CpInfo := pool [(1, u "java/io/Serializable"), (0, .class_ 1), (0, u "java/lang/Object"), (0, .class_ 3)] 3

/-- java/io/Serializable -/
def k4 : Class := { plain "java/io/Serializable" (some 0) with
  accessFlags := 1537
  interfaces := #[]
  cf := some (fileOf pool4 2 #[] #[] 1537 4 #[] #[])
  fields := #[]
  methods := #[]
  instanceTypes := #[]
  staticTypes := #[]
  resolved := Array.replicate 8 none
  statics := none }

/-- the primitive byte -/
def k5 : Class := { plain "byte" none with kind := .primitive 'B', accessFlags := 0x411 }
/-- [B -/
def k6 : Class := { plain "[B" (some 0) with kind := .array 5 .byte, interfaces := #[3, 4], accessFlags := 1041 }

/-- the primitive int -/
def k7 : Class := { plain "int" none with kind := .primitive 'I', accessFlags := 0x411 }
/-- [I -/
def k8 : Class := { plain "[I" (some 0) with kind := .array 7 .int, interfaces := #[3, 4], accessFlags := 1041 }

def heap : Heap := #[]
def classes : Array Class := #[k0, k1, k2, k3, k4, k5, k6, k7, k8]
def interned : List (Array UInt16 × Addr) := []
def slotsUsed : Nat := 0
def theMethod : MethodId := ⟨1, 1⟩
def args0 : Array Value := #[.long 5, .long 7]
def aboutOver (below : List Frame) : State where
  vm := { classes := classes, interned := interned.toArray }
  heap := heap
  slotsUsed := slotsUsed
  threads := #[{ frames := .invoking theMethod args0 :: below }]
def below0 : List Frame := [.native { method := ⟨0, 0⟩, args := #[] }]
def about1 : State := aboutOver below0
def p0 : Program := .bare "" "" ""
def e0 : Env := launch0.env 0 0 0
theorem w_frames : about1.frames = Frame.invoking theMethod args0 :: below0 := rfl
set_option maxRecDepth 65536 in
theorem w_args : argsFit about1.vm theMethod args0 = true := by decide +kernel
set_option maxRecDepth 65536 in
theorem w_heap : heapFits about1 = true := by decide +kernel
set_option maxRecDepth 65536 in
theorem w_runnable : about1.curStatus? = some .runnable := by decide +kernel
set_option maxRecDepth 65536 in
theorem w_alone : about1.alone = true := by decide +kernel
set_option maxRecDepth 65536 in
theorem w_named : about1.methodNamed? x = some theMethod := by decide +kernel
set_option maxRecDepth 65536 in
theorem w_hears : about1.hears theMethod below0 = true := by decide +kernel
set_option maxRecDepth 65536 in
theorem w_ripe : about1.ripe theMethod args0 below0 = true := by decide +kernel
theorem w_running : about1.status = .running := rfl
set_option maxRecDepth 65536 in
theorem w_room : about1.hasRoom e0.platform room_1 = true :=
  launch0.hasRoom_least _ room_1 (by decide +kernel) (by decide +kernel) (by decide +kernel) (by decide +kernel) (by decide +kernel) (by decide +kernel)
theorem allAtoms_all (ts : List Jvm.Cond) (a : Array Jvm.Value) (st : Jvm.State) : (allAtoms ts).before a st = ts.all (fun c => c.before a st) := by
  induction ts with
  | nil => rfl
  | cons c t ih =>
    show (Jvm.Cond.and c (allAtoms t)).before a st = _
    rw [Jvm.Cond.before_and, ih, List.all_cons]
def words1 : List Jvm.Cond := Jvm.Cond.code x code maxLocals ret :: tables_1
/-- a 'code' word, met by the world's own term for the bytes: nothing is compared byte by byte -/
theorem code_word {y : MethodName} {bytes : ByteArray} {mx : Nat} {rt : Option FieldType} {a : Array Value} {s : State} {m : MethodId} {meth : Method} {c : Code} (h1 : s.methodNamed? y = some m) (h2 : s.vm.method? m = some meth) (h3 : meth.code = some c) (h4 : c.code = bytes)
    (h5 : (c.maxLocals == mx && c.exceptionTable.isEmpty && decide (c.maxStack ≤ mostOperands) && decide (meth.sig.returnType = rt) && !meth.locks && decide (parseMethodDescriptor y.desc = some meth.sig)) = true) : (Jvm.Cond.code y bytes mx rt).before a s = true := by
  simp only [Bool.and_eq_true, beq_iff_eq, Bool.not_eq_true', decide_eq_true_eq] at h5
  obtain ⟨⟨⟨⟨⟨g1, g2⟩, g3⟩, g4⟩, g5⟩, g6⟩ := h5
  simp [Cond.before, Cond.holds, Cond.value, h1, h2, h3, h4, g1, g2, g3, g4, g5, g6]
def isCode : Jvm.Cond → Bool
  | .code _ _ _ _ => true
  | _ => false
theorem all_split {L : List Jvm.Cond} {P : Jvm.Cond → Bool} (h1 : L.all (fun c => isCode c || P c) = true) (h2 : ∀ c ∈ L.filter isCode, P c = true) : L.all P = true := by
  refine List.all_eq_true.mpr fun c hc => ?_
  have h := List.all_eq_true.mp h1 c hc
  rcases Bool.eq_false_or_eq_true (isCode c) with hi | hi
  · exact h2 c (List.mem_filter.mpr ⟨hc, hi⟩)
  · simpa [hi] using h
set_option maxRecDepth 65536 in
theorem w_c0 : (Jvm.Cond.code x code maxLocals ret).before args0 about1 = true := code_word (m := ⟨1, 1⟩) (meth := k1m1) (c := k1c1) (by decide +kernel) rfl rfl rfl (by decide +kernel)
set_option maxRecDepth 65536 in
theorem w_c1 : (Jvm.Cond.code ({ cls := "com/example/nano_embed/nanoembed/geometry/Int128", name := "negatedHigh", desc := "(JJ)J" } : Jvm.MethodName) prog_28_method_4_code (4 : Nat) (Option.some Jvm.ClassFile.FieldType.long)).before args0 about1 = true := code_word (m := ⟨2, 1⟩) (meth := k2m1) (c := k2c1) (by decide +kernel) rfl rfl rfl (by decide +kernel)
def codes1 : List Jvm.Cond := [Jvm.Cond.code x code maxLocals ret, Jvm.Cond.code ({ cls := "com/example/nano_embed/nanoembed/geometry/Int128", name := "negatedHigh", desc := "(JJ)J" } : Jvm.MethodName) prog_28_method_4_code (4 : Nat) (Option.some Jvm.ClassFile.FieldType.long)]
set_option maxRecDepth 65536 in
theorem codes_eq : words1.filter isCode = codes1 := rfl
theorem w_codes : ∀ c ∈ words1.filter isCode, c.before args0 about1 = true := by
  rw [codes_eq]
  intro c hc
  simp only [codes1, List.mem_cons, List.not_mem_nil, or_false] at hc
  rcases hc with rfl | rfl
  · exact w_c0
  · exact w_c1
set_option maxRecDepth 65536 in
theorem w_t1 : words1.all (fun c => isCode c || c.before args0 about1) = true := by decide +kernel
theorem w_tables : (allAtoms (Jvm.Cond.code x code maxLocals ret :: tables_1)).before args0 about1 = true := by
  rw [allAtoms_all]
  show words1.all (fun c => c.before args0 about1) = true
  refine all_split ?_ w_codes
  rw [w_t1]
set_option maxRecDepth 65536 in
theorem w_case : (Jvm.Cond.and given_1 narrow_1).before args0 about1 = true := by decide +kernel
theorem w_applies : (headSpec (Jvm.Cond.code x code maxLocals ret :: tables_1) room_1).applies x e0.platform about1 = true :=
  (Spec.applies_iff w_frames).mpr ⟨w_running, w_runnable, w_alone, w_named, w_hears, w_ripe, w_room, w_tables⟩
theorem atStart : AtStart classFile x code maxLocals ret World_1 tables_1 room_1 Calls_1 rest_1 Pre_1 launch0 p0 e0 about1 theMethod args0 below0 :=
  ⟨lists_1, trivial, launch0.admits_env _ _ _, launch0.least_env, fairChoices_fair.cas, fairChoices_fair.clock, w_frames, w_args, w_heap, w_applies, trivial, trivial, w_case⟩
end start1
theorem witness_1 : WitnessClaimed_1 := ⟨start1.p0, start1.e0, start1.about1, start1.theMethod, start1.args0, start1.below0, start1.atStart⟩
end Jvm.Pilot.@@N@@
