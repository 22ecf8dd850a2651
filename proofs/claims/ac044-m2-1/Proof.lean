import JvmDerived
import JvmDerived.Pilot.@@N@@Statement
import JvmDerived.Pilot.@@N@@Code
set_option linter.unusedVariables false
set_option linter.unusedSimpArgs false
namespace Jvm.Pilot.@@N@@
open Jvm Jvm.ClassFile Sem Op Lib Jvm.Free Jvm.Stand Jvm.LawKit Jvm.RoadKit Bundle Jvm.Pilot.@@N@@.Jvm.D
/-! own kit: a walk told forwards -/
section OwnKit
variable {p : Program} {l : Launch} {e : Env} {R : Room} {s : State} {m : MethodId} {args : Array Value} {below : List Frame} {meth : Method} {c : Code} {T : State} {locs : List Loc} {cells slots : Nat} {Z : State} {a0 : Array Value} {h : Heap}
/-- from here the run comes to an end of which K speaks -/
def own_Goes (p : Program) (e : Env) (below : List Frame) (K : Outcome → State → Prop) (T : State) (g : JFrame) : Prop :=
  ∃ s₂ o, Steps p.tables e below (T.setTop g) s₂ ∧ s₂.status = .running ∧ Ended s₂ below o ∧ K o s₂
theorem own_step {K : Outcome → State → Prop} {T' : State} {g g' : JFrame} (st : ∀ t, Steps p.tables e below (T'.setTop g') t → Steps p.tables e below (T.setTop g) t) (hg : own_Goes p e below K T' g') : own_Goes p e below K T g := by
  obtain ⟨s2, o, a, b⟩ := hg
  exact ⟨s2, o, st _ a, b⟩
theorem own_castG {K : Outcome → State → Prop} {g g' : JFrame} (q : g = g') (hg : own_Goes p e below K T g') : own_Goes p e below K T g := q ▸ hg
def own_K (s : State) (Q : Option Value → Heap → List Loc → Prop) (rc rs : Nat) : Outcome → State → Prop := fun o u => ∃ v L, o = .returned v ∧ Q v u.heap L ∧ FrameEnd s o u L rc rs
def own_Met (l : Launch) (Z : State) (y : MethodName) (bytes : ByteArray) (maxL : Nat) (ret : Option FieldType) (ws : List Jvm.Cond) (rm : Room) (as' : Array Value) (h0 : Heap) (Q : Option Value → Heap → List Loc → Prop) : Prop :=
  MetFree l y (head1 (Jvm.Cond.code y bytes maxL ret :: ws) rm) (fun a U => a = as' ∧ Z.Warmed39 U.vm ∧ U.heap = h0) (fun _ _ _ _ _ => True) (fun _ U o U' => ∃ v L, o = .returned v ∧ Q v U'.heap L ∧ FrameEnd U o U' L rm.cells rm.slots)
theorem own_body {y : MethodName} {bytes : ByteArray} {maxL : Nat} {ret : Option FieldType} {ws : List Jvm.Cond} {rm : Room} {as' : Array Value} {h0 : Heap} {Q : Option Value → Heap → List Loc → Prop} (hp : plainFor y = true)
    (body : ∀ (p : Program) (e : Env) (s : State) (m : MethodId) (below : List Frame) (meth : Method) (c : Code) (s₁ : State), p.tables.exec = Jvm.exec → c.code = bytes → c.maxLocals = maxL → meth.sig.returnType = ret → meth.locks = false → s.vm.findClass y.cls = some m.cls → meth.name = y.name → Z.Warmed39 s.vm →
      Stand p l e rm s m as' below meth c s₁ [] 0 0 → s₁.heap = h0 → own_Goes p e below (own_K s Q rm.cells rm.slots) s₁ (entryFrame m as' maxL)) : own_Met l Z y bytes maxL ret ws rm as' h0 Q := by
  refine MetFree.of_bodySF hp hisR ?_
  intro p e s m args below meth c s₁ Bd hml0 hP hK
  obtain ⟨rfl, hZ, hh⟩ := hP
  exact body p e s m below meth c s₁ Bd.exec Bd.bytes hml0 Bd.returns (BodyLoose.notSynchronized Bd) (findClass_of_methodNamed Bd.named) (name_of_methodNamed Bd.named Bd.method).1 hZ (Stand.of_body Bd) (by rw [← hh, Bd.state]; rfl)
theorem own_out (X : Stand p l e R s m args below meth c T locs cells slots) (hlk : meth.locks = false) {v : Option Value} (hv : meth.sig.returnType = none → v = none) {Q : Option Value → Heap → List Loc → Prop} {rc rs : Nat} {g : JFrame}
    (st : ∀ fs, (∀ (f : JFrame) (acts : List Action), f.method = m → f.locked = none → f.entered = [] → (doReturn e (T.setTop f) acts v).1 = T.setFrames fs) → Steps p.tables e below (T.setTop g) (T.setFrames fs))
    (hQ : Q v T.heap locs) (hc : cells ≤ rc) (hs : slots ≤ rs) : own_Goes p e below (own_K s Q rc rs) T g := by
  obtain ⟨fs, hr, hrun, hended, hW, hsame⟩ := X.leave (v := v) hv hlk
  exact ⟨_, _, st fs hr, hrun, hended, v, locs, rfl, hQ, ⟨_, rfl⟩, hW, hsame.mono hc hs⟩
theorem own_retN (X : Stand p l e R s m args below meth c T locs cells slots) (hx : p.tables.exec = Jvm.exec) (hlk : meth.locks = false) {pc : Nat} {Ls : Array Slot} {z : Int32} {t : FieldType} {rest : List Value} (hret : meth.sig.returnType = some t) (ht : t = .boolean ∨ t = .byte ∨ t = .char ∨ t = .short)
    (hd : decode c.code pc = .ok (.ireturn, 1)) {Q : Option Value → Heap → List Loc → Prop} {rc rs : Nat} (hQ : Q (some (.int (nar t z))) T.heap locs) (hc : cells ≤ rc) (hs : slots ≤ rs) : own_Goes p e below (own_K s Q rc rs) T (mkF m pc Ls (.int z :: rest)) :=
  own_out X hlk (fun q => by rw [hret] at q; cases q) (fun fs hr => retN X hx hret ht hd hr) hQ hc hs
theorem own_retI (X : Stand p l e R s m args below meth c T locs cells slots) (hx : p.tables.exec = Jvm.exec) (hlk : meth.locks = false) {pc : Nat} {Ls : Array Slot} {z : Int32} {rest : List Value} (hret : meth.sig.returnType = some .int)
    (hd : decode c.code pc = .ok (.ireturn, 1)) {Q : Option Value → Heap → List Loc → Prop} {rc rs : Nat} (hQ : Q (some (.int z)) T.heap locs) (hc : cells ≤ rc) (hs : slots ≤ rs) : own_Goes p e below (own_K s Q rc rs) T (mkF m pc Ls (.int z :: rest)) :=
  own_out X hlk (fun q => by rw [hret] at q; cases q) (fun fs hr => retOut X hx hret rfl (Or.inl ⟨rfl, Or.inl rfl, z, rfl⟩) hd hr) hQ hc hs
theorem own_retL (X : Stand p l e R s m args below meth c T locs cells slots) (hx : p.tables.exec = Jvm.exec) (hlk : meth.locks = false) {pc : Nat} {Ls : Array Slot} {z : Int64} {rest : List Value} (hret : meth.sig.returnType = some .long)
    (hd : decode c.code pc = .ok (.lreturn, 1)) {Q : Option Value → Heap → List Loc → Prop} {rc rs : Nat} (hQ : Q (some (.long z)) T.heap locs) (hc : cells ≤ rc) (hs : slots ≤ rs) : own_Goes p e below (own_K s Q rc rs) T (mkF m pc Ls (.long z :: rest)) :=
  own_out X hlk (fun q => by rw [hret] at q; cases q) (fun fs hr => retOut X hx hret rfl (Or.inr (Or.inl ⟨rfl, rfl, z, rfl⟩)) hd hr) hQ hc hs
theorem own_retA (X : Stand p l e R s m args below meth c T locs cells slots) (hx : p.tables.exec = Jvm.exec) (hlk : meth.locks = false) {pc : Nat} {Ls : Array Slot} {w : Value} {t : FieldType} {rest : List Value} (hret : meth.sig.returnType = some t) (hn : narrow t w = w) (ht : t.isReference = true) (hw : w.isRef = true)
    (hd : decode c.code pc = .ok (.areturn, 1)) {Q : Option Value → Heap → List Loc → Prop} {rc rs : Nat} (hQ : Q (some w) T.heap locs) (hc : cells ≤ rc) (hs : slots ≤ rs) : own_Goes p e below (own_K s Q rc rs) T (mkF m pc Ls (w :: rest)) :=
  own_out X hlk (fun q => by rw [hret] at q; cases q) (fun fs hr => retOut X hx hret hn (Or.inr (Or.inr (Or.inr (Or.inr ⟨rfl, ht, hw⟩)))) hd hr) hQ hc hs
theorem own_retV (X : Stand p l e R s m args below meth c T locs cells slots) (hx : p.tables.exec = Jvm.exec) (hlk : meth.locks = false) {pc : Nat} {Ls : Array Slot} (hret : meth.sig.returnType = none)
    (hd : decode c.code pc = .ok (.return_, 1)) {Q : Option Value → Heap → List Loc → Prop} {rc rs : Nat} (hQ : Q none T.heap locs) (hc : cells ≤ rc) (hs : slots ≤ rs) : own_Goes p e below (own_K s Q rc rs) T (mkF m pc Ls []) :=
  own_out X hlk (fun _ => rfl) (fun fs hr => X.returnOut hx hret hd hr) hQ hc hs
theorem own_callS (X : Stand p l e R s m args below meth c T locs cells slots) (hx : p.tables.exec = Jvm.exec) (hZ : Z.Warmed39 s.vm) {own : String} {index : Nat} {y : MethodName} {bytes : ByteArray} {maxL : Nat} {ret : Option FieldType} (hown : s.vm.findClass own = some m.cls)
    (w1 : (Jvm.Cond.methodLink own index y).before a0 Z = true) (w2 : (Jvm.Cond.static y).before a0 Z = true) (w3 : (Jvm.Cond.initialized y.cls).before a0 Z = true) (w4 : (Jvm.Cond.code y bytes maxL ret).before a0 Z = true) (hy : y.cls ≠ "java/lang/invoke/MethodHandle" ∧ y.cls ≠ "java/lang/invoke/VarHandle")
    {rm : Room} (W : Nat) (argsL rest : List Value) {Q : Option Value → Heap → List Loc → Prop} (hM : own_Met l Z y bytes maxL ret [] rm argsL.toArray h Q) (eT : T.heap = h)
    (hf : rm.frames + 1 ≤ R.frames) (hl : W + (maxL + 11) + rm.locals ≤ R.locals) (hc : cells + rm.cells ≤ R.cells) (hs : slots + rm.slots ≤ R.slots)
    {g : JFrame} (hg : g.method = m) (hsize : g.locals.size = c.maxLocals) {ps : List FieldType} {r : Option FieldType} (hpd : parseMethodDescriptor y.desc = some ⟨ps, r⟩) (hlen : argsL.length = ps.length)
    (hstack : g.stack = argsL.reverse ++ rest) (hW : 2 * g.monitorRoom + (rest.map fun v => v.category).sum ≤ W) (hd : decode c.code g.pc = .ok (.invokestatic index, 3))
    {K : Outcome → State → Prop} (go : ∀ T' v L, Stand p l e R s m args below meth c T' (locs ++ L) (cells + rm.cells) (slots + rm.slots) → Q v T'.heap L → own_Goes p e below K T' { g with pc := g.pc + 3, stack := v.toList ++ rest }) : own_Goes p e below K T g := by
  obtain ⟨v, _, ⟨T', L', k', n'⟩, -, X', ⟨Lc, hQ, l1, y1, z1⟩, st⟩ := Jvm.LawKit.callS X hx (y := y) hown (mvT hZ w1) (mvT hZ w2) (mvT hZ w3) (mvT hZ w4) hy (backOf (W := W) hM hZ w4 w3 hf hl) hg hsize (lenOf hpd hlen) hstack hW hd (fun _ _ => ⟨rfl, eT, hc, hs⟩)
  dsimp only [Pt.U, Pt.locs, Pt.cells, Pt.slots] at X' l1 y1 z1 st hQ
  subst l1 y1 z1
  exact own_step st (go _ _ _ X' hQ)
theorem own_callV (X : Stand p l e R s m args below meth c T locs cells slots) (hx : p.tables.exec = Jvm.exec) (hZ : Z.Warmed39 s.vm) {own C : String} {index : Nat} {y z : MethodName} {bytes : ByteArray} {maxL : Nat} {ret : Option FieldType} (hown : s.vm.findClass own = some m.cls)
    (w1 : (Jvm.Cond.methodLink own index y).before a0 Z = true) (w2 : (Jvm.Cond.declares y).before a0 Z = true) (nf : NotFace s y) (w3 : (Jvm.Cond.selects C y z).before a0 Z = true) (w4 : (Jvm.Cond.instanceMethod z).before a0 Z = true) (w5 : (Jvm.Cond.code z bytes maxL ret).before a0 Z = true) (w6 : (Jvm.Cond.initialized z.cls).before a0 Z = true)
    (hy : y.cls ≠ "java/lang/invoke/MethodHandle" ∧ y.cls ≠ "java/lang/invoke/VarHandle")
    {rm : Room} (W : Nat) {a : Addr} (E : Exa Z h a C) (argsL rest : List Value) {Q : Option Value → Heap → List Loc → Prop} (hM : own_Met l Z z bytes maxL ret [] rm (.ref a :: argsL).toArray h Q) (eT : T.heap = h)
    (hf : rm.frames + 1 ≤ R.frames) (hl : W + (maxL + 11) + rm.locals ≤ R.locals) (hc : cells + rm.cells ≤ R.cells) (hs : slots + rm.slots ≤ R.slots)
    {g : JFrame} (hg : g.method = m) (hsize : g.locals.size = c.maxLocals) {ps : List FieldType} {r : Option FieldType} (hpd : parseMethodDescriptor y.desc = some ⟨ps, r⟩) (hlen : argsL.length = ps.length)
    (hstack : g.stack = argsL.reverse ++ .ref a :: rest) (hW : 2 * g.monitorRoom + (rest.map fun v => v.category).sum ≤ W) (hd : decode c.code g.pc = .ok (.invokevirtual index, 3))
    {K : Outcome → State → Prop} (go : ∀ T' v L, Stand p l e R s m args below meth c T' (locs ++ L) (cells + rm.cells) (slots + rm.slots) → Q v T'.heap L → own_Goes p e below K T' { g with pc := g.pc + 3, stack := v.toList ++ rest }) : own_Goes p e below K T g := by
  obtain ⟨cq, kq, qa, qb, qc⟩ := isOf hZ eT E
  obtain ⟨v, _, ⟨T', L', k', n'⟩, -, X', ⟨Lc, hQ, l1, y1, z1⟩, st⟩ := X.virtualBack hx (y := y) (z := z) hown (mvT hZ w1) (mvT hZ w2) nf (mvT hZ w3) (mvT hZ w4) hy (backOf (W := W) hM hZ w5 w6 hf hl) qa qc hg hsize (Steps.refl _) (lenOf hpd hlen) hstack hW hd (fun _ _ => ⟨rfl, eT, hc, hs⟩)
  dsimp only [Pt.U, Pt.locs, Pt.cells, Pt.slots] at X' l1 y1 z1 st hQ
  subst l1 y1 z1
  exact own_step (fun t k => st.trans k) (go _ _ _ X' hQ)
theorem own_callC (X : Stand p l e R s m args below meth c T locs cells slots) (hx : p.tables.exec = Jvm.exec) (hZ : Z.Warmed39 s.vm) {own : String} {index : Nat} {y : MethodName} {bytes : ByteArray} {maxL : Nat} (hy1 : y.name = "<init>") (hown : s.vm.findClass own = some m.cls)
    (w1 : (Jvm.Cond.methodLink own index y).before a0 Z = true) (w2 : (Jvm.Cond.instanceMethod y).before a0 Z = true) (w3 : (Jvm.Cond.code y bytes maxL none).before a0 Z = true) (w4 : (Jvm.Cond.initialized y.cls).before a0 Z = true)
    (hy : y.cls ≠ "java/lang/invoke/MethodHandle" ∧ y.cls ≠ "java/lang/invoke/VarHandle")
    {rm : Room} (W : Nat) {a : Addr} (argsL rest : List Value) {Q : Option Value → Heap → List Loc → Prop} (hM : own_Met l Z y bytes maxL none [] rm (.ref a :: argsL).toArray h Q) (eT : T.heap = h)
    (hf : rm.frames + 1 ≤ R.frames) (hl : W + (maxL + 11) + rm.locals ≤ R.locals) (hc : cells + rm.cells ≤ R.cells) (hs : slots + rm.slots ≤ R.slots)
    {g : JFrame} (hg : g.method = m) (hsize : g.locals.size = c.maxLocals) {ps : List FieldType} {r : Option FieldType} (hpd : parseMethodDescriptor y.desc = some ⟨ps, r⟩) (hlen : argsL.length = ps.length)
    (hstack : g.stack = argsL.reverse ++ .ref a :: rest) (hW : 2 * g.monitorRoom + (rest.map fun v => v.category).sum ≤ W) (hd : decode c.code g.pc = .ok (.invokespecial index, 3))
    {K : Outcome → State → Prop} (go : ∀ T' v L, Stand p l e R s m args below meth c T' (locs ++ L) (cells + rm.cells) (slots + rm.slots) → Q v T'.heap L → own_Goes p e below K T' { g with pc := g.pc + 3, stack := v.toList ++ rest }) : own_Goes p e below K T g := by
  obtain ⟨v, _, ⟨T', L', k', n'⟩, -, X', ⟨Lc, hQ, l1, y1, z1⟩, st⟩ := X.specialBack hx (y := y) hy1 hown (mvT hZ w1) (mvT hZ w2) (mvT hZ w3) hy (backOf (W := W) hM hZ w3 w4 hf hl) hg hsize (Steps.refl _) (a := a) (lenOf hpd hlen) hstack hW hd (fun _ _ => ⟨rfl, eT, hc, hs⟩)
  dsimp only [Pt.U, Pt.locs, Pt.cells, Pt.slots] at X' l1 y1 z1 st hQ
  subst l1 y1 z1
  exact own_step (fun t k => st.trans k) (go _ _ _ X' hQ)
theorem own_fldI {t : Term} {C n d : String} {k : Int32} {a : Addr} (ev : t.eval args s none [] s = some (.ref a)) (hq : (Jvm.Cond.eq (.field t C n d) (.int k)).value args s none s [] = some true) : Fld s s.heap a C n d (.int k) := by
  have e1 := fld_at (C := C) (n := n) (dd := d) ev
  refine Fld.start ?_
  simp only [Jvm.Cond.value, e1, Term.int_eval] at hq
  cases hf : s.fieldOf? a C n d with
  | none => simp [hf] at hq
  | some v => cases v <;> simp [hf] at hq; rw [hq]
theorem own_callU (X : Stand p l e R s m args below meth c T locs cells slots) (hx : p.tables.exec = Jvm.exec) (hZ : Z.Warmed39 s.vm) {own C owner : String} {index : Nat} {y z : MethodName} {bytes : ByteArray} {maxL : Nat} {ret : Option FieldType} (hown : s.vm.findClass own = some m.cls)
    (w1 : (Jvm.Cond.methodLink own index y).before a0 Z = true) (w2 : (Jvm.Cond.sameMethod y.cls owner y.name y.desc).before a0 Z = true) (w2' : (Jvm.Cond.declares ⟨owner, y.name, y.desc⟩).before a0 Z = true) (w3 : (Jvm.Cond.selects C y z).before a0 Z = true) (w4 : (Jvm.Cond.instanceMethod z).before a0 Z = true) (w5 : (Jvm.Cond.code z bytes maxL ret).before a0 Z = true) (w6 : (Jvm.Cond.initialized z.cls).before a0 Z = true)
    (hy : owner ≠ "java/lang/invoke/MethodHandle" ∧ owner ≠ "java/lang/invoke/VarHandle")
    {rm : Room} (W : Nat) {a : Addr} (E : Exa Z h a C) (argsL rest : List Value) {Q : Option Value → Heap → List Loc → Prop} (hM : own_Met l Z z bytes maxL ret [] rm (.ref a :: argsL).toArray h Q) (eT : T.heap = h)
    (hf : rm.frames + 1 ≤ R.frames) (hl : W + (maxL + 11) + rm.locals ≤ R.locals) (hc : cells + rm.cells ≤ R.cells) (hs : slots + rm.slots ≤ R.slots)
    {g : JFrame} (hg : g.method = m) (hsize : g.locals.size = c.maxLocals) {ps : List FieldType} {r : Option FieldType} (hpd : parseMethodDescriptor y.desc = some ⟨ps, r⟩) (hlen : argsL.length = ps.length)
    (hstack : g.stack = argsL.reverse ++ .ref a :: rest) (hW : 2 * g.monitorRoom + (rest.map fun v => v.category).sum ≤ W) (hd : decode c.code g.pc = .ok (.invokevirtual index, 3))
    {K : Outcome → State → Prop} (go : ∀ T' v L, Stand p l e R s m args below meth c T' (locs ++ L) (cells + rm.cells) (slots + rm.slots) → Q v T'.heap L → own_Goes p e below K T' { g with pc := g.pc + 3, stack := v.toList ++ rest }) : own_Goes p e below K T g := by
  obtain ⟨cq, kq, qa, qb, qc⟩ := isOf hZ eT E
  obtain ⟨v, _, ⟨T', L', k', n'⟩, -, X', ⟨Lc, hQ, l1, y1, z1⟩, st⟩ := X.virtualBackUp hx (x := y) (y := z) hown (mvT hZ w1) (mvT hZ w2) (mvT hZ w2') hy (mvT hZ w3) (mvT hZ w4) (backOf (W := W) hM hZ w5 w6 hf hl) qa qc hg hsize (Steps.refl _) (lenOf hpd hlen) hstack hW hd (fun _ _ => ⟨rfl, eT, hc, hs⟩)
  dsimp only [Pt.U, Pt.locs, Pt.cells, Pt.slots] at X' l1 y1 z1 st hQ
  subst l1 y1 z1
  exact own_step (fun t k => st.trans k) (go _ _ _ X' hQ)
theorem own_aaload (X : Stand p l e R s m args below meth c T locs cells slots) (hx : p.tables.exec = Jvm.exec) (hZ : Z.Warmed39 s.vm) (eT : T.heap = h) {a : Addr} {k : ClassId} {ty : FieldType} {n : Int32} {vs : List Value} {dv : Value} (F : Arv Z h a k ty n vs dv) (hty : ty.isReference = true) {j : Int32} (v : Value) (hj : ¬ j < 0 ∧ j < n) (hv : vs.getD j.toNatClampNeg dv = v)
    {g : JFrame} (hg : g.method = m) {rest : List Value} (hs : g.stack = .int j :: .ref a :: rest) (hd : decode c.code g.pc = .ok (.aaload, 1)) : ∀ t, Steps p.tables e below (T.setTop { g with pc := g.pc + 1, stack := v :: rest }) t → Steps p.tables e below (T.setTop g) t := by
  obtain ⟨cl, A, q1, S, q3, H, G⟩ := F
  have hin := inb_of S hj
  exact fun t kk => X.aaload hx (by rw [eT]; exact A.1) (State.isArrayOf_alike hZ.alike A.2.1) hty A.2.2 hin (H.at hin hv) hg hs hd t kk
theorem own_aastore (X : Stand p l e R s m args below meth c T locs cells slots) (hx : p.tables.exec = Jvm.exec) (hZ : Z.Warmed39 s.vm) (eT : T.heap = h) {a : Addr} {k : ClassId} {C : String} {n : Int32} {vs : List Value} {dv : Value} (F : Arv Z h a k (.object C) n vs dv) (O : Ovr Z k C) {y : Addr} (I : Ins Z h y C true) {j : Int32} (hj : ¬ j < 0 ∧ j < n) (i : Nat) (hi : j.toNatClampNeg = i) (hl : i < vs.length)
    {g : JFrame} (hg : g.method = m) {rest : List Value} (hs : g.stack = .ref y :: .int j :: .ref a :: rest) (hd : decode c.code g.pc = .ok (.aastore, 1)) :
    ∃ T' h', Stand p l e R s m args below meth c T' (locs ++ [⟨a, j.toNatClampNeg⟩]) cells slots ∧ T'.heap = h' ∧ Wr h h' a j.toNatClampNeg (.ref y) ∧ Arv Z h' a k (.object C) n (vs.set i (.ref y)) dv ∧ ∀ target, Steps p.tables e below (T'.setTop { g with pc := g.pc + 1, stack := rest }) target → Steps p.tables e below (T.setTop g) target := by
  obtain ⟨cl, A, q1, S, q3, H, G⟩ := F
  obtain ⟨T', h', X', e', W', st⟩ := stR X hx hZ eT A (inb_of S hj) rfl (Sto.ofV A q1 O I) hg hs hd
  exact ⟨T', h', X', e', W', Arv.set A q1 S q3 H G rfl W' i hi hl, st⟩
theorem own_staKeep {C n d : String} {v : Value} {h' : Heap} {ws : List Addr} (F : Sta Z h C n d v) (K : Keep h h' ws) (q : ∀ x ∈ ws, ∀ cell : Cell, h[x]? = some cell → cell.vm.isStatics = false) : Sta Z h' C n d v := by
  obtain ⟨cf, i, k, f, st, cell, h1, h2, h3, h4, h5, h6, h7⟩ := F
  refine ⟨cf, i, k, f, st, cell, h1, h2, h3, h4, K.2.1 _ _ h5 (fun z => ?_), h6, h7⟩
  have := q _ z _ h5
  rw [h6] at this; cases this
end OwnKit
theorem own_pn_com_example_sudsline_sudsline_model_KeywordEndsAnswerPinLaw : plainName "com/example/sudsline/sudsline/model/KeywordEndsAnswerPinLaw" = true := by first | (simp [plainName, overriddenIn]; done) | decide +kernel
theorem own_ef0 (m : MethodId) (x0 : Int32) : entryFrame m #[(.int x0)] 1 = mkF m 0 #[.val (.int x0)] [] := by first | (simp [entryFrame, mkF, argsToLocals, Value.category]; done) | rfl
theorem own_method_3_0 : decode method_3_code 0 = .ok (.iload_n 0, 1) := by decide +kernel
theorem own_method_3_1 : decode method_3_code 1 = .ok (.ifCond .ne 7, 3) := by decide +kernel
theorem own_method_3_4 : decode method_3_code 4 = .ok (.getstatic 20, 3) := by decide +kernel
theorem own_method_3_7 : decode method_3_code 7 = .ok (.areturn, 1) := by decide +kernel
set_option maxRecDepth 65536 in
set_option maxHeartbeats 40000000 in
theorem own_pick0 (l : Launch) (Z : State) (a0 : Array Value) (hw : ∀ d ∈ tables_1, d.before a0 Z = true) (ws : List Jvm.Cond) (w_MSG : Addr) (h0 : Heap) (n0 : Nat) (Z0 : n0 ≤ h0.size) (S_MSG : Sta Z h0 "com/example/sudsline/sudsline/model/Keyword" "MSG" "Lcom/example/sudsline/sudsline/model/Keyword;" (.ref w_MSG)) :
    own_Met l Z (⟨"com/example/sudsline/sudsline/model/KeywordEndsAnswerPinLaw", "pick", "(I)Lcom/example/sudsline/sudsline/model/Keyword;"⟩ : MethodName) method_3_code 1 (some (.object "com/example/sudsline/sudsline/model/Keyword")) ws ({ frames := 0, cells := 0, slots := 0, locals := 0 } : Room) #[(.int (0 : Int32))] h0 (fun v h L => v = some (.ref w_MSG) ∧ Fr n0 L ∧ h = h0) := by
  refine own_body (plainFor_of_name own_pn_com_example_sudsline_sudsline_model_KeywordEndsAnswerPinLaw) (fun p e s m below meth c s₁ hx hby hml0 hrt hlk hown0 hnm hZ X0 e0 => ?_)
  have N0 := Fr.nil n0
  have hown : s.vm.findClass "com/example/sudsline/sudsline/model/KeywordEndsAnswerPinLaw" = some m.cls := hown0
  have hml : c.maxLocals = 1 := hml0
  refine own_castG (own_ef0 m (0 : Int32)) ?_
  show own_Goes _ _ _ _ s₁ (mkF m 0 #[.val (.int (0 : Int32))] [])
  refine own_step (fun t k => XS.iloadN X0.here hx rfl (hb hby own_method_3_0) rfl k) ?_
  show own_Goes _ _ _ _ s₁ (mkF m 1 #[.val (.int (0 : Int32))] [(.int (0 : Int32))])
  refine own_step (fun t k => XS.ifNo X0.here hx rfl (hb hby own_method_3_1) rfl ((if0 _ _).trans (teq (show (0 : Int32) = (0 : Int32) from (by decide))).2) k) ?_
  show own_Goes _ _ _ _ s₁ (mkF m 4 #[.val (.int (0 : Int32))] [])
  obtain ⟨T1, X1, e1, st1⟩ := getS2 X0 hx hZ hown (host := "") (Or.inl (hw _ (List.mem_of_getElem? (i := 5) rfl))) Via.refl e0 S_MSG (g := (mkF m 4 #[.val (.int (0 : Int32))] [])) rfl (hb hby own_method_3_4)
  refine own_step st1 ?_
  show own_Goes _ _ _ _ T1 (mkF m 7 #[.val (.int (0 : Int32))] [(.ref w_MSG)])
  exact own_retA X1 hx hlk hrt rfl rfl rfl (hb hby own_method_3_7) ⟨rfl, N0, e1⟩ (by decide) (by decide)
theorem own_method_3_8 : decode method_3_code 8 = .ok (.iload_n 0, 1) := by decide +kernel
theorem own_method_3_9 : decode method_3_code 9 = .ok (.iconst 1, 1) := by decide +kernel
theorem own_method_3_10 : decode method_3_code 10 = .ok (.if_icmp .ne 7, 3) := by decide +kernel
theorem own_method_3_13 : decode method_3_code 13 = .ok (.getstatic 24, 3) := by decide +kernel
theorem own_method_3_16 : decode method_3_code 16 = .ok (.areturn, 1) := by decide +kernel
set_option maxRecDepth 65536 in
set_option maxHeartbeats 40000000 in
theorem own_pick1 (l : Launch) (Z : State) (a0 : Array Value) (hw : ∀ d ∈ tables_1, d.before a0 Z = true) (ws : List Jvm.Cond) (w_RPY : Addr) (h0 : Heap) (n0 : Nat) (Z0 : n0 ≤ h0.size) (S_RPY : Sta Z h0 "com/example/sudsline/sudsline/model/Keyword" "RPY" "Lcom/example/sudsline/sudsline/model/Keyword;" (.ref w_RPY)) :
    own_Met l Z (⟨"com/example/sudsline/sudsline/model/KeywordEndsAnswerPinLaw", "pick", "(I)Lcom/example/sudsline/sudsline/model/Keyword;"⟩ : MethodName) method_3_code 1 (some (.object "com/example/sudsline/sudsline/model/Keyword")) ws ({ frames := 0, cells := 0, slots := 0, locals := 0 } : Room) #[(.int (1 : Int32))] h0 (fun v h L => v = some (.ref w_RPY) ∧ Fr n0 L ∧ h = h0) := by
  refine own_body (plainFor_of_name own_pn_com_example_sudsline_sudsline_model_KeywordEndsAnswerPinLaw) (fun p e s m below meth c s₁ hx hby hml0 hrt hlk hown0 hnm hZ X0 e0 => ?_)
  have N0 := Fr.nil n0
  have hown : s.vm.findClass "com/example/sudsline/sudsline/model/KeywordEndsAnswerPinLaw" = some m.cls := hown0
  have hml : c.maxLocals = 1 := hml0
  refine own_castG (own_ef0 m (1 : Int32)) ?_
  show own_Goes _ _ _ _ s₁ (mkF m 0 #[.val (.int (1 : Int32))] [])
  refine own_step (fun t k => XS.iloadN X0.here hx rfl (hb hby own_method_3_0) rfl k) ?_
  show own_Goes _ _ _ _ s₁ (mkF m 1 #[.val (.int (1 : Int32))] [(.int (1 : Int32))])
  refine own_step (fun t k => XS.ifYes X0.here hx rfl (pc0 := 1) (pc' := 8) rfl (hb hby own_method_3_1) rfl ((if0 _ _).trans (feq (show ¬ ((1 : Int32) = (0 : Int32)) from (by decide))).2) (by decide) (by decide) k) ?_
  show own_Goes _ _ _ _ s₁ (mkF m 8 #[.val (.int (1 : Int32))] [])
  refine own_step (fun t k => XS.iloadN X0.here hx rfl (hb hby own_method_3_8) rfl k) ?_
  show own_Goes _ _ _ _ s₁ (mkF m 9 #[.val (.int (1 : Int32))] [(.int (1 : Int32))])
  refine own_step (fun t k => XS.iconst X0.here hx rfl (hb hby own_method_3_9) k) ?_
  show own_Goes _ _ _ _ s₁ (mkF m 10 #[.val (.int (1 : Int32))] [(.int (1 : Int32)), (.int (1 : Int32))])
  refine own_step (fun t k => XS.icmpNo X0.here hx rfl (hb hby own_method_3_10) rfl (teq (show (1 : Int32) = (1 : Int32) from (by decide))).2 k) ?_
  show own_Goes _ _ _ _ s₁ (mkF m 13 #[.val (.int (1 : Int32))] [])
  obtain ⟨T1, X1, e1, st1⟩ := getS2 X0 hx hZ hown (host := "") (Or.inl (hw _ (List.mem_of_getElem? (i := 22) rfl))) Via.refl e0 S_RPY (g := (mkF m 13 #[.val (.int (1 : Int32))] [])) rfl (hb hby own_method_3_13)
  refine own_step st1 ?_
  show own_Goes _ _ _ _ T1 (mkF m 16 #[.val (.int (1 : Int32))] [(.ref w_RPY)])
  exact own_retA X1 hx hlk hrt rfl rfl rfl (hb hby own_method_3_16) ⟨rfl, N0, e1⟩ (by decide) (by decide)
theorem own_method_3_17 : decode method_3_code 17 = .ok (.iload_n 0, 1) := by decide +kernel
theorem own_method_3_18 : decode method_3_code 18 = .ok (.iconst 2, 1) := by decide +kernel
theorem own_method_3_19 : decode method_3_code 19 = .ok (.if_icmp .ne 7, 3) := by decide +kernel
theorem own_method_3_22 : decode method_3_code 22 = .ok (.getstatic 27, 3) := by decide +kernel
theorem own_method_3_25 : decode method_3_code 25 = .ok (.areturn, 1) := by decide +kernel
set_option maxRecDepth 65536 in
set_option maxHeartbeats 40000000 in
theorem own_pick2 (l : Launch) (Z : State) (a0 : Array Value) (hw : ∀ d ∈ tables_1, d.before a0 Z = true) (ws : List Jvm.Cond) (w_ERR : Addr) (h0 : Heap) (n0 : Nat) (Z0 : n0 ≤ h0.size) (S_ERR : Sta Z h0 "com/example/sudsline/sudsline/model/Keyword" "ERR" "Lcom/example/sudsline/sudsline/model/Keyword;" (.ref w_ERR)) :
    own_Met l Z (⟨"com/example/sudsline/sudsline/model/KeywordEndsAnswerPinLaw", "pick", "(I)Lcom/example/sudsline/sudsline/model/Keyword;"⟩ : MethodName) method_3_code 1 (some (.object "com/example/sudsline/sudsline/model/Keyword")) ws ({ frames := 0, cells := 0, slots := 0, locals := 0 } : Room) #[(.int (2 : Int32))] h0 (fun v h L => v = some (.ref w_ERR) ∧ Fr n0 L ∧ h = h0) := by
  refine own_body (plainFor_of_name own_pn_com_example_sudsline_sudsline_model_KeywordEndsAnswerPinLaw) (fun p e s m below meth c s₁ hx hby hml0 hrt hlk hown0 hnm hZ X0 e0 => ?_)
  have N0 := Fr.nil n0
  have hown : s.vm.findClass "com/example/sudsline/sudsline/model/KeywordEndsAnswerPinLaw" = some m.cls := hown0
  have hml : c.maxLocals = 1 := hml0
  refine own_castG (own_ef0 m (2 : Int32)) ?_
  show own_Goes _ _ _ _ s₁ (mkF m 0 #[.val (.int (2 : Int32))] [])
  refine own_step (fun t k => XS.iloadN X0.here hx rfl (hb hby own_method_3_0) rfl k) ?_
  show own_Goes _ _ _ _ s₁ (mkF m 1 #[.val (.int (2 : Int32))] [(.int (2 : Int32))])
  refine own_step (fun t k => XS.ifYes X0.here hx rfl (pc0 := 1) (pc' := 8) rfl (hb hby own_method_3_1) rfl ((if0 _ _).trans (feq (show ¬ ((2 : Int32) = (0 : Int32)) from (by decide))).2) (by decide) (by decide) k) ?_
  show own_Goes _ _ _ _ s₁ (mkF m 8 #[.val (.int (2 : Int32))] [])
  refine own_step (fun t k => XS.iloadN X0.here hx rfl (hb hby own_method_3_8) rfl k) ?_
  show own_Goes _ _ _ _ s₁ (mkF m 9 #[.val (.int (2 : Int32))] [(.int (2 : Int32))])
  refine own_step (fun t k => XS.iconst X0.here hx rfl (hb hby own_method_3_9) k) ?_
  show own_Goes _ _ _ _ s₁ (mkF m 10 #[.val (.int (2 : Int32))] [(.int (1 : Int32)), (.int (2 : Int32))])
  refine own_step (fun t k => XS.icmpYes X0.here hx rfl (pc0 := 10) (pc' := 17) rfl (hb hby own_method_3_10) rfl (feq (show ¬ ((2 : Int32) = (1 : Int32)) from (by decide))).2 (by decide) (by decide) k) ?_
  show own_Goes _ _ _ _ s₁ (mkF m 17 #[.val (.int (2 : Int32))] [])
  refine own_step (fun t k => XS.iloadN X0.here hx rfl (hb hby own_method_3_17) rfl k) ?_
  show own_Goes _ _ _ _ s₁ (mkF m 18 #[.val (.int (2 : Int32))] [(.int (2 : Int32))])
  refine own_step (fun t k => XS.iconst X0.here hx rfl (hb hby own_method_3_18) k) ?_
  show own_Goes _ _ _ _ s₁ (mkF m 19 #[.val (.int (2 : Int32))] [(.int (2 : Int32)), (.int (2 : Int32))])
  refine own_step (fun t k => XS.icmpNo X0.here hx rfl (hb hby own_method_3_19) rfl (teq (show (2 : Int32) = (2 : Int32) from (by decide))).2 k) ?_
  show own_Goes _ _ _ _ s₁ (mkF m 22 #[.val (.int (2 : Int32))] [])
  obtain ⟨T1, X1, e1, st1⟩ := getS2 X0 hx hZ hown (host := "") (Or.inl (hw _ (List.mem_of_getElem? (i := 26) rfl))) Via.refl e0 S_ERR (g := (mkF m 22 #[.val (.int (2 : Int32))] [])) rfl (hb hby own_method_3_22)
  refine own_step st1 ?_
  show own_Goes _ _ _ _ T1 (mkF m 25 #[.val (.int (2 : Int32))] [(.ref w_ERR)])
  exact own_retA X1 hx hlk hrt rfl rfl rfl (hb hby own_method_3_25) ⟨rfl, N0, e1⟩ (by decide) (by decide)
theorem own_method_3_26 : decode method_3_code 26 = .ok (.iload_n 0, 1) := by decide +kernel
theorem own_method_3_27 : decode method_3_code 27 = .ok (.iconst 3, 1) := by decide +kernel
theorem own_method_3_28 : decode method_3_code 28 = .ok (.if_icmp .ne 7, 3) := by decide +kernel
theorem own_method_3_31 : decode method_3_code 31 = .ok (.getstatic 30, 3) := by decide +kernel
theorem own_method_3_34 : decode method_3_code 34 = .ok (.areturn, 1) := by decide +kernel
set_option maxRecDepth 65536 in
set_option maxHeartbeats 40000000 in
theorem own_pick3 (l : Launch) (Z : State) (a0 : Array Value) (hw : ∀ d ∈ tables_1, d.before a0 Z = true) (ws : List Jvm.Cond) (w_ANS : Addr) (h0 : Heap) (n0 : Nat) (Z0 : n0 ≤ h0.size) (S_ANS : Sta Z h0 "com/example/sudsline/sudsline/model/Keyword" "ANS" "Lcom/example/sudsline/sudsline/model/Keyword;" (.ref w_ANS)) :
    own_Met l Z (⟨"com/example/sudsline/sudsline/model/KeywordEndsAnswerPinLaw", "pick", "(I)Lcom/example/sudsline/sudsline/model/Keyword;"⟩ : MethodName) method_3_code 1 (some (.object "com/example/sudsline/sudsline/model/Keyword")) ws ({ frames := 0, cells := 0, slots := 0, locals := 0 } : Room) #[(.int (3 : Int32))] h0 (fun v h L => v = some (.ref w_ANS) ∧ Fr n0 L ∧ h = h0) := by
  refine own_body (plainFor_of_name own_pn_com_example_sudsline_sudsline_model_KeywordEndsAnswerPinLaw) (fun p e s m below meth c s₁ hx hby hml0 hrt hlk hown0 hnm hZ X0 e0 => ?_)
  have N0 := Fr.nil n0
  have hown : s.vm.findClass "com/example/sudsline/sudsline/model/KeywordEndsAnswerPinLaw" = some m.cls := hown0
  have hml : c.maxLocals = 1 := hml0
  refine own_castG (own_ef0 m (3 : Int32)) ?_
  show own_Goes _ _ _ _ s₁ (mkF m 0 #[.val (.int (3 : Int32))] [])
  refine own_step (fun t k => XS.iloadN X0.here hx rfl (hb hby own_method_3_0) rfl k) ?_
  show own_Goes _ _ _ _ s₁ (mkF m 1 #[.val (.int (3 : Int32))] [(.int (3 : Int32))])
  refine own_step (fun t k => XS.ifYes X0.here hx rfl (pc0 := 1) (pc' := 8) rfl (hb hby own_method_3_1) rfl ((if0 _ _).trans (feq (show ¬ ((3 : Int32) = (0 : Int32)) from (by decide))).2) (by decide) (by decide) k) ?_
  show own_Goes _ _ _ _ s₁ (mkF m 8 #[.val (.int (3 : Int32))] [])
  refine own_step (fun t k => XS.iloadN X0.here hx rfl (hb hby own_method_3_8) rfl k) ?_
  show own_Goes _ _ _ _ s₁ (mkF m 9 #[.val (.int (3 : Int32))] [(.int (3 : Int32))])
  refine own_step (fun t k => XS.iconst X0.here hx rfl (hb hby own_method_3_9) k) ?_
  show own_Goes _ _ _ _ s₁ (mkF m 10 #[.val (.int (3 : Int32))] [(.int (1 : Int32)), (.int (3 : Int32))])
  refine own_step (fun t k => XS.icmpYes X0.here hx rfl (pc0 := 10) (pc' := 17) rfl (hb hby own_method_3_10) rfl (feq (show ¬ ((3 : Int32) = (1 : Int32)) from (by decide))).2 (by decide) (by decide) k) ?_
  show own_Goes _ _ _ _ s₁ (mkF m 17 #[.val (.int (3 : Int32))] [])
  refine own_step (fun t k => XS.iloadN X0.here hx rfl (hb hby own_method_3_17) rfl k) ?_
  show own_Goes _ _ _ _ s₁ (mkF m 18 #[.val (.int (3 : Int32))] [(.int (3 : Int32))])
  refine own_step (fun t k => XS.iconst X0.here hx rfl (hb hby own_method_3_18) k) ?_
  show own_Goes _ _ _ _ s₁ (mkF m 19 #[.val (.int (3 : Int32))] [(.int (2 : Int32)), (.int (3 : Int32))])
  refine own_step (fun t k => XS.icmpYes X0.here hx rfl (pc0 := 19) (pc' := 26) rfl (hb hby own_method_3_19) rfl (feq (show ¬ ((3 : Int32) = (2 : Int32)) from (by decide))).2 (by decide) (by decide) k) ?_
  show own_Goes _ _ _ _ s₁ (mkF m 26 #[.val (.int (3 : Int32))] [])
  refine own_step (fun t k => XS.iloadN X0.here hx rfl (hb hby own_method_3_26) rfl k) ?_
  show own_Goes _ _ _ _ s₁ (mkF m 27 #[.val (.int (3 : Int32))] [(.int (3 : Int32))])
  refine own_step (fun t k => XS.iconst X0.here hx rfl (hb hby own_method_3_27) k) ?_
  show own_Goes _ _ _ _ s₁ (mkF m 28 #[.val (.int (3 : Int32))] [(.int (3 : Int32)), (.int (3 : Int32))])
  refine own_step (fun t k => XS.icmpNo X0.here hx rfl (hb hby own_method_3_28) rfl (teq (show (3 : Int32) = (3 : Int32) from (by decide))).2 k) ?_
  show own_Goes _ _ _ _ s₁ (mkF m 31 #[.val (.int (3 : Int32))] [])
  obtain ⟨T1, X1, e1, st1⟩ := getS2 X0 hx hZ hown (host := "") (Or.inl (hw _ (List.mem_of_getElem? (i := 19) rfl))) Via.refl e0 S_ANS (g := (mkF m 31 #[.val (.int (3 : Int32))] [])) rfl (hb hby own_method_3_31)
  refine own_step st1 ?_
  show own_Goes _ _ _ _ T1 (mkF m 34 #[.val (.int (3 : Int32))] [(.ref w_ANS)])
  exact own_retA X1 hx hlk hrt rfl rfl rfl (hb hby own_method_3_34) ⟨rfl, N0, e1⟩ (by decide) (by decide)
theorem own_method_3_35 : decode method_3_code 35 = .ok (.getstatic 33, 3) := by decide +kernel
theorem own_method_3_38 : decode method_3_code 38 = .ok (.areturn, 1) := by decide +kernel
set_option maxRecDepth 65536 in
set_option maxHeartbeats 40000000 in
theorem own_pick4 (l : Launch) (Z : State) (a0 : Array Value) (hw : ∀ d ∈ tables_1, d.before a0 Z = true) (ws : List Jvm.Cond) (w_NUL : Addr) (h0 : Heap) (n0 : Nat) (Z0 : n0 ≤ h0.size) (S_NUL : Sta Z h0 "com/example/sudsline/sudsline/model/Keyword" "NUL" "Lcom/example/sudsline/sudsline/model/Keyword;" (.ref w_NUL)) :
    own_Met l Z (⟨"com/example/sudsline/sudsline/model/KeywordEndsAnswerPinLaw", "pick", "(I)Lcom/example/sudsline/sudsline/model/Keyword;"⟩ : MethodName) method_3_code 1 (some (.object "com/example/sudsline/sudsline/model/Keyword")) ws ({ frames := 0, cells := 0, slots := 0, locals := 0 } : Room) #[(.int (4 : Int32))] h0 (fun v h L => v = some (.ref w_NUL) ∧ Fr n0 L ∧ h = h0) := by
  refine own_body (plainFor_of_name own_pn_com_example_sudsline_sudsline_model_KeywordEndsAnswerPinLaw) (fun p e s m below meth c s₁ hx hby hml0 hrt hlk hown0 hnm hZ X0 e0 => ?_)
  have N0 := Fr.nil n0
  have hown : s.vm.findClass "com/example/sudsline/sudsline/model/KeywordEndsAnswerPinLaw" = some m.cls := hown0
  have hml : c.maxLocals = 1 := hml0
  refine own_castG (own_ef0 m (4 : Int32)) ?_
  show own_Goes _ _ _ _ s₁ (mkF m 0 #[.val (.int (4 : Int32))] [])
  refine own_step (fun t k => XS.iloadN X0.here hx rfl (hb hby own_method_3_0) rfl k) ?_
  show own_Goes _ _ _ _ s₁ (mkF m 1 #[.val (.int (4 : Int32))] [(.int (4 : Int32))])
  refine own_step (fun t k => XS.ifYes X0.here hx rfl (pc0 := 1) (pc' := 8) rfl (hb hby own_method_3_1) rfl ((if0 _ _).trans (feq (show ¬ ((4 : Int32) = (0 : Int32)) from (by decide))).2) (by decide) (by decide) k) ?_
  show own_Goes _ _ _ _ s₁ (mkF m 8 #[.val (.int (4 : Int32))] [])
  refine own_step (fun t k => XS.iloadN X0.here hx rfl (hb hby own_method_3_8) rfl k) ?_
  show own_Goes _ _ _ _ s₁ (mkF m 9 #[.val (.int (4 : Int32))] [(.int (4 : Int32))])
  refine own_step (fun t k => XS.iconst X0.here hx rfl (hb hby own_method_3_9) k) ?_
  show own_Goes _ _ _ _ s₁ (mkF m 10 #[.val (.int (4 : Int32))] [(.int (1 : Int32)), (.int (4 : Int32))])
  refine own_step (fun t k => XS.icmpYes X0.here hx rfl (pc0 := 10) (pc' := 17) rfl (hb hby own_method_3_10) rfl (feq (show ¬ ((4 : Int32) = (1 : Int32)) from (by decide))).2 (by decide) (by decide) k) ?_
  show own_Goes _ _ _ _ s₁ (mkF m 17 #[.val (.int (4 : Int32))] [])
  refine own_step (fun t k => XS.iloadN X0.here hx rfl (hb hby own_method_3_17) rfl k) ?_
  show own_Goes _ _ _ _ s₁ (mkF m 18 #[.val (.int (4 : Int32))] [(.int (4 : Int32))])
  refine own_step (fun t k => XS.iconst X0.here hx rfl (hb hby own_method_3_18) k) ?_
  show own_Goes _ _ _ _ s₁ (mkF m 19 #[.val (.int (4 : Int32))] [(.int (2 : Int32)), (.int (4 : Int32))])
  refine own_step (fun t k => XS.icmpYes X0.here hx rfl (pc0 := 19) (pc' := 26) rfl (hb hby own_method_3_19) rfl (feq (show ¬ ((4 : Int32) = (2 : Int32)) from (by decide))).2 (by decide) (by decide) k) ?_
  show own_Goes _ _ _ _ s₁ (mkF m 26 #[.val (.int (4 : Int32))] [])
  refine own_step (fun t k => XS.iloadN X0.here hx rfl (hb hby own_method_3_26) rfl k) ?_
  show own_Goes _ _ _ _ s₁ (mkF m 27 #[.val (.int (4 : Int32))] [(.int (4 : Int32))])
  refine own_step (fun t k => XS.iconst X0.here hx rfl (hb hby own_method_3_27) k) ?_
  show own_Goes _ _ _ _ s₁ (mkF m 28 #[.val (.int (4 : Int32))] [(.int (3 : Int32)), (.int (4 : Int32))])
  refine own_step (fun t k => XS.icmpYes X0.here hx rfl (pc0 := 28) (pc' := 35) rfl (hb hby own_method_3_28) rfl (feq (show ¬ ((4 : Int32) = (3 : Int32)) from (by decide))).2 (by decide) (by decide) k) ?_
  show own_Goes _ _ _ _ s₁ (mkF m 35 #[.val (.int (4 : Int32))] [])
  obtain ⟨T1, X1, e1, st1⟩ := getS2 X0 hx hZ hown (host := "") (Or.inl (hw _ (List.mem_of_getElem? (i := 24) rfl))) Via.refl e0 S_NUL (g := (mkF m 35 #[.val (.int (4 : Int32))] [])) rfl (hb hby own_method_3_35)
  refine own_step st1 ?_
  show own_Goes _ _ _ _ T1 (mkF m 38 #[.val (.int (4 : Int32))] [(.ref w_NUL)])
  exact own_retA X1 hx hlk hrt rfl rfl rfl (hb hby own_method_3_38) ⟨rfl, N0, e1⟩ (by decide) (by decide)
theorem own_pn_com_example_sudsline_sudsline_model_Keyword : plainName "com/example/sudsline/sudsline/model/Keyword" = true := by first | (simp [plainName, overriddenIn]; done) | decide +kernel
theorem own_ef1 (m : MethodId) (x0 : Addr) : entryFrame m #[(.ref x0)] 1 = mkF m 0 #[.val (.ref x0)] [] := by first | (simp [entryFrame, mkF, argsToLocals, Value.category]; done) | rfl
theorem own_prog_23_method_4_0 : decode prog_23_method_4_code 0 = .ok (.aload_n 0, 1) := by decide +kernel
theorem own_prog_23_method_4_1 : decode prog_23_method_4_code 1 = .ok (.getstatic 3, 3) := by decide +kernel
theorem own_prog_23_method_4_4 : decode prog_23_method_4_code 4 = .ok (.if_acmp .eq 7, 3) := by decide +kernel
theorem own_prog_23_method_4_11 : decode prog_23_method_4_code 11 = .ok (.iconst 0, 1) := by decide +kernel
theorem own_prog_23_method_4_12 : decode prog_23_method_4_code 12 = .ok (.ireturn, 1) := by decide +kernel
set_option maxRecDepth 65536 in
set_option maxHeartbeats 40000000 in
theorem own_isr_MSG (l : Launch) (Z : State) (a0 : Array Value) (hw : ∀ d ∈ tables_1, d.before a0 Z = true) (ws : List Jvm.Cond) (w_MSG : Addr) (h0 : Heap) (n0 : Nat) (Z0 : n0 ≤ h0.size) (S_MSG : Sta Z h0 "com/example/sudsline/sudsline/model/Keyword" "MSG" "Lcom/example/sudsline/sudsline/model/Keyword;" (.ref w_MSG)) :
    own_Met l Z (⟨"com/example/sudsline/sudsline/model/Keyword", "isReply", "()Z"⟩ : MethodName) prog_23_method_4_code 1 (some .boolean) ws ({ frames := 0, cells := 0, slots := 0, locals := 0 } : Room) #[(.ref w_MSG)] h0 (fun v h L => v = some (.int 0) ∧ Fr n0 L ∧ h = h0) := by
  refine own_body (plainFor_of_name own_pn_com_example_sudsline_sudsline_model_Keyword) (fun p e s m below meth c s₁ hx hby hml0 hrt hlk hown0 hnm hZ X0 e0 => ?_)
  have N0 := Fr.nil n0
  have hown : s.vm.findClass "com/example/sudsline/sudsline/model/Keyword" = some m.cls := hown0
  have hml : c.maxLocals = 1 := hml0
  refine own_castG (own_ef1 m w_MSG) ?_
  show own_Goes _ _ _ _ s₁ (mkF m 0 #[.val (.ref w_MSG)] [])
  refine own_step (fun t k => XS.aloadN X0.here hx rfl (hb hby own_prog_23_method_4_0) rfl rfl k) ?_
  show own_Goes _ _ _ _ s₁ (mkF m 1 #[.val (.ref w_MSG)] [(.ref w_MSG)])
  obtain ⟨T1, X1, e1, st1⟩ := getS2 X0 hx hZ hown (host := "") (Or.inl (hw _ (List.mem_of_getElem? (i := 18) rfl))) Via.refl e0 S_MSG (g := (mkF m 1 #[.val (.ref w_MSG)] [(.ref w_MSG)])) rfl (hb hby own_prog_23_method_4_1)
  refine own_step st1 ?_
  show own_Goes _ _ _ _ T1 (mkF m 4 #[.val (.ref w_MSG)] [(.ref w_MSG), (.ref w_MSG)])
  refine own_step (fun t k => Jvm.RoadKit.acmp (g := (mkF m 4 #[.val (.ref w_MSG)] [(.ref w_MSG), (.ref w_MSG)])) X1 hx rfl rfl rfl (pc0 := 4) (pc' := 11) (same := true) rfl (hb hby own_prog_23_method_4_4) rfl (decide_eq_true rfl) (by decide) (by decide) k) ?_
  show own_Goes _ _ _ _ T1 (mkF m 11 #[.val (.ref w_MSG)] [])
  refine own_step (fun t k => XS.iconst X1.here hx rfl (hb hby own_prog_23_method_4_11) k) ?_
  show own_Goes _ _ _ _ T1 (mkF m 12 #[.val (.ref w_MSG)] [(.int (0 : Int32))])
  exact own_retN X1 hx hlk (t := .boolean) hrt (by simp) (hb hby own_prog_23_method_4_12) ⟨rfl, N0, e1⟩ (by decide) (by decide)
theorem own_prog_23_method_4_7 : decode prog_23_method_4_code 7 = .ok (.iconst 1, 1) := by decide +kernel
theorem own_prog_23_method_4_8 : decode prog_23_method_4_code 8 = .ok (.goto 4, 3) := by decide +kernel
set_option maxRecDepth 65536 in
set_option maxHeartbeats 40000000 in
theorem own_isr (l : Launch) (Z : State) (a0 : Array Value) (hw : ∀ d ∈ tables_1, d.before a0 Z = true) (ws : List Jvm.Cond) (a : Addr) (w_MSG : Addr) (h0 : Heap) (n0 : Nat) (Z0 : n0 ≤ h0.size) (S_MSG : Sta Z h0 "com/example/sudsline/sudsline/model/Keyword" "MSG" "Lcom/example/sudsline/sudsline/model/Keyword;" (.ref w_MSG)) (ne1 : ¬ (a = w_MSG)) :
    own_Met l Z (⟨"com/example/sudsline/sudsline/model/Keyword", "isReply", "()Z"⟩ : MethodName) prog_23_method_4_code 1 (some .boolean) ws ({ frames := 0, cells := 0, slots := 0, locals := 0 } : Room) #[(.ref a)] h0 (fun v h L => v = some (.int 1) ∧ Fr n0 L ∧ h = h0) := by
  refine own_body (plainFor_of_name own_pn_com_example_sudsline_sudsline_model_Keyword) (fun p e s m below meth c s₁ hx hby hml0 hrt hlk hown0 hnm hZ X0 e0 => ?_)
  have N0 := Fr.nil n0
  have hown : s.vm.findClass "com/example/sudsline/sudsline/model/Keyword" = some m.cls := hown0
  have hml : c.maxLocals = 1 := hml0
  refine own_castG (own_ef1 m a) ?_
  show own_Goes _ _ _ _ s₁ (mkF m 0 #[.val (.ref a)] [])
  refine own_step (fun t k => XS.aloadN X0.here hx rfl (hb hby own_prog_23_method_4_0) rfl rfl k) ?_
  show own_Goes _ _ _ _ s₁ (mkF m 1 #[.val (.ref a)] [(.ref a)])
  obtain ⟨T1, X1, e1, st1⟩ := getS2 X0 hx hZ hown (host := "") (Or.inl (hw _ (List.mem_of_getElem? (i := 18) rfl))) Via.refl e0 S_MSG (g := (mkF m 1 #[.val (.ref a)] [(.ref a)])) rfl (hb hby own_prog_23_method_4_1)
  refine own_step st1 ?_
  show own_Goes _ _ _ _ T1 (mkF m 4 #[.val (.ref a)] [(.ref w_MSG), (.ref a)])
  refine own_step (fun t k => Jvm.RoadKit.acmp (g := (mkF m 4 #[.val (.ref a)] [(.ref w_MSG), (.ref a)])) X1 hx rfl rfl rfl (pc0 := 4) (pc' := 7) (same := false) rfl (hb hby own_prog_23_method_4_4) rfl (decide_eq_false fun q => ne1 (Value.ref.inj q)) (by decide) (by decide) k) ?_
  show own_Goes _ _ _ _ T1 (mkF m 7 #[.val (.ref a)] [])
  refine own_step (fun t k => XS.iconst X1.here hx rfl (hb hby own_prog_23_method_4_7) k) ?_
  show own_Goes _ _ _ _ T1 (mkF m 8 #[.val (.ref a)] [(.int (1 : Int32))])
  refine own_step (fun t k => XS.goto X1.here hx rfl (pc0 := 8) (pc' := 12) rfl (hb hby own_prog_23_method_4_8) (by decide) (by decide) k) ?_
  show own_Goes _ _ _ _ T1 (mkF m 12 #[.val (.ref a)] [(.int (1 : Int32))])
  exact own_retN X1 hx hlk (t := .boolean) hrt (by simp) (hb hby own_prog_23_method_4_12) ⟨rfl, N0, e1⟩ (by decide) (by decide)
theorem own_ef2 (m : MethodId) (x0 : Addr) : entryFrame m #[(.ref x0)] 1 = mkF m 0 #[.val (.ref x0)] [] := by first | (simp [entryFrame, mkF, argsToLocals, Value.category]; done) | rfl
theorem own_prog_23_method_5_0 : decode prog_23_method_5_code 0 = .ok (.aload_n 0, 1) := by decide +kernel
theorem own_prog_23_method_5_1 : decode prog_23_method_5_code 1 = .ok (.invokevirtual 38, 3) := by decide +kernel
theorem own_pd0 : parseMethodDescriptor "()Z" = some ⟨[], some .boolean⟩ := by decide +kernel
theorem own_prog_23_method_5_4 : decode prog_23_method_5_code 4 = .ok (.ifCond .eq 14, 3) := by decide +kernel
theorem own_prog_23_method_5_18 : decode prog_23_method_5_code 18 = .ok (.iconst 0, 1) := by decide +kernel
theorem own_prog_23_method_5_19 : decode prog_23_method_5_code 19 = .ok (.ireturn, 1) := by decide +kernel
set_option maxRecDepth 65536 in
set_option maxHeartbeats 40000000 in
theorem own_ends_MSG (l : Launch) (Z : State) (a0 : Array Value) (hw : ∀ d ∈ tables_1, d.before a0 Z = true) (ws : List Jvm.Cond) (w_MSG : Addr) (h0 : Heap) (n0 : Nat) (Z0 : n0 ≤ h0.size) (S_MSG : Sta Z h0 "com/example/sudsline/sudsline/model/Keyword" "MSG" "Lcom/example/sudsline/sudsline/model/Keyword;" (.ref w_MSG)) (E_w_MSG : Exa Z h0 w_MSG "com/example/sudsline/sudsline/model/Keyword") :
    own_Met l Z (⟨"com/example/sudsline/sudsline/model/Keyword", "endsAnswer", "()Z"⟩ : MethodName) prog_23_method_5_code 1 (some .boolean) ws ({ frames := 1, cells := 0, slots := 0, locals := 12 } : Room) #[(.ref w_MSG)] h0 (fun v h L => v = some (.int 0) ∧ Fr n0 L ∧ h = h0) := by
  refine own_body (plainFor_of_name own_pn_com_example_sudsline_sudsline_model_Keyword) (fun p e s m below meth c s₁ hx hby hml0 hrt hlk hown0 hnm hZ X0 e0 => ?_)
  have N0 := Fr.nil n0
  have hown : s.vm.findClass "com/example/sudsline/sudsline/model/Keyword" = some m.cls := hown0
  have hml : c.maxLocals = 1 := hml0
  refine own_castG (own_ef2 m w_MSG) ?_
  show own_Goes _ _ _ _ s₁ (mkF m 0 #[.val (.ref w_MSG)] [])
  refine own_step (fun t k => XS.aloadN X0.here hx rfl (hb hby own_prog_23_method_5_0) rfl rfl k) ?_
  show own_Goes _ _ _ _ s₁ (mkF m 1 #[.val (.ref w_MSG)] [(.ref w_MSG)])
  refine own_callV X0 hx hZ (y := (⟨"com/example/sudsline/sudsline/model/Keyword", "isReply", "()Z"⟩ : MethodName)) (z := (⟨"com/example/sudsline/sudsline/model/Keyword", "isReply", "()Z"⟩ : MethodName)) hown (hw _ (List.mem_of_getElem? (i := 13) rfl)) (hw _ (List.mem_of_getElem? (i := 14) rfl)) (notFace_of_selects (args := #[]) (mvT hZ (hw _ (List.mem_of_getElem? (i := 16) rfl)))) (hw _ (List.mem_of_getElem? (i := 16) rfl)) (hw _ (List.mem_of_getElem? (i := 15) rfl)) (hw _ (List.mem_of_getElem? (i := 17) rfl)) (hw _ (List.mem_of_getElem? (i := 6) rfl)) (by decide) 0 E_w_MSG [] [] (own_isr_MSG l Z a0 hw [] w_MSG h0 n0 Z0 S_MSG) e0 (by decide) (by decide) (by decide) (by decide) (g := (mkF m 1 #[.val (.ref w_MSG)] [(.ref w_MSG)])) rfl (by rw [hml]; rfl) own_pd0 rfl rfl (by show 2 * 0 + _ ≤ _; exact Nat.le_of_eq rfl) (hb hby own_prog_23_method_5_1) ?_
  intro T1 v1 L1 X1 hQ1
  obtain ⟨rfl, N1q, e1⟩ := hQ1
  have N1 := Fr.app N0 N1q
  show own_Goes _ _ _ _ T1 (mkF m 4 #[.val (.ref w_MSG)] [(.int (0 : Int32))])
  refine own_step (fun t k => XS.ifYes X1.here hx rfl (pc0 := 4) (pc' := 18) rfl (hb hby own_prog_23_method_5_4) rfl ((if0 _ _).trans (teq (show (0 : Int32) = (0 : Int32) from (by decide))).1) (by decide) (by decide) k) ?_
  show own_Goes _ _ _ _ T1 (mkF m 18 #[.val (.ref w_MSG)] [])
  refine own_step (fun t k => XS.iconst X1.here hx rfl (hb hby own_prog_23_method_5_18) k) ?_
  show own_Goes _ _ _ _ T1 (mkF m 19 #[.val (.ref w_MSG)] [(.int (0 : Int32))])
  exact own_retN X1 hx hlk (t := .boolean) hrt (by simp) (hb hby own_prog_23_method_5_19) ⟨rfl, N1, e1⟩ (by decide) (by decide)
theorem own_prog_23_method_5_7 : decode prog_23_method_5_code 7 = .ok (.aload_n 0, 1) := by decide +kernel
theorem own_prog_23_method_5_8 : decode prog_23_method_5_code 8 = .ok (.getstatic 13, 3) := by decide +kernel
theorem own_prog_23_method_5_11 : decode prog_23_method_5_code 11 = .ok (.if_acmp .eq 7, 3) := by decide +kernel
set_option maxRecDepth 65536 in
set_option maxHeartbeats 40000000 in
theorem own_ends_ANS (l : Launch) (Z : State) (a0 : Array Value) (hw : ∀ d ∈ tables_1, d.before a0 Z = true) (ws : List Jvm.Cond) (w_MSG : Addr) (w_ANS : Addr) (h0 : Heap) (n0 : Nat) (Z0 : n0 ≤ h0.size) (S_MSG : Sta Z h0 "com/example/sudsline/sudsline/model/Keyword" "MSG" "Lcom/example/sudsline/sudsline/model/Keyword;" (.ref w_MSG)) (S_ANS : Sta Z h0 "com/example/sudsline/sudsline/model/Keyword" "ANS" "Lcom/example/sudsline/sudsline/model/Keyword;" (.ref w_ANS)) (E_w_ANS : Exa Z h0 w_ANS "com/example/sudsline/sudsline/model/Keyword") (ne1 : ¬ (w_ANS = w_MSG)) :
    own_Met l Z (⟨"com/example/sudsline/sudsline/model/Keyword", "endsAnswer", "()Z"⟩ : MethodName) prog_23_method_5_code 1 (some .boolean) ws ({ frames := 1, cells := 0, slots := 0, locals := 12 } : Room) #[(.ref w_ANS)] h0 (fun v h L => v = some (.int 0) ∧ Fr n0 L ∧ h = h0) := by
  refine own_body (plainFor_of_name own_pn_com_example_sudsline_sudsline_model_Keyword) (fun p e s m below meth c s₁ hx hby hml0 hrt hlk hown0 hnm hZ X0 e0 => ?_)
  have N0 := Fr.nil n0
  have hown : s.vm.findClass "com/example/sudsline/sudsline/model/Keyword" = some m.cls := hown0
  have hml : c.maxLocals = 1 := hml0
  refine own_castG (own_ef2 m w_ANS) ?_
  show own_Goes _ _ _ _ s₁ (mkF m 0 #[.val (.ref w_ANS)] [])
  refine own_step (fun t k => XS.aloadN X0.here hx rfl (hb hby own_prog_23_method_5_0) rfl rfl k) ?_
  show own_Goes _ _ _ _ s₁ (mkF m 1 #[.val (.ref w_ANS)] [(.ref w_ANS)])
  refine own_callV X0 hx hZ (y := (⟨"com/example/sudsline/sudsline/model/Keyword", "isReply", "()Z"⟩ : MethodName)) (z := (⟨"com/example/sudsline/sudsline/model/Keyword", "isReply", "()Z"⟩ : MethodName)) hown (hw _ (List.mem_of_getElem? (i := 13) rfl)) (hw _ (List.mem_of_getElem? (i := 14) rfl)) (notFace_of_selects (args := #[]) (mvT hZ (hw _ (List.mem_of_getElem? (i := 16) rfl)))) (hw _ (List.mem_of_getElem? (i := 16) rfl)) (hw _ (List.mem_of_getElem? (i := 15) rfl)) (hw _ (List.mem_of_getElem? (i := 17) rfl)) (hw _ (List.mem_of_getElem? (i := 6) rfl)) (by decide) 0 E_w_ANS [] [] (own_isr l Z a0 hw [] w_ANS w_MSG h0 n0 Z0 S_MSG ne1) e0 (by decide) (by decide) (by decide) (by decide) (g := (mkF m 1 #[.val (.ref w_ANS)] [(.ref w_ANS)])) rfl (by rw [hml]; rfl) own_pd0 rfl rfl (by show 2 * 0 + _ ≤ _; exact Nat.le_of_eq rfl) (hb hby own_prog_23_method_5_1) ?_
  intro T1 v1 L1 X1 hQ1
  obtain ⟨rfl, N1q, e1⟩ := hQ1
  have N1 := Fr.app N0 N1q
  show own_Goes _ _ _ _ T1 (mkF m 4 #[.val (.ref w_ANS)] [(.int (1 : Int32))])
  refine own_step (fun t k => XS.ifNo X1.here hx rfl (hb hby own_prog_23_method_5_4) rfl ((if0 _ _).trans (feq (show ¬ ((1 : Int32) = (0 : Int32)) from (by decide))).1) k) ?_
  show own_Goes _ _ _ _ T1 (mkF m 7 #[.val (.ref w_ANS)] [])
  refine own_step (fun t k => XS.aloadN X1.here hx rfl (hb hby own_prog_23_method_5_7) rfl rfl k) ?_
  show own_Goes _ _ _ _ T1 (mkF m 8 #[.val (.ref w_ANS)] [(.ref w_ANS)])
  obtain ⟨T2, X2, e2, st2⟩ := getS2 X1 hx hZ hown (host := "") (Or.inl (hw _ (List.mem_of_getElem? (i := 21) rfl))) Via.refl e1 S_ANS (g := (mkF m 8 #[.val (.ref w_ANS)] [(.ref w_ANS)])) rfl (hb hby own_prog_23_method_5_8)
  refine own_step st2 ?_
  show own_Goes _ _ _ _ T2 (mkF m 11 #[.val (.ref w_ANS)] [(.ref w_ANS), (.ref w_ANS)])
  refine own_step (fun t k => Jvm.RoadKit.acmp (g := (mkF m 11 #[.val (.ref w_ANS)] [(.ref w_ANS), (.ref w_ANS)])) X2 hx rfl rfl rfl (pc0 := 11) (pc' := 18) (same := true) rfl (hb hby own_prog_23_method_5_11) rfl (decide_eq_true rfl) (by decide) (by decide) k) ?_
  show own_Goes _ _ _ _ T2 (mkF m 18 #[.val (.ref w_ANS)] [])
  refine own_step (fun t k => XS.iconst X2.here hx rfl (hb hby own_prog_23_method_5_18) k) ?_
  show own_Goes _ _ _ _ T2 (mkF m 19 #[.val (.ref w_ANS)] [(.int (0 : Int32))])
  exact own_retN X2 hx hlk (t := .boolean) hrt (by simp) (hb hby own_prog_23_method_5_19) ⟨rfl, N1, e2⟩ (by decide) (by decide)
theorem own_prog_23_method_5_14 : decode prog_23_method_5_code 14 = .ok (.iconst 1, 1) := by decide +kernel
theorem own_prog_23_method_5_15 : decode prog_23_method_5_code 15 = .ok (.goto 4, 3) := by decide +kernel
set_option maxRecDepth 65536 in
set_option maxHeartbeats 40000000 in
theorem own_ends (l : Launch) (Z : State) (a0 : Array Value) (hw : ∀ d ∈ tables_1, d.before a0 Z = true) (ws : List Jvm.Cond) (a : Addr) (w_MSG : Addr) (w_ANS : Addr) (h0 : Heap) (n0 : Nat) (Z0 : n0 ≤ h0.size) (S_MSG : Sta Z h0 "com/example/sudsline/sudsline/model/Keyword" "MSG" "Lcom/example/sudsline/sudsline/model/Keyword;" (.ref w_MSG)) (S_ANS : Sta Z h0 "com/example/sudsline/sudsline/model/Keyword" "ANS" "Lcom/example/sudsline/sudsline/model/Keyword;" (.ref w_ANS)) (E_a : Exa Z h0 a "com/example/sudsline/sudsline/model/Keyword") (ne1 : ¬ (a = w_MSG)) (ne2 : ¬ (a = w_ANS)) :
    own_Met l Z (⟨"com/example/sudsline/sudsline/model/Keyword", "endsAnswer", "()Z"⟩ : MethodName) prog_23_method_5_code 1 (some .boolean) ws ({ frames := 1, cells := 0, slots := 0, locals := 12 } : Room) #[(.ref a)] h0 (fun v h L => v = some (.int 1) ∧ Fr n0 L ∧ h = h0) := by
  refine own_body (plainFor_of_name own_pn_com_example_sudsline_sudsline_model_Keyword) (fun p e s m below meth c s₁ hx hby hml0 hrt hlk hown0 hnm hZ X0 e0 => ?_)
  have N0 := Fr.nil n0
  have hown : s.vm.findClass "com/example/sudsline/sudsline/model/Keyword" = some m.cls := hown0
  have hml : c.maxLocals = 1 := hml0
  refine own_castG (own_ef2 m a) ?_
  show own_Goes _ _ _ _ s₁ (mkF m 0 #[.val (.ref a)] [])
  refine own_step (fun t k => XS.aloadN X0.here hx rfl (hb hby own_prog_23_method_5_0) rfl rfl k) ?_
  show own_Goes _ _ _ _ s₁ (mkF m 1 #[.val (.ref a)] [(.ref a)])
  refine own_callV X0 hx hZ (y := (⟨"com/example/sudsline/sudsline/model/Keyword", "isReply", "()Z"⟩ : MethodName)) (z := (⟨"com/example/sudsline/sudsline/model/Keyword", "isReply", "()Z"⟩ : MethodName)) hown (hw _ (List.mem_of_getElem? (i := 13) rfl)) (hw _ (List.mem_of_getElem? (i := 14) rfl)) (notFace_of_selects (args := #[]) (mvT hZ (hw _ (List.mem_of_getElem? (i := 16) rfl)))) (hw _ (List.mem_of_getElem? (i := 16) rfl)) (hw _ (List.mem_of_getElem? (i := 15) rfl)) (hw _ (List.mem_of_getElem? (i := 17) rfl)) (hw _ (List.mem_of_getElem? (i := 6) rfl)) (by decide) 0 E_a [] [] (own_isr l Z a0 hw [] a w_MSG h0 n0 Z0 S_MSG ne1) e0 (by decide) (by decide) (by decide) (by decide) (g := (mkF m 1 #[.val (.ref a)] [(.ref a)])) rfl (by rw [hml]; rfl) own_pd0 rfl rfl (by show 2 * 0 + _ ≤ _; exact Nat.le_of_eq rfl) (hb hby own_prog_23_method_5_1) ?_
  intro T1 v1 L1 X1 hQ1
  obtain ⟨rfl, N1q, e1⟩ := hQ1
  have N1 := Fr.app N0 N1q
  show own_Goes _ _ _ _ T1 (mkF m 4 #[.val (.ref a)] [(.int (1 : Int32))])
  refine own_step (fun t k => XS.ifNo X1.here hx rfl (hb hby own_prog_23_method_5_4) rfl ((if0 _ _).trans (feq (show ¬ ((1 : Int32) = (0 : Int32)) from (by decide))).1) k) ?_
  show own_Goes _ _ _ _ T1 (mkF m 7 #[.val (.ref a)] [])
  refine own_step (fun t k => XS.aloadN X1.here hx rfl (hb hby own_prog_23_method_5_7) rfl rfl k) ?_
  show own_Goes _ _ _ _ T1 (mkF m 8 #[.val (.ref a)] [(.ref a)])
  obtain ⟨T2, X2, e2, st2⟩ := getS2 X1 hx hZ hown (host := "") (Or.inl (hw _ (List.mem_of_getElem? (i := 21) rfl))) Via.refl e1 S_ANS (g := (mkF m 8 #[.val (.ref a)] [(.ref a)])) rfl (hb hby own_prog_23_method_5_8)
  refine own_step st2 ?_
  show own_Goes _ _ _ _ T2 (mkF m 11 #[.val (.ref a)] [(.ref w_ANS), (.ref a)])
  refine own_step (fun t k => Jvm.RoadKit.acmp (g := (mkF m 11 #[.val (.ref a)] [(.ref w_ANS), (.ref a)])) X2 hx rfl rfl rfl (pc0 := 11) (pc' := 14) (same := false) rfl (hb hby own_prog_23_method_5_11) rfl (decide_eq_false fun q => ne2 (Value.ref.inj q)) (by decide) (by decide) k) ?_
  show own_Goes _ _ _ _ T2 (mkF m 14 #[.val (.ref a)] [])
  refine own_step (fun t k => XS.iconst X2.here hx rfl (hb hby own_prog_23_method_5_14) k) ?_
  show own_Goes _ _ _ _ T2 (mkF m 15 #[.val (.ref a)] [(.int (1 : Int32))])
  refine own_step (fun t k => XS.goto X2.here hx rfl (pc0 := 15) (pc' := 19) rfl (hb hby own_prog_23_method_5_15) (by decide) (by decide) k) ?_
  show own_Goes _ _ _ _ T2 (mkF m 19 #[.val (.ref a)] [(.int (1 : Int32))])
  exact own_retN X2 hx hlk (t := .boolean) hrt (by simp) (hb hby own_prog_23_method_5_19) ⟨rfl, N1, e2⟩ (by decide) (by decide)
theorem own_ef3 (m : MethodId) (x0 : Int32) : entryFrame m #[(.int x0)] maxLocals = mkF m 0 #[.val (.int x0), .unset, .unset, .unset] [] := by first | (simp [entryFrame, mkF, argsToLocals, Value.category, maxLocals]; done) | rfl
theorem own_pd1 : parseMethodDescriptor "(I)Lcom/example/sudsline/sudsline/model/Keyword;" = some ⟨[.int], some (.object "com/example/sudsline/sudsline/model/Keyword")⟩ := by decide +kernel
set_option maxRecDepth 65536 in
set_option maxHeartbeats 40000000 in
theorem own_law0 (l : Launch) (Z : State) (a0 : Array Value) (hw : ∀ d ∈ tables_1, d.before a0 Z = true) (ws : List Jvm.Cond) (p1 : Int32) (w_MSG : Addr) (w_RPY : Addr) (w_ERR : Addr) (w_ANS : Addr) (w_NUL : Addr) (h0 : Heap) (n0 : Nat) (Z0 : n0 ≤ h0.size) (S_MSG : Sta Z h0 "com/example/sudsline/sudsline/model/Keyword" "MSG" "Lcom/example/sudsline/sudsline/model/Keyword;" (.ref w_MSG)) (S_RPY : Sta Z h0 "com/example/sudsline/sudsline/model/Keyword" "RPY" "Lcom/example/sudsline/sudsline/model/Keyword;" (.ref w_RPY)) (S_ERR : Sta Z h0 "com/example/sudsline/sudsline/model/Keyword" "ERR" "Lcom/example/sudsline/sudsline/model/Keyword;" (.ref w_ERR)) (S_ANS : Sta Z h0 "com/example/sudsline/sudsline/model/Keyword" "ANS" "Lcom/example/sudsline/sudsline/model/Keyword;" (.ref w_ANS)) (S_NUL : Sta Z h0 "com/example/sudsline/sudsline/model/Keyword" "NUL" "Lcom/example/sudsline/sudsline/model/Keyword;" (.ref w_NUL)) (E_w_MSG : Exa Z h0 w_MSG "com/example/sudsline/sudsline/model/Keyword") (E_w_RPY : Exa Z h0 w_RPY "com/example/sudsline/sudsline/model/Keyword") (E_w_ERR : Exa Z h0 w_ERR "com/example/sudsline/sudsline/model/Keyword") (E_w_ANS : Exa Z h0 w_ANS "com/example/sudsline/sudsline/model/Keyword") (E_w_NUL : Exa Z h0 w_NUL "com/example/sudsline/sudsline/model/Keyword") (ne_RPY_MSG : ¬ (w_RPY = w_MSG)) (ne_ERR_MSG : ¬ (w_ERR = w_MSG)) (ne_ANS_MSG : ¬ (w_ANS = w_MSG)) (ne_NUL_MSG : ¬ (w_NUL = w_MSG)) (ne_RPY_ANS : ¬ (w_RPY = w_ANS)) (ne_ERR_ANS : ¬ (w_ERR = w_ANS)) (ne_NUL_ANS : ¬ (w_NUL = w_ANS)) (hi : ((p1 &&& (2147483647 : Int32)) - ((p1 &&& (2147483647 : Int32)) / (5 : Int32)) * (5 : Int32)) = (0 : Int32)) :
    own_Met l Z x code maxLocals ret ws room_1 #[(.int p1)] h0 (fun v h L => v = some (.int 1) ∧ Fr n0 L) := by
  refine own_body (plainFor_of_name own_pn_com_example_sudsline_sudsline_model_KeywordEndsAnswerPinLaw) (fun p e s m below meth c s₁ hx hby hml0 hrt hlk hown0 hnm hZ X0 e0 => ?_)
  have N0 := Fr.nil n0
  have hown : s.vm.findClass "com/example/sudsline/sudsline/model/KeywordEndsAnswerPinLaw" = some m.cls := hown0
  have hml : c.maxLocals = 4 := hml0
  refine own_castG (own_ef3 m p1) ?_
  show own_Goes _ _ _ _ s₁ (mkF m 0 #[.val (.int p1), .unset, .unset, .unset] [])
  refine own_step (fun t k => XS.iloadN X0.here hx rfl (hb hby at_0) rfl k) ?_
  show own_Goes _ _ _ _ s₁ (mkF m 1 #[.val (.int p1), .unset, .unset, .unset] [(.int p1)])
  refine own_step (X0.ldcInt hx hown (mvT hZ (hw _ (List.mem_of_getElem? (i := 0) rfl))) (g := (mkF m 1 #[.val (.int p1), .unset, .unset, .unset] [(.int p1)])) rfl (hb hby at_1)) ?_
  show own_Goes _ _ _ _ s₁ (mkF m 3 #[.val (.int p1), .unset, .unset, .unset] [(.int (2147483647 : Int32)), (.int p1)])
  refine own_step (fun t k => XS.iand X0.here hx rfl (hb hby at_3) rfl k) ?_
  show own_Goes _ _ _ _ s₁ (mkF m 4 #[.val (.int p1), .unset, .unset, .unset] [(.int (p1 &&& (2147483647 : Int32)))])
  refine own_step (fun t k => XS.iconst X0.here hx rfl (hb hby at_4) k) ?_
  show own_Goes _ _ _ _ s₁ (mkF m 5 #[.val (.int p1), .unset, .unset, .unset] [(.int (5 : Int32)), (.int (p1 &&& (2147483647 : Int32)))])
  refine own_step (fun t k => XS.irem X0.here hx rfl (hb hby at_5) rfl (by decide) k) ?_
  show own_Goes _ _ _ _ s₁ (mkF m 6 #[.val (.int p1), .unset, .unset, .unset] [(.int ((p1 &&& (2147483647 : Int32)) - ((p1 &&& (2147483647 : Int32)) / (5 : Int32)) * (5 : Int32)))])
  rw [hi]
  show own_Goes _ _ _ _ s₁ (mkF m 6 #[.val (.int p1), .unset, .unset, .unset] [(.int (0 : Int32))])
  refine own_step (fun t k => XS.istoreN X0.here hx rfl (hb hby at_6) rfl (l' := #[.val (.int p1), .val (.int (0 : Int32)), .unset, .unset]) rfl k) ?_
  show own_Goes _ _ _ _ s₁ (mkF m 7 #[.val (.int p1), .val (.int (0 : Int32)), .unset, .unset] [])
  refine own_step (fun t k => XS.iloadN X0.here hx rfl (hb hby at_7) rfl k) ?_
  show own_Goes _ _ _ _ s₁ (mkF m 8 #[.val (.int p1), .val (.int (0 : Int32)), .unset, .unset] [(.int (0 : Int32))])
  refine own_callS X0 hx hZ (y := (⟨"com/example/sudsline/sudsline/model/KeywordEndsAnswerPinLaw", "pick", "(I)Lcom/example/sudsline/sudsline/model/Keyword;"⟩ : MethodName)) hown (hw _ (List.mem_of_getElem? (i := 1) rfl)) (hw _ (List.mem_of_getElem? (i := 2) rfl)) (hw _ (List.mem_of_getElem? (i := 3) rfl)) (hw _ (List.mem_of_getElem? (i := 4) rfl)) (by decide) 0 [(.int (0 : Int32))] [] (own_pick0 l Z a0 hw [] w_MSG h0 n0 Z0 S_MSG) e0 (by decide) (by decide) (by decide) (by decide) (g := (mkF m 8 #[.val (.int p1), .val (.int (0 : Int32)), .unset, .unset] [(.int (0 : Int32))])) rfl (by rw [hml]; rfl) own_pd1 rfl rfl (by show 2 * 0 + _ ≤ _; exact Nat.le_of_eq rfl) (hb hby at_8) ?_
  intro T1 v1 L1 X1 hQ1
  obtain ⟨rfl, N1q, e1⟩ := hQ1
  have N1 := Fr.app N0 N1q
  show own_Goes _ _ _ _ T1 (mkF m 11 #[.val (.int p1), .val (.int (0 : Int32)), .unset, .unset] [(.ref w_MSG)])
  refine own_step (fun t k => XS.astoreN X1.here hx rfl (hb hby at_11) rfl rfl (l' := #[.val (.int p1), .val (.int (0 : Int32)), .val (.ref w_MSG), .unset]) rfl k) ?_
  show own_Goes _ _ _ _ T1 (mkF m 12 #[.val (.int p1), .val (.int (0 : Int32)), .val (.ref w_MSG), .unset] [])
  refine own_step (fun t k => XS.iloadN X1.here hx rfl (hb hby at_12) rfl k) ?_
  show own_Goes _ _ _ _ T1 (mkF m 13 #[.val (.int p1), .val (.int (0 : Int32)), .val (.ref w_MSG), .unset] [(.int (0 : Int32))])
  refine own_step (fun t k => XS.iconst X1.here hx rfl (hb hby at_13) k) ?_
  show own_Goes _ _ _ _ T1 (mkF m 14 #[.val (.int p1), .val (.int (0 : Int32)), .val (.ref w_MSG), .unset] [(.int (1 : Int32)), (.int (0 : Int32))])
  refine own_step (fun t k => XS.icmpNo X1.here hx rfl (hb hby at_14) rfl (feq (show ¬ ((0 : Int32) = (1 : Int32)) from (by decide))).1 k) ?_
  show own_Goes _ _ _ _ T1 (mkF m 17 #[.val (.int p1), .val (.int (0 : Int32)), .val (.ref w_MSG), .unset] [])
  refine own_step (fun t k => XS.iloadN X1.here hx rfl (hb hby at_17) rfl k) ?_
  show own_Goes _ _ _ _ T1 (mkF m 18 #[.val (.int p1), .val (.int (0 : Int32)), .val (.ref w_MSG), .unset] [(.int (0 : Int32))])
  refine own_step (fun t k => XS.iconst X1.here hx rfl (hb hby at_18) k) ?_
  show own_Goes _ _ _ _ T1 (mkF m 19 #[.val (.int p1), .val (.int (0 : Int32)), .val (.ref w_MSG), .unset] [(.int (2 : Int32)), (.int (0 : Int32))])
  refine own_step (fun t k => XS.icmpNo X1.here hx rfl (hb hby at_19) rfl (feq (show ¬ ((0 : Int32) = (2 : Int32)) from (by decide))).1 k) ?_
  show own_Goes _ _ _ _ T1 (mkF m 22 #[.val (.int p1), .val (.int (0 : Int32)), .val (.ref w_MSG), .unset] [])
  refine own_step (fun t k => XS.iloadN X1.here hx rfl (hb hby at_22) rfl k) ?_
  show own_Goes _ _ _ _ T1 (mkF m 23 #[.val (.int p1), .val (.int (0 : Int32)), .val (.ref w_MSG), .unset] [(.int (0 : Int32))])
  refine own_step (fun t k => XS.iconst X1.here hx rfl (hb hby at_23) k) ?_
  show own_Goes _ _ _ _ T1 (mkF m 24 #[.val (.int p1), .val (.int (0 : Int32)), .val (.ref w_MSG), .unset] [(.int (4 : Int32)), (.int (0 : Int32))])
  refine own_step (fun t k => XS.icmpYes X1.here hx rfl (pc0 := 24) (pc' := 31) rfl (hb hby at_24) rfl (feq (show ¬ ((0 : Int32) = (4 : Int32)) from (by decide))).2 (by decide) (by decide) k) ?_
  show own_Goes _ _ _ _ T1 (mkF m 31 #[.val (.int p1), .val (.int (0 : Int32)), .val (.ref w_MSG), .unset] [])
  refine own_step (fun t k => XS.iconst X1.here hx rfl (hb hby at_31) k) ?_
  show own_Goes _ _ _ _ T1 (mkF m 32 #[.val (.int p1), .val (.int (0 : Int32)), .val (.ref w_MSG), .unset] [(.int (0 : Int32))])
  refine own_step (fun t k => XS.istoreN X1.here hx rfl (hb hby at_32) rfl (l' := #[.val (.int p1), .val (.int (0 : Int32)), .val (.ref w_MSG), .val (.int (0 : Int32))]) rfl k) ?_
  show own_Goes _ _ _ _ T1 (mkF m 33 #[.val (.int p1), .val (.int (0 : Int32)), .val (.ref w_MSG), .val (.int (0 : Int32))] [])
  refine own_step (fun t k => XS.aloadN X1.here hx rfl (hb hby at_33) rfl rfl k) ?_
  show own_Goes _ _ _ _ T1 (mkF m 34 #[.val (.int p1), .val (.int (0 : Int32)), .val (.ref w_MSG), .val (.int (0 : Int32))] [(.ref w_MSG)])
  refine own_callV X1 hx hZ (y := (⟨"com/example/sudsline/sudsline/model/Keyword", "endsAnswer", "()Z"⟩ : MethodName)) (z := (⟨"com/example/sudsline/sudsline/model/Keyword", "endsAnswer", "()Z"⟩ : MethodName)) hown (hw _ (List.mem_of_getElem? (i := 8) rfl)) (hw _ (List.mem_of_getElem? (i := 9) rfl)) (notFace_of_selects (args := #[]) (mvT hZ (hw _ (List.mem_of_getElem? (i := 11) rfl)))) (hw _ (List.mem_of_getElem? (i := 11) rfl)) (hw _ (List.mem_of_getElem? (i := 10) rfl)) (hw _ (List.mem_of_getElem? (i := 12) rfl)) (hw _ (List.mem_of_getElem? (i := 6) rfl)) (by decide) 0 E_w_MSG [] [] (own_ends_MSG l Z a0 hw [] w_MSG h0 n0 Z0 S_MSG E_w_MSG) e1 (by decide) (by decide) (by decide) (by decide) (g := (mkF m 34 #[.val (.int p1), .val (.int (0 : Int32)), .val (.ref w_MSG), .val (.int (0 : Int32))] [(.ref w_MSG)])) rfl (by rw [hml]; rfl) own_pd0 rfl rfl (by show 2 * 0 + _ ≤ _; exact Nat.le_of_eq rfl) (hb hby at_34) ?_
  intro T2 v2 L2 X2 hQ2
  obtain ⟨rfl, N2q, e2⟩ := hQ2
  have N2 := Fr.app N1 N2q
  show own_Goes _ _ _ _ T2 (mkF m 37 #[.val (.int p1), .val (.int (0 : Int32)), .val (.ref w_MSG), .val (.int (0 : Int32))] [(.int (0 : Int32))])
  refine own_step (fun t k => XS.iloadN X2.here hx rfl (hb hby at_37) rfl k) ?_
  show own_Goes _ _ _ _ T2 (mkF m 38 #[.val (.int p1), .val (.int (0 : Int32)), .val (.ref w_MSG), .val (.int (0 : Int32))] [(.int (0 : Int32)), (.int (0 : Int32))])
  refine own_step (fun t k => XS.icmpNo X2.here hx rfl (hb hby at_38) rfl (teq (show (0 : Int32) = (0 : Int32) from (by decide))).2 k) ?_
  show own_Goes _ _ _ _ T2 (mkF m 41 #[.val (.int p1), .val (.int (0 : Int32)), .val (.ref w_MSG), .val (.int (0 : Int32))] [])
  refine own_step (fun t k => XS.iconst X2.here hx rfl (hb hby at_41) k) ?_
  show own_Goes _ _ _ _ T2 (mkF m 42 #[.val (.int p1), .val (.int (0 : Int32)), .val (.ref w_MSG), .val (.int (0 : Int32))] [(.int (1 : Int32))])
  refine own_step (fun t k => XS.goto X2.here hx rfl (pc0 := 42) (pc' := 46) rfl (hb hby at_42) (by decide) (by decide) k) ?_
  show own_Goes _ _ _ _ T2 (mkF m 46 #[.val (.int p1), .val (.int (0 : Int32)), .val (.ref w_MSG), .val (.int (0 : Int32))] [(.int (1 : Int32))])
  exact own_retN X2 hx hlk (t := .boolean) hrt (by simp) (hb hby at_46) ⟨rfl, N2⟩ (by decide) (by decide)
set_option maxRecDepth 65536 in
set_option maxHeartbeats 40000000 in
theorem own_law1 (l : Launch) (Z : State) (a0 : Array Value) (hw : ∀ d ∈ tables_1, d.before a0 Z = true) (ws : List Jvm.Cond) (p1 : Int32) (w_MSG : Addr) (w_RPY : Addr) (w_ERR : Addr) (w_ANS : Addr) (w_NUL : Addr) (h0 : Heap) (n0 : Nat) (Z0 : n0 ≤ h0.size) (S_MSG : Sta Z h0 "com/example/sudsline/sudsline/model/Keyword" "MSG" "Lcom/example/sudsline/sudsline/model/Keyword;" (.ref w_MSG)) (S_RPY : Sta Z h0 "com/example/sudsline/sudsline/model/Keyword" "RPY" "Lcom/example/sudsline/sudsline/model/Keyword;" (.ref w_RPY)) (S_ERR : Sta Z h0 "com/example/sudsline/sudsline/model/Keyword" "ERR" "Lcom/example/sudsline/sudsline/model/Keyword;" (.ref w_ERR)) (S_ANS : Sta Z h0 "com/example/sudsline/sudsline/model/Keyword" "ANS" "Lcom/example/sudsline/sudsline/model/Keyword;" (.ref w_ANS)) (S_NUL : Sta Z h0 "com/example/sudsline/sudsline/model/Keyword" "NUL" "Lcom/example/sudsline/sudsline/model/Keyword;" (.ref w_NUL)) (E_w_MSG : Exa Z h0 w_MSG "com/example/sudsline/sudsline/model/Keyword") (E_w_RPY : Exa Z h0 w_RPY "com/example/sudsline/sudsline/model/Keyword") (E_w_ERR : Exa Z h0 w_ERR "com/example/sudsline/sudsline/model/Keyword") (E_w_ANS : Exa Z h0 w_ANS "com/example/sudsline/sudsline/model/Keyword") (E_w_NUL : Exa Z h0 w_NUL "com/example/sudsline/sudsline/model/Keyword") (ne_RPY_MSG : ¬ (w_RPY = w_MSG)) (ne_ERR_MSG : ¬ (w_ERR = w_MSG)) (ne_ANS_MSG : ¬ (w_ANS = w_MSG)) (ne_NUL_MSG : ¬ (w_NUL = w_MSG)) (ne_RPY_ANS : ¬ (w_RPY = w_ANS)) (ne_ERR_ANS : ¬ (w_ERR = w_ANS)) (ne_NUL_ANS : ¬ (w_NUL = w_ANS)) (hi : ((p1 &&& (2147483647 : Int32)) - ((p1 &&& (2147483647 : Int32)) / (5 : Int32)) * (5 : Int32)) = (1 : Int32)) :
    own_Met l Z x code maxLocals ret ws room_1 #[(.int p1)] h0 (fun v h L => v = some (.int 1) ∧ Fr n0 L) := by
  refine own_body (plainFor_of_name own_pn_com_example_sudsline_sudsline_model_KeywordEndsAnswerPinLaw) (fun p e s m below meth c s₁ hx hby hml0 hrt hlk hown0 hnm hZ X0 e0 => ?_)
  have N0 := Fr.nil n0
  have hown : s.vm.findClass "com/example/sudsline/sudsline/model/KeywordEndsAnswerPinLaw" = some m.cls := hown0
  have hml : c.maxLocals = 4 := hml0
  refine own_castG (own_ef3 m p1) ?_
  show own_Goes _ _ _ _ s₁ (mkF m 0 #[.val (.int p1), .unset, .unset, .unset] [])
  refine own_step (fun t k => XS.iloadN X0.here hx rfl (hb hby at_0) rfl k) ?_
  show own_Goes _ _ _ _ s₁ (mkF m 1 #[.val (.int p1), .unset, .unset, .unset] [(.int p1)])
  refine own_step (X0.ldcInt hx hown (mvT hZ (hw _ (List.mem_of_getElem? (i := 0) rfl))) (g := (mkF m 1 #[.val (.int p1), .unset, .unset, .unset] [(.int p1)])) rfl (hb hby at_1)) ?_
  show own_Goes _ _ _ _ s₁ (mkF m 3 #[.val (.int p1), .unset, .unset, .unset] [(.int (2147483647 : Int32)), (.int p1)])
  refine own_step (fun t k => XS.iand X0.here hx rfl (hb hby at_3) rfl k) ?_
  show own_Goes _ _ _ _ s₁ (mkF m 4 #[.val (.int p1), .unset, .unset, .unset] [(.int (p1 &&& (2147483647 : Int32)))])
  refine own_step (fun t k => XS.iconst X0.here hx rfl (hb hby at_4) k) ?_
  show own_Goes _ _ _ _ s₁ (mkF m 5 #[.val (.int p1), .unset, .unset, .unset] [(.int (5 : Int32)), (.int (p1 &&& (2147483647 : Int32)))])
  refine own_step (fun t k => XS.irem X0.here hx rfl (hb hby at_5) rfl (by decide) k) ?_
  show own_Goes _ _ _ _ s₁ (mkF m 6 #[.val (.int p1), .unset, .unset, .unset] [(.int ((p1 &&& (2147483647 : Int32)) - ((p1 &&& (2147483647 : Int32)) / (5 : Int32)) * (5 : Int32)))])
  rw [hi]
  show own_Goes _ _ _ _ s₁ (mkF m 6 #[.val (.int p1), .unset, .unset, .unset] [(.int (1 : Int32))])
  refine own_step (fun t k => XS.istoreN X0.here hx rfl (hb hby at_6) rfl (l' := #[.val (.int p1), .val (.int (1 : Int32)), .unset, .unset]) rfl k) ?_
  show own_Goes _ _ _ _ s₁ (mkF m 7 #[.val (.int p1), .val (.int (1 : Int32)), .unset, .unset] [])
  refine own_step (fun t k => XS.iloadN X0.here hx rfl (hb hby at_7) rfl k) ?_
  show own_Goes _ _ _ _ s₁ (mkF m 8 #[.val (.int p1), .val (.int (1 : Int32)), .unset, .unset] [(.int (1 : Int32))])
  refine own_callS X0 hx hZ (y := (⟨"com/example/sudsline/sudsline/model/KeywordEndsAnswerPinLaw", "pick", "(I)Lcom/example/sudsline/sudsline/model/Keyword;"⟩ : MethodName)) hown (hw _ (List.mem_of_getElem? (i := 1) rfl)) (hw _ (List.mem_of_getElem? (i := 2) rfl)) (hw _ (List.mem_of_getElem? (i := 3) rfl)) (hw _ (List.mem_of_getElem? (i := 4) rfl)) (by decide) 0 [(.int (1 : Int32))] [] (own_pick1 l Z a0 hw [] w_RPY h0 n0 Z0 S_RPY) e0 (by decide) (by decide) (by decide) (by decide) (g := (mkF m 8 #[.val (.int p1), .val (.int (1 : Int32)), .unset, .unset] [(.int (1 : Int32))])) rfl (by rw [hml]; rfl) own_pd1 rfl rfl (by show 2 * 0 + _ ≤ _; exact Nat.le_of_eq rfl) (hb hby at_8) ?_
  intro T1 v1 L1 X1 hQ1
  obtain ⟨rfl, N1q, e1⟩ := hQ1
  have N1 := Fr.app N0 N1q
  show own_Goes _ _ _ _ T1 (mkF m 11 #[.val (.int p1), .val (.int (1 : Int32)), .unset, .unset] [(.ref w_RPY)])
  refine own_step (fun t k => XS.astoreN X1.here hx rfl (hb hby at_11) rfl rfl (l' := #[.val (.int p1), .val (.int (1 : Int32)), .val (.ref w_RPY), .unset]) rfl k) ?_
  show own_Goes _ _ _ _ T1 (mkF m 12 #[.val (.int p1), .val (.int (1 : Int32)), .val (.ref w_RPY), .unset] [])
  refine own_step (fun t k => XS.iloadN X1.here hx rfl (hb hby at_12) rfl k) ?_
  show own_Goes _ _ _ _ T1 (mkF m 13 #[.val (.int p1), .val (.int (1 : Int32)), .val (.ref w_RPY), .unset] [(.int (1 : Int32))])
  refine own_step (fun t k => XS.iconst X1.here hx rfl (hb hby at_13) k) ?_
  show own_Goes _ _ _ _ T1 (mkF m 14 #[.val (.int p1), .val (.int (1 : Int32)), .val (.ref w_RPY), .unset] [(.int (1 : Int32)), (.int (1 : Int32))])
  refine own_step (fun t k => XS.icmpYes X1.here hx rfl (pc0 := 14) (pc' := 27) rfl (hb hby at_14) rfl (teq (show (1 : Int32) = (1 : Int32) from (by decide))).1 (by decide) (by decide) k) ?_
  show own_Goes _ _ _ _ T1 (mkF m 27 #[.val (.int p1), .val (.int (1 : Int32)), .val (.ref w_RPY), .unset] [])
  refine own_step (fun t k => XS.iconst X1.here hx rfl (hb hby at_27) k) ?_
  show own_Goes _ _ _ _ T1 (mkF m 28 #[.val (.int p1), .val (.int (1 : Int32)), .val (.ref w_RPY), .unset] [(.int (1 : Int32))])
  refine own_step (fun t k => XS.goto X1.here hx rfl (pc0 := 28) (pc' := 32) rfl (hb hby at_28) (by decide) (by decide) k) ?_
  show own_Goes _ _ _ _ T1 (mkF m 32 #[.val (.int p1), .val (.int (1 : Int32)), .val (.ref w_RPY), .unset] [(.int (1 : Int32))])
  refine own_step (fun t k => XS.istoreN X1.here hx rfl (hb hby at_32) rfl (l' := #[.val (.int p1), .val (.int (1 : Int32)), .val (.ref w_RPY), .val (.int (1 : Int32))]) rfl k) ?_
  show own_Goes _ _ _ _ T1 (mkF m 33 #[.val (.int p1), .val (.int (1 : Int32)), .val (.ref w_RPY), .val (.int (1 : Int32))] [])
  refine own_step (fun t k => XS.aloadN X1.here hx rfl (hb hby at_33) rfl rfl k) ?_
  show own_Goes _ _ _ _ T1 (mkF m 34 #[.val (.int p1), .val (.int (1 : Int32)), .val (.ref w_RPY), .val (.int (1 : Int32))] [(.ref w_RPY)])
  refine own_callV X1 hx hZ (y := (⟨"com/example/sudsline/sudsline/model/Keyword", "endsAnswer", "()Z"⟩ : MethodName)) (z := (⟨"com/example/sudsline/sudsline/model/Keyword", "endsAnswer", "()Z"⟩ : MethodName)) hown (hw _ (List.mem_of_getElem? (i := 8) rfl)) (hw _ (List.mem_of_getElem? (i := 9) rfl)) (notFace_of_selects (args := #[]) (mvT hZ (hw _ (List.mem_of_getElem? (i := 11) rfl)))) (hw _ (List.mem_of_getElem? (i := 11) rfl)) (hw _ (List.mem_of_getElem? (i := 10) rfl)) (hw _ (List.mem_of_getElem? (i := 12) rfl)) (hw _ (List.mem_of_getElem? (i := 6) rfl)) (by decide) 0 E_w_RPY [] [] (own_ends l Z a0 hw [] w_RPY w_MSG w_ANS h0 n0 Z0 S_MSG S_ANS E_w_RPY ne_RPY_MSG ne_RPY_ANS) e1 (by decide) (by decide) (by decide) (by decide) (g := (mkF m 34 #[.val (.int p1), .val (.int (1 : Int32)), .val (.ref w_RPY), .val (.int (1 : Int32))] [(.ref w_RPY)])) rfl (by rw [hml]; rfl) own_pd0 rfl rfl (by show 2 * 0 + _ ≤ _; exact Nat.le_of_eq rfl) (hb hby at_34) ?_
  intro T2 v2 L2 X2 hQ2
  obtain ⟨rfl, N2q, e2⟩ := hQ2
  have N2 := Fr.app N1 N2q
  show own_Goes _ _ _ _ T2 (mkF m 37 #[.val (.int p1), .val (.int (1 : Int32)), .val (.ref w_RPY), .val (.int (1 : Int32))] [(.int (1 : Int32))])
  refine own_step (fun t k => XS.iloadN X2.here hx rfl (hb hby at_37) rfl k) ?_
  show own_Goes _ _ _ _ T2 (mkF m 38 #[.val (.int p1), .val (.int (1 : Int32)), .val (.ref w_RPY), .val (.int (1 : Int32))] [(.int (1 : Int32)), (.int (1 : Int32))])
  refine own_step (fun t k => XS.icmpNo X2.here hx rfl (hb hby at_38) rfl (teq (show (1 : Int32) = (1 : Int32) from (by decide))).2 k) ?_
  show own_Goes _ _ _ _ T2 (mkF m 41 #[.val (.int p1), .val (.int (1 : Int32)), .val (.ref w_RPY), .val (.int (1 : Int32))] [])
  refine own_step (fun t k => XS.iconst X2.here hx rfl (hb hby at_41) k) ?_
  show own_Goes _ _ _ _ T2 (mkF m 42 #[.val (.int p1), .val (.int (1 : Int32)), .val (.ref w_RPY), .val (.int (1 : Int32))] [(.int (1 : Int32))])
  refine own_step (fun t k => XS.goto X2.here hx rfl (pc0 := 42) (pc' := 46) rfl (hb hby at_42) (by decide) (by decide) k) ?_
  show own_Goes _ _ _ _ T2 (mkF m 46 #[.val (.int p1), .val (.int (1 : Int32)), .val (.ref w_RPY), .val (.int (1 : Int32))] [(.int (1 : Int32))])
  exact own_retN X2 hx hlk (t := .boolean) hrt (by simp) (hb hby at_46) ⟨rfl, N2⟩ (by decide) (by decide)
set_option maxRecDepth 65536 in
set_option maxHeartbeats 40000000 in
theorem own_law2 (l : Launch) (Z : State) (a0 : Array Value) (hw : ∀ d ∈ tables_1, d.before a0 Z = true) (ws : List Jvm.Cond) (p1 : Int32) (w_MSG : Addr) (w_RPY : Addr) (w_ERR : Addr) (w_ANS : Addr) (w_NUL : Addr) (h0 : Heap) (n0 : Nat) (Z0 : n0 ≤ h0.size) (S_MSG : Sta Z h0 "com/example/sudsline/sudsline/model/Keyword" "MSG" "Lcom/example/sudsline/sudsline/model/Keyword;" (.ref w_MSG)) (S_RPY : Sta Z h0 "com/example/sudsline/sudsline/model/Keyword" "RPY" "Lcom/example/sudsline/sudsline/model/Keyword;" (.ref w_RPY)) (S_ERR : Sta Z h0 "com/example/sudsline/sudsline/model/Keyword" "ERR" "Lcom/example/sudsline/sudsline/model/Keyword;" (.ref w_ERR)) (S_ANS : Sta Z h0 "com/example/sudsline/sudsline/model/Keyword" "ANS" "Lcom/example/sudsline/sudsline/model/Keyword;" (.ref w_ANS)) (S_NUL : Sta Z h0 "com/example/sudsline/sudsline/model/Keyword" "NUL" "Lcom/example/sudsline/sudsline/model/Keyword;" (.ref w_NUL)) (E_w_MSG : Exa Z h0 w_MSG "com/example/sudsline/sudsline/model/Keyword") (E_w_RPY : Exa Z h0 w_RPY "com/example/sudsline/sudsline/model/Keyword") (E_w_ERR : Exa Z h0 w_ERR "com/example/sudsline/sudsline/model/Keyword") (E_w_ANS : Exa Z h0 w_ANS "com/example/sudsline/sudsline/model/Keyword") (E_w_NUL : Exa Z h0 w_NUL "com/example/sudsline/sudsline/model/Keyword") (ne_RPY_MSG : ¬ (w_RPY = w_MSG)) (ne_ERR_MSG : ¬ (w_ERR = w_MSG)) (ne_ANS_MSG : ¬ (w_ANS = w_MSG)) (ne_NUL_MSG : ¬ (w_NUL = w_MSG)) (ne_RPY_ANS : ¬ (w_RPY = w_ANS)) (ne_ERR_ANS : ¬ (w_ERR = w_ANS)) (ne_NUL_ANS : ¬ (w_NUL = w_ANS)) (hi : ((p1 &&& (2147483647 : Int32)) - ((p1 &&& (2147483647 : Int32)) / (5 : Int32)) * (5 : Int32)) = (2 : Int32)) :
    own_Met l Z x code maxLocals ret ws room_1 #[(.int p1)] h0 (fun v h L => v = some (.int 1) ∧ Fr n0 L) := by
  refine own_body (plainFor_of_name own_pn_com_example_sudsline_sudsline_model_KeywordEndsAnswerPinLaw) (fun p e s m below meth c s₁ hx hby hml0 hrt hlk hown0 hnm hZ X0 e0 => ?_)
  have N0 := Fr.nil n0
  have hown : s.vm.findClass "com/example/sudsline/sudsline/model/KeywordEndsAnswerPinLaw" = some m.cls := hown0
  have hml : c.maxLocals = 4 := hml0
  refine own_castG (own_ef3 m p1) ?_
  show own_Goes _ _ _ _ s₁ (mkF m 0 #[.val (.int p1), .unset, .unset, .unset] [])
  refine own_step (fun t k => XS.iloadN X0.here hx rfl (hb hby at_0) rfl k) ?_
  show own_Goes _ _ _ _ s₁ (mkF m 1 #[.val (.int p1), .unset, .unset, .unset] [(.int p1)])
  refine own_step (X0.ldcInt hx hown (mvT hZ (hw _ (List.mem_of_getElem? (i := 0) rfl))) (g := (mkF m 1 #[.val (.int p1), .unset, .unset, .unset] [(.int p1)])) rfl (hb hby at_1)) ?_
  show own_Goes _ _ _ _ s₁ (mkF m 3 #[.val (.int p1), .unset, .unset, .unset] [(.int (2147483647 : Int32)), (.int p1)])
  refine own_step (fun t k => XS.iand X0.here hx rfl (hb hby at_3) rfl k) ?_
  show own_Goes _ _ _ _ s₁ (mkF m 4 #[.val (.int p1), .unset, .unset, .unset] [(.int (p1 &&& (2147483647 : Int32)))])
  refine own_step (fun t k => XS.iconst X0.here hx rfl (hb hby at_4) k) ?_
  show own_Goes _ _ _ _ s₁ (mkF m 5 #[.val (.int p1), .unset, .unset, .unset] [(.int (5 : Int32)), (.int (p1 &&& (2147483647 : Int32)))])
  refine own_step (fun t k => XS.irem X0.here hx rfl (hb hby at_5) rfl (by decide) k) ?_
  show own_Goes _ _ _ _ s₁ (mkF m 6 #[.val (.int p1), .unset, .unset, .unset] [(.int ((p1 &&& (2147483647 : Int32)) - ((p1 &&& (2147483647 : Int32)) / (5 : Int32)) * (5 : Int32)))])
  rw [hi]
  show own_Goes _ _ _ _ s₁ (mkF m 6 #[.val (.int p1), .unset, .unset, .unset] [(.int (2 : Int32))])
  refine own_step (fun t k => XS.istoreN X0.here hx rfl (hb hby at_6) rfl (l' := #[.val (.int p1), .val (.int (2 : Int32)), .unset, .unset]) rfl k) ?_
  show own_Goes _ _ _ _ s₁ (mkF m 7 #[.val (.int p1), .val (.int (2 : Int32)), .unset, .unset] [])
  refine own_step (fun t k => XS.iloadN X0.here hx rfl (hb hby at_7) rfl k) ?_
  show own_Goes _ _ _ _ s₁ (mkF m 8 #[.val (.int p1), .val (.int (2 : Int32)), .unset, .unset] [(.int (2 : Int32))])
  refine own_callS X0 hx hZ (y := (⟨"com/example/sudsline/sudsline/model/KeywordEndsAnswerPinLaw", "pick", "(I)Lcom/example/sudsline/sudsline/model/Keyword;"⟩ : MethodName)) hown (hw _ (List.mem_of_getElem? (i := 1) rfl)) (hw _ (List.mem_of_getElem? (i := 2) rfl)) (hw _ (List.mem_of_getElem? (i := 3) rfl)) (hw _ (List.mem_of_getElem? (i := 4) rfl)) (by decide) 0 [(.int (2 : Int32))] [] (own_pick2 l Z a0 hw [] w_ERR h0 n0 Z0 S_ERR) e0 (by decide) (by decide) (by decide) (by decide) (g := (mkF m 8 #[.val (.int p1), .val (.int (2 : Int32)), .unset, .unset] [(.int (2 : Int32))])) rfl (by rw [hml]; rfl) own_pd1 rfl rfl (by show 2 * 0 + _ ≤ _; exact Nat.le_of_eq rfl) (hb hby at_8) ?_
  intro T1 v1 L1 X1 hQ1
  obtain ⟨rfl, N1q, e1⟩ := hQ1
  have N1 := Fr.app N0 N1q
  show own_Goes _ _ _ _ T1 (mkF m 11 #[.val (.int p1), .val (.int (2 : Int32)), .unset, .unset] [(.ref w_ERR)])
  refine own_step (fun t k => XS.astoreN X1.here hx rfl (hb hby at_11) rfl rfl (l' := #[.val (.int p1), .val (.int (2 : Int32)), .val (.ref w_ERR), .unset]) rfl k) ?_
  show own_Goes _ _ _ _ T1 (mkF m 12 #[.val (.int p1), .val (.int (2 : Int32)), .val (.ref w_ERR), .unset] [])
  refine own_step (fun t k => XS.iloadN X1.here hx rfl (hb hby at_12) rfl k) ?_
  show own_Goes _ _ _ _ T1 (mkF m 13 #[.val (.int p1), .val (.int (2 : Int32)), .val (.ref w_ERR), .unset] [(.int (2 : Int32))])
  refine own_step (fun t k => XS.iconst X1.here hx rfl (hb hby at_13) k) ?_
  show own_Goes _ _ _ _ T1 (mkF m 14 #[.val (.int p1), .val (.int (2 : Int32)), .val (.ref w_ERR), .unset] [(.int (1 : Int32)), (.int (2 : Int32))])
  refine own_step (fun t k => XS.icmpNo X1.here hx rfl (hb hby at_14) rfl (feq (show ¬ ((2 : Int32) = (1 : Int32)) from (by decide))).1 k) ?_
  show own_Goes _ _ _ _ T1 (mkF m 17 #[.val (.int p1), .val (.int (2 : Int32)), .val (.ref w_ERR), .unset] [])
  refine own_step (fun t k => XS.iloadN X1.here hx rfl (hb hby at_17) rfl k) ?_
  show own_Goes _ _ _ _ T1 (mkF m 18 #[.val (.int p1), .val (.int (2 : Int32)), .val (.ref w_ERR), .unset] [(.int (2 : Int32))])
  refine own_step (fun t k => XS.iconst X1.here hx rfl (hb hby at_18) k) ?_
  show own_Goes _ _ _ _ T1 (mkF m 19 #[.val (.int p1), .val (.int (2 : Int32)), .val (.ref w_ERR), .unset] [(.int (2 : Int32)), (.int (2 : Int32))])
  refine own_step (fun t k => XS.icmpYes X1.here hx rfl (pc0 := 19) (pc' := 27) rfl (hb hby at_19) rfl (teq (show (2 : Int32) = (2 : Int32) from (by decide))).1 (by decide) (by decide) k) ?_
  show own_Goes _ _ _ _ T1 (mkF m 27 #[.val (.int p1), .val (.int (2 : Int32)), .val (.ref w_ERR), .unset] [])
  refine own_step (fun t k => XS.iconst X1.here hx rfl (hb hby at_27) k) ?_
  show own_Goes _ _ _ _ T1 (mkF m 28 #[.val (.int p1), .val (.int (2 : Int32)), .val (.ref w_ERR), .unset] [(.int (1 : Int32))])
  refine own_step (fun t k => XS.goto X1.here hx rfl (pc0 := 28) (pc' := 32) rfl (hb hby at_28) (by decide) (by decide) k) ?_
  show own_Goes _ _ _ _ T1 (mkF m 32 #[.val (.int p1), .val (.int (2 : Int32)), .val (.ref w_ERR), .unset] [(.int (1 : Int32))])
  refine own_step (fun t k => XS.istoreN X1.here hx rfl (hb hby at_32) rfl (l' := #[.val (.int p1), .val (.int (2 : Int32)), .val (.ref w_ERR), .val (.int (1 : Int32))]) rfl k) ?_
  show own_Goes _ _ _ _ T1 (mkF m 33 #[.val (.int p1), .val (.int (2 : Int32)), .val (.ref w_ERR), .val (.int (1 : Int32))] [])
  refine own_step (fun t k => XS.aloadN X1.here hx rfl (hb hby at_33) rfl rfl k) ?_
  show own_Goes _ _ _ _ T1 (mkF m 34 #[.val (.int p1), .val (.int (2 : Int32)), .val (.ref w_ERR), .val (.int (1 : Int32))] [(.ref w_ERR)])
  refine own_callV X1 hx hZ (y := (⟨"com/example/sudsline/sudsline/model/Keyword", "endsAnswer", "()Z"⟩ : MethodName)) (z := (⟨"com/example/sudsline/sudsline/model/Keyword", "endsAnswer", "()Z"⟩ : MethodName)) hown (hw _ (List.mem_of_getElem? (i := 8) rfl)) (hw _ (List.mem_of_getElem? (i := 9) rfl)) (notFace_of_selects (args := #[]) (mvT hZ (hw _ (List.mem_of_getElem? (i := 11) rfl)))) (hw _ (List.mem_of_getElem? (i := 11) rfl)) (hw _ (List.mem_of_getElem? (i := 10) rfl)) (hw _ (List.mem_of_getElem? (i := 12) rfl)) (hw _ (List.mem_of_getElem? (i := 6) rfl)) (by decide) 0 E_w_ERR [] [] (own_ends l Z a0 hw [] w_ERR w_MSG w_ANS h0 n0 Z0 S_MSG S_ANS E_w_ERR ne_ERR_MSG ne_ERR_ANS) e1 (by decide) (by decide) (by decide) (by decide) (g := (mkF m 34 #[.val (.int p1), .val (.int (2 : Int32)), .val (.ref w_ERR), .val (.int (1 : Int32))] [(.ref w_ERR)])) rfl (by rw [hml]; rfl) own_pd0 rfl rfl (by show 2 * 0 + _ ≤ _; exact Nat.le_of_eq rfl) (hb hby at_34) ?_
  intro T2 v2 L2 X2 hQ2
  obtain ⟨rfl, N2q, e2⟩ := hQ2
  have N2 := Fr.app N1 N2q
  show own_Goes _ _ _ _ T2 (mkF m 37 #[.val (.int p1), .val (.int (2 : Int32)), .val (.ref w_ERR), .val (.int (1 : Int32))] [(.int (1 : Int32))])
  refine own_step (fun t k => XS.iloadN X2.here hx rfl (hb hby at_37) rfl k) ?_
  show own_Goes _ _ _ _ T2 (mkF m 38 #[.val (.int p1), .val (.int (2 : Int32)), .val (.ref w_ERR), .val (.int (1 : Int32))] [(.int (1 : Int32)), (.int (1 : Int32))])
  refine own_step (fun t k => XS.icmpNo X2.here hx rfl (hb hby at_38) rfl (teq (show (1 : Int32) = (1 : Int32) from (by decide))).2 k) ?_
  show own_Goes _ _ _ _ T2 (mkF m 41 #[.val (.int p1), .val (.int (2 : Int32)), .val (.ref w_ERR), .val (.int (1 : Int32))] [])
  refine own_step (fun t k => XS.iconst X2.here hx rfl (hb hby at_41) k) ?_
  show own_Goes _ _ _ _ T2 (mkF m 42 #[.val (.int p1), .val (.int (2 : Int32)), .val (.ref w_ERR), .val (.int (1 : Int32))] [(.int (1 : Int32))])
  refine own_step (fun t k => XS.goto X2.here hx rfl (pc0 := 42) (pc' := 46) rfl (hb hby at_42) (by decide) (by decide) k) ?_
  show own_Goes _ _ _ _ T2 (mkF m 46 #[.val (.int p1), .val (.int (2 : Int32)), .val (.ref w_ERR), .val (.int (1 : Int32))] [(.int (1 : Int32))])
  exact own_retN X2 hx hlk (t := .boolean) hrt (by simp) (hb hby at_46) ⟨rfl, N2⟩ (by decide) (by decide)
set_option maxRecDepth 65536 in
set_option maxHeartbeats 40000000 in
theorem own_law3 (l : Launch) (Z : State) (a0 : Array Value) (hw : ∀ d ∈ tables_1, d.before a0 Z = true) (ws : List Jvm.Cond) (p1 : Int32) (w_MSG : Addr) (w_RPY : Addr) (w_ERR : Addr) (w_ANS : Addr) (w_NUL : Addr) (h0 : Heap) (n0 : Nat) (Z0 : n0 ≤ h0.size) (S_MSG : Sta Z h0 "com/example/sudsline/sudsline/model/Keyword" "MSG" "Lcom/example/sudsline/sudsline/model/Keyword;" (.ref w_MSG)) (S_RPY : Sta Z h0 "com/example/sudsline/sudsline/model/Keyword" "RPY" "Lcom/example/sudsline/sudsline/model/Keyword;" (.ref w_RPY)) (S_ERR : Sta Z h0 "com/example/sudsline/sudsline/model/Keyword" "ERR" "Lcom/example/sudsline/sudsline/model/Keyword;" (.ref w_ERR)) (S_ANS : Sta Z h0 "com/example/sudsline/sudsline/model/Keyword" "ANS" "Lcom/example/sudsline/sudsline/model/Keyword;" (.ref w_ANS)) (S_NUL : Sta Z h0 "com/example/sudsline/sudsline/model/Keyword" "NUL" "Lcom/example/sudsline/sudsline/model/Keyword;" (.ref w_NUL)) (E_w_MSG : Exa Z h0 w_MSG "com/example/sudsline/sudsline/model/Keyword") (E_w_RPY : Exa Z h0 w_RPY "com/example/sudsline/sudsline/model/Keyword") (E_w_ERR : Exa Z h0 w_ERR "com/example/sudsline/sudsline/model/Keyword") (E_w_ANS : Exa Z h0 w_ANS "com/example/sudsline/sudsline/model/Keyword") (E_w_NUL : Exa Z h0 w_NUL "com/example/sudsline/sudsline/model/Keyword") (ne_RPY_MSG : ¬ (w_RPY = w_MSG)) (ne_ERR_MSG : ¬ (w_ERR = w_MSG)) (ne_ANS_MSG : ¬ (w_ANS = w_MSG)) (ne_NUL_MSG : ¬ (w_NUL = w_MSG)) (ne_RPY_ANS : ¬ (w_RPY = w_ANS)) (ne_ERR_ANS : ¬ (w_ERR = w_ANS)) (ne_NUL_ANS : ¬ (w_NUL = w_ANS)) (hi : ((p1 &&& (2147483647 : Int32)) - ((p1 &&& (2147483647 : Int32)) / (5 : Int32)) * (5 : Int32)) = (3 : Int32)) :
    own_Met l Z x code maxLocals ret ws room_1 #[(.int p1)] h0 (fun v h L => v = some (.int 1) ∧ Fr n0 L) := by
  refine own_body (plainFor_of_name own_pn_com_example_sudsline_sudsline_model_KeywordEndsAnswerPinLaw) (fun p e s m below meth c s₁ hx hby hml0 hrt hlk hown0 hnm hZ X0 e0 => ?_)
  have N0 := Fr.nil n0
  have hown : s.vm.findClass "com/example/sudsline/sudsline/model/KeywordEndsAnswerPinLaw" = some m.cls := hown0
  have hml : c.maxLocals = 4 := hml0
  refine own_castG (own_ef3 m p1) ?_
  show own_Goes _ _ _ _ s₁ (mkF m 0 #[.val (.int p1), .unset, .unset, .unset] [])
  refine own_step (fun t k => XS.iloadN X0.here hx rfl (hb hby at_0) rfl k) ?_
  show own_Goes _ _ _ _ s₁ (mkF m 1 #[.val (.int p1), .unset, .unset, .unset] [(.int p1)])
  refine own_step (X0.ldcInt hx hown (mvT hZ (hw _ (List.mem_of_getElem? (i := 0) rfl))) (g := (mkF m 1 #[.val (.int p1), .unset, .unset, .unset] [(.int p1)])) rfl (hb hby at_1)) ?_
  show own_Goes _ _ _ _ s₁ (mkF m 3 #[.val (.int p1), .unset, .unset, .unset] [(.int (2147483647 : Int32)), (.int p1)])
  refine own_step (fun t k => XS.iand X0.here hx rfl (hb hby at_3) rfl k) ?_
  show own_Goes _ _ _ _ s₁ (mkF m 4 #[.val (.int p1), .unset, .unset, .unset] [(.int (p1 &&& (2147483647 : Int32)))])
  refine own_step (fun t k => XS.iconst X0.here hx rfl (hb hby at_4) k) ?_
  show own_Goes _ _ _ _ s₁ (mkF m 5 #[.val (.int p1), .unset, .unset, .unset] [(.int (5 : Int32)), (.int (p1 &&& (2147483647 : Int32)))])
  refine own_step (fun t k => XS.irem X0.here hx rfl (hb hby at_5) rfl (by decide) k) ?_
  show own_Goes _ _ _ _ s₁ (mkF m 6 #[.val (.int p1), .unset, .unset, .unset] [(.int ((p1 &&& (2147483647 : Int32)) - ((p1 &&& (2147483647 : Int32)) / (5 : Int32)) * (5 : Int32)))])
  rw [hi]
  show own_Goes _ _ _ _ s₁ (mkF m 6 #[.val (.int p1), .unset, .unset, .unset] [(.int (3 : Int32))])
  refine own_step (fun t k => XS.istoreN X0.here hx rfl (hb hby at_6) rfl (l' := #[.val (.int p1), .val (.int (3 : Int32)), .unset, .unset]) rfl k) ?_
  show own_Goes _ _ _ _ s₁ (mkF m 7 #[.val (.int p1), .val (.int (3 : Int32)), .unset, .unset] [])
  refine own_step (fun t k => XS.iloadN X0.here hx rfl (hb hby at_7) rfl k) ?_
  show own_Goes _ _ _ _ s₁ (mkF m 8 #[.val (.int p1), .val (.int (3 : Int32)), .unset, .unset] [(.int (3 : Int32))])
  refine own_callS X0 hx hZ (y := (⟨"com/example/sudsline/sudsline/model/KeywordEndsAnswerPinLaw", "pick", "(I)Lcom/example/sudsline/sudsline/model/Keyword;"⟩ : MethodName)) hown (hw _ (List.mem_of_getElem? (i := 1) rfl)) (hw _ (List.mem_of_getElem? (i := 2) rfl)) (hw _ (List.mem_of_getElem? (i := 3) rfl)) (hw _ (List.mem_of_getElem? (i := 4) rfl)) (by decide) 0 [(.int (3 : Int32))] [] (own_pick3 l Z a0 hw [] w_ANS h0 n0 Z0 S_ANS) e0 (by decide) (by decide) (by decide) (by decide) (g := (mkF m 8 #[.val (.int p1), .val (.int (3 : Int32)), .unset, .unset] [(.int (3 : Int32))])) rfl (by rw [hml]; rfl) own_pd1 rfl rfl (by show 2 * 0 + _ ≤ _; exact Nat.le_of_eq rfl) (hb hby at_8) ?_
  intro T1 v1 L1 X1 hQ1
  obtain ⟨rfl, N1q, e1⟩ := hQ1
  have N1 := Fr.app N0 N1q
  show own_Goes _ _ _ _ T1 (mkF m 11 #[.val (.int p1), .val (.int (3 : Int32)), .unset, .unset] [(.ref w_ANS)])
  refine own_step (fun t k => XS.astoreN X1.here hx rfl (hb hby at_11) rfl rfl (l' := #[.val (.int p1), .val (.int (3 : Int32)), .val (.ref w_ANS), .unset]) rfl k) ?_
  show own_Goes _ _ _ _ T1 (mkF m 12 #[.val (.int p1), .val (.int (3 : Int32)), .val (.ref w_ANS), .unset] [])
  refine own_step (fun t k => XS.iloadN X1.here hx rfl (hb hby at_12) rfl k) ?_
  show own_Goes _ _ _ _ T1 (mkF m 13 #[.val (.int p1), .val (.int (3 : Int32)), .val (.ref w_ANS), .unset] [(.int (3 : Int32))])
  refine own_step (fun t k => XS.iconst X1.here hx rfl (hb hby at_13) k) ?_
  show own_Goes _ _ _ _ T1 (mkF m 14 #[.val (.int p1), .val (.int (3 : Int32)), .val (.ref w_ANS), .unset] [(.int (1 : Int32)), (.int (3 : Int32))])
  refine own_step (fun t k => XS.icmpNo X1.here hx rfl (hb hby at_14) rfl (feq (show ¬ ((3 : Int32) = (1 : Int32)) from (by decide))).1 k) ?_
  show own_Goes _ _ _ _ T1 (mkF m 17 #[.val (.int p1), .val (.int (3 : Int32)), .val (.ref w_ANS), .unset] [])
  refine own_step (fun t k => XS.iloadN X1.here hx rfl (hb hby at_17) rfl k) ?_
  show own_Goes _ _ _ _ T1 (mkF m 18 #[.val (.int p1), .val (.int (3 : Int32)), .val (.ref w_ANS), .unset] [(.int (3 : Int32))])
  refine own_step (fun t k => XS.iconst X1.here hx rfl (hb hby at_18) k) ?_
  show own_Goes _ _ _ _ T1 (mkF m 19 #[.val (.int p1), .val (.int (3 : Int32)), .val (.ref w_ANS), .unset] [(.int (2 : Int32)), (.int (3 : Int32))])
  refine own_step (fun t k => XS.icmpNo X1.here hx rfl (hb hby at_19) rfl (feq (show ¬ ((3 : Int32) = (2 : Int32)) from (by decide))).1 k) ?_
  show own_Goes _ _ _ _ T1 (mkF m 22 #[.val (.int p1), .val (.int (3 : Int32)), .val (.ref w_ANS), .unset] [])
  refine own_step (fun t k => XS.iloadN X1.here hx rfl (hb hby at_22) rfl k) ?_
  show own_Goes _ _ _ _ T1 (mkF m 23 #[.val (.int p1), .val (.int (3 : Int32)), .val (.ref w_ANS), .unset] [(.int (3 : Int32))])
  refine own_step (fun t k => XS.iconst X1.here hx rfl (hb hby at_23) k) ?_
  show own_Goes _ _ _ _ T1 (mkF m 24 #[.val (.int p1), .val (.int (3 : Int32)), .val (.ref w_ANS), .unset] [(.int (4 : Int32)), (.int (3 : Int32))])
  refine own_step (fun t k => XS.icmpYes X1.here hx rfl (pc0 := 24) (pc' := 31) rfl (hb hby at_24) rfl (feq (show ¬ ((3 : Int32) = (4 : Int32)) from (by decide))).2 (by decide) (by decide) k) ?_
  show own_Goes _ _ _ _ T1 (mkF m 31 #[.val (.int p1), .val (.int (3 : Int32)), .val (.ref w_ANS), .unset] [])
  refine own_step (fun t k => XS.iconst X1.here hx rfl (hb hby at_31) k) ?_
  show own_Goes _ _ _ _ T1 (mkF m 32 #[.val (.int p1), .val (.int (3 : Int32)), .val (.ref w_ANS), .unset] [(.int (0 : Int32))])
  refine own_step (fun t k => XS.istoreN X1.here hx rfl (hb hby at_32) rfl (l' := #[.val (.int p1), .val (.int (3 : Int32)), .val (.ref w_ANS), .val (.int (0 : Int32))]) rfl k) ?_
  show own_Goes _ _ _ _ T1 (mkF m 33 #[.val (.int p1), .val (.int (3 : Int32)), .val (.ref w_ANS), .val (.int (0 : Int32))] [])
  refine own_step (fun t k => XS.aloadN X1.here hx rfl (hb hby at_33) rfl rfl k) ?_
  show own_Goes _ _ _ _ T1 (mkF m 34 #[.val (.int p1), .val (.int (3 : Int32)), .val (.ref w_ANS), .val (.int (0 : Int32))] [(.ref w_ANS)])
  refine own_callV X1 hx hZ (y := (⟨"com/example/sudsline/sudsline/model/Keyword", "endsAnswer", "()Z"⟩ : MethodName)) (z := (⟨"com/example/sudsline/sudsline/model/Keyword", "endsAnswer", "()Z"⟩ : MethodName)) hown (hw _ (List.mem_of_getElem? (i := 8) rfl)) (hw _ (List.mem_of_getElem? (i := 9) rfl)) (notFace_of_selects (args := #[]) (mvT hZ (hw _ (List.mem_of_getElem? (i := 11) rfl)))) (hw _ (List.mem_of_getElem? (i := 11) rfl)) (hw _ (List.mem_of_getElem? (i := 10) rfl)) (hw _ (List.mem_of_getElem? (i := 12) rfl)) (hw _ (List.mem_of_getElem? (i := 6) rfl)) (by decide) 0 E_w_ANS [] [] (own_ends_ANS l Z a0 hw [] w_MSG w_ANS h0 n0 Z0 S_MSG S_ANS E_w_ANS ne_ANS_MSG) e1 (by decide) (by decide) (by decide) (by decide) (g := (mkF m 34 #[.val (.int p1), .val (.int (3 : Int32)), .val (.ref w_ANS), .val (.int (0 : Int32))] [(.ref w_ANS)])) rfl (by rw [hml]; rfl) own_pd0 rfl rfl (by show 2 * 0 + _ ≤ _; exact Nat.le_of_eq rfl) (hb hby at_34) ?_
  intro T2 v2 L2 X2 hQ2
  obtain ⟨rfl, N2q, e2⟩ := hQ2
  have N2 := Fr.app N1 N2q
  show own_Goes _ _ _ _ T2 (mkF m 37 #[.val (.int p1), .val (.int (3 : Int32)), .val (.ref w_ANS), .val (.int (0 : Int32))] [(.int (0 : Int32))])
  refine own_step (fun t k => XS.iloadN X2.here hx rfl (hb hby at_37) rfl k) ?_
  show own_Goes _ _ _ _ T2 (mkF m 38 #[.val (.int p1), .val (.int (3 : Int32)), .val (.ref w_ANS), .val (.int (0 : Int32))] [(.int (0 : Int32)), (.int (0 : Int32))])
  refine own_step (fun t k => XS.icmpNo X2.here hx rfl (hb hby at_38) rfl (teq (show (0 : Int32) = (0 : Int32) from (by decide))).2 k) ?_
  show own_Goes _ _ _ _ T2 (mkF m 41 #[.val (.int p1), .val (.int (3 : Int32)), .val (.ref w_ANS), .val (.int (0 : Int32))] [])
  refine own_step (fun t k => XS.iconst X2.here hx rfl (hb hby at_41) k) ?_
  show own_Goes _ _ _ _ T2 (mkF m 42 #[.val (.int p1), .val (.int (3 : Int32)), .val (.ref w_ANS), .val (.int (0 : Int32))] [(.int (1 : Int32))])
  refine own_step (fun t k => XS.goto X2.here hx rfl (pc0 := 42) (pc' := 46) rfl (hb hby at_42) (by decide) (by decide) k) ?_
  show own_Goes _ _ _ _ T2 (mkF m 46 #[.val (.int p1), .val (.int (3 : Int32)), .val (.ref w_ANS), .val (.int (0 : Int32))] [(.int (1 : Int32))])
  exact own_retN X2 hx hlk (t := .boolean) hrt (by simp) (hb hby at_46) ⟨rfl, N2⟩ (by decide) (by decide)
set_option maxRecDepth 65536 in
set_option maxHeartbeats 40000000 in
theorem own_law4 (l : Launch) (Z : State) (a0 : Array Value) (hw : ∀ d ∈ tables_1, d.before a0 Z = true) (ws : List Jvm.Cond) (p1 : Int32) (w_MSG : Addr) (w_RPY : Addr) (w_ERR : Addr) (w_ANS : Addr) (w_NUL : Addr) (h0 : Heap) (n0 : Nat) (Z0 : n0 ≤ h0.size) (S_MSG : Sta Z h0 "com/example/sudsline/sudsline/model/Keyword" "MSG" "Lcom/example/sudsline/sudsline/model/Keyword;" (.ref w_MSG)) (S_RPY : Sta Z h0 "com/example/sudsline/sudsline/model/Keyword" "RPY" "Lcom/example/sudsline/sudsline/model/Keyword;" (.ref w_RPY)) (S_ERR : Sta Z h0 "com/example/sudsline/sudsline/model/Keyword" "ERR" "Lcom/example/sudsline/sudsline/model/Keyword;" (.ref w_ERR)) (S_ANS : Sta Z h0 "com/example/sudsline/sudsline/model/Keyword" "ANS" "Lcom/example/sudsline/sudsline/model/Keyword;" (.ref w_ANS)) (S_NUL : Sta Z h0 "com/example/sudsline/sudsline/model/Keyword" "NUL" "Lcom/example/sudsline/sudsline/model/Keyword;" (.ref w_NUL)) (E_w_MSG : Exa Z h0 w_MSG "com/example/sudsline/sudsline/model/Keyword") (E_w_RPY : Exa Z h0 w_RPY "com/example/sudsline/sudsline/model/Keyword") (E_w_ERR : Exa Z h0 w_ERR "com/example/sudsline/sudsline/model/Keyword") (E_w_ANS : Exa Z h0 w_ANS "com/example/sudsline/sudsline/model/Keyword") (E_w_NUL : Exa Z h0 w_NUL "com/example/sudsline/sudsline/model/Keyword") (ne_RPY_MSG : ¬ (w_RPY = w_MSG)) (ne_ERR_MSG : ¬ (w_ERR = w_MSG)) (ne_ANS_MSG : ¬ (w_ANS = w_MSG)) (ne_NUL_MSG : ¬ (w_NUL = w_MSG)) (ne_RPY_ANS : ¬ (w_RPY = w_ANS)) (ne_ERR_ANS : ¬ (w_ERR = w_ANS)) (ne_NUL_ANS : ¬ (w_NUL = w_ANS)) (hi : ((p1 &&& (2147483647 : Int32)) - ((p1 &&& (2147483647 : Int32)) / (5 : Int32)) * (5 : Int32)) = (4 : Int32)) :
    own_Met l Z x code maxLocals ret ws room_1 #[(.int p1)] h0 (fun v h L => v = some (.int 1) ∧ Fr n0 L) := by
  refine own_body (plainFor_of_name own_pn_com_example_sudsline_sudsline_model_KeywordEndsAnswerPinLaw) (fun p e s m below meth c s₁ hx hby hml0 hrt hlk hown0 hnm hZ X0 e0 => ?_)
  have N0 := Fr.nil n0
  have hown : s.vm.findClass "com/example/sudsline/sudsline/model/KeywordEndsAnswerPinLaw" = some m.cls := hown0
  have hml : c.maxLocals = 4 := hml0
  refine own_castG (own_ef3 m p1) ?_
  show own_Goes _ _ _ _ s₁ (mkF m 0 #[.val (.int p1), .unset, .unset, .unset] [])
  refine own_step (fun t k => XS.iloadN X0.here hx rfl (hb hby at_0) rfl k) ?_
  show own_Goes _ _ _ _ s₁ (mkF m 1 #[.val (.int p1), .unset, .unset, .unset] [(.int p1)])
  refine own_step (X0.ldcInt hx hown (mvT hZ (hw _ (List.mem_of_getElem? (i := 0) rfl))) (g := (mkF m 1 #[.val (.int p1), .unset, .unset, .unset] [(.int p1)])) rfl (hb hby at_1)) ?_
  show own_Goes _ _ _ _ s₁ (mkF m 3 #[.val (.int p1), .unset, .unset, .unset] [(.int (2147483647 : Int32)), (.int p1)])
  refine own_step (fun t k => XS.iand X0.here hx rfl (hb hby at_3) rfl k) ?_
  show own_Goes _ _ _ _ s₁ (mkF m 4 #[.val (.int p1), .unset, .unset, .unset] [(.int (p1 &&& (2147483647 : Int32)))])
  refine own_step (fun t k => XS.iconst X0.here hx rfl (hb hby at_4) k) ?_
  show own_Goes _ _ _ _ s₁ (mkF m 5 #[.val (.int p1), .unset, .unset, .unset] [(.int (5 : Int32)), (.int (p1 &&& (2147483647 : Int32)))])
  refine own_step (fun t k => XS.irem X0.here hx rfl (hb hby at_5) rfl (by decide) k) ?_
  show own_Goes _ _ _ _ s₁ (mkF m 6 #[.val (.int p1), .unset, .unset, .unset] [(.int ((p1 &&& (2147483647 : Int32)) - ((p1 &&& (2147483647 : Int32)) / (5 : Int32)) * (5 : Int32)))])
  rw [hi]
  show own_Goes _ _ _ _ s₁ (mkF m 6 #[.val (.int p1), .unset, .unset, .unset] [(.int (4 : Int32))])
  refine own_step (fun t k => XS.istoreN X0.here hx rfl (hb hby at_6) rfl (l' := #[.val (.int p1), .val (.int (4 : Int32)), .unset, .unset]) rfl k) ?_
  show own_Goes _ _ _ _ s₁ (mkF m 7 #[.val (.int p1), .val (.int (4 : Int32)), .unset, .unset] [])
  refine own_step (fun t k => XS.iloadN X0.here hx rfl (hb hby at_7) rfl k) ?_
  show own_Goes _ _ _ _ s₁ (mkF m 8 #[.val (.int p1), .val (.int (4 : Int32)), .unset, .unset] [(.int (4 : Int32))])
  refine own_callS X0 hx hZ (y := (⟨"com/example/sudsline/sudsline/model/KeywordEndsAnswerPinLaw", "pick", "(I)Lcom/example/sudsline/sudsline/model/Keyword;"⟩ : MethodName)) hown (hw _ (List.mem_of_getElem? (i := 1) rfl)) (hw _ (List.mem_of_getElem? (i := 2) rfl)) (hw _ (List.mem_of_getElem? (i := 3) rfl)) (hw _ (List.mem_of_getElem? (i := 4) rfl)) (by decide) 0 [(.int (4 : Int32))] [] (own_pick4 l Z a0 hw [] w_NUL h0 n0 Z0 S_NUL) e0 (by decide) (by decide) (by decide) (by decide) (g := (mkF m 8 #[.val (.int p1), .val (.int (4 : Int32)), .unset, .unset] [(.int (4 : Int32))])) rfl (by rw [hml]; rfl) own_pd1 rfl rfl (by show 2 * 0 + _ ≤ _; exact Nat.le_of_eq rfl) (hb hby at_8) ?_
  intro T1 v1 L1 X1 hQ1
  obtain ⟨rfl, N1q, e1⟩ := hQ1
  have N1 := Fr.app N0 N1q
  show own_Goes _ _ _ _ T1 (mkF m 11 #[.val (.int p1), .val (.int (4 : Int32)), .unset, .unset] [(.ref w_NUL)])
  refine own_step (fun t k => XS.astoreN X1.here hx rfl (hb hby at_11) rfl rfl (l' := #[.val (.int p1), .val (.int (4 : Int32)), .val (.ref w_NUL), .unset]) rfl k) ?_
  show own_Goes _ _ _ _ T1 (mkF m 12 #[.val (.int p1), .val (.int (4 : Int32)), .val (.ref w_NUL), .unset] [])
  refine own_step (fun t k => XS.iloadN X1.here hx rfl (hb hby at_12) rfl k) ?_
  show own_Goes _ _ _ _ T1 (mkF m 13 #[.val (.int p1), .val (.int (4 : Int32)), .val (.ref w_NUL), .unset] [(.int (4 : Int32))])
  refine own_step (fun t k => XS.iconst X1.here hx rfl (hb hby at_13) k) ?_
  show own_Goes _ _ _ _ T1 (mkF m 14 #[.val (.int p1), .val (.int (4 : Int32)), .val (.ref w_NUL), .unset] [(.int (1 : Int32)), (.int (4 : Int32))])
  refine own_step (fun t k => XS.icmpNo X1.here hx rfl (hb hby at_14) rfl (feq (show ¬ ((4 : Int32) = (1 : Int32)) from (by decide))).1 k) ?_
  show own_Goes _ _ _ _ T1 (mkF m 17 #[.val (.int p1), .val (.int (4 : Int32)), .val (.ref w_NUL), .unset] [])
  refine own_step (fun t k => XS.iloadN X1.here hx rfl (hb hby at_17) rfl k) ?_
  show own_Goes _ _ _ _ T1 (mkF m 18 #[.val (.int p1), .val (.int (4 : Int32)), .val (.ref w_NUL), .unset] [(.int (4 : Int32))])
  refine own_step (fun t k => XS.iconst X1.here hx rfl (hb hby at_18) k) ?_
  show own_Goes _ _ _ _ T1 (mkF m 19 #[.val (.int p1), .val (.int (4 : Int32)), .val (.ref w_NUL), .unset] [(.int (2 : Int32)), (.int (4 : Int32))])
  refine own_step (fun t k => XS.icmpNo X1.here hx rfl (hb hby at_19) rfl (feq (show ¬ ((4 : Int32) = (2 : Int32)) from (by decide))).1 k) ?_
  show own_Goes _ _ _ _ T1 (mkF m 22 #[.val (.int p1), .val (.int (4 : Int32)), .val (.ref w_NUL), .unset] [])
  refine own_step (fun t k => XS.iloadN X1.here hx rfl (hb hby at_22) rfl k) ?_
  show own_Goes _ _ _ _ T1 (mkF m 23 #[.val (.int p1), .val (.int (4 : Int32)), .val (.ref w_NUL), .unset] [(.int (4 : Int32))])
  refine own_step (fun t k => XS.iconst X1.here hx rfl (hb hby at_23) k) ?_
  show own_Goes _ _ _ _ T1 (mkF m 24 #[.val (.int p1), .val (.int (4 : Int32)), .val (.ref w_NUL), .unset] [(.int (4 : Int32)), (.int (4 : Int32))])
  refine own_step (fun t k => XS.icmpNo X1.here hx rfl (hb hby at_24) rfl (teq (show (4 : Int32) = (4 : Int32) from (by decide))).2 k) ?_
  show own_Goes _ _ _ _ T1 (mkF m 27 #[.val (.int p1), .val (.int (4 : Int32)), .val (.ref w_NUL), .unset] [])
  refine own_step (fun t k => XS.iconst X1.here hx rfl (hb hby at_27) k) ?_
  show own_Goes _ _ _ _ T1 (mkF m 28 #[.val (.int p1), .val (.int (4 : Int32)), .val (.ref w_NUL), .unset] [(.int (1 : Int32))])
  refine own_step (fun t k => XS.goto X1.here hx rfl (pc0 := 28) (pc' := 32) rfl (hb hby at_28) (by decide) (by decide) k) ?_
  show own_Goes _ _ _ _ T1 (mkF m 32 #[.val (.int p1), .val (.int (4 : Int32)), .val (.ref w_NUL), .unset] [(.int (1 : Int32))])
  refine own_step (fun t k => XS.istoreN X1.here hx rfl (hb hby at_32) rfl (l' := #[.val (.int p1), .val (.int (4 : Int32)), .val (.ref w_NUL), .val (.int (1 : Int32))]) rfl k) ?_
  show own_Goes _ _ _ _ T1 (mkF m 33 #[.val (.int p1), .val (.int (4 : Int32)), .val (.ref w_NUL), .val (.int (1 : Int32))] [])
  refine own_step (fun t k => XS.aloadN X1.here hx rfl (hb hby at_33) rfl rfl k) ?_
  show own_Goes _ _ _ _ T1 (mkF m 34 #[.val (.int p1), .val (.int (4 : Int32)), .val (.ref w_NUL), .val (.int (1 : Int32))] [(.ref w_NUL)])
  refine own_callV X1 hx hZ (y := (⟨"com/example/sudsline/sudsline/model/Keyword", "endsAnswer", "()Z"⟩ : MethodName)) (z := (⟨"com/example/sudsline/sudsline/model/Keyword", "endsAnswer", "()Z"⟩ : MethodName)) hown (hw _ (List.mem_of_getElem? (i := 8) rfl)) (hw _ (List.mem_of_getElem? (i := 9) rfl)) (notFace_of_selects (args := #[]) (mvT hZ (hw _ (List.mem_of_getElem? (i := 11) rfl)))) (hw _ (List.mem_of_getElem? (i := 11) rfl)) (hw _ (List.mem_of_getElem? (i := 10) rfl)) (hw _ (List.mem_of_getElem? (i := 12) rfl)) (hw _ (List.mem_of_getElem? (i := 6) rfl)) (by decide) 0 E_w_NUL [] [] (own_ends l Z a0 hw [] w_NUL w_MSG w_ANS h0 n0 Z0 S_MSG S_ANS E_w_NUL ne_NUL_MSG ne_NUL_ANS) e1 (by decide) (by decide) (by decide) (by decide) (g := (mkF m 34 #[.val (.int p1), .val (.int (4 : Int32)), .val (.ref w_NUL), .val (.int (1 : Int32))] [(.ref w_NUL)])) rfl (by rw [hml]; rfl) own_pd0 rfl rfl (by show 2 * 0 + _ ≤ _; exact Nat.le_of_eq rfl) (hb hby at_34) ?_
  intro T2 v2 L2 X2 hQ2
  obtain ⟨rfl, N2q, e2⟩ := hQ2
  have N2 := Fr.app N1 N2q
  show own_Goes _ _ _ _ T2 (mkF m 37 #[.val (.int p1), .val (.int (4 : Int32)), .val (.ref w_NUL), .val (.int (1 : Int32))] [(.int (1 : Int32))])
  refine own_step (fun t k => XS.iloadN X2.here hx rfl (hb hby at_37) rfl k) ?_
  show own_Goes _ _ _ _ T2 (mkF m 38 #[.val (.int p1), .val (.int (4 : Int32)), .val (.ref w_NUL), .val (.int (1 : Int32))] [(.int (1 : Int32)), (.int (1 : Int32))])
  refine own_step (fun t k => XS.icmpNo X2.here hx rfl (hb hby at_38) rfl (teq (show (1 : Int32) = (1 : Int32) from (by decide))).2 k) ?_
  show own_Goes _ _ _ _ T2 (mkF m 41 #[.val (.int p1), .val (.int (4 : Int32)), .val (.ref w_NUL), .val (.int (1 : Int32))] [])
  refine own_step (fun t k => XS.iconst X2.here hx rfl (hb hby at_41) k) ?_
  show own_Goes _ _ _ _ T2 (mkF m 42 #[.val (.int p1), .val (.int (4 : Int32)), .val (.ref w_NUL), .val (.int (1 : Int32))] [(.int (1 : Int32))])
  refine own_step (fun t k => XS.goto X2.here hx rfl (pc0 := 42) (pc' := 46) rfl (hb hby at_42) (by decide) (by decide) k) ?_
  show own_Goes _ _ _ _ T2 (mkF m 46 #[.val (.int p1), .val (.int (4 : Int32)), .val (.ref w_NUL), .val (.int (1 : Int32))] [(.int (1 : Int32))])
  exact own_retN X2 hx hlk (t := .boolean) hrt (by simp) (hb hby at_46) ⟨rfl, N2⟩ (by decide) (by decide)
theorem own_mod (x : Int32) : ((x &&& (2147483647 : Int32)) - ((x &&& (2147483647 : Int32)) / (5 : Int32)) * (5 : Int32)) = (0 : Int32) ∨ ((x &&& (2147483647 : Int32)) - ((x &&& (2147483647 : Int32)) / (5 : Int32)) * (5 : Int32)) = (1 : Int32) ∨ ((x &&& (2147483647 : Int32)) - ((x &&& (2147483647 : Int32)) / (5 : Int32)) * (5 : Int32)) = (2 : Int32) ∨ ((x &&& (2147483647 : Int32)) - ((x &&& (2147483647 : Int32)) / (5 : Int32)) * (5 : Int32)) = (3 : Int32) ∨ ((x &&& (2147483647 : Int32)) - ((x &&& (2147483647 : Int32)) / (5 : Int32)) * (5 : Int32)) = (4 : Int32) := by
  rw [irem_eq_mod]
  have h1 := c_mask x (2147483647 : Int32) 31 (by decide) (by decide)
  have h2 := (c_irem (x &&& (2147483647 : Int32)) (5 : Int32) 5 (by decide)).1 (by rw [h1]; omega)
  have h3 : 0 ≤ ((x &&& (2147483647 : Int32)) % (5 : Int32)).toInt ∧ ((x &&& (2147483647 : Int32)) % (5 : Int32)).toInt < 5 := by rw [h2]; omega
  generalize (x &&& (2147483647 : Int32)) % (5 : Int32) = t at *
  have key : ∀ n : Int32, t.toInt = n.toInt → t = n := fun n h => Int32.toInt_inj.mp h
  have e0 : (0 : Int32).toInt = 0 := by decide
  have e1 : (1 : Int32).toInt = 1 := by decide
  have e2 : (2 : Int32).toInt = 2 := by decide
  have e3 : (3 : Int32).toInt = 3 := by decide
  have e4 : (4 : Int32).toInt = 4 := by decide
  have q : t.toInt = (0 : Int32).toInt ∨ t.toInt = (1 : Int32).toInt ∨ t.toInt = (2 : Int32).toInt ∨ t.toInt = (3 : Int32).toInt ∨ t.toInt = (4 : Int32).toInt := by omega
  rcases q with h | h | h | h | h
  · exact Or.inl (key _ h)
  · exact Or.inr (Or.inl (key _ h))
  · exact Or.inr (Or.inr (Or.inl (key _ h)))
  · exact Or.inr (Or.inr (Or.inr (Or.inl (key _ h))))
  · exact Or.inr (Or.inr (Or.inr (Or.inr (key _ h))))
theorem own_law (l : Launch) (Z : State) (a0 : Array Value) (hw : ∀ d ∈ tables_1, d.before a0 Z = true) (ws : List Jvm.Cond) (p1 : Int32) (w_MSG : Addr) (w_RPY : Addr) (w_ERR : Addr) (w_ANS : Addr) (w_NUL : Addr) (h0 : Heap) (n0 : Nat) (Z0 : n0 ≤ h0.size) (S_MSG : Sta Z h0 "com/example/sudsline/sudsline/model/Keyword" "MSG" "Lcom/example/sudsline/sudsline/model/Keyword;" (.ref w_MSG)) (S_RPY : Sta Z h0 "com/example/sudsline/sudsline/model/Keyword" "RPY" "Lcom/example/sudsline/sudsline/model/Keyword;" (.ref w_RPY)) (S_ERR : Sta Z h0 "com/example/sudsline/sudsline/model/Keyword" "ERR" "Lcom/example/sudsline/sudsline/model/Keyword;" (.ref w_ERR)) (S_ANS : Sta Z h0 "com/example/sudsline/sudsline/model/Keyword" "ANS" "Lcom/example/sudsline/sudsline/model/Keyword;" (.ref w_ANS)) (S_NUL : Sta Z h0 "com/example/sudsline/sudsline/model/Keyword" "NUL" "Lcom/example/sudsline/sudsline/model/Keyword;" (.ref w_NUL)) (E_w_MSG : Exa Z h0 w_MSG "com/example/sudsline/sudsline/model/Keyword") (E_w_RPY : Exa Z h0 w_RPY "com/example/sudsline/sudsline/model/Keyword") (E_w_ERR : Exa Z h0 w_ERR "com/example/sudsline/sudsline/model/Keyword") (E_w_ANS : Exa Z h0 w_ANS "com/example/sudsline/sudsline/model/Keyword") (E_w_NUL : Exa Z h0 w_NUL "com/example/sudsline/sudsline/model/Keyword") (ne_RPY_MSG : ¬ (w_RPY = w_MSG)) (ne_ERR_MSG : ¬ (w_ERR = w_MSG)) (ne_ANS_MSG : ¬ (w_ANS = w_MSG)) (ne_NUL_MSG : ¬ (w_NUL = w_MSG)) (ne_RPY_ANS : ¬ (w_RPY = w_ANS)) (ne_ERR_ANS : ¬ (w_ERR = w_ANS)) (ne_NUL_ANS : ¬ (w_NUL = w_ANS)) : own_Met l Z x code maxLocals ret ws room_1 #[(.int p1)] h0 (fun v h L => v = some (.int 1) ∧ Fr n0 L) := by
  rcases own_mod p1 with hi | hi | hi | hi | hi
  · exact own_law0 l Z a0 hw ws p1 w_MSG w_RPY w_ERR w_ANS w_NUL h0 n0 Z0 S_MSG S_RPY S_ERR S_ANS S_NUL E_w_MSG E_w_RPY E_w_ERR E_w_ANS E_w_NUL ne_RPY_MSG ne_ERR_MSG ne_ANS_MSG ne_NUL_MSG ne_RPY_ANS ne_ERR_ANS ne_NUL_ANS hi
  · exact own_law1 l Z a0 hw ws p1 w_MSG w_RPY w_ERR w_ANS w_NUL h0 n0 Z0 S_MSG S_RPY S_ERR S_ANS S_NUL E_w_MSG E_w_RPY E_w_ERR E_w_ANS E_w_NUL ne_RPY_MSG ne_ERR_MSG ne_ANS_MSG ne_NUL_MSG ne_RPY_ANS ne_ERR_ANS ne_NUL_ANS hi
  · exact own_law2 l Z a0 hw ws p1 w_MSG w_RPY w_ERR w_ANS w_NUL h0 n0 Z0 S_MSG S_RPY S_ERR S_ANS S_NUL E_w_MSG E_w_RPY E_w_ERR E_w_ANS E_w_NUL ne_RPY_MSG ne_ERR_MSG ne_ANS_MSG ne_NUL_MSG ne_RPY_ANS ne_ERR_ANS ne_NUL_ANS hi
  · exact own_law3 l Z a0 hw ws p1 w_MSG w_RPY w_ERR w_ANS w_NUL h0 n0 Z0 S_MSG S_RPY S_ERR S_ANS S_NUL E_w_MSG E_w_RPY E_w_ERR E_w_ANS E_w_NUL ne_RPY_MSG ne_ERR_MSG ne_ANS_MSG ne_NUL_MSG ne_RPY_ANS ne_ERR_ANS ne_NUL_ANS hi
  · exact own_law4 l Z a0 hw ws p1 w_MSG w_RPY w_ERR w_ANS w_NUL h0 n0 Z0 S_MSG S_RPY S_ERR S_ANS S_NUL E_w_MSG E_w_RPY E_w_ERR E_w_ANS E_w_NUL ne_RPY_MSG ne_ERR_MSG ne_ANS_MSG ne_NUL_MSG ne_RPY_ANS ne_ERR_ANS ne_NUL_ANS hi
set_option maxRecDepth 65536 in
set_option maxHeartbeats 40000000 in
theorem comes_1 {Post : Tables → Env → Array Value → State → Outcome → State → Prop} (hpost : ∀ tb e args s v u, (limb_1_1.after args s (.returned v) u = true ∧ limb_1_2.after args s (.returned v) u = true ∧ True) → FrameEnd s (.returned v) u (Jvm.fieldLocs frame_1_writes args s ++ Jvm.arrayLocs frame_1_arrays args s ++ Jvm.staticLocs frame_1_statics s) 0 0 → Post tb e args s (.returned v) u) :
    ArmFor flags0 classFile x code maxLocals ret World_1 tables_1 room_1 Calls_1 rest_1 Pre_1 Post := by
  intro l hfl _ _ p e ha hc hk s m args below hf hA hF happ hP
  obtain ⟨hcalls, hrest, hpre⟩ := hP
  obtain ⟨-, -, -, hnamed, -, -, -, hat⟩ := (Spec.applies_iff hf).mp happ
  obtain ⟨hg, hn⟩ := and_e (Cond.before_iff.mp (show (Jvm.Cond.and given_1 narrow_1).before args s = true from hpre))
  obtain ⟨q1, q2⟩ := and_e hg
  obtain ⟨q3, q4⟩ := and_e hn
  obtain ⟨q5, q6⟩ := and_e q4
  obtain ⟨q7, q8⟩ := and_e q6
  obtain ⟨q9, q10⟩ := and_e q8
  obtain ⟨q11, q12⟩ := and_e q10
  obtain ⟨q13, q14⟩ := and_e q12
  obtain ⟨q15, q16⟩ := and_e q14
  obtain ⟨q17, q18⟩ := and_e q16
  obtain ⟨q19, q20⟩ := and_e q18
  obtain ⟨w0, rfl⟩ : ∃ w0 : Value, args = #[w0] := by
    have hs : args.size = 1 := by simpa [Cond.value, given_1] using q1
    obtain ⟨L⟩ := args
    match L, hs with
    | [w0], _ => exact ⟨w0, rfl⟩
  have hw := fun d (hd : d ∈ tables_1) => atoms_spec (ws := Jvm.Cond.code x code maxLocals ret :: tables_1) hat d (List.mem_cons_of_mem _ hd)
  have hfit : Fit s := fun {y c} hc i hi => by
    obtain ⟨ha, rfl⟩ := Array.getElem?_eq_some_iff.mp hc
    have q := List.all_eq_true.mp ((Array.all_eq_true_iff_forall_mem.mp hF) _ (Array.getElem_mem ha)) i (List.mem_range.mpr hi)
    simpa [Array.getElem?_eq_getElem hi] using q
  obtain ⟨i0, ei0⟩ := is_v q2
  obtain rfl : w0 = (.int i0) := Option.some.inj ei0
  obtain ⟨w_MSG, ev_MSG⟩ := exa_v q3
  have S_MSG : Sta s s.heap "com/example/sudsline/sudsline/model/Keyword" "MSG" "Lcom/example/sudsline/sudsline/model/Keyword;" (.ref w_MSG) := Sta.start ev_MSG (Or.inr ⟨(hw _ (List.mem_of_getElem? (i := 6) rfl)), (hw _ (List.mem_of_getElem? (i := 7) rfl))⟩)
  have E_w_MSG : Exa s s.heap w_MSG "com/example/sudsline/sudsline/model/Keyword" := Exa.start ev_MSG q3
  obtain ⟨w_ANS, ev_ANS⟩ := exa_v q5
  have S_ANS : Sta s s.heap "com/example/sudsline/sudsline/model/Keyword" "ANS" "Lcom/example/sudsline/sudsline/model/Keyword;" (.ref w_ANS) := Sta.start ev_ANS (Or.inr ⟨(hw _ (List.mem_of_getElem? (i := 6) rfl)), (hw _ (List.mem_of_getElem? (i := 20) rfl))⟩)
  have E_w_ANS : Exa s s.heap w_ANS "com/example/sudsline/sudsline/model/Keyword" := Exa.start ev_ANS q5
  obtain ⟨w_RPY, ev_RPY⟩ := exa_v q11
  have S_RPY : Sta s s.heap "com/example/sudsline/sudsline/model/Keyword" "RPY" "Lcom/example/sudsline/sudsline/model/Keyword;" (.ref w_RPY) := Sta.start ev_RPY (Or.inr ⟨(hw _ (List.mem_of_getElem? (i := 6) rfl)), (hw _ (List.mem_of_getElem? (i := 23) rfl))⟩)
  have E_w_RPY : Exa s s.heap w_RPY "com/example/sudsline/sudsline/model/Keyword" := Exa.start ev_RPY q11
  obtain ⟨w_NUL, ev_NUL⟩ := exa_v q15
  have S_NUL : Sta s s.heap "com/example/sudsline/sudsline/model/Keyword" "NUL" "Lcom/example/sudsline/sudsline/model/Keyword;" (.ref w_NUL) := Sta.start ev_NUL (Or.inr ⟨(hw _ (List.mem_of_getElem? (i := 6) rfl)), (hw _ (List.mem_of_getElem? (i := 25) rfl))⟩)
  have E_w_NUL : Exa s s.heap w_NUL "com/example/sudsline/sudsline/model/Keyword" := Exa.start ev_NUL q15
  obtain ⟨w_ERR, ev_ERR⟩ := exa_v q19
  have S_ERR : Sta s s.heap "com/example/sudsline/sudsline/model/Keyword" "ERR" "Lcom/example/sudsline/sudsline/model/Keyword;" (.ref w_ERR) := Sta.start ev_ERR (Or.inr ⟨(hw _ (List.mem_of_getElem? (i := 6) rfl)), (hw _ (List.mem_of_getElem? (i := 27) rfl))⟩)
  have E_w_ERR : Exa s s.heap w_ERR "com/example/sudsline/sudsline/model/Keyword" := Exa.start ev_ERR q19
  have F_w_ANS_ordinal : Fld s s.heap w_ANS "java/lang/Enum" "ordinal" "I" (.int (3 : Int32)) := own_fldI ev_ANS q7
  have F_w_MSG_ordinal : Fld s s.heap w_MSG "java/lang/Enum" "ordinal" "I" (.int (0 : Int32)) := own_fldI ev_MSG q9
  have F_w_RPY_ordinal : Fld s s.heap w_RPY "java/lang/Enum" "ordinal" "I" (.int (1 : Int32)) := own_fldI ev_RPY q13
  have F_w_NUL_ordinal : Fld s s.heap w_NUL "java/lang/Enum" "ordinal" "I" (.int (4 : Int32)) := own_fldI ev_NUL q17
  have F_w_ERR_ordinal : Fld s s.heap w_ERR "java/lang/Enum" "ordinal" "I" (.int (2 : Int32)) := own_fldI ev_ERR q20
  obtain ⟨n, o, h1, h2, h3, _, L, rfl, ⟨rfl, N⟩, hq⟩ := own_law l s _ hw tables_1 i0 w_MSG w_RPY w_ERR w_ANS w_NUL s.heap s.heap.size (Nat.le_refl _) S_MSG S_RPY S_ERR S_ANS S_NUL E_w_MSG E_w_RPY E_w_ERR E_w_ANS E_w_NUL (F_w_RPY_ordinal.ne F_w_MSG_ordinal (by decide)) (F_w_ERR_ordinal.ne F_w_MSG_ordinal (by decide)) (F_w_ANS_ordinal.ne F_w_MSG_ordinal (by decide)) (F_w_NUL_ordinal.ne F_w_MSG_ordinal (by decide)) (F_w_RPY_ordinal.ne F_w_ANS_ordinal (by decide)) (F_w_ERR_ordinal.ne F_w_ANS_ordinal (by decide)) (F_w_NUL_ordinal.ne F_w_ANS_ordinal (by decide)) p e ha hc hk s m _ below hf ((Spec.applies_iff_loose hf).mp happ).1 ⟨rfl, State.Warmed39.refl s, rfl⟩ trivial
  refine ⟨n, _, h1, h2, h3, hpost _ _ _ _ _ _ ⟨Cond.after_iff.mpr rfl, Cond.after_iff.mpr (eq_i res_at (Term.int_eval (1)) rfl), trivial⟩ ⟨hq.1, hq.2.1, (hq.2.2.sift fun y hy => Or.inr (N y hy)).mono (by decide) (by decide)⟩⟩
theorem main_1_1 : Claimed_1_1 := comes_1 fun _ _ _ _ _ _ h hF => ⟨h.1, hF⟩
theorem main_1_2 : Claimed_1_2 := comes_1 fun _ _ _ _ _ _ h hF => ⟨h.2.1, hF⟩
end Jvm.Pilot.@@N@@
namespace Jvm.Pilot.@@N@@
open Jvm Jvm.ClassFile Sem Op Lib Jvm.Free Jvm.Stand Jvm.Pilot.@@N@@.Jvm.D
/-! MADE BY PROGRAM (witnessworld.py) out of the Statement's table words and the real class files: 10 classes; the members and pool entries that the words name. The judged class is class 1, her method 1. -/
namespace start1
open Jvm.ClassFile
def u (s : String) : CpInfo := .utf8 (stringToUtf16 s)
/-- a pool by its gaps: so many unusable entries, then the entry; so many at the end -/
def gap : Nat → List CpInfo → List CpInfo
  | 0, r => r
  | n + 1, r => .unusable :: gap n r
def poolList (es : List (Nat × CpInfo)) (last : Nat) : List CpInfo := es.foldr (fun e r => gap e.1 (e.2 :: r)) (gap last [])
def pool (es : List (Nat × CpInfo)) (last : Nat) : Array CpInfo := ⟨poolList es last⟩
def fileOf (pool : Array CpInfo) (this : Nat) (attrs : Array Attribute := #[]) (ms : Array MethodInfo := #[]) (fl : Nat := 33) (sup : Nat := 0) (ifs : Array Nat := #[]) (fds : Array FieldInfo := #[]) : ClassFile where
  minorVersion := 0
  majorVersion := 65
  constantPool := pool
  accessFlags := fl
  thisClass := this
  superClass := sup
  interfaces := ifs
  fields := fds
  methods := ms
  attributes := attrs
def plain (name : String) (sup : Option ClassId) : Class where
  name := name
  kind := .ordinary
  loader := none
  accessFlags := 33
  super := sup
  interfaces := #[]
  cf := none
  fields := #[]
  methods := #[]
  instanceTypes := #[]
  staticTypes := #[]
  resolved := #[]
  callSites := []
  init := .initialized
  statics := none
  mirror := none

def pool0 : Array CpInfo := pool [(5, u "<init>"), (0, u "()V"), (1, .class_ 10), (1, u "java/lang/Object")] 113

def k0m0 : Method := { name := "<init>", desc := "()V", sig := { parameters := [], returnType := none }, accessFlags := 1, code := none }
/-- java/lang/Object -/
def k0 : Class := { plain "java/lang/Object" none with
  accessFlags := 33
  interfaces := #[]
  cf := some (fileOf pool0 8 #[] #[{ accessFlags := 1, nameIndex := 5, descriptorIndex := 6, attributes := #[] }] 33 0 #[] #[])
  fields := #[]
  methods := #[k0m0]
  instanceTypes := #[]
  staticTypes := #[]
  resolved := Array.replicate 124 none
  statics := none }

def pool1 : Array CpInfo := pool [(2, .class_ 4), (1, u "java/lang/Object"), (0, u "<init>"), (0, u "()V"), (0, .integer 2147483647), (0, .methodref 9 10), (0, .class_ 11), (0, .nameAndType 12 13), (0, u "com/example/sudsline/sudsline/model/KeywordEndsAnswerPinLaw"), (0, u "pick"), (0, u "(I)Lcom/example/sudsline/sudsline/model/Keyword;"), (0, .methodref 15 16), (0, .class_ 17), (0, .nameAndType 18 19), (0, u "com/example/sudsline/sudsline/model/Keyword"), (0, u "endsAnswer"), (0, u "()Z"), (0, .fieldref 15 21), (0, .nameAndType 22 23), (0, u "MSG"), (0, u "Lcom/example/sudsline/sudsline/model/Keyword;"), (0, .fieldref 15 25), (0, .nameAndType 26 23), (0, u "RPY"), (0, .fieldref 15 28), (0, .nameAndType 29 23), (0, u "ERR"), (0, .fieldref 15 31), (0, .nameAndType 32 23), (0, u "ANS"), (0, .fieldref 15 34), (0, .nameAndType 35 23), (0, u "NUL"), (2, u "law"), (0, u "(I)Z")] 3

def k1m0 : Method := { name := "<init>", desc := "()V", sig := { parameters := [], returnType := none }, accessFlags := 1, code := none }
def k1c1 : Code := { maxStack := 2, maxLocals := 4, code := code, exceptionTable := #[], attributes := #[] }
def k1m1 : Method := { name := "law", desc := "(I)Z", sig := { parameters := [.int], returnType := some .boolean }, accessFlags := 9, code := some k1c1 }
def k1c2 : Code := { maxStack := 2, maxLocals := 1, code := method_3_code, exceptionTable := #[], attributes := #[] }
def k1m2 : Method := { name := "pick", desc := "(I)Lcom/example/sudsline/sudsline/model/Keyword;", sig := { parameters := [.int], returnType := some (.object "com/example/sudsline/sudsline/model/Keyword") }, accessFlags := 10, code := some k1c2 }
/-- com/example/sudsline/sudsline/model/KeywordEndsAnswerPinLaw -/
def k1 : Class := { plain "com/example/sudsline/sudsline/model/KeywordEndsAnswerPinLaw" (some 0) with
  accessFlags := 49
  interfaces := #[]
  cf := some (fileOf pool1 9 #[] #[{ accessFlags := 1, nameIndex := 5, descriptorIndex := 6, attributes := #[] }, { accessFlags := 9, nameIndex := 38, descriptorIndex := 39, attributes := #[] }, { accessFlags := 10, nameIndex := 12, descriptorIndex := 13, attributes := #[] }] 49 2 #[] #[])
  fields := #[]
  methods := #[k1m0, k1m1, k1m2]
  instanceTypes := #[]
  staticTypes := #[]
  resolved := Array.replicate 43 none
  statics := none }

def pool2 : Array CpInfo := pool [(1, .class_ 2), (0, u "java/lang/constant/Constable"), (0, .class_ 4), (0, u "java/lang/Object")] 6

/-- java/lang/constant/Constable -/
def k2 : Class := { plain "java/lang/constant/Constable" (some 0) with
  accessFlags := 1537
  interfaces := #[]
  cf := some (fileOf pool2 1 #[] #[] 1537 3 #[] #[])
  fields := #[]
  methods := #[]
  instanceTypes := #[]
  staticTypes := #[]
  resolved := Array.replicate 11 none
  statics := none }

def pool3 : Array CpInfo := pool [(1, .class_ 2), (0, u "java/lang/Comparable"), (0, .class_ 4), (0, u "java/lang/Object")] 7

/-- java/lang/Comparable -/
def k3 : Class := { plain "java/lang/Comparable" (some 0) with
  accessFlags := 1537
  interfaces := #[]
  cf := some (fileOf pool3 1 #[] #[] 1537 3 #[] #[])
  fields := #[]
  methods := #[]
  instanceTypes := #[]
  staticTypes := #[]
  resolved := Array.replicate 12 none
  statics := none }

def pool4 : Array CpInfo := pool [(1, .class_ 2), (0, u "java/io/Serializable"), (0, .class_ 4), (0, u "java/lang/Object")] 2

/-- java/io/Serializable -/
def k4 : Class := { plain "java/io/Serializable" (some 0) with
  accessFlags := 1537
  interfaces := #[]
  cf := some (fileOf pool4 1 #[] #[] 1537 3 #[] #[])
  fields := #[]
  methods := #[]
  instanceTypes := #[]
  staticTypes := #[]
  resolved := Array.replicate 7 none
  statics := none }

def pool5 : Array CpInfo := pool [(2, .class_ 4), (1, u "java/lang/Enum"), (0, u "name"), (0, u "Ljava/lang/String;"), (2, u "ordinal"), (0, u "I"), (1, .class_ 14), (1, u "java/lang/Object"), (4, u "hash"), (86, .class_ 108), (1, u "java/lang/Enum$EnumDesc"), (2, .class_ 112), (0, u "java/lang/constant/Constable"), (0, .class_ 114), (0, u "java/lang/Comparable"), (0, .class_ 116), (0, u "java/io/Serializable")] 87

/-- java/lang/Enum -/
def k5 : Class := { plain "java/lang/Enum" (some 0) with
  accessFlags := 1057
  interfaces := #[2, 3, 4]
  cf := some (fileOf pool5 2 #[.nestMembers #[106]] #[] 1057 12 #[111, 113, 115] #[{ accessFlags := 18, nameIndex := 5, descriptorIndex := 6, attributes := #[] }, { accessFlags := 18, nameIndex := 9, descriptorIndex := 10, attributes := #[] }, { accessFlags := 2, nameIndex := 19, descriptorIndex := 10, attributes := #[] }])
  fields := #[{ name := "name", type := (.object "java/lang/String"), accessFlags := 18, slot := 0, constantValue := 0 }, { name := "ordinal", type := .int, accessFlags := 18, slot := 1, constantValue := 0 }, { name := "hash", type := .int, accessFlags := 2, slot := 2, constantValue := 0 }]
  methods := #[]
  instanceTypes := #[(.object "java/lang/String"), .int, .int]
  staticTypes := #[]
  resolved := Array.replicate 204 none
  statics := none }

def pool6 : Array CpInfo := pool [(1, .class_ 2), (0, u "com/example/sudsline/sudsline/model/Keyword"), (0, .fieldref 1 4), (0, .nameAndType 5 6), (0, u "MSG"), (0, u "Lcom/example/sudsline/sudsline/model/Keyword;"), (2, u "RPY"), (2, u "ERR"), (0, .fieldref 1 14), (0, .nameAndType 15 6), (0, u "ANS"), (2, u "NUL"), (2, u "$VALUES"), (0, u "[Lcom/example/sudsline/sudsline/model/Keyword;"), (6, .class_ 31), (1, u "java/lang/Enum"), (6, .methodref 1 39), (0, .nameAndType 40 41), (0, u "isReply"), (0, u "()Z"), (18, u "endsAnswer")] 4

def k6c0 : Code := { maxStack := 2, maxLocals := 1, code := prog_23_method_4_code, exceptionTable := #[], attributes := #[] }
def k6m0 : Method := { name := "isReply", desc := "()Z", sig := { parameters := [], returnType := some .boolean }, accessFlags := 1, code := some k6c0 }
def k6c1 : Code := { maxStack := 2, maxLocals := 1, code := prog_23_method_5_code, exceptionTable := #[], attributes := #[] }
def k6m1 : Method := { name := "endsAnswer", desc := "()Z", sig := { parameters := [], returnType := some .boolean }, accessFlags := 1, code := some k6c1 }
/-- com/example/sudsline/sudsline/model/Keyword -/
def k6 : Class := { plain "com/example/sudsline/sudsline/model/Keyword" (some 5) with
  accessFlags := 16433
  interfaces := #[]
  cf := some (fileOf pool6 1 #[] #[{ accessFlags := 1, nameIndex := 40, descriptorIndex := 41, attributes := #[] }, { accessFlags := 1, nameIndex := 60, descriptorIndex := 41, attributes := #[] }] 16433 29 #[] #[{ accessFlags := 16409, nameIndex := 5, descriptorIndex := 6, attributes := #[] }, { accessFlags := 16409, nameIndex := 9, descriptorIndex := 6, attributes := #[] }, { accessFlags := 16409, nameIndex := 12, descriptorIndex := 6, attributes := #[] }, { accessFlags := 16409, nameIndex := 15, descriptorIndex := 6, attributes := #[] }, { accessFlags := 16409, nameIndex := 18, descriptorIndex := 6, attributes := #[] }, { accessFlags := 4122, nameIndex := 21, descriptorIndex := 22, attributes := #[] }])
  fields := #[{ name := "MSG", type := (.object "com/example/sudsline/sudsline/model/Keyword"), accessFlags := 16409, slot := 0, constantValue := 0 }, { name := "RPY", type := (.object "com/example/sudsline/sudsline/model/Keyword"), accessFlags := 16409, slot := 1, constantValue := 0 }, { name := "ERR", type := (.object "com/example/sudsline/sudsline/model/Keyword"), accessFlags := 16409, slot := 2, constantValue := 0 }, { name := "ANS", type := (.object "com/example/sudsline/sudsline/model/Keyword"), accessFlags := 16409, slot := 3, constantValue := 0 }, { name := "NUL", type := (.object "com/example/sudsline/sudsline/model/Keyword"), accessFlags := 16409, slot := 4, constantValue := 0 }, { name := "$VALUES", type := (.array (.object "com/example/sudsline/sudsline/model/Keyword")), accessFlags := 4122, slot := 5, constantValue := 0 }]
  methods := #[k6m0, k6m1]
  instanceTypes := #[(.object "java/lang/String"), .int, .int]
  staticTypes := #[(.object "com/example/sudsline/sudsline/model/Keyword"), (.object "com/example/sudsline/sudsline/model/Keyword"), (.object "com/example/sudsline/sudsline/model/Keyword"), (.object "com/example/sudsline/sudsline/model/Keyword"), (.object "com/example/sudsline/sudsline/model/Keyword"), (.array (.object "com/example/sudsline/sudsline/model/Keyword"))]
  resolved := Array.replicate 65 none
  statics := some 0 }

def pool7 : Array CpInfo := pool [(1, u "java/lang/Cloneable"), (0, .class_ 1), (0, u "java/lang/Object"), (0, .class_ 3)] 3

/-- java/lang/Cloneable -/
def k7 : Class := { plain "java/lang/Cloneable" (some 0) with
  accessFlags := 1537
  interfaces := #[]
  cf := some (fileOf pool7 2 #[] #[] 1537 4 #[] #[])
  fields := #[]
  methods := #[]
  instanceTypes := #[]
  staticTypes := #[]
  resolved := Array.replicate 8 none
  statics := none }

/-- the primitive byte -/
def k8 : Class := { plain "byte" none with kind := .primitive 'B', accessFlags := 0x411 }
/-- [B -/
def k9 : Class := { plain "[B" (some 0) with kind := .array 8 .byte, interfaces := #[7, 4], accessFlags := 1041 }

def heap : Heap := #[{ cls := 6, slots := #[.ref 1, .ref 2, .ref 3, .ref 4, .ref 5, .null], vm := .statics 6 },
  { cls := 6, slots := #[.null, .int 0, .int 0], vm := .none },
  { cls := 6, slots := #[.null, .int 1, .int 0], vm := .none },
  { cls := 6, slots := #[.null, .int 2, .int 0], vm := .none },
  { cls := 6, slots := #[.null, .int 3, .int 0], vm := .none },
  { cls := 6, slots := #[.null, .int 4, .int 0], vm := .none }]
def classes : Array Class := #[k0, k1, k2, k3, k4, k5, k6, k7, k8, k9]
def interned : List (Array UInt16 × Addr) := []
def slotsUsed : Nat := 21
def theMethod : MethodId := ⟨1, 1⟩
def args0 : Array Value := #[.int 5]
def aboutOver (below : List Frame) : State where
  vm := { classes := classes, interned := interned.toArray }
  heap := heap
  slotsUsed := slotsUsed
  threads := #[{ frames := .invoking theMethod args0 :: below }]
def below0 : List Frame := [.native { method := ⟨0, 0⟩, args := #[] }]
def about1 : State := aboutOver below0
def p0 : Program := .bare "" "" ""
def e0 : Env := launch0.env 0 0 0
theorem w_frames : about1.frames = Frame.invoking theMethod args0 :: below0 := rfl
set_option maxRecDepth 65536 in
theorem w_args : argsFit about1.vm theMethod args0 = true := by decide +kernel
set_option maxRecDepth 65536 in
theorem w_heap : heapFits about1 = true := by decide +kernel
set_option maxRecDepth 65536 in
theorem w_runnable : about1.curStatus? = some .runnable := by decide +kernel
set_option maxRecDepth 65536 in
theorem w_alone : about1.alone = true := by decide +kernel
set_option maxRecDepth 65536 in
theorem w_named : about1.methodNamed? x = some theMethod := by decide +kernel
set_option maxRecDepth 65536 in
theorem w_hears : about1.hears theMethod below0 = true := by decide +kernel
set_option maxRecDepth 65536 in
theorem w_ripe : about1.ripe theMethod args0 below0 = true := by decide +kernel
theorem w_running : about1.status = .running := rfl
set_option maxRecDepth 65536 in
theorem w_room : about1.hasRoom e0.platform room_1 = true :=
  launch0.hasRoom_least _ room_1 (by decide +kernel) (by decide +kernel) (by decide +kernel) (by decide +kernel) (by decide +kernel) (by decide +kernel)
theorem allAtoms_all (ts : List Jvm.Cond) (a : Array Jvm.Value) (st : Jvm.State) : (allAtoms ts).before a st = ts.all (fun c => c.before a st) := by
  induction ts with
  | nil => rfl
  | cons c t ih =>
    show (Jvm.Cond.and c (allAtoms t)).before a st = _
    rw [Jvm.Cond.before_and, ih, List.all_cons]
def words1 : List Jvm.Cond := Jvm.Cond.code x code maxLocals ret :: tables_1
/-- a 'code' word, met by the world's own term for the bytes: nothing is compared byte by byte -/
theorem code_word {y : MethodName} {bytes : ByteArray} {mx : Nat} {rt : Option FieldType} {a : Array Value} {s : State} {m : MethodId} {meth : Method} {c : Code} (h1 : s.methodNamed? y = some m) (h2 : s.vm.method? m = some meth) (h3 : meth.code = some c) (h4 : c.code = bytes)
    (h5 : (c.maxLocals == mx && c.exceptionTable.isEmpty && decide (c.maxStack ≤ mostOperands) && decide (meth.sig.returnType = rt) && !meth.locks && decide (parseMethodDescriptor y.desc = some meth.sig)) = true) : (Jvm.Cond.code y bytes mx rt).before a s = true := by
  simp only [Bool.and_eq_true, beq_iff_eq, Bool.not_eq_true', decide_eq_true_eq] at h5
  obtain ⟨⟨⟨⟨⟨g1, g2⟩, g3⟩, g4⟩, g5⟩, g6⟩ := h5
  simp [Cond.before, Cond.holds, Cond.value, h1, h2, h3, h4, g1, g2, g3, g4, g5, g6]
def isCode : Jvm.Cond → Bool
  | .code _ _ _ _ => true
  | _ => false
theorem all_split {L : List Jvm.Cond} {P : Jvm.Cond → Bool} (h1 : L.all (fun c => isCode c || P c) = true) (h2 : ∀ c ∈ L.filter isCode, P c = true) : L.all P = true := by
  refine List.all_eq_true.mpr fun c hc => ?_
  have h := List.all_eq_true.mp h1 c hc
  rcases Bool.eq_false_or_eq_true (isCode c) with hi | hi
  · exact h2 c (List.mem_filter.mpr ⟨hc, hi⟩)
  · simpa [hi] using h
set_option maxRecDepth 65536 in
theorem w_c0 : (Jvm.Cond.code x code maxLocals ret).before args0 about1 = true := code_word (m := ⟨1, 1⟩) (meth := k1m1) (c := k1c1) (by decide +kernel) rfl rfl rfl (by decide +kernel)
set_option maxRecDepth 65536 in
theorem w_c1 : (Jvm.Cond.code ({ cls := "com/example/sudsline/sudsline/model/KeywordEndsAnswerPinLaw", name := "pick", desc := "(I)Lcom/example/sudsline/sudsline/model/Keyword;" } : Jvm.MethodName) method_3_code (1 : Nat) (Option.some (Jvm.ClassFile.FieldType.object "com/example/sudsline/sudsline/model/Keyword"))).before args0 about1 = true := code_word (m := ⟨1, 2⟩) (meth := k1m2) (c := k1c2) (by decide +kernel) rfl rfl rfl (by decide +kernel)
set_option maxRecDepth 65536 in
theorem w_c2 : (Jvm.Cond.code ({ cls := "com/example/sudsline/sudsline/model/Keyword", name := "endsAnswer", desc := "()Z" } : Jvm.MethodName) prog_23_method_5_code (1 : Nat) (Option.some Jvm.ClassFile.FieldType.boolean)).before args0 about1 = true := code_word (m := ⟨6, 1⟩) (meth := k6m1) (c := k6c1) (by decide +kernel) rfl rfl rfl (by decide +kernel)
set_option maxRecDepth 65536 in
theorem w_c3 : (Jvm.Cond.code ({ cls := "com/example/sudsline/sudsline/model/Keyword", name := "isReply", desc := "()Z" } : Jvm.MethodName) prog_23_method_4_code (1 : Nat) (Option.some Jvm.ClassFile.FieldType.boolean)).before args0 about1 = true := code_word (m := ⟨6, 0⟩) (meth := k6m0) (c := k6c0) (by decide +kernel) rfl rfl rfl (by decide +kernel)
def codes1 : List Jvm.Cond := [Jvm.Cond.code x code maxLocals ret, Jvm.Cond.code ({ cls := "com/example/sudsline/sudsline/model/KeywordEndsAnswerPinLaw", name := "pick", desc := "(I)Lcom/example/sudsline/sudsline/model/Keyword;" } : Jvm.MethodName) method_3_code (1 : Nat) (Option.some (Jvm.ClassFile.FieldType.object "com/example/sudsline/sudsline/model/Keyword")), Jvm.Cond.code ({ cls := "com/example/sudsline/sudsline/model/Keyword", name := "endsAnswer", desc := "()Z" } : Jvm.MethodName) prog_23_method_5_code (1 : Nat) (Option.some Jvm.ClassFile.FieldType.boolean), Jvm.Cond.code ({ cls := "com/example/sudsline/sudsline/model/Keyword", name := "isReply", desc := "()Z" } : Jvm.MethodName) prog_23_method_4_code (1 : Nat) (Option.some Jvm.ClassFile.FieldType.boolean)]
set_option maxRecDepth 65536 in
theorem codes_eq : words1.filter isCode = codes1 := rfl
theorem w_codes : ∀ c ∈ words1.filter isCode, c.before args0 about1 = true := by
  rw [codes_eq]
  intro c hc
  simp only [codes1, List.mem_cons, List.not_mem_nil, or_false] at hc
  rcases hc with rfl | rfl | rfl | rfl
  · exact w_c0
  · exact w_c1
  · exact w_c2
  · exact w_c3
set_option maxRecDepth 65536 in
theorem w_t1 : (words1.take 24).all (fun c => isCode c || c.before args0 about1) = true := by decide +kernel
set_option maxRecDepth 65536 in
theorem w_t2 : (words1.drop 24).all (fun c => isCode c || c.before args0 about1) = true := by decide +kernel
theorem w_tables : (allAtoms (Jvm.Cond.code x code maxLocals ret :: tables_1)).before args0 about1 = true := by
  rw [allAtoms_all]
  show words1.all (fun c => c.before args0 about1) = true
  refine all_split ?_ w_codes
  rw [← List.take_append_drop 24 words1, List.all_append, w_t1, w_t2]
  rfl
set_option maxRecDepth 65536 in
theorem w_case : (Jvm.Cond.and given_1 narrow_1).before args0 about1 = true := by decide +kernel
theorem w_applies : (headSpec (Jvm.Cond.code x code maxLocals ret :: tables_1) room_1).applies x e0.platform about1 = true :=
  (Spec.applies_iff w_frames).mpr ⟨w_running, w_runnable, w_alone, w_named, w_hears, w_ripe, w_room, w_tables⟩
theorem atStart : AtStart classFile x code maxLocals ret World_1 tables_1 room_1 Calls_1 rest_1 Pre_1 launch0 p0 e0 about1 theMethod args0 below0 :=
  ⟨lists_1, trivial, launch0.admits_env _ _ _, launch0.least_env, fairChoices_fair.cas, fairChoices_fair.clock, w_frames, w_args, w_heap, w_applies, trivial, trivial, w_case⟩
end start1
theorem witness_1 : WitnessClaimed_1 := ⟨start1.p0, start1.e0, start1.about1, start1.theMethod, start1.args0, start1.below0, start1.atStart⟩
end Jvm.Pilot.@@N@@
