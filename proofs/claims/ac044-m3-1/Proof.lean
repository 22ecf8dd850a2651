import JvmDerived
import JvmDerived.Pilot.@@N@@Statement
import JvmDerived.Pilot.@@N@@Code
set_option linter.unusedVariables false
set_option linter.unusedSimpArgs false
namespace Jvm.Pilot.@@N@@
open Jvm Jvm.ClassFile Sem Op Lib Jvm.Free Jvm.Stand Jvm.LawKit Jvm.RoadKit Bundle Jvm.Pilot.@@N@@.Jvm.D
/-! own kit: a walk told forwards -/
section OwnKit
variable {p : Program} {l : Launch} {e : Env} {R : Room} {s : State} {m : MethodId} {args : Array Value} {below : List Frame} {meth : Method} {c : Code} {T : State} {locs : List Loc} {cells slots : Nat} {Z : State} {a0 : Array Value} {h : Heap}
/-- from here the run comes to an end of which K speaks -/
def own_Goes (p : Program) (e : Env) (below : List Frame) (K : Outcome → State → Prop) (T : State) (g : JFrame) : Prop :=
  ∃ s₂ o, Steps p.tables e below (T.setTop g) s₂ ∧ s₂.status = .running ∧ Ended s₂ below o ∧ K o s₂
theorem own_step {K : Outcome → State → Prop} {T' : State} {g g' : JFrame} (st : ∀ t, Steps p.tables e below (T'.setTop g') t → Steps p.tables e below (T.setTop g) t) (hg : own_Goes p e below K T' g') : own_Goes p e below K T g := by
  obtain ⟨s2, o, a, b⟩ := hg
  exact ⟨s2, o, st _ a, b⟩
theorem own_castG {K : Outcome → State → Prop} {g g' : JFrame} (q : g = g') (hg : own_Goes p e below K T g') : own_Goes p e below K T g := q ▸ hg
def own_K (s : State) (Q : Option Value → Heap → List Loc → Prop) (rc rs : Nat) : Outcome → State → Prop := fun o u => ∃ v L, o = .returned v ∧ Q v u.heap L ∧ FrameEnd s o u L rc rs
def own_Met (l : Launch) (Z : State) (y : MethodName) (bytes : ByteArray) (maxL : Nat) (ret : Option FieldType) (ws : List Jvm.Cond) (rm : Room) (as' : Array Value) (h0 : Heap) (Q : Option Value → Heap → List Loc → Prop) : Prop :=
  MetFree l y (head1 (Jvm.Cond.code y bytes maxL ret :: ws) rm) (fun a U => a = as' ∧ Z.Warmed39 U.vm ∧ U.heap = h0) (fun _ _ _ _ _ => True) (fun _ U o U' => ∃ v L, o = .returned v ∧ Q v U'.heap L ∧ FrameEnd U o U' L rm.cells rm.slots)
theorem own_body {y : MethodName} {bytes : ByteArray} {maxL : Nat} {ret : Option FieldType} {ws : List Jvm.Cond} {rm : Room} {as' : Array Value} {h0 : Heap} {Q : Option Value → Heap → List Loc → Prop} (hp : plainFor y = true)
    (body : ∀ (p : Program) (e : Env) (s : State) (m : MethodId) (below : List Frame) (meth : Method) (c : Code) (s₁ : State), p.tables.exec = Jvm.exec → c.code = bytes → c.maxLocals = maxL → meth.sig.returnType = ret → meth.locks = false → s.vm.findClass y.cls = some m.cls → meth.name = y.name → Z.Warmed39 s.vm →
      Stand p l e rm s m as' below meth c s₁ [] 0 0 → s₁.heap = h0 → own_Goes p e below (own_K s Q rm.cells rm.slots) s₁ (entryFrame m as' maxL)) : own_Met l Z y bytes maxL ret ws rm as' h0 Q := by
  refine MetFree.of_bodySF hp hisR ?_
  intro p e s m args below meth c s₁ Bd hml0 hP hK
  obtain ⟨rfl, hZ, hh⟩ := hP
  exact body p e s m below meth c s₁ Bd.exec Bd.bytes hml0 Bd.returns (BodyLoose.notSynchronized Bd) (findClass_of_methodNamed Bd.named) (name_of_methodNamed Bd.named Bd.method).1 hZ (Stand.of_body Bd) (by rw [← hh, Bd.state]; rfl)
theorem own_out (X : Stand p l e R s m args below meth c T locs cells slots) (hlk : meth.locks = false) {v : Option Value} (hv : meth.sig.returnType = none → v = none) {Q : Option Value → Heap → List Loc → Prop} {rc rs : Nat} {g : JFrame}
    (st : ∀ fs, (∀ (f : JFrame) (acts : List Action), f.method = m → f.locked = none → f.entered = [] → (doReturn e (T.setTop f) acts v).1 = T.setFrames fs) → Steps p.tables e below (T.setTop g) (T.setFrames fs))
    (hQ : Q v T.heap locs) (hc : cells ≤ rc) (hs : slots ≤ rs) : own_Goes p e below (own_K s Q rc rs) T g := by
  obtain ⟨fs, hr, hrun, hended, hW, hsame⟩ := X.leave (v := v) hv hlk
  exact ⟨_, _, st fs hr, hrun, hended, v, locs, rfl, hQ, ⟨_, rfl⟩, hW, hsame.mono hc hs⟩
theorem own_retN (X : Stand p l e R s m args below meth c T locs cells slots) (hx : p.tables.exec = Jvm.exec) (hlk : meth.locks = false) {pc : Nat} {Ls : Array Slot} {z : Int32} {t : FieldType} {rest : List Value} (hret : meth.sig.returnType = some t) (ht : t = .boolean ∨ t = .byte ∨ t = .char ∨ t = .short)
    (hd : decode c.code pc = .ok (.ireturn, 1)) {Q : Option Value → Heap → List Loc → Prop} {rc rs : Nat} (hQ : Q (some (.int (nar t z))) T.heap locs) (hc : cells ≤ rc) (hs : slots ≤ rs) : own_Goes p e below (own_K s Q rc rs) T (mkF m pc Ls (.int z :: rest)) :=
  own_out X hlk (fun q => by rw [hret] at q; cases q) (fun fs hr => retN X hx hret ht hd hr) hQ hc hs
theorem own_retI (X : Stand p l e R s m args below meth c T locs cells slots) (hx : p.tables.exec = Jvm.exec) (hlk : meth.locks = false) {pc : Nat} {Ls : Array Slot} {z : Int32} {rest : List Value} (hret : meth.sig.returnType = some .int)
    (hd : decode c.code pc = .ok (.ireturn, 1)) {Q : Option Value → Heap → List Loc → Prop} {rc rs : Nat} (hQ : Q (some (.int z)) T.heap locs) (hc : cells ≤ rc) (hs : slots ≤ rs) : own_Goes p e below (own_K s Q rc rs) T (mkF m pc Ls (.int z :: rest)) :=
  own_out X hlk (fun q => by rw [hret] at q; cases q) (fun fs hr => retOut X hx hret rfl (Or.inl ⟨rfl, Or.inl rfl, z, rfl⟩) hd hr) hQ hc hs
theorem own_retL (X : Stand p l e R s m args below meth c T locs cells slots) (hx : p.tables.exec = Jvm.exec) (hlk : meth.locks = false) {pc : Nat} {Ls : Array Slot} {z : Int64} {rest : List Value} (hret : meth.sig.returnType = some .long)
    (hd : decode c.code pc = .ok (.lreturn, 1)) {Q : Option Value → Heap → List Loc → Prop} {rc rs : Nat} (hQ : Q (some (.long z)) T.heap locs) (hc : cells ≤ rc) (hs : slots ≤ rs) : own_Goes p e below (own_K s Q rc rs) T (mkF m pc Ls (.long z :: rest)) :=
  own_out X hlk (fun q => by rw [hret] at q; cases q) (fun fs hr => retOut X hx hret rfl (Or.inr (Or.inl ⟨rfl, rfl, z, rfl⟩)) hd hr) hQ hc hs
theorem own_retA (X : Stand p l e R s m args below meth c T locs cells slots) (hx : p.tables.exec = Jvm.exec) (hlk : meth.locks = false) {pc : Nat} {Ls : Array Slot} {w : Value} {t : FieldType} {rest : List Value} (hret : meth.sig.returnType = some t) (hn : narrow t w = w) (ht : t.isReference = true) (hw : w.isRef = true)
    (hd : decode c.code pc = .ok (.areturn, 1)) {Q : Option Value → Heap → List Loc → Prop} {rc rs : Nat} (hQ : Q (some w) T.heap locs) (hc : cells ≤ rc) (hs : slots ≤ rs) : own_Goes p e below (own_K s Q rc rs) T (mkF m pc Ls (w :: rest)) :=
  own_out X hlk (fun q => by rw [hret] at q; cases q) (fun fs hr => retOut X hx hret hn (Or.inr (Or.inr (Or.inr (Or.inr ⟨rfl, ht, hw⟩)))) hd hr) hQ hc hs
theorem own_retV (X : Stand p l e R s m args below meth c T locs cells slots) (hx : p.tables.exec = Jvm.exec) (hlk : meth.locks = false) {pc : Nat} {Ls : Array Slot} (hret : meth.sig.returnType = none)
    (hd : decode c.code pc = .ok (.return_, 1)) {Q : Option Value → Heap → List Loc → Prop} {rc rs : Nat} (hQ : Q none T.heap locs) (hc : cells ≤ rc) (hs : slots ≤ rs) : own_Goes p e below (own_K s Q rc rs) T (mkF m pc Ls []) :=
  own_out X hlk (fun _ => rfl) (fun fs hr => X.returnOut hx hret hd hr) hQ hc hs
theorem own_callS (X : Stand p l e R s m args below meth c T locs cells slots) (hx : p.tables.exec = Jvm.exec) (hZ : Z.Warmed39 s.vm) {own : String} {index : Nat} {y : MethodName} {bytes : ByteArray} {maxL : Nat} {ret : Option FieldType} (hown : s.vm.findClass own = some m.cls)
    (w1 : (Jvm.Cond.methodLink own index y).before a0 Z = true) (w2 : (Jvm.Cond.static y).before a0 Z = true) (w3 : (Jvm.Cond.initialized y.cls).before a0 Z = true) (w4 : (Jvm.Cond.code y bytes maxL ret).before a0 Z = true) (hy : y.cls ≠ "java/lang/invoke/MethodHandle" ∧ y.cls ≠ "java/lang/invoke/VarHandle")
    {rm : Room} (W : Nat) (argsL rest : List Value) {Q : Option Value → Heap → List Loc → Prop} (hM : own_Met l Z y bytes maxL ret [] rm argsL.toArray h Q) (eT : T.heap = h)
    (hf : rm.frames + 1 ≤ R.frames) (hl : W + (maxL + 11) + rm.locals ≤ R.locals) (hc : cells + rm.cells ≤ R.cells) (hs : slots + rm.slots ≤ R.slots)
    {g : JFrame} (hg : g.method = m) (hsize : g.locals.size = c.maxLocals) {ps : List FieldType} {r : Option FieldType} (hpd : parseMethodDescriptor y.desc = some ⟨ps, r⟩) (hlen : argsL.length = ps.length)
    (hstack : g.stack = argsL.reverse ++ rest) (hW : 2 * g.monitorRoom + (rest.map fun v => v.category).sum ≤ W) (hd : decode c.code g.pc = .ok (.invokestatic index, 3))
    {K : Outcome → State → Prop} (go : ∀ T' v L, Stand p l e R s m args below meth c T' (locs ++ L) (cells + rm.cells) (slots + rm.slots) → Q v T'.heap L → own_Goes p e below K T' { g with pc := g.pc + 3, stack := v.toList ++ rest }) : own_Goes p e below K T g := by
  obtain ⟨v, _, ⟨T', L', k', n'⟩, -, X', ⟨Lc, hQ, l1, y1, z1⟩, st⟩ := Jvm.LawKit.callS X hx (y := y) hown (mvT hZ w1) (mvT hZ w2) (mvT hZ w3) (mvT hZ w4) hy (backOf (W := W) hM hZ w4 w3 hf hl) hg hsize (lenOf hpd hlen) hstack hW hd (fun _ _ => ⟨rfl, eT, hc, hs⟩)
  dsimp only [Pt.U, Pt.locs, Pt.cells, Pt.slots] at X' l1 y1 z1 st hQ
  subst l1 y1 z1
  exact own_step st (go _ _ _ X' hQ)
theorem own_callV (X : Stand p l e R s m args below meth c T locs cells slots) (hx : p.tables.exec = Jvm.exec) (hZ : Z.Warmed39 s.vm) {own C : String} {index : Nat} {y z : MethodName} {bytes : ByteArray} {maxL : Nat} {ret : Option FieldType} (hown : s.vm.findClass own = some m.cls)
    (w1 : (Jvm.Cond.methodLink own index y).before a0 Z = true) (w2 : (Jvm.Cond.declares y).before a0 Z = true) (nf : NotFace s y) (w3 : (Jvm.Cond.selects C y z).before a0 Z = true) (w4 : (Jvm.Cond.instanceMethod z).before a0 Z = true) (w5 : (Jvm.Cond.code z bytes maxL ret).before a0 Z = true) (w6 : (Jvm.Cond.initialized z.cls).before a0 Z = true)
    (hy : y.cls ≠ "java/lang/invoke/MethodHandle" ∧ y.cls ≠ "java/lang/invoke/VarHandle")
    {rm : Room} (W : Nat) {a : Addr} (E : Exa Z h a C) (argsL rest : List Value) {Q : Option Value → Heap → List Loc → Prop} (hM : own_Met l Z z bytes maxL ret [] rm (.ref a :: argsL).toArray h Q) (eT : T.heap = h)
    (hf : rm.frames + 1 ≤ R.frames) (hl : W + (maxL + 11) + rm.locals ≤ R.locals) (hc : cells + rm.cells ≤ R.cells) (hs : slots + rm.slots ≤ R.slots)
    {g : JFrame} (hg : g.method = m) (hsize : g.locals.size = c.maxLocals) {ps : List FieldType} {r : Option FieldType} (hpd : parseMethodDescriptor y.desc = some ⟨ps, r⟩) (hlen : argsL.length = ps.length)
    (hstack : g.stack = argsL.reverse ++ .ref a :: rest) (hW : 2 * g.monitorRoom + (rest.map fun v => v.category).sum ≤ W) (hd : decode c.code g.pc = .ok (.invokevirtual index, 3))
    {K : Outcome → State → Prop} (go : ∀ T' v L, Stand p l e R s m args below meth c T' (locs ++ L) (cells + rm.cells) (slots + rm.slots) → Q v T'.heap L → own_Goes p e below K T' { g with pc := g.pc + 3, stack := v.toList ++ rest }) : own_Goes p e below K T g := by
  obtain ⟨cq, kq, qa, qb, qc⟩ := isOf hZ eT E
  obtain ⟨v, _, ⟨T', L', k', n'⟩, -, X', ⟨Lc, hQ, l1, y1, z1⟩, st⟩ := X.virtualBack hx (y := y) (z := z) hown (mvT hZ w1) (mvT hZ w2) nf (mvT hZ w3) (mvT hZ w4) hy (backOf (W := W) hM hZ w5 w6 hf hl) qa qc hg hsize (Steps.refl _) (lenOf hpd hlen) hstack hW hd (fun _ _ => ⟨rfl, eT, hc, hs⟩)
  dsimp only [Pt.U, Pt.locs, Pt.cells, Pt.slots] at X' l1 y1 z1 st hQ
  subst l1 y1 z1
  exact own_step (fun t k => st.trans k) (go _ _ _ X' hQ)
theorem own_callC (X : Stand p l e R s m args below meth c T locs cells slots) (hx : p.tables.exec = Jvm.exec) (hZ : Z.Warmed39 s.vm) {own : String} {index : Nat} {y : MethodName} {bytes : ByteArray} {maxL : Nat} (hy1 : y.name = "<init>") (hown : s.vm.findClass own = some m.cls)
    (w1 : (Jvm.Cond.methodLink own index y).before a0 Z = true) (w2 : (Jvm.Cond.instanceMethod y).before a0 Z = true) (w3 : (Jvm.Cond.code y bytes maxL none).before a0 Z = true) (w4 : (Jvm.Cond.initialized y.cls).before a0 Z = true)
    (hy : y.cls ≠ "java/lang/invoke/MethodHandle" ∧ y.cls ≠ "java/lang/invoke/VarHandle")
    {rm : Room} (W : Nat) {a : Addr} (argsL rest : List Value) {Q : Option Value → Heap → List Loc → Prop} (hM : own_Met l Z y bytes maxL none [] rm (.ref a :: argsL).toArray h Q) (eT : T.heap = h)
    (hf : rm.frames + 1 ≤ R.frames) (hl : W + (maxL + 11) + rm.locals ≤ R.locals) (hc : cells + rm.cells ≤ R.cells) (hs : slots + rm.slots ≤ R.slots)
    {g : JFrame} (hg : g.method = m) (hsize : g.locals.size = c.maxLocals) {ps : List FieldType} {r : Option FieldType} (hpd : parseMethodDescriptor y.desc = some ⟨ps, r⟩) (hlen : argsL.length = ps.length)
    (hstack : g.stack = argsL.reverse ++ .ref a :: rest) (hW : 2 * g.monitorRoom + (rest.map fun v => v.category).sum ≤ W) (hd : decode c.code g.pc = .ok (.invokespecial index, 3))
    {K : Outcome → State → Prop} (go : ∀ T' v L, Stand p l e R s m args below meth c T' (locs ++ L) (cells + rm.cells) (slots + rm.slots) → Q v T'.heap L → own_Goes p e below K T' { g with pc := g.pc + 3, stack := v.toList ++ rest }) : own_Goes p e below K T g := by
  obtain ⟨v, _, ⟨T', L', k', n'⟩, -, X', ⟨Lc, hQ, l1, y1, z1⟩, st⟩ := X.specialBack hx (y := y) hy1 hown (mvT hZ w1) (mvT hZ w2) (mvT hZ w3) hy (backOf (W := W) hM hZ w3 w4 hf hl) hg hsize (Steps.refl _) (a := a) (lenOf hpd hlen) hstack hW hd (fun _ _ => ⟨rfl, eT, hc, hs⟩)
  dsimp only [Pt.U, Pt.locs, Pt.cells, Pt.slots] at X' l1 y1 z1 st hQ
  subst l1 y1 z1
  exact own_step (fun t k => st.trans k) (go _ _ _ X' hQ)
theorem own_fldI {t : Term} {C n d : String} {k : Int32} {a : Addr} (ev : t.eval args s none [] s = some (.ref a)) (hq : (Jvm.Cond.eq (.field t C n d) (.int k)).value args s none s [] = some true) : Fld s s.heap a C n d (.int k) := by
  have e1 := fld_at (C := C) (n := n) (dd := d) ev
  refine Fld.start ?_
  simp only [Jvm.Cond.value, e1, Term.int_eval] at hq
  cases hf : s.fieldOf? a C n d with
  | none => simp [hf] at hq
  | some v => cases v <;> simp [hf] at hq; rw [hq]
theorem own_callU (X : Stand p l e R s m args below meth c T locs cells slots) (hx : p.tables.exec = Jvm.exec) (hZ : Z.Warmed39 s.vm) {own C owner : String} {index : Nat} {y z : MethodName} {bytes : ByteArray} {maxL : Nat} {ret : Option FieldType} (hown : s.vm.findClass own = some m.cls)
    (w1 : (Jvm.Cond.methodLink own index y).before a0 Z = true) (w2 : (Jvm.Cond.sameMethod y.cls owner y.name y.desc).before a0 Z = true) (w2' : (Jvm.Cond.declares ⟨owner, y.name, y.desc⟩).before a0 Z = true) (w3 : (Jvm.Cond.selects C y z).before a0 Z = true) (w4 : (Jvm.Cond.instanceMethod z).before a0 Z = true) (w5 : (Jvm.Cond.code z bytes maxL ret).before a0 Z = true) (w6 : (Jvm.Cond.initialized z.cls).before a0 Z = true)
    (hy : owner ≠ "java/lang/invoke/MethodHandle" ∧ owner ≠ "java/lang/invoke/VarHandle")
    {rm : Room} (W : Nat) {a : Addr} (E : Exa Z h a C) (argsL rest : List Value) {Q : Option Value → Heap → List Loc → Prop} (hM : own_Met l Z z bytes maxL ret [] rm (.ref a :: argsL).toArray h Q) (eT : T.heap = h)
    (hf : rm.frames + 1 ≤ R.frames) (hl : W + (maxL + 11) + rm.locals ≤ R.locals) (hc : cells + rm.cells ≤ R.cells) (hs : slots + rm.slots ≤ R.slots)
    {g : JFrame} (hg : g.method = m) (hsize : g.locals.size = c.maxLocals) {ps : List FieldType} {r : Option FieldType} (hpd : parseMethodDescriptor y.desc = some ⟨ps, r⟩) (hlen : argsL.length = ps.length)
    (hstack : g.stack = argsL.reverse ++ .ref a :: rest) (hW : 2 * g.monitorRoom + (rest.map fun v => v.category).sum ≤ W) (hd : decode c.code g.pc = .ok (.invokevirtual index, 3))
    {K : Outcome → State → Prop} (go : ∀ T' v L, Stand p l e R s m args below meth c T' (locs ++ L) (cells + rm.cells) (slots + rm.slots) → Q v T'.heap L → own_Goes p e below K T' { g with pc := g.pc + 3, stack := v.toList ++ rest }) : own_Goes p e below K T g := by
  obtain ⟨cq, kq, qa, qb, qc⟩ := isOf hZ eT E
  obtain ⟨v, _, ⟨T', L', k', n'⟩, -, X', ⟨Lc, hQ, l1, y1, z1⟩, st⟩ := X.virtualBackUp hx (x := y) (y := z) hown (mvT hZ w1) (mvT hZ w2) (mvT hZ w2') hy (mvT hZ w3) (mvT hZ w4) (backOf (W := W) hM hZ w5 w6 hf hl) qa qc hg hsize (Steps.refl _) (lenOf hpd hlen) hstack hW hd (fun _ _ => ⟨rfl, eT, hc, hs⟩)
  dsimp only [Pt.U, Pt.locs, Pt.cells, Pt.slots] at X' l1 y1 z1 st hQ
  subst l1 y1 z1
  exact own_step (fun t k => st.trans k) (go _ _ _ X' hQ)
theorem own_aaload (X : Stand p l e R s m args below meth c T locs cells slots) (hx : p.tables.exec = Jvm.exec) (hZ : Z.Warmed39 s.vm) (eT : T.heap = h) {a : Addr} {k : ClassId} {ty : FieldType} {n : Int32} {vs : List Value} {dv : Value} (F : Arv Z h a k ty n vs dv) (hty : ty.isReference = true) {j : Int32} (v : Value) (hj : ¬ j < 0 ∧ j < n) (hv : vs.getD j.toNatClampNeg dv = v)
    {g : JFrame} (hg : g.method = m) {rest : List Value} (hs : g.stack = .int j :: .ref a :: rest) (hd : decode c.code g.pc = .ok (.aaload, 1)) : ∀ t, Steps p.tables e below (T.setTop { g with pc := g.pc + 1, stack := v :: rest }) t → Steps p.tables e below (T.setTop g) t := by
  obtain ⟨cl, A, q1, S, q3, H, G⟩ := F
  have hin := inb_of S hj
  exact fun t kk => X.aaload hx (by rw [eT]; exact A.1) (State.isArrayOf_alike hZ.alike A.2.1) hty A.2.2 hin (H.at hin hv) hg hs hd t kk
theorem own_aastore (X : Stand p l e R s m args below meth c T locs cells slots) (hx : p.tables.exec = Jvm.exec) (hZ : Z.Warmed39 s.vm) (eT : T.heap = h) {a : Addr} {k : ClassId} {C : String} {n : Int32} {vs : List Value} {dv : Value} (F : Arv Z h a k (.object C) n vs dv) (O : Ovr Z k C) {y : Addr} (I : Ins Z h y C true) {j : Int32} (hj : ¬ j < 0 ∧ j < n) (i : Nat) (hi : j.toNatClampNeg = i) (hl : i < vs.length)
    {g : JFrame} (hg : g.method = m) {rest : List Value} (hs : g.stack = .ref y :: .int j :: .ref a :: rest) (hd : decode c.code g.pc = .ok (.aastore, 1)) :
    ∃ T' h', Stand p l e R s m args below meth c T' (locs ++ [⟨a, j.toNatClampNeg⟩]) cells slots ∧ T'.heap = h' ∧ Wr h h' a j.toNatClampNeg (.ref y) ∧ Arv Z h' a k (.object C) n (vs.set i (.ref y)) dv ∧ ∀ target, Steps p.tables e below (T'.setTop { g with pc := g.pc + 1, stack := rest }) target → Steps p.tables e below (T.setTop g) target := by
  obtain ⟨cl, A, q1, S, q3, H, G⟩ := F
  obtain ⟨T', h', X', e', W', st⟩ := stR X hx hZ eT A (inb_of S hj) rfl (Sto.ofV A q1 O I) hg hs hd
  exact ⟨T', h', X', e', W', Arv.set A q1 S q3 H G rfl W' i hi hl, st⟩
theorem own_staKeep {C n d : String} {v : Value} {h' : Heap} {ws : List Addr} (F : Sta Z h C n d v) (K : Keep h h' ws) (q : ∀ x ∈ ws, ∀ cell : Cell, h[x]? = some cell → cell.vm.isStatics = false) : Sta Z h' C n d v := by
  obtain ⟨cf, i, k, f, st, cell, h1, h2, h3, h4, h5, h6, h7⟩ := F
  refine ⟨cf, i, k, f, st, cell, h1, h2, h3, h4, K.2.1 _ _ h5 (fun z => ?_), h6, h7⟩
  have := q _ z _ h5
  rw [h6] at this; cases this
theorem own_caload (X : Stand p l e R s m args below meth c T locs cells slots) (hx : p.tables.exec = Jvm.exec) (hZ : Z.Warmed39 s.vm) (eT : T.heap = h) {a : Addr} {k : ClassId} {n : Int32} {vs : List Value} {dv : Value} (F : Arv Z h a k .char n vs dv) {j : Int32} (v : Value) (hj : ¬ j < 0 ∧ j < n) (hv : vs.getD j.toNatClampNeg dv = v)
    {g : JFrame} (hg : g.method = m) {rest : List Value} (hs : g.stack = .int j :: .ref a :: rest) (hd : decode c.code g.pc = .ok (.caload, 1)) : ∀ t, Steps p.tables e below (T.setTop { g with pc := g.pc + 1, stack := v :: rest }) t → Steps p.tables e below (T.setTop g) t := by
  obtain ⟨cl, A, q1, S, q3, H, G⟩ := F
  have hin := inb_of S hj
  exact fun t kk => X.caload hx (by rw [eT]; exact A.1) (State.isArrayOf_alike hZ.alike A.2.1) A.2.2 hin (H.at hin hv) hg hs hd t kk
theorem own_baload (X : Stand p l e R s m args below meth c T locs cells slots) (hx : p.tables.exec = Jvm.exec) (hZ : Z.Warmed39 s.vm) (eT : T.heap = h) {a : Addr} {k : ClassId} {n : Int32} {vs : List Value} {dv : Value} (F : Arv Z h a k .byte n vs dv) {j : Int32} (v : Value) (hj : ¬ j < 0 ∧ j < n) (hv : vs.getD j.toNatClampNeg dv = v)
    {g : JFrame} (hg : g.method = m) {rest : List Value} (hs : g.stack = .int j :: .ref a :: rest) (hd : decode c.code g.pc = .ok (.baload, 1)) : ∀ t, Steps p.tables e below (T.setTop { g with pc := g.pc + 1, stack := v :: rest }) t → Steps p.tables e below (T.setTop g) t := by
  obtain ⟨cl, A, q1, S, q3, H, G⟩ := F
  have hin := inb_of S hj
  exact fun t kk => X.baloadBytes hx (by rw [eT]; exact A.1) (State.isArrayOf_alike hZ.alike A.2.1) A.2.2 hin (H.at hin hv) hg hs hd t kk
theorem own_alen (X : Stand p l e R s m args below meth c T locs cells slots) (hx : p.tables.exec = Jvm.exec) (hZ : Z.Warmed39 s.vm) (eT : T.heap = h) {a : Addr} {k : ClassId} {ty : FieldType} {n : Int32} {vs : List Value} {dv : Value} (F : Arv Z h a k ty n vs dv)
    {g : JFrame} (hg : g.method = m) {rest : List Value} (hs : g.stack = .ref a :: rest) (hd : decode c.code g.pc = .ok (.arraylength, 1)) : ∀ t, Steps p.tables e below (T.setTop { g with pc := g.pc + 1, stack := .int n :: rest }) t → Steps p.tables e below (T.setTop g) t := by
  obtain ⟨cl, A, q1, S, q3, H, G⟩ := F
  intro t kk
  refine X.arraylength hx (by rw [eT]; exact A.1) (State.isArrayOf_alike hZ.alike A.2.1) hg hs hd t ?_
  rw [len_of S q3]
  exact kk
theorem own_castore (X : Stand p l e R s m args below meth c T locs cells slots) (hx : p.tables.exec = Jvm.exec) (hZ : Z.Warmed39 s.vm) (eT : T.heap = h) {a : Addr} {k : ClassId} {n : Int32} {vs : List Value} {dv : Value} (F : Arv Z h a k .char n vs dv) {x : Int32} (x' : Int32) (hx' : nar .char x = x') {j : Int32} (hj : ¬ j < 0 ∧ j < n) (i : Nat) (hi : j.toNatClampNeg = i) (hl : i < vs.length)
    {g : JFrame} (hg : g.method = m) {rest : List Value} (hs : g.stack = .int x :: .int j :: .ref a :: rest) (hd : decode c.code g.pc = .ok (.castore, 1)) :
    ∃ T' h', Stand p l e R s m args below meth c T' (locs ++ [⟨a, j.toNatClampNeg⟩]) cells slots ∧ T'.heap = h' ∧ Wr h h' a j.toNatClampNeg (.int x') ∧ Arv Z h' a k .char n (vs.set i (.int x')) dv ∧ ∀ target, Steps p.tables e below (T'.setTop { g with pc := g.pc + 1, stack := rest }) target → Steps p.tables e below (T.setTop g) target := by
  subst hx'
  obtain ⟨cl, A, q1, S, q3, H, G⟩ := F
  obtain ⟨T', h', X', e', W', st⟩ := stC X hx hZ eT A (inb_of S hj) hg hs hd
  exact ⟨T', h', X', e', W', Arv.set A q1 S q3 H G (fits_nar_char _) W' i hi hl, st⟩
theorem own_bastore (X : Stand p l e R s m args below meth c T locs cells slots) (hx : p.tables.exec = Jvm.exec) (hZ : Z.Warmed39 s.vm) (eT : T.heap = h) {a : Addr} {k : ClassId} {n : Int32} {vs : List Value} {dv : Value} (F : Arv Z h a k .byte n vs dv) {x : Int32} (x' : Int32) (hx' : nar .byte x = x') {j : Int32} (hj : ¬ j < 0 ∧ j < n) (i : Nat) (hi : j.toNatClampNeg = i) (hl : i < vs.length)
    {g : JFrame} (hg : g.method = m) {rest : List Value} (hs : g.stack = .int x :: .int j :: .ref a :: rest) (hd : decode c.code g.pc = .ok (.bastore, 1)) :
    ∃ T' h', Stand p l e R s m args below meth c T' (locs ++ [⟨a, j.toNatClampNeg⟩]) cells slots ∧ T'.heap = h' ∧ Wr h h' a j.toNatClampNeg (.int x') ∧ Arv Z h' a k .byte n (vs.set i (.int x')) dv ∧ ∀ target, Steps p.tables e below (T'.setTop { g with pc := g.pc + 1, stack := rest }) target → Steps p.tables e below (T.setTop g) target := by
  subst hx'
  obtain ⟨cl, A, q1, S, q3, H, G⟩ := F
  obtain ⟨T', h', X', e', W', st⟩ := stB X hx hZ eT A (inb_of S hj) hg hs hd
  exact ⟨T', h', X', e', W', Arv.set A q1 S q3 H G (fits_nar_byte _) W' i hi hl, st⟩
theorem own_b8 (x : Int32) : nar .byte (x.toInt8.toInt32) = x.toInt8.toInt32 := by
  show x.toInt8.toInt32.toInt8.toInt32 = x.toInt8.toInt32
  simp
theorem own_narc {x : Int32} (h0 : ¬ x < (0 : Int32)) (h1 : ¬ (255 : Int32) < x) : nar .char x = x := by
  have e0 : (0 : Int32).toInt = 0 := by decide
  have e1 : (255 : Int32).toInt = 255 := by decide
  rw [Int32.lt_iff_toInt_lt] at h0 h1
  have q := c_i2c x
  rw [← Int32.toInt_inj]
  show x.toUInt32.toUInt16.toUInt32.toInt32.toInt = x.toInt
  omega
theorem own_b8inj {x y : Int32} (h0 : ¬ x < (0 : Int32)) (h1 : ¬ (255 : Int32) < x) (g0 : ¬ y < (0 : Int32)) (g1 : ¬ (255 : Int32) < y) (q : x.toInt8.toInt32 = y.toInt8.toInt32) : x = y := by
  have e0 : (0 : Int32).toInt = 0 := by decide
  have e1 : (255 : Int32).toInt = 255 := by decide
  rw [Int32.lt_iff_toInt_lt] at h0 h1 g0 g1
  have a := c_i2b x
  have b := c_i2b y
  rw [q] at a
  rw [← Int32.toInt_inj]
  omega
theorem own_m255 (x : Int32) : ¬ (x &&& (255 : Int32)) < (0 : Int32) ∧ ¬ (255 : Int32) < (x &&& (255 : Int32)) := by
  have h1 := c_mask x (255 : Int32) 8 (by decide) (by decide)
  have e0 : (0 : Int32).toInt = 0 := by decide
  have e1 : (255 : Int32).toInt = 255 := by decide
  rw [Int32.lt_iff_toInt_lt, Int32.lt_iff_toInt_lt, h1]
  omega
theorem own_i2c (x : Int32) : ((x &&& (255 : Int32)).toUInt32.toUInt16.toUInt32.toInt32) = (x &&& (255 : Int32)) := i2c_mask x
theorem own_plainE {a : Addr} {C : String} (E : Exa Z h a C) : ∀ cell : Cell, h[a]? = some cell → cell.vm.isStatics = false := fun cell hc => by
  obtain ⟨c1, k, h1, -, -, h4, -⟩ := E
  cases h1.symm.trans hc
  exact h4
theorem own_plainA {a : Addr} {k : ClassId} {ty : FieldType} {n : Int32} {vs : List Value} {dv : Value} (F : Arv Z h a k ty n vs dv) : ∀ cell : Cell, h[a]? = some cell → cell.vm.isStatics = false := fun cell hc => by
  obtain ⟨c1, A, -⟩ := F
  cases A.1.symm.trans hc
  exact A.plain
theorem own_arrKeep {a : Addr} {cl : Cell} {ty : FieldType} {h' : Heap} {ws : List Addr} (A : Arr Z h a cl ty) (K : Keep h h' ws) (q : a ∉ ws) : Arr Z h' a cl ty := ⟨K.2.1 a cl A.1 q, A.2⟩
theorem own_fldR {t : Term} {C n d : String} {a y : Addr} (ev : t.eval args s none [] s = some (.ref a)) (hq : (Term.field t C n d).eval args s none [] s = some (.ref y)) : Fld s s.heap a C n d (.ref y) := by
  rw [fld_at ev] at hq
  exact Fld.start hq
theorem own_len {t : Term} {a : Addr} {cl : Cell} {ty : FieldType} {n : Int32} (ev : t.eval args s none [] s = some (.ref a)) (A : Arr s s.heap a cl ty) (hq : (Jvm.Cond.eq (.length t) (.int n)).value args s none s [] = some true) : cl.slots.size < 2 ^ 31 ∧ cl.slots.size.toInt32 = n := by
  have ha : s.arrayAt? a = some cl := A.fin (Vm.Alike.refl _)
  by_cases q : cl.slots.size < 2 ^ 31
  · have := len_f (args := args) (first := s) (o := none) (idx := []) ev ha q
    simp only [Jvm.Cond.value, this, Term.int_eval] at hq
    exact ⟨q, by simpa using hq⟩
  · simp [Jvm.Cond.value, Term.eval, ev, ha, q] at hq
theorem own_elemI {t : Term} {a : Addr} {cl : Cell} {ty : FieldType} {j v : Int32} (ev : t.eval args s none [] s = some (.ref a)) (A : Arr s s.heap a cl ty) (hq : (Jvm.Cond.eq (.elem t (.int j)) (.int v)).value args s none s [] = some true) : cl.slots[j.toNatClampNeg]? = some (.int v) := by
  obtain ⟨x, y, e1, e2, -, -⟩ := cmp_v (Or.inl hq)
  have e3 := (elem_in e1 ev (Term.int_eval j) A.1).2
  simp only [Jvm.Cond.value, e1, Term.int_eval] at hq
  cases x <;> simp at hq
  rw [e3, hq]
theorem own_elemR {t u : Term} {a w : Addr} {cl : Cell} {ty : FieldType} {j : Int32} (ev : t.eval args s none [] s = some (.ref a)) (eu : u.eval args s none [] s = some (.ref w)) (A : Arr s s.heap a cl ty) (hq : (Jvm.Cond.eq (.elem t (.int j)) u).value args s none s [] = some true) : cl.slots[j.toNatClampNeg]? = some (.ref w) := by
  obtain ⟨x, y, e1, e2, -, -⟩ := cmp_v (Or.inl hq)
  have e3 := (elem_in e1 ev (Term.int_eval j) A.1).2
  simp only [Jvm.Cond.value, e1, eu] at hq
  cases x <;> simp at hq
  rw [e3, hq]
end OwnKit
/-! own kit, wide: walks that may load the empty String's constant -/
section OwnKitW
variable {p : Program} {l : Launch} {e : Env} {R : Room} {s : State} {m : MethodId} {args : Array Value} {below : List Frame} {meth : Method} {c : Code} {T : State} {locs : List Loc} {cells slots : Nat} {Z : State} {a0 : Array Value} {h : Heap} {EL : List (String × Nat)} {vm0 : Vm} {k0 : Nat}
def own_KW (s Z : State) (EL : List (String × Nat)) (Q : Option Value → Heap → List Loc → Prop) (rc rs : Nat) : Outcome → State → Prop := fun o u => ∃ v L, o = .returned v ∧ Q v u.heap L ∧ CHr Z EL s.vm s.heap u.vm u.heap ∧ ReturnedEndW s o u L rc rs
def own_MetW (l : Launch) (Z : State) (EL : List (String × Nat)) (y : MethodName) (bytes : ByteArray) (maxL : Nat) (ret : Option FieldType) (ws : List Jvm.Cond) (rm : Room) (as' : Array Value) (h0 : Heap) (Q : Option Value → Heap → List Loc → Prop) : Prop :=
  MetFree l y (head1 (Jvm.Cond.code y bytes maxL ret :: ws) rm) (fun a U => a = as' ∧ Z.Warmed39 U.vm ∧ U.heap = h0 ∧ CHv Z EL U.vm h0) (fun _ _ _ _ _ => True) (fun _ U o U' => ∃ v L, o = .returned v ∧ Q v U'.heap L ∧ CHr Z EL U.vm U.heap U'.vm U'.heap ∧ ReturnedEndW U o U' L rm.cells rm.slots)
theorem own_bodyW {y : MethodName} {bytes : ByteArray} {maxL : Nat} {ret : Option FieldType} {ws : List Jvm.Cond} {rm : Room} {as' : Array Value} {h0 : Heap} {Q : Option Value → Heap → List Loc → Prop} (hp : plainFor y = true)
    (body : ∀ (p : Program) (e : Env) (s : State) (m : MethodId) (below : List Frame) (meth : Method) (c : Code) (s₁ : State), p.tables.exec = Jvm.exec → c.code = bytes → c.maxLocals = maxL → meth.sig.returnType = ret → meth.locks = false → (s.setVm s.vm).vm.findClass y.cls = some m.cls → meth.name = y.name → Z.Warmed39 (s.setVm s.vm).vm →
      Stand p l e rm (s.setVm s.vm) m as' below meth c s₁ [] 0 0 → s₁.heap = h0 → CHv Z EL s.vm h0 → CHr Z EL s.vm s.heap s.vm h0 → s.Since s.vm h0.size → own_Goes p e below (own_KW s Z EL Q rm.cells rm.slots) s₁ (entryFrame m as' maxL)) : own_MetW l Z EL y bytes maxL ret ws rm as' h0 Q := by
  refine MetFree.of_bodySF hp hisR ?_
  intro p e s m args below meth c s₁ Bd hml0 hP hK
  obtain ⟨rfl, hZ, hh, hC⟩ := hP
  have q : s₁.heap = h0 := by rw [← hh, Bd.state]; rfl
  subst hh
  exact body p e s m below meth c s₁ Bd.exec Bd.bytes hml0 Bd.returns (BodyLoose.notSynchronized Bd) (findClass_of_methodNamed Bd.named) (name_of_methodNamed Bd.named Bd.method).1 hZ (Stand.of_body Bd) q hC (CHr.refl hC) ((State.WarmedH.refl s).since _)
theorem own_outW (X : Stand p l e R (s.setVm vm0) m args below meth c T locs cells slots) (hlk : meth.locks = false) (hS : s.Since vm0 k0) (hk : k0 ≤ h.size) (hZ : Z.Warmed39 (s.setVm vm0).vm) (hEL : EW Z a0 EL) (eT : T.heap = h) (H : CHv Z EL vm0 h) (hR : CHr Z EL s.vm s.heap vm0 h) {v : Option Value} (hv : meth.sig.returnType = none → v = none) {Q : Option Value → Heap → List Loc → Prop} {rc rs : Nat} {g : JFrame}
    (st : ∀ fs, (∀ (f : JFrame) (acts : List Action), f.method = m → f.locked = none → f.entered = [] → (doReturn e (T.setTop f) acts v).1 = T.setFrames fs) → Steps p.tables e below (T.setTop g) (T.setFrames fs))
    (hQ : Q v T.heap locs) (hc : cells ≤ rc) (hs : slots ≤ rs) : own_Goes p e below (own_KW s Z EL Q rc rs) T g := by
  subst eT
  have hA : CHr Z EL vm0 T.heap T.vm T.heap := CHv.at X hZ hEL H
  obtain ⟨fs, hr, hrun, hended, hE⟩ := X.leaveW hS hk (v := v) hv hlk
  exact ⟨_, _, st fs hr, hrun, hended, v, locs, rfl, hQ, hR.trans hA, hE.1, hE.2.1, hE.2.2.1, hE.2.2.2.mono hc hs⟩
theorem own_safeNull {vm : Vm} {x : Addr} (hal : Z.vm.Alike vm) (E : Exa Z h x "java/lang/String") (F : Fld Z h x "java/lang/String" "value" "[B" .null) : Safe Z EL vm h x := fun B => by
  obtain ⟨cell, k, e1, e2, e3, -, -⟩ := E
  obtain ⟨c2, cf, k2, i, f, h1, h2, -, -, -, -, h7⟩ := F
  cases h1.symm.trans e1
  obtain ⟨pp, -, u, a, -, q, -, G, rfl | rfl⟩ := B
  · cases (show h[q.sa]? = some q.sC from G.ha).symm.trans e1
    obtain ⟨cS, ⟨⟨s1, s2, s3, ⟨cv, kv, iv, s4, s4'⟩, -, s6, s7, s8, -⟩, -⟩, -⟩ := G
    obtain ⟨k', q1, -⟩ := State.fieldFound?_setVm (s := Z) hal h2
    have q2 : (Wst Z vm h).fieldFound? "java/lang/String" "value" "[B" = some (cf, k', i, f) := q1
    have q3 := q2.symm.trans s4
    simp only [Option.some.injEq, Prod.mk.injEq] at q3
    rw [q3.2.2.2] at h7
    rw [h7] at s8
    cases s8
  · cases (show h[q.sd]? = some q.SA from G.hd).symm.trans e1
    obtain ⟨cS, -, -, ff, -⟩ := G
    have ff : vm.findClass "[B" = some q.SA.cls := ff
    rw [hal.findClass] at ff
    obtain ⟨k1, r1, r2⟩ := Vm.findClass_spec ff
    obtain ⟨k3, r3, r4⟩ := Vm.findClass_spec e2
    cases r1.symm.trans r3
    have := r2.symm.trans r4
    exact absurd this (by decide)
theorem own_safeArv {vm : Vm} {x : Addr} {k : ClassId} {n : Int32} {vs : List Value} {dv : Value} (hal : Z.vm.Alike vm) (F : Arv Z h x k .char n vs dv) : Safe Z EL vm h x := by
  obtain ⟨cl, A, -⟩ := F
  exact Safe.arr hal A (by decide)
theorem own_callCW (X : Stand p l e R (s.setVm vm0) m args below meth c T locs cells slots) (hx : p.tables.exec = Jvm.exec) (hZ : Z.Warmed39 (s.setVm vm0).vm) {own : String} {index : Nat} {y : MethodName} {bytes : ByteArray} {maxL : Nat} (hy1 : y.name = "<init>") (hown : (s.setVm vm0).vm.findClass own = some m.cls)
    (w1 : (Jvm.Cond.methodLink own index y).before a0 Z = true) (w2 : (Jvm.Cond.instanceMethod y).before a0 Z = true) (w3 : (Jvm.Cond.code y bytes maxL none).before a0 Z = true) (w4 : (Jvm.Cond.initialized y.cls).before a0 Z = true)
    (hy : y.cls ≠ "java/lang/invoke/MethodHandle" ∧ y.cls ≠ "java/lang/invoke/VarHandle")
    {rm : Room} (W : Nat) {a : Addr} (argsL rest : List Value) {Q : Option Value → Heap → List Loc → Prop} (hM : own_MetW l Z EL y bytes maxL none [] rm (.ref a :: argsL).toArray h Q) (eT : T.heap = h) (hEL : EW Z a0 EL) (H : CHv Z EL vm0 h) (hS : s.Since vm0 k0) (hk : k0 ≤ h.size)
    (hf : rm.frames + 1 ≤ R.frames) (hl : W + (maxL + 11) + rm.locals ≤ R.locals) (hc : cells + rm.cells ≤ R.cells) (hs : slots + rm.slots ≤ R.slots)
    {g : JFrame} (hg : g.method = m) (hsize : g.locals.size = c.maxLocals) {ps : List FieldType} {r : Option FieldType} (hpd : parseMethodDescriptor y.desc = some ⟨ps, r⟩) (hlen : argsL.length = ps.length)
    (hstack : g.stack = argsL.reverse ++ .ref a :: rest) (hW : 2 * g.monitorRoom + (rest.map fun v => v.category).sum ≤ W) (hd : decode c.code g.pc = .ok (.invokespecial index, 3))
    {K : Outcome → State → Prop} (go : ∀ T' v L, Stand p l e R (s.setVm T'.vm) m args below meth c T' (locs ++ L) (cells + rm.cells) (slots + rm.slots) → s.Since T'.vm T'.heap.size → Z.Warmed39 (s.setVm T'.vm).vm → (s.setVm T'.vm).vm.findClass own = some m.cls → CHr Z EL vm0 h T'.vm T'.heap → Q v T'.heap L → own_Goes p e below K T' { g with pc := g.pc + 3, stack := v.toList ++ rest }) : own_Goes p e below K T g := by
  obtain ⟨v, _, ⟨T', L', k', n'⟩, -, X', hS', hgr, ⟨Lc, hQ, l1, y1, z1, hC⟩, st⟩ := X.specialBackS hx (y := y) hy1 hown (mvT hZ w1) (mvT hZ w2) (mvT hZ w3) hy (backOfSH (W := W) hM hZ w3 w4 hf hl hEL H) hg hsize (Steps.refl _) (a := a) (lenOf hpd hlen) hstack hW hd (fun _ _ => ⟨rfl, eT, hc, hs⟩)
  dsimp only [Pt.U, Pt.locs, Pt.cells, Pt.slots] at X' hS' hgr l1 y1 z1 st hQ hC
  subst l1 y1 z1
  obtain ⟨X2, hS2, hZ2, hown2⟩ := rebS hS (by rw [eT]; exact hk) X' hS' hgr hZ hown
  exact own_step (fun t k => st.trans k) (go _ _ _ X2 hS2 hZ2 hown2 hC hQ)
theorem own_callSW (X : Stand p l e R (s.setVm vm0) m args below meth c T locs cells slots) (hx : p.tables.exec = Jvm.exec) (hZ : Z.Warmed39 (s.setVm vm0).vm) {own : String} {index : Nat} {y : MethodName} {bytes : ByteArray} {maxL : Nat} {ret : Option FieldType} (hown : (s.setVm vm0).vm.findClass own = some m.cls)
    (w1 : (Jvm.Cond.methodLink own index y).before a0 Z = true) (w2 : (Jvm.Cond.static y).before a0 Z = true) (w3 : (Jvm.Cond.initialized y.cls).before a0 Z = true) (w4 : (Jvm.Cond.code y bytes maxL ret).before a0 Z = true) (hy : y.cls ≠ "java/lang/invoke/MethodHandle" ∧ y.cls ≠ "java/lang/invoke/VarHandle")
    {rm : Room} (W : Nat) (argsL rest : List Value) {Q : Option Value → Heap → List Loc → Prop} (hM : own_MetW l Z EL y bytes maxL ret [] rm argsL.toArray h Q) (eT : T.heap = h) (hEL : EW Z a0 EL) (H : CHv Z EL vm0 h) (hS : s.Since vm0 k0) (hk : k0 ≤ h.size)
    (hf : rm.frames + 1 ≤ R.frames) (hl : W + (maxL + 11) + rm.locals ≤ R.locals) (hc : cells + rm.cells ≤ R.cells) (hs : slots + rm.slots ≤ R.slots)
    {g : JFrame} (hg : g.method = m) (hsize : g.locals.size = c.maxLocals) {ps : List FieldType} {r : Option FieldType} (hpd : parseMethodDescriptor y.desc = some ⟨ps, r⟩) (hlen : argsL.length = ps.length)
    (hstack : g.stack = argsL.reverse ++ rest) (hW : 2 * g.monitorRoom + (rest.map fun v => v.category).sum ≤ W) (hd : decode c.code g.pc = .ok (.invokestatic index, 3))
    {K : Outcome → State → Prop} (go : ∀ T' v L, Stand p l e R (s.setVm T'.vm) m args below meth c T' (locs ++ L) (cells + rm.cells) (slots + rm.slots) → s.Since T'.vm T'.heap.size → Z.Warmed39 (s.setVm T'.vm).vm → (s.setVm T'.vm).vm.findClass own = some m.cls → CHr Z EL vm0 h T'.vm T'.heap → Q v T'.heap L → own_Goes p e below K T' { g with pc := g.pc + 3, stack := v.toList ++ rest }) : own_Goes p e below K T g := by
  obtain ⟨v, _, ⟨T', L', k', n'⟩, -, X', hS', hgr, ⟨Lc, hQ, l1, y1, z1, hC⟩, st⟩ := callSS X hx (y := y) hown (mvT hZ w1) (mvT hZ w2) (mvT hZ w3) (mvT hZ w4) hy (backOfSH (W := W) hM hZ w4 w3 hf hl hEL H) hg hsize (lenOf hpd hlen) hstack hW hd (fun _ _ => ⟨rfl, eT, hc, hs⟩)
  dsimp only [Pt.U, Pt.locs, Pt.cells, Pt.slots] at X' hS' hgr l1 y1 z1 st hQ hC
  subst l1 y1 z1
  obtain ⟨X2, hS2, hZ2, hown2⟩ := rebS hS (by rw [eT]; exact hk) X' hS' hgr hZ hown
  exact own_step (fun t k => st.trans k) (go _ _ _ X2 hS2 hZ2 hown2 hC hQ)
end OwnKitW
def own_EL : List (String × Nat) := [("java/lang/String", 7)]
theorem own_e0 : (∀ c ∈ ("" : String).toList, c.toNat < 256) ∧ ("" : String).toList.map (fun c => Value.int (Jvm.Lit.byteI c.toNat.toUInt16)) = [] := by simp
theorem own_hEL {Z : State} {a0 : Array Value} (hw : ∀ d ∈ tables_1, d.before a0 Z = true) : EW Z a0 own_EL := EW.cons (hw _ (List.mem_of_getElem? (i := 50) rfl)) own_e0.1 EW.nil
theorem own_atoms {Z : State} {a0 : Array Value} (hw : ∀ d ∈ tables_1, d.before a0 Z = true) : ∀ d ∈ Bundle.stringAtoms, d.before a0 Z = true := fun d hd => hw d ((by decide +kernel : ∀ d ∈ Bundle.stringAtoms, d ∈ tables_1) d hd)
theorem own_pn_com_example_sudsline_sudsline_model_Endpoint : plainName "com/example/sudsline/sudsline/model/Endpoint" = true := by first | (simp [plainName, overriddenIn]; done) | decide +kernel
theorem own_ef0 (m : MethodId) (x0 : Addr) (x1 : Int32) : entryFrame m #[(.ref x0), (.int x1)] 2 = mkF m 0 #[.val (.ref x0), .val (.int x1)] [] := by first | (simp [entryFrame, mkF, argsToLocals, Value.category]; done) | rfl
theorem own_prog_20_method_4_0 : decode prog_20_method_4_code 0 = .ok (.iload_n 1, 1) := by decide +kernel
theorem own_prog_20_method_4_1 : decode prog_20_method_4_code 1 = .ok (.ifCond .lt 9, 3) := by decide +kernel
theorem own_prog_20_method_4_4 : decode prog_20_method_4_code 4 = .ok (.iload_n 1, 1) := by decide +kernel
theorem own_prog_20_method_4_5 : decode prog_20_method_4_code 5 = .ok (.ldc 42, 2) := by decide +kernel
theorem own_prog_20_method_4_7 : decode prog_20_method_4_code 7 = .ok (.if_icmp .le 18, 3) := by decide +kernel
theorem own_prog_20_method_4_25 : decode prog_20_method_4_code 25 = .ok (.return_, 1) := by decide +kernel
set_option maxRecDepth 65536 in
set_option maxHeartbeats 40000000 in
theorem own_chk (l : Launch) (Z : State) (a0 : Array Value) (hw : ∀ d ∈ tables_1, d.before a0 Z = true) (ws : List Jvm.Cond) (o : Addr) (pv : Int32) (h0 : Heap) (n0 : Nat) (Z0 : n0 ≤ h0.size) (q1 : ¬ (pv < (0 : Int32))) (q2 : ¬ ((65535 : Int32) < pv)) :
    own_Met l Z (⟨"com/example/sudsline/sudsline/model/Endpoint", "checkSixteenBits", "(Ljava/lang/String;I)V"⟩ : MethodName) prog_20_method_4_code 2 none ws ({ frames := 0, cells := 0, slots := 0, locals := 0 } : Room) #[(.ref o), (.int pv)] h0 (fun v h L => v = none ∧ Fr n0 L ∧ h = h0) := by
  refine own_body (plainFor_of_name own_pn_com_example_sudsline_sudsline_model_Endpoint) (fun p e s m below meth c s₁ hx hby hml0 hrt hlk hown0 hnm hZ X0 e0 => ?_)
  have N0 := Fr.nil n0
  have hown : s.vm.findClass "com/example/sudsline/sudsline/model/Endpoint" = some m.cls := hown0
  have hml : c.maxLocals = 2 := hml0
  refine own_castG (own_ef0 m o pv) ?_
  show own_Goes _ _ _ _ s₁ (mkF m 0 #[.val (.ref o), .val (.int pv)] [])
  refine own_step (fun t k => XS.iloadN X0.here hx rfl (hb hby own_prog_20_method_4_0) rfl k) ?_
  show own_Goes _ _ _ _ s₁ (mkF m 1 #[.val (.ref o), .val (.int pv)] [(.int pv)])
  refine own_step (fun t k => XS.ifNo X0.here hx rfl (hb hby own_prog_20_method_4_1) rfl ((if0 _ _).trans (flt (show ¬ (pv < (0 : Int32)) from q1)).1) k) ?_
  show own_Goes _ _ _ _ s₁ (mkF m 4 #[.val (.ref o), .val (.int pv)] [])
  refine own_step (fun t k => XS.iloadN X0.here hx rfl (hb hby own_prog_20_method_4_4) rfl k) ?_
  show own_Goes _ _ _ _ s₁ (mkF m 5 #[.val (.ref o), .val (.int pv)] [(.int pv)])
  refine own_step (X0.ldcInt hx hown (mvT hZ (hw _ (List.mem_of_getElem? (i := 35) rfl))) (g := (mkF m 5 #[.val (.ref o), .val (.int pv)] [(.int pv)])) rfl (hb hby own_prog_20_method_4_5)) ?_
  show own_Goes _ _ _ _ s₁ (mkF m 7 #[.val (.ref o), .val (.int pv)] [(.int (65535 : Int32)), (.int pv)])
  refine own_step (fun t k => XS.icmpYes X0.here hx rfl (pc0 := 7) (pc' := 25) rfl (hb hby own_prog_20_method_4_7) rfl (flt (show ¬ ((65535 : Int32) < pv) from q2)).2.2.2 (by decide) (by decide) k) ?_
  show own_Goes _ _ _ _ s₁ (mkF m 25 #[.val (.ref o), .val (.int pv)] [])
  exact own_retV X0 hx hlk hrt (hb hby own_prog_20_method_4_25) ⟨rfl, N0, e0⟩ (by decide) (by decide)
theorem own_pn_java_lang_StringLatin1 : plainName "java/lang/StringLatin1" = true := by first | (simp [plainName, overriddenIn]; done) | decide +kernel
theorem own_ef1 (m : MethodId) (x0 : Int32) : entryFrame m #[(.int x0)] 1 = mkF m 0 #[.val (.int x0)] [] := by first | (simp [entryFrame, mkF, argsToLocals, Value.category]; done) | rfl
theorem own_jdk_43_method_3_0 : decode jdk_43_method_3_code 0 = .ok (.iload_n 0, 1) := by decide +kernel
theorem own_jdk_43_method_3_1 : decode jdk_43_method_3_code 1 = .ok (.sipush 255, 3) := by decide +kernel
theorem own_jdk_43_method_3_4 : decode jdk_43_method_3_code 4 = .ok (.if_icmp .gt 7, 3) := by decide +kernel
theorem own_jdk_43_method_3_7 : decode jdk_43_method_3_code 7 = .ok (.iconst 1, 1) := by decide +kernel
theorem own_jdk_43_method_3_8 : decode jdk_43_method_3_code 8 = .ok (.goto 4, 3) := by decide +kernel
theorem own_jdk_43_method_3_12 : decode jdk_43_method_3_code 12 = .ok (.ireturn, 1) := by decide +kernel
set_option maxRecDepth 65536 in
set_option maxHeartbeats 40000000 in
theorem own_can (l : Launch) (Z : State) (a0 : Array Value) (hw : ∀ d ∈ tables_1, d.before a0 Z = true) (ws : List Jvm.Cond) (c0 : Int32) (h0 : Heap) (n0 : Nat) (Z0 : n0 ≤ h0.size) (hc0 : ¬ ((255 : Int32) < c0)) :
    own_Met l Z (⟨"java/lang/StringLatin1", "canEncode", "(C)Z"⟩ : MethodName) jdk_43_method_3_code 1 (some .boolean) ws ({ frames := 0, cells := 0, slots := 0, locals := 0 } : Room) #[(.int c0)] h0 (fun v h L => v = some (.int (1 : Int32)) ∧ Fr n0 L ∧ h = h0) := by
  refine own_body (plainFor_of_name own_pn_java_lang_StringLatin1) (fun p e s m below meth c s₁ hx hby hml0 hrt hlk hown0 hnm hZ X0 e0 => ?_)
  have N0 := Fr.nil n0
  have hown : s.vm.findClass "java/lang/StringLatin1" = some m.cls := hown0
  have hml : c.maxLocals = 1 := hml0
  refine own_castG (own_ef1 m c0) ?_
  show own_Goes _ _ _ _ s₁ (mkF m 0 #[.val (.int c0)] [])
  refine own_step (fun t k => XS.iloadN X0.here hx rfl (hb hby own_jdk_43_method_3_0) rfl k) ?_
  show own_Goes _ _ _ _ s₁ (mkF m 1 #[.val (.int c0)] [(.int c0)])
  refine own_step (fun t k => XS.sipush X0.here hx rfl (hb hby own_jdk_43_method_3_1) k) ?_
  show own_Goes _ _ _ _ s₁ (mkF m 4 #[.val (.int c0)] [(.int (255 : Int32)), (.int c0)])
  refine own_step (fun t k => XS.icmpNo X0.here hx rfl (hb hby own_jdk_43_method_3_4) rfl (flt (show ¬ ((255 : Int32) < c0) from hc0)).2.2.1 k) ?_
  show own_Goes _ _ _ _ s₁ (mkF m 7 #[.val (.int c0)] [])
  refine own_step (fun t k => XS.iconst X0.here hx rfl (hb hby own_jdk_43_method_3_7) k) ?_
  show own_Goes _ _ _ _ s₁ (mkF m 8 #[.val (.int c0)] [(.int (1 : Int32))])
  refine own_step (fun t k => XS.goto X0.here hx rfl (pc0 := 8) (pc' := 12) rfl (hb hby own_jdk_43_method_3_8) (by decide) (by decide) k) ?_
  show own_Goes _ _ _ _ s₁ (mkF m 12 #[.val (.int c0)] [(.int (1 : Int32))])
  exact own_retN X0 hx hlk (t := .boolean) hrt (by simp) (hb hby own_jdk_43_method_3_12) ⟨rfl, N0, e0⟩ (by decide) (by decide)
theorem own_ef2 (m : MethodId) (x0 : Int32) : entryFrame m #[(.int x0)] 1 = mkF m 0 #[.val (.int x0)] [] := by first | (simp [entryFrame, mkF, argsToLocals, Value.category]; done) | rfl
theorem own_jdk_43_method_46_0 : decode jdk_43_method_46_code 0 = .ok (.iconst 1, 1) := by decide +kernel
theorem own_jdk_43_method_46_1 : decode jdk_43_method_46_code 1 = .ok (.newarray .byte, 2) := by decide +kernel
theorem own_jdk_43_method_46_3 : decode jdk_43_method_46_code 3 = .ok (.dup, 1) := by decide +kernel
theorem own_jdk_43_method_46_4 : decode jdk_43_method_46_code 4 = .ok (.iconst 0, 1) := by decide +kernel
theorem own_jdk_43_method_46_5 : decode jdk_43_method_46_code 5 = .ok (.iload_n 0, 1) := by decide +kernel
theorem own_jdk_43_method_46_6 : decode jdk_43_method_46_code 6 = .ok (.i2b, 1) := by decide +kernel
theorem own_jdk_43_method_46_7 : decode jdk_43_method_46_code 7 = .ok (.bastore, 1) := by decide +kernel
theorem own_jdk_43_method_46_8 : decode jdk_43_method_46_code 8 = .ok (.areturn, 1) := by decide +kernel
set_option maxRecDepth 65536 in
set_option maxHeartbeats 40000000 in
theorem own_tob (l : Launch) (Z : State) (a0 : Array Value) (hw : ∀ d ∈ tables_1, d.before a0 Z = true) (ws : List Jvm.Cond) (c0 : Int32) (h0 : Heap) (n0 : Nat) (Z0 : n0 ≤ h0.size) :
    own_Met l Z (⟨"java/lang/StringLatin1", "toBytes", "(C)[B"⟩ : MethodName) jdk_43_method_46_code 1 (some (.array .byte)) ws ({ frames := 0, cells := 1, slots := 1, locals := 0 } : Room) #[(.int c0)] h0 (fun v h L => ∃ r : Addr, ∃ kr : ClassId, v = some (.ref r) ∧ Fr n0 L ∧ Keep h0 h [] ∧ h0.size ≤ r ∧ Arv Z h r kr .byte (1 : Int32) [(.int (c0.toInt8.toInt32))] (.int (0 : Int32))) := by
  refine own_body (plainFor_of_name own_pn_java_lang_StringLatin1) (fun p e s m below meth c s₁ hx hby hml0 hrt hlk hown0 hnm hZ X0 e0 => ?_)
  have N0 := Fr.nil n0
  have hown : s.vm.findClass "java/lang/StringLatin1" = some m.cls := hown0
  have hml : c.maxLocals = 1 := hml0
  refine own_castG (own_ef2 m c0) ?_
  show own_Goes _ _ _ _ s₁ (mkF m 0 #[.val (.int c0)] [])
  refine own_step (fun t k => XS.iconst X0.here hx rfl (hb hby own_jdk_43_method_46_0) k) ?_
  show own_Goes _ _ _ _ s₁ (mkF m 1 #[.val (.int c0)] [(.int (1 : Int32))])
  obtain ⟨T1, h1, k1, X1, e1, E1, A1, st1⟩ := newP X0 hx hZ (hw _ (List.mem_of_getElem? (i := 20) rfl)) e0 (g := (mkF m 1 #[.val (.int c0)] [(.int (1 : Int32))])) rfl (hb hby own_jdk_43_method_46_1) rfl (by decide) (cap := 1) (by decide) (by decide) (by decide) (by decide)
  obtain ⟨b1, g1⟩ : ∃ z, z = h0.size := ⟨_, rfl⟩
  rw [← g1] at A1 st1
  refine own_step st1 ?_
  have g_b1 : n0 ≤ b1 := Nat.le_trans Z0 (Nat.le_of_eq g1.symm)
  have sz_b1 : h0.size ≤ b1 := Nat.le_trans (Keep.refl h0 []).1 (Nat.le_of_eq g1.symm)
  have K1 := (Keep.refl h0 []).ext E1
  have V_b1 : Arv Z h1 b1 k1 .byte (1 : Int32) [(.int (0 : Int32))] (.int (0 : Int32)) := (Arv.new A1 (by decide)).pad (pad_rep [] (.int (0 : Int32)) 1)
  show own_Goes _ _ _ _ T1 (mkF m 3 #[.val (.int c0)] [(.ref b1)])
  refine own_step (fun t k => XS.dup X1.here hx rfl (hb hby own_jdk_43_method_46_3) rfl rfl k) ?_
  show own_Goes _ _ _ _ T1 (mkF m 4 #[.val (.int c0)] [(.ref b1), (.ref b1)])
  refine own_step (fun t k => XS.iconst X1.here hx rfl (hb hby own_jdk_43_method_46_4) k) ?_
  show own_Goes _ _ _ _ T1 (mkF m 5 #[.val (.int c0)] [(.int (0 : Int32)), (.ref b1), (.ref b1)])
  refine own_step (fun t k => XS.iloadN X1.here hx rfl (hb hby own_jdk_43_method_46_5) rfl k) ?_
  show own_Goes _ _ _ _ T1 (mkF m 6 #[.val (.int c0)] [(.int c0), (.int (0 : Int32)), (.ref b1), (.ref b1)])
  refine own_step (fun t k => XS.i2b X1.here hx rfl (hb hby own_jdk_43_method_46_6) rfl k) ?_
  show own_Goes _ _ _ _ T1 (mkF m 7 #[.val (.int c0)] [(.int (c0.toInt8.toInt32)), (.int (0 : Int32)), (.ref b1), (.ref b1)])
  obtain ⟨T2, h2, X2, e2, W2, V2, st2⟩ := own_bastore X1 hx hZ e1 V_b1 (x := (c0.toInt8.toInt32)) (c0.toInt8.toInt32) (own_b8 _) (j := (0 : Int32)) ⟨by decide, by decide⟩ 0 rfl (Nat.le_of_ble_eq_true rfl) (g := (mkF m 7 #[.val (.int c0)] [(.int (c0.toInt8.toInt32)), (.int (0 : Int32)), (.ref b1), (.ref b1)])) rfl rfl (hb hby own_jdk_43_method_46_7)
  refine own_step st2 ?_
  have K2 := K1.wr W2 (Or.inr sz_b1)
  have N2 := Fr.snoc X2 N0 g_b1
  have V2' : Arv Z h2 b1 k1 .byte (1 : Int32) [(.int (c0.toInt8.toInt32))] (.int (0 : Int32)) := V2
  show own_Goes _ _ _ _ T2 (mkF m 8 #[.val (.int c0)] [(.ref b1)])
  exact own_retA X2 hx hlk hrt rfl rfl rfl (hb hby own_jdk_43_method_46_8) (by rw [e2]; exact ⟨b1, k1, rfl, N2, K2, sz_b1, V2'⟩) (by decide) (by decide)
theorem own_pn_java_lang_String : plainName "java/lang/String" = true := by first | (simp [plainName, overriddenIn]; done) | decide +kernel
theorem own_ef3 (m : MethodId) (x0 : Addr) (x1 : Addr) (x2 : Int32) : entryFrame m #[(.ref x0), (.ref x1), (.int x2)] 3 = mkF m 0 #[.val (.ref x0), .val (.ref x1), .val (.int x2)] [] := by first | (simp [entryFrame, mkF, argsToLocals, Value.category]; done) | rfl
theorem own_jdk_42_method_151_0 : decode jdk_42_method_151_code 0 = .ok (.aload_n 0, 1) := by decide +kernel
theorem own_jdk_42_method_151_1 : decode jdk_42_method_151_code 1 = .ok (.invokespecial 1, 3) := by decide +kernel
theorem own_jdk_42_method_151_4 : decode jdk_42_method_151_code 4 = .ok (.aload_n 0, 1) := by decide +kernel
theorem own_jdk_42_method_151_5 : decode jdk_42_method_151_code 5 = .ok (.aload_n 1, 1) := by decide +kernel
theorem own_jdk_42_method_151_6 : decode jdk_42_method_151_code 6 = .ok (.putfield 9, 3) := by decide +kernel
theorem own_jdk_42_method_151_9 : decode jdk_42_method_151_code 9 = .ok (.aload_n 0, 1) := by decide +kernel
theorem own_jdk_42_method_151_10 : decode jdk_42_method_151_code 10 = .ok (.iload_n 2, 1) := by decide +kernel
theorem own_jdk_42_method_151_11 : decode jdk_42_method_151_code 11 = .ok (.putfield 15, 3) := by decide +kernel
theorem own_jdk_42_method_151_14 : decode jdk_42_method_151_code 14 = .ok (.return_, 1) := by decide +kernel
set_option maxRecDepth 65536 in
set_option maxHeartbeats 40000000 in
theorem own_inb (l : Launch) (Z : State) (a0 : Array Value) (hw : ∀ d ∈ tables_1, d.before a0 Z = true) (ws : List Jvm.Cond) (a : Addr) (vb : Addr) (h0 : Heap) (n0 : Nat) (Z0 : n0 ≤ h0.size) (E_a : Exa Z h0 a "java/lang/String") (F_a_value : Fld Z h0 a "java/lang/String" "value" "[B" .null) (F_a_coder : Fld Z h0 a "java/lang/String" "coder" "B" (.int (0 : Int32))) (g_a : n0 ≤ a) :
    own_Met l Z (⟨"java/lang/String", "<init>", "([BB)V"⟩ : MethodName) jdk_42_method_151_code 3 none ws ({ frames := 1, cells := 0, slots := 0, locals := 12 } : Room) #[(.ref a), (.ref vb), (.int (0 : Int32))] h0 (fun v h L => v = none ∧ Fr n0 L ∧ Keep h0 h [a] ∧ Exa Z h a "java/lang/String" ∧ Fld Z h a "java/lang/String" "coder" "B" (.int (0 : Int32)) ∧ Fld Z h a "java/lang/String" "value" "[B" (.ref vb)) := by
  refine own_body (plainFor_of_name own_pn_java_lang_String) (fun p e s m below meth c s₁ hx hby hml0 hrt hlk hown0 hnm hZ X0 e0 => ?_)
  have N0 := Fr.nil n0
  have hown : s.vm.findClass "java/lang/String" = some m.cls := hown0
  have hml : c.maxLocals = 3 := hml0
  refine own_castG (own_ef3 m a vb (0 : Int32)) ?_
  show own_Goes _ _ _ _ s₁ (mkF m 0 #[.val (.ref a), .val (.ref vb), .val (.int (0 : Int32))] [])
  refine own_step (fun t k => XS.aloadN X0.here hx rfl (hb hby own_jdk_42_method_151_0) rfl rfl k) ?_
  show own_Goes _ _ _ _ s₁ (mkF m 1 #[.val (.ref a), .val (.ref vb), .val (.int (0 : Int32))] [(.ref a)])
  obtain ⟨T1, X1, e1, st1⟩ := initO X0 hx hZ hown (hw _ (List.mem_of_getElem? (i := 12) rfl)) (hw _ (List.mem_of_getElem? (i := 13) rfl)) (hw _ (List.mem_of_getElem? (i := 14) rfl)) e0 (g := (mkF m 1 #[.val (.ref a), .val (.ref vb), .val (.int (0 : Int32))] [(.ref a)])) rfl (by rw [hml]; rfl) rfl (hb hby own_jdk_42_method_151_1) (by decide) (W := 0) (by show 2 * 0 + _ ≤ _; exact Nat.le_of_eq rfl) (by decide)
  refine own_step st1 ?_
  show own_Goes _ _ _ _ T1 (mkF m 4 #[.val (.ref a), .val (.ref vb), .val (.int (0 : Int32))] [])
  refine own_step (fun t k => XS.aloadN X1.here hx rfl (hb hby own_jdk_42_method_151_4) rfl rfl k) ?_
  show own_Goes _ _ _ _ T1 (mkF m 5 #[.val (.ref a), .val (.ref vb), .val (.int (0 : Int32))] [(.ref a)])
  refine own_step (fun t k => XS.aloadN X1.here hx rfl (hb hby own_jdk_42_method_151_5) rfl rfl k) ?_
  show own_Goes _ _ _ _ T1 (mkF m 6 #[.val (.ref a), .val (.ref vb), .val (.int (0 : Int32))] [(.ref vb), (.ref a)])
  obtain ⟨T2, h2, X2, e2, W2, st2⟩ := putF X1 hx hZ hown (host := "") (Or.inl (hw _ (List.mem_of_getElem? (i := 29) rfl))) Via.refl e1 F_a_value E_a (Or.inr ⟨(hw _ (List.mem_of_getElem? (i := 30) rfl)), rfl, hnm⟩) (hw _ (List.mem_of_getElem? (i := 2) rfl)) (ty := (.array .byte)) (by decide) rfl rfl (g := (mkF m 6 #[.val (.ref a), .val (.ref vb), .val (.int (0 : Int32))] [(.ref vb), (.ref a)])) rfl rfl (hb hby own_jdk_42_method_151_6)
  refine own_step st2 ?_
  have F2 := F_a_value.same W2
  have K2 := (Keep.refl h0 [a]).wr W2 (Or.inl (List.mem_of_getElem? (i := 0) rfl))
  have N2 := Fr.snoc X2 N0 g_a
  show own_Goes _ _ _ _ T2 (mkF m 9 #[.val (.ref a), .val (.ref vb), .val (.int (0 : Int32))] [])
  refine own_step (fun t k => XS.aloadN X2.here hx rfl (hb hby own_jdk_42_method_151_9) rfl rfl k) ?_
  show own_Goes _ _ _ _ T2 (mkF m 10 #[.val (.ref a), .val (.ref vb), .val (.int (0 : Int32))] [(.ref a)])
  refine own_step (fun t k => XS.iloadN X2.here hx rfl (hb hby own_jdk_42_method_151_10) rfl k) ?_
  show own_Goes _ _ _ _ T2 (mkF m 11 #[.val (.ref a), .val (.ref vb), .val (.int (0 : Int32))] [(.int (0 : Int32)), (.ref a)])
  have E_a_v4 := (E_a.wr W2)
  have F_a_coder_v5 := (F_a_coder.other W2 (Or.inr (slot_ne (Or.inr (hw _ (List.mem_of_getElem? (i := 28) rfl))) (Or.inr (hw _ (List.mem_of_getElem? (i := 30) rfl))) (by decide) (t := .byte) (t' := (.array .byte)) (by decide) (by decide))))
  obtain ⟨T3, h3, X3, e3, W3, st3⟩ := putFN X2 hx hZ hown (hw _ (List.mem_of_getElem? (i := 27) rfl)) Via.refl e2 F_a_coder_v5 E_a_v4 (Or.inr ⟨(hw _ (List.mem_of_getElem? (i := 28) rfl)), rfl, hnm⟩) (hw _ (List.mem_of_getElem? (i := 2) rfl)) (ty := .byte) (v' := (.int (0 : Int32))) (by decide) rfl rfl (g := (mkF m 11 #[.val (.ref a), .val (.ref vb), .val (.int (0 : Int32))] [(.int (0 : Int32)), (.ref a)])) rfl rfl (hb hby own_jdk_42_method_151_11)
  refine own_step st3 ?_
  have F3 := F_a_coder_v5.same W3
  have K3 := K2.wr W3 (Or.inl (List.mem_of_getElem? (i := 0) rfl))
  have N3 := Fr.snoc X3 N2 g_a
  show own_Goes _ _ _ _ T3 (mkF m 14 #[.val (.ref a), .val (.ref vb), .val (.int (0 : Int32))] [])
  have E_a_v6 := (E_a_v4.wr W3)
  have F2_v7 := (F2.other W3 (Or.inr (slot_ne (Or.inr (hw _ (List.mem_of_getElem? (i := 30) rfl))) (Or.inr (hw _ (List.mem_of_getElem? (i := 28) rfl))) (by decide) (t := (.array .byte)) (t' := .byte) (by decide) (by decide))))
  exact own_retV X3 hx hlk hrt (hb hby own_jdk_42_method_151_14) (by rw [e3]; exact ⟨rfl, N3, K3, E_a_v6, F3, F2_v7⟩) (by decide) (by decide)
theorem own_ef4 (m : MethodId) (x0 : Int32) : entryFrame m #[(.int x0)] 1 = mkF m 0 #[.val (.int x0)] [] := by first | (simp [entryFrame, mkF, argsToLocals, Value.category]; done) | rfl
theorem own_jdk_42_method_139_0 : decode jdk_42_method_139_code 0 = .ok (.getstatic 38, 3) := by decide +kernel
theorem own_jdk_42_method_139_3 : decode jdk_42_method_139_code 3 = .ok (.ifCond .eq 23, 3) := by decide +kernel
theorem own_jdk_42_method_139_6 : decode jdk_42_method_139_code 6 = .ok (.iload_n 0, 1) := by decide +kernel
theorem own_jdk_42_method_139_7 : decode jdk_42_method_139_code 7 = .ok (.invokestatic 1015, 3) := by decide +kernel
theorem own_pd0 : parseMethodDescriptor "(C)Z" = some ⟨[.char], some .boolean⟩ := by decide +kernel
theorem own_jdk_42_method_139_10 : decode jdk_42_method_139_code 10 = .ok (.ifCond .eq 16, 3) := by decide +kernel
theorem own_jdk_42_method_139_13 : decode jdk_42_method_139_code 13 = .ok (.new 10, 3) := by decide +kernel
theorem own_jdk_42_method_139_16 : decode jdk_42_method_139_code 16 = .ok (.dup, 1) := by decide +kernel
theorem own_jdk_42_method_139_17 : decode jdk_42_method_139_code 17 = .ok (.iload_n 0, 1) := by decide +kernel
theorem own_jdk_42_method_139_18 : decode jdk_42_method_139_code 18 = .ok (.invokestatic 1018, 3) := by decide +kernel
theorem own_pd1 : parseMethodDescriptor "(C)[B" = some ⟨[.char], some (.array .byte)⟩ := by decide +kernel
theorem own_jdk_42_method_139_21 : decode jdk_42_method_139_code 21 = .ok (.iconst 0, 1) := by decide +kernel
theorem own_jdk_42_method_139_22 : decode jdk_42_method_139_code 22 = .ok (.invokespecial 209, 3) := by decide +kernel
theorem own_pd2 : parseMethodDescriptor "([BB)V" = some ⟨[(.array .byte), .byte], none⟩ := by decide +kernel
theorem own_jdk_42_method_139_25 : decode jdk_42_method_139_code 25 = .ok (.areturn, 1) := by decide +kernel
set_option maxRecDepth 65536 in
set_option maxHeartbeats 40000000 in
theorem own_vof (l : Launch) (Z : State) (a0 : Array Value) (hw : ∀ d ∈ tables_1, d.before a0 Z = true) (ws : List Jvm.Cond) (c0 : Int32) (zc : Int32) (h0 : Heap) (n0 : Nat) (Z0 : n0 ≤ h0.size) (S_COMPACT_STRINGS : Sta Z h0 "java/lang/String" "COMPACT_STRINGS" "Z" (.int zc)) (hc0 : ¬ ((255 : Int32) < c0)) (hz : ¬ (zc = (0 : Int32))) :
    own_Met l Z (⟨"java/lang/String", "valueOf", "(C)Ljava/lang/String;"⟩ : MethodName) jdk_42_method_139_code 1 (some (.object "java/lang/String")) ws ({ frames := 2, cells := 2, slots := 5, locals := 27 } : Room) #[(.int c0)] h0 (fun v h L => ∃ r : Addr, v = some (.ref r) ∧ Fr n0 L ∧ Keep h0 h [] ∧ h0.size ≤ r ∧ Exa Z h r "java/lang/String") := by
  refine own_body (plainFor_of_name own_pn_java_lang_String) (fun p e s m below meth c s₁ hx hby hml0 hrt hlk hown0 hnm hZ X0 e0 => ?_)
  have N0 := Fr.nil n0
  have hown : s.vm.findClass "java/lang/String" = some m.cls := hown0
  have hml : c.maxLocals = 1 := hml0
  refine own_castG (own_ef4 m c0) ?_
  show own_Goes _ _ _ _ s₁ (mkF m 0 #[.val (.int c0)] [])
  obtain ⟨T1, X1, e1, st1⟩ := getS2 X0 hx hZ hown (host := "") (Or.inl (hw _ (List.mem_of_getElem? (i := 15) rfl))) Via.refl e0 S_COMPACT_STRINGS (g := (mkF m 0 #[.val (.int c0)] [])) rfl (hb hby own_jdk_42_method_139_0)
  refine own_step st1 ?_
  show own_Goes _ _ _ _ T1 (mkF m 3 #[.val (.int c0)] [(.int zc)])
  refine own_step (fun t k => XS.ifNo X1.here hx rfl (hb hby own_jdk_42_method_139_3) rfl ((if0 _ _).trans (feq (show ¬ (zc = (0 : Int32)) from hz)).1) k) ?_
  show own_Goes _ _ _ _ T1 (mkF m 6 #[.val (.int c0)] [])
  refine own_step (fun t k => XS.iloadN X1.here hx rfl (hb hby own_jdk_42_method_139_6) rfl k) ?_
  show own_Goes _ _ _ _ T1 (mkF m 7 #[.val (.int c0)] [(.int c0)])
  refine own_callS X1 hx hZ (y := (⟨"java/lang/StringLatin1", "canEncode", "(C)Z"⟩ : MethodName)) hown (hw _ (List.mem_of_getElem? (i := 39) rfl)) (hw _ (List.mem_of_getElem? (i := 40) rfl)) (hw _ (List.mem_of_getElem? (i := 41) rfl)) (hw _ (List.mem_of_getElem? (i := 42) rfl)) (by decide) 0 [(.int c0)] [] (own_can l Z a0 hw [] c0 h0 n0 Z0 hc0) e1  (by decide) (by decide) (by decide) (by decide) (g := (mkF m 7 #[.val (.int c0)] [(.int c0)])) rfl (by rw [hml]; rfl) own_pd0 rfl rfl (by show 2 * 0 + _ ≤ _; exact Nat.le_of_eq rfl) (hb hby own_jdk_42_method_139_7) ?_
  intro T2 v2 L2 X2 hQ2
  obtain ⟨rfl, N2q, e2⟩ := hQ2
  have N2 := Fr.app N0 N2q
  show own_Goes _ _ _ _ T2 (mkF m 10 #[.val (.int c0)] [(.int (1 : Int32))])
  refine own_step (fun t k => XS.ifNo X2.here hx rfl (hb hby own_jdk_42_method_139_10) rfl ((if0 _ _).trans (feq (show ¬ ((1 : Int32) = (0 : Int32)) from (by decide))).1) k) ?_
  show own_Goes _ _ _ _ T2 (mkF m 13 #[.val (.int c0)] [])
  obtain ⟨T3, h3, X3, e3, E3, A3, D3, -, st3⟩ := newO X2 hx hZ hown (hw _ (List.mem_of_getElem? (i := 43) rfl)) (hw _ (List.mem_of_getElem? (i := 2) rfl)) (hw _ (List.mem_of_getElem? (i := 3) rfl)) e2 (g := (mkF m 13 #[.val (.int c0)] [])) rfl (hb hby own_jdk_42_method_139_13) (by decide) (by decide)
  obtain ⟨b3, g3⟩ : ∃ z, z = h0.size := ⟨_, rfl⟩
  rw [← g3] at A3 D3 st3
  refine own_step st3 ?_
  have g_b3 : n0 ≤ b3 := Nat.le_trans Z0 (Nat.le_of_eq g3.symm)
  have sz_b3 : h0.size ≤ b3 := Nat.le_trans (Keep.refl h0 []).1 (Nat.le_of_eq g3.symm)
  have K3 := (Keep.refl h0 []).ext E3
  have F_b3_coder : Fld Z h3 b3 "java/lang/String" "coder" "B" (.int (0 : Int32)) := D3 (Or.inr (hw _ (List.mem_of_getElem? (i := 28) rfl))) (ty := .byte) (by decide)
  have F_b3_value : Fld Z h3 b3 "java/lang/String" "value" "[B" .null := D3 (Or.inr (hw _ (List.mem_of_getElem? (i := 30) rfl))) (ty := (.array .byte)) (by decide)
  show own_Goes _ _ _ _ T3 (mkF m 16 #[.val (.int c0)] [(.ref b3)])
  refine own_step (fun t k => XS.dup X3.here hx rfl (hb hby own_jdk_42_method_139_16) rfl rfl k) ?_
  show own_Goes _ _ _ _ T3 (mkF m 17 #[.val (.int c0)] [(.ref b3), (.ref b3)])
  refine own_step (fun t k => XS.iloadN X3.here hx rfl (hb hby own_jdk_42_method_139_17) rfl k) ?_
  show own_Goes _ _ _ _ T3 (mkF m 18 #[.val (.int c0)] [(.int c0), (.ref b3), (.ref b3)])
  refine own_callS X3 hx hZ (y := (⟨"java/lang/StringLatin1", "toBytes", "(C)[B"⟩ : MethodName)) hown (hw _ (List.mem_of_getElem? (i := 44) rfl)) (hw _ (List.mem_of_getElem? (i := 45) rfl)) (hw _ (List.mem_of_getElem? (i := 41) rfl)) (hw _ (List.mem_of_getElem? (i := 46) rfl)) (by decide) 2 [(.int c0)] [(.ref b3), (.ref b3)] (own_tob l Z a0 hw [] c0 h3 n0 (Nat.le_trans Z0 K3.1) ) e3  (by decide) (by decide) (by decide) (by decide) (g := (mkF m 18 #[.val (.int c0)] [(.int c0), (.ref b3), (.ref b3)])) rfl (by rw [hml]; rfl) own_pd1 rfl rfl (by show 2 * 0 + _ ≤ _; exact Nat.le_of_eq rfl) (hb hby own_jdk_42_method_139_18) ?_
  intro T4 v4 L4 X4 hQ4
  obtain ⟨b4_0, k4_0, rfl, N4q, Kq4, zq4_0, q4_0⟩ := hQ4
  have N4 := Fr.app N2 N4q
  have K4 := K3.trans Kq4 all0
  have g_b4_0 : n0 ≤ b4_0 := Nat.le_trans (Nat.le_trans Z0 K3.1) zq4_0
  have sz_b4_0 : h0.size ≤ b4_0 := Nat.le_trans K3.1 zq4_0
  have ne_b3_b4_0 : b3 ≠ b4_0 := Nat.ne_of_lt (Nat.lt_of_lt_of_le A3.lt zq4_0)
  have q4_0' : Arv Z T4.heap b4_0 k4_0 .byte (1 : Int32) [(.int (c0.toInt8.toInt32))] (.int (0 : Int32)) := q4_0
  show own_Goes _ _ _ _ T4 (mkF m 21 #[.val (.int c0)] [(.ref b4_0), (.ref b3), (.ref b3)])
  refine own_step (fun t k => XS.iconst X4.here hx rfl (hb hby own_jdk_42_method_139_21) k) ?_
  show own_Goes _ _ _ _ T4 (mkF m 22 #[.val (.int c0)] [(.int (0 : Int32)), (.ref b4_0), (.ref b3), (.ref b3)])
  have A3_v5 := (A3.keep Kq4)
  have F_b3_value_v6 := (F_b3_value.keep Kq4 nin0)
  have F_b3_coder_v7 := (F_b3_coder.keep Kq4 nin0)
  refine own_callC X4 hx hZ (y := (⟨"java/lang/String", "<init>", "([BB)V"⟩ : MethodName)) rfl hown (hw _ (List.mem_of_getElem? (i := 47) rfl)) (hw _ (List.mem_of_getElem? (i := 48) rfl)) (hw _ (List.mem_of_getElem? (i := 49) rfl)) (hw _ (List.mem_of_getElem? (i := 3) rfl)) (by decide) 1 (a := b3) [(.ref b4_0), (.int (0 : Int32))] [(.ref b3)] (own_inb l Z a0 hw [] b3 b4_0 T4.heap n0 (Nat.le_trans Z0 K4.1) A3_v5 F_b3_value_v6 F_b3_coder_v7 g_b3) rfl  (by decide) (by decide) (by decide) (by decide) (g := (mkF m 22 #[.val (.int c0)] [(.int (0 : Int32)), (.ref b4_0), (.ref b3), (.ref b3)])) rfl (by rw [hml]; rfl) own_pd2 rfl rfl (by show 2 * 0 + _ ≤ _; exact Nat.le_of_eq rfl) (hb hby own_jdk_42_method_139_22) ?_
  intro T8 v8 L8 X8 hQ8
  obtain ⟨rfl, N8q, Kq8, q8_0, q8_1, q8_2⟩ := hQ8
  have N8 := Fr.app N4 N8q
  have K8 := K4.trans Kq8 (allS (Or.inr sz_b3) all0)
  have q8_0' : Exa Z T8.heap b3 "java/lang/String" := q8_0
  have q8_1' : Fld Z T8.heap b3 "java/lang/String" "coder" "B" (.int (0 : Int32)) := q8_1
  have q8_2' : Fld Z T8.heap b3 "java/lang/String" "value" "[B" (.ref b4_0) := q8_2
  show own_Goes _ _ _ _ T8 (mkF m 25 #[.val (.int c0)] [(.ref b3)])
  exact own_retA X8 hx hlk hrt rfl rfl rfl (hb hby own_jdk_42_method_139_25) (by exact ⟨b3, rfl, N8, K8, sz_b3, q8_0'⟩) (by decide) (by decide)
theorem own_pn_java_lang_StringUTF16 : plainName "java/lang/StringUTF16" = true := by first | (simp [plainName, overriddenIn]; done) | decide +kernel
theorem own_ef5 (m : MethodId) (x0 : Addr) (x1 : Int32) (x2 : Addr) (x3 : Int32) (x4 : Int32) : entryFrame m #[(.ref x0), (.int x1), (.ref x2), (.int x3), (.int x4)] 7 = mkF m 0 #[.val (.ref x0), .val (.int x1), .val (.ref x2), .val (.int x3), .val (.int x4), .unset, .unset] [] := by first | (simp [entryFrame, mkF, argsToLocals, Value.category]; done) | rfl
theorem own_jdk_52_method_21_0 : decode jdk_52_method_21_code 0 = .ok (.iconst 0, 1) := by decide +kernel
theorem own_jdk_52_method_21_1 : decode jdk_52_method_21_code 1 = .ok (.istore 5, 2) := by decide +kernel
theorem own_jdk_52_method_21_3 : decode jdk_52_method_21_code 3 = .ok (.iload 5, 2) := by decide +kernel
theorem own_jdk_52_method_21_5 : decode jdk_52_method_21_code 5 = .ok (.iload 4, 2) := by decide +kernel
theorem own_jdk_52_method_21_7 : decode jdk_52_method_21_code 7 = .ok (.if_icmp .ge 37, 3) := by decide +kernel
theorem own_jdk_52_method_21_10 : decode jdk_52_method_21_code 10 = .ok (.aload_n 0, 1) := by decide +kernel
theorem own_jdk_52_method_21_11 : decode jdk_52_method_21_code 11 = .ok (.iload_n 1, 1) := by decide +kernel
theorem own_jdk_52_method_21_12 : decode jdk_52_method_21_code 12 = .ok (.caload, 1) := by decide +kernel
theorem own_jdk_52_method_21_13 : decode jdk_52_method_21_code 13 = .ok (.istore 6, 2) := by decide +kernel
theorem own_jdk_52_method_21_15 : decode jdk_52_method_21_code 15 = .ok (.iload 6, 2) := by decide +kernel
theorem own_jdk_52_method_21_17 : decode jdk_52_method_21_code 17 = .ok (.sipush 255, 3) := by decide +kernel
theorem own_jdk_52_method_21_20 : decode jdk_52_method_21_code 20 = .ok (.if_icmp .le 6, 3) := by decide +kernel
theorem own_jdk_52_method_21_26 : decode jdk_52_method_21_code 26 = .ok (.aload_n 2, 1) := by decide +kernel
theorem own_jdk_52_method_21_27 : decode jdk_52_method_21_code 27 = .ok (.iload_n 3, 1) := by decide +kernel
theorem own_jdk_52_method_21_28 : decode jdk_52_method_21_code 28 = .ok (.iload 6, 2) := by decide +kernel
theorem own_jdk_52_method_21_30 : decode jdk_52_method_21_code 30 = .ok (.i2b, 1) := by decide +kernel
theorem own_jdk_52_method_21_31 : decode jdk_52_method_21_code 31 = .ok (.bastore, 1) := by decide +kernel
theorem own_jdk_52_method_21_32 : decode jdk_52_method_21_code 32 = .ok (.iinc 1 1, 3) := by decide +kernel
theorem own_jdk_52_method_21_35 : decode jdk_52_method_21_code 35 = .ok (.iinc 3 1, 3) := by decide +kernel
theorem own_jdk_52_method_21_38 : decode jdk_52_method_21_code 38 = .ok (.iinc 5 1, 3) := by decide +kernel
theorem own_jdk_52_method_21_41 : decode jdk_52_method_21_code 41 = .ok (.goto (-38), 3) := by decide +kernel
theorem own_jdk_52_method_21_44 : decode jdk_52_method_21_code 44 = .ok (.iload 4, 2) := by decide +kernel
theorem own_jdk_52_method_21_46 : decode jdk_52_method_21_code 46 = .ok (.ireturn, 1) := by decide +kernel
set_option maxRecDepth 65536 in
set_option maxHeartbeats 40000000 in
theorem own_comp5_2 (l : Launch) (Z : State) (a0 : Array Value) (hw : ∀ d ∈ tables_1, d.before a0 Z = true) (ws : List Jvm.Cond) (sr : Addr) (dr : Addr) (ks : ClassId) (kd : ClassId) (c0 : Int32) (c1 : Int32) (h0 : Heap) (n0 : Nat) (Z0 : n0 ≤ h0.size) (V_sr : Arv Z h0 sr ks .char (2 : Int32) [(.int c0), (.int c1)] (.int (0 : Int32))) (V_dr : Arv Z h0 dr kd .byte (2 : Int32) [(.int (0 : Int32)), (.int (0 : Int32))] (.int (0 : Int32))) (hc0 : ¬ ((255 : Int32) < c0)) (hc1 : ¬ ((255 : Int32) < c1)) (nesd : ¬ (sr = dr)) (g_dr : n0 ≤ dr) :
    own_Met l Z (⟨"java/lang/StringUTF16", "compress", "([CI[BII)I"⟩ : MethodName) jdk_52_method_21_code 7 (some .int) ws ({ frames := 0, cells := 0, slots := 0, locals := 0 } : Room) #[(.ref sr), (.int (0 : Int32)), (.ref dr), (.int (0 : Int32)), (.int (2 : Int32))] h0 (fun v h L => v = some (.int (2 : Int32)) ∧ Fr n0 L ∧ Keep h0 h [dr] ∧ Arv Z h dr kd .byte (2 : Int32) [(.int (c0.toInt8.toInt32)), (.int (c1.toInt8.toInt32))] (.int (0 : Int32))) := by
  refine own_body (plainFor_of_name own_pn_java_lang_StringUTF16) (fun p e s m below meth c s₁ hx hby hml0 hrt hlk hown0 hnm hZ X0 e0 => ?_)
  have N0 := Fr.nil n0
  have hown : s.vm.findClass "java/lang/StringUTF16" = some m.cls := hown0
  have hml : c.maxLocals = 7 := hml0
  refine own_castG (own_ef5 m sr (0 : Int32) dr (0 : Int32) (2 : Int32)) ?_
  show own_Goes _ _ _ _ s₁ (mkF m 0 #[.val (.ref sr), .val (.int (0 : Int32)), .val (.ref dr), .val (.int (0 : Int32)), .val (.int (2 : Int32)), .unset, .unset] [])
  refine own_step (fun t k => XS.iconst X0.here hx rfl (hb hby own_jdk_52_method_21_0) k) ?_
  show own_Goes _ _ _ _ s₁ (mkF m 1 #[.val (.ref sr), .val (.int (0 : Int32)), .val (.ref dr), .val (.int (0 : Int32)), .val (.int (2 : Int32)), .unset, .unset] [(.int (0 : Int32))])
  refine own_step (fun t k => XS.istore X0.here hx rfl (hb hby own_jdk_52_method_21_1) rfl (l' := #[.val (.ref sr), .val (.int (0 : Int32)), .val (.ref dr), .val (.int (0 : Int32)), .val (.int (2 : Int32)), .val (.int (0 : Int32)), .unset]) rfl k) ?_
  show own_Goes _ _ _ _ s₁ (mkF m 3 #[.val (.ref sr), .val (.int (0 : Int32)), .val (.ref dr), .val (.int (0 : Int32)), .val (.int (2 : Int32)), .val (.int (0 : Int32)), .unset] [])
  refine own_step (fun t k => XS.iload X0.here hx rfl (hb hby own_jdk_52_method_21_3) rfl k) ?_
  show own_Goes _ _ _ _ s₁ (mkF m 5 #[.val (.ref sr), .val (.int (0 : Int32)), .val (.ref dr), .val (.int (0 : Int32)), .val (.int (2 : Int32)), .val (.int (0 : Int32)), .unset] [(.int (0 : Int32))])
  refine own_step (fun t k => XS.iload X0.here hx rfl (hb hby own_jdk_52_method_21_5) rfl k) ?_
  show own_Goes _ _ _ _ s₁ (mkF m 7 #[.val (.ref sr), .val (.int (0 : Int32)), .val (.ref dr), .val (.int (0 : Int32)), .val (.int (2 : Int32)), .val (.int (0 : Int32)), .unset] [(.int (2 : Int32)), (.int (0 : Int32))])
  refine own_step (fun t k => XS.icmpNo X0.here hx rfl (hb hby own_jdk_52_method_21_7) rfl (tlt (show (0 : Int32) < (2 : Int32) from (by decide))).2.1 k) ?_
  show own_Goes _ _ _ _ s₁ (mkF m 10 #[.val (.ref sr), .val (.int (0 : Int32)), .val (.ref dr), .val (.int (0 : Int32)), .val (.int (2 : Int32)), .val (.int (0 : Int32)), .unset] [])
  refine own_step (fun t k => XS.aloadN X0.here hx rfl (hb hby own_jdk_52_method_21_10) rfl rfl k) ?_
  show own_Goes _ _ _ _ s₁ (mkF m 11 #[.val (.ref sr), .val (.int (0 : Int32)), .val (.ref dr), .val (.int (0 : Int32)), .val (.int (2 : Int32)), .val (.int (0 : Int32)), .unset] [(.ref sr)])
  refine own_step (fun t k => XS.iloadN X0.here hx rfl (hb hby own_jdk_52_method_21_11) rfl k) ?_
  show own_Goes _ _ _ _ s₁ (mkF m 12 #[.val (.ref sr), .val (.int (0 : Int32)), .val (.ref dr), .val (.int (0 : Int32)), .val (.int (2 : Int32)), .val (.int (0 : Int32)), .unset] [(.int (0 : Int32)), (.ref sr)])
  refine own_step (own_caload X0 hx hZ e0 V_sr (.int c0) ⟨by decide, by decide⟩ rfl (g := (mkF m 12 #[.val (.ref sr), .val (.int (0 : Int32)), .val (.ref dr), .val (.int (0 : Int32)), .val (.int (2 : Int32)), .val (.int (0 : Int32)), .unset] [(.int (0 : Int32)), (.ref sr)])) rfl rfl (hb hby own_jdk_52_method_21_12)) ?_
  show own_Goes _ _ _ _ s₁ (mkF m 13 #[.val (.ref sr), .val (.int (0 : Int32)), .val (.ref dr), .val (.int (0 : Int32)), .val (.int (2 : Int32)), .val (.int (0 : Int32)), .unset] [(.int c0)])
  refine own_step (fun t k => XS.istore X0.here hx rfl (hb hby own_jdk_52_method_21_13) rfl (l' := #[.val (.ref sr), .val (.int (0 : Int32)), .val (.ref dr), .val (.int (0 : Int32)), .val (.int (2 : Int32)), .val (.int (0 : Int32)), .val (.int c0)]) rfl k) ?_
  show own_Goes _ _ _ _ s₁ (mkF m 15 #[.val (.ref sr), .val (.int (0 : Int32)), .val (.ref dr), .val (.int (0 : Int32)), .val (.int (2 : Int32)), .val (.int (0 : Int32)), .val (.int c0)] [])
  refine own_step (fun t k => XS.iload X0.here hx rfl (hb hby own_jdk_52_method_21_15) rfl k) ?_
  show own_Goes _ _ _ _ s₁ (mkF m 17 #[.val (.ref sr), .val (.int (0 : Int32)), .val (.ref dr), .val (.int (0 : Int32)), .val (.int (2 : Int32)), .val (.int (0 : Int32)), .val (.int c0)] [(.int c0)])
  refine own_step (fun t k => XS.sipush X0.here hx rfl (hb hby own_jdk_52_method_21_17) k) ?_
  show own_Goes _ _ _ _ s₁ (mkF m 20 #[.val (.ref sr), .val (.int (0 : Int32)), .val (.ref dr), .val (.int (0 : Int32)), .val (.int (2 : Int32)), .val (.int (0 : Int32)), .val (.int c0)] [(.int (255 : Int32)), (.int c0)])
  refine own_step (fun t k => XS.icmpYes X0.here hx rfl (pc0 := 20) (pc' := 26) rfl (hb hby own_jdk_52_method_21_20) rfl (flt (show ¬ ((255 : Int32) < c0) from hc0)).2.2.2 (by decide) (by decide) k) ?_
  show own_Goes _ _ _ _ s₁ (mkF m 26 #[.val (.ref sr), .val (.int (0 : Int32)), .val (.ref dr), .val (.int (0 : Int32)), .val (.int (2 : Int32)), .val (.int (0 : Int32)), .val (.int c0)] [])
  refine own_step (fun t k => XS.aloadN X0.here hx rfl (hb hby own_jdk_52_method_21_26) rfl rfl k) ?_
  show own_Goes _ _ _ _ s₁ (mkF m 27 #[.val (.ref sr), .val (.int (0 : Int32)), .val (.ref dr), .val (.int (0 : Int32)), .val (.int (2 : Int32)), .val (.int (0 : Int32)), .val (.int c0)] [(.ref dr)])
  refine own_step (fun t k => XS.iloadN X0.here hx rfl (hb hby own_jdk_52_method_21_27) rfl k) ?_
  show own_Goes _ _ _ _ s₁ (mkF m 28 #[.val (.ref sr), .val (.int (0 : Int32)), .val (.ref dr), .val (.int (0 : Int32)), .val (.int (2 : Int32)), .val (.int (0 : Int32)), .val (.int c0)] [(.int (0 : Int32)), (.ref dr)])
  refine own_step (fun t k => XS.iload X0.here hx rfl (hb hby own_jdk_52_method_21_28) rfl k) ?_
  show own_Goes _ _ _ _ s₁ (mkF m 30 #[.val (.ref sr), .val (.int (0 : Int32)), .val (.ref dr), .val (.int (0 : Int32)), .val (.int (2 : Int32)), .val (.int (0 : Int32)), .val (.int c0)] [(.int c0), (.int (0 : Int32)), (.ref dr)])
  refine own_step (fun t k => XS.i2b X0.here hx rfl (hb hby own_jdk_52_method_21_30) rfl k) ?_
  show own_Goes _ _ _ _ s₁ (mkF m 31 #[.val (.ref sr), .val (.int (0 : Int32)), .val (.ref dr), .val (.int (0 : Int32)), .val (.int (2 : Int32)), .val (.int (0 : Int32)), .val (.int c0)] [(.int (c0.toInt8.toInt32)), (.int (0 : Int32)), (.ref dr)])
  obtain ⟨T1, h1, X1, e1, W1, V1, st1⟩ := own_bastore X0 hx hZ e0 V_dr (x := (c0.toInt8.toInt32)) (c0.toInt8.toInt32) (own_b8 _) (j := (0 : Int32)) ⟨by decide, by decide⟩ 0 rfl (Nat.le_of_ble_eq_true rfl) (g := (mkF m 31 #[.val (.ref sr), .val (.int (0 : Int32)), .val (.ref dr), .val (.int (0 : Int32)), .val (.int (2 : Int32)), .val (.int (0 : Int32)), .val (.int c0)] [(.int (c0.toInt8.toInt32)), (.int (0 : Int32)), (.ref dr)])) rfl rfl (hb hby own_jdk_52_method_21_31)
  refine own_step st1 ?_
  have K1 := (Keep.refl h0 [dr]).wr W1 (Or.inl (List.mem_of_getElem? (i := 0) rfl))
  have N1 := Fr.snoc X1 N0 g_dr
  have V1' : Arv Z h1 dr kd .byte (2 : Int32) [(.int (c0.toInt8.toInt32)), (.int (0 : Int32))] (.int (0 : Int32)) := V1
  show own_Goes _ _ _ _ T1 (mkF m 32 #[.val (.ref sr), .val (.int (0 : Int32)), .val (.ref dr), .val (.int (0 : Int32)), .val (.int (2 : Int32)), .val (.int (0 : Int32)), .val (.int c0)] [])
  refine own_step (fun t k => XS.iinc X1.here hx rfl (hb hby own_jdk_52_method_21_32) rfl (l' := #[.val (.ref sr), .val (.int (1 : Int32)), .val (.ref dr), .val (.int (0 : Int32)), .val (.int (2 : Int32)), .val (.int (0 : Int32)), .val (.int c0)]) rfl k) ?_
  show own_Goes _ _ _ _ T1 (mkF m 35 #[.val (.ref sr), .val (.int (1 : Int32)), .val (.ref dr), .val (.int (0 : Int32)), .val (.int (2 : Int32)), .val (.int (0 : Int32)), .val (.int c0)] [])
  refine own_step (fun t k => XS.iinc X1.here hx rfl (hb hby own_jdk_52_method_21_35) rfl (l' := #[.val (.ref sr), .val (.int (1 : Int32)), .val (.ref dr), .val (.int (1 : Int32)), .val (.int (2 : Int32)), .val (.int (0 : Int32)), .val (.int c0)]) rfl k) ?_
  show own_Goes _ _ _ _ T1 (mkF m 38 #[.val (.ref sr), .val (.int (1 : Int32)), .val (.ref dr), .val (.int (1 : Int32)), .val (.int (2 : Int32)), .val (.int (0 : Int32)), .val (.int c0)] [])
  refine own_step (fun t k => XS.iinc X1.here hx rfl (hb hby own_jdk_52_method_21_38) rfl (l' := #[.val (.ref sr), .val (.int (1 : Int32)), .val (.ref dr), .val (.int (1 : Int32)), .val (.int (2 : Int32)), .val (.int (1 : Int32)), .val (.int c0)]) rfl k) ?_
  show own_Goes _ _ _ _ T1 (mkF m 41 #[.val (.ref sr), .val (.int (1 : Int32)), .val (.ref dr), .val (.int (1 : Int32)), .val (.int (2 : Int32)), .val (.int (1 : Int32)), .val (.int c0)] [])
  refine own_step (fun t k => XS.goto X1.here hx rfl (pc0 := 41) (pc' := 3) rfl (hb hby own_jdk_52_method_21_41) (by decide) (by decide) k) ?_
  show own_Goes _ _ _ _ T1 (mkF m 3 #[.val (.ref sr), .val (.int (1 : Int32)), .val (.ref dr), .val (.int (1 : Int32)), .val (.int (2 : Int32)), .val (.int (1 : Int32)), .val (.int c0)] [])
  refine own_step (fun t k => XS.iload X1.here hx rfl (hb hby own_jdk_52_method_21_3) rfl k) ?_
  show own_Goes _ _ _ _ T1 (mkF m 5 #[.val (.ref sr), .val (.int (1 : Int32)), .val (.ref dr), .val (.int (1 : Int32)), .val (.int (2 : Int32)), .val (.int (1 : Int32)), .val (.int c0)] [(.int (1 : Int32))])
  refine own_step (fun t k => XS.iload X1.here hx rfl (hb hby own_jdk_52_method_21_5) rfl k) ?_
  show own_Goes _ _ _ _ T1 (mkF m 7 #[.val (.ref sr), .val (.int (1 : Int32)), .val (.ref dr), .val (.int (1 : Int32)), .val (.int (2 : Int32)), .val (.int (1 : Int32)), .val (.int c0)] [(.int (2 : Int32)), (.int (1 : Int32))])
  refine own_step (fun t k => XS.icmpNo X1.here hx rfl (hb hby own_jdk_52_method_21_7) rfl (tlt (show (1 : Int32) < (2 : Int32) from (by decide))).2.1 k) ?_
  show own_Goes _ _ _ _ T1 (mkF m 10 #[.val (.ref sr), .val (.int (1 : Int32)), .val (.ref dr), .val (.int (1 : Int32)), .val (.int (2 : Int32)), .val (.int (1 : Int32)), .val (.int c0)] [])
  refine own_step (fun t k => XS.aloadN X1.here hx rfl (hb hby own_jdk_52_method_21_10) rfl rfl k) ?_
  show own_Goes _ _ _ _ T1 (mkF m 11 #[.val (.ref sr), .val (.int (1 : Int32)), .val (.ref dr), .val (.int (1 : Int32)), .val (.int (2 : Int32)), .val (.int (1 : Int32)), .val (.int c0)] [(.ref sr)])
  refine own_step (fun t k => XS.iloadN X1.here hx rfl (hb hby own_jdk_52_method_21_11) rfl k) ?_
  show own_Goes _ _ _ _ T1 (mkF m 12 #[.val (.ref sr), .val (.int (1 : Int32)), .val (.ref dr), .val (.int (1 : Int32)), .val (.int (2 : Int32)), .val (.int (1 : Int32)), .val (.int c0)] [(.int (1 : Int32)), (.ref sr)])
  have V_sr_v2 := (V_sr.other W1 nesd)
  refine own_step (own_caload X1 hx hZ e1 V_sr_v2 (.int c1) ⟨by decide, by decide⟩ rfl (g := (mkF m 12 #[.val (.ref sr), .val (.int (1 : Int32)), .val (.ref dr), .val (.int (1 : Int32)), .val (.int (2 : Int32)), .val (.int (1 : Int32)), .val (.int c0)] [(.int (1 : Int32)), (.ref sr)])) rfl rfl (hb hby own_jdk_52_method_21_12)) ?_
  show own_Goes _ _ _ _ T1 (mkF m 13 #[.val (.ref sr), .val (.int (1 : Int32)), .val (.ref dr), .val (.int (1 : Int32)), .val (.int (2 : Int32)), .val (.int (1 : Int32)), .val (.int c0)] [(.int c1)])
  refine own_step (fun t k => XS.istore X1.here hx rfl (hb hby own_jdk_52_method_21_13) rfl (l' := #[.val (.ref sr), .val (.int (1 : Int32)), .val (.ref dr), .val (.int (1 : Int32)), .val (.int (2 : Int32)), .val (.int (1 : Int32)), .val (.int c1)]) rfl k) ?_
  show own_Goes _ _ _ _ T1 (mkF m 15 #[.val (.ref sr), .val (.int (1 : Int32)), .val (.ref dr), .val (.int (1 : Int32)), .val (.int (2 : Int32)), .val (.int (1 : Int32)), .val (.int c1)] [])
  refine own_step (fun t k => XS.iload X1.here hx rfl (hb hby own_jdk_52_method_21_15) rfl k) ?_
  show own_Goes _ _ _ _ T1 (mkF m 17 #[.val (.ref sr), .val (.int (1 : Int32)), .val (.ref dr), .val (.int (1 : Int32)), .val (.int (2 : Int32)), .val (.int (1 : Int32)), .val (.int c1)] [(.int c1)])
  refine own_step (fun t k => XS.sipush X1.here hx rfl (hb hby own_jdk_52_method_21_17) k) ?_
  show own_Goes _ _ _ _ T1 (mkF m 20 #[.val (.ref sr), .val (.int (1 : Int32)), .val (.ref dr), .val (.int (1 : Int32)), .val (.int (2 : Int32)), .val (.int (1 : Int32)), .val (.int c1)] [(.int (255 : Int32)), (.int c1)])
  refine own_step (fun t k => XS.icmpYes X1.here hx rfl (pc0 := 20) (pc' := 26) rfl (hb hby own_jdk_52_method_21_20) rfl (flt (show ¬ ((255 : Int32) < c1) from hc1)).2.2.2 (by decide) (by decide) k) ?_
  show own_Goes _ _ _ _ T1 (mkF m 26 #[.val (.ref sr), .val (.int (1 : Int32)), .val (.ref dr), .val (.int (1 : Int32)), .val (.int (2 : Int32)), .val (.int (1 : Int32)), .val (.int c1)] [])
  refine own_step (fun t k => XS.aloadN X1.here hx rfl (hb hby own_jdk_52_method_21_26) rfl rfl k) ?_
  show own_Goes _ _ _ _ T1 (mkF m 27 #[.val (.ref sr), .val (.int (1 : Int32)), .val (.ref dr), .val (.int (1 : Int32)), .val (.int (2 : Int32)), .val (.int (1 : Int32)), .val (.int c1)] [(.ref dr)])
  refine own_step (fun t k => XS.iloadN X1.here hx rfl (hb hby own_jdk_52_method_21_27) rfl k) ?_
  show own_Goes _ _ _ _ T1 (mkF m 28 #[.val (.ref sr), .val (.int (1 : Int32)), .val (.ref dr), .val (.int (1 : Int32)), .val (.int (2 : Int32)), .val (.int (1 : Int32)), .val (.int c1)] [(.int (1 : Int32)), (.ref dr)])
  refine own_step (fun t k => XS.iload X1.here hx rfl (hb hby own_jdk_52_method_21_28) rfl k) ?_
  show own_Goes _ _ _ _ T1 (mkF m 30 #[.val (.ref sr), .val (.int (1 : Int32)), .val (.ref dr), .val (.int (1 : Int32)), .val (.int (2 : Int32)), .val (.int (1 : Int32)), .val (.int c1)] [(.int c1), (.int (1 : Int32)), (.ref dr)])
  refine own_step (fun t k => XS.i2b X1.here hx rfl (hb hby own_jdk_52_method_21_30) rfl k) ?_
  show own_Goes _ _ _ _ T1 (mkF m 31 #[.val (.ref sr), .val (.int (1 : Int32)), .val (.ref dr), .val (.int (1 : Int32)), .val (.int (2 : Int32)), .val (.int (1 : Int32)), .val (.int c1)] [(.int (c1.toInt8.toInt32)), (.int (1 : Int32)), (.ref dr)])
  obtain ⟨T3, h3, X3, e3, W3, V3, st3⟩ := own_bastore X1 hx hZ e1 V1' (x := (c1.toInt8.toInt32)) (c1.toInt8.toInt32) (own_b8 _) (j := (1 : Int32)) ⟨by decide, by decide⟩ 1 rfl (Nat.le_of_ble_eq_true rfl) (g := (mkF m 31 #[.val (.ref sr), .val (.int (1 : Int32)), .val (.ref dr), .val (.int (1 : Int32)), .val (.int (2 : Int32)), .val (.int (1 : Int32)), .val (.int c1)] [(.int (c1.toInt8.toInt32)), (.int (1 : Int32)), (.ref dr)])) rfl rfl (hb hby own_jdk_52_method_21_31)
  refine own_step st3 ?_
  have K3 := K1.wr W3 (Or.inl (List.mem_of_getElem? (i := 0) rfl))
  have N3 := Fr.snoc X3 N1 g_dr
  have V3' : Arv Z h3 dr kd .byte (2 : Int32) [(.int (c0.toInt8.toInt32)), (.int (c1.toInt8.toInt32))] (.int (0 : Int32)) := V3
  show own_Goes _ _ _ _ T3 (mkF m 32 #[.val (.ref sr), .val (.int (1 : Int32)), .val (.ref dr), .val (.int (1 : Int32)), .val (.int (2 : Int32)), .val (.int (1 : Int32)), .val (.int c1)] [])
  refine own_step (fun t k => XS.iinc X3.here hx rfl (hb hby own_jdk_52_method_21_32) rfl (l' := #[.val (.ref sr), .val (.int (2 : Int32)), .val (.ref dr), .val (.int (1 : Int32)), .val (.int (2 : Int32)), .val (.int (1 : Int32)), .val (.int c1)]) rfl k) ?_
  show own_Goes _ _ _ _ T3 (mkF m 35 #[.val (.ref sr), .val (.int (2 : Int32)), .val (.ref dr), .val (.int (1 : Int32)), .val (.int (2 : Int32)), .val (.int (1 : Int32)), .val (.int c1)] [])
  refine own_step (fun t k => XS.iinc X3.here hx rfl (hb hby own_jdk_52_method_21_35) rfl (l' := #[.val (.ref sr), .val (.int (2 : Int32)), .val (.ref dr), .val (.int (2 : Int32)), .val (.int (2 : Int32)), .val (.int (1 : Int32)), .val (.int c1)]) rfl k) ?_
  show own_Goes _ _ _ _ T3 (mkF m 38 #[.val (.ref sr), .val (.int (2 : Int32)), .val (.ref dr), .val (.int (2 : Int32)), .val (.int (2 : Int32)), .val (.int (1 : Int32)), .val (.int c1)] [])
  refine own_step (fun t k => XS.iinc X3.here hx rfl (hb hby own_jdk_52_method_21_38) rfl (l' := #[.val (.ref sr), .val (.int (2 : Int32)), .val (.ref dr), .val (.int (2 : Int32)), .val (.int (2 : Int32)), .val (.int (2 : Int32)), .val (.int c1)]) rfl k) ?_
  show own_Goes _ _ _ _ T3 (mkF m 41 #[.val (.ref sr), .val (.int (2 : Int32)), .val (.ref dr), .val (.int (2 : Int32)), .val (.int (2 : Int32)), .val (.int (2 : Int32)), .val (.int c1)] [])
  refine own_step (fun t k => XS.goto X3.here hx rfl (pc0 := 41) (pc' := 3) rfl (hb hby own_jdk_52_method_21_41) (by decide) (by decide) k) ?_
  show own_Goes _ _ _ _ T3 (mkF m 3 #[.val (.ref sr), .val (.int (2 : Int32)), .val (.ref dr), .val (.int (2 : Int32)), .val (.int (2 : Int32)), .val (.int (2 : Int32)), .val (.int c1)] [])
  refine own_step (fun t k => XS.iload X3.here hx rfl (hb hby own_jdk_52_method_21_3) rfl k) ?_
  show own_Goes _ _ _ _ T3 (mkF m 5 #[.val (.ref sr), .val (.int (2 : Int32)), .val (.ref dr), .val (.int (2 : Int32)), .val (.int (2 : Int32)), .val (.int (2 : Int32)), .val (.int c1)] [(.int (2 : Int32))])
  refine own_step (fun t k => XS.iload X3.here hx rfl (hb hby own_jdk_52_method_21_5) rfl k) ?_
  show own_Goes _ _ _ _ T3 (mkF m 7 #[.val (.ref sr), .val (.int (2 : Int32)), .val (.ref dr), .val (.int (2 : Int32)), .val (.int (2 : Int32)), .val (.int (2 : Int32)), .val (.int c1)] [(.int (2 : Int32)), (.int (2 : Int32))])
  refine own_step (fun t k => XS.icmpYes X3.here hx rfl (pc0 := 7) (pc' := 44) rfl (hb hby own_jdk_52_method_21_7) rfl (flt (show ¬ ((2 : Int32) < (2 : Int32)) from (by decide))).2.1 (by decide) (by decide) k) ?_
  show own_Goes _ _ _ _ T3 (mkF m 44 #[.val (.ref sr), .val (.int (2 : Int32)), .val (.ref dr), .val (.int (2 : Int32)), .val (.int (2 : Int32)), .val (.int (2 : Int32)), .val (.int c1)] [])
  refine own_step (fun t k => XS.iload X3.here hx rfl (hb hby own_jdk_52_method_21_44) rfl k) ?_
  show own_Goes _ _ _ _ T3 (mkF m 46 #[.val (.ref sr), .val (.int (2 : Int32)), .val (.ref dr), .val (.int (2 : Int32)), .val (.int (2 : Int32)), .val (.int (2 : Int32)), .val (.int c1)] [(.int (2 : Int32))])
  exact own_retI X3 hx hlk hrt (hb hby own_jdk_52_method_21_46) (by rw [e3]; exact ⟨rfl, N3, K3, V3'⟩) (by decide) (by decide)
theorem own_ef6 (m : MethodId) (x0 : Addr) (x1 : Int32) (x2 : Int32) : entryFrame m #[(.ref x0), (.int x1), (.int x2)] 6 = mkF m 0 #[.val (.ref x0), .val (.int x1), .val (.int x2), .unset, .unset, .unset] [] := by first | (simp [entryFrame, mkF, argsToLocals, Value.category]; done) | rfl
theorem own_jdk_52_method_16_0 : decode jdk_52_method_16_code 0 = .ok (.iload_n 2, 1) := by decide +kernel
theorem own_jdk_52_method_16_1 : decode jdk_52_method_16_code 1 = .ok (.newarray .byte, 2) := by decide +kernel
theorem own_jdk_52_method_16_3 : decode jdk_52_method_16_code 3 = .ok (.astore_n 3, 1) := by decide +kernel
theorem own_jdk_52_method_16_4 : decode jdk_52_method_16_code 4 = .ok (.aload_n 0, 1) := by decide +kernel
theorem own_jdk_52_method_16_5 : decode jdk_52_method_16_code 5 = .ok (.iload_n 1, 1) := by decide +kernel
theorem own_jdk_52_method_16_6 : decode jdk_52_method_16_code 6 = .ok (.aload_n 3, 1) := by decide +kernel
theorem own_jdk_52_method_16_7 : decode jdk_52_method_16_code 7 = .ok (.iconst 0, 1) := by decide +kernel
theorem own_jdk_52_method_16_8 : decode jdk_52_method_16_code 8 = .ok (.iload_n 2, 1) := by decide +kernel
theorem own_jdk_52_method_16_9 : decode jdk_52_method_16_code 9 = .ok (.invokestatic 115, 3) := by decide +kernel
theorem own_pd3 : parseMethodDescriptor "([CI[BII)I" = some ⟨[(.array .char), .int, (.array .byte), .int, .int], some .int⟩ := by decide +kernel
theorem own_jdk_52_method_16_12 : decode jdk_52_method_16_code 12 = .ok (.istore 4, 2) := by decide +kernel
theorem own_jdk_52_method_16_14 : decode jdk_52_method_16_code 14 = .ok (.iload 4, 2) := by decide +kernel
theorem own_jdk_52_method_16_16 : decode jdk_52_method_16_code 16 = .ok (.iload_n 2, 1) := by decide +kernel
theorem own_jdk_52_method_16_17 : decode jdk_52_method_16_code 17 = .ok (.if_icmp .eq 40, 3) := by decide +kernel
theorem own_jdk_52_method_16_57 : decode jdk_52_method_16_code 57 = .ok (.aload_n 3, 1) := by decide +kernel
theorem own_jdk_52_method_16_58 : decode jdk_52_method_16_code 58 = .ok (.areturn, 1) := by decide +kernel
set_option maxRecDepth 65536 in
set_option maxHeartbeats 40000000 in
theorem own_comp3_2 (l : Launch) (Z : State) (a0 : Array Value) (hw : ∀ d ∈ tables_1, d.before a0 Z = true) (ws : List Jvm.Cond) (sr : Addr) (ks : ClassId) (c0 : Int32) (c1 : Int32) (h0 : Heap) (n0 : Nat) (Z0 : n0 ≤ h0.size) (V_sr : Arv Z h0 sr ks .char (2 : Int32) [(.int c0), (.int c1)] (.int (0 : Int32))) (hc0 : ¬ ((255 : Int32) < c0)) (hc1 : ¬ ((255 : Int32) < c1)) :
    own_Met l Z (⟨"java/lang/StringUTF16", "compress", "([CII)[B"⟩ : MethodName) jdk_52_method_16_code 6 (some (.array .byte)) ws ({ frames := 1, cells := 1, slots := 2, locals := 18 } : Room) #[(.ref sr), (.int (0 : Int32)), (.int (2 : Int32))] h0 (fun v h L => ∃ r : Addr, ∃ kr : ClassId, v = some (.ref r) ∧ Fr n0 L ∧ Keep h0 h [] ∧ h0.size ≤ r ∧ Arv Z h r kr .byte (2 : Int32) [(.int (c0.toInt8.toInt32)), (.int (c1.toInt8.toInt32))] (.int (0 : Int32))) := by
  refine own_body (plainFor_of_name own_pn_java_lang_StringUTF16) (fun p e s m below meth c s₁ hx hby hml0 hrt hlk hown0 hnm hZ X0 e0 => ?_)
  have N0 := Fr.nil n0
  have hown : s.vm.findClass "java/lang/StringUTF16" = some m.cls := hown0
  have hml : c.maxLocals = 6 := hml0
  refine own_castG (own_ef6 m sr (0 : Int32) (2 : Int32)) ?_
  show own_Goes _ _ _ _ s₁ (mkF m 0 #[.val (.ref sr), .val (.int (0 : Int32)), .val (.int (2 : Int32)), .unset, .unset, .unset] [])
  refine own_step (fun t k => XS.iloadN X0.here hx rfl (hb hby own_jdk_52_method_16_0) rfl k) ?_
  show own_Goes _ _ _ _ s₁ (mkF m 1 #[.val (.ref sr), .val (.int (0 : Int32)), .val (.int (2 : Int32)), .unset, .unset, .unset] [(.int (2 : Int32))])
  obtain ⟨T1, h1, k1, X1, e1, E1, A1, st1⟩ := newP X0 hx hZ (hw _ (List.mem_of_getElem? (i := 20) rfl)) e0 (g := (mkF m 1 #[.val (.ref sr), .val (.int (0 : Int32)), .val (.int (2 : Int32)), .unset, .unset, .unset] [(.int (2 : Int32))])) rfl (hb hby own_jdk_52_method_16_1) rfl (by decide) (cap := 2) (by decide) (by decide) (by decide) (by decide)
  obtain ⟨b1, g1⟩ : ∃ z, z = h0.size := ⟨_, rfl⟩
  rw [← g1] at A1 st1
  refine own_step st1 ?_
  have g_b1 : n0 ≤ b1 := Nat.le_trans Z0 (Nat.le_of_eq g1.symm)
  have sz_b1 : h0.size ≤ b1 := Nat.le_trans (Keep.refl h0 []).1 (Nat.le_of_eq g1.symm)
  have ne_sr_b1 : sr ≠ b1 := Nat.ne_of_lt (Nat.lt_of_lt_of_le V_sr.lt (Nat.le_of_eq g1.symm))
  have K1 := (Keep.refl h0 []).ext E1
  have V_b1 : Arv Z h1 b1 k1 .byte (2 : Int32) [(.int (0 : Int32)), (.int (0 : Int32))] (.int (0 : Int32)) := (Arv.new A1 (by decide)).pad (pad_rep [] (.int (0 : Int32)) 2)
  show own_Goes _ _ _ _ T1 (mkF m 3 #[.val (.ref sr), .val (.int (0 : Int32)), .val (.int (2 : Int32)), .unset, .unset, .unset] [(.ref b1)])
  refine own_step (fun t k => XS.astoreN X1.here hx rfl (hb hby own_jdk_52_method_16_3) rfl rfl (l' := #[.val (.ref sr), .val (.int (0 : Int32)), .val (.int (2 : Int32)), .val (.ref b1), .unset, .unset]) rfl k) ?_
  show own_Goes _ _ _ _ T1 (mkF m 4 #[.val (.ref sr), .val (.int (0 : Int32)), .val (.int (2 : Int32)), .val (.ref b1), .unset, .unset] [])
  refine own_step (fun t k => XS.aloadN X1.here hx rfl (hb hby own_jdk_52_method_16_4) rfl rfl k) ?_
  show own_Goes _ _ _ _ T1 (mkF m 5 #[.val (.ref sr), .val (.int (0 : Int32)), .val (.int (2 : Int32)), .val (.ref b1), .unset, .unset] [(.ref sr)])
  refine own_step (fun t k => XS.iloadN X1.here hx rfl (hb hby own_jdk_52_method_16_5) rfl k) ?_
  show own_Goes _ _ _ _ T1 (mkF m 6 #[.val (.ref sr), .val (.int (0 : Int32)), .val (.int (2 : Int32)), .val (.ref b1), .unset, .unset] [(.int (0 : Int32)), (.ref sr)])
  refine own_step (fun t k => XS.aloadN X1.here hx rfl (hb hby own_jdk_52_method_16_6) rfl rfl k) ?_
  show own_Goes _ _ _ _ T1 (mkF m 7 #[.val (.ref sr), .val (.int (0 : Int32)), .val (.int (2 : Int32)), .val (.ref b1), .unset, .unset] [(.ref b1), (.int (0 : Int32)), (.ref sr)])
  refine own_step (fun t k => XS.iconst X1.here hx rfl (hb hby own_jdk_52_method_16_7) k) ?_
  show own_Goes _ _ _ _ T1 (mkF m 8 #[.val (.ref sr), .val (.int (0 : Int32)), .val (.int (2 : Int32)), .val (.ref b1), .unset, .unset] [(.int (0 : Int32)), (.ref b1), (.int (0 : Int32)), (.ref sr)])
  refine own_step (fun t k => XS.iloadN X1.here hx rfl (hb hby own_jdk_52_method_16_8) rfl k) ?_
  show own_Goes _ _ _ _ T1 (mkF m 9 #[.val (.ref sr), .val (.int (0 : Int32)), .val (.int (2 : Int32)), .val (.ref b1), .unset, .unset] [(.int (2 : Int32)), (.int (0 : Int32)), (.ref b1), (.int (0 : Int32)), (.ref sr)])
  have V_sr_v2 := (V_sr.ext E1)
  refine own_callS X1 hx hZ (y := (⟨"java/lang/StringUTF16", "compress", "([CI[BII)I"⟩ : MethodName)) hown (hw _ (List.mem_of_getElem? (i := 21) rfl)) (hw _ (List.mem_of_getElem? (i := 22) rfl)) (hw _ (List.mem_of_getElem? (i := 18) rfl)) (hw _ (List.mem_of_getElem? (i := 23) rfl)) (by decide) 0 [(.ref sr), (.int (0 : Int32)), (.ref b1), (.int (0 : Int32)), (.int (2 : Int32))] [] (own_comp5_2 l Z a0 hw [] sr b1 ks k1 c0 c1 h1 n0 (Nat.le_trans Z0 K1.1) V_sr_v2 V_b1 hc0 hc1 ne_sr_b1 g_b1) e1  (by decide) (by decide) (by decide) (by decide) (g := (mkF m 9 #[.val (.ref sr), .val (.int (0 : Int32)), .val (.int (2 : Int32)), .val (.ref b1), .unset, .unset] [(.int (2 : Int32)), (.int (0 : Int32)), (.ref b1), (.int (0 : Int32)), (.ref sr)])) rfl (by rw [hml]; rfl) own_pd3 rfl rfl (by show 2 * 0 + _ ≤ _; exact Nat.le_of_eq rfl) (hb hby own_jdk_52_method_16_9) ?_
  intro T3 v3 L3 X3 hQ3
  obtain ⟨rfl, N3q, Kq3, q3_0⟩ := hQ3
  have N3 := Fr.app N0 N3q
  have K3 := K1.trans Kq3 (allS (Or.inr sz_b1) all0)
  have q3_0' : Arv Z T3.heap b1 k1 .byte (2 : Int32) [(.int (c0.toInt8.toInt32)), (.int (c1.toInt8.toInt32))] (.int (0 : Int32)) := q3_0
  show own_Goes _ _ _ _ T3 (mkF m 12 #[.val (.ref sr), .val (.int (0 : Int32)), .val (.int (2 : Int32)), .val (.ref b1), .unset, .unset] [(.int (2 : Int32))])
  refine own_step (fun t k => XS.istore X3.here hx rfl (hb hby own_jdk_52_method_16_12) rfl (l' := #[.val (.ref sr), .val (.int (0 : Int32)), .val (.int (2 : Int32)), .val (.ref b1), .val (.int (2 : Int32)), .unset]) rfl k) ?_
  show own_Goes _ _ _ _ T3 (mkF m 14 #[.val (.ref sr), .val (.int (0 : Int32)), .val (.int (2 : Int32)), .val (.ref b1), .val (.int (2 : Int32)), .unset] [])
  refine own_step (fun t k => XS.iload X3.here hx rfl (hb hby own_jdk_52_method_16_14) rfl k) ?_
  show own_Goes _ _ _ _ T3 (mkF m 16 #[.val (.ref sr), .val (.int (0 : Int32)), .val (.int (2 : Int32)), .val (.ref b1), .val (.int (2 : Int32)), .unset] [(.int (2 : Int32))])
  refine own_step (fun t k => XS.iloadN X3.here hx rfl (hb hby own_jdk_52_method_16_16) rfl k) ?_
  show own_Goes _ _ _ _ T3 (mkF m 17 #[.val (.ref sr), .val (.int (0 : Int32)), .val (.int (2 : Int32)), .val (.ref b1), .val (.int (2 : Int32)), .unset] [(.int (2 : Int32)), (.int (2 : Int32))])
  refine own_step (fun t k => XS.icmpYes X3.here hx rfl (pc0 := 17) (pc' := 57) rfl (hb hby own_jdk_52_method_16_17) rfl (teq (show (2 : Int32) = (2 : Int32) from (by decide))).1 (by decide) (by decide) k) ?_
  show own_Goes _ _ _ _ T3 (mkF m 57 #[.val (.ref sr), .val (.int (0 : Int32)), .val (.int (2 : Int32)), .val (.ref b1), .val (.int (2 : Int32)), .unset] [])
  refine own_step (fun t k => XS.aloadN X3.here hx rfl (hb hby own_jdk_52_method_16_57) rfl rfl k) ?_
  show own_Goes _ _ _ _ T3 (mkF m 58 #[.val (.ref sr), .val (.int (0 : Int32)), .val (.int (2 : Int32)), .val (.ref b1), .val (.int (2 : Int32)), .unset] [(.ref b1)])
  exact own_retA X3 hx hlk hrt rfl rfl rfl (hb hby own_jdk_52_method_16_58) (by exact ⟨b1, k1, rfl, N3, K3, sz_b1, q3_0'⟩) (by decide) (by decide)
theorem own_ef7 (m : MethodId) (x0 : Addr) (x1 : Int32) : entryFrame m #[(.ref x0), (.int x1)] 2 = mkF m 0 #[.val (.ref x0), .val (.int x1)] [] := by first | (simp [entryFrame, mkF, argsToLocals, Value.category]; done) | rfl
theorem own_jdk_52_method_15_0 : decode jdk_52_method_15_code 0 = .ok (.iload_n 1, 1) := by decide +kernel
theorem own_jdk_52_method_15_1 : decode jdk_52_method_15_code 1 = .ok (.aload_n 0, 1) := by decide +kernel
theorem own_jdk_52_method_15_2 : decode jdk_52_method_15_code 2 = .ok (.arraylength, 1) := by decide +kernel
theorem own_jdk_52_method_15_3 : decode jdk_52_method_15_code 3 = .ok (.isub, 1) := by decide +kernel
theorem own_jdk_52_method_15_4 : decode jdk_52_method_15_code 4 = .ok (.bipush 31, 2) := by decide +kernel
theorem own_jdk_52_method_15_6 : decode jdk_52_method_15_code 6 = .ok (.iushr, 1) := by decide +kernel
theorem own_jdk_52_method_15_7 : decode jdk_52_method_15_code 7 = .ok (.i2b, 1) := by decide +kernel
theorem own_jdk_52_method_15_8 : decode jdk_52_method_15_code 8 = .ok (.ireturn, 1) := by decide +kernel
set_option maxRecDepth 65536 in
set_option maxHeartbeats 40000000 in
theorem own_coder_2 (l : Launch) (Z : State) (a0 : Array Value) (hw : ∀ d ∈ tables_1, d.before a0 Z = true) (ws : List Jvm.Cond) (dr : Addr) (kd : ClassId) (x0 : Int32) (x1 : Int32) (h0 : Heap) (n0 : Nat) (Z0 : n0 ≤ h0.size) (V_dr : Arv Z h0 dr kd .byte (2 : Int32) [(.int x0), (.int x1)] (.int (0 : Int32))) :
    own_Met l Z (⟨"java/lang/StringUTF16", "coderFromArrayLen", "([BI)B"⟩ : MethodName) jdk_52_method_15_code 2 (some .byte) ws ({ frames := 0, cells := 0, slots := 0, locals := 0 } : Room) #[(.ref dr), (.int (2 : Int32))] h0 (fun v h L => v = some (.int (0 : Int32)) ∧ Fr n0 L ∧ h = h0) := by
  refine own_body (plainFor_of_name own_pn_java_lang_StringUTF16) (fun p e s m below meth c s₁ hx hby hml0 hrt hlk hown0 hnm hZ X0 e0 => ?_)
  have N0 := Fr.nil n0
  have hown : s.vm.findClass "java/lang/StringUTF16" = some m.cls := hown0
  have hml : c.maxLocals = 2 := hml0
  refine own_castG (own_ef7 m dr (2 : Int32)) ?_
  show own_Goes _ _ _ _ s₁ (mkF m 0 #[.val (.ref dr), .val (.int (2 : Int32))] [])
  refine own_step (fun t k => XS.iloadN X0.here hx rfl (hb hby own_jdk_52_method_15_0) rfl k) ?_
  show own_Goes _ _ _ _ s₁ (mkF m 1 #[.val (.ref dr), .val (.int (2 : Int32))] [(.int (2 : Int32))])
  refine own_step (fun t k => XS.aloadN X0.here hx rfl (hb hby own_jdk_52_method_15_1) rfl rfl k) ?_
  show own_Goes _ _ _ _ s₁ (mkF m 2 #[.val (.ref dr), .val (.int (2 : Int32))] [(.ref dr), (.int (2 : Int32))])
  refine own_step (own_alen X0 hx hZ e0 V_dr (g := (mkF m 2 #[.val (.ref dr), .val (.int (2 : Int32))] [(.ref dr), (.int (2 : Int32))])) rfl rfl (hb hby own_jdk_52_method_15_2)) ?_
  show own_Goes _ _ _ _ s₁ (mkF m 3 #[.val (.ref dr), .val (.int (2 : Int32))] [(.int (2 : Int32)), (.int (2 : Int32))])
  refine own_step (fun t k => XS.isub X0.here hx rfl (hb hby own_jdk_52_method_15_3) rfl k) ?_
  show own_Goes _ _ _ _ s₁ (mkF m 4 #[.val (.ref dr), .val (.int (2 : Int32))] [(.int (0 : Int32))])
  refine own_step (fun t k => XS.bipush X0.here hx rfl (hb hby own_jdk_52_method_15_4) k) ?_
  show own_Goes _ _ _ _ s₁ (mkF m 6 #[.val (.ref dr), .val (.int (2 : Int32))] [(.int (31 : Int32)), (.int (0 : Int32))])
  refine own_step (fun t k => XS.iushr X0.here hx rfl (hb hby own_jdk_52_method_15_6) rfl k) ?_
  show own_Goes _ _ _ _ s₁ (mkF m 7 #[.val (.ref dr), .val (.int (2 : Int32))] [(.int (0 : Int32))])
  refine own_step (fun t k => XS.i2b X0.here hx rfl (hb hby own_jdk_52_method_15_7) rfl k) ?_
  show own_Goes _ _ _ _ s₁ (mkF m 8 #[.val (.ref dr), .val (.int (2 : Int32))] [(.int (0 : Int32))])
  exact own_retN X0 hx hlk (t := .byte) hrt (by simp) (hb hby own_jdk_52_method_15_8) ⟨rfl, N0, e0⟩ (by decide) (by decide)
theorem own_ef8 (m : MethodId) (x0 : Addr) (x1 : Addr) (x2 : Int32) (x3 : Int32) : entryFrame m #[(.ref x0), (.ref x1), (.int x2), (.int x3), .null] 6 = mkF m 0 #[.val (.ref x0), .val (.ref x1), .val (.int x2), .val (.int x3), .val .null, .unset] [] := by first | (simp [entryFrame, mkF, argsToLocals, Value.category]; done) | rfl
theorem own_jdk_42_method_149_0 : decode jdk_42_method_149_code 0 = .ok (.aload_n 0, 1) := by decide +kernel
theorem own_jdk_42_method_149_1 : decode jdk_42_method_149_code 1 = .ok (.invokespecial 1, 3) := by decide +kernel
theorem own_jdk_42_method_149_4 : decode jdk_42_method_149_code 4 = .ok (.iload_n 3, 1) := by decide +kernel
theorem own_jdk_42_method_149_5 : decode jdk_42_method_149_code 5 = .ok (.ifCond .ne 22, 3) := by decide +kernel
theorem own_jdk_42_method_149_27 : decode jdk_42_method_149_code 27 = .ok (.getstatic 38, 3) := by decide +kernel
theorem own_jdk_42_method_149_30 : decode jdk_42_method_149_code 30 = .ok (.ifCond .eq 28, 3) := by decide +kernel
theorem own_jdk_42_method_149_33 : decode jdk_42_method_149_code 33 = .ok (.aload_n 1, 1) := by decide +kernel
theorem own_jdk_42_method_149_34 : decode jdk_42_method_149_code 34 = .ok (.iload_n 2, 1) := by decide +kernel
theorem own_jdk_42_method_149_35 : decode jdk_42_method_149_code 35 = .ok (.iload_n 3, 1) := by decide +kernel
theorem own_jdk_42_method_149_36 : decode jdk_42_method_149_code 36 = .ok (.invokestatic 177, 3) := by decide +kernel
theorem own_pd4 : parseMethodDescriptor "([CII)[B" = some ⟨[(.array .char), .int, .int], some (.array .byte)⟩ := by decide +kernel
theorem own_jdk_42_method_149_39 : decode jdk_42_method_149_code 39 = .ok (.astore 5, 2) := by decide +kernel
theorem own_jdk_42_method_149_41 : decode jdk_42_method_149_code 41 = .ok (.aload_n 0, 1) := by decide +kernel
theorem own_jdk_42_method_149_42 : decode jdk_42_method_149_code 42 = .ok (.aload 5, 2) := by decide +kernel
theorem own_jdk_42_method_149_44 : decode jdk_42_method_149_code 44 = .ok (.iload_n 3, 1) := by decide +kernel
theorem own_jdk_42_method_149_45 : decode jdk_42_method_149_code 45 = .ok (.invokestatic 47, 3) := by decide +kernel
theorem own_pd5 : parseMethodDescriptor "([BI)B" = some ⟨[(.array .byte), .int], some .byte⟩ := by decide +kernel
theorem own_jdk_42_method_149_48 : decode jdk_42_method_149_code 48 = .ok (.putfield 15, 3) := by decide +kernel
theorem own_jdk_42_method_149_51 : decode jdk_42_method_149_code 51 = .ok (.aload_n 0, 1) := by decide +kernel
theorem own_jdk_42_method_149_52 : decode jdk_42_method_149_code 52 = .ok (.aload 5, 2) := by decide +kernel
theorem own_jdk_42_method_149_54 : decode jdk_42_method_149_code 54 = .ok (.putfield 9, 3) := by decide +kernel
theorem own_jdk_42_method_149_57 : decode jdk_42_method_149_code 57 = .ok (.return_, 1) := by decide +kernel
set_option maxRecDepth 65536 in
set_option maxHeartbeats 40000000 in
theorem own_sinit4_2 (l : Launch) (Z : State) (a0 : Array Value) (hw : ∀ d ∈ tables_1, d.before a0 Z = true) (ws : List Jvm.Cond) (a : Addr) (sr : Addr) (ks : ClassId) (c0 : Int32) (c1 : Int32) (zc : Int32) (h0 : Heap) (n0 : Nat) (Z0 : n0 ≤ h0.size) (E_a : Exa Z h0 a "java/lang/String") (F_a_value : Fld Z h0 a "java/lang/String" "value" "[B" .null) (F_a_coder : Fld Z h0 a "java/lang/String" "coder" "B" (.int (0 : Int32))) (V_sr : Arv Z h0 sr ks .char (2 : Int32) [(.int c0), (.int c1)] (.int (0 : Int32))) (S_COMPACT_STRINGS : Sta Z h0 "java/lang/String" "COMPACT_STRINGS" "Z" (.int zc)) (hc0 : ¬ ((255 : Int32) < c0)) (hc1 : ¬ ((255 : Int32) < c1)) (hz : ¬ (zc = (0 : Int32))) (g_a : n0 ≤ a) :
    own_Met l Z (⟨"java/lang/String", "<init>", "([CIILjava/lang/Void;)V"⟩ : MethodName) jdk_42_method_149_code 6 none ws ({ frames := 2, cells := 1, slots := 2, locals := 35 } : Room) #[(.ref a), (.ref sr), (.int (0 : Int32)), (.int (2 : Int32)), .null] h0 (fun v h L => ∃ r : Addr, ∃ kr : ClassId, v = none ∧ Fr n0 L ∧ Keep h0 h [a] ∧ h0.size ≤ r ∧ Exa Z h a "java/lang/String" ∧ Fld Z h a "java/lang/String" "coder" "B" (.int (0 : Int32)) ∧ Fld Z h a "java/lang/String" "value" "[B" (.ref r) ∧ Arv Z h r kr .byte (2 : Int32) [(.int (c0.toInt8.toInt32)), (.int (c1.toInt8.toInt32))] (.int (0 : Int32))) := by
  refine own_body (plainFor_of_name own_pn_java_lang_String) (fun p e s m below meth c s₁ hx hby hml0 hrt hlk hown0 hnm hZ X0 e0 => ?_)
  have N0 := Fr.nil n0
  have hown : s.vm.findClass "java/lang/String" = some m.cls := hown0
  have hml : c.maxLocals = 6 := hml0
  refine own_castG (own_ef8 m a sr (0 : Int32) (2 : Int32)) ?_
  show own_Goes _ _ _ _ s₁ (mkF m 0 #[.val (.ref a), .val (.ref sr), .val (.int (0 : Int32)), .val (.int (2 : Int32)), .val .null, .unset] [])
  refine own_step (fun t k => XS.aloadN X0.here hx rfl (hb hby own_jdk_42_method_149_0) rfl rfl k) ?_
  show own_Goes _ _ _ _ s₁ (mkF m 1 #[.val (.ref a), .val (.ref sr), .val (.int (0 : Int32)), .val (.int (2 : Int32)), .val .null, .unset] [(.ref a)])
  obtain ⟨T1, X1, e1, st1⟩ := initO X0 hx hZ hown (hw _ (List.mem_of_getElem? (i := 12) rfl)) (hw _ (List.mem_of_getElem? (i := 13) rfl)) (hw _ (List.mem_of_getElem? (i := 14) rfl)) e0 (g := (mkF m 1 #[.val (.ref a), .val (.ref sr), .val (.int (0 : Int32)), .val (.int (2 : Int32)), .val .null, .unset] [(.ref a)])) rfl (by rw [hml]; rfl) rfl (hb hby own_jdk_42_method_149_1) (by decide) (W := 0) (by show 2 * 0 + _ ≤ _; exact Nat.le_of_eq rfl) (by decide)
  refine own_step st1 ?_
  show own_Goes _ _ _ _ T1 (mkF m 4 #[.val (.ref a), .val (.ref sr), .val (.int (0 : Int32)), .val (.int (2 : Int32)), .val .null, .unset] [])
  refine own_step (fun t k => XS.iloadN X1.here hx rfl (hb hby own_jdk_42_method_149_4) rfl k) ?_
  show own_Goes _ _ _ _ T1 (mkF m 5 #[.val (.ref a), .val (.ref sr), .val (.int (0 : Int32)), .val (.int (2 : Int32)), .val .null, .unset] [(.int (2 : Int32))])
  refine own_step (fun t k => XS.ifYes X1.here hx rfl (pc0 := 5) (pc' := 27) rfl (hb hby own_jdk_42_method_149_5) rfl ((if0 _ _).trans (feq (show ¬ ((2 : Int32) = (0 : Int32)) from (by decide))).2) (by decide) (by decide) k) ?_
  show own_Goes _ _ _ _ T1 (mkF m 27 #[.val (.ref a), .val (.ref sr), .val (.int (0 : Int32)), .val (.int (2 : Int32)), .val .null, .unset] [])
  obtain ⟨T2, X2, e2, st2⟩ := getS2 X1 hx hZ hown (host := "") (Or.inl (hw _ (List.mem_of_getElem? (i := 15) rfl))) Via.refl e1 S_COMPACT_STRINGS (g := (mkF m 27 #[.val (.ref a), .val (.ref sr), .val (.int (0 : Int32)), .val (.int (2 : Int32)), .val .null, .unset] [])) rfl (hb hby own_jdk_42_method_149_27)
  refine own_step st2 ?_
  show own_Goes _ _ _ _ T2 (mkF m 30 #[.val (.ref a), .val (.ref sr), .val (.int (0 : Int32)), .val (.int (2 : Int32)), .val .null, .unset] [(.int zc)])
  refine own_step (fun t k => XS.ifNo X2.here hx rfl (hb hby own_jdk_42_method_149_30) rfl ((if0 _ _).trans (feq (show ¬ (zc = (0 : Int32)) from hz)).1) k) ?_
  show own_Goes _ _ _ _ T2 (mkF m 33 #[.val (.ref a), .val (.ref sr), .val (.int (0 : Int32)), .val (.int (2 : Int32)), .val .null, .unset] [])
  refine own_step (fun t k => XS.aloadN X2.here hx rfl (hb hby own_jdk_42_method_149_33) rfl rfl k) ?_
  show own_Goes _ _ _ _ T2 (mkF m 34 #[.val (.ref a), .val (.ref sr), .val (.int (0 : Int32)), .val (.int (2 : Int32)), .val .null, .unset] [(.ref sr)])
  refine own_step (fun t k => XS.iloadN X2.here hx rfl (hb hby own_jdk_42_method_149_34) rfl k) ?_
  show own_Goes _ _ _ _ T2 (mkF m 35 #[.val (.ref a), .val (.ref sr), .val (.int (0 : Int32)), .val (.int (2 : Int32)), .val .null, .unset] [(.int (0 : Int32)), (.ref sr)])
  refine own_step (fun t k => XS.iloadN X2.here hx rfl (hb hby own_jdk_42_method_149_35) rfl k) ?_
  show own_Goes _ _ _ _ T2 (mkF m 36 #[.val (.ref a), .val (.ref sr), .val (.int (0 : Int32)), .val (.int (2 : Int32)), .val .null, .unset] [(.int (2 : Int32)), (.int (0 : Int32)), (.ref sr)])
  refine own_callS X2 hx hZ (y := (⟨"java/lang/StringUTF16", "compress", "([CII)[B"⟩ : MethodName)) hown (hw _ (List.mem_of_getElem? (i := 16) rfl)) (hw _ (List.mem_of_getElem? (i := 17) rfl)) (hw _ (List.mem_of_getElem? (i := 18) rfl)) (hw _ (List.mem_of_getElem? (i := 19) rfl)) (by decide) 0 [(.ref sr), (.int (0 : Int32)), (.int (2 : Int32))] [] (own_comp3_2 l Z a0 hw [] sr ks c0 c1 h0 n0 Z0 V_sr hc0 hc1) e2  (by decide) (by decide) (by decide) (by decide) (g := (mkF m 36 #[.val (.ref a), .val (.ref sr), .val (.int (0 : Int32)), .val (.int (2 : Int32)), .val .null, .unset] [(.int (2 : Int32)), (.int (0 : Int32)), (.ref sr)])) rfl (by rw [hml]; rfl) own_pd4 rfl rfl (by show 2 * 0 + _ ≤ _; exact Nat.le_of_eq rfl) (hb hby own_jdk_42_method_149_36) ?_
  intro T3 v3 L3 X3 hQ3
  obtain ⟨b3_0, k3_0, rfl, N3q, Kq3, zq3_0, q3_0⟩ := hQ3
  have N3 := Fr.app N0 N3q
  have K3 := (Keep.refl h0 [a]).trans Kq3 all0
  have g_b3_0 : n0 ≤ b3_0 := Nat.le_trans Z0 zq3_0
  have sz_b3_0 : h0.size ≤ b3_0 := Nat.le_trans (Keep.refl h0 [a]).1 zq3_0
  have ne_a_b3_0 : a ≠ b3_0 := Nat.ne_of_lt (Nat.lt_of_lt_of_le E_a.lt zq3_0)
  have ne_sr_b3_0 : sr ≠ b3_0 := Nat.ne_of_lt (Nat.lt_of_lt_of_le V_sr.lt zq3_0)
  have q3_0' : Arv Z T3.heap b3_0 k3_0 .byte (2 : Int32) [(.int (c0.toInt8.toInt32)), (.int (c1.toInt8.toInt32))] (.int (0 : Int32)) := q3_0
  show own_Goes _ _ _ _ T3 (mkF m 39 #[.val (.ref a), .val (.ref sr), .val (.int (0 : Int32)), .val (.int (2 : Int32)), .val .null, .unset] [(.ref b3_0)])
  refine own_step (fun t k => XS.astore X3.here hx rfl (hb hby own_jdk_42_method_149_39) rfl rfl (l' := #[.val (.ref a), .val (.ref sr), .val (.int (0 : Int32)), .val (.int (2 : Int32)), .val .null, .val (.ref b3_0)]) rfl k) ?_
  show own_Goes _ _ _ _ T3 (mkF m 41 #[.val (.ref a), .val (.ref sr), .val (.int (0 : Int32)), .val (.int (2 : Int32)), .val .null, .val (.ref b3_0)] [])
  refine own_step (fun t k => XS.aloadN X3.here hx rfl (hb hby own_jdk_42_method_149_41) rfl rfl k) ?_
  show own_Goes _ _ _ _ T3 (mkF m 42 #[.val (.ref a), .val (.ref sr), .val (.int (0 : Int32)), .val (.int (2 : Int32)), .val .null, .val (.ref b3_0)] [(.ref a)])
  refine own_step (fun t k => XS.aload X3.here hx rfl (hb hby own_jdk_42_method_149_42) rfl rfl k) ?_
  show own_Goes _ _ _ _ T3 (mkF m 44 #[.val (.ref a), .val (.ref sr), .val (.int (0 : Int32)), .val (.int (2 : Int32)), .val .null, .val (.ref b3_0)] [(.ref b3_0), (.ref a)])
  refine own_step (fun t k => XS.iloadN X3.here hx rfl (hb hby own_jdk_42_method_149_44) rfl k) ?_
  show own_Goes _ _ _ _ T3 (mkF m 45 #[.val (.ref a), .val (.ref sr), .val (.int (0 : Int32)), .val (.int (2 : Int32)), .val .null, .val (.ref b3_0)] [(.int (2 : Int32)), (.ref b3_0), (.ref a)])
  refine own_callS X3 hx hZ (y := (⟨"java/lang/StringUTF16", "coderFromArrayLen", "([BI)B"⟩ : MethodName)) hown (hw _ (List.mem_of_getElem? (i := 24) rfl)) (hw _ (List.mem_of_getElem? (i := 25) rfl)) (hw _ (List.mem_of_getElem? (i := 18) rfl)) (hw _ (List.mem_of_getElem? (i := 26) rfl)) (by decide) 1 [(.ref b3_0), (.int (2 : Int32))] [(.ref a)] (own_coder_2 l Z a0 hw [] b3_0 k3_0 (c0.toInt8.toInt32) (c1.toInt8.toInt32) T3.heap n0 (Nat.le_trans Z0 K3.1) q3_0') rfl  (by decide) (by decide) (by decide) (by decide) (g := (mkF m 45 #[.val (.ref a), .val (.ref sr), .val (.int (0 : Int32)), .val (.int (2 : Int32)), .val .null, .val (.ref b3_0)] [(.int (2 : Int32)), (.ref b3_0), (.ref a)])) rfl (by rw [hml]; rfl) own_pd5 rfl rfl (by show 2 * 0 + _ ≤ _; exact Nat.le_of_eq rfl) (hb hby own_jdk_42_method_149_45) ?_
  intro T4 v4 L4 X4 hQ4
  obtain ⟨rfl, N4q, e4⟩ := hQ4
  have N4 := Fr.app N3 N4q
  show own_Goes _ _ _ _ T4 (mkF m 48 #[.val (.ref a), .val (.ref sr), .val (.int (0 : Int32)), .val (.int (2 : Int32)), .val .null, .val (.ref b3_0)] [(.int (0 : Int32)), (.ref a)])
  have E_a_v6 := (E_a.keep Kq3)
  have F_a_coder_v7 := (F_a_coder.keep Kq3 nin0)
  obtain ⟨T5, h5, X5, e5, W5, st5⟩ := putFN X4 hx hZ hown (hw _ (List.mem_of_getElem? (i := 27) rfl)) Via.refl e4 F_a_coder_v7 E_a_v6 (Or.inr ⟨(hw _ (List.mem_of_getElem? (i := 28) rfl)), rfl, hnm⟩) (hw _ (List.mem_of_getElem? (i := 2) rfl)) (ty := .byte) (v' := (.int (0 : Int32))) (by decide) rfl rfl (g := (mkF m 48 #[.val (.ref a), .val (.ref sr), .val (.int (0 : Int32)), .val (.int (2 : Int32)), .val .null, .val (.ref b3_0)] [(.int (0 : Int32)), (.ref a)])) rfl rfl (hb hby own_jdk_42_method_149_48)
  refine own_step st5 ?_
  have F5 := F_a_coder_v7.same W5
  have K5 := K3.wr W5 (Or.inl (List.mem_of_getElem? (i := 0) rfl))
  have N5 := Fr.snoc X5 N4 g_a
  show own_Goes _ _ _ _ T5 (mkF m 51 #[.val (.ref a), .val (.ref sr), .val (.int (0 : Int32)), .val (.int (2 : Int32)), .val .null, .val (.ref b3_0)] [])
  refine own_step (fun t k => XS.aloadN X5.here hx rfl (hb hby own_jdk_42_method_149_51) rfl rfl k) ?_
  show own_Goes _ _ _ _ T5 (mkF m 52 #[.val (.ref a), .val (.ref sr), .val (.int (0 : Int32)), .val (.int (2 : Int32)), .val .null, .val (.ref b3_0)] [(.ref a)])
  refine own_step (fun t k => XS.aload X5.here hx rfl (hb hby own_jdk_42_method_149_52) rfl rfl k) ?_
  show own_Goes _ _ _ _ T5 (mkF m 54 #[.val (.ref a), .val (.ref sr), .val (.int (0 : Int32)), .val (.int (2 : Int32)), .val .null, .val (.ref b3_0)] [(.ref b3_0), (.ref a)])
  have E_a_v9 := (E_a_v6.wr W5)
  have F_a_value_v10 := ((F_a_value.keep Kq3 nin0).other W5 (Or.inr (slot_ne (Or.inr (hw _ (List.mem_of_getElem? (i := 30) rfl))) (Or.inr (hw _ (List.mem_of_getElem? (i := 28) rfl))) (by decide) (t := (.array .byte)) (t' := .byte) (by decide) (by decide))))
  obtain ⟨T8, h8, X8, e8, W8, st8⟩ := putF X5 hx hZ hown (host := "") (Or.inl (hw _ (List.mem_of_getElem? (i := 29) rfl))) Via.refl e5 F_a_value_v10 E_a_v9 (Or.inr ⟨(hw _ (List.mem_of_getElem? (i := 30) rfl)), rfl, hnm⟩) (hw _ (List.mem_of_getElem? (i := 2) rfl)) (ty := (.array .byte)) (by decide) rfl rfl (g := (mkF m 54 #[.val (.ref a), .val (.ref sr), .val (.int (0 : Int32)), .val (.int (2 : Int32)), .val .null, .val (.ref b3_0)] [(.ref b3_0), (.ref a)])) rfl rfl (hb hby own_jdk_42_method_149_54)
  refine own_step st8 ?_
  have F8 := F_a_value_v10.same W8
  have K8 := K5.wr W8 (Or.inl (List.mem_of_getElem? (i := 0) rfl))
  have N8 := Fr.snoc X8 N5 g_a
  show own_Goes _ _ _ _ T8 (mkF m 57 #[.val (.ref a), .val (.ref sr), .val (.int (0 : Int32)), .val (.int (2 : Int32)), .val .null, .val (.ref b3_0)] [])
  have E_a_v11 := (E_a_v9.wr W8)
  have F5_v12 := (F5.other W8 (Or.inr (slot_ne (Or.inr (hw _ (List.mem_of_getElem? (i := 28) rfl))) (Or.inr (hw _ (List.mem_of_getElem? (i := 30) rfl))) (by decide) (t := .byte) (t' := (.array .byte)) (by decide) (by decide))))
  have q3_0'_v13 := ((q3_0'.other W5 (Ne.symm ne_a_b3_0)).other W8 (Ne.symm ne_a_b3_0))
  exact own_retV X8 hx hlk hrt (hb hby own_jdk_42_method_149_57) (by rw [e8]; exact ⟨b3_0, k3_0, rfl, N8, K8, sz_b3_0, E_a_v11, F5_v12, F8, q3_0'_v13⟩) (by decide) (by decide)
theorem own_ef9 (m : MethodId) (x0 : Addr) (x1 : Addr) : entryFrame m #[(.ref x0), (.ref x1)] 2 = mkF m 0 #[.val (.ref x0), .val (.ref x1)] [] := by first | (simp [entryFrame, mkF, argsToLocals, Value.category]; done) | rfl
theorem own_jdk_42_method_3_0 : decode jdk_42_method_3_code 0 = .ok (.aload_n 0, 1) := by decide +kernel
theorem own_jdk_42_method_3_1 : decode jdk_42_method_3_code 1 = .ok (.aload_n 1, 1) := by decide +kernel
theorem own_jdk_42_method_3_2 : decode jdk_42_method_3_code 2 = .ok (.iconst 0, 1) := by decide +kernel
theorem own_jdk_42_method_3_3 : decode jdk_42_method_3_code 3 = .ok (.aload_n 1, 1) := by decide +kernel
theorem own_jdk_42_method_3_4 : decode jdk_42_method_3_code 4 = .ok (.arraylength, 1) := by decide +kernel
theorem own_jdk_42_method_3_5 : decode jdk_42_method_3_code 5 = .ok (.aconst_null, 1) := by decide +kernel
theorem own_jdk_42_method_3_6 : decode jdk_42_method_3_code 6 = .ok (.invokespecial 27, 3) := by decide +kernel
theorem own_pd6 : parseMethodDescriptor "([CIILjava/lang/Void;)V" = some ⟨[(.array .char), .int, .int, (.object "java/lang/Void")], none⟩ := by decide +kernel
theorem own_jdk_42_method_3_9 : decode jdk_42_method_3_code 9 = .ok (.return_, 1) := by decide +kernel
set_option maxRecDepth 65536 in
set_option maxHeartbeats 40000000 in
theorem own_sinit_2 (l : Launch) (Z : State) (a0 : Array Value) (hw : ∀ d ∈ tables_1, d.before a0 Z = true) (ws : List Jvm.Cond) (a : Addr) (sr : Addr) (ks : ClassId) (c0 : Int32) (c1 : Int32) (zc : Int32) (h0 : Heap) (n0 : Nat) (Z0 : n0 ≤ h0.size) (E_a : Exa Z h0 a "java/lang/String") (F_a_value : Fld Z h0 a "java/lang/String" "value" "[B" .null) (F_a_coder : Fld Z h0 a "java/lang/String" "coder" "B" (.int (0 : Int32))) (V_sr : Arv Z h0 sr ks .char (2 : Int32) [(.int c0), (.int c1)] (.int (0 : Int32))) (S_COMPACT_STRINGS : Sta Z h0 "java/lang/String" "COMPACT_STRINGS" "Z" (.int zc)) (hc0 : ¬ ((255 : Int32) < c0)) (hc1 : ¬ ((255 : Int32) < c1)) (hz : ¬ (zc = (0 : Int32))) (g_a : n0 ≤ a) :
    own_Met l Z (⟨"java/lang/String", "<init>", "([C)V"⟩ : MethodName) jdk_42_method_3_code 2 none ws ({ frames := 3, cells := 1, slots := 2, locals := 52 } : Room) #[(.ref a), (.ref sr)] h0 (fun v h L => ∃ r : Addr, ∃ kr : ClassId, v = none ∧ Fr n0 L ∧ Keep h0 h [a] ∧ h0.size ≤ r ∧ Exa Z h a "java/lang/String" ∧ Fld Z h a "java/lang/String" "coder" "B" (.int (0 : Int32)) ∧ Fld Z h a "java/lang/String" "value" "[B" (.ref r) ∧ Arv Z h r kr .byte (2 : Int32) [(.int (c0.toInt8.toInt32)), (.int (c1.toInt8.toInt32))] (.int (0 : Int32))) := by
  refine own_body (plainFor_of_name own_pn_java_lang_String) (fun p e s m below meth c s₁ hx hby hml0 hrt hlk hown0 hnm hZ X0 e0 => ?_)
  have N0 := Fr.nil n0
  have hown : s.vm.findClass "java/lang/String" = some m.cls := hown0
  have hml : c.maxLocals = 2 := hml0
  refine own_castG (own_ef9 m a sr) ?_
  show own_Goes _ _ _ _ s₁ (mkF m 0 #[.val (.ref a), .val (.ref sr)] [])
  refine own_step (fun t k => XS.aloadN X0.here hx rfl (hb hby own_jdk_42_method_3_0) rfl rfl k) ?_
  show own_Goes _ _ _ _ s₁ (mkF m 1 #[.val (.ref a), .val (.ref sr)] [(.ref a)])
  refine own_step (fun t k => XS.aloadN X0.here hx rfl (hb hby own_jdk_42_method_3_1) rfl rfl k) ?_
  show own_Goes _ _ _ _ s₁ (mkF m 2 #[.val (.ref a), .val (.ref sr)] [(.ref sr), (.ref a)])
  refine own_step (fun t k => XS.iconst X0.here hx rfl (hb hby own_jdk_42_method_3_2) k) ?_
  show own_Goes _ _ _ _ s₁ (mkF m 3 #[.val (.ref a), .val (.ref sr)] [(.int (0 : Int32)), (.ref sr), (.ref a)])
  refine own_step (fun t k => XS.aloadN X0.here hx rfl (hb hby own_jdk_42_method_3_3) rfl rfl k) ?_
  show own_Goes _ _ _ _ s₁ (mkF m 4 #[.val (.ref a), .val (.ref sr)] [(.ref sr), (.int (0 : Int32)), (.ref sr), (.ref a)])
  refine own_step (own_alen X0 hx hZ e0 V_sr (g := (mkF m 4 #[.val (.ref a), .val (.ref sr)] [(.ref sr), (.int (0 : Int32)), (.ref sr), (.ref a)])) rfl rfl (hb hby own_jdk_42_method_3_4)) ?_
  show own_Goes _ _ _ _ s₁ (mkF m 5 #[.val (.ref a), .val (.ref sr)] [(.int (2 : Int32)), (.int (0 : Int32)), (.ref sr), (.ref a)])
  refine own_step (fun t k => XS.aconstNull X0.here hx rfl (hb hby own_jdk_42_method_3_5) k) ?_
  show own_Goes _ _ _ _ s₁ (mkF m 6 #[.val (.ref a), .val (.ref sr)] [.null, (.int (2 : Int32)), (.int (0 : Int32)), (.ref sr), (.ref a)])
  refine own_callC X0 hx hZ (y := (⟨"java/lang/String", "<init>", "([CIILjava/lang/Void;)V"⟩ : MethodName)) rfl hown (hw _ (List.mem_of_getElem? (i := 8) rfl)) (hw _ (List.mem_of_getElem? (i := 9) rfl)) (hw _ (List.mem_of_getElem? (i := 11) rfl)) (hw _ (List.mem_of_getElem? (i := 3) rfl)) (by decide) 0 (a := a) [(.ref sr), (.int (0 : Int32)), (.int (2 : Int32)), .null] [] (own_sinit4_2 l Z a0 hw [] a sr ks c0 c1 zc h0 n0 Z0 E_a F_a_value F_a_coder V_sr S_COMPACT_STRINGS hc0 hc1 hz g_a) e0  (by decide) (by decide) (by decide) (by decide) (g := (mkF m 6 #[.val (.ref a), .val (.ref sr)] [.null, (.int (2 : Int32)), (.int (0 : Int32)), (.ref sr), (.ref a)])) rfl (by rw [hml]; rfl) own_pd6 rfl rfl (by show 2 * 0 + _ ≤ _; exact Nat.le_of_eq rfl) (hb hby own_jdk_42_method_3_6) ?_
  intro T1 v1 L1 X1 hQ1
  obtain ⟨b1_0, k1_0, rfl, N1q, Kq1, zq1_0, q1_0, q1_1, q1_2, q1_3⟩ := hQ1
  have N1 := Fr.app N0 N1q
  have K1 := (Keep.refl h0 [a]).trans Kq1 (allS (Or.inl (List.mem_of_getElem? (i := 0) rfl)) all0)
  have g_b1_0 : n0 ≤ b1_0 := Nat.le_trans Z0 zq1_0
  have sz_b1_0 : h0.size ≤ b1_0 := Nat.le_trans (Keep.refl h0 [a]).1 zq1_0
  have ne_a_b1_0 : a ≠ b1_0 := Nat.ne_of_lt (Nat.lt_of_lt_of_le E_a.lt zq1_0)
  have ne_sr_b1_0 : sr ≠ b1_0 := Nat.ne_of_lt (Nat.lt_of_lt_of_le V_sr.lt zq1_0)
  have q1_0' : Exa Z T1.heap a "java/lang/String" := q1_0
  have q1_1' : Fld Z T1.heap a "java/lang/String" "coder" "B" (.int (0 : Int32)) := q1_1
  have q1_2' : Fld Z T1.heap a "java/lang/String" "value" "[B" (.ref b1_0) := q1_2
  have q1_3' : Arv Z T1.heap b1_0 k1_0 .byte (2 : Int32) [(.int (c0.toInt8.toInt32)), (.int (c1.toInt8.toInt32))] (.int (0 : Int32)) := q1_3
  show own_Goes _ _ _ _ T1 (mkF m 9 #[.val (.ref a), .val (.ref sr)] [])
  exact own_retV X1 hx hlk hrt (hb hby own_jdk_42_method_3_9) (by exact ⟨b1_0, k1_0, rfl, N1, K1, sz_b1_0, q1_0', q1_1', q1_2', q1_3'⟩) (by decide) (by decide)
theorem own_pn_com_example_sudsline_sudsline_model_EndpointCheckSixteenBitsPinLaw : plainName "com/example/sudsline/sudsline/model/EndpointCheckSixteenBitsPinLaw" = true := by first | (simp [plainName, overriddenIn]; done) | decide +kernel
theorem own_ef10 (m : MethodId) (x0 : Int32) (x1 : Int32) (x2 : Int32) (x3 : Int32) : entryFrame m #[(.int x0), (.int x1), (.int x2), (.int x3)] maxLocals = mkF m 0 #[.val (.int x0), .val (.int x1), .val (.int x2), .val (.int x3), .unset, .unset] [] := by first | (simp [entryFrame, mkF, argsToLocals, Value.category, maxLocals]; done) | rfl
theorem own_pd7 : parseMethodDescriptor "([C)V" = some ⟨[(.array .char)], none⟩ := by decide +kernel
theorem own_pd8 : parseMethodDescriptor "(Ljava/lang/String;I)V" = some ⟨[(.object "java/lang/String"), .int], none⟩ := by decide +kernel
set_option maxRecDepth 65536 in
set_option maxHeartbeats 40000000 in
theorem own_lawA (l : Launch) (Z : State) (a0 : Array Value) (hw : ∀ d ∈ tables_1, d.before a0 Z = true) (ws : List Jvm.Cond) (p1 : Int32) (p2 : Int32) (p3 : Int32) (p4 : Int32) (zc : Int32) (h0 : Heap) (n0 : Nat) (Z0 : n0 ≤ h0.size) (S_COMPACT_STRINGS : Sta Z h0 "java/lang/String" "COMPACT_STRINGS" "Z" (.int zc)) (hz : ¬ (zc = (0 : Int32))) (hn1 : ¬ ((p1 &&& (65535 : Int32)) < (0 : Int32))) (hn2 : ¬ ((65535 : Int32) < (p1 &&& (65535 : Int32)))) (hA : ¬ ((p4 &&& (1 : Int32)) = (0 : Int32))) :
    own_Met l Z x code maxLocals ret ws room_1 #[(.int p1), (.int p2), (.int p3), (.int p4)] h0 (fun v h L => v = some (.int 1) ∧ Fr n0 L) := by
  refine own_body (plainFor_of_name own_pn_com_example_sudsline_sudsline_model_EndpointCheckSixteenBitsPinLaw) (fun p e s m below meth c s₁ hx hby hml0 hrt hlk hown0 hnm hZ X0 e0 => ?_)
  have N0 := Fr.nil n0
  have hown : s.vm.findClass "com/example/sudsline/sudsline/model/EndpointCheckSixteenBitsPinLaw" = some m.cls := hown0
  have hml : c.maxLocals = 6 := hml0
  refine own_castG (own_ef10 m p1 p2 p3 p4) ?_
  show own_Goes _ _ _ _ s₁ (mkF m 0 #[.val (.int p1), .val (.int p2), .val (.int p3), .val (.int p4), .unset, .unset] [])
  refine own_step (fun t k => XS.iloadN X0.here hx rfl (hb hby at_0) rfl k) ?_
  show own_Goes _ _ _ _ s₁ (mkF m 1 #[.val (.int p1), .val (.int p2), .val (.int p3), .val (.int p4), .unset, .unset] [(.int p1)])
  refine own_step (X0.ldcInt hx hown (mvT hZ (hw _ (List.mem_of_getElem? (i := 0) rfl))) (g := (mkF m 1 #[.val (.int p1), .val (.int p2), .val (.int p3), .val (.int p4), .unset, .unset] [(.int p1)])) rfl (hb hby at_1)) ?_
  show own_Goes _ _ _ _ s₁ (mkF m 3 #[.val (.int p1), .val (.int p2), .val (.int p3), .val (.int p4), .unset, .unset] [(.int (65535 : Int32)), (.int p1)])
  refine own_step (fun t k => XS.iand X0.here hx rfl (hb hby at_3) rfl k) ?_
  show own_Goes _ _ _ _ s₁ (mkF m 4 #[.val (.int p1), .val (.int p2), .val (.int p3), .val (.int p4), .unset, .unset] [(.int (p1 &&& (65535 : Int32)))])
  refine own_step (fun t k => XS.istore X0.here hx rfl (hb hby at_4) rfl (l' := #[.val (.int p1), .val (.int p2), .val (.int p3), .val (.int p4), .val (.int (p1 &&& (65535 : Int32))), .unset]) rfl k) ?_
  show own_Goes _ _ _ _ s₁ (mkF m 6 #[.val (.int p1), .val (.int p2), .val (.int p3), .val (.int p4), .val (.int (p1 &&& (65535 : Int32))), .unset] [])
  refine own_step (fun t k => XS.iloadN X0.here hx rfl (hb hby at_6) rfl k) ?_
  show own_Goes _ _ _ _ s₁ (mkF m 7 #[.val (.int p1), .val (.int p2), .val (.int p3), .val (.int p4), .val (.int (p1 &&& (65535 : Int32))), .unset] [(.int p4)])
  refine own_step (fun t k => XS.iconst X0.here hx rfl (hb hby at_7) k) ?_
  show own_Goes _ _ _ _ s₁ (mkF m 8 #[.val (.int p1), .val (.int p2), .val (.int p3), .val (.int p4), .val (.int (p1 &&& (65535 : Int32))), .unset] [(.int (1 : Int32)), (.int p4)])
  refine own_step (fun t k => XS.iand X0.here hx rfl (hb hby at_8) rfl k) ?_
  show own_Goes _ _ _ _ s₁ (mkF m 9 #[.val (.int p1), .val (.int p2), .val (.int p3), .val (.int p4), .val (.int (p1 &&& (65535 : Int32))), .unset] [(.int (p4 &&& (1 : Int32)))])
  refine own_step (fun t k => XS.ifNo X0.here hx rfl (hb hby at_9) rfl ((if0 _ _).trans (feq (show ¬ ((p4 &&& (1 : Int32)) = (0 : Int32)) from hA)).1) k) ?_
  show own_Goes _ _ _ _ s₁ (mkF m 12 #[.val (.int p1), .val (.int p2), .val (.int p3), .val (.int p4), .val (.int (p1 &&& (65535 : Int32))), .unset] [])
  obtain ⟨T1, h1, X1, e1, E1, A1, D1, -, st1⟩ := newO X0 hx hZ hown (hw _ (List.mem_of_getElem? (i := 1) rfl)) (hw _ (List.mem_of_getElem? (i := 2) rfl)) (hw _ (List.mem_of_getElem? (i := 3) rfl)) e0 (g := (mkF m 12 #[.val (.int p1), .val (.int p2), .val (.int p3), .val (.int p4), .val (.int (p1 &&& (65535 : Int32))), .unset] [])) rfl (hb hby at_12) (by decide) (by decide)
  obtain ⟨b1, g1⟩ : ∃ z, z = h0.size := ⟨_, rfl⟩
  rw [← g1] at A1 D1 st1
  refine own_step st1 ?_
  have g_b1 : n0 ≤ b1 := Nat.le_trans Z0 (Nat.le_of_eq g1.symm)
  have sz_b1 : h0.size ≤ b1 := Nat.le_trans (Keep.refl h0 []).1 (Nat.le_of_eq g1.symm)
  have K1 := (Keep.refl h0 []).ext E1
  have F_b1_coder : Fld Z h1 b1 "java/lang/String" "coder" "B" (.int (0 : Int32)) := D1 (Or.inr (hw _ (List.mem_of_getElem? (i := 28) rfl))) (ty := .byte) (by decide)
  have F_b1_value : Fld Z h1 b1 "java/lang/String" "value" "[B" .null := D1 (Or.inr (hw _ (List.mem_of_getElem? (i := 30) rfl))) (ty := (.array .byte)) (by decide)
  show own_Goes _ _ _ _ T1 (mkF m 15 #[.val (.int p1), .val (.int p2), .val (.int p3), .val (.int p4), .val (.int (p1 &&& (65535 : Int32))), .unset] [(.ref b1)])
  refine own_step (fun t k => XS.dup X1.here hx rfl (hb hby at_15) rfl rfl k) ?_
  show own_Goes _ _ _ _ T1 (mkF m 16 #[.val (.int p1), .val (.int p2), .val (.int p3), .val (.int p4), .val (.int (p1 &&& (65535 : Int32))), .unset] [(.ref b1), (.ref b1)])
  refine own_step (fun t k => XS.iconst X1.here hx rfl (hb hby at_16) k) ?_
  show own_Goes _ _ _ _ T1 (mkF m 17 #[.val (.int p1), .val (.int p2), .val (.int p3), .val (.int p4), .val (.int (p1 &&& (65535 : Int32))), .unset] [(.int (2 : Int32)), (.ref b1), (.ref b1)])
  obtain ⟨T2, h2, k2, X2, e2, E2, A2, st2⟩ := newP X1 hx hZ (hw _ (List.mem_of_getElem? (i := 4) rfl)) e1 (g := (mkF m 17 #[.val (.int p1), .val (.int p2), .val (.int p3), .val (.int p4), .val (.int (p1 &&& (65535 : Int32))), .unset] [(.int (2 : Int32)), (.ref b1), (.ref b1)])) rfl (hb hby at_17) rfl (by decide) (cap := 2) (by decide) (by decide) (by decide) (by decide)
  obtain ⟨b2, g2⟩ : ∃ z, z = h1.size := ⟨_, rfl⟩
  rw [← g2] at A2 st2
  refine own_step st2 ?_
  have g_b2 : n0 ≤ b2 := Nat.le_trans (Nat.le_trans Z0 K1.1) (Nat.le_of_eq g2.symm)
  have sz_b2 : h0.size ≤ b2 := Nat.le_trans K1.1 (Nat.le_of_eq g2.symm)
  have ne_b1_b2 : b1 ≠ b2 := Nat.ne_of_lt (Nat.lt_of_lt_of_le A1.lt (Nat.le_of_eq g2.symm))
  have K2 := K1.ext E2
  have V_b2 : Arv Z h2 b2 k2 .char (2 : Int32) [(.int (0 : Int32)), (.int (0 : Int32))] (.int (0 : Int32)) := (Arv.new A2 (by decide)).pad (pad_rep [] (.int (0 : Int32)) 2)
  show own_Goes _ _ _ _ T2 (mkF m 19 #[.val (.int p1), .val (.int p2), .val (.int p3), .val (.int p4), .val (.int (p1 &&& (65535 : Int32))), .unset] [(.ref b2), (.ref b1), (.ref b1)])
  refine own_step (fun t k => XS.dup X2.here hx rfl (hb hby at_19) rfl rfl k) ?_
  show own_Goes _ _ _ _ T2 (mkF m 20 #[.val (.int p1), .val (.int p2), .val (.int p3), .val (.int p4), .val (.int (p1 &&& (65535 : Int32))), .unset] [(.ref b2), (.ref b2), (.ref b1), (.ref b1)])
  refine own_step (fun t k => XS.iconst X2.here hx rfl (hb hby at_20) k) ?_
  show own_Goes _ _ _ _ T2 (mkF m 21 #[.val (.int p1), .val (.int p2), .val (.int p3), .val (.int p4), .val (.int (p1 &&& (65535 : Int32))), .unset] [(.int (0 : Int32)), (.ref b2), (.ref b2), (.ref b1), (.ref b1)])
  refine own_step (fun t k => XS.iloadN X2.here hx rfl (hb hby at_21) rfl k) ?_
  show own_Goes _ _ _ _ T2 (mkF m 22 #[.val (.int p1), .val (.int p2), .val (.int p3), .val (.int p4), .val (.int (p1 &&& (65535 : Int32))), .unset] [(.int p2), (.int (0 : Int32)), (.ref b2), (.ref b2), (.ref b1), (.ref b1)])
  refine own_step (fun t k => XS.sipush X2.here hx rfl (hb hby at_22) k) ?_
  show own_Goes _ _ _ _ T2 (mkF m 25 #[.val (.int p1), .val (.int p2), .val (.int p3), .val (.int p4), .val (.int (p1 &&& (65535 : Int32))), .unset] [(.int (255 : Int32)), (.int p2), (.int (0 : Int32)), (.ref b2), (.ref b2), (.ref b1), (.ref b1)])
  refine own_step (fun t k => XS.iand X2.here hx rfl (hb hby at_25) rfl k) ?_
  show own_Goes _ _ _ _ T2 (mkF m 26 #[.val (.int p1), .val (.int p2), .val (.int p3), .val (.int p4), .val (.int (p1 &&& (65535 : Int32))), .unset] [(.int (p2 &&& (255 : Int32))), (.int (0 : Int32)), (.ref b2), (.ref b2), (.ref b1), (.ref b1)])
  refine own_step (fun t k => XS.i2c X2.here hx rfl (hb hby at_26) rfl k) ?_
  show own_Goes _ _ _ _ T2 (mkF m 27 #[.val (.int p1), .val (.int p2), .val (.int p3), .val (.int p4), .val (.int (p1 &&& (65535 : Int32))), .unset] [(.int ((p2 &&& (255 : Int32)).toUInt32.toUInt16.toUInt32.toInt32)), (.int (0 : Int32)), (.ref b2), (.ref b2), (.ref b1), (.ref b1)])
  rw [own_i2c]
  show own_Goes _ _ _ _ T2 (mkF m 27 #[.val (.int p1), .val (.int p2), .val (.int p3), .val (.int p4), .val (.int (p1 &&& (65535 : Int32))), .unset] [(.int (p2 &&& (255 : Int32))), (.int (0 : Int32)), (.ref b2), (.ref b2), (.ref b1), (.ref b1)])
  obtain ⟨T3, h3, X3, e3, W3, V3, st3⟩ := own_castore X2 hx hZ e2 V_b2 (x := (p2 &&& (255 : Int32))) (p2 &&& (255 : Int32)) (own_narc (own_m255 p2).1 (own_m255 p2).2) (j := (0 : Int32)) ⟨by decide, by decide⟩ 0 rfl (Nat.le_of_ble_eq_true rfl) (g := (mkF m 27 #[.val (.int p1), .val (.int p2), .val (.int p3), .val (.int p4), .val (.int (p1 &&& (65535 : Int32))), .unset] [(.int (p2 &&& (255 : Int32))), (.int (0 : Int32)), (.ref b2), (.ref b2), (.ref b1), (.ref b1)])) rfl rfl (hb hby at_27)
  refine own_step st3 ?_
  have K3 := K2.wr W3 (Or.inr sz_b2)
  have N3 := Fr.snoc X3 N0 g_b2
  have V3' : Arv Z h3 b2 k2 .char (2 : Int32) [(.int (p2 &&& (255 : Int32))), (.int (0 : Int32))] (.int (0 : Int32)) := V3
  show own_Goes _ _ _ _ T3 (mkF m 28 #[.val (.int p1), .val (.int p2), .val (.int p3), .val (.int p4), .val (.int (p1 &&& (65535 : Int32))), .unset] [(.ref b2), (.ref b1), (.ref b1)])
  refine own_step (fun t k => XS.dup X3.here hx rfl (hb hby at_28) rfl rfl k) ?_
  show own_Goes _ _ _ _ T3 (mkF m 29 #[.val (.int p1), .val (.int p2), .val (.int p3), .val (.int p4), .val (.int (p1 &&& (65535 : Int32))), .unset] [(.ref b2), (.ref b2), (.ref b1), (.ref b1)])
  refine own_step (fun t k => XS.iconst X3.here hx rfl (hb hby at_29) k) ?_
  show own_Goes _ _ _ _ T3 (mkF m 30 #[.val (.int p1), .val (.int p2), .val (.int p3), .val (.int p4), .val (.int (p1 &&& (65535 : Int32))), .unset] [(.int (1 : Int32)), (.ref b2), (.ref b2), (.ref b1), (.ref b1)])
  refine own_step (fun t k => XS.iloadN X3.here hx rfl (hb hby at_30) rfl k) ?_
  show own_Goes _ _ _ _ T3 (mkF m 31 #[.val (.int p1), .val (.int p2), .val (.int p3), .val (.int p4), .val (.int (p1 &&& (65535 : Int32))), .unset] [(.int p3), (.int (1 : Int32)), (.ref b2), (.ref b2), (.ref b1), (.ref b1)])
  refine own_step (fun t k => XS.sipush X3.here hx rfl (hb hby at_31) k) ?_
  show own_Goes _ _ _ _ T3 (mkF m 34 #[.val (.int p1), .val (.int p2), .val (.int p3), .val (.int p4), .val (.int (p1 &&& (65535 : Int32))), .unset] [(.int (255 : Int32)), (.int p3), (.int (1 : Int32)), (.ref b2), (.ref b2), (.ref b1), (.ref b1)])
  refine own_step (fun t k => XS.iand X3.here hx rfl (hb hby at_34) rfl k) ?_
  show own_Goes _ _ _ _ T3 (mkF m 35 #[.val (.int p1), .val (.int p2), .val (.int p3), .val (.int p4), .val (.int (p1 &&& (65535 : Int32))), .unset] [(.int (p3 &&& (255 : Int32))), (.int (1 : Int32)), (.ref b2), (.ref b2), (.ref b1), (.ref b1)])
  refine own_step (fun t k => XS.i2c X3.here hx rfl (hb hby at_35) rfl k) ?_
  show own_Goes _ _ _ _ T3 (mkF m 36 #[.val (.int p1), .val (.int p2), .val (.int p3), .val (.int p4), .val (.int (p1 &&& (65535 : Int32))), .unset] [(.int ((p3 &&& (255 : Int32)).toUInt32.toUInt16.toUInt32.toInt32)), (.int (1 : Int32)), (.ref b2), (.ref b2), (.ref b1), (.ref b1)])
  rw [own_i2c]
  show own_Goes _ _ _ _ T3 (mkF m 36 #[.val (.int p1), .val (.int p2), .val (.int p3), .val (.int p4), .val (.int (p1 &&& (65535 : Int32))), .unset] [(.int (p3 &&& (255 : Int32))), (.int (1 : Int32)), (.ref b2), (.ref b2), (.ref b1), (.ref b1)])
  obtain ⟨T4, h4, X4, e4, W4, V4, st4⟩ := own_castore X3 hx hZ e3 V3' (x := (p3 &&& (255 : Int32))) (p3 &&& (255 : Int32)) (own_narc (own_m255 p3).1 (own_m255 p3).2) (j := (1 : Int32)) ⟨by decide, by decide⟩ 1 rfl (Nat.le_of_ble_eq_true rfl) (g := (mkF m 36 #[.val (.int p1), .val (.int p2), .val (.int p3), .val (.int p4), .val (.int (p1 &&& (65535 : Int32))), .unset] [(.int (p3 &&& (255 : Int32))), (.int (1 : Int32)), (.ref b2), (.ref b2), (.ref b1), (.ref b1)])) rfl rfl (hb hby at_36)
  refine own_step st4 ?_
  have K4 := K3.wr W4 (Or.inr sz_b2)
  have N4 := Fr.snoc X4 N3 g_b2
  have V4' : Arv Z h4 b2 k2 .char (2 : Int32) [(.int (p2 &&& (255 : Int32))), (.int (p3 &&& (255 : Int32)))] (.int (0 : Int32)) := V4
  show own_Goes _ _ _ _ T4 (mkF m 37 #[.val (.int p1), .val (.int p2), .val (.int p3), .val (.int p4), .val (.int (p1 &&& (65535 : Int32))), .unset] [(.ref b2), (.ref b1), (.ref b1)])
  have A1_v5 := (((A1.ext E2).wr W3).wr W4)
  have F_b1_value_v6 := (((F_b1_value.ext E2).other W3 (Or.inl ne_b1_b2)).other W4 (Or.inl ne_b1_b2))
  have F_b1_coder_v7 := (((F_b1_coder.ext E2).other W3 (Or.inl ne_b1_b2)).other W4 (Or.inl ne_b1_b2))
  have S_COMPACT_STRINGS_v8 := ((((S_COMPACT_STRINGS.ext E1).ext E2).wr W3).wr W4)
  refine own_callC X4 hx hZ (y := (⟨"java/lang/String", "<init>", "([C)V"⟩ : MethodName)) rfl hown (hw _ (List.mem_of_getElem? (i := 5) rfl)) (hw _ (List.mem_of_getElem? (i := 6) rfl)) (hw _ (List.mem_of_getElem? (i := 7) rfl)) (hw _ (List.mem_of_getElem? (i := 3) rfl)) (by decide) 1 (a := b1) [(.ref b2)] [(.ref b1)] (own_sinit_2 l Z a0 hw [] b1 b2 k2 (p2 &&& (255 : Int32)) (p3 &&& (255 : Int32)) zc h4 n0 (Nat.le_trans Z0 K4.1) A1_v5 F_b1_value_v6 F_b1_coder_v7 V4' S_COMPACT_STRINGS_v8 (own_m255 p2).2 (own_m255 p3).2 hz g_b1) e4  (by decide) (by decide) (by decide) (by decide) (g := (mkF m 37 #[.val (.int p1), .val (.int p2), .val (.int p3), .val (.int p4), .val (.int (p1 &&& (65535 : Int32))), .unset] [(.ref b2), (.ref b1), (.ref b1)])) rfl (by rw [hml]; rfl) own_pd7 rfl rfl (by show 2 * 0 + _ ≤ _; exact Nat.le_of_eq rfl) (hb hby at_37) ?_
  intro T9 v9 L9 X9 hQ9
  obtain ⟨b9_0, k9_0, rfl, N9q, Kq9, zq9_0, q9_0, q9_1, q9_2, q9_3⟩ := hQ9
  have N9 := Fr.app N4 N9q
  have K9 := K4.trans Kq9 (allS (Or.inr sz_b1) all0)
  have g_b9_0 : n0 ≤ b9_0 := Nat.le_trans (Nat.le_trans Z0 K4.1) zq9_0
  have sz_b9_0 : h0.size ≤ b9_0 := Nat.le_trans K4.1 zq9_0
  have ne_b1_b9_0 : b1 ≠ b9_0 := Nat.ne_of_lt (Nat.lt_of_lt_of_le A1_v5.lt zq9_0)
  have ne_b2_b9_0 : b2 ≠ b9_0 := Nat.ne_of_lt (Nat.lt_of_lt_of_le V4'.lt zq9_0)
  have q9_0' : Exa Z T9.heap b1 "java/lang/String" := q9_0
  have q9_1' : Fld Z T9.heap b1 "java/lang/String" "coder" "B" (.int (0 : Int32)) := q9_1
  have q9_2' : Fld Z T9.heap b1 "java/lang/String" "value" "[B" (.ref b9_0) := q9_2
  have q9_3' : Arv Z T9.heap b9_0 k9_0 .byte (2 : Int32) [(.int ((p2 &&& (255 : Int32)).toInt8.toInt32)), (.int ((p3 &&& (255 : Int32)).toInt8.toInt32))] (.int (0 : Int32)) := q9_3
  show own_Goes _ _ _ _ T9 (mkF m 40 #[.val (.int p1), .val (.int p2), .val (.int p3), .val (.int p4), .val (.int (p1 &&& (65535 : Int32))), .unset] [(.ref b1)])
  refine own_step (fun t k => XS.astore X9.here hx rfl (hb hby at_40) rfl rfl (l' := #[.val (.int p1), .val (.int p2), .val (.int p3), .val (.int p4), .val (.int (p1 &&& (65535 : Int32))), .val (.ref b1)]) rfl k) ?_
  show own_Goes _ _ _ _ T9 (mkF m 42 #[.val (.int p1), .val (.int p2), .val (.int p3), .val (.int p4), .val (.int (p1 &&& (65535 : Int32))), .val (.ref b1)] [])
  refine own_step (fun t k => XS.goto X9.here hx rfl (pc0 := 42) (pc' := 77) rfl (hb hby at_42) (by decide) (by decide) k) ?_
  show own_Goes _ _ _ _ T9 (mkF m 77 #[.val (.int p1), .val (.int p2), .val (.int p3), .val (.int p4), .val (.int (p1 &&& (65535 : Int32))), .val (.ref b1)] [])
  refine own_step (fun t k => XS.aload X9.here hx rfl (hb hby at_77) rfl rfl k) ?_
  show own_Goes _ _ _ _ T9 (mkF m 79 #[.val (.int p1), .val (.int p2), .val (.int p3), .val (.int p4), .val (.int (p1 &&& (65535 : Int32))), .val (.ref b1)] [(.ref b1)])
  refine own_step (fun t k => XS.iload X9.here hx rfl (hb hby at_79) rfl k) ?_
  show own_Goes _ _ _ _ T9 (mkF m 81 #[.val (.int p1), .val (.int p2), .val (.int p3), .val (.int p4), .val (.int (p1 &&& (65535 : Int32))), .val (.ref b1)] [(.int (p1 &&& (65535 : Int32))), (.ref b1)])
  refine own_callS X9 hx hZ (y := (⟨"com/example/sudsline/sudsline/model/Endpoint", "checkSixteenBits", "(Ljava/lang/String;I)V"⟩ : MethodName)) hown (hw _ (List.mem_of_getElem? (i := 31) rfl)) (hw _ (List.mem_of_getElem? (i := 32) rfl)) (hw _ (List.mem_of_getElem? (i := 33) rfl)) (hw _ (List.mem_of_getElem? (i := 34) rfl)) (by decide) 0 [(.ref b1), (.int (p1 &&& (65535 : Int32)))] [] (own_chk l Z a0 hw [] b1 (p1 &&& (65535 : Int32)) T9.heap n0 (Nat.le_trans Z0 K9.1) hn1 hn2) rfl  (by decide) (by decide) (by decide) (by decide) (g := (mkF m 81 #[.val (.int p1), .val (.int p2), .val (.int p3), .val (.int p4), .val (.int (p1 &&& (65535 : Int32))), .val (.ref b1)] [(.int (p1 &&& (65535 : Int32))), (.ref b1)])) rfl (by rw [hml]; rfl) own_pd8 rfl rfl (by show 2 * 0 + _ ≤ _; exact Nat.le_of_eq rfl) (hb hby at_81) ?_
  intro T10 v10 L10 X10 hQ10
  obtain ⟨rfl, N10q, e10⟩ := hQ10
  have N10 := Fr.app N9 N10q
  show own_Goes _ _ _ _ T10 (mkF m 84 #[.val (.int p1), .val (.int p2), .val (.int p3), .val (.int p4), .val (.int (p1 &&& (65535 : Int32))), .val (.ref b1)] [])
  refine own_step (fun t k => XS.iconst X10.here hx rfl (hb hby at_84) k) ?_
  show own_Goes _ _ _ _ T10 (mkF m 85 #[.val (.int p1), .val (.int p2), .val (.int p3), .val (.int p4), .val (.int (p1 &&& (65535 : Int32))), .val (.ref b1)] [(.int (1 : Int32))])
  exact own_retN X10 hx hlk (t := .boolean) hrt (by simp) (hb hby at_85) ⟨rfl, N10⟩ (by decide) (by decide)
theorem own_pd9 : parseMethodDescriptor "(C)Ljava/lang/String;" = some ⟨[.char], some (.object "java/lang/String")⟩ := by decide +kernel
set_option maxRecDepth 65536 in
set_option maxHeartbeats 40000000 in
theorem own_lawB (l : Launch) (Z : State) (a0 : Array Value) (hw : ∀ d ∈ tables_1, d.before a0 Z = true) (ws : List Jvm.Cond) (p1 : Int32) (p2 : Int32) (p3 : Int32) (p4 : Int32) (zc : Int32) (h0 : Heap) (n0 : Nat) (Z0 : n0 ≤ h0.size) (S_COMPACT_STRINGS : Sta Z h0 "java/lang/String" "COMPACT_STRINGS" "Z" (.int zc)) (hz : ¬ (zc = (0 : Int32))) (hn1 : ¬ ((p1 &&& (65535 : Int32)) < (0 : Int32))) (hn2 : ¬ ((65535 : Int32) < (p1 &&& (65535 : Int32)))) (hA : (p4 &&& (1 : Int32)) = (0 : Int32)) (hB : ¬ ((p4 &&& (2 : Int32)) = (0 : Int32))) :
    own_Met l Z x code maxLocals ret ws room_1 #[(.int p1), (.int p2), (.int p3), (.int p4)] h0 (fun v h L => v = some (.int 1) ∧ Fr n0 L) := by
  refine own_body (plainFor_of_name own_pn_com_example_sudsline_sudsline_model_EndpointCheckSixteenBitsPinLaw) (fun p e s m below meth c s₁ hx hby hml0 hrt hlk hown0 hnm hZ X0 e0 => ?_)
  have N0 := Fr.nil n0
  have hown : s.vm.findClass "com/example/sudsline/sudsline/model/EndpointCheckSixteenBitsPinLaw" = some m.cls := hown0
  have hml : c.maxLocals = 6 := hml0
  refine own_castG (own_ef10 m p1 p2 p3 p4) ?_
  show own_Goes _ _ _ _ s₁ (mkF m 0 #[.val (.int p1), .val (.int p2), .val (.int p3), .val (.int p4), .unset, .unset] [])
  refine own_step (fun t k => XS.iloadN X0.here hx rfl (hb hby at_0) rfl k) ?_
  show own_Goes _ _ _ _ s₁ (mkF m 1 #[.val (.int p1), .val (.int p2), .val (.int p3), .val (.int p4), .unset, .unset] [(.int p1)])
  refine own_step (X0.ldcInt hx hown (mvT hZ (hw _ (List.mem_of_getElem? (i := 0) rfl))) (g := (mkF m 1 #[.val (.int p1), .val (.int p2), .val (.int p3), .val (.int p4), .unset, .unset] [(.int p1)])) rfl (hb hby at_1)) ?_
  show own_Goes _ _ _ _ s₁ (mkF m 3 #[.val (.int p1), .val (.int p2), .val (.int p3), .val (.int p4), .unset, .unset] [(.int (65535 : Int32)), (.int p1)])
  refine own_step (fun t k => XS.iand X0.here hx rfl (hb hby at_3) rfl k) ?_
  show own_Goes _ _ _ _ s₁ (mkF m 4 #[.val (.int p1), .val (.int p2), .val (.int p3), .val (.int p4), .unset, .unset] [(.int (p1 &&& (65535 : Int32)))])
  refine own_step (fun t k => XS.istore X0.here hx rfl (hb hby at_4) rfl (l' := #[.val (.int p1), .val (.int p2), .val (.int p3), .val (.int p4), .val (.int (p1 &&& (65535 : Int32))), .unset]) rfl k) ?_
  show own_Goes _ _ _ _ s₁ (mkF m 6 #[.val (.int p1), .val (.int p2), .val (.int p3), .val (.int p4), .val (.int (p1 &&& (65535 : Int32))), .unset] [])
  refine own_step (fun t k => XS.iloadN X0.here hx rfl (hb hby at_6) rfl k) ?_
  show own_Goes _ _ _ _ s₁ (mkF m 7 #[.val (.int p1), .val (.int p2), .val (.int p3), .val (.int p4), .val (.int (p1 &&& (65535 : Int32))), .unset] [(.int p4)])
  refine own_step (fun t k => XS.iconst X0.here hx rfl (hb hby at_7) k) ?_
  show own_Goes _ _ _ _ s₁ (mkF m 8 #[.val (.int p1), .val (.int p2), .val (.int p3), .val (.int p4), .val (.int (p1 &&& (65535 : Int32))), .unset] [(.int (1 : Int32)), (.int p4)])
  refine own_step (fun t k => XS.iand X0.here hx rfl (hb hby at_8) rfl k) ?_
  show own_Goes _ _ _ _ s₁ (mkF m 9 #[.val (.int p1), .val (.int p2), .val (.int p3), .val (.int p4), .val (.int (p1 &&& (65535 : Int32))), .unset] [(.int (p4 &&& (1 : Int32)))])
  refine own_step (fun t k => XS.ifYes X0.here hx rfl (pc0 := 9) (pc' := 45) rfl (hb hby at_9) rfl ((if0 _ _).trans (teq (show (p4 &&& (1 : Int32)) = (0 : Int32) from hA)).1) (by decide) (by decide) k) ?_
  show own_Goes _ _ _ _ s₁ (mkF m 45 #[.val (.int p1), .val (.int p2), .val (.int p3), .val (.int p4), .val (.int (p1 &&& (65535 : Int32))), .unset] [])
  refine own_step (fun t k => XS.iloadN X0.here hx rfl (hb hby at_45) rfl k) ?_
  show own_Goes _ _ _ _ s₁ (mkF m 46 #[.val (.int p1), .val (.int p2), .val (.int p3), .val (.int p4), .val (.int (p1 &&& (65535 : Int32))), .unset] [(.int p4)])
  refine own_step (fun t k => XS.iconst X0.here hx rfl (hb hby at_46) k) ?_
  show own_Goes _ _ _ _ s₁ (mkF m 47 #[.val (.int p1), .val (.int p2), .val (.int p3), .val (.int p4), .val (.int (p1 &&& (65535 : Int32))), .unset] [(.int (2 : Int32)), (.int p4)])
  refine own_step (fun t k => XS.iand X0.here hx rfl (hb hby at_47) rfl k) ?_
  show own_Goes _ _ _ _ s₁ (mkF m 48 #[.val (.int p1), .val (.int p2), .val (.int p3), .val (.int p4), .val (.int (p1 &&& (65535 : Int32))), .unset] [(.int (p4 &&& (2 : Int32)))])
  refine own_step (fun t k => XS.ifNo X0.here hx rfl (hb hby at_48) rfl ((if0 _ _).trans (feq (show ¬ ((p4 &&& (2 : Int32)) = (0 : Int32)) from hB)).1) k) ?_
  show own_Goes _ _ _ _ s₁ (mkF m 51 #[.val (.int p1), .val (.int p2), .val (.int p3), .val (.int p4), .val (.int (p1 &&& (65535 : Int32))), .unset] [])
  refine own_step (fun t k => XS.iloadN X0.here hx rfl (hb hby at_51) rfl k) ?_
  show own_Goes _ _ _ _ s₁ (mkF m 52 #[.val (.int p1), .val (.int p2), .val (.int p3), .val (.int p4), .val (.int (p1 &&& (65535 : Int32))), .unset] [(.int p2)])
  refine own_step (fun t k => XS.sipush X0.here hx rfl (hb hby at_52) k) ?_
  show own_Goes _ _ _ _ s₁ (mkF m 55 #[.val (.int p1), .val (.int p2), .val (.int p3), .val (.int p4), .val (.int (p1 &&& (65535 : Int32))), .unset] [(.int (255 : Int32)), (.int p2)])
  refine own_step (fun t k => XS.iand X0.here hx rfl (hb hby at_55) rfl k) ?_
  show own_Goes _ _ _ _ s₁ (mkF m 56 #[.val (.int p1), .val (.int p2), .val (.int p3), .val (.int p4), .val (.int (p1 &&& (65535 : Int32))), .unset] [(.int (p2 &&& (255 : Int32)))])
  refine own_step (fun t k => XS.i2c X0.here hx rfl (hb hby at_56) rfl k) ?_
  show own_Goes _ _ _ _ s₁ (mkF m 57 #[.val (.int p1), .val (.int p2), .val (.int p3), .val (.int p4), .val (.int (p1 &&& (65535 : Int32))), .unset] [(.int ((p2 &&& (255 : Int32)).toUInt32.toUInt16.toUInt32.toInt32))])
  rw [own_i2c]
  show own_Goes _ _ _ _ s₁ (mkF m 57 #[.val (.int p1), .val (.int p2), .val (.int p3), .val (.int p4), .val (.int (p1 &&& (65535 : Int32))), .unset] [(.int (p2 &&& (255 : Int32)))])
  refine own_callS X0 hx hZ (y := (⟨"java/lang/String", "valueOf", "(C)Ljava/lang/String;"⟩ : MethodName)) hown (hw _ (List.mem_of_getElem? (i := 36) rfl)) (hw _ (List.mem_of_getElem? (i := 37) rfl)) (hw _ (List.mem_of_getElem? (i := 3) rfl)) (hw _ (List.mem_of_getElem? (i := 38) rfl)) (by decide) 0 [(.int (p2 &&& (255 : Int32)))] [] (own_vof l Z a0 hw [] (p2 &&& (255 : Int32)) zc h0 n0 Z0 S_COMPACT_STRINGS (own_m255 p2).2 hz) e0  (by decide) (by decide) (by decide) (by decide) (g := (mkF m 57 #[.val (.int p1), .val (.int p2), .val (.int p3), .val (.int p4), .val (.int (p1 &&& (65535 : Int32))), .unset] [(.int (p2 &&& (255 : Int32)))])) rfl (by rw [hml]; rfl) own_pd9 rfl rfl (by show 2 * 0 + _ ≤ _; exact Nat.le_of_eq rfl) (hb hby at_57) ?_
  intro T1 v1 L1 X1 hQ1
  obtain ⟨b1_0, rfl, N1q, Kq1, zq1_0, q1_0⟩ := hQ1
  have N1 := Fr.app N0 N1q
  have K1 := (Keep.refl h0 []).trans Kq1 all0
  have g_b1_0 : n0 ≤ b1_0 := Nat.le_trans Z0 zq1_0
  have sz_b1_0 : h0.size ≤ b1_0 := Nat.le_trans (Keep.refl h0 []).1 zq1_0
  have q1_0' : Exa Z T1.heap b1_0 "java/lang/String" := q1_0
  show own_Goes _ _ _ _ T1 (mkF m 60 #[.val (.int p1), .val (.int p2), .val (.int p3), .val (.int p4), .val (.int (p1 &&& (65535 : Int32))), .unset] [(.ref b1_0)])
  refine own_step (fun t k => XS.astore X1.here hx rfl (hb hby at_60) rfl rfl (l' := #[.val (.int p1), .val (.int p2), .val (.int p3), .val (.int p4), .val (.int (p1 &&& (65535 : Int32))), .val (.ref b1_0)]) rfl k) ?_
  show own_Goes _ _ _ _ T1 (mkF m 62 #[.val (.int p1), .val (.int p2), .val (.int p3), .val (.int p4), .val (.int (p1 &&& (65535 : Int32))), .val (.ref b1_0)] [])
  refine own_step (fun t k => XS.goto X1.here hx rfl (pc0 := 62) (pc' := 77) rfl (hb hby at_62) (by decide) (by decide) k) ?_
  show own_Goes _ _ _ _ T1 (mkF m 77 #[.val (.int p1), .val (.int p2), .val (.int p3), .val (.int p4), .val (.int (p1 &&& (65535 : Int32))), .val (.ref b1_0)] [])
  refine own_step (fun t k => XS.aload X1.here hx rfl (hb hby at_77) rfl rfl k) ?_
  show own_Goes _ _ _ _ T1 (mkF m 79 #[.val (.int p1), .val (.int p2), .val (.int p3), .val (.int p4), .val (.int (p1 &&& (65535 : Int32))), .val (.ref b1_0)] [(.ref b1_0)])
  refine own_step (fun t k => XS.iload X1.here hx rfl (hb hby at_79) rfl k) ?_
  show own_Goes _ _ _ _ T1 (mkF m 81 #[.val (.int p1), .val (.int p2), .val (.int p3), .val (.int p4), .val (.int (p1 &&& (65535 : Int32))), .val (.ref b1_0)] [(.int (p1 &&& (65535 : Int32))), (.ref b1_0)])
  refine own_callS X1 hx hZ (y := (⟨"com/example/sudsline/sudsline/model/Endpoint", "checkSixteenBits", "(Ljava/lang/String;I)V"⟩ : MethodName)) hown (hw _ (List.mem_of_getElem? (i := 31) rfl)) (hw _ (List.mem_of_getElem? (i := 32) rfl)) (hw _ (List.mem_of_getElem? (i := 33) rfl)) (hw _ (List.mem_of_getElem? (i := 34) rfl)) (by decide) 0 [(.ref b1_0), (.int (p1 &&& (65535 : Int32)))] [] (own_chk l Z a0 hw [] b1_0 (p1 &&& (65535 : Int32)) T1.heap n0 (Nat.le_trans Z0 K1.1) hn1 hn2) rfl  (by decide) (by decide) (by decide) (by decide) (g := (mkF m 81 #[.val (.int p1), .val (.int p2), .val (.int p3), .val (.int p4), .val (.int (p1 &&& (65535 : Int32))), .val (.ref b1_0)] [(.int (p1 &&& (65535 : Int32))), (.ref b1_0)])) rfl (by rw [hml]; rfl) own_pd8 rfl rfl (by show 2 * 0 + _ ≤ _; exact Nat.le_of_eq rfl) (hb hby at_81) ?_
  intro T2 v2 L2 X2 hQ2
  obtain ⟨rfl, N2q, e2⟩ := hQ2
  have N2 := Fr.app N1 N2q
  show own_Goes _ _ _ _ T2 (mkF m 84 #[.val (.int p1), .val (.int p2), .val (.int p3), .val (.int p4), .val (.int (p1 &&& (65535 : Int32))), .val (.ref b1_0)] [])
  refine own_step (fun t k => XS.iconst X2.here hx rfl (hb hby at_84) k) ?_
  show own_Goes _ _ _ _ T2 (mkF m 85 #[.val (.int p1), .val (.int p2), .val (.int p3), .val (.int p4), .val (.int (p1 &&& (65535 : Int32))), .val (.ref b1_0)] [(.int (1 : Int32))])
  exact own_retN X2 hx hlk (t := .boolean) hrt (by simp) (hb hby at_85) ⟨rfl, N2⟩ (by decide) (by decide)
theorem own_jdk_42_method_149_8 : decode jdk_42_method_149_code 8 = .ok (.aload_n 0, 1) := by decide +kernel
theorem own_jdk_42_method_149_9 : decode jdk_42_method_149_code 9 = .ok (.ldc 7, 2) := by decide +kernel
theorem own_jdk_42_method_149_11 : decode jdk_42_method_149_code 11 = .ok (.getfield 9, 3) := by decide +kernel
theorem own_jdk_42_method_149_14 : decode jdk_42_method_149_code 14 = .ok (.putfield 9, 3) := by decide +kernel
theorem own_jdk_42_method_149_17 : decode jdk_42_method_149_code 17 = .ok (.aload_n 0, 1) := by decide +kernel
theorem own_jdk_42_method_149_18 : decode jdk_42_method_149_code 18 = .ok (.ldc 7, 2) := by decide +kernel
theorem own_jdk_42_method_149_20 : decode jdk_42_method_149_code 20 = .ok (.getfield 15, 3) := by decide +kernel
theorem own_jdk_42_method_149_23 : decode jdk_42_method_149_code 23 = .ok (.putfield 15, 3) := by decide +kernel
theorem own_jdk_42_method_149_26 : decode jdk_42_method_149_code 26 = .ok (.return_, 1) := by decide +kernel
set_option maxRecDepth 65536 in
set_option maxHeartbeats 40000000 in
theorem own_sinit4_w (l : Launch) (Z : State) (a0 : Array Value) (hw : ∀ d ∈ tables_1, d.before a0 Z = true) (ws : List Jvm.Cond) (a : Addr) (sr : Addr) (h0 : Heap) (n0 : Nat) (Z0 : n0 ≤ h0.size) (E_a : Exa Z h0 a "java/lang/String") (F_a_value : Fld Z h0 a "java/lang/String" "value" "[B" .null) (F_a_coder : Fld Z h0 a "java/lang/String" "coder" "B" (.int (0 : Int32))) (g_a : n0 ≤ a) :
    own_MetW l Z own_EL (⟨"java/lang/String", "<init>", "([CIILjava/lang/Void;)V"⟩ : MethodName) jdk_42_method_149_code 6 none ws ({ frames := 1, cells := 4, slots := 8, locals := 12 } : Room) #[(.ref a), (.ref sr), (.int (0 : Int32)), (.int (0 : Int32)), .null] h0 (fun v h L => ∃ r : Addr, ∃ kr : ClassId, v = none ∧ Fr n0 L ∧ Keep h0 h [a] ∧ Exa Z h a "java/lang/String" ∧ Fld Z h a "java/lang/String" "coder" "B" (.int (0 : Int32)) ∧ Fld Z h a "java/lang/String" "value" "[B" (.ref r) ∧ Arv Z h r kr .byte (0 : Int32) [] (.int (0 : Int32))) := by
  refine own_bodyW (plainFor_of_name own_pn_java_lang_String) (fun p e s m below meth c s₁ hx hby hml0 hrt hlk hown0 hnm hZ X0 e0 HC0 RC0 HS0 => ?_)
  have N0 := Fr.nil n0
  have hown : (s.setVm s.vm).vm.findClass "java/lang/String" = some m.cls := hown0
  have hml : c.maxLocals = 6 := hml0
  refine own_castG (own_ef8 m a sr (0 : Int32) (0 : Int32)) ?_
  have hEL := own_hEL hw
  show own_Goes _ _ _ _ s₁ (mkF m 0 #[.val (.ref a), .val (.ref sr), .val (.int (0 : Int32)), .val (.int (0 : Int32)), .val .null, .unset] [])
  have SFa := own_safeNull (EL := own_EL) hZ.alike E_a F_a_value
  refine own_step (fun t k => XS.aloadN X0.here hx rfl (hb hby own_jdk_42_method_149_0) rfl rfl k) ?_
  show own_Goes _ _ _ _ s₁ (mkF m 1 #[.val (.ref a), .val (.ref sr), .val (.int (0 : Int32)), .val (.int (0 : Int32)), .val .null, .unset] [(.ref a)])
  obtain ⟨T1, X1, e1, st1⟩ := initO X0 hx hZ hown (hw _ (List.mem_of_getElem? (i := 12) rfl)) (hw _ (List.mem_of_getElem? (i := 13) rfl)) (hw _ (List.mem_of_getElem? (i := 14) rfl)) e0 (g := (mkF m 1 #[.val (.ref a), .val (.ref sr), .val (.int (0 : Int32)), .val (.int (0 : Int32)), .val .null, .unset] [(.ref a)])) rfl (by rw [hml]; rfl) rfl (hb hby own_jdk_42_method_149_1) (by decide) (W := 0) (by show 2 * 0 + _ ≤ _; exact Nat.le_of_eq rfl) (by decide)
  refine own_step st1 ?_
  show own_Goes _ _ _ _ T1 (mkF m 4 #[.val (.ref a), .val (.ref sr), .val (.int (0 : Int32)), .val (.int (0 : Int32)), .val .null, .unset] [])
  refine own_step (fun t k => XS.iloadN X1.here hx rfl (hb hby own_jdk_42_method_149_4) rfl k) ?_
  show own_Goes _ _ _ _ T1 (mkF m 5 #[.val (.ref a), .val (.ref sr), .val (.int (0 : Int32)), .val (.int (0 : Int32)), .val .null, .unset] [(.int (0 : Int32))])
  refine own_step (fun t k => XS.ifNo X1.here hx rfl (hb hby own_jdk_42_method_149_5) rfl ((if0 _ _).trans (teq (show (0 : Int32) = (0 : Int32) from (by decide))).2) k) ?_
  show own_Goes _ _ _ _ T1 (mkF m 8 #[.val (.ref a), .val (.ref sr), .val (.int (0 : Int32)), .val (.int (0 : Int32)), .val .null, .unset] [])
  refine own_step (fun t k => XS.aloadN X1.here hx rfl (hb hby own_jdk_42_method_149_8) rfl rfl k) ?_
  show own_Goes _ _ _ _ T1 (mkF m 9 #[.val (.ref a), .val (.ref sr), .val (.int (0 : Int32)), .val (.int (0 : Int32)), .val .null, .unset] [(.ref a)])
  obtain ⟨q2, T2, h2, k2, b2, kb2, X2, e2, E2, HS2, HK2, hZ, hown, Eq2, Fc2, Fv2, Vb2, -, -, CR2, -, ne2, st2⟩ := ldcCH X1 hx hZ hown (hw _ (List.mem_of_getElem? (i := 50) rfl)) (own_atoms hw) e1 HS0 (Nat.le_refl _) hEL (own := "java/lang/String") (index := 7) (List.mem_of_getElem? (i := 0) rfl) HC0 (vs := []) (z := (0 : Int32)) own_e0 (by decide) rfl (g := (mkF m 9 #[.val (.ref a), .val (.ref sr), .val (.int (0 : Int32)), .val (.int (0 : Int32)), .val .null, .unset] [(.ref a)])) rfl (hb hby own_jdk_42_method_149_9) (n := 0) (by simp) (by decide) (by decide) (by decide)
  refine own_step st2 ?_
  have SF2 := CR2.safe E_a.lt SFa
  have K2 := (Keep.refl h0 [a]).ext E2
  have RC2 := RC0.trans CR2
  have HC2 := CR2.1
  show own_Goes _ _ _ _ T2 (mkF m 11 #[.val (.ref a), .val (.ref sr), .val (.int (0 : Int32)), .val (.int (0 : Int32)), .val .null, .unset] [(.ref q2), (.ref a)])
  obtain ⟨T3, X3, e3, st3⟩ := getF X2 hx hZ hown (host := "") (Or.inl (hw _ (List.mem_of_getElem? (i := 29) rfl))) Via.refl e2 Fv2 (g := (mkF m 11 #[.val (.ref a), .val (.ref sr), .val (.int (0 : Int32)), .val (.int (0 : Int32)), .val .null, .unset] [(.ref q2), (.ref a)])) rfl rfl (hb hby own_jdk_42_method_149_11)
  refine own_step st3 ?_
  show own_Goes _ _ _ _ T3 (mkF m 14 #[.val (.ref a), .val (.ref sr), .val (.int (0 : Int32)), .val (.int (0 : Int32)), .val .null, .unset] [(.ref b2), (.ref a)])
  have E_a_v5 := (E_a.ext E2)
  have F_a_value_v6 := (F_a_value.ext E2)
  obtain ⟨T4, h4, X4, e4, W4, st4⟩ := putF X3 hx hZ hown (host := "") (Or.inl (hw _ (List.mem_of_getElem? (i := 29) rfl))) Via.refl e3 F_a_value_v6 E_a_v5 (Or.inr ⟨(hw _ (List.mem_of_getElem? (i := 30) rfl)), rfl, hnm⟩) (hw _ (List.mem_of_getElem? (i := 2) rfl)) (ty := (.array .byte)) (by decide) rfl rfl (g := (mkF m 14 #[.val (.ref a), .val (.ref sr), .val (.int (0 : Int32)), .val (.int (0 : Int32)), .val .null, .unset] [(.ref b2), (.ref a)])) rfl rfl (hb hby own_jdk_42_method_149_14)
  refine own_step st4 ?_
  have F4 := F_a_value_v6.same W4
  have K4 := K2.wr W4 (Or.inl (List.mem_of_getElem? (i := 0) rfl))
  have N4 := Fr.snoc X4 N0 g_a
  have SF4 := Safe.wr W4 (own_safeNull hZ.alike E_a_v5 F_a_value_v6) HC2 (own_safeNull hZ.alike E_a_v5 F_a_value_v6)
  have RC4 := RC2.trans (CHr.wr W4 (own_safeNull hZ.alike E_a_v5 F_a_value_v6) HC2)
  have HC4 := CHv.wr W4 (own_safeNull hZ.alike E_a_v5 F_a_value_v6) HC2
  show own_Goes _ _ _ _ T4 (mkF m 17 #[.val (.ref a), .val (.ref sr), .val (.int (0 : Int32)), .val (.int (0 : Int32)), .val .null, .unset] [])
  refine own_step (fun t k => XS.aloadN X4.here hx rfl (hb hby own_jdk_42_method_149_17) rfl rfl k) ?_
  show own_Goes _ _ _ _ T4 (mkF m 18 #[.val (.ref a), .val (.ref sr), .val (.int (0 : Int32)), .val (.int (0 : Int32)), .val .null, .unset] [(.ref a)])
  obtain ⟨q7, T7, h7, k7, b7, kb7, X7, e7, E7, HS7, HK7, hZ, hown, Eq7, Fc7, Fv7, Vb7, -, -, CR7, -, ne7, st7⟩ := ldcCH X4 hx hZ hown (hw _ (List.mem_of_getElem? (i := 50) rfl)) (own_atoms hw) e4 HS2 (Nat.le_trans HK2 (Keep.of_wr W4).1) hEL (own := "java/lang/String") (index := 7) (List.mem_of_getElem? (i := 0) rfl) HC4 (vs := []) (z := (0 : Int32)) own_e0 (by decide) rfl (g := (mkF m 18 #[.val (.ref a), .val (.ref sr), .val (.int (0 : Int32)), .val (.int (0 : Int32)), .val .null, .unset] [(.ref a)])) rfl (hb hby own_jdk_42_method_149_18) (n := 0) (by simp) (by decide) (by decide) (by decide)
  refine own_step st7 ?_
  have E_a_v8 := (E_a_v5.wr W4)
  have SF7 := CR7.safe E_a_v8.lt SF4
  have K7 := K4.ext E7
  have RC7 := RC4.trans CR7
  have HC7 := CR7.1
  show own_Goes _ _ _ _ T7 (mkF m 20 #[.val (.ref a), .val (.ref sr), .val (.int (0 : Int32)), .val (.int (0 : Int32)), .val .null, .unset] [(.ref q7), (.ref a)])
  obtain ⟨T9, X9, e9, st9⟩ := getF X7 hx hZ hown (host := "") (Or.inl (hw _ (List.mem_of_getElem? (i := 27) rfl))) Via.refl e7 Fc7 (g := (mkF m 20 #[.val (.ref a), .val (.ref sr), .val (.int (0 : Int32)), .val (.int (0 : Int32)), .val .null, .unset] [(.ref q7), (.ref a)])) rfl rfl (hb hby own_jdk_42_method_149_20)
  refine own_step st9 ?_
  show own_Goes _ _ _ _ T9 (mkF m 23 #[.val (.ref a), .val (.ref sr), .val (.int (0 : Int32)), .val (.int (0 : Int32)), .val .null, .unset] [(.int (0 : Int32)), (.ref a)])
  have E_a_v11 := (E_a_v8.ext E7)
  have F_a_coder_v12 := (((F_a_coder.ext E2).other W4 (Or.inr (slot_ne (Or.inr (hw _ (List.mem_of_getElem? (i := 28) rfl))) (Or.inr (hw _ (List.mem_of_getElem? (i := 30) rfl))) (by decide) (t := .byte) (t' := (.array .byte)) (by decide) (by decide)))).ext E7)
  obtain ⟨T10, h10, X10, e10, W10, st10⟩ := putFN X9 hx hZ hown (hw _ (List.mem_of_getElem? (i := 27) rfl)) Via.refl e9 F_a_coder_v12 E_a_v11 (Or.inr ⟨(hw _ (List.mem_of_getElem? (i := 28) rfl)), rfl, hnm⟩) (hw _ (List.mem_of_getElem? (i := 2) rfl)) (ty := .byte) (v' := (.int (0 : Int32))) (by decide) rfl rfl (g := (mkF m 23 #[.val (.ref a), .val (.ref sr), .val (.int (0 : Int32)), .val (.int (0 : Int32)), .val .null, .unset] [(.int (0 : Int32)), (.ref a)])) rfl rfl (hb hby own_jdk_42_method_149_23)
  refine own_step st10 ?_
  have F10 := F_a_coder_v12.same W10
  have K10 := K7.wr W10 (Or.inl (List.mem_of_getElem? (i := 0) rfl))
  have N10 := Fr.snoc X10 N4 g_a
  have SF10 := Safe.wr W10 SF7 HC7 SF7
  have RC10 := RC7.trans (CHr.wr W10 SF7 HC7)
  have HC10 := CHv.wr W10 SF7 HC7
  show own_Goes _ _ _ _ T10 (mkF m 26 #[.val (.ref a), .val (.ref sr), .val (.int (0 : Int32)), .val (.int (0 : Int32)), .val .null, .unset] [])
  have E_a_v13 := (E_a_v11.wr W10)
  have F4_v14 := ((F4.ext E7).other W10 (Or.inr (slot_ne (Or.inr (hw _ (List.mem_of_getElem? (i := 30) rfl))) (Or.inr (hw _ (List.mem_of_getElem? (i := 28) rfl))) (by decide) (t := (.array .byte)) (t' := .byte) (by decide) (by decide))))
  have Vb2_v15 := (((Vb2.other W4 (Ne.symm (ne2 _ SF2).2)).ext E7).other W10 (Ne.symm (ne2 _ SF2).2))
  exact own_outW X10 hlk HS7 (Nat.le_trans HK7 (Keep.of_wr W10).1) hZ hEL e10 HC10 RC10 (v := none) (fun _ => rfl) (fun fs hr => X10.returnOut hx hrt (hb hby own_jdk_42_method_149_26) hr) (by rw [e10]; exact ⟨b2, kb2, rfl, N10, K10, E_a_v13, F10, F4_v14, Vb2_v15⟩) (by decide) (by decide)
set_option maxRecDepth 65536 in
set_option maxHeartbeats 40000000 in
theorem own_sinit_w (l : Launch) (Z : State) (a0 : Array Value) (hw : ∀ d ∈ tables_1, d.before a0 Z = true) (ws : List Jvm.Cond) (a : Addr) (sr : Addr) (ks : ClassId) (h0 : Heap) (n0 : Nat) (Z0 : n0 ≤ h0.size) (E_a : Exa Z h0 a "java/lang/String") (F_a_value : Fld Z h0 a "java/lang/String" "value" "[B" .null) (F_a_coder : Fld Z h0 a "java/lang/String" "coder" "B" (.int (0 : Int32))) (V_sr : Arv Z h0 sr ks .char (0 : Int32) [] (.int (0 : Int32))) (g_a : n0 ≤ a) :
    own_MetW l Z own_EL (⟨"java/lang/String", "<init>", "([C)V"⟩ : MethodName) jdk_42_method_3_code 2 none ws ({ frames := 2, cells := 4, slots := 8, locals := 29 } : Room) #[(.ref a), (.ref sr)] h0 (fun v h L => ∃ r : Addr, ∃ kr : ClassId, v = none ∧ Fr n0 L ∧ Keep h0 h [a] ∧ Exa Z h a "java/lang/String" ∧ Fld Z h a "java/lang/String" "coder" "B" (.int (0 : Int32)) ∧ Fld Z h a "java/lang/String" "value" "[B" (.ref r) ∧ Arv Z h r kr .byte (0 : Int32) [] (.int (0 : Int32))) := by
  refine own_bodyW (plainFor_of_name own_pn_java_lang_String) (fun p e s m below meth c s₁ hx hby hml0 hrt hlk hown0 hnm hZ X0 e0 HC0 RC0 HS0 => ?_)
  have N0 := Fr.nil n0
  have hown : (s.setVm s.vm).vm.findClass "java/lang/String" = some m.cls := hown0
  have hml : c.maxLocals = 2 := hml0
  refine own_castG (own_ef9 m a sr) ?_
  have hEL := own_hEL hw
  show own_Goes _ _ _ _ s₁ (mkF m 0 #[.val (.ref a), .val (.ref sr)] [])
  refine own_step (fun t k => XS.aloadN X0.here hx rfl (hb hby own_jdk_42_method_3_0) rfl rfl k) ?_
  show own_Goes _ _ _ _ s₁ (mkF m 1 #[.val (.ref a), .val (.ref sr)] [(.ref a)])
  refine own_step (fun t k => XS.aloadN X0.here hx rfl (hb hby own_jdk_42_method_3_1) rfl rfl k) ?_
  show own_Goes _ _ _ _ s₁ (mkF m 2 #[.val (.ref a), .val (.ref sr)] [(.ref sr), (.ref a)])
  refine own_step (fun t k => XS.iconst X0.here hx rfl (hb hby own_jdk_42_method_3_2) k) ?_
  show own_Goes _ _ _ _ s₁ (mkF m 3 #[.val (.ref a), .val (.ref sr)] [(.int (0 : Int32)), (.ref sr), (.ref a)])
  refine own_step (fun t k => XS.aloadN X0.here hx rfl (hb hby own_jdk_42_method_3_3) rfl rfl k) ?_
  show own_Goes _ _ _ _ s₁ (mkF m 4 #[.val (.ref a), .val (.ref sr)] [(.ref sr), (.int (0 : Int32)), (.ref sr), (.ref a)])
  refine own_step (own_alen X0 hx hZ e0 V_sr (g := (mkF m 4 #[.val (.ref a), .val (.ref sr)] [(.ref sr), (.int (0 : Int32)), (.ref sr), (.ref a)])) rfl rfl (hb hby own_jdk_42_method_3_4)) ?_
  show own_Goes _ _ _ _ s₁ (mkF m 5 #[.val (.ref a), .val (.ref sr)] [(.int (0 : Int32)), (.int (0 : Int32)), (.ref sr), (.ref a)])
  refine own_step (fun t k => XS.aconstNull X0.here hx rfl (hb hby own_jdk_42_method_3_5) k) ?_
  show own_Goes _ _ _ _ s₁ (mkF m 6 #[.val (.ref a), .val (.ref sr)] [.null, (.int (0 : Int32)), (.int (0 : Int32)), (.ref sr), (.ref a)])
  refine own_callCW X0 hx hZ (y := (⟨"java/lang/String", "<init>", "([CIILjava/lang/Void;)V"⟩ : MethodName)) rfl hown (hw _ (List.mem_of_getElem? (i := 8) rfl)) (hw _ (List.mem_of_getElem? (i := 9) rfl)) (hw _ (List.mem_of_getElem? (i := 11) rfl)) (hw _ (List.mem_of_getElem? (i := 3) rfl)) (by decide) 0 (a := a) [(.ref sr), (.int (0 : Int32)), (.int (0 : Int32)), .null] [] (own_sinit4_w l Z a0 hw [] a sr h0 n0 Z0 E_a F_a_value F_a_coder g_a) e0  hEL HC0 HS0 (Nat.le_refl _) (by decide) (by decide) (by decide) (by decide) (g := (mkF m 6 #[.val (.ref a), .val (.ref sr)] [.null, (.int (0 : Int32)), (.int (0 : Int32)), (.ref sr), (.ref a)])) rfl (by rw [hml]; rfl) own_pd6 rfl rfl (by show 2 * 0 + _ ≤ _; exact Nat.le_of_eq rfl) (hb hby own_jdk_42_method_3_6) ?_
  intro T1 v1 L1 X1 HS1 hZ hown CR1 hQ1
  have RC1 := RC0.trans CR1
  have HC1 := CR1.1
  obtain ⟨f1_0, k1_0, rfl, N1q, Kq1, q1_0, q1_1, q1_2, q1_3⟩ := hQ1
  have N1 := Fr.app N0 N1q
  have K1 := (Keep.refl h0 [a]).trans Kq1 (allS (Or.inl (List.mem_of_getElem? (i := 0) rfl)) all0)
  have q1_0' : Exa Z T1.heap a "java/lang/String" := q1_0
  have q1_1' : Fld Z T1.heap a "java/lang/String" "coder" "B" (.int (0 : Int32)) := q1_1
  have q1_2' : Fld Z T1.heap a "java/lang/String" "value" "[B" (.ref f1_0) := q1_2
  have q1_3' : Arv Z T1.heap f1_0 k1_0 .byte (0 : Int32) [] (.int (0 : Int32)) := q1_3
  show own_Goes _ _ _ _ T1 (mkF m 9 #[.val (.ref a), .val (.ref sr)] [])
  exact own_outW X1 hlk HS1 (Nat.le_refl _) hZ hEL rfl HC1 RC1 (v := none) (fun _ => rfl) (fun fs hr => X1.returnOut hx hrt (hb hby own_jdk_42_method_3_9) hr) (by exact ⟨f1_0, k1_0, rfl, N1, K1, q1_0', q1_1', q1_2', q1_3'⟩) (by decide) (by decide)
set_option maxRecDepth 65536 in
set_option maxHeartbeats 40000000 in
theorem own_lawC (l : Launch) (Z : State) (a0 : Array Value) (hw : ∀ d ∈ tables_1, d.before a0 Z = true) (ws : List Jvm.Cond) (p1 : Int32) (p2 : Int32) (p3 : Int32) (p4 : Int32) (zc : Int32) (h0 : Heap) (n0 : Nat) (Z0 : n0 ≤ h0.size) (S_COMPACT_STRINGS : Sta Z h0 "java/lang/String" "COMPACT_STRINGS" "Z" (.int zc)) (hz : ¬ (zc = (0 : Int32))) (hn1 : ¬ ((p1 &&& (65535 : Int32)) < (0 : Int32))) (hn2 : ¬ ((65535 : Int32) < (p1 &&& (65535 : Int32)))) (hA : (p4 &&& (1 : Int32)) = (0 : Int32)) (hB : (p4 &&& (2 : Int32)) = (0 : Int32)) :
    own_MetW l Z own_EL x code maxLocals ret ws room_1 #[(.int p1), (.int p2), (.int p3), (.int p4)] h0 (fun v h L => v = some (.int 1) ∧ Fr n0 L) := by
  refine own_bodyW (plainFor_of_name own_pn_com_example_sudsline_sudsline_model_EndpointCheckSixteenBitsPinLaw) (fun p e s m below meth c s₁ hx hby hml0 hrt hlk hown0 hnm hZ X0 e0 HC0 RC0 HS0 => ?_)
  have N0 := Fr.nil n0
  have hown : (s.setVm s.vm).vm.findClass "com/example/sudsline/sudsline/model/EndpointCheckSixteenBitsPinLaw" = some m.cls := hown0
  have hml : c.maxLocals = 6 := hml0
  refine own_castG (own_ef10 m p1 p2 p3 p4) ?_
  have hEL := own_hEL hw
  show own_Goes _ _ _ _ s₁ (mkF m 0 #[.val (.int p1), .val (.int p2), .val (.int p3), .val (.int p4), .unset, .unset] [])
  refine own_step (fun t k => XS.iloadN X0.here hx rfl (hb hby at_0) rfl k) ?_
  show own_Goes _ _ _ _ s₁ (mkF m 1 #[.val (.int p1), .val (.int p2), .val (.int p3), .val (.int p4), .unset, .unset] [(.int p1)])
  refine own_step (X0.ldcInt hx hown (mvT hZ (hw _ (List.mem_of_getElem? (i := 0) rfl))) (g := (mkF m 1 #[.val (.int p1), .val (.int p2), .val (.int p3), .val (.int p4), .unset, .unset] [(.int p1)])) rfl (hb hby at_1)) ?_
  show own_Goes _ _ _ _ s₁ (mkF m 3 #[.val (.int p1), .val (.int p2), .val (.int p3), .val (.int p4), .unset, .unset] [(.int (65535 : Int32)), (.int p1)])
  refine own_step (fun t k => XS.iand X0.here hx rfl (hb hby at_3) rfl k) ?_
  show own_Goes _ _ _ _ s₁ (mkF m 4 #[.val (.int p1), .val (.int p2), .val (.int p3), .val (.int p4), .unset, .unset] [(.int (p1 &&& (65535 : Int32)))])
  refine own_step (fun t k => XS.istore X0.here hx rfl (hb hby at_4) rfl (l' := #[.val (.int p1), .val (.int p2), .val (.int p3), .val (.int p4), .val (.int (p1 &&& (65535 : Int32))), .unset]) rfl k) ?_
  show own_Goes _ _ _ _ s₁ (mkF m 6 #[.val (.int p1), .val (.int p2), .val (.int p3), .val (.int p4), .val (.int (p1 &&& (65535 : Int32))), .unset] [])
  refine own_step (fun t k => XS.iloadN X0.here hx rfl (hb hby at_6) rfl k) ?_
  show own_Goes _ _ _ _ s₁ (mkF m 7 #[.val (.int p1), .val (.int p2), .val (.int p3), .val (.int p4), .val (.int (p1 &&& (65535 : Int32))), .unset] [(.int p4)])
  refine own_step (fun t k => XS.iconst X0.here hx rfl (hb hby at_7) k) ?_
  show own_Goes _ _ _ _ s₁ (mkF m 8 #[.val (.int p1), .val (.int p2), .val (.int p3), .val (.int p4), .val (.int (p1 &&& (65535 : Int32))), .unset] [(.int (1 : Int32)), (.int p4)])
  refine own_step (fun t k => XS.iand X0.here hx rfl (hb hby at_8) rfl k) ?_
  show own_Goes _ _ _ _ s₁ (mkF m 9 #[.val (.int p1), .val (.int p2), .val (.int p3), .val (.int p4), .val (.int (p1 &&& (65535 : Int32))), .unset] [(.int (p4 &&& (1 : Int32)))])
  refine own_step (fun t k => XS.ifYes X0.here hx rfl (pc0 := 9) (pc' := 45) rfl (hb hby at_9) rfl ((if0 _ _).trans (teq (show (p4 &&& (1 : Int32)) = (0 : Int32) from hA)).1) (by decide) (by decide) k) ?_
  show own_Goes _ _ _ _ s₁ (mkF m 45 #[.val (.int p1), .val (.int p2), .val (.int p3), .val (.int p4), .val (.int (p1 &&& (65535 : Int32))), .unset] [])
  refine own_step (fun t k => XS.iloadN X0.here hx rfl (hb hby at_45) rfl k) ?_
  show own_Goes _ _ _ _ s₁ (mkF m 46 #[.val (.int p1), .val (.int p2), .val (.int p3), .val (.int p4), .val (.int (p1 &&& (65535 : Int32))), .unset] [(.int p4)])
  refine own_step (fun t k => XS.iconst X0.here hx rfl (hb hby at_46) k) ?_
  show own_Goes _ _ _ _ s₁ (mkF m 47 #[.val (.int p1), .val (.int p2), .val (.int p3), .val (.int p4), .val (.int (p1 &&& (65535 : Int32))), .unset] [(.int (2 : Int32)), (.int p4)])
  refine own_step (fun t k => XS.iand X0.here hx rfl (hb hby at_47) rfl k) ?_
  show own_Goes _ _ _ _ s₁ (mkF m 48 #[.val (.int p1), .val (.int p2), .val (.int p3), .val (.int p4), .val (.int (p1 &&& (65535 : Int32))), .unset] [(.int (p4 &&& (2 : Int32)))])
  refine own_step (fun t k => XS.ifYes X0.here hx rfl (pc0 := 48) (pc' := 65) rfl (hb hby at_48) rfl ((if0 _ _).trans (teq (show (p4 &&& (2 : Int32)) = (0 : Int32) from hB)).1) (by decide) (by decide) k) ?_
  show own_Goes _ _ _ _ s₁ (mkF m 65 #[.val (.int p1), .val (.int p2), .val (.int p3), .val (.int p4), .val (.int (p1 &&& (65535 : Int32))), .unset] [])
  obtain ⟨T1, h1, X1, e1, E1, A1, D1, -, st1⟩ := newO X0 hx hZ hown (hw _ (List.mem_of_getElem? (i := 1) rfl)) (hw _ (List.mem_of_getElem? (i := 2) rfl)) (hw _ (List.mem_of_getElem? (i := 3) rfl)) e0 (g := (mkF m 65 #[.val (.int p1), .val (.int p2), .val (.int p3), .val (.int p4), .val (.int (p1 &&& (65535 : Int32))), .unset] [])) rfl (hb hby at_65) (by decide) (by decide)
  obtain ⟨b1, g1⟩ : ∃ z, z = h0.size := ⟨_, rfl⟩
  rw [← g1] at A1 D1 st1
  refine own_step st1 ?_
  have g_b1 : n0 ≤ b1 := Nat.le_trans Z0 (Nat.le_of_eq g1.symm)
  have sz_b1 : h0.size ≤ b1 := Nat.le_trans (Keep.refl h0 []).1 (Nat.le_of_eq g1.symm)
  have K1 := (Keep.refl h0 []).ext E1
  have RC1 := RC0.trans (CHr.ext E1 HC0)
  have HC1 := CHv.ext E1 HC0
  have F_b1_coder : Fld Z h1 b1 "java/lang/String" "coder" "B" (.int (0 : Int32)) := D1 (Or.inr (hw _ (List.mem_of_getElem? (i := 28) rfl))) (ty := .byte) (by decide)
  have F_b1_value : Fld Z h1 b1 "java/lang/String" "value" "[B" .null := D1 (Or.inr (hw _ (List.mem_of_getElem? (i := 30) rfl))) (ty := (.array .byte)) (by decide)
  show own_Goes _ _ _ _ T1 (mkF m 68 #[.val (.int p1), .val (.int p2), .val (.int p3), .val (.int p4), .val (.int (p1 &&& (65535 : Int32))), .unset] [(.ref b1)])
  refine own_step (fun t k => XS.dup X1.here hx rfl (hb hby at_68) rfl rfl k) ?_
  show own_Goes _ _ _ _ T1 (mkF m 69 #[.val (.int p1), .val (.int p2), .val (.int p3), .val (.int p4), .val (.int (p1 &&& (65535 : Int32))), .unset] [(.ref b1), (.ref b1)])
  refine own_step (fun t k => XS.iconst X1.here hx rfl (hb hby at_69) k) ?_
  show own_Goes _ _ _ _ T1 (mkF m 70 #[.val (.int p1), .val (.int p2), .val (.int p3), .val (.int p4), .val (.int (p1 &&& (65535 : Int32))), .unset] [(.int (0 : Int32)), (.ref b1), (.ref b1)])
  obtain ⟨T2, h2, k2, X2, e2, E2, A2, st2⟩ := newP X1 hx hZ (hw _ (List.mem_of_getElem? (i := 4) rfl)) e1 (g := (mkF m 70 #[.val (.int p1), .val (.int p2), .val (.int p3), .val (.int p4), .val (.int (p1 &&& (65535 : Int32))), .unset] [(.int (0 : Int32)), (.ref b1), (.ref b1)])) rfl (hb hby at_70) rfl (by decide) (cap := 0) (by decide) (by decide) (by decide) (by decide)
  obtain ⟨b2, g2⟩ : ∃ z, z = h1.size := ⟨_, rfl⟩
  rw [← g2] at A2 st2
  refine own_step st2 ?_
  have g_b2 : n0 ≤ b2 := Nat.le_trans (Nat.le_trans Z0 K1.1) (Nat.le_of_eq g2.symm)
  have sz_b2 : h0.size ≤ b2 := Nat.le_trans K1.1 (Nat.le_of_eq g2.symm)
  have ne_b1_b2 : b1 ≠ b2 := Nat.ne_of_lt (Nat.lt_of_lt_of_le A1.lt (Nat.le_of_eq g2.symm))
  have K2 := K1.ext E2
  have RC2 := RC1.trans (CHr.ext E2 HC1)
  have HC2 := CHv.ext E2 HC1
  have V_b2 : Arv Z h2 b2 k2 .char (0 : Int32) [] (.int (0 : Int32)) := (Arv.new A2 (by decide)).pad (pad_rep [] (.int (0 : Int32)) 0)
  show own_Goes _ _ _ _ T2 (mkF m 72 #[.val (.int p1), .val (.int p2), .val (.int p3), .val (.int p4), .val (.int (p1 &&& (65535 : Int32))), .unset] [(.ref b2), (.ref b1), (.ref b1)])
  have A1_v3 := (A1.ext E2)
  have F_b1_value_v4 := (F_b1_value.ext E2)
  have F_b1_coder_v5 := (F_b1_coder.ext E2)
  refine own_callCW X2 hx hZ (y := (⟨"java/lang/String", "<init>", "([C)V"⟩ : MethodName)) rfl hown (hw _ (List.mem_of_getElem? (i := 5) rfl)) (hw _ (List.mem_of_getElem? (i := 6) rfl)) (hw _ (List.mem_of_getElem? (i := 7) rfl)) (hw _ (List.mem_of_getElem? (i := 3) rfl)) (by decide) 1 (a := b1) [(.ref b2)] [(.ref b1)] (own_sinit_w l Z a0 hw [] b1 b2 k2 h2 n0 (Nat.le_trans Z0 K2.1) A1_v3 F_b1_value_v4 F_b1_coder_v5 V_b2 g_b1) e2  hEL HC2 HS0 (Nat.le_trans (Nat.le_trans (Nat.le_refl _) E1.1) E2.1) (by decide) (by decide) (by decide) (by decide) (g := (mkF m 72 #[.val (.int p1), .val (.int p2), .val (.int p3), .val (.int p4), .val (.int (p1 &&& (65535 : Int32))), .unset] [(.ref b2), (.ref b1), (.ref b1)])) rfl (by rw [hml]; rfl) own_pd7 rfl rfl (by show 2 * 0 + _ ≤ _; exact Nat.le_of_eq rfl) (hb hby at_72) ?_
  intro T6 v6 L6 X6 HS6 hZ hown CR6 hQ6
  have RC6 := RC2.trans CR6
  have HC6 := CR6.1
  obtain ⟨f6_0, k6_0, rfl, N6q, Kq6, q6_0, q6_1, q6_2, q6_3⟩ := hQ6
  have N6 := Fr.app N0 N6q
  have K6 := K2.trans Kq6 (allS (Or.inr sz_b1) all0)
  have q6_0' : Exa Z T6.heap b1 "java/lang/String" := q6_0
  have q6_1' : Fld Z T6.heap b1 "java/lang/String" "coder" "B" (.int (0 : Int32)) := q6_1
  have q6_2' : Fld Z T6.heap b1 "java/lang/String" "value" "[B" (.ref f6_0) := q6_2
  have q6_3' : Arv Z T6.heap f6_0 k6_0 .byte (0 : Int32) [] (.int (0 : Int32)) := q6_3
  show own_Goes _ _ _ _ T6 (mkF m 75 #[.val (.int p1), .val (.int p2), .val (.int p3), .val (.int p4), .val (.int (p1 &&& (65535 : Int32))), .unset] [(.ref b1)])
  refine own_step (fun t k => XS.astore X6.here hx rfl (hb hby at_75) rfl rfl (l' := #[.val (.int p1), .val (.int p2), .val (.int p3), .val (.int p4), .val (.int (p1 &&& (65535 : Int32))), .val (.ref b1)]) rfl k) ?_
  show own_Goes _ _ _ _ T6 (mkF m 77 #[.val (.int p1), .val (.int p2), .val (.int p3), .val (.int p4), .val (.int (p1 &&& (65535 : Int32))), .val (.ref b1)] [])
  refine own_step (fun t k => XS.aload X6.here hx rfl (hb hby at_77) rfl rfl k) ?_
  show own_Goes _ _ _ _ T6 (mkF m 79 #[.val (.int p1), .val (.int p2), .val (.int p3), .val (.int p4), .val (.int (p1 &&& (65535 : Int32))), .val (.ref b1)] [(.ref b1)])
  refine own_step (fun t k => XS.iload X6.here hx rfl (hb hby at_79) rfl k) ?_
  show own_Goes _ _ _ _ T6 (mkF m 81 #[.val (.int p1), .val (.int p2), .val (.int p3), .val (.int p4), .val (.int (p1 &&& (65535 : Int32))), .val (.ref b1)] [(.int (p1 &&& (65535 : Int32))), (.ref b1)])
  refine own_callS X6 hx hZ (y := (⟨"com/example/sudsline/sudsline/model/Endpoint", "checkSixteenBits", "(Ljava/lang/String;I)V"⟩ : MethodName)) hown (hw _ (List.mem_of_getElem? (i := 31) rfl)) (hw _ (List.mem_of_getElem? (i := 32) rfl)) (hw _ (List.mem_of_getElem? (i := 33) rfl)) (hw _ (List.mem_of_getElem? (i := 34) rfl)) (by decide) 0 [(.ref b1), (.int (p1 &&& (65535 : Int32)))] [] (own_chk l Z a0 hw [] b1 (p1 &&& (65535 : Int32)) T6.heap n0 (Nat.le_trans Z0 K6.1) hn1 hn2) rfl  (by decide) (by decide) (by decide) (by decide) (g := (mkF m 81 #[.val (.int p1), .val (.int p2), .val (.int p3), .val (.int p4), .val (.int (p1 &&& (65535 : Int32))), .val (.ref b1)] [(.int (p1 &&& (65535 : Int32))), (.ref b1)])) rfl (by rw [hml]; rfl) own_pd8 rfl rfl (by show 2 * 0 + _ ≤ _; exact Nat.le_of_eq rfl) (hb hby at_81) ?_
  intro T7 v7 L7 X7 hQ7
  obtain ⟨rfl, N7q, e7⟩ := hQ7
  have N7 := Fr.app N6 N7q
  show own_Goes _ _ _ _ T7 (mkF m 84 #[.val (.int p1), .val (.int p2), .val (.int p3), .val (.int p4), .val (.int (p1 &&& (65535 : Int32))), .val (.ref b1)] [])
  refine own_step (fun t k => XS.iconst X7.here hx rfl (hb hby at_84) k) ?_
  show own_Goes _ _ _ _ T7 (mkF m 85 #[.val (.int p1), .val (.int p2), .val (.int p3), .val (.int p4), .val (.int (p1 &&& (65535 : Int32))), .val (.ref b1)] [(.int (1 : Int32))])
  exact own_outW X7 hlk HS6 (Nat.le_refl _) hZ hEL e7 HC6 RC6 (v := some (.int (nar .boolean (1 : Int32)))) (fun q => by rw [hrt] at q; cases q) (fun fs hr => retN X7 hx (t := .boolean) hrt (by simp) (hb hby at_85) hr) ⟨rfl, N7⟩ (by decide) (by decide)
theorem own_num (p1 : Int32) : ¬ ((p1 &&& (65535 : Int32)) < (0 : Int32)) ∧ ¬ ((65535 : Int32) < (p1 &&& (65535 : Int32))) := by
  have h1 := c_mask p1 (65535 : Int32) 16 (by decide) (by decide)
  have e0 : (0 : Int32).toInt = 0 := by decide
  have e1 : (65535 : Int32).toInt = 65535 := by decide
  rw [Int32.lt_iff_toInt_lt, Int32.lt_iff_toInt_lt, h1]
  omega
set_option maxRecDepth 65536 in
set_option maxHeartbeats 40000000 in
theorem comes_1 {Post : Tables → Env → Array Value → State → Outcome → State → Prop} (hpost : ∀ tb e args s v u, (limb_1_1.after args s (.returned v) u = true ∧ limb_1_2.after args s (.returned v) u = true ∧ True) → ReturnedEndW s (.returned v) u (Jvm.fieldLocs frame_1_writes args s ++ Jvm.arrayLocs frame_1_arrays args s ++ Jvm.staticLocs frame_1_statics s) 16 1152 → Post tb e args s (.returned v) u) :
    ArmFor flags0 classFile x code maxLocals ret World_1 tables_1 room_1 Calls_1 rest_1 Pre_1 Post := by
  intro l hfl _ _ p e ha hc hk s m args below hf hA hF happ hP
  obtain ⟨hcalls, hrest, hpre⟩ := hP
  obtain ⟨-, -, -, hnamed, -, -, -, hat⟩ := (Spec.applies_iff hf).mp happ
  obtain ⟨hg, hn⟩ := and_e (Cond.before_iff.mp (show (Jvm.Cond.and given_1 narrow_1).before args s = true from hpre))
  obtain ⟨q1, q2⟩ := and_e hg
  obtain ⟨q3, q4⟩ := and_e q2
  obtain ⟨q5, q6⟩ := and_e q4
  obtain ⟨q7, q8⟩ := and_e q6
  obtain ⟨w0, w1, w2, w3, rfl⟩ : ∃ w0 w1 w2 w3 : Value, args = #[w0, w1, w2, w3] := by
    have hs : args.size = 4 := by simpa [Cond.value, given_1] using q1
    obtain ⟨L⟩ := args
    match L, hs with
    | [w0, w1, w2, w3], _ => exact ⟨w0, w1, w2, w3, rfl⟩
  have hw := fun d (hd : d ∈ tables_1) => atoms_spec (ws := Jvm.Cond.code x code maxLocals ret :: tables_1) hat d (List.mem_cons_of_mem _ hd)
  have hfit : Fit s := fun {y c} hc i hi => by
    obtain ⟨ha, rfl⟩ := Array.getElem?_eq_some_iff.mp hc
    have q := List.all_eq_true.mp ((Array.all_eq_true_iff_forall_mem.mp hF) _ (Array.getElem_mem ha)) i (List.mem_range.mpr hi)
    simpa [Array.getElem?_eq_getElem hi] using q
  obtain ⟨hsets, hown0⟩ := atoms_of _ (rest_1_c_eq ▸ (show rest_1_c.before _ s = true from hrest))
  have hr0 := Cond.before_iff.mp hown0
  obtain ⟨i0, ei0⟩ := is_v q3
  obtain rfl : w0 = (.int i0) := Option.some.inj ei0
  obtain ⟨i1, ei1⟩ := is_v q5
  obtain rfl : w1 = (.int i1) := Option.some.inj ei1
  obtain ⟨i2, ei2⟩ := is_v q7
  obtain rfl : w2 = (.int i2) := Option.some.inj ei2
  obtain ⟨i3, ei3⟩ := is_v q8
  obtain rfl : w3 = (.int i3) := Option.some.inj ei3
  obtain ⟨zc, evc⟩ := is_v (Cond.before_iff.mp (hsets _ (List.mem_of_getElem? (i := 1) rfl)))
  have S_COMPACT_STRINGS : Sta s s.heap "java/lang/String" "COMPACT_STRINGS" "Z" (.int zc) := Sta.start evc (Or.inl (hsets _ (List.mem_of_getElem? (i := 0) rfl)))
  have hz : ¬ (zc = (0 : Int32)) := by
    have q := not_v (Cond.before_iff.mp (hsets _ (List.mem_of_getElem? (i := 2) rfl)))
    intro z
    subst z
    simp [Jvm.Cond.value, evc, Term.int_eval] at q
  have hh : ∀ p ∈ own_EL, Jvm.Lit.constHeld s p.1 p.2 := hcalls.1
  have hCH : CHv s own_EL s.vm s.heap := CHv.start (own_hEL hw) hh (hsets _ (List.mem_of_getElem? (i := 2) rfl)) (hw _ (List.mem_of_getElem? (i := 20) rfl)) (hw _ (List.mem_of_getElem? (i := 2) rfl))
  by_cases hA : (i3 &&& (1 : Int32)) = (0 : Int32)
  · by_cases hB : (i3 &&& (2 : Int32)) = (0 : Int32)
    · skip
      obtain ⟨n, o, h1, h2, h3, _, L, rfl, ⟨rfl, N⟩, -, hq⟩ := own_lawC l s _ hw tables_1 i0 i1 i2 i3 zc s.heap s.heap.size (Nat.le_refl _) S_COMPACT_STRINGS hz (own_num i0).1 (own_num i0).2 hA hB p e ha hc hk s m _ below hf ((Spec.applies_iff_loose hf).mp happ).1 ⟨rfl, State.Warmed39.refl s, rfl, hCH⟩ trivial
      exact ⟨n, _, h1, h2, h3, hpost _ _ _ _ _ _ ⟨Cond.after_iff.mpr rfl, Cond.after_iff.mpr (eq_i res_at (Term.int_eval (1)) rfl), trivial⟩ ⟨hq.1, hq.2.1, hq.2.2.1, (hq.2.2.2.sift fun y hy => Or.inr (N y hy)).mono (by decide) (by decide)⟩⟩
    · skip
      obtain ⟨n, o, h1, h2, h3, _, L, rfl, ⟨rfl, N⟩, hq⟩ := own_lawB l s _ hw tables_1 i0 i1 i2 i3 zc s.heap s.heap.size (Nat.le_refl _) S_COMPACT_STRINGS hz (own_num i0).1 (own_num i0).2 hA hB p e ha hc hk s m _ below hf ((Spec.applies_iff_loose hf).mp happ).1 ⟨rfl, State.Warmed39.refl s, rfl⟩ trivial
      exact ⟨n, _, h1, h2, h3, hpost _ _ _ _ _ _ ⟨Cond.after_iff.mpr rfl, Cond.after_iff.mpr (eq_i res_at (Term.int_eval (1)) rfl), trivial⟩ (ReturnedEndW.of_narrow hq.1 hq.2.1 ((hq.2.2.sift fun y hy => Or.inr (N y hy)).mono (by decide) (by decide)))⟩
  · skip
    obtain ⟨n, o, h1, h2, h3, _, L, rfl, ⟨rfl, N⟩, hq⟩ := own_lawA l s _ hw tables_1 i0 i1 i2 i3 zc s.heap s.heap.size (Nat.le_refl _) S_COMPACT_STRINGS hz (own_num i0).1 (own_num i0).2 hA p e ha hc hk s m _ below hf ((Spec.applies_iff_loose hf).mp happ).1 ⟨rfl, State.Warmed39.refl s, rfl⟩ trivial
    exact ⟨n, _, h1, h2, h3, hpost _ _ _ _ _ _ ⟨Cond.after_iff.mpr rfl, Cond.after_iff.mpr (eq_i res_at (Term.int_eval (1)) rfl), trivial⟩ (ReturnedEndW.of_narrow hq.1 hq.2.1 ((hq.2.2.sift fun y hy => Or.inr (N y hy)).mono (by decide) (by decide)))⟩
theorem main_1_1 : Claimed_1_1 := comes_1 fun _ _ _ _ _ _ h hF => ⟨h.1, hF⟩
theorem main_1_2 : Claimed_1_2 := comes_1 fun _ _ _ _ _ _ h hF => ⟨h.2.1, hF⟩
end Jvm.Pilot.@@N@@
namespace Jvm.Pilot.@@N@@
open Jvm Jvm.ClassFile Sem Op Lib Jvm.Free Jvm.Stand Jvm.Pilot.@@N@@.Jvm.D
/-! MADE BY PROGRAM (witnessworld.py) out of the Statement's table words and the real class files: 21 classes; the members and pool entries that the words name. The judged class is class 1, her method 1. -/
namespace start1
open Jvm.ClassFile
def u (s : String) : CpInfo := .utf8 (stringToUtf16 s)
/-- a pool by its gaps: so many unusable entries, then the entry; so many at the end -/
def gap : Nat → List CpInfo → List CpInfo
  | 0, r => r
  | n + 1, r => .unusable :: gap n r
def poolList (es : List (Nat × CpInfo)) (last : Nat) : List CpInfo := es.foldr (fun e r => gap e.1 (e.2 :: r)) (gap last [])
def pool (es : List (Nat × CpInfo)) (last : Nat) : Array CpInfo := ⟨poolList es last⟩
def fileOf (pool : Array CpInfo) (this : Nat) (attrs : Array Attribute := #[]) (ms : Array MethodInfo := #[]) (fl : Nat := 33) (sup : Nat := 0) (ifs : Array Nat := #[]) (fds : Array FieldInfo := #[]) : ClassFile where
  minorVersion := 0
  majorVersion := 65
  constantPool := pool
  accessFlags := fl
  thisClass := this
  superClass := sup
  interfaces := ifs
  fields := fds
  methods := ms
  attributes := attrs
def plain (name : String) (sup : Option ClassId) : Class where
  name := name
  kind := .ordinary
  loader := none
  accessFlags := 33
  super := sup
  interfaces := #[]
  cf := none
  fields := #[]
  methods := #[]
  instanceTypes := #[]
  staticTypes := #[]
  resolved := #[]
  callSites := []
  init := .initialized
  statics := none
  mirror := none

def pool0 : Array CpInfo := pool [(5, u "<init>"), (0, u "()V"), (1, .class_ 10), (1, u "java/lang/Object")] 113

def k0c0 : Code := { maxStack := 0, maxLocals := 1, code := object_method_1_code, exceptionTable := #[], attributes := #[] }
def k0m0 : Method := { name := "<init>", desc := "()V", sig := { parameters := [], returnType := none }, accessFlags := 1, code := some k0c0 }
/-- java/lang/Object -/
def k0 : Class := { plain "java/lang/Object" none with
  accessFlags := 33
  interfaces := #[]
  cf := some (fileOf pool0 8 #[] #[{ accessFlags := 1, nameIndex := 5, descriptorIndex := 6, attributes := #[] }] 33 0 #[] #[])
  fields := #[]
  methods := #[k0m0]
  instanceTypes := #[]
  staticTypes := #[]
  resolved := Array.replicate 124 none
  statics := none }

def pool1 : Array CpInfo := pool [(2, .class_ 4), (1, u "java/lang/Object"), (0, u "<init>"), (0, u "()V"), (0, .integer 65535), (0, .class_ 9), (0, u "java/lang/String"), (0, .methodref 8 11), (0, .nameAndType 5 12), (0, u "([C)V"), (0, .methodref 8 14), (0, .nameAndType 15 16), (0, u "valueOf"), (0, u "(C)Ljava/lang/String;"), (0, .methodref 18 19), (0, .class_ 20), (0, .nameAndType 21 22), (0, u "com/example/sudsline/sudsline/model/Endpoint"), (0, u "checkSixteenBits"), (0, u "(Ljava/lang/String;I)V"), (0, .class_ 24), (0, u "com/example/sudsline/sudsline/model/EndpointCheckSixteenBitsPinLaw"), (2, u "law"), (0, u "(IIII)Z")] 3

def k1m0 : Method := { name := "<init>", desc := "()V", sig := { parameters := [], returnType := none }, accessFlags := 2, code := none }
def k1c1 : Code := { maxStack := 7, maxLocals := 6, code := code, exceptionTable := #[], attributes := #[] }
def k1m1 : Method := { name := "law", desc := "(IIII)Z", sig := { parameters := [.int, .int, .int, .int], returnType := some .boolean }, accessFlags := 9, code := some k1c1 }
/-- com/example/sudsline/sudsline/model/EndpointCheckSixteenBitsPinLaw -/
def k1 : Class := { plain "com/example/sudsline/sudsline/model/EndpointCheckSixteenBitsPinLaw" (some 0) with
  accessFlags := 49
  interfaces := #[]
  cf := some (fileOf pool1 23 #[] #[{ accessFlags := 2, nameIndex := 5, descriptorIndex := 6, attributes := #[] }, { accessFlags := 9, nameIndex := 27, descriptorIndex := 28, attributes := #[] }] 49 2 #[] #[])
  fields := #[]
  methods := #[k1m0, k1m1]
  instanceTypes := #[]
  staticTypes := #[]
  resolved := Array.replicate 32 none
  statics := none }

def pool2 : Array CpInfo := pool [(1, .class_ 2), (0, u "java/io/Serializable"), (0, .class_ 4), (0, u "java/lang/Object")] 2

/-- java/io/Serializable -/
def k2 : Class := { plain "java/io/Serializable" (some 0) with
  accessFlags := 1537
  interfaces := #[]
  cf := some (fileOf pool2 1 #[] #[] 1537 3 #[] #[])
  fields := #[]
  methods := #[]
  instanceTypes := #[]
  staticTypes := #[]
  resolved := Array.replicate 7 none
  statics := none }

def pool3 : Array CpInfo := pool [(1, .class_ 2), (0, u "java/lang/Comparable"), (0, .class_ 4), (0, u "java/lang/Object")] 7

/-- java/lang/Comparable -/
def k3 : Class := { plain "java/lang/Comparable" (some 0) with
  accessFlags := 1537
  interfaces := #[]
  cf := some (fileOf pool3 1 #[] #[] 1537 3 #[] #[])
  fields := #[]
  methods := #[]
  instanceTypes := #[]
  staticTypes := #[]
  resolved := Array.replicate 12 none
  statics := none }

def pool4 : Array CpInfo := pool [(2, .class_ 4), (1, u "java/lang/CharSequence"), (42, .class_ 48), (0, u "java/lang/CharSequence$1CodePointIterator"), (10, .class_ 60), (0, u "java/lang/CharSequence$1CharIterator"), (5, .class_ 67), (0, u "java/lang/Object")] 63

/-- java/lang/CharSequence -/
def k4 : Class := { plain "java/lang/CharSequence" (some 0) with
  accessFlags := 1537
  interfaces := #[]
  cf := some (fileOf pool4 2 #[.nestMembers #[47, 59]] #[] 1537 66 #[] #[])
  fields := #[]
  methods := #[]
  instanceTypes := #[]
  staticTypes := #[]
  resolved := Array.replicate 131 none
  statics := none }

def pool5 : Array CpInfo := pool [(1, .class_ 2), (0, u "java/lang/constant/Constable"), (0, .class_ 4), (0, u "java/lang/Object")] 6

/-- java/lang/constant/Constable -/
def k5 : Class := { plain "java/lang/constant/Constable" (some 0) with
  accessFlags := 1537
  interfaces := #[]
  cf := some (fileOf pool5 1 #[] #[] 1537 3 #[] #[])
  fields := #[]
  methods := #[]
  instanceTypes := #[]
  staticTypes := #[]
  resolved := Array.replicate 11 none
  statics := none }

def pool6 : Array CpInfo := pool [(1, .class_ 2), (0, u "java/lang/constant/ConstantDesc"), (0, .class_ 4), (0, u "java/lang/Object")] 32

/-- java/lang/constant/ConstantDesc -/
def k6 : Class := { plain "java/lang/constant/ConstantDesc" (some 0) with
  accessFlags := 1537
  interfaces := #[]
  cf := some (fileOf pool6 1 #[] #[] 1537 3 #[] #[])
  fields := #[]
  methods := #[]
  instanceTypes := #[]
  staticTypes := #[]
  resolved := Array.replicate 37 none
  statics := none }

def pool7 : Array CpInfo := pool [(1, .methodref 2 3), (0, .class_ 4), (0, .nameAndType 5 6), (0, u "java/lang/Object"), (0, u "<init>"), (0, u "()V"), (0, .string 8), (0, u ""), (0, .fieldref 10 11), (0, .class_ 12), (0, .nameAndType 13 14), (0, u "java/lang/String"), (0, u "value"), (0, u "[B"), (0, .fieldref 10 16), (0, .nameAndType 17 18), (0, u "coder"), (0, u "B"), (2, u "hash"), (0, u "I"), (2, u "hashIsZero"), (0, u "Z"), (0, .methodref 10 28), (0, .nameAndType 5 29), (0, u "([CIILjava/lang/Void;)V"), (8, .fieldref 10 39), (0, .nameAndType 40 26), (0, u "COMPACT_STRINGS"), (1, .class_ 44), (1, u "java/lang/StringUTF16"), (0, u "compress"), (1, .methodref 42 48), (0, .nameAndType 49 50), (0, u "coderFromArrayLen"), (0, u "([BI)B"), (2, u "toBytes"), (53, .class_ 109), (1, u "java/lang/StringLatin1"), (67, .methodref 42 178), (0, .nameAndType 45 179), (0, u "([CII)[B"), (29, .methodref 10 210), (0, .nameAndType 5 211), (0, u "([BB)V"), (157, u "(C)Z"), (205, .class_ 576), (0, u "java/lang/CharSequence"), (22, u "CASE_INSENSITIVE_ORDER"), (0, u "Ljava/util/Comparator;"), (181, u "valueOf"), (0, u "(C)Ljava/lang/String;"), (226, u "([C)V"), (4, .methodref 107 1016), (0, .nameAndType 1017 369), (0, u "canEncode"), (0, .methodref 107 1019), (0, .nameAndType 53 1020), (0, u "(C)[B"), (80, u "serialPersistentFields"), (0, u "[Ljava/io/ObjectStreamField;"), (0, .class_ 1104), (0, u "java/lang/String$CaseInsensitiveComparator"), (1, .class_ 1107), (0, u "java/io/Serializable"), (0, .class_ 1109), (0, u "java/lang/Comparable"), (0, .class_ 1111), (0, u "java/lang/constant/Constable"), (0, .class_ 1113), (0, u "java/lang/constant/ConstantDesc"), (2, u "serialVersionUID"), (0, u "J"), (3, u "REPL"), (0, u "C"), (2, u "LATIN1"), (1, u "UTF16")] 323

def k7m0 : Method := { name := "<init>", desc := "()V", sig := { parameters := [], returnType := none }, accessFlags := 1, code := none }
def k7c1 : Code := { maxStack := 5, maxLocals := 2, code := jdk_42_method_3_code, exceptionTable := #[], attributes := #[] }
def k7m1 : Method := { name := "<init>", desc := "([C)V", sig := { parameters := [(.array .char)], returnType := none }, accessFlags := 1, code := some k7c1 }
def k7c2 : Code := { maxStack := 4, maxLocals := 1, code := jdk_42_method_139_code, exceptionTable := #[], attributes := #[] }
def k7m2 : Method := { name := "valueOf", desc := "(C)Ljava/lang/String;", sig := { parameters := [.char], returnType := some (.object "java/lang/String") }, accessFlags := 9, code := some k7c2 }
def k7c3 : Code := { maxStack := 4, maxLocals := 6, code := jdk_42_method_149_code, exceptionTable := #[], attributes := #[] }
def k7m3 : Method := { name := "<init>", desc := "([CIILjava/lang/Void;)V", sig := { parameters := [(.array .char), .int, .int, (.object "java/lang/Void")], returnType := none }, accessFlags := 2, code := some k7c3 }
def k7c4 : Code := { maxStack := 2, maxLocals := 3, code := jdk_42_method_151_code, exceptionTable := #[], attributes := #[] }
def k7m4 : Method := { name := "<init>", desc := "([BB)V", sig := { parameters := [(.array .byte), .byte], returnType := none }, accessFlags := 0, code := some k7c4 }
/-- java/lang/String -/
def k7 : Class := { plain "java/lang/String" (some 0) with
  accessFlags := 49
  interfaces := #[2, 3, 4, 5, 6]
  cf := some (fileOf pool7 10 #[.nestMembers #[1103]] #[{ accessFlags := 1, nameIndex := 5, descriptorIndex := 6, attributes := #[] }, { accessFlags := 1, nameIndex := 5, descriptorIndex := 1010, attributes := #[] }, { accessFlags := 9, nameIndex := 782, descriptorIndex := 783, attributes := #[] }, { accessFlags := 2, nameIndex := 5, descriptorIndex := 29, attributes := #[] }, { accessFlags := 0, nameIndex := 5, descriptorIndex := 211, attributes := #[] }] 49 2 #[1106, 1108, 575, 1110, 1112] #[{ accessFlags := 18, nameIndex := 13, descriptorIndex := 14, attributes := #[] }, { accessFlags := 18, nameIndex := 17, descriptorIndex := 18, attributes := #[] }, { accessFlags := 2, nameIndex := 21, descriptorIndex := 22, attributes := #[] }, { accessFlags := 2, nameIndex := 25, descriptorIndex := 26, attributes := #[] }, { accessFlags := 26, nameIndex := 1116, descriptorIndex := 1117, attributes := #[] }, { accessFlags := 24, nameIndex := 40, descriptorIndex := 26, attributes := #[] }, { accessFlags := 26, nameIndex := 1101, descriptorIndex := 1102, attributes := #[] }, { accessFlags := 26, nameIndex := 1121, descriptorIndex := 1122, attributes := #[] }, { accessFlags := 25, nameIndex := 599, descriptorIndex := 600, attributes := #[] }, { accessFlags := 24, nameIndex := 1125, descriptorIndex := 18, attributes := #[] }, { accessFlags := 24, nameIndex := 1127, descriptorIndex := 18, attributes := #[] }])
  fields := #[{ name := "value", type := (.array .byte), accessFlags := 18, slot := 0, constantValue := 0 }, { name := "coder", type := .byte, accessFlags := 18, slot := 1, constantValue := 0 }, { name := "hash", type := .int, accessFlags := 2, slot := 2, constantValue := 0 }, { name := "hashIsZero", type := .boolean, accessFlags := 2, slot := 3, constantValue := 0 }, { name := "serialVersionUID", type := .long, accessFlags := 26, slot := 0, constantValue := 0 }, { name := "COMPACT_STRINGS", type := .boolean, accessFlags := 24, slot := 1, constantValue := 0 }, { name := "serialPersistentFields", type := (.array (.object "java/io/ObjectStreamField")), accessFlags := 26, slot := 2, constantValue := 0 }, { name := "REPL", type := .char, accessFlags := 26, slot := 3, constantValue := 0 }, { name := "CASE_INSENSITIVE_ORDER", type := (.object "java/util/Comparator"), accessFlags := 25, slot := 4, constantValue := 0 }, { name := "LATIN1", type := .byte, accessFlags := 24, slot := 5, constantValue := 0 }, { name := "UTF16", type := .byte, accessFlags := 24, slot := 6, constantValue := 0 }]
  methods := #[k7m0, k7m1, k7m2, k7m3, k7m4]
  instanceTypes := #[(.array .byte), .byte, .int, .boolean]
  staticTypes := #[.long, .boolean, (.array (.object "java/io/ObjectStreamField")), .char, (.object "java/util/Comparator"), .byte, .byte]
  resolved := Array.replicate 1451 none
  statics := some 0 }

def pool8 : Array CpInfo := pool [(6, .class_ 8), (1, u "java/lang/Object"), (0, u "<init>"), (0, u "()V"), (1, .class_ 14), (1, u "java/lang/StringUTF16"), (31, u "$assertionsDisabled"), (0, u "Z"), (13, u "HI_BYTE_SHIFT"), (0, u "I"), (2, u "LO_BYTE_SHIFT"), (49, .methodref 12 116), (0, .nameAndType 117 118), (0, u "compress"), (0, u "([CI[BII)I"), (3, u "([CII)[B"), (138, u "coderFromArrayLen"), (0, u "([BI)B"), (106, .class_ 371), (1, u "java/lang/StringUTF16$LinesSpliterator"), (58, u "MAX_LENGTH"), (196, .class_ 628), (0, u "java/lang/StringUTF16$CodePointsSpliterator"), (0, .class_ 630), (0, u "java/lang/StringUTF16$CharsSpliterator")] 4

def k8m0 : Method := { name := "<init>", desc := "()V", sig := { parameters := [], returnType := none }, accessFlags := 0, code := none }
def k8c1 : Code := { maxStack := 2, maxLocals := 2, code := jdk_52_method_15_code, exceptionTable := #[], attributes := #[] }
def k8m1 : Method := { name := "coderFromArrayLen", desc := "([BI)B", sig := { parameters := [(.array .byte), .int], returnType := some .byte }, accessFlags := 8, code := some k8c1 }
def k8c2 : Code := { maxStack := 5, maxLocals := 6, code := jdk_52_method_16_code, exceptionTable := #[], attributes := #[] }
def k8m2 : Method := { name := "compress", desc := "([CII)[B", sig := { parameters := [(.array .char), .int, .int], returnType := some (.array .byte) }, accessFlags := 9, code := some k8c2 }
def k8c3 : Code := { maxStack := 3, maxLocals := 7, code := jdk_52_method_21_code, exceptionTable := #[], attributes := #[] }
def k8m3 : Method := { name := "compress", desc := "([CI[BII)I", sig := { parameters := [(.array .char), .int, (.array .byte), .int, .int], returnType := some .int }, accessFlags := 9, code := some k8c3 }
/-- java/lang/StringUTF16 -/
def k8 : Class := { plain "java/lang/StringUTF16" (some 0) with
  accessFlags := 48
  interfaces := #[]
  cf := some (fileOf pool8 12 #[.nestMembers #[627, 629, 369]] #[{ accessFlags := 0, nameIndex := 9, descriptorIndex := 10, attributes := #[] }, { accessFlags := 8, nameIndex := 261, descriptorIndex := 262, attributes := #[] }, { accessFlags := 9, nameIndex := 117, descriptorIndex := 122, attributes := #[] }, { accessFlags := 9, nameIndex := 117, descriptorIndex := 118, attributes := #[] }] 48 6 #[] #[{ accessFlags := 26, nameIndex := 61, descriptorIndex := 62, attributes := #[] }, { accessFlags := 26, nameIndex := 65, descriptorIndex := 62, attributes := #[] }, { accessFlags := 24, nameIndex := 430, descriptorIndex := 62, attributes := #[] }, { accessFlags := 4120, nameIndex := 46, descriptorIndex := 47, attributes := #[] }])
  fields := #[{ name := "HI_BYTE_SHIFT", type := .int, accessFlags := 26, slot := 0, constantValue := 0 }, { name := "LO_BYTE_SHIFT", type := .int, accessFlags := 26, slot := 1, constantValue := 0 }, { name := "MAX_LENGTH", type := .int, accessFlags := 24, slot := 2, constantValue := 0 }, { name := "$assertionsDisabled", type := .boolean, accessFlags := 4120, slot := 3, constantValue := 0 }]
  methods := #[k8m0, k8m1, k8m2, k8m3]
  instanceTypes := #[]
  staticTypes := #[.int, .int, .int, .boolean]
  resolved := Array.replicate 635 none
  statics := none }

def pool9 : Array CpInfo := pool [(2, .class_ 4), (1, u "java/lang/Object"), (0, u "<init>"), (0, u "()V"), (0, .class_ 8), (0, u "java/lang/Record")] 13

def k9m0 : Method := { name := "<init>", desc := "()V", sig := { parameters := [], returnType := none }, accessFlags := 4, code := none }
/-- java/lang/Record -/
def k9 : Class := { plain "java/lang/Record" (some 0) with
  accessFlags := 1057
  interfaces := #[]
  cf := some (fileOf pool9 7 #[] #[{ accessFlags := 4, nameIndex := 5, descriptorIndex := 6, attributes := #[] }] 1057 2 #[] #[])
  fields := #[]
  methods := #[k9m0]
  instanceTypes := #[]
  staticTypes := #[]
  resolved := Array.replicate 22 none
  statics := none }

def pool10 : Array CpInfo := pool [(2, .class_ 4), (1, u "java/lang/Record"), (3, .class_ 10), (1, u "com/example/sudsline/sudsline/model/Endpoint"), (8, u "host"), (0, u "Ljava/lang/String;"), (2, u "port"), (0, u "I"), (15, u "checkSixteenBits"), (0, u "(Ljava/lang/String;I)V"), (0, .integer 65535), (79, u "MAX_SIXTEEN_BITS")] 50

def k10c0 : Code := { maxStack := 4, maxLocals := 2, code := prog_20_method_4_code, exceptionTable := #[], attributes := #[] }
def k10m0 : Method := { name := "checkSixteenBits", desc := "(Ljava/lang/String;I)V", sig := { parameters := [(.object "java/lang/String"), .int], returnType := none }, accessFlags := 8, code := some k10c0 }
/-- com/example/sudsline/sudsline/model/Endpoint -/
def k10 : Class := { plain "com/example/sudsline/sudsline/model/Endpoint" (some 9) with
  accessFlags := 49
  interfaces := #[]
  cf := some (fileOf pool10 8 #[] #[{ accessFlags := 8, nameIndex := 40, descriptorIndex := 41, attributes := #[] }] 49 2 #[] #[{ accessFlags := 18, nameIndex := 19, descriptorIndex := 20, attributes := #[] }, { accessFlags := 18, nameIndex := 23, descriptorIndex := 24, attributes := #[] }, { accessFlags := 26, nameIndex := 122, descriptorIndex := 24, attributes := #[] }])
  fields := #[{ name := "host", type := (.object "java/lang/String"), accessFlags := 18, slot := 0, constantValue := 0 }, { name := "port", type := .int, accessFlags := 18, slot := 1, constantValue := 0 }, { name := "MAX_SIXTEEN_BITS", type := .int, accessFlags := 26, slot := 0, constantValue := 0 }]
  methods := #[k10m0]
  instanceTypes := #[(.object "java/lang/String"), .int]
  staticTypes := #[.int]
  resolved := Array.replicate 173 none
  statics := none }

def pool11 : Array CpInfo := pool [(4, .class_ 6), (1, u "java/lang/Object"), (0, u "<init>"), (0, u "()V"), (5, .class_ 16), (1, u "java/lang/StringLatin1"), (73, u "canEncode"), (14, u "(C)Z"), (15, u "$assertionsDisabled"), (0, u "Z"), (98, .class_ 223), (1, u "java/lang/StringLatin1$LinesSpliterator"), (156, u "toBytes"), (1, u "(C)[B"), (7, .class_ 391), (0, u "java/lang/StringLatin1$CharsSpliterator")] 3

def k11m0 : Method := { name := "<init>", desc := "()V", sig := { parameters := [], returnType := none }, accessFlags := 0, code := none }
def k11c1 : Code := { maxStack := 2, maxLocals := 1, code := jdk_43_method_3_code, exceptionTable := #[], attributes := #[] }
def k11m1 : Method := { name := "canEncode", desc := "(C)Z", sig := { parameters := [.char], returnType := some .boolean }, accessFlags := 9, code := some k11c1 }
def k11c2 : Code := { maxStack := 4, maxLocals := 1, code := jdk_43_method_46_code, exceptionTable := #[], attributes := #[] }
def k11m2 : Method := { name := "toBytes", desc := "(C)[B", sig := { parameters := [.char], returnType := some (.array .byte) }, accessFlags := 9, code := some k11c2 }
/-- java/lang/StringLatin1 -/
def k11 : Class := { plain "java/lang/StringLatin1" (some 0) with
  accessFlags := 48
  interfaces := #[]
  cf := some (fileOf pool11 14 #[.nestMembers #[390, 221]] #[{ accessFlags := 0, nameIndex := 7, descriptorIndex := 8, attributes := #[] }, { accessFlags := 9, nameIndex := 90, descriptorIndex := 105, attributes := #[] }, { accessFlags := 9, nameIndex := 380, descriptorIndex := 382, attributes := #[] }] 48 4 #[] #[{ accessFlags := 4120, nameIndex := 121, descriptorIndex := 122, attributes := #[] }])
  fields := #[{ name := "$assertionsDisabled", type := .boolean, accessFlags := 4120, slot := 0, constantValue := 0 }]
  methods := #[k11m0, k11m1, k11m2]
  instanceTypes := #[]
  staticTypes := #[.boolean]
  resolved := Array.replicate 395 none
  statics := none }

def pool12 : Array CpInfo := pool [(2, .class_ 4), (1, u "java/lang/Object"), (0, u "<init>"), (0, u "()V"), (17, .class_ 26), (1, u "jdk/internal/util/Preconditions"), (28, .class_ 56), (0, u "jdk/internal/util/Preconditions$4"), (57, .class_ 115), (0, u "jdk/internal/util/Preconditions$1"), (7, u "SIOOBE_FORMATTER"), (0, u "Ljava/util/function/BiFunction;"), (0, .class_ 126), (0, u "jdk/internal/util/Preconditions$2"), (3, u "AIOOBE_FORMATTER"), (0, .class_ 132), (0, u "jdk/internal/util/Preconditions$3"), (3, u "IOOBE_FORMATTER")] 57

def k12m0 : Method := { name := "<init>", desc := "()V", sig := { parameters := [], returnType := none }, accessFlags := 1, code := none }
/-- jdk/internal/util/Preconditions -/
def k12 : Class := { plain "jdk/internal/util/Preconditions" (some 0) with
  accessFlags := 33
  interfaces := #[]
  cf := some (fileOf pool12 24 #[.nestMembers #[55, 131, 125, 114]] #[{ accessFlags := 1, nameIndex := 5, descriptorIndex := 6, attributes := #[] }] 33 2 #[] #[{ accessFlags := 25, nameIndex := 123, descriptorIndex := 124, attributes := #[] }, { accessFlags := 25, nameIndex := 130, descriptorIndex := 124, attributes := #[] }, { accessFlags := 25, nameIndex := 136, descriptorIndex := 124, attributes := #[] }])
  fields := #[{ name := "SIOOBE_FORMATTER", type := (.object "java/util/function/BiFunction"), accessFlags := 25, slot := 0, constantValue := 0 }, { name := "AIOOBE_FORMATTER", type := (.object "java/util/function/BiFunction"), accessFlags := 25, slot := 1, constantValue := 0 }, { name := "IOOBE_FORMATTER", type := (.object "java/util/function/BiFunction"), accessFlags := 25, slot := 2, constantValue := 0 }]
  methods := #[k12m0]
  instanceTypes := #[]
  staticTypes := #[(.object "java/util/function/BiFunction"), (.object "java/util/function/BiFunction"), (.object "java/util/function/BiFunction")]
  resolved := Array.replicate 194 none
  statics := some 1 }

def pool13 : Array CpInfo := pool [(9, u "<init>"), (6, .class_ 18), (1, u "java/lang/Object"), (0, u "()V"), (1, .class_ 23), (1, u "jdk/internal/util/ArraysSupport"), (0, u "LOG2_ARRAY_LONG_INDEX_SCALE"), (0, u "I"), (2, u "U"), (0, u "Ljdk/internal/misc/Unsafe;"), (8, u "BIG_ENDIAN"), (0, u "Z"), (8, u "LOG2_BYTE_BIT_SIZE"), (4, u "LOG2_ARRAY_INT_INDEX_SCALE"), (54, u "JLA"), (0, u "Ljdk/internal/access/JavaLangAccess;"), (11, u "LOG2_ARRAY_BOOLEAN_INDEX_SCALE"), (9, u "LOG2_ARRAY_BYTE_INDEX_SCALE"), (5, u "LOG2_ARRAY_CHAR_INDEX_SCALE"), (5, u "LOG2_ARRAY_SHORT_INDEX_SCALE"), (18, u "LOG2_ARRAY_FLOAT_INDEX_SCALE"), (24, u "LOG2_ARRAY_DOUBLE_INDEX_SCALE"), (89, u "T_BOOLEAN"), (2, u "T_CHAR"), (1, u "T_FLOAT"), (1, u "T_DOUBLE"), (1, u "T_BYTE"), (1, u "T_SHORT"), (1, u "T_INT"), (1, u "T_LONG"), (1, u "SOFT_MAX_ARRAY_LENGTH")] 83

def k13m0 : Method := { name := "<init>", desc := "()V", sig := { parameters := [], returnType := none }, accessFlags := 2, code := none }
/-- jdk/internal/util/ArraysSupport -/
def k13 : Class := { plain "jdk/internal/util/ArraysSupport" (some 0) with
  accessFlags := 33
  interfaces := #[]
  cf := some (fileOf pool13 21 #[] #[{ accessFlags := 2, nameIndex := 9, descriptorIndex := 19, attributes := #[] }] 33 16 #[] #[{ accessFlags := 24, nameIndex := 28, descriptorIndex := 29, attributes := #[] }, { accessFlags := 26, nameIndex := 38, descriptorIndex := 39, attributes := #[] }, { accessFlags := 25, nameIndex := 121, descriptorIndex := 25, attributes := #[] }, { accessFlags := 25, nameIndex := 131, descriptorIndex := 25, attributes := #[] }, { accessFlags := 25, nameIndex := 137, descriptorIndex := 25, attributes := #[] }, { accessFlags := 25, nameIndex := 143, descriptorIndex := 25, attributes := #[] }, { accessFlags := 25, nameIndex := 53, descriptorIndex := 25, attributes := #[] }, { accessFlags := 25, nameIndex := 24, descriptorIndex := 25, attributes := #[] }, { accessFlags := 25, nameIndex := 162, descriptorIndex := 25, attributes := #[] }, { accessFlags := 25, nameIndex := 187, descriptorIndex := 25, attributes := #[] }, { accessFlags := 26, nameIndex := 48, descriptorIndex := 25, attributes := #[] }, { accessFlags := 25, nameIndex := 277, descriptorIndex := 25, attributes := #[] }, { accessFlags := 25, nameIndex := 280, descriptorIndex := 25, attributes := #[] }, { accessFlags := 25, nameIndex := 282, descriptorIndex := 25, attributes := #[] }, { accessFlags := 25, nameIndex := 284, descriptorIndex := 25, attributes := #[] }, { accessFlags := 25, nameIndex := 286, descriptorIndex := 25, attributes := #[] }, { accessFlags := 25, nameIndex := 288, descriptorIndex := 25, attributes := #[] }, { accessFlags := 25, nameIndex := 290, descriptorIndex := 25, attributes := #[] }, { accessFlags := 25, nameIndex := 292, descriptorIndex := 25, attributes := #[] }, { accessFlags := 26, nameIndex := 108, descriptorIndex := 109, attributes := #[] }, { accessFlags := 25, nameIndex := 294, descriptorIndex := 25, attributes := #[] }])
  fields := #[{ name := "U", type := (.object "jdk/internal/misc/Unsafe"), accessFlags := 24, slot := 0, constantValue := 0 }, { name := "BIG_ENDIAN", type := .boolean, accessFlags := 26, slot := 1, constantValue := 0 }, { name := "LOG2_ARRAY_BOOLEAN_INDEX_SCALE", type := .int, accessFlags := 25, slot := 2, constantValue := 0 }, { name := "LOG2_ARRAY_BYTE_INDEX_SCALE", type := .int, accessFlags := 25, slot := 3, constantValue := 0 }, { name := "LOG2_ARRAY_CHAR_INDEX_SCALE", type := .int, accessFlags := 25, slot := 4, constantValue := 0 }, { name := "LOG2_ARRAY_SHORT_INDEX_SCALE", type := .int, accessFlags := 25, slot := 5, constantValue := 0 }, { name := "LOG2_ARRAY_INT_INDEX_SCALE", type := .int, accessFlags := 25, slot := 6, constantValue := 0 }, { name := "LOG2_ARRAY_LONG_INDEX_SCALE", type := .int, accessFlags := 25, slot := 7, constantValue := 0 }, { name := "LOG2_ARRAY_FLOAT_INDEX_SCALE", type := .int, accessFlags := 25, slot := 8, constantValue := 0 }, { name := "LOG2_ARRAY_DOUBLE_INDEX_SCALE", type := .int, accessFlags := 25, slot := 9, constantValue := 0 }, { name := "LOG2_BYTE_BIT_SIZE", type := .int, accessFlags := 26, slot := 10, constantValue := 0 }, { name := "T_BOOLEAN", type := .int, accessFlags := 25, slot := 11, constantValue := 0 }, { name := "T_CHAR", type := .int, accessFlags := 25, slot := 12, constantValue := 0 }, { name := "T_FLOAT", type := .int, accessFlags := 25, slot := 13, constantValue := 0 }, { name := "T_DOUBLE", type := .int, accessFlags := 25, slot := 14, constantValue := 0 }, { name := "T_BYTE", type := .int, accessFlags := 25, slot := 15, constantValue := 0 }, { name := "T_SHORT", type := .int, accessFlags := 25, slot := 16, constantValue := 0 }, { name := "T_INT", type := .int, accessFlags := 25, slot := 17, constantValue := 0 }, { name := "T_LONG", type := .int, accessFlags := 25, slot := 18, constantValue := 0 }, { name := "JLA", type := (.object "jdk/internal/access/JavaLangAccess"), accessFlags := 26, slot := 19, constantValue := 0 }, { name := "SOFT_MAX_ARRAY_LENGTH", type := .int, accessFlags := 25, slot := 20, constantValue := 0 }]
  methods := #[k13m0]
  instanceTypes := #[]
  staticTypes := #[(.object "jdk/internal/misc/Unsafe"), .boolean, .int, .int, .int, .int, .int, .int, .int, .int, .int, .int, .int, .int, .int, .int, .int, .int, .int, (.object "jdk/internal/access/JavaLangAccess"), .int]
  resolved := Array.replicate 378 none
  statics := none }

def pool14 : Array CpInfo := pool [(1, u "java/lang/Cloneable"), (0, .class_ 1), (0, u "java/lang/Object"), (0, .class_ 3)] 3

/-- java/lang/Cloneable -/
def k14 : Class := { plain "java/lang/Cloneable" (some 0) with
  accessFlags := 1537
  interfaces := #[]
  cf := some (fileOf pool14 2 #[] #[] 1537 4 #[] #[])
  fields := #[]
  methods := #[]
  instanceTypes := #[]
  staticTypes := #[]
  resolved := Array.replicate 8 none
  statics := none }

/-- the primitive byte -/
def k15 : Class := { plain "byte" none with kind := .primitive 'B', accessFlags := 0x411 }
/-- [B -/
def k16 : Class := { plain "[B" (some 0) with kind := .array 15 .byte, interfaces := #[14, 2], accessFlags := 1041 }

/-- the primitive char -/
def k17 : Class := { plain "char" none with kind := .primitive 'C', accessFlags := 0x411 }
/-- [C -/
def k18 : Class := { plain "[C" (some 0) with kind := .array 17 .char, interfaces := #[14, 2], accessFlags := 1041 }

/-- the primitive int -/
def k19 : Class := { plain "int" none with kind := .primitive 'I', accessFlags := 0x411 }
/-- [I -/
def k20 : Class := { plain "[I" (some 0) with kind := .array 19 .int, interfaces := #[14, 2], accessFlags := 1041 }

def heap : Heap := #[{ cls := 7, slots := #[.long 0, .int 1, .null, .int 0, .null, .int 0, .int 0], vm := .statics 7 },
  { cls := 12, slots := #[.null, .null, .null], vm := .statics 12 }]
def classes : Array Class := #[k0, k1, k2, k3, k4, k5, k6, k7, k8, k9, k10, k11, k12, k13, k14, k15, k16, k17, k18, k19, k20]
def interned : List (Array UInt16 × Addr) := []
def slotsUsed : Nat := 10
def theMethod : MethodId := ⟨1, 1⟩
def args0 : Array Value := #[.int 5, .int 6, .int 7, .int 8]
def aboutOver (below : List Frame) : State where
  vm := { classes := classes, interned := interned.toArray }
  heap := heap
  slotsUsed := slotsUsed
  threads := #[{ frames := .invoking theMethod args0 :: below }]
def below0 : List Frame := [.native { method := ⟨0, 0⟩, args := #[] }]
def about1 : State := aboutOver below0
def p0 : Program := .bare "" "" ""
def e0 : Env := launch0.env 0 0 0
theorem w_frames : about1.frames = Frame.invoking theMethod args0 :: below0 := rfl
set_option maxRecDepth 65536 in
theorem w_args : argsFit about1.vm theMethod args0 = true := by decide +kernel
set_option maxRecDepth 65536 in
theorem w_heap : heapFits about1 = true := by decide +kernel
set_option maxRecDepth 65536 in
theorem w_runnable : about1.curStatus? = some .runnable := by decide +kernel
set_option maxRecDepth 65536 in
theorem w_alone : about1.alone = true := by decide +kernel
set_option maxRecDepth 65536 in
theorem w_named : about1.methodNamed? x = some theMethod := by decide +kernel
set_option maxRecDepth 65536 in
theorem w_hears : about1.hears theMethod below0 = true := by decide +kernel
set_option maxRecDepth 65536 in
theorem w_ripe : about1.ripe theMethod args0 below0 = true := by decide +kernel
theorem w_running : about1.status = .running := rfl
set_option maxRecDepth 65536 in
theorem w_room : about1.hasRoom e0.platform room_1 = true :=
  launch0.hasRoom_least _ room_1 (by decide +kernel) (by decide +kernel) (by decide +kernel) (by decide +kernel) (by decide +kernel) (by decide +kernel)
theorem allAtoms_all (ts : List Jvm.Cond) (a : Array Jvm.Value) (st : Jvm.State) : (allAtoms ts).before a st = ts.all (fun c => c.before a st) := by
  induction ts with
  | nil => rfl
  | cons c t ih =>
    show (Jvm.Cond.and c (allAtoms t)).before a st = _
    rw [Jvm.Cond.before_and, ih, List.all_cons]
def words1 : List Jvm.Cond := Jvm.Cond.code x code maxLocals ret :: tables_1
/-- a 'code' word, met by the world's own term for the bytes: nothing is compared byte by byte -/
theorem code_word {y : MethodName} {bytes : ByteArray} {mx : Nat} {rt : Option FieldType} {a : Array Value} {s : State} {m : MethodId} {meth : Method} {c : Code} (h1 : s.methodNamed? y = some m) (h2 : s.vm.method? m = some meth) (h3 : meth.code = some c) (h4 : c.code = bytes)
    (h5 : (c.maxLocals == mx && c.exceptionTable.isEmpty && decide (c.maxStack ≤ mostOperands) && decide (meth.sig.returnType = rt) && !meth.locks && decide (parseMethodDescriptor y.desc = some meth.sig)) = true) : (Jvm.Cond.code y bytes mx rt).before a s = true := by
  simp only [Bool.and_eq_true, beq_iff_eq, Bool.not_eq_true', decide_eq_true_eq] at h5
  obtain ⟨⟨⟨⟨⟨g1, g2⟩, g3⟩, g4⟩, g5⟩, g6⟩ := h5
  simp [Cond.before, Cond.holds, Cond.value, h1, h2, h3, h4, g1, g2, g3, g4, g5, g6]
def isCode : Jvm.Cond → Bool
  | .code _ _ _ _ => true
  | _ => false
theorem all_split {L : List Jvm.Cond} {P : Jvm.Cond → Bool} (h1 : L.all (fun c => isCode c || P c) = true) (h2 : ∀ c ∈ L.filter isCode, P c = true) : L.all P = true := by
  refine List.all_eq_true.mpr fun c hc => ?_
  have h := List.all_eq_true.mp h1 c hc
  rcases Bool.eq_false_or_eq_true (isCode c) with hi | hi
  · exact h2 c (List.mem_filter.mpr ⟨hc, hi⟩)
  · simpa [hi] using h
set_option maxRecDepth 65536 in
theorem w_c0 : (Jvm.Cond.code x code maxLocals ret).before args0 about1 = true := code_word (m := ⟨1, 1⟩) (meth := k1m1) (c := k1c1) (by decide +kernel) rfl rfl rfl (by decide +kernel)
set_option maxRecDepth 65536 in
theorem w_c1 : (Jvm.Cond.code ({ cls := "java/lang/String", name := "<init>", desc := "([C)V" } : Jvm.MethodName) jdk_42_method_3_code (2 : Nat) (Option.none : Option Jvm.ClassFile.FieldType)).before args0 about1 = true := code_word (m := ⟨7, 1⟩) (meth := k7m1) (c := k7c1) (by decide +kernel) rfl rfl rfl (by decide +kernel)
set_option maxRecDepth 65536 in
theorem w_c2 : (Jvm.Cond.code ({ cls := "java/lang/String", name := "<init>", desc := "([CIILjava/lang/Void;)V" } : Jvm.MethodName) jdk_42_method_149_code (6 : Nat) (Option.none : Option Jvm.ClassFile.FieldType)).before args0 about1 = true := code_word (m := ⟨7, 3⟩) (meth := k7m3) (c := k7c3) (by decide +kernel) rfl rfl rfl (by decide +kernel)
set_option maxRecDepth 65536 in
theorem w_c3 : (Jvm.Cond.code ({ cls := "java/lang/Object", name := "<init>", desc := "()V" } : Jvm.MethodName) object_method_1_code (1 : Nat) (Option.none : Option Jvm.ClassFile.FieldType)).before args0 about1 = true := code_word (m := ⟨0, 0⟩) (meth := k0m0) (c := k0c0) (by decide +kernel) rfl rfl rfl (by decide +kernel)
set_option maxRecDepth 65536 in
theorem w_c4 : (Jvm.Cond.code ({ cls := "java/lang/StringUTF16", name := "compress", desc := "([CII)[B" } : Jvm.MethodName) jdk_52_method_16_code (6 : Nat) (Option.some (Jvm.ClassFile.FieldType.array Jvm.ClassFile.FieldType.byte))).before args0 about1 = true := code_word (m := ⟨8, 2⟩) (meth := k8m2) (c := k8c2) (by decide +kernel) rfl rfl rfl (by decide +kernel)
set_option maxRecDepth 65536 in
theorem w_c5 : (Jvm.Cond.code ({ cls := "java/lang/StringUTF16", name := "compress", desc := "([CI[BII)I" } : Jvm.MethodName) jdk_52_method_21_code (7 : Nat) (Option.some Jvm.ClassFile.FieldType.int)).before args0 about1 = true := code_word (m := ⟨8, 3⟩) (meth := k8m3) (c := k8c3) (by decide +kernel) rfl rfl rfl (by decide +kernel)
set_option maxRecDepth 65536 in
theorem w_c6 : (Jvm.Cond.code ({ cls := "java/lang/StringUTF16", name := "coderFromArrayLen", desc := "([BI)B" } : Jvm.MethodName) jdk_52_method_15_code (2 : Nat) (Option.some Jvm.ClassFile.FieldType.byte)).before args0 about1 = true := code_word (m := ⟨8, 1⟩) (meth := k8m1) (c := k8c1) (by decide +kernel) rfl rfl rfl (by decide +kernel)
set_option maxRecDepth 65536 in
theorem w_c7 : (Jvm.Cond.code ({ cls := "com/example/sudsline/sudsline/model/Endpoint", name := "checkSixteenBits", desc := "(Ljava/lang/String;I)V" } : Jvm.MethodName) prog_20_method_4_code (2 : Nat) (Option.none : Option Jvm.ClassFile.FieldType)).before args0 about1 = true := code_word (m := ⟨10, 0⟩) (meth := k10m0) (c := k10c0) (by decide +kernel) rfl rfl rfl (by decide +kernel)
set_option maxRecDepth 65536 in
theorem w_c8 : (Jvm.Cond.code ({ cls := "java/lang/String", name := "valueOf", desc := "(C)Ljava/lang/String;" } : Jvm.MethodName) jdk_42_method_139_code (1 : Nat) (Option.some (Jvm.ClassFile.FieldType.object "java/lang/String"))).before args0 about1 = true := code_word (m := ⟨7, 2⟩) (meth := k7m2) (c := k7c2) (by decide +kernel) rfl rfl rfl (by decide +kernel)
set_option maxRecDepth 65536 in
theorem w_c9 : (Jvm.Cond.code ({ cls := "java/lang/StringLatin1", name := "canEncode", desc := "(C)Z" } : Jvm.MethodName) jdk_43_method_3_code (1 : Nat) (Option.some Jvm.ClassFile.FieldType.boolean)).before args0 about1 = true := code_word (m := ⟨11, 1⟩) (meth := k11m1) (c := k11c1) (by decide +kernel) rfl rfl rfl (by decide +kernel)
set_option maxRecDepth 65536 in
theorem w_c10 : (Jvm.Cond.code ({ cls := "java/lang/StringLatin1", name := "toBytes", desc := "(C)[B" } : Jvm.MethodName) jdk_43_method_46_code (1 : Nat) (Option.some (Jvm.ClassFile.FieldType.array Jvm.ClassFile.FieldType.byte))).before args0 about1 = true := code_word (m := ⟨11, 2⟩) (meth := k11m2) (c := k11c2) (by decide +kernel) rfl rfl rfl (by decide +kernel)
set_option maxRecDepth 65536 in
theorem w_c11 : (Jvm.Cond.code ({ cls := "java/lang/String", name := "<init>", desc := "([BB)V" } : Jvm.MethodName) jdk_42_method_151_code (3 : Nat) (Option.none : Option Jvm.ClassFile.FieldType)).before args0 about1 = true := code_word (m := ⟨7, 4⟩) (meth := k7m4) (c := k7c4) (by decide +kernel) rfl rfl rfl (by decide +kernel)
def codes1 : List Jvm.Cond := [Jvm.Cond.code x code maxLocals ret, Jvm.Cond.code ({ cls := "java/lang/String", name := "<init>", desc := "([C)V" } : Jvm.MethodName) jdk_42_method_3_code (2 : Nat) (Option.none : Option Jvm.ClassFile.FieldType), Jvm.Cond.code ({ cls := "java/lang/String", name := "<init>", desc := "([CIILjava/lang/Void;)V" } : Jvm.MethodName) jdk_42_method_149_code (6 : Nat) (Option.none : Option Jvm.ClassFile.FieldType), Jvm.Cond.code ({ cls := "java/lang/Object", name := "<init>", desc := "()V" } : Jvm.MethodName) object_method_1_code (1 : Nat) (Option.none : Option Jvm.ClassFile.FieldType), Jvm.Cond.code ({ cls := "java/lang/StringUTF16", name := "compress", desc := "([CII)[B" } : Jvm.MethodName) jdk_52_method_16_code (6 : Nat) (Option.some (Jvm.ClassFile.FieldType.array Jvm.ClassFile.FieldType.byte)), Jvm.Cond.code ({ cls := "java/lang/StringUTF16", name := "compress", desc := "([CI[BII)I" } : Jvm.MethodName) jdk_52_method_21_code (7 : Nat) (Option.some Jvm.ClassFile.FieldType.int), Jvm.Cond.code ({ cls := "java/lang/StringUTF16", name := "coderFromArrayLen", desc := "([BI)B" } : Jvm.MethodName) jdk_52_method_15_code (2 : Nat) (Option.some Jvm.ClassFile.FieldType.byte), Jvm.Cond.code ({ cls := "com/example/sudsline/sudsline/model/Endpoint", name := "checkSixteenBits", desc := "(Ljava/lang/String;I)V" } : Jvm.MethodName) prog_20_method_4_code (2 : Nat) (Option.none : Option Jvm.ClassFile.FieldType), Jvm.Cond.code ({ cls := "java/lang/String", name := "valueOf", desc := "(C)Ljava/lang/String;" } : Jvm.MethodName) jdk_42_method_139_code (1 : Nat) (Option.some (Jvm.ClassFile.FieldType.object "java/lang/String")), Jvm.Cond.code ({ cls := "java/lang/StringLatin1", name := "canEncode", desc := "(C)Z" } : Jvm.MethodName) jdk_43_method_3_code (1 : Nat) (Option.some Jvm.ClassFile.FieldType.boolean), Jvm.Cond.code ({ cls := "java/lang/StringLatin1", name := "toBytes", desc := "(C)[B" } : Jvm.MethodName) jdk_43_method_46_code (1 : Nat) (Option.some (Jvm.ClassFile.FieldType.array Jvm.ClassFile.FieldType.byte)), Jvm.Cond.code ({ cls := "java/lang/String", name := "<init>", desc := "([BB)V" } : Jvm.MethodName) jdk_42_method_151_code (3 : Nat) (Option.none : Option Jvm.ClassFile.FieldType)]
set_option maxRecDepth 65536 in
theorem codes_eq : words1.filter isCode = codes1 := rfl
theorem w_codes : ∀ c ∈ words1.filter isCode, c.before args0 about1 = true := by
  rw [codes_eq]
  intro c hc
  simp only [codes1, List.mem_cons, List.not_mem_nil, or_false] at hc
  rcases hc with rfl | rfl | rfl | rfl | rfl | rfl | rfl | rfl | rfl | rfl | rfl | rfl
  · exact w_c0
  · exact w_c1
  · exact w_c2
  · exact w_c3
  · exact w_c4
  · exact w_c5
  · exact w_c6
  · exact w_c7
  · exact w_c8
  · exact w_c9
  · exact w_c10
  · exact w_c11
set_option maxRecDepth 65536 in
theorem w_t1 : (words1.take 24).all (fun c => isCode c || c.before args0 about1) = true := by decide +kernel
set_option maxRecDepth 65536 in
theorem w_t2 : ((words1.drop 24).take 24).all (fun c => isCode c || c.before args0 about1) = true := by decide +kernel
set_option maxRecDepth 65536 in
theorem w_t3 : ((words1.drop 24).drop 24).all (fun c => isCode c || c.before args0 about1) = true := by decide +kernel
theorem w_tables : (allAtoms (Jvm.Cond.code x code maxLocals ret :: tables_1)).before args0 about1 = true := by
  rw [allAtoms_all]
  show words1.all (fun c => c.before args0 about1) = true
  refine all_split ?_ w_codes
  rw [← List.take_append_drop 24 words1, List.all_append, w_t1, ← List.take_append_drop 24 (words1.drop 24), List.all_append, w_t2, w_t3]
  rfl
set_option maxRecDepth 65536 in
theorem w_rest : rest_1_c.before args0 about1 = true := by decide +kernel
set_option maxRecDepth 65536 in
theorem w_case : (Jvm.Cond.and given_1 narrow_1).before args0 about1 = true := by decide +kernel
set_option maxRecDepth 65536 in
theorem w_consts : constsHeld consts_1 about1 := Jvm.Lit.constsHeldB_iff.mp (by decide +kernel)
theorem w_applies : (headSpec (Jvm.Cond.code x code maxLocals ret :: tables_1) room_1).applies x e0.platform about1 = true :=
  (Spec.applies_iff w_frames).mpr ⟨w_running, w_runnable, w_alone, w_named, w_hears, w_ripe, w_room, w_tables⟩
theorem atStart : AtStart classFile x code maxLocals ret World_1 tables_1 room_1 Calls_1 rest_1 Pre_1 launch0 p0 e0 about1 theMethod args0 below0 :=
  ⟨lists_1, trivial, launch0.admits_env _ _ _, launch0.least_env, fairChoices_fair.cas, fairChoices_fair.clock, w_frames, w_args, w_heap, w_applies, ⟨w_consts, trivial⟩, w_rest, w_case⟩
end start1
theorem witness_1 : WitnessClaimed_1 := ⟨start1.p0, start1.e0, start1.about1, start1.theMethod, start1.args0, start1.below0, start1.atStart⟩
end Jvm.Pilot.@@N@@
