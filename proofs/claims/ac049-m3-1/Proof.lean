import JvmDerived
import JvmDerived.Pilot.@@N@@Statement
import JvmDerived.Pilot.@@N@@Code
set_option linter.unusedVariables false
set_option linter.unusedSimpArgs false
namespace Jvm.Pilot.@@N@@
open Jvm Jvm.ClassFile Sem Op Lib Jvm.Free Jvm.Stand Jvm.LawKit Jvm.RoadKit Bundle Jvm.Pilot.@@N@@.Jvm.D
/-! own kit: a walk told forwards -/
section OwnKit
variable {p : Program} {l : Launch} {e : Env} {R : Room} {s : State} {m : MethodId} {args : Array Value} {below : List Frame} {meth : Method} {c : Code} {T : State} {locs : List Loc} {cells slots : Nat} {Z : State} {a0 : Array Value} {h : Heap}
/-- from here the run comes to an end of which K speaks -/
def own_Goes (p : Program) (e : Env) (below : List Frame) (K : Outcome → State → Prop) (T : State) (g : JFrame) : Prop :=
  ∃ s₂ o, Steps p.tables e below (T.setTop g) s₂ ∧ s₂.status = .running ∧ Ended s₂ below o ∧ K o s₂
theorem own_step {K : Outcome → State → Prop} {T' : State} {g g' : JFrame} (st : ∀ t, Steps p.tables e below (T'.setTop g') t → Steps p.tables e below (T.setTop g) t) (hg : own_Goes p e below K T' g') : own_Goes p e below K T g := by
  obtain ⟨s2, o, a, b⟩ := hg
  exact ⟨s2, o, st _ a, b⟩
theorem own_castG {K : Outcome → State → Prop} {g g' : JFrame} (q : g = g') (hg : own_Goes p e below K T g') : own_Goes p e below K T g := q ▸ hg
def own_K (s : State) (Q : Option Value → Heap → List Loc → Prop) (rc rs : Nat) : Outcome → State → Prop := fun o u => ∃ v L, o = .returned v ∧ Q v u.heap L ∧ FrameEnd s o u L rc rs
def own_Met (l : Launch) (Z : State) (y : MethodName) (bytes : ByteArray) (maxL : Nat) (ret : Option FieldType) (ws : List Jvm.Cond) (rm : Room) (as' : Array Value) (h0 : Heap) (Q : Option Value → Heap → List Loc → Prop) : Prop :=
  MetFree l y (head1 (Jvm.Cond.code y bytes maxL ret :: ws) rm) (fun a U => a = as' ∧ Z.Warmed39 U.vm ∧ U.heap = h0) (fun _ _ _ _ _ => True) (fun _ U o U' => ∃ v L, o = .returned v ∧ Q v U'.heap L ∧ FrameEnd U o U' L rm.cells rm.slots)
theorem own_body {y : MethodName} {bytes : ByteArray} {maxL : Nat} {ret : Option FieldType} {ws : List Jvm.Cond} {rm : Room} {as' : Array Value} {h0 : Heap} {Q : Option Value → Heap → List Loc → Prop} (hp : plainFor y = true)
    (body : ∀ (p : Program) (e : Env) (s : State) (m : MethodId) (below : List Frame) (meth : Method) (c : Code) (s₁ : State), p.tables.exec = Jvm.exec → c.code = bytes → c.maxLocals = maxL → meth.sig.returnType = ret → meth.locks = false → s.vm.findClass y.cls = some m.cls → meth.name = y.name → Z.Warmed39 s.vm →
      Stand p l e rm s m as' below meth c s₁ [] 0 0 → s₁.heap = h0 → own_Goes p e below (own_K s Q rm.cells rm.slots) s₁ (entryFrame m as' maxL)) : own_Met l Z y bytes maxL ret ws rm as' h0 Q := by
  refine MetFree.of_bodySF hp hisR ?_
  intro p e s m args below meth c s₁ Bd hml0 hP hK
  obtain ⟨rfl, hZ, hh⟩ := hP
  exact body p e s m below meth c s₁ Bd.exec Bd.bytes hml0 Bd.returns (BodyLoose.notSynchronized Bd) (findClass_of_methodNamed Bd.named) (name_of_methodNamed Bd.named Bd.method).1 hZ (Stand.of_body Bd) (by rw [← hh, Bd.state]; rfl)
theorem own_out (X : Stand p l e R s m args below meth c T locs cells slots) (hlk : meth.locks = false) {v : Option Value} (hv : meth.sig.returnType = none → v = none) {Q : Option Value → Heap → List Loc → Prop} {rc rs : Nat} {g : JFrame}
    (st : ∀ fs, (∀ (f : JFrame) (acts : List Action), f.method = m → f.locked = none → f.entered = [] → (doReturn e (T.setTop f) acts v).1 = T.setFrames fs) → Steps p.tables e below (T.setTop g) (T.setFrames fs))
    (hQ : Q v T.heap locs) (hc : cells ≤ rc) (hs : slots ≤ rs) : own_Goes p e below (own_K s Q rc rs) T g := by
  obtain ⟨fs, hr, hrun, hended, hW, hsame⟩ := X.leave (v := v) hv hlk
  exact ⟨_, _, st fs hr, hrun, hended, v, locs, rfl, hQ, ⟨_, rfl⟩, hW, hsame.mono hc hs⟩
theorem own_retN (X : Stand p l e R s m args below meth c T locs cells slots) (hx : p.tables.exec = Jvm.exec) (hlk : meth.locks = false) {pc : Nat} {Ls : Array Slot} {z : Int32} {t : FieldType} {rest : List Value} (hret : meth.sig.returnType = some t) (ht : t = .boolean ∨ t = .byte ∨ t = .char ∨ t = .short)
    (hd : decode c.code pc = .ok (.ireturn, 1)) {Q : Option Value → Heap → List Loc → Prop} {rc rs : Nat} (hQ : Q (some (.int (nar t z))) T.heap locs) (hc : cells ≤ rc) (hs : slots ≤ rs) : own_Goes p e below (own_K s Q rc rs) T (mkF m pc Ls (.int z :: rest)) :=
  own_out X hlk (fun q => by rw [hret] at q; cases q) (fun fs hr => retN X hx hret ht hd hr) hQ hc hs
theorem own_retI (X : Stand p l e R s m args below meth c T locs cells slots) (hx : p.tables.exec = Jvm.exec) (hlk : meth.locks = false) {pc : Nat} {Ls : Array Slot} {z : Int32} {rest : List Value} (hret : meth.sig.returnType = some .int)
    (hd : decode c.code pc = .ok (.ireturn, 1)) {Q : Option Value → Heap → List Loc → Prop} {rc rs : Nat} (hQ : Q (some (.int z)) T.heap locs) (hc : cells ≤ rc) (hs : slots ≤ rs) : own_Goes p e below (own_K s Q rc rs) T (mkF m pc Ls (.int z :: rest)) :=
  own_out X hlk (fun q => by rw [hret] at q; cases q) (fun fs hr => retOut X hx hret rfl (Or.inl ⟨rfl, Or.inl rfl, z, rfl⟩) hd hr) hQ hc hs
theorem own_retL (X : Stand p l e R s m args below meth c T locs cells slots) (hx : p.tables.exec = Jvm.exec) (hlk : meth.locks = false) {pc : Nat} {Ls : Array Slot} {z : Int64} {rest : List Value} (hret : meth.sig.returnType = some .long)
    (hd : decode c.code pc = .ok (.lreturn, 1)) {Q : Option Value → Heap → List Loc → Prop} {rc rs : Nat} (hQ : Q (some (.long z)) T.heap locs) (hc : cells ≤ rc) (hs : slots ≤ rs) : own_Goes p e below (own_K s Q rc rs) T (mkF m pc Ls (.long z :: rest)) :=
  own_out X hlk (fun q => by rw [hret] at q; cases q) (fun fs hr => retOut X hx hret rfl (Or.inr (Or.inl ⟨rfl, rfl, z, rfl⟩)) hd hr) hQ hc hs
theorem own_retA (X : Stand p l e R s m args below meth c T locs cells slots) (hx : p.tables.exec = Jvm.exec) (hlk : meth.locks = false) {pc : Nat} {Ls : Array Slot} {w : Value} {t : FieldType} {rest : List Value} (hret : meth.sig.returnType = some t) (hn : narrow t w = w) (ht : t.isReference = true) (hw : w.isRef = true)
    (hd : decode c.code pc = .ok (.areturn, 1)) {Q : Option Value → Heap → List Loc → Prop} {rc rs : Nat} (hQ : Q (some w) T.heap locs) (hc : cells ≤ rc) (hs : slots ≤ rs) : own_Goes p e below (own_K s Q rc rs) T (mkF m pc Ls (w :: rest)) :=
  own_out X hlk (fun q => by rw [hret] at q; cases q) (fun fs hr => retOut X hx hret hn (Or.inr (Or.inr (Or.inr (Or.inr ⟨rfl, ht, hw⟩)))) hd hr) hQ hc hs
theorem own_retV (X : Stand p l e R s m args below meth c T locs cells slots) (hx : p.tables.exec = Jvm.exec) (hlk : meth.locks = false) {pc : Nat} {Ls : Array Slot} (hret : meth.sig.returnType = none)
    (hd : decode c.code pc = .ok (.return_, 1)) {Q : Option Value → Heap → List Loc → Prop} {rc rs : Nat} (hQ : Q none T.heap locs) (hc : cells ≤ rc) (hs : slots ≤ rs) : own_Goes p e below (own_K s Q rc rs) T (mkF m pc Ls []) :=
  own_out X hlk (fun _ => rfl) (fun fs hr => X.returnOut hx hret hd hr) hQ hc hs
theorem own_callS (X : Stand p l e R s m args below meth c T locs cells slots) (hx : p.tables.exec = Jvm.exec) (hZ : Z.Warmed39 s.vm) {own : String} {index : Nat} {y : MethodName} {bytes : ByteArray} {maxL : Nat} {ret : Option FieldType} (hown : s.vm.findClass own = some m.cls)
    (w1 : (Jvm.Cond.methodLink own index y).before a0 Z = true) (w2 : (Jvm.Cond.static y).before a0 Z = true) (w3 : (Jvm.Cond.initialized y.cls).before a0 Z = true) (w4 : (Jvm.Cond.code y bytes maxL ret).before a0 Z = true) (hy : y.cls ≠ "java/lang/invoke/MethodHandle" ∧ y.cls ≠ "java/lang/invoke/VarHandle")
    {rm : Room} (W : Nat) (argsL rest : List Value) {Q : Option Value → Heap → List Loc → Prop} (hM : own_Met l Z y bytes maxL ret [] rm argsL.toArray h Q) (eT : T.heap = h)
    (hf : rm.frames + 1 ≤ R.frames) (hl : W + (maxL + 11) + rm.locals ≤ R.locals) (hc : cells + rm.cells ≤ R.cells) (hs : slots + rm.slots ≤ R.slots)
    {g : JFrame} (hg : g.method = m) (hsize : g.locals.size = c.maxLocals) {ps : List FieldType} {r : Option FieldType} (hpd : parseMethodDescriptor y.desc = some ⟨ps, r⟩) (hlen : argsL.length = ps.length)
    (hstack : g.stack = argsL.reverse ++ rest) (hW : 2 * g.monitorRoom + (rest.map fun v => v.category).sum ≤ W) (hd : decode c.code g.pc = .ok (.invokestatic index, 3))
    {K : Outcome → State → Prop} (go : ∀ T' v L, Stand p l e R s m args below meth c T' (locs ++ L) (cells + rm.cells) (slots + rm.slots) → Q v T'.heap L → own_Goes p e below K T' { g with pc := g.pc + 3, stack := v.toList ++ rest }) : own_Goes p e below K T g := by
  obtain ⟨v, _, ⟨T', L', k', n'⟩, -, X', ⟨Lc, hQ, l1, y1, z1⟩, st⟩ := Jvm.LawKit.callS X hx (y := y) hown (mvT hZ w1) (mvT hZ w2) (mvT hZ w3) (mvT hZ w4) hy (backOf (W := W) hM hZ w4 w3 hf hl) hg hsize (lenOf hpd hlen) hstack hW hd (fun _ _ => ⟨rfl, eT, hc, hs⟩)
  dsimp only [Pt.U, Pt.locs, Pt.cells, Pt.slots] at X' l1 y1 z1 st hQ
  subst l1 y1 z1
  exact own_step st (go _ _ _ X' hQ)
theorem own_callV (X : Stand p l e R s m args below meth c T locs cells slots) (hx : p.tables.exec = Jvm.exec) (hZ : Z.Warmed39 s.vm) {own C : String} {index : Nat} {y z : MethodName} {bytes : ByteArray} {maxL : Nat} {ret : Option FieldType} (hown : s.vm.findClass own = some m.cls)
    (w1 : (Jvm.Cond.methodLink own index y).before a0 Z = true) (w2 : (Jvm.Cond.declares y).before a0 Z = true) (nf : NotFace s y) (w3 : (Jvm.Cond.selects C y z).before a0 Z = true) (w4 : (Jvm.Cond.instanceMethod z).before a0 Z = true) (w5 : (Jvm.Cond.code z bytes maxL ret).before a0 Z = true) (w6 : (Jvm.Cond.initialized z.cls).before a0 Z = true)
    (hy : y.cls ≠ "java/lang/invoke/MethodHandle" ∧ y.cls ≠ "java/lang/invoke/VarHandle")
    {rm : Room} (W : Nat) {a : Addr} (E : Exa Z h a C) (argsL rest : List Value) {Q : Option Value → Heap → List Loc → Prop} (hM : own_Met l Z z bytes maxL ret [] rm (.ref a :: argsL).toArray h Q) (eT : T.heap = h)
    (hf : rm.frames + 1 ≤ R.frames) (hl : W + (maxL + 11) + rm.locals ≤ R.locals) (hc : cells + rm.cells ≤ R.cells) (hs : slots + rm.slots ≤ R.slots)
    {g : JFrame} (hg : g.method = m) (hsize : g.locals.size = c.maxLocals) {ps : List FieldType} {r : Option FieldType} (hpd : parseMethodDescriptor y.desc = some ⟨ps, r⟩) (hlen : argsL.length = ps.length)
    (hstack : g.stack = argsL.reverse ++ .ref a :: rest) (hW : 2 * g.monitorRoom + (rest.map fun v => v.category).sum ≤ W) (hd : decode c.code g.pc = .ok (.invokevirtual index, 3))
    {K : Outcome → State → Prop} (go : ∀ T' v L, Stand p l e R s m args below meth c T' (locs ++ L) (cells + rm.cells) (slots + rm.slots) → Q v T'.heap L → own_Goes p e below K T' { g with pc := g.pc + 3, stack := v.toList ++ rest }) : own_Goes p e below K T g := by
  obtain ⟨cq, kq, qa, qb, qc⟩ := isOf hZ eT E
  obtain ⟨v, _, ⟨T', L', k', n'⟩, -, X', ⟨Lc, hQ, l1, y1, z1⟩, st⟩ := X.virtualBack hx (y := y) (z := z) hown (mvT hZ w1) (mvT hZ w2) nf (mvT hZ w3) (mvT hZ w4) hy (backOf (W := W) hM hZ w5 w6 hf hl) qa qc hg hsize (Steps.refl _) (lenOf hpd hlen) hstack hW hd (fun _ _ => ⟨rfl, eT, hc, hs⟩)
  dsimp only [Pt.U, Pt.locs, Pt.cells, Pt.slots] at X' l1 y1 z1 st hQ
  subst l1 y1 z1
  exact own_step (fun t k => st.trans k) (go _ _ _ X' hQ)
theorem own_callC (X : Stand p l e R s m args below meth c T locs cells slots) (hx : p.tables.exec = Jvm.exec) (hZ : Z.Warmed39 s.vm) {own : String} {index : Nat} {y : MethodName} {bytes : ByteArray} {maxL : Nat} (hy1 : y.name = "<init>") (hown : s.vm.findClass own = some m.cls)
    (w1 : (Jvm.Cond.methodLink own index y).before a0 Z = true) (w2 : (Jvm.Cond.instanceMethod y).before a0 Z = true) (w3 : (Jvm.Cond.code y bytes maxL none).before a0 Z = true) (w4 : (Jvm.Cond.initialized y.cls).before a0 Z = true)
    (hy : y.cls ≠ "java/lang/invoke/MethodHandle" ∧ y.cls ≠ "java/lang/invoke/VarHandle")
    {rm : Room} (W : Nat) {a : Addr} (argsL rest : List Value) {Q : Option Value → Heap → List Loc → Prop} (hM : own_Met l Z y bytes maxL none [] rm (.ref a :: argsL).toArray h Q) (eT : T.heap = h)
    (hf : rm.frames + 1 ≤ R.frames) (hl : W + (maxL + 11) + rm.locals ≤ R.locals) (hc : cells + rm.cells ≤ R.cells) (hs : slots + rm.slots ≤ R.slots)
    {g : JFrame} (hg : g.method = m) (hsize : g.locals.size = c.maxLocals) {ps : List FieldType} {r : Option FieldType} (hpd : parseMethodDescriptor y.desc = some ⟨ps, r⟩) (hlen : argsL.length = ps.length)
    (hstack : g.stack = argsL.reverse ++ .ref a :: rest) (hW : 2 * g.monitorRoom + (rest.map fun v => v.category).sum ≤ W) (hd : decode c.code g.pc = .ok (.invokespecial index, 3))
    {K : Outcome → State → Prop} (go : ∀ T' v L, Stand p l e R s m args below meth c T' (locs ++ L) (cells + rm.cells) (slots + rm.slots) → Q v T'.heap L → own_Goes p e below K T' { g with pc := g.pc + 3, stack := v.toList ++ rest }) : own_Goes p e below K T g := by
  obtain ⟨v, _, ⟨T', L', k', n'⟩, -, X', ⟨Lc, hQ, l1, y1, z1⟩, st⟩ := X.specialBack hx (y := y) hy1 hown (mvT hZ w1) (mvT hZ w2) (mvT hZ w3) hy (backOf (W := W) hM hZ w3 w4 hf hl) hg hsize (Steps.refl _) (a := a) (lenOf hpd hlen) hstack hW hd (fun _ _ => ⟨rfl, eT, hc, hs⟩)
  dsimp only [Pt.U, Pt.locs, Pt.cells, Pt.slots] at X' l1 y1 z1 st hQ
  subst l1 y1 z1
  exact own_step (fun t k => st.trans k) (go _ _ _ X' hQ)
theorem own_fldI {t : Term} {C n d : String} {k : Int32} {a : Addr} (ev : t.eval args s none [] s = some (.ref a)) (hq : (Jvm.Cond.eq (.field t C n d) (.int k)).value args s none s [] = some true) : Fld s s.heap a C n d (.int k) := by
  have e1 := fld_at (C := C) (n := n) (dd := d) ev
  refine Fld.start ?_
  simp only [Jvm.Cond.value, e1, Term.int_eval] at hq
  cases hf : s.fieldOf? a C n d with
  | none => simp [hf] at hq
  | some v => cases v <;> simp [hf] at hq; rw [hq]
theorem own_callU (X : Stand p l e R s m args below meth c T locs cells slots) (hx : p.tables.exec = Jvm.exec) (hZ : Z.Warmed39 s.vm) {own C owner : String} {index : Nat} {y z : MethodName} {bytes : ByteArray} {maxL : Nat} {ret : Option FieldType} (hown : s.vm.findClass own = some m.cls)
    (w1 : (Jvm.Cond.methodLink own index y).before a0 Z = true) (w2 : (Jvm.Cond.sameMethod y.cls owner y.name y.desc).before a0 Z = true) (w2' : (Jvm.Cond.declares ⟨owner, y.name, y.desc⟩).before a0 Z = true) (w3 : (Jvm.Cond.selects C y z).before a0 Z = true) (w4 : (Jvm.Cond.instanceMethod z).before a0 Z = true) (w5 : (Jvm.Cond.code z bytes maxL ret).before a0 Z = true) (w6 : (Jvm.Cond.initialized z.cls).before a0 Z = true)
    (hy : owner ≠ "java/lang/invoke/MethodHandle" ∧ owner ≠ "java/lang/invoke/VarHandle")
    {rm : Room} (W : Nat) {a : Addr} (E : Exa Z h a C) (argsL rest : List Value) {Q : Option Value → Heap → List Loc → Prop} (hM : own_Met l Z z bytes maxL ret [] rm (.ref a :: argsL).toArray h Q) (eT : T.heap = h)
    (hf : rm.frames + 1 ≤ R.frames) (hl : W + (maxL + 11) + rm.locals ≤ R.locals) (hc : cells + rm.cells ≤ R.cells) (hs : slots + rm.slots ≤ R.slots)
    {g : JFrame} (hg : g.method = m) (hsize : g.locals.size = c.maxLocals) {ps : List FieldType} {r : Option FieldType} (hpd : parseMethodDescriptor y.desc = some ⟨ps, r⟩) (hlen : argsL.length = ps.length)
    (hstack : g.stack = argsL.reverse ++ .ref a :: rest) (hW : 2 * g.monitorRoom + (rest.map fun v => v.category).sum ≤ W) (hd : decode c.code g.pc = .ok (.invokevirtual index, 3))
    {K : Outcome → State → Prop} (go : ∀ T' v L, Stand p l e R s m args below meth c T' (locs ++ L) (cells + rm.cells) (slots + rm.slots) → Q v T'.heap L → own_Goes p e below K T' { g with pc := g.pc + 3, stack := v.toList ++ rest }) : own_Goes p e below K T g := by
  obtain ⟨cq, kq, qa, qb, qc⟩ := isOf hZ eT E
  obtain ⟨v, _, ⟨T', L', k', n'⟩, -, X', ⟨Lc, hQ, l1, y1, z1⟩, st⟩ := X.virtualBackUp hx (x := y) (y := z) hown (mvT hZ w1) (mvT hZ w2) (mvT hZ w2') hy (mvT hZ w3) (mvT hZ w4) (backOf (W := W) hM hZ w5 w6 hf hl) qa qc hg hsize (Steps.refl _) (lenOf hpd hlen) hstack hW hd (fun _ _ => ⟨rfl, eT, hc, hs⟩)
  dsimp only [Pt.U, Pt.locs, Pt.cells, Pt.slots] at X' l1 y1 z1 st hQ
  subst l1 y1 z1
  exact own_step (fun t k => st.trans k) (go _ _ _ X' hQ)
theorem own_aaload (X : Stand p l e R s m args below meth c T locs cells slots) (hx : p.tables.exec = Jvm.exec) (hZ : Z.Warmed39 s.vm) (eT : T.heap = h) {a : Addr} {k : ClassId} {ty : FieldType} {n : Int32} {vs : List Value} {dv : Value} (F : Arv Z h a k ty n vs dv) (hty : ty.isReference = true) {j : Int32} (v : Value) (hj : ¬ j < 0 ∧ j < n) (hv : vs.getD j.toNatClampNeg dv = v)
    {g : JFrame} (hg : g.method = m) {rest : List Value} (hs : g.stack = .int j :: .ref a :: rest) (hd : decode c.code g.pc = .ok (.aaload, 1)) : ∀ t, Steps p.tables e below (T.setTop { g with pc := g.pc + 1, stack := v :: rest }) t → Steps p.tables e below (T.setTop g) t := by
  obtain ⟨cl, A, q1, S, q3, H, G⟩ := F
  have hin := inb_of S hj
  exact fun t kk => X.aaload hx (by rw [eT]; exact A.1) (State.isArrayOf_alike hZ.alike A.2.1) hty A.2.2 hin (H.at hin hv) hg hs hd t kk
theorem own_aastore (X : Stand p l e R s m args below meth c T locs cells slots) (hx : p.tables.exec = Jvm.exec) (hZ : Z.Warmed39 s.vm) (eT : T.heap = h) {a : Addr} {k : ClassId} {C : String} {n : Int32} {vs : List Value} {dv : Value} (F : Arv Z h a k (.object C) n vs dv) (O : Ovr Z k C) {y : Addr} (I : Ins Z h y C true) {j : Int32} (hj : ¬ j < 0 ∧ j < n) (i : Nat) (hi : j.toNatClampNeg = i) (hl : i < vs.length)
    {g : JFrame} (hg : g.method = m) {rest : List Value} (hs : g.stack = .ref y :: .int j :: .ref a :: rest) (hd : decode c.code g.pc = .ok (.aastore, 1)) :
    ∃ T' h', Stand p l e R s m args below meth c T' (locs ++ [⟨a, j.toNatClampNeg⟩]) cells slots ∧ T'.heap = h' ∧ Wr h h' a j.toNatClampNeg (.ref y) ∧ Arv Z h' a k (.object C) n (vs.set i (.ref y)) dv ∧ ∀ target, Steps p.tables e below (T'.setTop { g with pc := g.pc + 1, stack := rest }) target → Steps p.tables e below (T.setTop g) target := by
  obtain ⟨cl, A, q1, S, q3, H, G⟩ := F
  obtain ⟨T', h', X', e', W', st⟩ := stR X hx hZ eT A (inb_of S hj) rfl (Sto.ofV A q1 O I) hg hs hd
  exact ⟨T', h', X', e', W', Arv.set A q1 S q3 H G rfl W' i hi hl, st⟩
theorem own_staKeep {C n d : String} {v : Value} {h' : Heap} {ws : List Addr} (F : Sta Z h C n d v) (K : Keep h h' ws) (q : ∀ x ∈ ws, ∀ cell : Cell, h[x]? = some cell → cell.vm.isStatics = false) : Sta Z h' C n d v := by
  obtain ⟨cf, i, k, f, st, cell, h1, h2, h3, h4, h5, h6, h7⟩ := F
  refine ⟨cf, i, k, f, st, cell, h1, h2, h3, h4, K.2.1 _ _ h5 (fun z => ?_), h6, h7⟩
  have := q _ z _ h5
  rw [h6] at this; cases this
theorem own_caload (X : Stand p l e R s m args below meth c T locs cells slots) (hx : p.tables.exec = Jvm.exec) (hZ : Z.Warmed39 s.vm) (eT : T.heap = h) {a : Addr} {k : ClassId} {n : Int32} {vs : List Value} {dv : Value} (F : Arv Z h a k .char n vs dv) {j : Int32} (v : Value) (hj : ¬ j < 0 ∧ j < n) (hv : vs.getD j.toNatClampNeg dv = v)
    {g : JFrame} (hg : g.method = m) {rest : List Value} (hs : g.stack = .int j :: .ref a :: rest) (hd : decode c.code g.pc = .ok (.caload, 1)) : ∀ t, Steps p.tables e below (T.setTop { g with pc := g.pc + 1, stack := v :: rest }) t → Steps p.tables e below (T.setTop g) t := by
  obtain ⟨cl, A, q1, S, q3, H, G⟩ := F
  have hin := inb_of S hj
  exact fun t kk => X.caload hx (by rw [eT]; exact A.1) (State.isArrayOf_alike hZ.alike A.2.1) A.2.2 hin (H.at hin hv) hg hs hd t kk
theorem own_baload (X : Stand p l e R s m args below meth c T locs cells slots) (hx : p.tables.exec = Jvm.exec) (hZ : Z.Warmed39 s.vm) (eT : T.heap = h) {a : Addr} {k : ClassId} {n : Int32} {vs : List Value} {dv : Value} (F : Arv Z h a k .byte n vs dv) {j : Int32} (v : Value) (hj : ¬ j < 0 ∧ j < n) (hv : vs.getD j.toNatClampNeg dv = v)
    {g : JFrame} (hg : g.method = m) {rest : List Value} (hs : g.stack = .int j :: .ref a :: rest) (hd : decode c.code g.pc = .ok (.baload, 1)) : ∀ t, Steps p.tables e below (T.setTop { g with pc := g.pc + 1, stack := v :: rest }) t → Steps p.tables e below (T.setTop g) t := by
  obtain ⟨cl, A, q1, S, q3, H, G⟩ := F
  have hin := inb_of S hj
  exact fun t kk => X.baloadBytes hx (by rw [eT]; exact A.1) (State.isArrayOf_alike hZ.alike A.2.1) A.2.2 hin (H.at hin hv) hg hs hd t kk
theorem own_alen (X : Stand p l e R s m args below meth c T locs cells slots) (hx : p.tables.exec = Jvm.exec) (hZ : Z.Warmed39 s.vm) (eT : T.heap = h) {a : Addr} {k : ClassId} {ty : FieldType} {n : Int32} {vs : List Value} {dv : Value} (F : Arv Z h a k ty n vs dv)
    {g : JFrame} (hg : g.method = m) {rest : List Value} (hs : g.stack = .ref a :: rest) (hd : decode c.code g.pc = .ok (.arraylength, 1)) : ∀ t, Steps p.tables e below (T.setTop { g with pc := g.pc + 1, stack := .int n :: rest }) t → Steps p.tables e below (T.setTop g) t := by
  obtain ⟨cl, A, q1, S, q3, H, G⟩ := F
  intro t kk
  refine X.arraylength hx (by rw [eT]; exact A.1) (State.isArrayOf_alike hZ.alike A.2.1) hg hs hd t ?_
  rw [len_of S q3]
  exact kk
theorem own_castore (X : Stand p l e R s m args below meth c T locs cells slots) (hx : p.tables.exec = Jvm.exec) (hZ : Z.Warmed39 s.vm) (eT : T.heap = h) {a : Addr} {k : ClassId} {n : Int32} {vs : List Value} {dv : Value} (F : Arv Z h a k .char n vs dv) {x : Int32} (x' : Int32) (hx' : nar .char x = x') {j : Int32} (hj : ¬ j < 0 ∧ j < n) (i : Nat) (hi : j.toNatClampNeg = i) (hl : i < vs.length)
    {g : JFrame} (hg : g.method = m) {rest : List Value} (hs : g.stack = .int x :: .int j :: .ref a :: rest) (hd : decode c.code g.pc = .ok (.castore, 1)) :
    ∃ T' h', Stand p l e R s m args below meth c T' (locs ++ [⟨a, j.toNatClampNeg⟩]) cells slots ∧ T'.heap = h' ∧ Wr h h' a j.toNatClampNeg (.int x') ∧ Arv Z h' a k .char n (vs.set i (.int x')) dv ∧ ∀ target, Steps p.tables e below (T'.setTop { g with pc := g.pc + 1, stack := rest }) target → Steps p.tables e below (T.setTop g) target := by
  subst hx'
  obtain ⟨cl, A, q1, S, q3, H, G⟩ := F
  obtain ⟨T', h', X', e', W', st⟩ := stC X hx hZ eT A (inb_of S hj) hg hs hd
  exact ⟨T', h', X', e', W', Arv.set A q1 S q3 H G (fits_nar_char _) W' i hi hl, st⟩
theorem own_bastore (X : Stand p l e R s m args below meth c T locs cells slots) (hx : p.tables.exec = Jvm.exec) (hZ : Z.Warmed39 s.vm) (eT : T.heap = h) {a : Addr} {k : ClassId} {n : Int32} {vs : List Value} {dv : Value} (F : Arv Z h a k .byte n vs dv) {x : Int32} (x' : Int32) (hx' : nar .byte x = x') {j : Int32} (hj : ¬ j < 0 ∧ j < n) (i : Nat) (hi : j.toNatClampNeg = i) (hl : i < vs.length)
    {g : JFrame} (hg : g.method = m) {rest : List Value} (hs : g.stack = .int x :: .int j :: .ref a :: rest) (hd : decode c.code g.pc = .ok (.bastore, 1)) :
    ∃ T' h', Stand p l e R s m args below meth c T' (locs ++ [⟨a, j.toNatClampNeg⟩]) cells slots ∧ T'.heap = h' ∧ Wr h h' a j.toNatClampNeg (.int x') ∧ Arv Z h' a k .byte n (vs.set i (.int x')) dv ∧ ∀ target, Steps p.tables e below (T'.setTop { g with pc := g.pc + 1, stack := rest }) target → Steps p.tables e below (T.setTop g) target := by
  subst hx'
  obtain ⟨cl, A, q1, S, q3, H, G⟩ := F
  obtain ⟨T', h', X', e', W', st⟩ := stB X hx hZ eT A (inb_of S hj) hg hs hd
  exact ⟨T', h', X', e', W', Arv.set A q1 S q3 H G (fits_nar_byte _) W' i hi hl, st⟩
theorem own_b8 (x : Int32) : nar .byte (x.toInt8.toInt32) = x.toInt8.toInt32 := by
  show x.toInt8.toInt32.toInt8.toInt32 = x.toInt8.toInt32
  simp
theorem own_narc {x : Int32} (h0 : ¬ x < (0 : Int32)) (h1 : ¬ (255 : Int32) < x) : nar .char x = x := by
  have e0 : (0 : Int32).toInt = 0 := by decide
  have e1 : (255 : Int32).toInt = 255 := by decide
  rw [Int32.lt_iff_toInt_lt] at h0 h1
  have q := c_i2c x
  rw [← Int32.toInt_inj]
  show x.toUInt32.toUInt16.toUInt32.toInt32.toInt = x.toInt
  omega
theorem own_b8inj {x y : Int32} (h0 : ¬ x < (0 : Int32)) (h1 : ¬ (255 : Int32) < x) (g0 : ¬ y < (0 : Int32)) (g1 : ¬ (255 : Int32) < y) (q : x.toInt8.toInt32 = y.toInt8.toInt32) : x = y := by
  have e0 : (0 : Int32).toInt = 0 := by decide
  have e1 : (255 : Int32).toInt = 255 := by decide
  rw [Int32.lt_iff_toInt_lt] at h0 h1 g0 g1
  have a := c_i2b x
  have b := c_i2b y
  rw [q] at a
  rw [← Int32.toInt_inj]
  omega
theorem own_m255 (x : Int32) : ¬ (x &&& (255 : Int32)) < (0 : Int32) ∧ ¬ (255 : Int32) < (x &&& (255 : Int32)) := by
  have h1 := c_mask x (255 : Int32) 8 (by decide) (by decide)
  have e0 : (0 : Int32).toInt = 0 := by decide
  have e1 : (255 : Int32).toInt = 255 := by decide
  rw [Int32.lt_iff_toInt_lt, Int32.lt_iff_toInt_lt, h1]
  omega
theorem own_i2c (x : Int32) : ((x &&& (255 : Int32)).toUInt32.toUInt16.toUInt32.toInt32) = (x &&& (255 : Int32)) := i2c_mask x
theorem own_plainE {a : Addr} {C : String} (E : Exa Z h a C) : ∀ cell : Cell, h[a]? = some cell → cell.vm.isStatics = false := fun cell hc => by
  obtain ⟨c1, k, h1, -, -, h4, -⟩ := E
  cases h1.symm.trans hc
  exact h4
theorem own_plainA {a : Addr} {k : ClassId} {ty : FieldType} {n : Int32} {vs : List Value} {dv : Value} (F : Arv Z h a k ty n vs dv) : ∀ cell : Cell, h[a]? = some cell → cell.vm.isStatics = false := fun cell hc => by
  obtain ⟨c1, A, -⟩ := F
  cases A.1.symm.trans hc
  exact A.plain
theorem own_arrKeep {a : Addr} {cl : Cell} {ty : FieldType} {h' : Heap} {ws : List Addr} (A : Arr Z h a cl ty) (K : Keep h h' ws) (q : a ∉ ws) : Arr Z h' a cl ty := ⟨K.2.1 a cl A.1 q, A.2⟩
theorem own_fldR {t : Term} {C n d : String} {a y : Addr} (ev : t.eval args s none [] s = some (.ref a)) (hq : (Term.field t C n d).eval args s none [] s = some (.ref y)) : Fld s s.heap a C n d (.ref y) := by
  rw [fld_at ev] at hq
  exact Fld.start hq
theorem own_len {t : Term} {a : Addr} {cl : Cell} {ty : FieldType} {n : Int32} (ev : t.eval args s none [] s = some (.ref a)) (A : Arr s s.heap a cl ty) (hq : (Jvm.Cond.eq (.length t) (.int n)).value args s none s [] = some true) : cl.slots.size < 2 ^ 31 ∧ cl.slots.size.toInt32 = n := by
  have ha : s.arrayAt? a = some cl := A.fin (Vm.Alike.refl _)
  by_cases q : cl.slots.size < 2 ^ 31
  · have := len_f (args := args) (first := s) (o := none) (idx := []) ev ha q
    simp only [Jvm.Cond.value, this, Term.int_eval] at hq
    exact ⟨q, by simpa using hq⟩
  · simp [Jvm.Cond.value, Term.eval, ev, ha, q] at hq
theorem own_elemI {t : Term} {a : Addr} {cl : Cell} {ty : FieldType} {j v : Int32} (ev : t.eval args s none [] s = some (.ref a)) (A : Arr s s.heap a cl ty) (hq : (Jvm.Cond.eq (.elem t (.int j)) (.int v)).value args s none s [] = some true) : cl.slots[j.toNatClampNeg]? = some (.int v) := by
  obtain ⟨x, y, e1, e2, -, -⟩ := cmp_v (Or.inl hq)
  have e3 := (elem_in e1 ev (Term.int_eval j) A.1).2
  simp only [Jvm.Cond.value, e1, Term.int_eval] at hq
  cases x <;> simp at hq
  rw [e3, hq]
theorem own_elemR {t u : Term} {a w : Addr} {cl : Cell} {ty : FieldType} {j : Int32} (ev : t.eval args s none [] s = some (.ref a)) (eu : u.eval args s none [] s = some (.ref w)) (A : Arr s s.heap a cl ty) (hq : (Jvm.Cond.eq (.elem t (.int j)) u).value args s none s [] = some true) : cl.slots[j.toNatClampNeg]? = some (.ref w) := by
  obtain ⟨x, y, e1, e2, -, -⟩ := cmp_v (Or.inl hq)
  have e3 := (elem_in e1 ev (Term.int_eval j) A.1).2
  simp only [Jvm.Cond.value, e1, eu] at hq
  cases x <;> simp at hq
  rw [e3, hq]
end OwnKit
theorem own_pn_com_example_polyphony_polyphony_policy_Operator : plainName "com/example/polyphony/polyphony/policy/Operator" = true := by first | (simp [plainName, overriddenIn]; done) | decide +kernel
theorem own_ef0 (m : MethodId) : entryFrame m #[] 0 = mkF m 0 #[] [] := by first | (simp [entryFrame, mkF, argsToLocals, Value.category]; done) | rfl
theorem own_prog_48_method_1_0 : decode prog_48_method_1_code 0 = .ok (.getstatic 22, 3) := by decide +kernel
theorem own_prog_48_method_1_3 : decode prog_48_method_1_code 3 = .ok (.invokevirtual 26, 3) := by decide +kernel
theorem own_prog_48_method_1_6 : decode prog_48_method_1_code 6 = .ok (.checkcast 27, 3) := by decide +kernel
theorem own_prog_48_method_1_9 : decode prog_48_method_1_code 9 = .ok (.areturn, 1) := by decide +kernel
set_option maxRecDepth 65536 in
set_option maxHeartbeats 40000000 in
theorem own_values (l : Launch) (Z : State) (a0 : Array Value) (hw : ∀ d ∈ tables_1, d.before a0 Z = true) (ws : List Jvm.Cond) (w_V : Addr) (clv : Cell) (w_EQUAL : Addr) (w_NOT_EQUAL : Addr) (w_LESS : Addr) (w_LESS_OR_EQUAL : Addr) (w_GREATER : Addr) (w_GREATER_OR_EQUAL : Addr) (h0 : Heap) (n0 : Nat) (Z0 : n0 ≤ h0.size) (S__VALUES : Sta Z h0 "com/example/polyphony/polyphony/policy/Operator" "$VALUES" "[Lcom/example/polyphony/polyphony/policy/Operator;" (.ref w_V)) (R_w_V : Arr Z h0 w_V clv (.object "com/example/polyphony/polyphony/policy/Operator")) (E_w_V : Exa Z h0 w_V "[Lcom/example/polyphony/polyphony/policy/Operator;") (F_v : FitC Z clv) (S_v : clv.slots.size = (6 : Int32).toNatClampNeg) (H_v : Has clv [(.ref w_EQUAL), (.ref w_NOT_EQUAL), (.ref w_LESS), (.ref w_LESS_OR_EQUAL), (.ref w_GREATER), (.ref w_GREATER_OR_EQUAL)] .null) (G_v : ∀ i, i < clv.slots.size → fits (.object "com/example/polyphony/polyphony/policy/Operator") ([(.ref w_EQUAL), (.ref w_NOT_EQUAL), (.ref w_LESS), (.ref w_LESS_OR_EQUAL), (.ref w_GREATER), (.ref w_GREATER_OR_EQUAL)].getD i .null) = true) :
    own_Met l Z (⟨"com/example/polyphony/polyphony/policy/Operator", "values", "()[Lcom/example/polyphony/polyphony/policy/Operator;"⟩ : MethodName) prog_48_method_1_code 0 (some (.array (.object "com/example/polyphony/polyphony/policy/Operator"))) ws ({ frames := 1, cells := 1, slots := 6, locals := 14 } : Room) #[] h0 (fun v h L => ∃ r : Addr, ∃ kr : ClassId, v = some (.ref r) ∧ Fr n0 L ∧ Keep h0 h [] ∧ h0.size ≤ r ∧ Arv Z h r kr (.object "com/example/polyphony/polyphony/policy/Operator") (6 : Int32) [(.ref w_EQUAL), (.ref w_NOT_EQUAL), (.ref w_LESS), (.ref w_LESS_OR_EQUAL), (.ref w_GREATER), (.ref w_GREATER_OR_EQUAL)] .null) := by
  refine own_body (plainFor_of_name own_pn_com_example_polyphony_polyphony_policy_Operator) (fun p e s m below meth c s₁ hx hby hml0 hrt hlk hown0 hnm hZ X0 e0 => ?_)
  have N0 := Fr.nil n0
  have hown : s.vm.findClass "com/example/polyphony/polyphony/policy/Operator" = some m.cls := hown0
  have hml : c.maxLocals = 0 := hml0
  refine own_castG (own_ef0 m) ?_
  show own_Goes _ _ _ _ s₁ (mkF m 0 #[] [])
  obtain ⟨T1, X1, e1, st1⟩ := getS2 X0 hx hZ hown (host := "") (Or.inl (hw _ (List.mem_of_getElem? (i := 40) rfl))) Via.refl e0 S__VALUES (g := (mkF m 0 #[] [])) rfl (hb hby own_prog_48_method_1_0)
  refine own_step st1 ?_
  show own_Goes _ _ _ _ T1 (mkF m 3 #[] [(.ref w_V)])
  obtain ⟨T2, h2, X2, e2, E2, A2, Ex2, st2⟩ := cloneA X1 hx hZ hown (hw _ (List.mem_of_getElem? (i := 42) rfl)) (hw _ (List.mem_of_getElem? (i := 43) rfl)) (hw _ (List.mem_of_getElem? (i := 47) rfl)) (hw _ (List.mem_of_getElem? (i := 45) rfl)) (hw _ (List.mem_of_getElem? (i := 46) rfl)) (hw _ (List.mem_of_getElem? (i := 48) rfl)) e1 R_w_V E_w_V F_v (g := (mkF m 3 #[] [(.ref w_V)])) rfl (by rw [hml]; rfl) rfl (hb hby own_prog_48_method_1_3) (by decide) (W := 0) (cap := 6) (by show 2 * 0 + _ ≤ _; exact Nat.le_of_eq rfl) (by decide) (by rw [S_v]; decide) (by decide) (by decide)
  obtain ⟨b2, g2⟩ : ∃ z, z = h0.size := ⟨_, rfl⟩
  rw [← g2] at A2 Ex2 st2
  refine own_step st2 ?_
  have g_b2 : n0 ≤ b2 := Nat.le_trans Z0 (Nat.le_of_eq g2.symm)
  have sz_b2 : h0.size ≤ b2 := Nat.le_trans (Keep.refl h0 []).1 (Nat.le_of_eq g2.symm)
  have ne_w_V_b2 : w_V ≠ b2 := Nat.ne_of_lt (Nat.lt_of_lt_of_le E_w_V.lt (Nat.le_of_eq g2.symm))
  have K2 := (Keep.refl h0 []).ext E2
  have V_b2 : Arv Z h2 b2 clv.cls (.object "com/example/polyphony/polyphony/policy/Operator") (6 : Int32) [(.ref w_EQUAL), (.ref w_NOT_EQUAL), (.ref w_LESS), (.ref w_LESS_OR_EQUAL), (.ref w_GREATER), (.ref w_GREATER_OR_EQUAL)] .null := ⟨_, A2, rfl, S_v, by decide, H_v, G_v⟩
  show own_Goes _ _ _ _ T2 (mkF m 6 #[] [(.ref b2)])
  obtain ⟨T3, X3, e3, st3⟩ := castY X2 hx hZ hown (hw _ (List.mem_of_getElem? (i := 55) rfl)) e2 (Ins.self Ex2) (g := (mkF m 6 #[] [(.ref b2)])) rfl rfl (hb hby own_prog_48_method_1_6)
  refine own_step st3 ?_
  show own_Goes _ _ _ _ T3 (mkF m 9 #[] [(.ref b2)])
  exact own_retA X3 hx hlk hrt rfl rfl rfl (hb hby own_prog_48_method_1_9) (by rw [e3]; exact ⟨b2, clv.cls, rfl, N0, K2, sz_b2, V_b2⟩) (by decide) (by decide)
theorem own_ef1 (m : MethodId) (x0 : Addr) : entryFrame m #[(.ref x0)] 1 = mkF m 0 #[.val (.ref x0)] [] := by first | (simp [entryFrame, mkF, argsToLocals, Value.category]; done) | rfl
theorem own_prog_48_method_4_0 : decode prog_48_method_4_code 0 = .ok (.aload_n 0, 1) := by decide +kernel
theorem own_prog_48_method_4_1 : decode prog_48_method_4_code 1 = .ok (.getfield 41, 3) := by decide +kernel
theorem own_prog_48_method_4_4 : decode prog_48_method_4_code 4 = .ok (.areturn, 1) := by decide +kernel
set_option maxRecDepth 65536 in
set_option maxHeartbeats 40000000 in
theorem own_symbol (l : Launch) (Z : State) (a0 : Array Value) (hw : ∀ d ∈ tables_1, d.before a0 Z = true) (ws : List Jvm.Cond) (a : Addr) (y : Addr) (h0 : Heap) (n0 : Nat) (Z0 : n0 ≤ h0.size) (F_a_symbol : Fld Z h0 a "com/example/polyphony/polyphony/policy/Operator" "symbol" "Ljava/lang/String;" (.ref y)) :
    own_Met l Z (⟨"com/example/polyphony/polyphony/policy/Operator", "symbol", "()Ljava/lang/String;"⟩ : MethodName) prog_48_method_4_code 1 (some (.object "java/lang/String")) ws ({ frames := 0, cells := 0, slots := 0, locals := 0 } : Room) #[(.ref a)] h0 (fun v h L => v = some (.ref y) ∧ Fr n0 L ∧ h = h0) := by
  refine own_body (plainFor_of_name own_pn_com_example_polyphony_polyphony_policy_Operator) (fun p e s m below meth c s₁ hx hby hml0 hrt hlk hown0 hnm hZ X0 e0 => ?_)
  have N0 := Fr.nil n0
  have hown : s.vm.findClass "com/example/polyphony/polyphony/policy/Operator" = some m.cls := hown0
  have hml : c.maxLocals = 1 := hml0
  refine own_castG (own_ef1 m a) ?_
  show own_Goes _ _ _ _ s₁ (mkF m 0 #[.val (.ref a)] [])
  refine own_step (fun t k => XS.aloadN X0.here hx rfl (hb hby own_prog_48_method_4_0) rfl rfl k) ?_
  show own_Goes _ _ _ _ s₁ (mkF m 1 #[.val (.ref a)] [(.ref a)])
  obtain ⟨T1, X1, e1, st1⟩ := getF X0 hx hZ hown (host := "") (Or.inl (hw _ (List.mem_of_getElem? (i := 57) rfl))) Via.refl e0 F_a_symbol (g := (mkF m 1 #[.val (.ref a)] [(.ref a)])) rfl rfl (hb hby own_prog_48_method_4_1)
  refine own_step st1 ?_
  show own_Goes _ _ _ _ T1 (mkF m 4 #[.val (.ref a)] [(.ref y)])
  exact own_retA X1 hx hlk hrt rfl rfl rfl (hb hby own_prog_48_method_4_4) ⟨rfl, N0, e1⟩ (by decide) (by decide)
theorem own_ef2 (m : MethodId) (x0 : Addr) (x1 : Int32) : entryFrame m #[(.ref x0), (.int x1)] 3 = mkF m 0 #[.val (.ref x0), .val (.int x1), .unset] [] := by first | (simp [entryFrame, mkF, argsToLocals, Value.category]; done) | rfl
theorem own_prog_48_method_6_0 : decode prog_48_method_6_code 0 = .ok (.iload_n 1, 1) := by decide +kernel
theorem own_prog_48_method_6_1 : decode prog_48_method_6_code 1 = .ok (.ifCond .ge 11, 3) := by decide +kernel
theorem own_prog_48_method_6_4 : decode prog_48_method_6_code 4 = .ok (.aload_n 0, 1) := by decide +kernel
theorem own_prog_48_method_6_5 : decode prog_48_method_6_code 5 = .ok (.getfield 45, 3) := by decide +kernel
theorem own_prog_48_method_6_8 : decode prog_48_method_6_code 8 = .ok (.istore_n 2, 1) := by decide +kernel
theorem own_prog_48_method_6_9 : decode prog_48_method_6_code 9 = .ok (.goto 20, 3) := by decide +kernel
theorem own_prog_48_method_6_29 : decode prog_48_method_6_code 29 = .ok (.iload_n 2, 1) := by decide +kernel
theorem own_prog_48_method_6_30 : decode prog_48_method_6_code 30 = .ok (.ireturn, 1) := by decide +kernel
theorem own_prog_48_method_6_12 : decode prog_48_method_6_code 12 = .ok (.iload_n 1, 1) := by decide +kernel
theorem own_prog_48_method_6_13 : decode prog_48_method_6_code 13 = .ok (.ifCond .ne 11, 3) := by decide +kernel
theorem own_prog_48_method_6_16 : decode prog_48_method_6_code 16 = .ok (.aload_n 0, 1) := by decide +kernel
theorem own_prog_48_method_6_17 : decode prog_48_method_6_code 17 = .ok (.getfield 49, 3) := by decide +kernel
theorem own_prog_48_method_6_20 : decode prog_48_method_6_code 20 = .ok (.istore_n 2, 1) := by decide +kernel
theorem own_prog_48_method_6_21 : decode prog_48_method_6_code 21 = .ok (.goto 8, 3) := by decide +kernel
theorem own_prog_48_method_6_24 : decode prog_48_method_6_code 24 = .ok (.aload_n 0, 1) := by decide +kernel
theorem own_prog_48_method_6_25 : decode prog_48_method_6_code 25 = .ok (.getfield 52, 3) := by decide +kernel
theorem own_prog_48_method_6_28 : decode prog_48_method_6_code 28 = .ok (.istore_n 2, 1) := by decide +kernel
set_option maxRecDepth 65536 in
set_option maxHeartbeats 40000000 in
theorem own_holds_EQUAL (l : Launch) (Z : State) (a0 : Array Value) (hw : ∀ d ∈ tables_1, d.before a0 Z = true) (ws : List Jvm.Cond) (a : Addr) (pv : Int32) (r : Int32) (h0 : Heap) (n0 : Nat) (Z0 : n0 ≤ h0.size) (F_a_whenBefore : Fld Z h0 a "com/example/polyphony/polyphony/policy/Operator" "whenBefore" "Z" (.int (0 : Int32))) (F_a_whenEqual : Fld Z h0 a "com/example/polyphony/polyphony/policy/Operator" "whenEqual" "Z" (.int (1 : Int32))) (F_a_whenAfter : Fld Z h0 a "com/example/polyphony/polyphony/policy/Operator" "whenAfter" "Z" (.int (0 : Int32))) (hrn : pv < (0 : Int32) → r = (0 : Int32)) (hrz : ¬ (pv < (0 : Int32)) → pv = (0 : Int32) → r = (1 : Int32)) (hrp : ¬ (pv < (0 : Int32)) → ¬ (pv = (0 : Int32)) → r = (0 : Int32)) :
    own_Met l Z (⟨"com/example/polyphony/polyphony/policy/Operator", "holds", "(I)Z"⟩ : MethodName) prog_48_method_6_code 3 (some .boolean) ws ({ frames := 0, cells := 0, slots := 0, locals := 0 } : Room) #[(.ref a), (.int pv)] h0 (fun v h L => v = some (.int r) ∧ Fr n0 L ∧ h = h0) := by
  refine own_body (plainFor_of_name own_pn_com_example_polyphony_polyphony_policy_Operator) (fun p e s m below meth c s₁ hx hby hml0 hrt hlk hown0 hnm hZ X0 e0 => ?_)
  have N0 := Fr.nil n0
  have hown : s.vm.findClass "com/example/polyphony/polyphony/policy/Operator" = some m.cls := hown0
  have hml : c.maxLocals = 3 := hml0
  refine own_castG (own_ef2 m a pv) ?_
  show own_Goes _ _ _ _ s₁ (mkF m 0 #[.val (.ref a), .val (.int pv), .unset] [])
  refine own_step (fun t k => XS.iloadN X0.here hx rfl (hb hby own_prog_48_method_6_0) rfl k) ?_
  show own_Goes _ _ _ _ s₁ (mkF m 1 #[.val (.ref a), .val (.int pv), .unset] [(.int pv)])
  by_cases hc1_1 : pv < (0 : Int32)
  · refine own_step (fun t k => XS.ifNo X0.here hx rfl (hb hby own_prog_48_method_6_1) rfl ((if0 _ _).trans (tlt (show pv < (0 : Int32) from hc1_1)).2.1) k) ?_
    show own_Goes _ _ _ _ s₁ (mkF m 4 #[.val (.ref a), .val (.int pv), .unset] [])
    refine own_step (fun t k => XS.aloadN X0.here hx rfl (hb hby own_prog_48_method_6_4) rfl rfl k) ?_
    show own_Goes _ _ _ _ s₁ (mkF m 5 #[.val (.ref a), .val (.int pv), .unset] [(.ref a)])
    obtain ⟨T2, X2, e2, st2⟩ := getF X0 hx hZ hown (host := "") (Or.inl (hw _ (List.mem_of_getElem? (i := 83) rfl))) Via.refl e0 F_a_whenBefore (g := (mkF m 5 #[.val (.ref a), .val (.int pv), .unset] [(.ref a)])) rfl rfl (hb hby own_prog_48_method_6_5)
    refine own_step st2 ?_
    show own_Goes _ _ _ _ T2 (mkF m 8 #[.val (.ref a), .val (.int pv), .unset] [(.int (0 : Int32))])
    refine own_step (fun t k => XS.istoreN X2.here hx rfl (hb hby own_prog_48_method_6_8) rfl (l' := #[.val (.ref a), .val (.int pv), .val (.int (0 : Int32))]) rfl k) ?_
    show own_Goes _ _ _ _ T2 (mkF m 9 #[.val (.ref a), .val (.int pv), .val (.int (0 : Int32))] [])
    refine own_step (fun t k => XS.goto X2.here hx rfl (pc0 := 9) (pc' := 29) rfl (hb hby own_prog_48_method_6_9) (by decide) (by decide) k) ?_
    show own_Goes _ _ _ _ T2 (mkF m 29 #[.val (.ref a), .val (.int pv), .val (.int (0 : Int32))] [])
    refine own_step (fun t k => XS.iloadN X2.here hx rfl (hb hby own_prog_48_method_6_29) rfl k) ?_
    show own_Goes _ _ _ _ T2 (mkF m 30 #[.val (.ref a), .val (.int pv), .val (.int (0 : Int32))] [(.int (0 : Int32))])
    exact own_retN X2 hx hlk (t := .boolean) hrt (by simp) (hb hby own_prog_48_method_6_30) ⟨congrArg (fun z => some (Value.int z)) (hrn hc1_1).symm, N0, e2⟩ (by decide) (by decide)
  · refine own_step (fun t k => XS.ifYes X0.here hx rfl (pc0 := 1) (pc' := 12) rfl (hb hby own_prog_48_method_6_1) rfl ((if0 _ _).trans (flt (show ¬ (pv < (0 : Int32)) from hc1_1)).2.1) (by decide) (by decide) k) ?_
    show own_Goes _ _ _ _ s₁ (mkF m 12 #[.val (.ref a), .val (.int pv), .unset] [])
    refine own_step (fun t k => XS.iloadN X0.here hx rfl (hb hby own_prog_48_method_6_12) rfl k) ?_
    show own_Goes _ _ _ _ s₁ (mkF m 13 #[.val (.ref a), .val (.int pv), .unset] [(.int pv)])
    by_cases hc13_3 : pv = (0 : Int32)
    · refine own_step (fun t k => XS.ifNo X0.here hx rfl (hb hby own_prog_48_method_6_13) rfl ((if0 _ _).trans (teq (show pv = (0 : Int32) from hc13_3)).2) k) ?_
      show own_Goes _ _ _ _ s₁ (mkF m 16 #[.val (.ref a), .val (.int pv), .unset] [])
      refine own_step (fun t k => XS.aloadN X0.here hx rfl (hb hby own_prog_48_method_6_16) rfl rfl k) ?_
      show own_Goes _ _ _ _ s₁ (mkF m 17 #[.val (.ref a), .val (.int pv), .unset] [(.ref a)])
      obtain ⟨T4, X4, e4, st4⟩ := getF X0 hx hZ hown (host := "") (Or.inl (hw _ (List.mem_of_getElem? (i := 89) rfl))) Via.refl e0 F_a_whenEqual (g := (mkF m 17 #[.val (.ref a), .val (.int pv), .unset] [(.ref a)])) rfl rfl (hb hby own_prog_48_method_6_17)
      refine own_step st4 ?_
      show own_Goes _ _ _ _ T4 (mkF m 20 #[.val (.ref a), .val (.int pv), .unset] [(.int (1 : Int32))])
      refine own_step (fun t k => XS.istoreN X4.here hx rfl (hb hby own_prog_48_method_6_20) rfl (l' := #[.val (.ref a), .val (.int pv), .val (.int (1 : Int32))]) rfl k) ?_
      show own_Goes _ _ _ _ T4 (mkF m 21 #[.val (.ref a), .val (.int pv), .val (.int (1 : Int32))] [])
      refine own_step (fun t k => XS.goto X4.here hx rfl (pc0 := 21) (pc' := 29) rfl (hb hby own_prog_48_method_6_21) (by decide) (by decide) k) ?_
      show own_Goes _ _ _ _ T4 (mkF m 29 #[.val (.ref a), .val (.int pv), .val (.int (1 : Int32))] [])
      refine own_step (fun t k => XS.iloadN X4.here hx rfl (hb hby own_prog_48_method_6_29) rfl k) ?_
      show own_Goes _ _ _ _ T4 (mkF m 30 #[.val (.ref a), .val (.int pv), .val (.int (1 : Int32))] [(.int (1 : Int32))])
      exact own_retN X4 hx hlk (t := .boolean) hrt (by simp) (hb hby own_prog_48_method_6_30) ⟨congrArg (fun z => some (Value.int z)) (hrz hc1_1 hc13_3).symm, N0, e4⟩ (by decide) (by decide)
    · refine own_step (fun t k => XS.ifYes X0.here hx rfl (pc0 := 13) (pc' := 24) rfl (hb hby own_prog_48_method_6_13) rfl ((if0 _ _).trans (feq (show ¬ (pv = (0 : Int32)) from hc13_3)).2) (by decide) (by decide) k) ?_
      show own_Goes _ _ _ _ s₁ (mkF m 24 #[.val (.ref a), .val (.int pv), .unset] [])
      refine own_step (fun t k => XS.aloadN X0.here hx rfl (hb hby own_prog_48_method_6_24) rfl rfl k) ?_
      show own_Goes _ _ _ _ s₁ (mkF m 25 #[.val (.ref a), .val (.int pv), .unset] [(.ref a)])
      obtain ⟨T5, X5, e5, st5⟩ := getF X0 hx hZ hown (host := "") (Or.inl (hw _ (List.mem_of_getElem? (i := 80) rfl))) Via.refl e0 F_a_whenAfter (g := (mkF m 25 #[.val (.ref a), .val (.int pv), .unset] [(.ref a)])) rfl rfl (hb hby own_prog_48_method_6_25)
      refine own_step st5 ?_
      show own_Goes _ _ _ _ T5 (mkF m 28 #[.val (.ref a), .val (.int pv), .unset] [(.int (0 : Int32))])
      refine own_step (fun t k => XS.istoreN X5.here hx rfl (hb hby own_prog_48_method_6_28) rfl (l' := #[.val (.ref a), .val (.int pv), .val (.int (0 : Int32))]) rfl k) ?_
      show own_Goes _ _ _ _ T5 (mkF m 29 #[.val (.ref a), .val (.int pv), .val (.int (0 : Int32))] [])
      refine own_step (fun t k => XS.iloadN X5.here hx rfl (hb hby own_prog_48_method_6_29) rfl k) ?_
      show own_Goes _ _ _ _ T5 (mkF m 30 #[.val (.ref a), .val (.int pv), .val (.int (0 : Int32))] [(.int (0 : Int32))])
      exact own_retN X5 hx hlk (t := .boolean) hrt (by simp) (hb hby own_prog_48_method_6_30) ⟨congrArg (fun z => some (Value.int z)) (hrp hc1_1 hc13_3).symm, N0, e5⟩ (by decide) (by decide)
set_option maxRecDepth 65536 in
set_option maxHeartbeats 40000000 in
theorem own_holds_NOT_EQUAL (l : Launch) (Z : State) (a0 : Array Value) (hw : ∀ d ∈ tables_1, d.before a0 Z = true) (ws : List Jvm.Cond) (a : Addr) (pv : Int32) (r : Int32) (h0 : Heap) (n0 : Nat) (Z0 : n0 ≤ h0.size) (F_a_whenBefore : Fld Z h0 a "com/example/polyphony/polyphony/policy/Operator" "whenBefore" "Z" (.int (1 : Int32))) (F_a_whenEqual : Fld Z h0 a "com/example/polyphony/polyphony/policy/Operator" "whenEqual" "Z" (.int (0 : Int32))) (F_a_whenAfter : Fld Z h0 a "com/example/polyphony/polyphony/policy/Operator" "whenAfter" "Z" (.int (1 : Int32))) (hrn : pv < (0 : Int32) → r = (1 : Int32)) (hrz : ¬ (pv < (0 : Int32)) → pv = (0 : Int32) → r = (0 : Int32)) (hrp : ¬ (pv < (0 : Int32)) → ¬ (pv = (0 : Int32)) → r = (1 : Int32)) :
    own_Met l Z (⟨"com/example/polyphony/polyphony/policy/Operator", "holds", "(I)Z"⟩ : MethodName) prog_48_method_6_code 3 (some .boolean) ws ({ frames := 0, cells := 0, slots := 0, locals := 0 } : Room) #[(.ref a), (.int pv)] h0 (fun v h L => v = some (.int r) ∧ Fr n0 L ∧ h = h0) := by
  refine own_body (plainFor_of_name own_pn_com_example_polyphony_polyphony_policy_Operator) (fun p e s m below meth c s₁ hx hby hml0 hrt hlk hown0 hnm hZ X0 e0 => ?_)
  have N0 := Fr.nil n0
  have hown : s.vm.findClass "com/example/polyphony/polyphony/policy/Operator" = some m.cls := hown0
  have hml : c.maxLocals = 3 := hml0
  refine own_castG (own_ef2 m a pv) ?_
  show own_Goes _ _ _ _ s₁ (mkF m 0 #[.val (.ref a), .val (.int pv), .unset] [])
  refine own_step (fun t k => XS.iloadN X0.here hx rfl (hb hby own_prog_48_method_6_0) rfl k) ?_
  show own_Goes _ _ _ _ s₁ (mkF m 1 #[.val (.ref a), .val (.int pv), .unset] [(.int pv)])
  by_cases hc1_1 : pv < (0 : Int32)
  · refine own_step (fun t k => XS.ifNo X0.here hx rfl (hb hby own_prog_48_method_6_1) rfl ((if0 _ _).trans (tlt (show pv < (0 : Int32) from hc1_1)).2.1) k) ?_
    show own_Goes _ _ _ _ s₁ (mkF m 4 #[.val (.ref a), .val (.int pv), .unset] [])
    refine own_step (fun t k => XS.aloadN X0.here hx rfl (hb hby own_prog_48_method_6_4) rfl rfl k) ?_
    show own_Goes _ _ _ _ s₁ (mkF m 5 #[.val (.ref a), .val (.int pv), .unset] [(.ref a)])
    obtain ⟨T2, X2, e2, st2⟩ := getF X0 hx hZ hown (host := "") (Or.inl (hw _ (List.mem_of_getElem? (i := 83) rfl))) Via.refl e0 F_a_whenBefore (g := (mkF m 5 #[.val (.ref a), .val (.int pv), .unset] [(.ref a)])) rfl rfl (hb hby own_prog_48_method_6_5)
    refine own_step st2 ?_
    show own_Goes _ _ _ _ T2 (mkF m 8 #[.val (.ref a), .val (.int pv), .unset] [(.int (1 : Int32))])
    refine own_step (fun t k => XS.istoreN X2.here hx rfl (hb hby own_prog_48_method_6_8) rfl (l' := #[.val (.ref a), .val (.int pv), .val (.int (1 : Int32))]) rfl k) ?_
    show own_Goes _ _ _ _ T2 (mkF m 9 #[.val (.ref a), .val (.int pv), .val (.int (1 : Int32))] [])
    refine own_step (fun t k => XS.goto X2.here hx rfl (pc0 := 9) (pc' := 29) rfl (hb hby own_prog_48_method_6_9) (by decide) (by decide) k) ?_
    show own_Goes _ _ _ _ T2 (mkF m 29 #[.val (.ref a), .val (.int pv), .val (.int (1 : Int32))] [])
    refine own_step (fun t k => XS.iloadN X2.here hx rfl (hb hby own_prog_48_method_6_29) rfl k) ?_
    show own_Goes _ _ _ _ T2 (mkF m 30 #[.val (.ref a), .val (.int pv), .val (.int (1 : Int32))] [(.int (1 : Int32))])
    exact own_retN X2 hx hlk (t := .boolean) hrt (by simp) (hb hby own_prog_48_method_6_30) ⟨congrArg (fun z => some (Value.int z)) (hrn hc1_1).symm, N0, e2⟩ (by decide) (by decide)
  · refine own_step (fun t k => XS.ifYes X0.here hx rfl (pc0 := 1) (pc' := 12) rfl (hb hby own_prog_48_method_6_1) rfl ((if0 _ _).trans (flt (show ¬ (pv < (0 : Int32)) from hc1_1)).2.1) (by decide) (by decide) k) ?_
    show own_Goes _ _ _ _ s₁ (mkF m 12 #[.val (.ref a), .val (.int pv), .unset] [])
    refine own_step (fun t k => XS.iloadN X0.here hx rfl (hb hby own_prog_48_method_6_12) rfl k) ?_
    show own_Goes _ _ _ _ s₁ (mkF m 13 #[.val (.ref a), .val (.int pv), .unset] [(.int pv)])
    by_cases hc13_3 : pv = (0 : Int32)
    · refine own_step (fun t k => XS.ifNo X0.here hx rfl (hb hby own_prog_48_method_6_13) rfl ((if0 _ _).trans (teq (show pv = (0 : Int32) from hc13_3)).2) k) ?_
      show own_Goes _ _ _ _ s₁ (mkF m 16 #[.val (.ref a), .val (.int pv), .unset] [])
      refine own_step (fun t k => XS.aloadN X0.here hx rfl (hb hby own_prog_48_method_6_16) rfl rfl k) ?_
      show own_Goes _ _ _ _ s₁ (mkF m 17 #[.val (.ref a), .val (.int pv), .unset] [(.ref a)])
      obtain ⟨T4, X4, e4, st4⟩ := getF X0 hx hZ hown (host := "") (Or.inl (hw _ (List.mem_of_getElem? (i := 89) rfl))) Via.refl e0 F_a_whenEqual (g := (mkF m 17 #[.val (.ref a), .val (.int pv), .unset] [(.ref a)])) rfl rfl (hb hby own_prog_48_method_6_17)
      refine own_step st4 ?_
      show own_Goes _ _ _ _ T4 (mkF m 20 #[.val (.ref a), .val (.int pv), .unset] [(.int (0 : Int32))])
      refine own_step (fun t k => XS.istoreN X4.here hx rfl (hb hby own_prog_48_method_6_20) rfl (l' := #[.val (.ref a), .val (.int pv), .val (.int (0 : Int32))]) rfl k) ?_
      show own_Goes _ _ _ _ T4 (mkF m 21 #[.val (.ref a), .val (.int pv), .val (.int (0 : Int32))] [])
      refine own_step (fun t k => XS.goto X4.here hx rfl (pc0 := 21) (pc' := 29) rfl (hb hby own_prog_48_method_6_21) (by decide) (by decide) k) ?_
      show own_Goes _ _ _ _ T4 (mkF m 29 #[.val (.ref a), .val (.int pv), .val (.int (0 : Int32))] [])
      refine own_step (fun t k => XS.iloadN X4.here hx rfl (hb hby own_prog_48_method_6_29) rfl k) ?_
      show own_Goes _ _ _ _ T4 (mkF m 30 #[.val (.ref a), .val (.int pv), .val (.int (0 : Int32))] [(.int (0 : Int32))])
      exact own_retN X4 hx hlk (t := .boolean) hrt (by simp) (hb hby own_prog_48_method_6_30) ⟨congrArg (fun z => some (Value.int z)) (hrz hc1_1 hc13_3).symm, N0, e4⟩ (by decide) (by decide)
    · refine own_step (fun t k => XS.ifYes X0.here hx rfl (pc0 := 13) (pc' := 24) rfl (hb hby own_prog_48_method_6_13) rfl ((if0 _ _).trans (feq (show ¬ (pv = (0 : Int32)) from hc13_3)).2) (by decide) (by decide) k) ?_
      show own_Goes _ _ _ _ s₁ (mkF m 24 #[.val (.ref a), .val (.int pv), .unset] [])
      refine own_step (fun t k => XS.aloadN X0.here hx rfl (hb hby own_prog_48_method_6_24) rfl rfl k) ?_
      show own_Goes _ _ _ _ s₁ (mkF m 25 #[.val (.ref a), .val (.int pv), .unset] [(.ref a)])
      obtain ⟨T5, X5, e5, st5⟩ := getF X0 hx hZ hown (host := "") (Or.inl (hw _ (List.mem_of_getElem? (i := 80) rfl))) Via.refl e0 F_a_whenAfter (g := (mkF m 25 #[.val (.ref a), .val (.int pv), .unset] [(.ref a)])) rfl rfl (hb hby own_prog_48_method_6_25)
      refine own_step st5 ?_
      show own_Goes _ _ _ _ T5 (mkF m 28 #[.val (.ref a), .val (.int pv), .unset] [(.int (1 : Int32))])
      refine own_step (fun t k => XS.istoreN X5.here hx rfl (hb hby own_prog_48_method_6_28) rfl (l' := #[.val (.ref a), .val (.int pv), .val (.int (1 : Int32))]) rfl k) ?_
      show own_Goes _ _ _ _ T5 (mkF m 29 #[.val (.ref a), .val (.int pv), .val (.int (1 : Int32))] [])
      refine own_step (fun t k => XS.iloadN X5.here hx rfl (hb hby own_prog_48_method_6_29) rfl k) ?_
      show own_Goes _ _ _ _ T5 (mkF m 30 #[.val (.ref a), .val (.int pv), .val (.int (1 : Int32))] [(.int (1 : Int32))])
      exact own_retN X5 hx hlk (t := .boolean) hrt (by simp) (hb hby own_prog_48_method_6_30) ⟨congrArg (fun z => some (Value.int z)) (hrp hc1_1 hc13_3).symm, N0, e5⟩ (by decide) (by decide)
set_option maxRecDepth 65536 in
set_option maxHeartbeats 40000000 in
theorem own_holds_LESS (l : Launch) (Z : State) (a0 : Array Value) (hw : ∀ d ∈ tables_1, d.before a0 Z = true) (ws : List Jvm.Cond) (a : Addr) (pv : Int32) (r : Int32) (h0 : Heap) (n0 : Nat) (Z0 : n0 ≤ h0.size) (F_a_whenBefore : Fld Z h0 a "com/example/polyphony/polyphony/policy/Operator" "whenBefore" "Z" (.int (1 : Int32))) (F_a_whenEqual : Fld Z h0 a "com/example/polyphony/polyphony/policy/Operator" "whenEqual" "Z" (.int (0 : Int32))) (F_a_whenAfter : Fld Z h0 a "com/example/polyphony/polyphony/policy/Operator" "whenAfter" "Z" (.int (0 : Int32))) (hrn : pv < (0 : Int32) → r = (1 : Int32)) (hrz : ¬ (pv < (0 : Int32)) → pv = (0 : Int32) → r = (0 : Int32)) (hrp : ¬ (pv < (0 : Int32)) → ¬ (pv = (0 : Int32)) → r = (0 : Int32)) :
    own_Met l Z (⟨"com/example/polyphony/polyphony/policy/Operator", "holds", "(I)Z"⟩ : MethodName) prog_48_method_6_code 3 (some .boolean) ws ({ frames := 0, cells := 0, slots := 0, locals := 0 } : Room) #[(.ref a), (.int pv)] h0 (fun v h L => v = some (.int r) ∧ Fr n0 L ∧ h = h0) := by
  refine own_body (plainFor_of_name own_pn_com_example_polyphony_polyphony_policy_Operator) (fun p e s m below meth c s₁ hx hby hml0 hrt hlk hown0 hnm hZ X0 e0 => ?_)
  have N0 := Fr.nil n0
  have hown : s.vm.findClass "com/example/polyphony/polyphony/policy/Operator" = some m.cls := hown0
  have hml : c.maxLocals = 3 := hml0
  refine own_castG (own_ef2 m a pv) ?_
  show own_Goes _ _ _ _ s₁ (mkF m 0 #[.val (.ref a), .val (.int pv), .unset] [])
  refine own_step (fun t k => XS.iloadN X0.here hx rfl (hb hby own_prog_48_method_6_0) rfl k) ?_
  show own_Goes _ _ _ _ s₁ (mkF m 1 #[.val (.ref a), .val (.int pv), .unset] [(.int pv)])
  by_cases hc1_1 : pv < (0 : Int32)
  · refine own_step (fun t k => XS.ifNo X0.here hx rfl (hb hby own_prog_48_method_6_1) rfl ((if0 _ _).trans (tlt (show pv < (0 : Int32) from hc1_1)).2.1) k) ?_
    show own_Goes _ _ _ _ s₁ (mkF m 4 #[.val (.ref a), .val (.int pv), .unset] [])
    refine own_step (fun t k => XS.aloadN X0.here hx rfl (hb hby own_prog_48_method_6_4) rfl rfl k) ?_
    show own_Goes _ _ _ _ s₁ (mkF m 5 #[.val (.ref a), .val (.int pv), .unset] [(.ref a)])
    obtain ⟨T2, X2, e2, st2⟩ := getF X0 hx hZ hown (host := "") (Or.inl (hw _ (List.mem_of_getElem? (i := 83) rfl))) Via.refl e0 F_a_whenBefore (g := (mkF m 5 #[.val (.ref a), .val (.int pv), .unset] [(.ref a)])) rfl rfl (hb hby own_prog_48_method_6_5)
    refine own_step st2 ?_
    show own_Goes _ _ _ _ T2 (mkF m 8 #[.val (.ref a), .val (.int pv), .unset] [(.int (1 : Int32))])
    refine own_step (fun t k => XS.istoreN X2.here hx rfl (hb hby own_prog_48_method_6_8) rfl (l' := #[.val (.ref a), .val (.int pv), .val (.int (1 : Int32))]) rfl k) ?_
    show own_Goes _ _ _ _ T2 (mkF m 9 #[.val (.ref a), .val (.int pv), .val (.int (1 : Int32))] [])
    refine own_step (fun t k => XS.goto X2.here hx rfl (pc0 := 9) (pc' := 29) rfl (hb hby own_prog_48_method_6_9) (by decide) (by decide) k) ?_
    show own_Goes _ _ _ _ T2 (mkF m 29 #[.val (.ref a), .val (.int pv), .val (.int (1 : Int32))] [])
    refine own_step (fun t k => XS.iloadN X2.here hx rfl (hb hby own_prog_48_method_6_29) rfl k) ?_
    show own_Goes _ _ _ _ T2 (mkF m 30 #[.val (.ref a), .val (.int pv), .val (.int (1 : Int32))] [(.int (1 : Int32))])
    exact own_retN X2 hx hlk (t := .boolean) hrt (by simp) (hb hby own_prog_48_method_6_30) ⟨congrArg (fun z => some (Value.int z)) (hrn hc1_1).symm, N0, e2⟩ (by decide) (by decide)
  · refine own_step (fun t k => XS.ifYes X0.here hx rfl (pc0 := 1) (pc' := 12) rfl (hb hby own_prog_48_method_6_1) rfl ((if0 _ _).trans (flt (show ¬ (pv < (0 : Int32)) from hc1_1)).2.1) (by decide) (by decide) k) ?_
    show own_Goes _ _ _ _ s₁ (mkF m 12 #[.val (.ref a), .val (.int pv), .unset] [])
    refine own_step (fun t k => XS.iloadN X0.here hx rfl (hb hby own_prog_48_method_6_12) rfl k) ?_
    show own_Goes _ _ _ _ s₁ (mkF m 13 #[.val (.ref a), .val (.int pv), .unset] [(.int pv)])
    by_cases hc13_3 : pv = (0 : Int32)
    · refine own_step (fun t k => XS.ifNo X0.here hx rfl (hb hby own_prog_48_method_6_13) rfl ((if0 _ _).trans (teq (show pv = (0 : Int32) from hc13_3)).2) k) ?_
      show own_Goes _ _ _ _ s₁ (mkF m 16 #[.val (.ref a), .val (.int pv), .unset] [])
      refine own_step (fun t k => XS.aloadN X0.here hx rfl (hb hby own_prog_48_method_6_16) rfl rfl k) ?_
      show own_Goes _ _ _ _ s₁ (mkF m 17 #[.val (.ref a), .val (.int pv), .unset] [(.ref a)])
      obtain ⟨T4, X4, e4, st4⟩ := getF X0 hx hZ hown (host := "") (Or.inl (hw _ (List.mem_of_getElem? (i := 89) rfl))) Via.refl e0 F_a_whenEqual (g := (mkF m 17 #[.val (.ref a), .val (.int pv), .unset] [(.ref a)])) rfl rfl (hb hby own_prog_48_method_6_17)
      refine own_step st4 ?_
      show own_Goes _ _ _ _ T4 (mkF m 20 #[.val (.ref a), .val (.int pv), .unset] [(.int (0 : Int32))])
      refine own_step (fun t k => XS.istoreN X4.here hx rfl (hb hby own_prog_48_method_6_20) rfl (l' := #[.val (.ref a), .val (.int pv), .val (.int (0 : Int32))]) rfl k) ?_
      show own_Goes _ _ _ _ T4 (mkF m 21 #[.val (.ref a), .val (.int pv), .val (.int (0 : Int32))] [])
      refine own_step (fun t k => XS.goto X4.here hx rfl (pc0 := 21) (pc' := 29) rfl (hb hby own_prog_48_method_6_21) (by decide) (by decide) k) ?_
      show own_Goes _ _ _ _ T4 (mkF m 29 #[.val (.ref a), .val (.int pv), .val (.int (0 : Int32))] [])
      refine own_step (fun t k => XS.iloadN X4.here hx rfl (hb hby own_prog_48_method_6_29) rfl k) ?_
      show own_Goes _ _ _ _ T4 (mkF m 30 #[.val (.ref a), .val (.int pv), .val (.int (0 : Int32))] [(.int (0 : Int32))])
      exact own_retN X4 hx hlk (t := .boolean) hrt (by simp) (hb hby own_prog_48_method_6_30) ⟨congrArg (fun z => some (Value.int z)) (hrz hc1_1 hc13_3).symm, N0, e4⟩ (by decide) (by decide)
    · refine own_step (fun t k => XS.ifYes X0.here hx rfl (pc0 := 13) (pc' := 24) rfl (hb hby own_prog_48_method_6_13) rfl ((if0 _ _).trans (feq (show ¬ (pv = (0 : Int32)) from hc13_3)).2) (by decide) (by decide) k) ?_
      show own_Goes _ _ _ _ s₁ (mkF m 24 #[.val (.ref a), .val (.int pv), .unset] [])
      refine own_step (fun t k => XS.aloadN X0.here hx rfl (hb hby own_prog_48_method_6_24) rfl rfl k) ?_
      show own_Goes _ _ _ _ s₁ (mkF m 25 #[.val (.ref a), .val (.int pv), .unset] [(.ref a)])
      obtain ⟨T5, X5, e5, st5⟩ := getF X0 hx hZ hown (host := "") (Or.inl (hw _ (List.mem_of_getElem? (i := 80) rfl))) Via.refl e0 F_a_whenAfter (g := (mkF m 25 #[.val (.ref a), .val (.int pv), .unset] [(.ref a)])) rfl rfl (hb hby own_prog_48_method_6_25)
      refine own_step st5 ?_
      show own_Goes _ _ _ _ T5 (mkF m 28 #[.val (.ref a), .val (.int pv), .unset] [(.int (0 : Int32))])
      refine own_step (fun t k => XS.istoreN X5.here hx rfl (hb hby own_prog_48_method_6_28) rfl (l' := #[.val (.ref a), .val (.int pv), .val (.int (0 : Int32))]) rfl k) ?_
      show own_Goes _ _ _ _ T5 (mkF m 29 #[.val (.ref a), .val (.int pv), .val (.int (0 : Int32))] [])
      refine own_step (fun t k => XS.iloadN X5.here hx rfl (hb hby own_prog_48_method_6_29) rfl k) ?_
      show own_Goes _ _ _ _ T5 (mkF m 30 #[.val (.ref a), .val (.int pv), .val (.int (0 : Int32))] [(.int (0 : Int32))])
      exact own_retN X5 hx hlk (t := .boolean) hrt (by simp) (hb hby own_prog_48_method_6_30) ⟨congrArg (fun z => some (Value.int z)) (hrp hc1_1 hc13_3).symm, N0, e5⟩ (by decide) (by decide)
set_option maxRecDepth 65536 in
set_option maxHeartbeats 40000000 in
theorem own_holds_LESS_OR_EQUAL (l : Launch) (Z : State) (a0 : Array Value) (hw : ∀ d ∈ tables_1, d.before a0 Z = true) (ws : List Jvm.Cond) (a : Addr) (pv : Int32) (r : Int32) (h0 : Heap) (n0 : Nat) (Z0 : n0 ≤ h0.size) (F_a_whenBefore : Fld Z h0 a "com/example/polyphony/polyphony/policy/Operator" "whenBefore" "Z" (.int (1 : Int32))) (F_a_whenEqual : Fld Z h0 a "com/example/polyphony/polyphony/policy/Operator" "whenEqual" "Z" (.int (1 : Int32))) (F_a_whenAfter : Fld Z h0 a "com/example/polyphony/polyphony/policy/Operator" "whenAfter" "Z" (.int (0 : Int32))) (hrn : pv < (0 : Int32) → r = (1 : Int32)) (hrz : ¬ (pv < (0 : Int32)) → pv = (0 : Int32) → r = (1 : Int32)) (hrp : ¬ (pv < (0 : Int32)) → ¬ (pv = (0 : Int32)) → r = (0 : Int32)) :
    own_Met l Z (⟨"com/example/polyphony/polyphony/policy/Operator", "holds", "(I)Z"⟩ : MethodName) prog_48_method_6_code 3 (some .boolean) ws ({ frames := 0, cells := 0, slots := 0, locals := 0 } : Room) #[(.ref a), (.int pv)] h0 (fun v h L => v = some (.int r) ∧ Fr n0 L ∧ h = h0) := by
  refine own_body (plainFor_of_name own_pn_com_example_polyphony_polyphony_policy_Operator) (fun p e s m below meth c s₁ hx hby hml0 hrt hlk hown0 hnm hZ X0 e0 => ?_)
  have N0 := Fr.nil n0
  have hown : s.vm.findClass "com/example/polyphony/polyphony/policy/Operator" = some m.cls := hown0
  have hml : c.maxLocals = 3 := hml0
  refine own_castG (own_ef2 m a pv) ?_
  show own_Goes _ _ _ _ s₁ (mkF m 0 #[.val (.ref a), .val (.int pv), .unset] [])
  refine own_step (fun t k => XS.iloadN X0.here hx rfl (hb hby own_prog_48_method_6_0) rfl k) ?_
  show own_Goes _ _ _ _ s₁ (mkF m 1 #[.val (.ref a), .val (.int pv), .unset] [(.int pv)])
  by_cases hc1_1 : pv < (0 : Int32)
  · refine own_step (fun t k => XS.ifNo X0.here hx rfl (hb hby own_prog_48_method_6_1) rfl ((if0 _ _).trans (tlt (show pv < (0 : Int32) from hc1_1)).2.1) k) ?_
    show own_Goes _ _ _ _ s₁ (mkF m 4 #[.val (.ref a), .val (.int pv), .unset] [])
    refine own_step (fun t k => XS.aloadN X0.here hx rfl (hb hby own_prog_48_method_6_4) rfl rfl k) ?_
    show own_Goes _ _ _ _ s₁ (mkF m 5 #[.val (.ref a), .val (.int pv), .unset] [(.ref a)])
    obtain ⟨T2, X2, e2, st2⟩ := getF X0 hx hZ hown (host := "") (Or.inl (hw _ (List.mem_of_getElem? (i := 83) rfl))) Via.refl e0 F_a_whenBefore (g := (mkF m 5 #[.val (.ref a), .val (.int pv), .unset] [(.ref a)])) rfl rfl (hb hby own_prog_48_method_6_5)
    refine own_step st2 ?_
    show own_Goes _ _ _ _ T2 (mkF m 8 #[.val (.ref a), .val (.int pv), .unset] [(.int (1 : Int32))])
    refine own_step (fun t k => XS.istoreN X2.here hx rfl (hb hby own_prog_48_method_6_8) rfl (l' := #[.val (.ref a), .val (.int pv), .val (.int (1 : Int32))]) rfl k) ?_
    show own_Goes _ _ _ _ T2 (mkF m 9 #[.val (.ref a), .val (.int pv), .val (.int (1 : Int32))] [])
    refine own_step (fun t k => XS.goto X2.here hx rfl (pc0 := 9) (pc' := 29) rfl (hb hby own_prog_48_method_6_9) (by decide) (by decide) k) ?_
    show own_Goes _ _ _ _ T2 (mkF m 29 #[.val (.ref a), .val (.int pv), .val (.int (1 : Int32))] [])
    refine own_step (fun t k => XS.iloadN X2.here hx rfl (hb hby own_prog_48_method_6_29) rfl k) ?_
    show own_Goes _ _ _ _ T2 (mkF m 30 #[.val (.ref a), .val (.int pv), .val (.int (1 : Int32))] [(.int (1 : Int32))])
    exact own_retN X2 hx hlk (t := .boolean) hrt (by simp) (hb hby own_prog_48_method_6_30) ⟨congrArg (fun z => some (Value.int z)) (hrn hc1_1).symm, N0, e2⟩ (by decide) (by decide)
  · refine own_step (fun t k => XS.ifYes X0.here hx rfl (pc0 := 1) (pc' := 12) rfl (hb hby own_prog_48_method_6_1) rfl ((if0 _ _).trans (flt (show ¬ (pv < (0 : Int32)) from hc1_1)).2.1) (by decide) (by decide) k) ?_
    show own_Goes _ _ _ _ s₁ (mkF m 12 #[.val (.ref a), .val (.int pv), .unset] [])
    refine own_step (fun t k => XS.iloadN X0.here hx rfl (hb hby own_prog_48_method_6_12) rfl k) ?_
    show own_Goes _ _ _ _ s₁ (mkF m 13 #[.val (.ref a), .val (.int pv), .unset] [(.int pv)])
    by_cases hc13_3 : pv = (0 : Int32)
    · refine own_step (fun t k => XS.ifNo X0.here hx rfl (hb hby own_prog_48_method_6_13) rfl ((if0 _ _).trans (teq (show pv = (0 : Int32) from hc13_3)).2) k) ?_
      show own_Goes _ _ _ _ s₁ (mkF m 16 #[.val (.ref a), .val (.int pv), .unset] [])
      refine own_step (fun t k => XS.aloadN X0.here hx rfl (hb hby own_prog_48_method_6_16) rfl rfl k) ?_
      show own_Goes _ _ _ _ s₁ (mkF m 17 #[.val (.ref a), .val (.int pv), .unset] [(.ref a)])
      obtain ⟨T4, X4, e4, st4⟩ := getF X0 hx hZ hown (host := "") (Or.inl (hw _ (List.mem_of_getElem? (i := 89) rfl))) Via.refl e0 F_a_whenEqual (g := (mkF m 17 #[.val (.ref a), .val (.int pv), .unset] [(.ref a)])) rfl rfl (hb hby own_prog_48_method_6_17)
      refine own_step st4 ?_
      show own_Goes _ _ _ _ T4 (mkF m 20 #[.val (.ref a), .val (.int pv), .unset] [(.int (1 : Int32))])
      refine own_step (fun t k => XS.istoreN X4.here hx rfl (hb hby own_prog_48_method_6_20) rfl (l' := #[.val (.ref a), .val (.int pv), .val (.int (1 : Int32))]) rfl k) ?_
      show own_Goes _ _ _ _ T4 (mkF m 21 #[.val (.ref a), .val (.int pv), .val (.int (1 : Int32))] [])
      refine own_step (fun t k => XS.goto X4.here hx rfl (pc0 := 21) (pc' := 29) rfl (hb hby own_prog_48_method_6_21) (by decide) (by decide) k) ?_
      show own_Goes _ _ _ _ T4 (mkF m 29 #[.val (.ref a), .val (.int pv), .val (.int (1 : Int32))] [])
      refine own_step (fun t k => XS.iloadN X4.here hx rfl (hb hby own_prog_48_method_6_29) rfl k) ?_
      show own_Goes _ _ _ _ T4 (mkF m 30 #[.val (.ref a), .val (.int pv), .val (.int (1 : Int32))] [(.int (1 : Int32))])
      exact own_retN X4 hx hlk (t := .boolean) hrt (by simp) (hb hby own_prog_48_method_6_30) ⟨congrArg (fun z => some (Value.int z)) (hrz hc1_1 hc13_3).symm, N0, e4⟩ (by decide) (by decide)
    · refine own_step (fun t k => XS.ifYes X0.here hx rfl (pc0 := 13) (pc' := 24) rfl (hb hby own_prog_48_method_6_13) rfl ((if0 _ _).trans (feq (show ¬ (pv = (0 : Int32)) from hc13_3)).2) (by decide) (by decide) k) ?_
      show own_Goes _ _ _ _ s₁ (mkF m 24 #[.val (.ref a), .val (.int pv), .unset] [])
      refine own_step (fun t k => XS.aloadN X0.here hx rfl (hb hby own_prog_48_method_6_24) rfl rfl k) ?_
      show own_Goes _ _ _ _ s₁ (mkF m 25 #[.val (.ref a), .val (.int pv), .unset] [(.ref a)])
      obtain ⟨T5, X5, e5, st5⟩ := getF X0 hx hZ hown (host := "") (Or.inl (hw _ (List.mem_of_getElem? (i := 80) rfl))) Via.refl e0 F_a_whenAfter (g := (mkF m 25 #[.val (.ref a), .val (.int pv), .unset] [(.ref a)])) rfl rfl (hb hby own_prog_48_method_6_25)
      refine own_step st5 ?_
      show own_Goes _ _ _ _ T5 (mkF m 28 #[.val (.ref a), .val (.int pv), .unset] [(.int (0 : Int32))])
      refine own_step (fun t k => XS.istoreN X5.here hx rfl (hb hby own_prog_48_method_6_28) rfl (l' := #[.val (.ref a), .val (.int pv), .val (.int (0 : Int32))]) rfl k) ?_
      show own_Goes _ _ _ _ T5 (mkF m 29 #[.val (.ref a), .val (.int pv), .val (.int (0 : Int32))] [])
      refine own_step (fun t k => XS.iloadN X5.here hx rfl (hb hby own_prog_48_method_6_29) rfl k) ?_
      show own_Goes _ _ _ _ T5 (mkF m 30 #[.val (.ref a), .val (.int pv), .val (.int (0 : Int32))] [(.int (0 : Int32))])
      exact own_retN X5 hx hlk (t := .boolean) hrt (by simp) (hb hby own_prog_48_method_6_30) ⟨congrArg (fun z => some (Value.int z)) (hrp hc1_1 hc13_3).symm, N0, e5⟩ (by decide) (by decide)
set_option maxRecDepth 65536 in
set_option maxHeartbeats 40000000 in
theorem own_holds_GREATER (l : Launch) (Z : State) (a0 : Array Value) (hw : ∀ d ∈ tables_1, d.before a0 Z = true) (ws : List Jvm.Cond) (a : Addr) (pv : Int32) (r : Int32) (h0 : Heap) (n0 : Nat) (Z0 : n0 ≤ h0.size) (F_a_whenBefore : Fld Z h0 a "com/example/polyphony/polyphony/policy/Operator" "whenBefore" "Z" (.int (0 : Int32))) (F_a_whenEqual : Fld Z h0 a "com/example/polyphony/polyphony/policy/Operator" "whenEqual" "Z" (.int (0 : Int32))) (F_a_whenAfter : Fld Z h0 a "com/example/polyphony/polyphony/policy/Operator" "whenAfter" "Z" (.int (1 : Int32))) (hrn : pv < (0 : Int32) → r = (0 : Int32)) (hrz : ¬ (pv < (0 : Int32)) → pv = (0 : Int32) → r = (0 : Int32)) (hrp : ¬ (pv < (0 : Int32)) → ¬ (pv = (0 : Int32)) → r = (1 : Int32)) :
    own_Met l Z (⟨"com/example/polyphony/polyphony/policy/Operator", "holds", "(I)Z"⟩ : MethodName) prog_48_method_6_code 3 (some .boolean) ws ({ frames := 0, cells := 0, slots := 0, locals := 0 } : Room) #[(.ref a), (.int pv)] h0 (fun v h L => v = some (.int r) ∧ Fr n0 L ∧ h = h0) := by
  refine own_body (plainFor_of_name own_pn_com_example_polyphony_polyphony_policy_Operator) (fun p e s m below meth c s₁ hx hby hml0 hrt hlk hown0 hnm hZ X0 e0 => ?_)
  have N0 := Fr.nil n0
  have hown : s.vm.findClass "com/example/polyphony/polyphony/policy/Operator" = some m.cls := hown0
  have hml : c.maxLocals = 3 := hml0
  refine own_castG (own_ef2 m a pv) ?_
  show own_Goes _ _ _ _ s₁ (mkF m 0 #[.val (.ref a), .val (.int pv), .unset] [])
  refine own_step (fun t k => XS.iloadN X0.here hx rfl (hb hby own_prog_48_method_6_0) rfl k) ?_
  show own_Goes _ _ _ _ s₁ (mkF m 1 #[.val (.ref a), .val (.int pv), .unset] [(.int pv)])
  by_cases hc1_1 : pv < (0 : Int32)
  · refine own_step (fun t k => XS.ifNo X0.here hx rfl (hb hby own_prog_48_method_6_1) rfl ((if0 _ _).trans (tlt (show pv < (0 : Int32) from hc1_1)).2.1) k) ?_
    show own_Goes _ _ _ _ s₁ (mkF m 4 #[.val (.ref a), .val (.int pv), .unset] [])
    refine own_step (fun t k => XS.aloadN X0.here hx rfl (hb hby own_prog_48_method_6_4) rfl rfl k) ?_
    show own_Goes _ _ _ _ s₁ (mkF m 5 #[.val (.ref a), .val (.int pv), .unset] [(.ref a)])
    obtain ⟨T2, X2, e2, st2⟩ := getF X0 hx hZ hown (host := "") (Or.inl (hw _ (List.mem_of_getElem? (i := 83) rfl))) Via.refl e0 F_a_whenBefore (g := (mkF m 5 #[.val (.ref a), .val (.int pv), .unset] [(.ref a)])) rfl rfl (hb hby own_prog_48_method_6_5)
    refine own_step st2 ?_
    show own_Goes _ _ _ _ T2 (mkF m 8 #[.val (.ref a), .val (.int pv), .unset] [(.int (0 : Int32))])
    refine own_step (fun t k => XS.istoreN X2.here hx rfl (hb hby own_prog_48_method_6_8) rfl (l' := #[.val (.ref a), .val (.int pv), .val (.int (0 : Int32))]) rfl k) ?_
    show own_Goes _ _ _ _ T2 (mkF m 9 #[.val (.ref a), .val (.int pv), .val (.int (0 : Int32))] [])
    refine own_step (fun t k => XS.goto X2.here hx rfl (pc0 := 9) (pc' := 29) rfl (hb hby own_prog_48_method_6_9) (by decide) (by decide) k) ?_
    show own_Goes _ _ _ _ T2 (mkF m 29 #[.val (.ref a), .val (.int pv), .val (.int (0 : Int32))] [])
    refine own_step (fun t k => XS.iloadN X2.here hx rfl (hb hby own_prog_48_method_6_29) rfl k) ?_
    show own_Goes _ _ _ _ T2 (mkF m 30 #[.val (.ref a), .val (.int pv), .val (.int (0 : Int32))] [(.int (0 : Int32))])
    exact own_retN X2 hx hlk (t := .boolean) hrt (by simp) (hb hby own_prog_48_method_6_30) ⟨congrArg (fun z => some (Value.int z)) (hrn hc1_1).symm, N0, e2⟩ (by decide) (by decide)
  · refine own_step (fun t k => XS.ifYes X0.here hx rfl (pc0 := 1) (pc' := 12) rfl (hb hby own_prog_48_method_6_1) rfl ((if0 _ _).trans (flt (show ¬ (pv < (0 : Int32)) from hc1_1)).2.1) (by decide) (by decide) k) ?_
    show own_Goes _ _ _ _ s₁ (mkF m 12 #[.val (.ref a), .val (.int pv), .unset] [])
    refine own_step (fun t k => XS.iloadN X0.here hx rfl (hb hby own_prog_48_method_6_12) rfl k) ?_
    show own_Goes _ _ _ _ s₁ (mkF m 13 #[.val (.ref a), .val (.int pv), .unset] [(.int pv)])
    by_cases hc13_3 : pv = (0 : Int32)
    · refine own_step (fun t k => XS.ifNo X0.here hx rfl (hb hby own_prog_48_method_6_13) rfl ((if0 _ _).trans (teq (show pv = (0 : Int32) from hc13_3)).2) k) ?_
      show own_Goes _ _ _ _ s₁ (mkF m 16 #[.val (.ref a), .val (.int pv), .unset] [])
      refine own_step (fun t k => XS.aloadN X0.here hx rfl (hb hby own_prog_48_method_6_16) rfl rfl k) ?_
      show own_Goes _ _ _ _ s₁ (mkF m 17 #[.val (.ref a), .val (.int pv), .unset] [(.ref a)])
      obtain ⟨T4, X4, e4, st4⟩ := getF X0 hx hZ hown (host := "") (Or.inl (hw _ (List.mem_of_getElem? (i := 89) rfl))) Via.refl e0 F_a_whenEqual (g := (mkF m 17 #[.val (.ref a), .val (.int pv), .unset] [(.ref a)])) rfl rfl (hb hby own_prog_48_method_6_17)
      refine own_step st4 ?_
      show own_Goes _ _ _ _ T4 (mkF m 20 #[.val (.ref a), .val (.int pv), .unset] [(.int (0 : Int32))])
      refine own_step (fun t k => XS.istoreN X4.here hx rfl (hb hby own_prog_48_method_6_20) rfl (l' := #[.val (.ref a), .val (.int pv), .val (.int (0 : Int32))]) rfl k) ?_
      show own_Goes _ _ _ _ T4 (mkF m 21 #[.val (.ref a), .val (.int pv), .val (.int (0 : Int32))] [])
      refine own_step (fun t k => XS.goto X4.here hx rfl (pc0 := 21) (pc' := 29) rfl (hb hby own_prog_48_method_6_21) (by decide) (by decide) k) ?_
      show own_Goes _ _ _ _ T4 (mkF m 29 #[.val (.ref a), .val (.int pv), .val (.int (0 : Int32))] [])
      refine own_step (fun t k => XS.iloadN X4.here hx rfl (hb hby own_prog_48_method_6_29) rfl k) ?_
      show own_Goes _ _ _ _ T4 (mkF m 30 #[.val (.ref a), .val (.int pv), .val (.int (0 : Int32))] [(.int (0 : Int32))])
      exact own_retN X4 hx hlk (t := .boolean) hrt (by simp) (hb hby own_prog_48_method_6_30) ⟨congrArg (fun z => some (Value.int z)) (hrz hc1_1 hc13_3).symm, N0, e4⟩ (by decide) (by decide)
    · refine own_step (fun t k => XS.ifYes X0.here hx rfl (pc0 := 13) (pc' := 24) rfl (hb hby own_prog_48_method_6_13) rfl ((if0 _ _).trans (feq (show ¬ (pv = (0 : Int32)) from hc13_3)).2) (by decide) (by decide) k) ?_
      show own_Goes _ _ _ _ s₁ (mkF m 24 #[.val (.ref a), .val (.int pv), .unset] [])
      refine own_step (fun t k => XS.aloadN X0.here hx rfl (hb hby own_prog_48_method_6_24) rfl rfl k) ?_
      show own_Goes _ _ _ _ s₁ (mkF m 25 #[.val (.ref a), .val (.int pv), .unset] [(.ref a)])
      obtain ⟨T5, X5, e5, st5⟩ := getF X0 hx hZ hown (host := "") (Or.inl (hw _ (List.mem_of_getElem? (i := 80) rfl))) Via.refl e0 F_a_whenAfter (g := (mkF m 25 #[.val (.ref a), .val (.int pv), .unset] [(.ref a)])) rfl rfl (hb hby own_prog_48_method_6_25)
      refine own_step st5 ?_
      show own_Goes _ _ _ _ T5 (mkF m 28 #[.val (.ref a), .val (.int pv), .unset] [(.int (1 : Int32))])
      refine own_step (fun t k => XS.istoreN X5.here hx rfl (hb hby own_prog_48_method_6_28) rfl (l' := #[.val (.ref a), .val (.int pv), .val (.int (1 : Int32))]) rfl k) ?_
      show own_Goes _ _ _ _ T5 (mkF m 29 #[.val (.ref a), .val (.int pv), .val (.int (1 : Int32))] [])
      refine own_step (fun t k => XS.iloadN X5.here hx rfl (hb hby own_prog_48_method_6_29) rfl k) ?_
      show own_Goes _ _ _ _ T5 (mkF m 30 #[.val (.ref a), .val (.int pv), .val (.int (1 : Int32))] [(.int (1 : Int32))])
      exact own_retN X5 hx hlk (t := .boolean) hrt (by simp) (hb hby own_prog_48_method_6_30) ⟨congrArg (fun z => some (Value.int z)) (hrp hc1_1 hc13_3).symm, N0, e5⟩ (by decide) (by decide)
set_option maxRecDepth 65536 in
set_option maxHeartbeats 40000000 in
theorem own_holds_GREATER_OR_EQUAL (l : Launch) (Z : State) (a0 : Array Value) (hw : ∀ d ∈ tables_1, d.before a0 Z = true) (ws : List Jvm.Cond) (a : Addr) (pv : Int32) (r : Int32) (h0 : Heap) (n0 : Nat) (Z0 : n0 ≤ h0.size) (F_a_whenBefore : Fld Z h0 a "com/example/polyphony/polyphony/policy/Operator" "whenBefore" "Z" (.int (0 : Int32))) (F_a_whenEqual : Fld Z h0 a "com/example/polyphony/polyphony/policy/Operator" "whenEqual" "Z" (.int (1 : Int32))) (F_a_whenAfter : Fld Z h0 a "com/example/polyphony/polyphony/policy/Operator" "whenAfter" "Z" (.int (1 : Int32))) (hrn : pv < (0 : Int32) → r = (0 : Int32)) (hrz : ¬ (pv < (0 : Int32)) → pv = (0 : Int32) → r = (1 : Int32)) (hrp : ¬ (pv < (0 : Int32)) → ¬ (pv = (0 : Int32)) → r = (1 : Int32)) :
    own_Met l Z (⟨"com/example/polyphony/polyphony/policy/Operator", "holds", "(I)Z"⟩ : MethodName) prog_48_method_6_code 3 (some .boolean) ws ({ frames := 0, cells := 0, slots := 0, locals := 0 } : Room) #[(.ref a), (.int pv)] h0 (fun v h L => v = some (.int r) ∧ Fr n0 L ∧ h = h0) := by
  refine own_body (plainFor_of_name own_pn_com_example_polyphony_polyphony_policy_Operator) (fun p e s m below meth c s₁ hx hby hml0 hrt hlk hown0 hnm hZ X0 e0 => ?_)
  have N0 := Fr.nil n0
  have hown : s.vm.findClass "com/example/polyphony/polyphony/policy/Operator" = some m.cls := hown0
  have hml : c.maxLocals = 3 := hml0
  refine own_castG (own_ef2 m a pv) ?_
  show own_Goes _ _ _ _ s₁ (mkF m 0 #[.val (.ref a), .val (.int pv), .unset] [])
  refine own_step (fun t k => XS.iloadN X0.here hx rfl (hb hby own_prog_48_method_6_0) rfl k) ?_
  show own_Goes _ _ _ _ s₁ (mkF m 1 #[.val (.ref a), .val (.int pv), .unset] [(.int pv)])
  by_cases hc1_1 : pv < (0 : Int32)
  · refine own_step (fun t k => XS.ifNo X0.here hx rfl (hb hby own_prog_48_method_6_1) rfl ((if0 _ _).trans (tlt (show pv < (0 : Int32) from hc1_1)).2.1) k) ?_
    show own_Goes _ _ _ _ s₁ (mkF m 4 #[.val (.ref a), .val (.int pv), .unset] [])
    refine own_step (fun t k => XS.aloadN X0.here hx rfl (hb hby own_prog_48_method_6_4) rfl rfl k) ?_
    show own_Goes _ _ _ _ s₁ (mkF m 5 #[.val (.ref a), .val (.int pv), .unset] [(.ref a)])
    obtain ⟨T2, X2, e2, st2⟩ := getF X0 hx hZ hown (host := "") (Or.inl (hw _ (List.mem_of_getElem? (i := 83) rfl))) Via.refl e0 F_a_whenBefore (g := (mkF m 5 #[.val (.ref a), .val (.int pv), .unset] [(.ref a)])) rfl rfl (hb hby own_prog_48_method_6_5)
    refine own_step st2 ?_
    show own_Goes _ _ _ _ T2 (mkF m 8 #[.val (.ref a), .val (.int pv), .unset] [(.int (0 : Int32))])
    refine own_step (fun t k => XS.istoreN X2.here hx rfl (hb hby own_prog_48_method_6_8) rfl (l' := #[.val (.ref a), .val (.int pv), .val (.int (0 : Int32))]) rfl k) ?_
    show own_Goes _ _ _ _ T2 (mkF m 9 #[.val (.ref a), .val (.int pv), .val (.int (0 : Int32))] [])
    refine own_step (fun t k => XS.goto X2.here hx rfl (pc0 := 9) (pc' := 29) rfl (hb hby own_prog_48_method_6_9) (by decide) (by decide) k) ?_
    show own_Goes _ _ _ _ T2 (mkF m 29 #[.val (.ref a), .val (.int pv), .val (.int (0 : Int32))] [])
    refine own_step (fun t k => XS.iloadN X2.here hx rfl (hb hby own_prog_48_method_6_29) rfl k) ?_
    show own_Goes _ _ _ _ T2 (mkF m 30 #[.val (.ref a), .val (.int pv), .val (.int (0 : Int32))] [(.int (0 : Int32))])
    exact own_retN X2 hx hlk (t := .boolean) hrt (by simp) (hb hby own_prog_48_method_6_30) ⟨congrArg (fun z => some (Value.int z)) (hrn hc1_1).symm, N0, e2⟩ (by decide) (by decide)
  · refine own_step (fun t k => XS.ifYes X0.here hx rfl (pc0 := 1) (pc' := 12) rfl (hb hby own_prog_48_method_6_1) rfl ((if0 _ _).trans (flt (show ¬ (pv < (0 : Int32)) from hc1_1)).2.1) (by decide) (by decide) k) ?_
    show own_Goes _ _ _ _ s₁ (mkF m 12 #[.val (.ref a), .val (.int pv), .unset] [])
    refine own_step (fun t k => XS.iloadN X0.here hx rfl (hb hby own_prog_48_method_6_12) rfl k) ?_
    show own_Goes _ _ _ _ s₁ (mkF m 13 #[.val (.ref a), .val (.int pv), .unset] [(.int pv)])
    by_cases hc13_3 : pv = (0 : Int32)
    · refine own_step (fun t k => XS.ifNo X0.here hx rfl (hb hby own_prog_48_method_6_13) rfl ((if0 _ _).trans (teq (show pv = (0 : Int32) from hc13_3)).2) k) ?_
      show own_Goes _ _ _ _ s₁ (mkF m 16 #[.val (.ref a), .val (.int pv), .unset] [])
      refine own_step (fun t k => XS.aloadN X0.here hx rfl (hb hby own_prog_48_method_6_16) rfl rfl k) ?_
      show own_Goes _ _ _ _ s₁ (mkF m 17 #[.val (.ref a), .val (.int pv), .unset] [(.ref a)])
      obtain ⟨T4, X4, e4, st4⟩ := getF X0 hx hZ hown (host := "") (Or.inl (hw _ (List.mem_of_getElem? (i := 89) rfl))) Via.refl e0 F_a_whenEqual (g := (mkF m 17 #[.val (.ref a), .val (.int pv), .unset] [(.ref a)])) rfl rfl (hb hby own_prog_48_method_6_17)
      refine own_step st4 ?_
      show own_Goes _ _ _ _ T4 (mkF m 20 #[.val (.ref a), .val (.int pv), .unset] [(.int (1 : Int32))])
      refine own_step (fun t k => XS.istoreN X4.here hx rfl (hb hby own_prog_48_method_6_20) rfl (l' := #[.val (.ref a), .val (.int pv), .val (.int (1 : Int32))]) rfl k) ?_
      show own_Goes _ _ _ _ T4 (mkF m 21 #[.val (.ref a), .val (.int pv), .val (.int (1 : Int32))] [])
      refine own_step (fun t k => XS.goto X4.here hx rfl (pc0 := 21) (pc' := 29) rfl (hb hby own_prog_48_method_6_21) (by decide) (by decide) k) ?_
      show own_Goes _ _ _ _ T4 (mkF m 29 #[.val (.ref a), .val (.int pv), .val (.int (1 : Int32))] [])
      refine own_step (fun t k => XS.iloadN X4.here hx rfl (hb hby own_prog_48_method_6_29) rfl k) ?_
      show own_Goes _ _ _ _ T4 (mkF m 30 #[.val (.ref a), .val (.int pv), .val (.int (1 : Int32))] [(.int (1 : Int32))])
      exact own_retN X4 hx hlk (t := .boolean) hrt (by simp) (hb hby own_prog_48_method_6_30) ⟨congrArg (fun z => some (Value.int z)) (hrz hc1_1 hc13_3).symm, N0, e4⟩ (by decide) (by decide)
    · refine own_step (fun t k => XS.ifYes X0.here hx rfl (pc0 := 13) (pc' := 24) rfl (hb hby own_prog_48_method_6_13) rfl ((if0 _ _).trans (feq (show ¬ (pv = (0 : Int32)) from hc13_3)).2) (by decide) (by decide) k) ?_
      show own_Goes _ _ _ _ s₁ (mkF m 24 #[.val (.ref a), .val (.int pv), .unset] [])
      refine own_step (fun t k => XS.aloadN X0.here hx rfl (hb hby own_prog_48_method_6_24) rfl rfl k) ?_
      show own_Goes _ _ _ _ s₁ (mkF m 25 #[.val (.ref a), .val (.int pv), .unset] [(.ref a)])
      obtain ⟨T5, X5, e5, st5⟩ := getF X0 hx hZ hown (host := "") (Or.inl (hw _ (List.mem_of_getElem? (i := 80) rfl))) Via.refl e0 F_a_whenAfter (g := (mkF m 25 #[.val (.ref a), .val (.int pv), .unset] [(.ref a)])) rfl rfl (hb hby own_prog_48_method_6_25)
      refine own_step st5 ?_
      show own_Goes _ _ _ _ T5 (mkF m 28 #[.val (.ref a), .val (.int pv), .unset] [(.int (1 : Int32))])
      refine own_step (fun t k => XS.istoreN X5.here hx rfl (hb hby own_prog_48_method_6_28) rfl (l' := #[.val (.ref a), .val (.int pv), .val (.int (1 : Int32))]) rfl k) ?_
      show own_Goes _ _ _ _ T5 (mkF m 29 #[.val (.ref a), .val (.int pv), .val (.int (1 : Int32))] [])
      refine own_step (fun t k => XS.iloadN X5.here hx rfl (hb hby own_prog_48_method_6_29) rfl k) ?_
      show own_Goes _ _ _ _ T5 (mkF m 30 #[.val (.ref a), .val (.int pv), .val (.int (1 : Int32))] [(.int (1 : Int32))])
      exact own_retN X5 hx hlk (t := .boolean) hrt (by simp) (hb hby own_prog_48_method_6_30) ⟨congrArg (fun z => some (Value.int z)) (hrp hc1_1 hc13_3).symm, N0, e5⟩ (by decide) (by decide)
theorem own_pn_java_lang_StringLatin1 : plainName "java/lang/StringLatin1" = true := by first | (simp [plainName, overriddenIn]; done) | decide +kernel
theorem own_ef3 (m : MethodId) (x0 : Addr) (x1 : Addr) : entryFrame m #[(.ref x0), (.ref x1)] 3 = mkF m 0 #[.val (.ref x0), .val (.ref x1), .unset] [] := by first | (simp [entryFrame, mkF, argsToLocals, Value.category]; done) | rfl
theorem own_jdk_43_method_13_0 : decode jdk_43_method_13_code 0 = .ok (.aload_n 0, 1) := by decide +kernel
theorem own_jdk_43_method_13_1 : decode jdk_43_method_13_code 1 = .ok (.arraylength, 1) := by decide +kernel
theorem own_jdk_43_method_13_2 : decode jdk_43_method_13_code 2 = .ok (.aload_n 1, 1) := by decide +kernel
theorem own_jdk_43_method_13_3 : decode jdk_43_method_13_code 3 = .ok (.arraylength, 1) := by decide +kernel
theorem own_jdk_43_method_13_4 : decode jdk_43_method_13_code 4 = .ok (.if_icmp .ne 30, 3) := by decide +kernel
theorem own_jdk_43_method_13_7 : decode jdk_43_method_13_code 7 = .ok (.iconst 0, 1) := by decide +kernel
theorem own_jdk_43_method_13_8 : decode jdk_43_method_13_code 8 = .ok (.istore_n 2, 1) := by decide +kernel
theorem own_jdk_43_method_13_9 : decode jdk_43_method_13_code 9 = .ok (.iload_n 2, 1) := by decide +kernel
theorem own_jdk_43_method_13_10 : decode jdk_43_method_13_code 10 = .ok (.aload_n 0, 1) := by decide +kernel
theorem own_jdk_43_method_13_11 : decode jdk_43_method_13_code 11 = .ok (.arraylength, 1) := by decide +kernel
theorem own_jdk_43_method_13_12 : decode jdk_43_method_13_code 12 = .ok (.if_icmp .ge 20, 3) := by decide +kernel
theorem own_jdk_43_method_13_15 : decode jdk_43_method_13_code 15 = .ok (.aload_n 0, 1) := by decide +kernel
theorem own_jdk_43_method_13_16 : decode jdk_43_method_13_code 16 = .ok (.iload_n 2, 1) := by decide +kernel
theorem own_jdk_43_method_13_17 : decode jdk_43_method_13_code 17 = .ok (.baload, 1) := by decide +kernel
theorem own_jdk_43_method_13_18 : decode jdk_43_method_13_code 18 = .ok (.aload_n 1, 1) := by decide +kernel
theorem own_jdk_43_method_13_19 : decode jdk_43_method_13_code 19 = .ok (.iload_n 2, 1) := by decide +kernel
theorem own_jdk_43_method_13_20 : decode jdk_43_method_13_code 20 = .ok (.baload, 1) := by decide +kernel
theorem own_jdk_43_method_13_21 : decode jdk_43_method_13_code 21 = .ok (.if_icmp .eq 5, 3) := by decide +kernel
theorem own_jdk_43_method_13_26 : decode jdk_43_method_13_code 26 = .ok (.iinc 2 1, 3) := by decide +kernel
theorem own_jdk_43_method_13_29 : decode jdk_43_method_13_code 29 = .ok (.goto (-20), 3) := by decide +kernel
theorem own_jdk_43_method_13_32 : decode jdk_43_method_13_code 32 = .ok (.iconst 1, 1) := by decide +kernel
theorem own_jdk_43_method_13_33 : decode jdk_43_method_13_code 33 = .ok (.ireturn, 1) := by decide +kernel
set_option maxRecDepth 65536 in
set_option maxHeartbeats 40000000 in
theorem own_leq_22eq (l : Launch) (Z : State) (a0 : Array Value) (hw : ∀ d ∈ tables_1, d.before a0 Z = true) (ws : List Jvm.Cond) (va : Addr) (vb : Addr) (ka : ClassId) (kb : ClassId) (x0 : Int32) (x1 : Int32) (y0 : Int32) (y1 : Int32) (h0 : Heap) (n0 : Nat) (Z0 : n0 ≤ h0.size) (V_va : Arv Z h0 va ka .byte (2 : Int32) [(.int x0), (.int x1)] (.int (0 : Int32))) (V_vb : Arv Z h0 vb kb .byte (2 : Int32) [(.int y0), (.int y1)] (.int (0 : Int32))) (hq0 : x0 = y0) (hq1 : x1 = y1) :
    own_Met l Z (⟨"java/lang/StringLatin1", "equals", "([B[B)Z"⟩ : MethodName) jdk_43_method_13_code 3 (some .boolean) ws ({ frames := 0, cells := 0, slots := 0, locals := 0 } : Room) #[(.ref va), (.ref vb)] h0 (fun v h L => v = some (.int (1 : Int32)) ∧ Fr n0 L ∧ h = h0) := by
  refine own_body (plainFor_of_name own_pn_java_lang_StringLatin1) (fun p e s m below meth c s₁ hx hby hml0 hrt hlk hown0 hnm hZ X0 e0 => ?_)
  have N0 := Fr.nil n0
  have hown : s.vm.findClass "java/lang/StringLatin1" = some m.cls := hown0
  have hml : c.maxLocals = 3 := hml0
  refine own_castG (own_ef3 m va vb) ?_
  show own_Goes _ _ _ _ s₁ (mkF m 0 #[.val (.ref va), .val (.ref vb), .unset] [])
  refine own_step (fun t k => XS.aloadN X0.here hx rfl (hb hby own_jdk_43_method_13_0) rfl rfl k) ?_
  show own_Goes _ _ _ _ s₁ (mkF m 1 #[.val (.ref va), .val (.ref vb), .unset] [(.ref va)])
  refine own_step (own_alen X0 hx hZ e0 V_va (g := (mkF m 1 #[.val (.ref va), .val (.ref vb), .unset] [(.ref va)])) rfl rfl (hb hby own_jdk_43_method_13_1)) ?_
  show own_Goes _ _ _ _ s₁ (mkF m 2 #[.val (.ref va), .val (.ref vb), .unset] [(.int (2 : Int32))])
  refine own_step (fun t k => XS.aloadN X0.here hx rfl (hb hby own_jdk_43_method_13_2) rfl rfl k) ?_
  show own_Goes _ _ _ _ s₁ (mkF m 3 #[.val (.ref va), .val (.ref vb), .unset] [(.ref vb), (.int (2 : Int32))])
  refine own_step (own_alen X0 hx hZ e0 V_vb (g := (mkF m 3 #[.val (.ref va), .val (.ref vb), .unset] [(.ref vb), (.int (2 : Int32))])) rfl rfl (hb hby own_jdk_43_method_13_3)) ?_
  show own_Goes _ _ _ _ s₁ (mkF m 4 #[.val (.ref va), .val (.ref vb), .unset] [(.int (2 : Int32)), (.int (2 : Int32))])
  refine own_step (fun t k => XS.icmpNo X0.here hx rfl (hb hby own_jdk_43_method_13_4) rfl (teq (show (2 : Int32) = (2 : Int32) from (by decide))).2 k) ?_
  show own_Goes _ _ _ _ s₁ (mkF m 7 #[.val (.ref va), .val (.ref vb), .unset] [])
  refine own_step (fun t k => XS.iconst X0.here hx rfl (hb hby own_jdk_43_method_13_7) k) ?_
  show own_Goes _ _ _ _ s₁ (mkF m 8 #[.val (.ref va), .val (.ref vb), .unset] [(.int (0 : Int32))])
  refine own_step (fun t k => XS.istoreN X0.here hx rfl (hb hby own_jdk_43_method_13_8) rfl (l' := #[.val (.ref va), .val (.ref vb), .val (.int (0 : Int32))]) rfl k) ?_
  show own_Goes _ _ _ _ s₁ (mkF m 9 #[.val (.ref va), .val (.ref vb), .val (.int (0 : Int32))] [])
  refine own_step (fun t k => XS.iloadN X0.here hx rfl (hb hby own_jdk_43_method_13_9) rfl k) ?_
  show own_Goes _ _ _ _ s₁ (mkF m 10 #[.val (.ref va), .val (.ref vb), .val (.int (0 : Int32))] [(.int (0 : Int32))])
  refine own_step (fun t k => XS.aloadN X0.here hx rfl (hb hby own_jdk_43_method_13_10) rfl rfl k) ?_
  show own_Goes _ _ _ _ s₁ (mkF m 11 #[.val (.ref va), .val (.ref vb), .val (.int (0 : Int32))] [(.ref va), (.int (0 : Int32))])
  refine own_step (own_alen X0 hx hZ e0 V_va (g := (mkF m 11 #[.val (.ref va), .val (.ref vb), .val (.int (0 : Int32))] [(.ref va), (.int (0 : Int32))])) rfl rfl (hb hby own_jdk_43_method_13_11)) ?_
  show own_Goes _ _ _ _ s₁ (mkF m 12 #[.val (.ref va), .val (.ref vb), .val (.int (0 : Int32))] [(.int (2 : Int32)), (.int (0 : Int32))])
  refine own_step (fun t k => XS.icmpNo X0.here hx rfl (hb hby own_jdk_43_method_13_12) rfl (tlt (show (0 : Int32) < (2 : Int32) from (by decide))).2.1 k) ?_
  show own_Goes _ _ _ _ s₁ (mkF m 15 #[.val (.ref va), .val (.ref vb), .val (.int (0 : Int32))] [])
  refine own_step (fun t k => XS.aloadN X0.here hx rfl (hb hby own_jdk_43_method_13_15) rfl rfl k) ?_
  show own_Goes _ _ _ _ s₁ (mkF m 16 #[.val (.ref va), .val (.ref vb), .val (.int (0 : Int32))] [(.ref va)])
  refine own_step (fun t k => XS.iloadN X0.here hx rfl (hb hby own_jdk_43_method_13_16) rfl k) ?_
  show own_Goes _ _ _ _ s₁ (mkF m 17 #[.val (.ref va), .val (.ref vb), .val (.int (0 : Int32))] [(.int (0 : Int32)), (.ref va)])
  refine own_step (own_baload X0 hx hZ e0 V_va (.int x0) ⟨by decide, by decide⟩ rfl (g := (mkF m 17 #[.val (.ref va), .val (.ref vb), .val (.int (0 : Int32))] [(.int (0 : Int32)), (.ref va)])) rfl rfl (hb hby own_jdk_43_method_13_17)) ?_
  show own_Goes _ _ _ _ s₁ (mkF m 18 #[.val (.ref va), .val (.ref vb), .val (.int (0 : Int32))] [(.int x0)])
  refine own_step (fun t k => XS.aloadN X0.here hx rfl (hb hby own_jdk_43_method_13_18) rfl rfl k) ?_
  show own_Goes _ _ _ _ s₁ (mkF m 19 #[.val (.ref va), .val (.ref vb), .val (.int (0 : Int32))] [(.ref vb), (.int x0)])
  refine own_step (fun t k => XS.iloadN X0.here hx rfl (hb hby own_jdk_43_method_13_19) rfl k) ?_
  show own_Goes _ _ _ _ s₁ (mkF m 20 #[.val (.ref va), .val (.ref vb), .val (.int (0 : Int32))] [(.int (0 : Int32)), (.ref vb), (.int x0)])
  refine own_step (own_baload X0 hx hZ e0 V_vb (.int y0) ⟨by decide, by decide⟩ rfl (g := (mkF m 20 #[.val (.ref va), .val (.ref vb), .val (.int (0 : Int32))] [(.int (0 : Int32)), (.ref vb), (.int x0)])) rfl rfl (hb hby own_jdk_43_method_13_20)) ?_
  show own_Goes _ _ _ _ s₁ (mkF m 21 #[.val (.ref va), .val (.ref vb), .val (.int (0 : Int32))] [(.int y0), (.int x0)])
  refine own_step (fun t k => XS.icmpYes X0.here hx rfl (pc0 := 21) (pc' := 26) rfl (hb hby own_jdk_43_method_13_21) rfl (teq (show x0 = y0 from hq0)).1 (by decide) (by decide) k) ?_
  show own_Goes _ _ _ _ s₁ (mkF m 26 #[.val (.ref va), .val (.ref vb), .val (.int (0 : Int32))] [])
  refine own_step (fun t k => XS.iinc X0.here hx rfl (hb hby own_jdk_43_method_13_26) rfl (l' := #[.val (.ref va), .val (.ref vb), .val (.int (1 : Int32))]) rfl k) ?_
  show own_Goes _ _ _ _ s₁ (mkF m 29 #[.val (.ref va), .val (.ref vb), .val (.int (1 : Int32))] [])
  refine own_step (fun t k => XS.goto X0.here hx rfl (pc0 := 29) (pc' := 9) rfl (hb hby own_jdk_43_method_13_29) (by decide) (by decide) k) ?_
  show own_Goes _ _ _ _ s₁ (mkF m 9 #[.val (.ref va), .val (.ref vb), .val (.int (1 : Int32))] [])
  refine own_step (fun t k => XS.iloadN X0.here hx rfl (hb hby own_jdk_43_method_13_9) rfl k) ?_
  show own_Goes _ _ _ _ s₁ (mkF m 10 #[.val (.ref va), .val (.ref vb), .val (.int (1 : Int32))] [(.int (1 : Int32))])
  refine own_step (fun t k => XS.aloadN X0.here hx rfl (hb hby own_jdk_43_method_13_10) rfl rfl k) ?_
  show own_Goes _ _ _ _ s₁ (mkF m 11 #[.val (.ref va), .val (.ref vb), .val (.int (1 : Int32))] [(.ref va), (.int (1 : Int32))])
  refine own_step (own_alen X0 hx hZ e0 V_va (g := (mkF m 11 #[.val (.ref va), .val (.ref vb), .val (.int (1 : Int32))] [(.ref va), (.int (1 : Int32))])) rfl rfl (hb hby own_jdk_43_method_13_11)) ?_
  show own_Goes _ _ _ _ s₁ (mkF m 12 #[.val (.ref va), .val (.ref vb), .val (.int (1 : Int32))] [(.int (2 : Int32)), (.int (1 : Int32))])
  refine own_step (fun t k => XS.icmpNo X0.here hx rfl (hb hby own_jdk_43_method_13_12) rfl (tlt (show (1 : Int32) < (2 : Int32) from (by decide))).2.1 k) ?_
  show own_Goes _ _ _ _ s₁ (mkF m 15 #[.val (.ref va), .val (.ref vb), .val (.int (1 : Int32))] [])
  refine own_step (fun t k => XS.aloadN X0.here hx rfl (hb hby own_jdk_43_method_13_15) rfl rfl k) ?_
  show own_Goes _ _ _ _ s₁ (mkF m 16 #[.val (.ref va), .val (.ref vb), .val (.int (1 : Int32))] [(.ref va)])
  refine own_step (fun t k => XS.iloadN X0.here hx rfl (hb hby own_jdk_43_method_13_16) rfl k) ?_
  show own_Goes _ _ _ _ s₁ (mkF m 17 #[.val (.ref va), .val (.ref vb), .val (.int (1 : Int32))] [(.int (1 : Int32)), (.ref va)])
  refine own_step (own_baload X0 hx hZ e0 V_va (.int x1) ⟨by decide, by decide⟩ rfl (g := (mkF m 17 #[.val (.ref va), .val (.ref vb), .val (.int (1 : Int32))] [(.int (1 : Int32)), (.ref va)])) rfl rfl (hb hby own_jdk_43_method_13_17)) ?_
  show own_Goes _ _ _ _ s₁ (mkF m 18 #[.val (.ref va), .val (.ref vb), .val (.int (1 : Int32))] [(.int x1)])
  refine own_step (fun t k => XS.aloadN X0.here hx rfl (hb hby own_jdk_43_method_13_18) rfl rfl k) ?_
  show own_Goes _ _ _ _ s₁ (mkF m 19 #[.val (.ref va), .val (.ref vb), .val (.int (1 : Int32))] [(.ref vb), (.int x1)])
  refine own_step (fun t k => XS.iloadN X0.here hx rfl (hb hby own_jdk_43_method_13_19) rfl k) ?_
  show own_Goes _ _ _ _ s₁ (mkF m 20 #[.val (.ref va), .val (.ref vb), .val (.int (1 : Int32))] [(.int (1 : Int32)), (.ref vb), (.int x1)])
  refine own_step (own_baload X0 hx hZ e0 V_vb (.int y1) ⟨by decide, by decide⟩ rfl (g := (mkF m 20 #[.val (.ref va), .val (.ref vb), .val (.int (1 : Int32))] [(.int (1 : Int32)), (.ref vb), (.int x1)])) rfl rfl (hb hby own_jdk_43_method_13_20)) ?_
  show own_Goes _ _ _ _ s₁ (mkF m 21 #[.val (.ref va), .val (.ref vb), .val (.int (1 : Int32))] [(.int y1), (.int x1)])
  refine own_step (fun t k => XS.icmpYes X0.here hx rfl (pc0 := 21) (pc' := 26) rfl (hb hby own_jdk_43_method_13_21) rfl (teq (show x1 = y1 from hq1)).1 (by decide) (by decide) k) ?_
  show own_Goes _ _ _ _ s₁ (mkF m 26 #[.val (.ref va), .val (.ref vb), .val (.int (1 : Int32))] [])
  refine own_step (fun t k => XS.iinc X0.here hx rfl (hb hby own_jdk_43_method_13_26) rfl (l' := #[.val (.ref va), .val (.ref vb), .val (.int (2 : Int32))]) rfl k) ?_
  show own_Goes _ _ _ _ s₁ (mkF m 29 #[.val (.ref va), .val (.ref vb), .val (.int (2 : Int32))] [])
  refine own_step (fun t k => XS.goto X0.here hx rfl (pc0 := 29) (pc' := 9) rfl (hb hby own_jdk_43_method_13_29) (by decide) (by decide) k) ?_
  show own_Goes _ _ _ _ s₁ (mkF m 9 #[.val (.ref va), .val (.ref vb), .val (.int (2 : Int32))] [])
  refine own_step (fun t k => XS.iloadN X0.here hx rfl (hb hby own_jdk_43_method_13_9) rfl k) ?_
  show own_Goes _ _ _ _ s₁ (mkF m 10 #[.val (.ref va), .val (.ref vb), .val (.int (2 : Int32))] [(.int (2 : Int32))])
  refine own_step (fun t k => XS.aloadN X0.here hx rfl (hb hby own_jdk_43_method_13_10) rfl rfl k) ?_
  show own_Goes _ _ _ _ s₁ (mkF m 11 #[.val (.ref va), .val (.ref vb), .val (.int (2 : Int32))] [(.ref va), (.int (2 : Int32))])
  refine own_step (own_alen X0 hx hZ e0 V_va (g := (mkF m 11 #[.val (.ref va), .val (.ref vb), .val (.int (2 : Int32))] [(.ref va), (.int (2 : Int32))])) rfl rfl (hb hby own_jdk_43_method_13_11)) ?_
  show own_Goes _ _ _ _ s₁ (mkF m 12 #[.val (.ref va), .val (.ref vb), .val (.int (2 : Int32))] [(.int (2 : Int32)), (.int (2 : Int32))])
  refine own_step (fun t k => XS.icmpYes X0.here hx rfl (pc0 := 12) (pc' := 32) rfl (hb hby own_jdk_43_method_13_12) rfl (flt (show ¬ ((2 : Int32) < (2 : Int32)) from (by decide))).2.1 (by decide) (by decide) k) ?_
  show own_Goes _ _ _ _ s₁ (mkF m 32 #[.val (.ref va), .val (.ref vb), .val (.int (2 : Int32))] [])
  refine own_step (fun t k => XS.iconst X0.here hx rfl (hb hby own_jdk_43_method_13_32) k) ?_
  show own_Goes _ _ _ _ s₁ (mkF m 33 #[.val (.ref va), .val (.ref vb), .val (.int (2 : Int32))] [(.int (1 : Int32))])
  exact own_retN X0 hx hlk (t := .boolean) hrt (by simp) (hb hby own_jdk_43_method_13_33) ⟨rfl, N0, e0⟩ (by decide) (by decide)
theorem own_pn_java_lang_String : plainName "java/lang/String" = true := by first | (simp [plainName, overriddenIn]; done) | decide +kernel
theorem own_ef4 (m : MethodId) (x0 : Addr) (x1 : Addr) : entryFrame m #[(.ref x0), (.ref x1)] 3 = mkF m 0 #[.val (.ref x0), .val (.ref x1), .unset] [] := by first | (simp [entryFrame, mkF, argsToLocals, Value.category]; done) | rfl
theorem own_jdk_42_method_66_0 : decode jdk_42_method_66_code 0 = .ok (.aload_n 0, 1) := by decide +kernel
theorem own_jdk_42_method_66_1 : decode jdk_42_method_66_code 1 = .ok (.aload_n 1, 1) := by decide +kernel
theorem own_jdk_42_method_66_2 : decode jdk_42_method_66_code 2 = .ok (.if_acmp .ne 5, 3) := by decide +kernel
theorem own_jdk_42_method_66_7 : decode jdk_42_method_66_code 7 = .ok (.aload_n 1, 1) := by decide +kernel
theorem own_jdk_42_method_66_8 : decode jdk_42_method_66_code 8 = .ok (.instanceof 10, 3) := by decide +kernel
theorem own_jdk_42_method_66_11 : decode jdk_42_method_66_code 11 = .ok (.ifCond .eq 43, 3) := by decide +kernel
theorem own_jdk_42_method_66_14 : decode jdk_42_method_66_code 14 = .ok (.aload_n 1, 1) := by decide +kernel
theorem own_jdk_42_method_66_15 : decode jdk_42_method_66_code 15 = .ok (.checkcast 10, 3) := by decide +kernel
theorem own_jdk_42_method_66_18 : decode jdk_42_method_66_code 18 = .ok (.astore_n 2, 1) := by decide +kernel
theorem own_jdk_42_method_66_19 : decode jdk_42_method_66_code 19 = .ok (.getstatic 38, 3) := by decide +kernel
theorem own_jdk_42_method_66_22 : decode jdk_42_method_66_code 22 = .ok (.ifCond .eq 14, 3) := by decide +kernel
theorem own_jdk_42_method_66_25 : decode jdk_42_method_66_code 25 = .ok (.aload_n 0, 1) := by decide +kernel
theorem own_jdk_42_method_66_26 : decode jdk_42_method_66_code 26 = .ok (.getfield 15, 3) := by decide +kernel
theorem own_jdk_42_method_66_29 : decode jdk_42_method_66_code 29 = .ok (.aload_n 2, 1) := by decide +kernel
theorem own_jdk_42_method_66_30 : decode jdk_42_method_66_code 30 = .ok (.getfield 15, 3) := by decide +kernel
theorem own_jdk_42_method_66_33 : decode jdk_42_method_66_code 33 = .ok (.if_icmp .ne 21, 3) := by decide +kernel
theorem own_jdk_42_method_66_36 : decode jdk_42_method_66_code 36 = .ok (.aload_n 0, 1) := by decide +kernel
theorem own_jdk_42_method_66_37 : decode jdk_42_method_66_code 37 = .ok (.getfield 9, 3) := by decide +kernel
theorem own_jdk_42_method_66_40 : decode jdk_42_method_66_code 40 = .ok (.aload_n 2, 1) := by decide +kernel
theorem own_jdk_42_method_66_41 : decode jdk_42_method_66_code 41 = .ok (.getfield 9, 3) := by decide +kernel
theorem own_jdk_42_method_66_44 : decode jdk_42_method_66_code 44 = .ok (.invokestatic 541, 3) := by decide +kernel
theorem own_pd0 : parseMethodDescriptor "([B[B)Z" = some ⟨[(.array .byte), (.array .byte)], some .boolean⟩ := by decide +kernel
theorem own_jdk_42_method_66_47 : decode jdk_42_method_66_code 47 = .ok (.ifCond .eq 7, 3) := by decide +kernel
theorem own_jdk_42_method_66_50 : decode jdk_42_method_66_code 50 = .ok (.iconst 1, 1) := by decide +kernel
theorem own_jdk_42_method_66_51 : decode jdk_42_method_66_code 51 = .ok (.goto 4, 3) := by decide +kernel
theorem own_jdk_42_method_66_55 : decode jdk_42_method_66_code 55 = .ok (.ireturn, 1) := by decide +kernel
set_option maxRecDepth 65536 in
set_option maxHeartbeats 40000000 in
theorem own_seq_22eq (l : Launch) (Z : State) (a0 : Array Value) (hw : ∀ d ∈ tables_1, d.before a0 Z = true) (ws : List Jvm.Cond) (a : Addr) (o : Addr) (va : Addr) (vb : Addr) (ka : ClassId) (kb : ClassId) (x0 : Int32) (x1 : Int32) (y0 : Int32) (y1 : Int32) (zc : Int32) (h0 : Heap) (n0 : Nat) (Z0 : n0 ≤ h0.size) (E_o : Exa Z h0 o "java/lang/String") (F_a_coder : Fld Z h0 a "java/lang/String" "coder" "B" (.int (0 : Int32))) (F_o_coder : Fld Z h0 o "java/lang/String" "coder" "B" (.int (0 : Int32))) (F_a_value : Fld Z h0 a "java/lang/String" "value" "[B" (.ref va)) (F_o_value : Fld Z h0 o "java/lang/String" "value" "[B" (.ref vb)) (V_va : Arv Z h0 va ka .byte (2 : Int32) [(.int x0), (.int x1)] (.int (0 : Int32))) (V_vb : Arv Z h0 vb kb .byte (2 : Int32) [(.int y0), (.int y1)] (.int (0 : Int32))) (S_COMPACT_STRINGS : Sta Z h0 "java/lang/String" "COMPACT_STRINGS" "Z" (.int zc)) (hq0 : x0 = y0) (hq1 : x1 = y1) (hz : ¬ (zc = (0 : Int32))) (neao : ¬ (a = o)) :
    own_Met l Z (⟨"java/lang/String", "equals", "(Ljava/lang/Object;)Z"⟩ : MethodName) jdk_42_method_66_code 3 (some .boolean) ws ({ frames := 1, cells := 0, slots := 0, locals := 14 } : Room) #[(.ref a), (.ref o)] h0 (fun v h L => v = some (.int (1 : Int32)) ∧ Fr n0 L ∧ h = h0) := by
  refine own_body (plainFor_of_name own_pn_java_lang_String) (fun p e s m below meth c s₁ hx hby hml0 hrt hlk hown0 hnm hZ X0 e0 => ?_)
  have N0 := Fr.nil n0
  have hown : s.vm.findClass "java/lang/String" = some m.cls := hown0
  have hml : c.maxLocals = 3 := hml0
  refine own_castG (own_ef4 m a o) ?_
  show own_Goes _ _ _ _ s₁ (mkF m 0 #[.val (.ref a), .val (.ref o), .unset] [])
  refine own_step (fun t k => XS.aloadN X0.here hx rfl (hb hby own_jdk_42_method_66_0) rfl rfl k) ?_
  show own_Goes _ _ _ _ s₁ (mkF m 1 #[.val (.ref a), .val (.ref o), .unset] [(.ref a)])
  refine own_step (fun t k => XS.aloadN X0.here hx rfl (hb hby own_jdk_42_method_66_1) rfl rfl k) ?_
  show own_Goes _ _ _ _ s₁ (mkF m 2 #[.val (.ref a), .val (.ref o), .unset] [(.ref o), (.ref a)])
  refine own_step (fun t k => Jvm.RoadKit.acmp (g := (mkF m 2 #[.val (.ref a), .val (.ref o), .unset] [(.ref o), (.ref a)])) X0 hx rfl rfl rfl (pc0 := 2) (pc' := 7) (same := false) rfl (hb hby own_jdk_42_method_66_2) rfl (decide_eq_false fun q => neao (Value.ref.inj q)) (by decide) (by decide) k) ?_
  show own_Goes _ _ _ _ s₁ (mkF m 7 #[.val (.ref a), .val (.ref o), .unset] [])
  refine own_step (fun t k => XS.aloadN X0.here hx rfl (hb hby own_jdk_42_method_66_7) rfl rfl k) ?_
  show own_Goes _ _ _ _ s₁ (mkF m 8 #[.val (.ref a), .val (.ref o), .unset] [(.ref o)])
  obtain ⟨T1, X1, e1, st1⟩ := instY X0 hx hZ hown (hw _ (List.mem_of_getElem? (i := 64) rfl)) e0 (Ins.self E_o) (g := (mkF m 8 #[.val (.ref a), .val (.ref o), .unset] [(.ref o)])) rfl rfl (hb hby own_jdk_42_method_66_8)
  refine own_step st1 ?_
  show own_Goes _ _ _ _ T1 (mkF m 11 #[.val (.ref a), .val (.ref o), .unset] [(.int (1 : Int32))])
  refine own_step (fun t k => XS.ifNo X1.here hx rfl (hb hby own_jdk_42_method_66_11) rfl ((if0 _ _).trans (feq (show ¬ ((1 : Int32) = (0 : Int32)) from (by decide))).1) k) ?_
  show own_Goes _ _ _ _ T1 (mkF m 14 #[.val (.ref a), .val (.ref o), .unset] [])
  refine own_step (fun t k => XS.aloadN X1.here hx rfl (hb hby own_jdk_42_method_66_14) rfl rfl k) ?_
  show own_Goes _ _ _ _ T1 (mkF m 15 #[.val (.ref a), .val (.ref o), .unset] [(.ref o)])
  obtain ⟨T2, X2, e2, st2⟩ := castY X1 hx hZ hown (hw _ (List.mem_of_getElem? (i := 64) rfl)) e1 (Ins.self E_o) (g := (mkF m 15 #[.val (.ref a), .val (.ref o), .unset] [(.ref o)])) rfl rfl (hb hby own_jdk_42_method_66_15)
  refine own_step st2 ?_
  show own_Goes _ _ _ _ T2 (mkF m 18 #[.val (.ref a), .val (.ref o), .unset] [(.ref o)])
  refine own_step (fun t k => XS.astoreN X2.here hx rfl (hb hby own_jdk_42_method_66_18) rfl rfl (l' := #[.val (.ref a), .val (.ref o), .val (.ref o)]) rfl k) ?_
  show own_Goes _ _ _ _ T2 (mkF m 19 #[.val (.ref a), .val (.ref o), .val (.ref o)] [])
  obtain ⟨T3, X3, e3, st3⟩ := getS2 X2 hx hZ hown (host := "") (Or.inl (hw _ (List.mem_of_getElem? (i := 18) rfl))) Via.refl e2 S_COMPACT_STRINGS (g := (mkF m 19 #[.val (.ref a), .val (.ref o), .val (.ref o)] [])) rfl (hb hby own_jdk_42_method_66_19)
  refine own_step st3 ?_
  show own_Goes _ _ _ _ T3 (mkF m 22 #[.val (.ref a), .val (.ref o), .val (.ref o)] [(.int zc)])
  refine own_step (fun t k => XS.ifNo X3.here hx rfl (hb hby own_jdk_42_method_66_22) rfl ((if0 _ _).trans (feq (show ¬ (zc = (0 : Int32)) from hz)).1) k) ?_
  show own_Goes _ _ _ _ T3 (mkF m 25 #[.val (.ref a), .val (.ref o), .val (.ref o)] [])
  refine own_step (fun t k => XS.aloadN X3.here hx rfl (hb hby own_jdk_42_method_66_25) rfl rfl k) ?_
  show own_Goes _ _ _ _ T3 (mkF m 26 #[.val (.ref a), .val (.ref o), .val (.ref o)] [(.ref a)])
  obtain ⟨T4, X4, e4, st4⟩ := getF X3 hx hZ hown (host := "") (Or.inl (hw _ (List.mem_of_getElem? (i := 30) rfl))) Via.refl e3 F_a_coder (g := (mkF m 26 #[.val (.ref a), .val (.ref o), .val (.ref o)] [(.ref a)])) rfl rfl (hb hby own_jdk_42_method_66_26)
  refine own_step st4 ?_
  show own_Goes _ _ _ _ T4 (mkF m 29 #[.val (.ref a), .val (.ref o), .val (.ref o)] [(.int (0 : Int32))])
  refine own_step (fun t k => XS.aloadN X4.here hx rfl (hb hby own_jdk_42_method_66_29) rfl rfl k) ?_
  show own_Goes _ _ _ _ T4 (mkF m 30 #[.val (.ref a), .val (.ref o), .val (.ref o)] [(.ref o), (.int (0 : Int32))])
  obtain ⟨T5, X5, e5, st5⟩ := getF X4 hx hZ hown (host := "") (Or.inl (hw _ (List.mem_of_getElem? (i := 30) rfl))) Via.refl e4 F_o_coder (g := (mkF m 30 #[.val (.ref a), .val (.ref o), .val (.ref o)] [(.ref o), (.int (0 : Int32))])) rfl rfl (hb hby own_jdk_42_method_66_30)
  refine own_step st5 ?_
  show own_Goes _ _ _ _ T5 (mkF m 33 #[.val (.ref a), .val (.ref o), .val (.ref o)] [(.int (0 : Int32)), (.int (0 : Int32))])
  refine own_step (fun t k => XS.icmpNo X5.here hx rfl (hb hby own_jdk_42_method_66_33) rfl (teq (show (0 : Int32) = (0 : Int32) from (by decide))).2 k) ?_
  show own_Goes _ _ _ _ T5 (mkF m 36 #[.val (.ref a), .val (.ref o), .val (.ref o)] [])
  refine own_step (fun t k => XS.aloadN X5.here hx rfl (hb hby own_jdk_42_method_66_36) rfl rfl k) ?_
  show own_Goes _ _ _ _ T5 (mkF m 37 #[.val (.ref a), .val (.ref o), .val (.ref o)] [(.ref a)])
  obtain ⟨T6, X6, e6, st6⟩ := getF X5 hx hZ hown (host := "") (Or.inl (hw _ (List.mem_of_getElem? (i := 32) rfl))) Via.refl e5 F_a_value (g := (mkF m 37 #[.val (.ref a), .val (.ref o), .val (.ref o)] [(.ref a)])) rfl rfl (hb hby own_jdk_42_method_66_37)
  refine own_step st6 ?_
  show own_Goes _ _ _ _ T6 (mkF m 40 #[.val (.ref a), .val (.ref o), .val (.ref o)] [(.ref va)])
  refine own_step (fun t k => XS.aloadN X6.here hx rfl (hb hby own_jdk_42_method_66_40) rfl rfl k) ?_
  show own_Goes _ _ _ _ T6 (mkF m 41 #[.val (.ref a), .val (.ref o), .val (.ref o)] [(.ref o), (.ref va)])
  obtain ⟨T7, X7, e7, st7⟩ := getF X6 hx hZ hown (host := "") (Or.inl (hw _ (List.mem_of_getElem? (i := 32) rfl))) Via.refl e6 F_o_value (g := (mkF m 41 #[.val (.ref a), .val (.ref o), .val (.ref o)] [(.ref o), (.ref va)])) rfl rfl (hb hby own_jdk_42_method_66_41)
  refine own_step st7 ?_
  show own_Goes _ _ _ _ T7 (mkF m 44 #[.val (.ref a), .val (.ref o), .val (.ref o)] [(.ref vb), (.ref va)])
  refine own_callS X7 hx hZ (y := (⟨"java/lang/StringLatin1", "equals", "([B[B)Z"⟩ : MethodName)) hown (hw _ (List.mem_of_getElem? (i := 65) rfl)) (hw _ (List.mem_of_getElem? (i := 66) rfl)) (hw _ (List.mem_of_getElem? (i := 67) rfl)) (hw _ (List.mem_of_getElem? (i := 68) rfl)) (by decide) 0 [(.ref va), (.ref vb)] [] (own_leq_22eq l Z a0 hw [] va vb ka kb x0 x1 y0 y1 h0 n0 Z0 V_va V_vb hq0 hq1) e7 (by decide) (by decide) (by decide) (by decide) (g := (mkF m 44 #[.val (.ref a), .val (.ref o), .val (.ref o)] [(.ref vb), (.ref va)])) rfl (by rw [hml]; rfl) own_pd0 rfl rfl (by show 2 * 0 + _ ≤ _; exact Nat.le_of_eq rfl) (hb hby own_jdk_42_method_66_44) ?_
  intro T8 v8 L8 X8 hQ8
  obtain ⟨rfl, N8q, e8⟩ := hQ8
  have N8 := Fr.app N0 N8q
  show own_Goes _ _ _ _ T8 (mkF m 47 #[.val (.ref a), .val (.ref o), .val (.ref o)] [(.int (1 : Int32))])
  refine own_step (fun t k => XS.ifNo X8.here hx rfl (hb hby own_jdk_42_method_66_47) rfl ((if0 _ _).trans (feq (show ¬ ((1 : Int32) = (0 : Int32)) from (by decide))).1) k) ?_
  show own_Goes _ _ _ _ T8 (mkF m 50 #[.val (.ref a), .val (.ref o), .val (.ref o)] [])
  refine own_step (fun t k => XS.iconst X8.here hx rfl (hb hby own_jdk_42_method_66_50) k) ?_
  show own_Goes _ _ _ _ T8 (mkF m 51 #[.val (.ref a), .val (.ref o), .val (.ref o)] [(.int (1 : Int32))])
  refine own_step (fun t k => XS.goto X8.here hx rfl (pc0 := 51) (pc' := 55) rfl (hb hby own_jdk_42_method_66_51) (by decide) (by decide) k) ?_
  show own_Goes _ _ _ _ T8 (mkF m 55 #[.val (.ref a), .val (.ref o), .val (.ref o)] [(.int (1 : Int32))])
  exact own_retN X8 hx hlk (t := .boolean) hrt (by simp) (hb hby own_jdk_42_method_66_55) ⟨rfl, N8, e8⟩ (by decide) (by decide)
theorem own_ef5 (m : MethodId) (x0 : Addr) : entryFrame m #[(.ref x0)] 5 = mkF m 0 #[.val (.ref x0), .unset, .unset, .unset, .unset] [] := by first | (simp [entryFrame, mkF, argsToLocals, Value.category]; done) | rfl
theorem own_prog_48_method_7_0 : decode prog_48_method_7_code 0 = .ok (.invokestatic 55, 3) := by decide +kernel
theorem own_pd1 : parseMethodDescriptor "()[Lcom/example/polyphony/polyphony/policy/Operator;" = some ⟨[], some (.array (.object "com/example/polyphony/polyphony/policy/Operator"))⟩ := by decide +kernel
theorem own_prog_48_method_7_3 : decode prog_48_method_7_code 3 = .ok (.astore_n 1, 1) := by decide +kernel
theorem own_prog_48_method_7_4 : decode prog_48_method_7_code 4 = .ok (.aload_n 1, 1) := by decide +kernel
theorem own_prog_48_method_7_5 : decode prog_48_method_7_code 5 = .ok (.arraylength, 1) := by decide +kernel
theorem own_prog_48_method_7_6 : decode prog_48_method_7_code 6 = .ok (.istore_n 2, 1) := by decide +kernel
theorem own_prog_48_method_7_7 : decode prog_48_method_7_code 7 = .ok (.iconst 0, 1) := by decide +kernel
theorem own_prog_48_method_7_8 : decode prog_48_method_7_code 8 = .ok (.istore_n 3, 1) := by decide +kernel
theorem own_prog_48_method_7_9 : decode prog_48_method_7_code 9 = .ok (.iload_n 3, 1) := by decide +kernel
theorem own_prog_48_method_7_10 : decode prog_48_method_7_code 10 = .ok (.iload_n 2, 1) := by decide +kernel
theorem own_prog_48_method_7_11 : decode prog_48_method_7_code 11 = .ok (.if_icmp .ge 29, 3) := by decide +kernel
theorem own_prog_48_method_7_14 : decode prog_48_method_7_code 14 = .ok (.aload_n 1, 1) := by decide +kernel
theorem own_prog_48_method_7_15 : decode prog_48_method_7_code 15 = .ok (.iload_n 3, 1) := by decide +kernel
theorem own_prog_48_method_7_16 : decode prog_48_method_7_code 16 = .ok (.aaload, 1) := by decide +kernel
theorem own_prog_48_method_7_17 : decode prog_48_method_7_code 17 = .ok (.astore 4, 2) := by decide +kernel
theorem own_prog_48_method_7_19 : decode prog_48_method_7_code 19 = .ok (.aload 4, 2) := by decide +kernel
theorem own_prog_48_method_7_21 : decode prog_48_method_7_code 21 = .ok (.getfield 41, 3) := by decide +kernel
theorem own_prog_48_method_7_24 : decode prog_48_method_7_code 24 = .ok (.aload_n 0, 1) := by decide +kernel
theorem own_prog_48_method_7_25 : decode prog_48_method_7_code 25 = .ok (.invokevirtual 59, 3) := by decide +kernel
theorem own_pd2 : parseMethodDescriptor "(Ljava/lang/Object;)Z" = some ⟨[(.object "java/lang/Object")], some .boolean⟩ := by decide +kernel
theorem own_prog_48_method_7_28 : decode prog_48_method_7_code 28 = .ok (.ifCond .eq 6, 3) := by decide +kernel
theorem own_prog_48_method_7_31 : decode prog_48_method_7_code 31 = .ok (.aload 4, 2) := by decide +kernel
theorem own_prog_48_method_7_33 : decode prog_48_method_7_code 33 = .ok (.areturn, 1) := by decide +kernel
set_option maxRecDepth 65536 in
set_option maxHeartbeats 40000000 in
theorem own_of0 (l : Launch) (Z : State) (a0 : Array Value) (hw : ∀ d ∈ tables_1, d.before a0 Z = true) (ws : List Jvm.Cond) (o : Addr) (vo : Addr) (ko : ClassId) (zc : Int32) (w_V : Addr) (clv : Cell) (w_EQUAL : Addr) (w_NOT_EQUAL : Addr) (w_LESS : Addr) (w_LESS_OR_EQUAL : Addr) (w_GREATER : Addr) (w_GREATER_OR_EQUAL : Addr) (y_EQUAL : Addr) (z_EQUAL : Addr) (k_EQUAL : ClassId) (h0 : Heap) (n0 : Nat) (Z0 : n0 ≤ h0.size) (E_o : Exa Z h0 o "java/lang/String") (F_o_coder : Fld Z h0 o "java/lang/String" "coder" "B" (.int (0 : Int32))) (F_o_value : Fld Z h0 o "java/lang/String" "value" "[B" (.ref vo)) (V_vo : Arv Z h0 vo ko .byte (2 : Int32) [(.int (61 : Int32)), (.int (61 : Int32))] (.int (0 : Int32))) (S_COMPACT_STRINGS : Sta Z h0 "java/lang/String" "COMPACT_STRINGS" "Z" (.int zc)) (S__VALUES : Sta Z h0 "com/example/polyphony/polyphony/policy/Operator" "$VALUES" "[Lcom/example/polyphony/polyphony/policy/Operator;" (.ref w_V)) (R_w_V : Arr Z h0 w_V clv (.object "com/example/polyphony/polyphony/policy/Operator")) (E_w_V : Exa Z h0 w_V "[Lcom/example/polyphony/polyphony/policy/Operator;") (F_w_EQUAL_symbol : Fld Z h0 w_EQUAL "com/example/polyphony/polyphony/policy/Operator" "symbol" "Ljava/lang/String;" (.ref y_EQUAL)) (E_y_EQUAL : Exa Z h0 y_EQUAL "java/lang/String") (F_y_EQUAL_coder : Fld Z h0 y_EQUAL "java/lang/String" "coder" "B" (.int (0 : Int32))) (F_y_EQUAL_value : Fld Z h0 y_EQUAL "java/lang/String" "value" "[B" (.ref z_EQUAL)) (V_z_EQUAL : Arv Z h0 z_EQUAL k_EQUAL .byte (2 : Int32) [(.int (61 : Int32)), (.int (61 : Int32))] (.int (0 : Int32))) (F_v : FitC Z clv) (S_v : clv.slots.size = (6 : Int32).toNatClampNeg) (H_v : Has clv [(.ref w_EQUAL), (.ref w_NOT_EQUAL), (.ref w_LESS), (.ref w_LESS_OR_EQUAL), (.ref w_GREATER), (.ref w_GREATER_OR_EQUAL)] .null) (G_v : ∀ i, i < clv.slots.size → fits (.object "com/example/polyphony/polyphony/policy/Operator") ([(.ref w_EQUAL), (.ref w_NOT_EQUAL), (.ref w_LESS), (.ref w_LESS_OR_EQUAL), (.ref w_GREATER), (.ref w_GREATER_OR_EQUAL)].getD i .null) = true) (hz : ¬ (zc = (0 : Int32))) (neo_EQUAL : ¬ (y_EQUAL = o)) :
    own_Met l Z (⟨"com/example/polyphony/polyphony/policy/Operator", "of", "(Ljava/lang/String;)Lcom/example/polyphony/polyphony/policy/Operator;"⟩ : MethodName) prog_48_method_7_code 5 (some (.object "com/example/polyphony/polyphony/policy/Operator")) ws ({ frames := 2, cells := 1, slots := 6, locals := 28 } : Room) #[(.ref o)] h0 (fun v h L => v = some (.ref w_EQUAL) ∧ Fr n0 L ∧ Keep h0 h []) := by
  refine own_body (plainFor_of_name own_pn_com_example_polyphony_polyphony_policy_Operator) (fun p e s m below meth c s₁ hx hby hml0 hrt hlk hown0 hnm hZ X0 e0 => ?_)
  have N0 := Fr.nil n0
  have hown : s.vm.findClass "com/example/polyphony/polyphony/policy/Operator" = some m.cls := hown0
  have hml : c.maxLocals = 5 := hml0
  refine own_castG (own_ef5 m o) ?_
  show own_Goes _ _ _ _ s₁ (mkF m 0 #[.val (.ref o), .unset, .unset, .unset, .unset] [])
  refine own_callS X0 hx hZ (y := (⟨"com/example/polyphony/polyphony/policy/Operator", "values", "()[Lcom/example/polyphony/polyphony/policy/Operator;"⟩ : MethodName)) hown (hw _ (List.mem_of_getElem? (i := 37) rfl)) (hw _ (List.mem_of_getElem? (i := 38) rfl)) (hw _ (List.mem_of_getElem? (i := 3) rfl)) (hw _ (List.mem_of_getElem? (i := 39) rfl)) (by decide) 0 [] [] (own_values l Z a0 hw [] w_V clv w_EQUAL w_NOT_EQUAL w_LESS w_LESS_OR_EQUAL w_GREATER w_GREATER_OR_EQUAL h0 n0 Z0 S__VALUES R_w_V E_w_V F_v S_v H_v G_v) e0 (by decide) (by decide) (by decide) (by decide) (g := (mkF m 0 #[.val (.ref o), .unset, .unset, .unset, .unset] [])) rfl (by rw [hml]; rfl) own_pd1 rfl rfl (by show 2 * 0 + _ ≤ _; exact Nat.le_of_eq rfl) (hb hby own_prog_48_method_7_0) ?_
  intro T1 v1 L1 X1 hQ1
  obtain ⟨b1_0, k1_0, rfl, N1q, Kq1, zq1_0, q1_0⟩ := hQ1
  have N1 := Fr.app N0 N1q
  have K1 := (Keep.refl h0 []).trans Kq1 all0
  have g_b1_0 : n0 ≤ b1_0 := Nat.le_trans Z0 zq1_0
  have sz_b1_0 : h0.size ≤ b1_0 := Nat.le_trans (Keep.refl h0 []).1 zq1_0
  have ne_o_b1_0 : o ≠ b1_0 := Nat.ne_of_lt (Nat.lt_of_lt_of_le E_o.lt zq1_0)
  have ne_vo_b1_0 : vo ≠ b1_0 := Nat.ne_of_lt (Nat.lt_of_lt_of_le V_vo.lt zq1_0)
  have ne_w_V_b1_0 : w_V ≠ b1_0 := Nat.ne_of_lt (Nat.lt_of_lt_of_le E_w_V.lt zq1_0)
  have ne_w_EQUAL_b1_0 : w_EQUAL ≠ b1_0 := Nat.ne_of_lt (Nat.lt_of_lt_of_le F_w_EQUAL_symbol.lt zq1_0)
  have ne_y_EQUAL_b1_0 : y_EQUAL ≠ b1_0 := Nat.ne_of_lt (Nat.lt_of_lt_of_le E_y_EQUAL.lt zq1_0)
  have ne_z_EQUAL_b1_0 : z_EQUAL ≠ b1_0 := Nat.ne_of_lt (Nat.lt_of_lt_of_le V_z_EQUAL.lt zq1_0)
  have q1_0' : Arv Z T1.heap b1_0 k1_0 (.object "com/example/polyphony/polyphony/policy/Operator") (6 : Int32) [(.ref w_EQUAL), (.ref w_NOT_EQUAL), (.ref w_LESS), (.ref w_LESS_OR_EQUAL), (.ref w_GREATER), (.ref w_GREATER_OR_EQUAL)] .null := q1_0
  show own_Goes _ _ _ _ T1 (mkF m 3 #[.val (.ref o), .unset, .unset, .unset, .unset] [(.ref b1_0)])
  refine own_step (fun t k => XS.astoreN X1.here hx rfl (hb hby own_prog_48_method_7_3) rfl rfl (l' := #[.val (.ref o), .val (.ref b1_0), .unset, .unset, .unset]) rfl k) ?_
  show own_Goes _ _ _ _ T1 (mkF m 4 #[.val (.ref o), .val (.ref b1_0), .unset, .unset, .unset] [])
  refine own_step (fun t k => XS.aloadN X1.here hx rfl (hb hby own_prog_48_method_7_4) rfl rfl k) ?_
  show own_Goes _ _ _ _ T1 (mkF m 5 #[.val (.ref o), .val (.ref b1_0), .unset, .unset, .unset] [(.ref b1_0)])
  refine own_step (own_alen X1 hx hZ rfl q1_0' (g := (mkF m 5 #[.val (.ref o), .val (.ref b1_0), .unset, .unset, .unset] [(.ref b1_0)])) rfl rfl (hb hby own_prog_48_method_7_5)) ?_
  show own_Goes _ _ _ _ T1 (mkF m 6 #[.val (.ref o), .val (.ref b1_0), .unset, .unset, .unset] [(.int (6 : Int32))])
  refine own_step (fun t k => XS.istoreN X1.here hx rfl (hb hby own_prog_48_method_7_6) rfl (l' := #[.val (.ref o), .val (.ref b1_0), .val (.int (6 : Int32)), .unset, .unset]) rfl k) ?_
  show own_Goes _ _ _ _ T1 (mkF m 7 #[.val (.ref o), .val (.ref b1_0), .val (.int (6 : Int32)), .unset, .unset] [])
  refine own_step (fun t k => XS.iconst X1.here hx rfl (hb hby own_prog_48_method_7_7) k) ?_
  show own_Goes _ _ _ _ T1 (mkF m 8 #[.val (.ref o), .val (.ref b1_0), .val (.int (6 : Int32)), .unset, .unset] [(.int (0 : Int32))])
  refine own_step (fun t k => XS.istoreN X1.here hx rfl (hb hby own_prog_48_method_7_8) rfl (l' := #[.val (.ref o), .val (.ref b1_0), .val (.int (6 : Int32)), .val (.int (0 : Int32)), .unset]) rfl k) ?_
  show own_Goes _ _ _ _ T1 (mkF m 9 #[.val (.ref o), .val (.ref b1_0), .val (.int (6 : Int32)), .val (.int (0 : Int32)), .unset] [])
  refine own_step (fun t k => XS.iloadN X1.here hx rfl (hb hby own_prog_48_method_7_9) rfl k) ?_
  show own_Goes _ _ _ _ T1 (mkF m 10 #[.val (.ref o), .val (.ref b1_0), .val (.int (6 : Int32)), .val (.int (0 : Int32)), .unset] [(.int (0 : Int32))])
  refine own_step (fun t k => XS.iloadN X1.here hx rfl (hb hby own_prog_48_method_7_10) rfl k) ?_
  show own_Goes _ _ _ _ T1 (mkF m 11 #[.val (.ref o), .val (.ref b1_0), .val (.int (6 : Int32)), .val (.int (0 : Int32)), .unset] [(.int (6 : Int32)), (.int (0 : Int32))])
  refine own_step (fun t k => XS.icmpNo X1.here hx rfl (hb hby own_prog_48_method_7_11) rfl (tlt (show (0 : Int32) < (6 : Int32) from (by decide))).2.1 k) ?_
  show own_Goes _ _ _ _ T1 (mkF m 14 #[.val (.ref o), .val (.ref b1_0), .val (.int (6 : Int32)), .val (.int (0 : Int32)), .unset] [])
  refine own_step (fun t k => XS.aloadN X1.here hx rfl (hb hby own_prog_48_method_7_14) rfl rfl k) ?_
  show own_Goes _ _ _ _ T1 (mkF m 15 #[.val (.ref o), .val (.ref b1_0), .val (.int (6 : Int32)), .val (.int (0 : Int32)), .unset] [(.ref b1_0)])
  refine own_step (fun t k => XS.iloadN X1.here hx rfl (hb hby own_prog_48_method_7_15) rfl k) ?_
  show own_Goes _ _ _ _ T1 (mkF m 16 #[.val (.ref o), .val (.ref b1_0), .val (.int (6 : Int32)), .val (.int (0 : Int32)), .unset] [(.int (0 : Int32)), (.ref b1_0)])
  refine own_step (own_aaload X1 hx hZ rfl q1_0' rfl (.ref w_EQUAL) ⟨by decide, by decide⟩ rfl (g := (mkF m 16 #[.val (.ref o), .val (.ref b1_0), .val (.int (6 : Int32)), .val (.int (0 : Int32)), .unset] [(.int (0 : Int32)), (.ref b1_0)])) rfl rfl (hb hby own_prog_48_method_7_16)) ?_
  show own_Goes _ _ _ _ T1 (mkF m 17 #[.val (.ref o), .val (.ref b1_0), .val (.int (6 : Int32)), .val (.int (0 : Int32)), .unset] [(.ref w_EQUAL)])
  refine own_step (fun t k => XS.astore X1.here hx rfl (hb hby own_prog_48_method_7_17) rfl rfl (l' := #[.val (.ref o), .val (.ref b1_0), .val (.int (6 : Int32)), .val (.int (0 : Int32)), .val (.ref w_EQUAL)]) rfl k) ?_
  show own_Goes _ _ _ _ T1 (mkF m 19 #[.val (.ref o), .val (.ref b1_0), .val (.int (6 : Int32)), .val (.int (0 : Int32)), .val (.ref w_EQUAL)] [])
  refine own_step (fun t k => XS.aload X1.here hx rfl (hb hby own_prog_48_method_7_19) rfl rfl k) ?_
  show own_Goes _ _ _ _ T1 (mkF m 21 #[.val (.ref o), .val (.ref b1_0), .val (.int (6 : Int32)), .val (.int (0 : Int32)), .val (.ref w_EQUAL)] [(.ref w_EQUAL)])
  have F_w_EQUAL_symbol_v3 := (F_w_EQUAL_symbol.keep Kq1 nin0)
  obtain ⟨T2, X2, e2, st2⟩ := getF X1 hx hZ hown (host := "") (Or.inl (hw _ (List.mem_of_getElem? (i := 57) rfl))) Via.refl rfl F_w_EQUAL_symbol_v3 (g := (mkF m 21 #[.val (.ref o), .val (.ref b1_0), .val (.int (6 : Int32)), .val (.int (0 : Int32)), .val (.ref w_EQUAL)] [(.ref w_EQUAL)])) rfl rfl (hb hby own_prog_48_method_7_21)
  refine own_step st2 ?_
  show own_Goes _ _ _ _ T2 (mkF m 24 #[.val (.ref o), .val (.ref b1_0), .val (.int (6 : Int32)), .val (.int (0 : Int32)), .val (.ref w_EQUAL)] [(.ref y_EQUAL)])
  refine own_step (fun t k => XS.aloadN X2.here hx rfl (hb hby own_prog_48_method_7_24) rfl rfl k) ?_
  show own_Goes _ _ _ _ T2 (mkF m 25 #[.val (.ref o), .val (.ref b1_0), .val (.int (6 : Int32)), .val (.int (0 : Int32)), .val (.ref w_EQUAL)] [(.ref o), (.ref y_EQUAL)])
  have E_o_v4 := (E_o.keep Kq1)
  have F_y_EQUAL_coder_v5 := (F_y_EQUAL_coder.keep Kq1 nin0)
  have F_o_coder_v6 := (F_o_coder.keep Kq1 nin0)
  have F_y_EQUAL_value_v7 := (F_y_EQUAL_value.keep Kq1 nin0)
  have F_o_value_v8 := (F_o_value.keep Kq1 nin0)
  have V_z_EQUAL_v9 := (V_z_EQUAL.keep Kq1 nin0)
  have V_vo_v10 := (V_vo.keep Kq1 nin0)
  have S_COMPACT_STRINGS_v11 := (own_staKeep S_COMPACT_STRINGS Kq1 all0)
  have E_y_EQUAL_v13 := (E_y_EQUAL.keep Kq1)
  refine own_callV X2 hx hZ (y := (⟨"java/lang/String", "equals", "(Ljava/lang/Object;)Z"⟩ : MethodName)) (z := (⟨"java/lang/String", "equals", "(Ljava/lang/Object;)Z"⟩ : MethodName)) hown (hw _ (List.mem_of_getElem? (i := 59) rfl)) (hw _ (List.mem_of_getElem? (i := 60) rfl)) (notFace_of_selects (args := #[]) (mvT hZ (hw _ (List.mem_of_getElem? (i := 62) rfl)))) (hw _ (List.mem_of_getElem? (i := 62) rfl)) (hw _ (List.mem_of_getElem? (i := 61) rfl)) (hw _ (List.mem_of_getElem? (i := 63) rfl)) (hw _ (List.mem_of_getElem? (i := 7) rfl)) (by decide) 0 E_y_EQUAL_v13 [(.ref o)] [] (own_seq_22eq l Z a0 hw [] y_EQUAL o z_EQUAL vo k_EQUAL ko (61 : Int32) (61 : Int32) (61 : Int32) (61 : Int32) zc T1.heap n0 (Nat.le_trans Z0 K1.1) E_o_v4 F_y_EQUAL_coder_v5 F_o_coder_v6 F_y_EQUAL_value_v7 F_o_value_v8 V_z_EQUAL_v9 V_vo_v10 S_COMPACT_STRINGS_v11 (by decide) (by decide) hz neo_EQUAL) e2 (by decide) (by decide) (by decide) (by decide) (g := (mkF m 25 #[.val (.ref o), .val (.ref b1_0), .val (.int (6 : Int32)), .val (.int (0 : Int32)), .val (.ref w_EQUAL)] [(.ref o), (.ref y_EQUAL)])) rfl (by rw [hml]; rfl) own_pd2 rfl rfl (by show 2 * 0 + _ ≤ _; exact Nat.le_of_eq rfl) (hb hby own_prog_48_method_7_25) ?_
  intro T12 v12 L12 X12 hQ12
  obtain ⟨rfl, N12q, e12⟩ := hQ12
  have N12 := Fr.app N1 N12q
  show own_Goes _ _ _ _ T12 (mkF m 28 #[.val (.ref o), .val (.ref b1_0), .val (.int (6 : Int32)), .val (.int (0 : Int32)), .val (.ref w_EQUAL)] [(.int (1 : Int32))])
  refine own_step (fun t k => XS.ifNo X12.here hx rfl (hb hby own_prog_48_method_7_28) rfl ((if0 _ _).trans (feq (show ¬ ((1 : Int32) = (0 : Int32)) from (by decide))).1) k) ?_
  show own_Goes _ _ _ _ T12 (mkF m 31 #[.val (.ref o), .val (.ref b1_0), .val (.int (6 : Int32)), .val (.int (0 : Int32)), .val (.ref w_EQUAL)] [])
  refine own_step (fun t k => XS.aload X12.here hx rfl (hb hby own_prog_48_method_7_31) rfl rfl k) ?_
  show own_Goes _ _ _ _ T12 (mkF m 33 #[.val (.ref o), .val (.ref b1_0), .val (.int (6 : Int32)), .val (.int (0 : Int32)), .val (.ref w_EQUAL)] [(.ref w_EQUAL)])
  exact own_retA X12 hx hlk hrt rfl rfl rfl (hb hby own_prog_48_method_7_33) (by rw [e12]; exact ⟨rfl, N12, K1⟩) (by decide) (by decide)
theorem own_jdk_43_method_13_24 : decode jdk_43_method_13_code 24 = .ok (.iconst 0, 1) := by decide +kernel
theorem own_jdk_43_method_13_25 : decode jdk_43_method_13_code 25 = .ok (.ireturn, 1) := by decide +kernel
set_option maxRecDepth 65536 in
set_option maxHeartbeats 40000000 in
theorem own_leq_220 (l : Launch) (Z : State) (a0 : Array Value) (hw : ∀ d ∈ tables_1, d.before a0 Z = true) (ws : List Jvm.Cond) (va : Addr) (vb : Addr) (ka : ClassId) (kb : ClassId) (x0 : Int32) (x1 : Int32) (y0 : Int32) (y1 : Int32) (h0 : Heap) (n0 : Nat) (Z0 : n0 ≤ h0.size) (V_va : Arv Z h0 va ka .byte (2 : Int32) [(.int x0), (.int x1)] (.int (0 : Int32))) (V_vb : Arv Z h0 vb kb .byte (2 : Int32) [(.int y0), (.int y1)] (.int (0 : Int32))) (hq0 : ¬ (x0 = y0)) :
    own_Met l Z (⟨"java/lang/StringLatin1", "equals", "([B[B)Z"⟩ : MethodName) jdk_43_method_13_code 3 (some .boolean) ws ({ frames := 0, cells := 0, slots := 0, locals := 0 } : Room) #[(.ref va), (.ref vb)] h0 (fun v h L => v = some (.int (0 : Int32)) ∧ Fr n0 L ∧ h = h0) := by
  refine own_body (plainFor_of_name own_pn_java_lang_StringLatin1) (fun p e s m below meth c s₁ hx hby hml0 hrt hlk hown0 hnm hZ X0 e0 => ?_)
  have N0 := Fr.nil n0
  have hown : s.vm.findClass "java/lang/StringLatin1" = some m.cls := hown0
  have hml : c.maxLocals = 3 := hml0
  refine own_castG (own_ef3 m va vb) ?_
  show own_Goes _ _ _ _ s₁ (mkF m 0 #[.val (.ref va), .val (.ref vb), .unset] [])
  refine own_step (fun t k => XS.aloadN X0.here hx rfl (hb hby own_jdk_43_method_13_0) rfl rfl k) ?_
  show own_Goes _ _ _ _ s₁ (mkF m 1 #[.val (.ref va), .val (.ref vb), .unset] [(.ref va)])
  refine own_step (own_alen X0 hx hZ e0 V_va (g := (mkF m 1 #[.val (.ref va), .val (.ref vb), .unset] [(.ref va)])) rfl rfl (hb hby own_jdk_43_method_13_1)) ?_
  show own_Goes _ _ _ _ s₁ (mkF m 2 #[.val (.ref va), .val (.ref vb), .unset] [(.int (2 : Int32))])
  refine own_step (fun t k => XS.aloadN X0.here hx rfl (hb hby own_jdk_43_method_13_2) rfl rfl k) ?_
  show own_Goes _ _ _ _ s₁ (mkF m 3 #[.val (.ref va), .val (.ref vb), .unset] [(.ref vb), (.int (2 : Int32))])
  refine own_step (own_alen X0 hx hZ e0 V_vb (g := (mkF m 3 #[.val (.ref va), .val (.ref vb), .unset] [(.ref vb), (.int (2 : Int32))])) rfl rfl (hb hby own_jdk_43_method_13_3)) ?_
  show own_Goes _ _ _ _ s₁ (mkF m 4 #[.val (.ref va), .val (.ref vb), .unset] [(.int (2 : Int32)), (.int (2 : Int32))])
  refine own_step (fun t k => XS.icmpNo X0.here hx rfl (hb hby own_jdk_43_method_13_4) rfl (teq (show (2 : Int32) = (2 : Int32) from (by decide))).2 k) ?_
  show own_Goes _ _ _ _ s₁ (mkF m 7 #[.val (.ref va), .val (.ref vb), .unset] [])
  refine own_step (fun t k => XS.iconst X0.here hx rfl (hb hby own_jdk_43_method_13_7) k) ?_
  show own_Goes _ _ _ _ s₁ (mkF m 8 #[.val (.ref va), .val (.ref vb), .unset] [(.int (0 : Int32))])
  refine own_step (fun t k => XS.istoreN X0.here hx rfl (hb hby own_jdk_43_method_13_8) rfl (l' := #[.val (.ref va), .val (.ref vb), .val (.int (0 : Int32))]) rfl k) ?_
  show own_Goes _ _ _ _ s₁ (mkF m 9 #[.val (.ref va), .val (.ref vb), .val (.int (0 : Int32))] [])
  refine own_step (fun t k => XS.iloadN X0.here hx rfl (hb hby own_jdk_43_method_13_9) rfl k) ?_
  show own_Goes _ _ _ _ s₁ (mkF m 10 #[.val (.ref va), .val (.ref vb), .val (.int (0 : Int32))] [(.int (0 : Int32))])
  refine own_step (fun t k => XS.aloadN X0.here hx rfl (hb hby own_jdk_43_method_13_10) rfl rfl k) ?_
  show own_Goes _ _ _ _ s₁ (mkF m 11 #[.val (.ref va), .val (.ref vb), .val (.int (0 : Int32))] [(.ref va), (.int (0 : Int32))])
  refine own_step (own_alen X0 hx hZ e0 V_va (g := (mkF m 11 #[.val (.ref va), .val (.ref vb), .val (.int (0 : Int32))] [(.ref va), (.int (0 : Int32))])) rfl rfl (hb hby own_jdk_43_method_13_11)) ?_
  show own_Goes _ _ _ _ s₁ (mkF m 12 #[.val (.ref va), .val (.ref vb), .val (.int (0 : Int32))] [(.int (2 : Int32)), (.int (0 : Int32))])
  refine own_step (fun t k => XS.icmpNo X0.here hx rfl (hb hby own_jdk_43_method_13_12) rfl (tlt (show (0 : Int32) < (2 : Int32) from (by decide))).2.1 k) ?_
  show own_Goes _ _ _ _ s₁ (mkF m 15 #[.val (.ref va), .val (.ref vb), .val (.int (0 : Int32))] [])
  refine own_step (fun t k => XS.aloadN X0.here hx rfl (hb hby own_jdk_43_method_13_15) rfl rfl k) ?_
  show own_Goes _ _ _ _ s₁ (mkF m 16 #[.val (.ref va), .val (.ref vb), .val (.int (0 : Int32))] [(.ref va)])
  refine own_step (fun t k => XS.iloadN X0.here hx rfl (hb hby own_jdk_43_method_13_16) rfl k) ?_
  show own_Goes _ _ _ _ s₁ (mkF m 17 #[.val (.ref va), .val (.ref vb), .val (.int (0 : Int32))] [(.int (0 : Int32)), (.ref va)])
  refine own_step (own_baload X0 hx hZ e0 V_va (.int x0) ⟨by decide, by decide⟩ rfl (g := (mkF m 17 #[.val (.ref va), .val (.ref vb), .val (.int (0 : Int32))] [(.int (0 : Int32)), (.ref va)])) rfl rfl (hb hby own_jdk_43_method_13_17)) ?_
  show own_Goes _ _ _ _ s₁ (mkF m 18 #[.val (.ref va), .val (.ref vb), .val (.int (0 : Int32))] [(.int x0)])
  refine own_step (fun t k => XS.aloadN X0.here hx rfl (hb hby own_jdk_43_method_13_18) rfl rfl k) ?_
  show own_Goes _ _ _ _ s₁ (mkF m 19 #[.val (.ref va), .val (.ref vb), .val (.int (0 : Int32))] [(.ref vb), (.int x0)])
  refine own_step (fun t k => XS.iloadN X0.here hx rfl (hb hby own_jdk_43_method_13_19) rfl k) ?_
  show own_Goes _ _ _ _ s₁ (mkF m 20 #[.val (.ref va), .val (.ref vb), .val (.int (0 : Int32))] [(.int (0 : Int32)), (.ref vb), (.int x0)])
  refine own_step (own_baload X0 hx hZ e0 V_vb (.int y0) ⟨by decide, by decide⟩ rfl (g := (mkF m 20 #[.val (.ref va), .val (.ref vb), .val (.int (0 : Int32))] [(.int (0 : Int32)), (.ref vb), (.int x0)])) rfl rfl (hb hby own_jdk_43_method_13_20)) ?_
  show own_Goes _ _ _ _ s₁ (mkF m 21 #[.val (.ref va), .val (.ref vb), .val (.int (0 : Int32))] [(.int y0), (.int x0)])
  refine own_step (fun t k => XS.icmpNo X0.here hx rfl (hb hby own_jdk_43_method_13_21) rfl (feq (show ¬ (x0 = y0) from hq0)).1 k) ?_
  show own_Goes _ _ _ _ s₁ (mkF m 24 #[.val (.ref va), .val (.ref vb), .val (.int (0 : Int32))] [])
  refine own_step (fun t k => XS.iconst X0.here hx rfl (hb hby own_jdk_43_method_13_24) k) ?_
  show own_Goes _ _ _ _ s₁ (mkF m 25 #[.val (.ref va), .val (.ref vb), .val (.int (0 : Int32))] [(.int (0 : Int32))])
  exact own_retN X0 hx hlk (t := .boolean) hrt (by simp) (hb hby own_jdk_43_method_13_25) ⟨rfl, N0, e0⟩ (by decide) (by decide)
theorem own_jdk_42_method_66_54 : decode jdk_42_method_66_code 54 = .ok (.iconst 0, 1) := by decide +kernel
set_option maxRecDepth 65536 in
set_option maxHeartbeats 40000000 in
theorem own_seq_220 (l : Launch) (Z : State) (a0 : Array Value) (hw : ∀ d ∈ tables_1, d.before a0 Z = true) (ws : List Jvm.Cond) (a : Addr) (o : Addr) (va : Addr) (vb : Addr) (ka : ClassId) (kb : ClassId) (x0 : Int32) (x1 : Int32) (y0 : Int32) (y1 : Int32) (zc : Int32) (h0 : Heap) (n0 : Nat) (Z0 : n0 ≤ h0.size) (E_o : Exa Z h0 o "java/lang/String") (F_a_coder : Fld Z h0 a "java/lang/String" "coder" "B" (.int (0 : Int32))) (F_o_coder : Fld Z h0 o "java/lang/String" "coder" "B" (.int (0 : Int32))) (F_a_value : Fld Z h0 a "java/lang/String" "value" "[B" (.ref va)) (F_o_value : Fld Z h0 o "java/lang/String" "value" "[B" (.ref vb)) (V_va : Arv Z h0 va ka .byte (2 : Int32) [(.int x0), (.int x1)] (.int (0 : Int32))) (V_vb : Arv Z h0 vb kb .byte (2 : Int32) [(.int y0), (.int y1)] (.int (0 : Int32))) (S_COMPACT_STRINGS : Sta Z h0 "java/lang/String" "COMPACT_STRINGS" "Z" (.int zc)) (hq0 : ¬ (x0 = y0)) (hz : ¬ (zc = (0 : Int32))) (neao : ¬ (a = o)) :
    own_Met l Z (⟨"java/lang/String", "equals", "(Ljava/lang/Object;)Z"⟩ : MethodName) jdk_42_method_66_code 3 (some .boolean) ws ({ frames := 1, cells := 0, slots := 0, locals := 14 } : Room) #[(.ref a), (.ref o)] h0 (fun v h L => v = some (.int (0 : Int32)) ∧ Fr n0 L ∧ h = h0) := by
  refine own_body (plainFor_of_name own_pn_java_lang_String) (fun p e s m below meth c s₁ hx hby hml0 hrt hlk hown0 hnm hZ X0 e0 => ?_)
  have N0 := Fr.nil n0
  have hown : s.vm.findClass "java/lang/String" = some m.cls := hown0
  have hml : c.maxLocals = 3 := hml0
  refine own_castG (own_ef4 m a o) ?_
  show own_Goes _ _ _ _ s₁ (mkF m 0 #[.val (.ref a), .val (.ref o), .unset] [])
  refine own_step (fun t k => XS.aloadN X0.here hx rfl (hb hby own_jdk_42_method_66_0) rfl rfl k) ?_
  show own_Goes _ _ _ _ s₁ (mkF m 1 #[.val (.ref a), .val (.ref o), .unset] [(.ref a)])
  refine own_step (fun t k => XS.aloadN X0.here hx rfl (hb hby own_jdk_42_method_66_1) rfl rfl k) ?_
  show own_Goes _ _ _ _ s₁ (mkF m 2 #[.val (.ref a), .val (.ref o), .unset] [(.ref o), (.ref a)])
  refine own_step (fun t k => Jvm.RoadKit.acmp (g := (mkF m 2 #[.val (.ref a), .val (.ref o), .unset] [(.ref o), (.ref a)])) X0 hx rfl rfl rfl (pc0 := 2) (pc' := 7) (same := false) rfl (hb hby own_jdk_42_method_66_2) rfl (decide_eq_false fun q => neao (Value.ref.inj q)) (by decide) (by decide) k) ?_
  show own_Goes _ _ _ _ s₁ (mkF m 7 #[.val (.ref a), .val (.ref o), .unset] [])
  refine own_step (fun t k => XS.aloadN X0.here hx rfl (hb hby own_jdk_42_method_66_7) rfl rfl k) ?_
  show own_Goes _ _ _ _ s₁ (mkF m 8 #[.val (.ref a), .val (.ref o), .unset] [(.ref o)])
  obtain ⟨T1, X1, e1, st1⟩ := instY X0 hx hZ hown (hw _ (List.mem_of_getElem? (i := 64) rfl)) e0 (Ins.self E_o) (g := (mkF m 8 #[.val (.ref a), .val (.ref o), .unset] [(.ref o)])) rfl rfl (hb hby own_jdk_42_method_66_8)
  refine own_step st1 ?_
  show own_Goes _ _ _ _ T1 (mkF m 11 #[.val (.ref a), .val (.ref o), .unset] [(.int (1 : Int32))])
  refine own_step (fun t k => XS.ifNo X1.here hx rfl (hb hby own_jdk_42_method_66_11) rfl ((if0 _ _).trans (feq (show ¬ ((1 : Int32) = (0 : Int32)) from (by decide))).1) k) ?_
  show own_Goes _ _ _ _ T1 (mkF m 14 #[.val (.ref a), .val (.ref o), .unset] [])
  refine own_step (fun t k => XS.aloadN X1.here hx rfl (hb hby own_jdk_42_method_66_14) rfl rfl k) ?_
  show own_Goes _ _ _ _ T1 (mkF m 15 #[.val (.ref a), .val (.ref o), .unset] [(.ref o)])
  obtain ⟨T2, X2, e2, st2⟩ := castY X1 hx hZ hown (hw _ (List.mem_of_getElem? (i := 64) rfl)) e1 (Ins.self E_o) (g := (mkF m 15 #[.val (.ref a), .val (.ref o), .unset] [(.ref o)])) rfl rfl (hb hby own_jdk_42_method_66_15)
  refine own_step st2 ?_
  show own_Goes _ _ _ _ T2 (mkF m 18 #[.val (.ref a), .val (.ref o), .unset] [(.ref o)])
  refine own_step (fun t k => XS.astoreN X2.here hx rfl (hb hby own_jdk_42_method_66_18) rfl rfl (l' := #[.val (.ref a), .val (.ref o), .val (.ref o)]) rfl k) ?_
  show own_Goes _ _ _ _ T2 (mkF m 19 #[.val (.ref a), .val (.ref o), .val (.ref o)] [])
  obtain ⟨T3, X3, e3, st3⟩ := getS2 X2 hx hZ hown (host := "") (Or.inl (hw _ (List.mem_of_getElem? (i := 18) rfl))) Via.refl e2 S_COMPACT_STRINGS (g := (mkF m 19 #[.val (.ref a), .val (.ref o), .val (.ref o)] [])) rfl (hb hby own_jdk_42_method_66_19)
  refine own_step st3 ?_
  show own_Goes _ _ _ _ T3 (mkF m 22 #[.val (.ref a), .val (.ref o), .val (.ref o)] [(.int zc)])
  refine own_step (fun t k => XS.ifNo X3.here hx rfl (hb hby own_jdk_42_method_66_22) rfl ((if0 _ _).trans (feq (show ¬ (zc = (0 : Int32)) from hz)).1) k) ?_
  show own_Goes _ _ _ _ T3 (mkF m 25 #[.val (.ref a), .val (.ref o), .val (.ref o)] [])
  refine own_step (fun t k => XS.aloadN X3.here hx rfl (hb hby own_jdk_42_method_66_25) rfl rfl k) ?_
  show own_Goes _ _ _ _ T3 (mkF m 26 #[.val (.ref a), .val (.ref o), .val (.ref o)] [(.ref a)])
  obtain ⟨T4, X4, e4, st4⟩ := getF X3 hx hZ hown (host := "") (Or.inl (hw _ (List.mem_of_getElem? (i := 30) rfl))) Via.refl e3 F_a_coder (g := (mkF m 26 #[.val (.ref a), .val (.ref o), .val (.ref o)] [(.ref a)])) rfl rfl (hb hby own_jdk_42_method_66_26)
  refine own_step st4 ?_
  show own_Goes _ _ _ _ T4 (mkF m 29 #[.val (.ref a), .val (.ref o), .val (.ref o)] [(.int (0 : Int32))])
  refine own_step (fun t k => XS.aloadN X4.here hx rfl (hb hby own_jdk_42_method_66_29) rfl rfl k) ?_
  show own_Goes _ _ _ _ T4 (mkF m 30 #[.val (.ref a), .val (.ref o), .val (.ref o)] [(.ref o), (.int (0 : Int32))])
  obtain ⟨T5, X5, e5, st5⟩ := getF X4 hx hZ hown (host := "") (Or.inl (hw _ (List.mem_of_getElem? (i := 30) rfl))) Via.refl e4 F_o_coder (g := (mkF m 30 #[.val (.ref a), .val (.ref o), .val (.ref o)] [(.ref o), (.int (0 : Int32))])) rfl rfl (hb hby own_jdk_42_method_66_30)
  refine own_step st5 ?_
  show own_Goes _ _ _ _ T5 (mkF m 33 #[.val (.ref a), .val (.ref o), .val (.ref o)] [(.int (0 : Int32)), (.int (0 : Int32))])
  refine own_step (fun t k => XS.icmpNo X5.here hx rfl (hb hby own_jdk_42_method_66_33) rfl (teq (show (0 : Int32) = (0 : Int32) from (by decide))).2 k) ?_
  show own_Goes _ _ _ _ T5 (mkF m 36 #[.val (.ref a), .val (.ref o), .val (.ref o)] [])
  refine own_step (fun t k => XS.aloadN X5.here hx rfl (hb hby own_jdk_42_method_66_36) rfl rfl k) ?_
  show own_Goes _ _ _ _ T5 (mkF m 37 #[.val (.ref a), .val (.ref o), .val (.ref o)] [(.ref a)])
  obtain ⟨T6, X6, e6, st6⟩ := getF X5 hx hZ hown (host := "") (Or.inl (hw _ (List.mem_of_getElem? (i := 32) rfl))) Via.refl e5 F_a_value (g := (mkF m 37 #[.val (.ref a), .val (.ref o), .val (.ref o)] [(.ref a)])) rfl rfl (hb hby own_jdk_42_method_66_37)
  refine own_step st6 ?_
  show own_Goes _ _ _ _ T6 (mkF m 40 #[.val (.ref a), .val (.ref o), .val (.ref o)] [(.ref va)])
  refine own_step (fun t k => XS.aloadN X6.here hx rfl (hb hby own_jdk_42_method_66_40) rfl rfl k) ?_
  show own_Goes _ _ _ _ T6 (mkF m 41 #[.val (.ref a), .val (.ref o), .val (.ref o)] [(.ref o), (.ref va)])
  obtain ⟨T7, X7, e7, st7⟩ := getF X6 hx hZ hown (host := "") (Or.inl (hw _ (List.mem_of_getElem? (i := 32) rfl))) Via.refl e6 F_o_value (g := (mkF m 41 #[.val (.ref a), .val (.ref o), .val (.ref o)] [(.ref o), (.ref va)])) rfl rfl (hb hby own_jdk_42_method_66_41)
  refine own_step st7 ?_
  show own_Goes _ _ _ _ T7 (mkF m 44 #[.val (.ref a), .val (.ref o), .val (.ref o)] [(.ref vb), (.ref va)])
  refine own_callS X7 hx hZ (y := (⟨"java/lang/StringLatin1", "equals", "([B[B)Z"⟩ : MethodName)) hown (hw _ (List.mem_of_getElem? (i := 65) rfl)) (hw _ (List.mem_of_getElem? (i := 66) rfl)) (hw _ (List.mem_of_getElem? (i := 67) rfl)) (hw _ (List.mem_of_getElem? (i := 68) rfl)) (by decide) 0 [(.ref va), (.ref vb)] [] (own_leq_220 l Z a0 hw [] va vb ka kb x0 x1 y0 y1 h0 n0 Z0 V_va V_vb hq0) e7 (by decide) (by decide) (by decide) (by decide) (g := (mkF m 44 #[.val (.ref a), .val (.ref o), .val (.ref o)] [(.ref vb), (.ref va)])) rfl (by rw [hml]; rfl) own_pd0 rfl rfl (by show 2 * 0 + _ ≤ _; exact Nat.le_of_eq rfl) (hb hby own_jdk_42_method_66_44) ?_
  intro T8 v8 L8 X8 hQ8
  obtain ⟨rfl, N8q, e8⟩ := hQ8
  have N8 := Fr.app N0 N8q
  show own_Goes _ _ _ _ T8 (mkF m 47 #[.val (.ref a), .val (.ref o), .val (.ref o)] [(.int (0 : Int32))])
  refine own_step (fun t k => XS.ifYes X8.here hx rfl (pc0 := 47) (pc' := 54) rfl (hb hby own_jdk_42_method_66_47) rfl ((if0 _ _).trans (teq (show (0 : Int32) = (0 : Int32) from (by decide))).1) (by decide) (by decide) k) ?_
  show own_Goes _ _ _ _ T8 (mkF m 54 #[.val (.ref a), .val (.ref o), .val (.ref o)] [])
  refine own_step (fun t k => XS.iconst X8.here hx rfl (hb hby own_jdk_42_method_66_54) k) ?_
  show own_Goes _ _ _ _ T8 (mkF m 55 #[.val (.ref a), .val (.ref o), .val (.ref o)] [(.int (0 : Int32))])
  exact own_retN X8 hx hlk (t := .boolean) hrt (by simp) (hb hby own_jdk_42_method_66_55) ⟨rfl, N8, e8⟩ (by decide) (by decide)
theorem own_prog_48_method_7_34 : decode prog_48_method_7_code 34 = .ok (.iinc 3 1, 3) := by decide +kernel
theorem own_prog_48_method_7_37 : decode prog_48_method_7_code 37 = .ok (.goto (-28), 3) := by decide +kernel
set_option maxRecDepth 65536 in
set_option maxHeartbeats 40000000 in
theorem own_of1 (l : Launch) (Z : State) (a0 : Array Value) (hw : ∀ d ∈ tables_1, d.before a0 Z = true) (ws : List Jvm.Cond) (o : Addr) (vo : Addr) (ko : ClassId) (zc : Int32) (w_V : Addr) (clv : Cell) (w_EQUAL : Addr) (w_NOT_EQUAL : Addr) (w_LESS : Addr) (w_LESS_OR_EQUAL : Addr) (w_GREATER : Addr) (w_GREATER_OR_EQUAL : Addr) (y_EQUAL : Addr) (z_EQUAL : Addr) (k_EQUAL : ClassId) (y_NOT_EQUAL : Addr) (z_NOT_EQUAL : Addr) (k_NOT_EQUAL : ClassId) (h0 : Heap) (n0 : Nat) (Z0 : n0 ≤ h0.size) (E_o : Exa Z h0 o "java/lang/String") (F_o_coder : Fld Z h0 o "java/lang/String" "coder" "B" (.int (0 : Int32))) (F_o_value : Fld Z h0 o "java/lang/String" "value" "[B" (.ref vo)) (V_vo : Arv Z h0 vo ko .byte (2 : Int32) [(.int (33 : Int32)), (.int (61 : Int32))] (.int (0 : Int32))) (S_COMPACT_STRINGS : Sta Z h0 "java/lang/String" "COMPACT_STRINGS" "Z" (.int zc)) (S__VALUES : Sta Z h0 "com/example/polyphony/polyphony/policy/Operator" "$VALUES" "[Lcom/example/polyphony/polyphony/policy/Operator;" (.ref w_V)) (R_w_V : Arr Z h0 w_V clv (.object "com/example/polyphony/polyphony/policy/Operator")) (E_w_V : Exa Z h0 w_V "[Lcom/example/polyphony/polyphony/policy/Operator;") (F_w_EQUAL_symbol : Fld Z h0 w_EQUAL "com/example/polyphony/polyphony/policy/Operator" "symbol" "Ljava/lang/String;" (.ref y_EQUAL)) (E_y_EQUAL : Exa Z h0 y_EQUAL "java/lang/String") (F_y_EQUAL_coder : Fld Z h0 y_EQUAL "java/lang/String" "coder" "B" (.int (0 : Int32))) (F_y_EQUAL_value : Fld Z h0 y_EQUAL "java/lang/String" "value" "[B" (.ref z_EQUAL)) (V_z_EQUAL : Arv Z h0 z_EQUAL k_EQUAL .byte (2 : Int32) [(.int (61 : Int32)), (.int (61 : Int32))] (.int (0 : Int32))) (F_w_NOT_EQUAL_symbol : Fld Z h0 w_NOT_EQUAL "com/example/polyphony/polyphony/policy/Operator" "symbol" "Ljava/lang/String;" (.ref y_NOT_EQUAL)) (E_y_NOT_EQUAL : Exa Z h0 y_NOT_EQUAL "java/lang/String") (F_y_NOT_EQUAL_coder : Fld Z h0 y_NOT_EQUAL "java/lang/String" "coder" "B" (.int (0 : Int32))) (F_y_NOT_EQUAL_value : Fld Z h0 y_NOT_EQUAL "java/lang/String" "value" "[B" (.ref z_NOT_EQUAL)) (V_z_NOT_EQUAL : Arv Z h0 z_NOT_EQUAL k_NOT_EQUAL .byte (2 : Int32) [(.int (33 : Int32)), (.int (61 : Int32))] (.int (0 : Int32))) (F_v : FitC Z clv) (S_v : clv.slots.size = (6 : Int32).toNatClampNeg) (H_v : Has clv [(.ref w_EQUAL), (.ref w_NOT_EQUAL), (.ref w_LESS), (.ref w_LESS_OR_EQUAL), (.ref w_GREATER), (.ref w_GREATER_OR_EQUAL)] .null) (G_v : ∀ i, i < clv.slots.size → fits (.object "com/example/polyphony/polyphony/policy/Operator") ([(.ref w_EQUAL), (.ref w_NOT_EQUAL), (.ref w_LESS), (.ref w_LESS_OR_EQUAL), (.ref w_GREATER), (.ref w_GREATER_OR_EQUAL)].getD i .null) = true) (hz : ¬ (zc = (0 : Int32))) (neo_EQUAL : ¬ (y_EQUAL = o)) (neo_NOT_EQUAL : ¬ (y_NOT_EQUAL = o)) :
    own_Met l Z (⟨"com/example/polyphony/polyphony/policy/Operator", "of", "(Ljava/lang/String;)Lcom/example/polyphony/polyphony/policy/Operator;"⟩ : MethodName) prog_48_method_7_code 5 (some (.object "com/example/polyphony/polyphony/policy/Operator")) ws ({ frames := 2, cells := 1, slots := 6, locals := 28 } : Room) #[(.ref o)] h0 (fun v h L => v = some (.ref w_NOT_EQUAL) ∧ Fr n0 L ∧ Keep h0 h []) := by
  refine own_body (plainFor_of_name own_pn_com_example_polyphony_polyphony_policy_Operator) (fun p e s m below meth c s₁ hx hby hml0 hrt hlk hown0 hnm hZ X0 e0 => ?_)
  have N0 := Fr.nil n0
  have hown : s.vm.findClass "com/example/polyphony/polyphony/policy/Operator" = some m.cls := hown0
  have hml : c.maxLocals = 5 := hml0
  refine own_castG (own_ef5 m o) ?_
  show own_Goes _ _ _ _ s₁ (mkF m 0 #[.val (.ref o), .unset, .unset, .unset, .unset] [])
  refine own_callS X0 hx hZ (y := (⟨"com/example/polyphony/polyphony/policy/Operator", "values", "()[Lcom/example/polyphony/polyphony/policy/Operator;"⟩ : MethodName)) hown (hw _ (List.mem_of_getElem? (i := 37) rfl)) (hw _ (List.mem_of_getElem? (i := 38) rfl)) (hw _ (List.mem_of_getElem? (i := 3) rfl)) (hw _ (List.mem_of_getElem? (i := 39) rfl)) (by decide) 0 [] [] (own_values l Z a0 hw [] w_V clv w_EQUAL w_NOT_EQUAL w_LESS w_LESS_OR_EQUAL w_GREATER w_GREATER_OR_EQUAL h0 n0 Z0 S__VALUES R_w_V E_w_V F_v S_v H_v G_v) e0 (by decide) (by decide) (by decide) (by decide) (g := (mkF m 0 #[.val (.ref o), .unset, .unset, .unset, .unset] [])) rfl (by rw [hml]; rfl) own_pd1 rfl rfl (by show 2 * 0 + _ ≤ _; exact Nat.le_of_eq rfl) (hb hby own_prog_48_method_7_0) ?_
  intro T1 v1 L1 X1 hQ1
  obtain ⟨b1_0, k1_0, rfl, N1q, Kq1, zq1_0, q1_0⟩ := hQ1
  have N1 := Fr.app N0 N1q
  have K1 := (Keep.refl h0 []).trans Kq1 all0
  have g_b1_0 : n0 ≤ b1_0 := Nat.le_trans Z0 zq1_0
  have sz_b1_0 : h0.size ≤ b1_0 := Nat.le_trans (Keep.refl h0 []).1 zq1_0
  have ne_o_b1_0 : o ≠ b1_0 := Nat.ne_of_lt (Nat.lt_of_lt_of_le E_o.lt zq1_0)
  have ne_vo_b1_0 : vo ≠ b1_0 := Nat.ne_of_lt (Nat.lt_of_lt_of_le V_vo.lt zq1_0)
  have ne_w_V_b1_0 : w_V ≠ b1_0 := Nat.ne_of_lt (Nat.lt_of_lt_of_le E_w_V.lt zq1_0)
  have ne_w_EQUAL_b1_0 : w_EQUAL ≠ b1_0 := Nat.ne_of_lt (Nat.lt_of_lt_of_le F_w_EQUAL_symbol.lt zq1_0)
  have ne_y_EQUAL_b1_0 : y_EQUAL ≠ b1_0 := Nat.ne_of_lt (Nat.lt_of_lt_of_le E_y_EQUAL.lt zq1_0)
  have ne_z_EQUAL_b1_0 : z_EQUAL ≠ b1_0 := Nat.ne_of_lt (Nat.lt_of_lt_of_le V_z_EQUAL.lt zq1_0)
  have ne_w_NOT_EQUAL_b1_0 : w_NOT_EQUAL ≠ b1_0 := Nat.ne_of_lt (Nat.lt_of_lt_of_le F_w_NOT_EQUAL_symbol.lt zq1_0)
  have ne_y_NOT_EQUAL_b1_0 : y_NOT_EQUAL ≠ b1_0 := Nat.ne_of_lt (Nat.lt_of_lt_of_le E_y_NOT_EQUAL.lt zq1_0)
  have ne_z_NOT_EQUAL_b1_0 : z_NOT_EQUAL ≠ b1_0 := Nat.ne_of_lt (Nat.lt_of_lt_of_le V_z_NOT_EQUAL.lt zq1_0)
  have q1_0' : Arv Z T1.heap b1_0 k1_0 (.object "com/example/polyphony/polyphony/policy/Operator") (6 : Int32) [(.ref w_EQUAL), (.ref w_NOT_EQUAL), (.ref w_LESS), (.ref w_LESS_OR_EQUAL), (.ref w_GREATER), (.ref w_GREATER_OR_EQUAL)] .null := q1_0
  show own_Goes _ _ _ _ T1 (mkF m 3 #[.val (.ref o), .unset, .unset, .unset, .unset] [(.ref b1_0)])
  refine own_step (fun t k => XS.astoreN X1.here hx rfl (hb hby own_prog_48_method_7_3) rfl rfl (l' := #[.val (.ref o), .val (.ref b1_0), .unset, .unset, .unset]) rfl k) ?_
  show own_Goes _ _ _ _ T1 (mkF m 4 #[.val (.ref o), .val (.ref b1_0), .unset, .unset, .unset] [])
  refine own_step (fun t k => XS.aloadN X1.here hx rfl (hb hby own_prog_48_method_7_4) rfl rfl k) ?_
  show own_Goes _ _ _ _ T1 (mkF m 5 #[.val (.ref o), .val (.ref b1_0), .unset, .unset, .unset] [(.ref b1_0)])
  refine own_step (own_alen X1 hx hZ rfl q1_0' (g := (mkF m 5 #[.val (.ref o), .val (.ref b1_0), .unset, .unset, .unset] [(.ref b1_0)])) rfl rfl (hb hby own_prog_48_method_7_5)) ?_
  show own_Goes _ _ _ _ T1 (mkF m 6 #[.val (.ref o), .val (.ref b1_0), .unset, .unset, .unset] [(.int (6 : Int32))])
  refine own_step (fun t k => XS.istoreN X1.here hx rfl (hb hby own_prog_48_method_7_6) rfl (l' := #[.val (.ref o), .val (.ref b1_0), .val (.int (6 : Int32)), .unset, .unset]) rfl k) ?_
  show own_Goes _ _ _ _ T1 (mkF m 7 #[.val (.ref o), .val (.ref b1_0), .val (.int (6 : Int32)), .unset, .unset] [])
  refine own_step (fun t k => XS.iconst X1.here hx rfl (hb hby own_prog_48_method_7_7) k) ?_
  show own_Goes _ _ _ _ T1 (mkF m 8 #[.val (.ref o), .val (.ref b1_0), .val (.int (6 : Int32)), .unset, .unset] [(.int (0 : Int32))])
  refine own_step (fun t k => XS.istoreN X1.here hx rfl (hb hby own_prog_48_method_7_8) rfl (l' := #[.val (.ref o), .val (.ref b1_0), .val (.int (6 : Int32)), .val (.int (0 : Int32)), .unset]) rfl k) ?_
  show own_Goes _ _ _ _ T1 (mkF m 9 #[.val (.ref o), .val (.ref b1_0), .val (.int (6 : Int32)), .val (.int (0 : Int32)), .unset] [])
  refine own_step (fun t k => XS.iloadN X1.here hx rfl (hb hby own_prog_48_method_7_9) rfl k) ?_
  show own_Goes _ _ _ _ T1 (mkF m 10 #[.val (.ref o), .val (.ref b1_0), .val (.int (6 : Int32)), .val (.int (0 : Int32)), .unset] [(.int (0 : Int32))])
  refine own_step (fun t k => XS.iloadN X1.here hx rfl (hb hby own_prog_48_method_7_10) rfl k) ?_
  show own_Goes _ _ _ _ T1 (mkF m 11 #[.val (.ref o), .val (.ref b1_0), .val (.int (6 : Int32)), .val (.int (0 : Int32)), .unset] [(.int (6 : Int32)), (.int (0 : Int32))])
  refine own_step (fun t k => XS.icmpNo X1.here hx rfl (hb hby own_prog_48_method_7_11) rfl (tlt (show (0 : Int32) < (6 : Int32) from (by decide))).2.1 k) ?_
  show own_Goes _ _ _ _ T1 (mkF m 14 #[.val (.ref o), .val (.ref b1_0), .val (.int (6 : Int32)), .val (.int (0 : Int32)), .unset] [])
  refine own_step (fun t k => XS.aloadN X1.here hx rfl (hb hby own_prog_48_method_7_14) rfl rfl k) ?_
  show own_Goes _ _ _ _ T1 (mkF m 15 #[.val (.ref o), .val (.ref b1_0), .val (.int (6 : Int32)), .val (.int (0 : Int32)), .unset] [(.ref b1_0)])
  refine own_step (fun t k => XS.iloadN X1.here hx rfl (hb hby own_prog_48_method_7_15) rfl k) ?_
  show own_Goes _ _ _ _ T1 (mkF m 16 #[.val (.ref o), .val (.ref b1_0), .val (.int (6 : Int32)), .val (.int (0 : Int32)), .unset] [(.int (0 : Int32)), (.ref b1_0)])
  refine own_step (own_aaload X1 hx hZ rfl q1_0' rfl (.ref w_EQUAL) ⟨by decide, by decide⟩ rfl (g := (mkF m 16 #[.val (.ref o), .val (.ref b1_0), .val (.int (6 : Int32)), .val (.int (0 : Int32)), .unset] [(.int (0 : Int32)), (.ref b1_0)])) rfl rfl (hb hby own_prog_48_method_7_16)) ?_
  show own_Goes _ _ _ _ T1 (mkF m 17 #[.val (.ref o), .val (.ref b1_0), .val (.int (6 : Int32)), .val (.int (0 : Int32)), .unset] [(.ref w_EQUAL)])
  refine own_step (fun t k => XS.astore X1.here hx rfl (hb hby own_prog_48_method_7_17) rfl rfl (l' := #[.val (.ref o), .val (.ref b1_0), .val (.int (6 : Int32)), .val (.int (0 : Int32)), .val (.ref w_EQUAL)]) rfl k) ?_
  show own_Goes _ _ _ _ T1 (mkF m 19 #[.val (.ref o), .val (.ref b1_0), .val (.int (6 : Int32)), .val (.int (0 : Int32)), .val (.ref w_EQUAL)] [])
  refine own_step (fun t k => XS.aload X1.here hx rfl (hb hby own_prog_48_method_7_19) rfl rfl k) ?_
  show own_Goes _ _ _ _ T1 (mkF m 21 #[.val (.ref o), .val (.ref b1_0), .val (.int (6 : Int32)), .val (.int (0 : Int32)), .val (.ref w_EQUAL)] [(.ref w_EQUAL)])
  have F_w_EQUAL_symbol_v3 := (F_w_EQUAL_symbol.keep Kq1 nin0)
  obtain ⟨T2, X2, e2, st2⟩ := getF X1 hx hZ hown (host := "") (Or.inl (hw _ (List.mem_of_getElem? (i := 57) rfl))) Via.refl rfl F_w_EQUAL_symbol_v3 (g := (mkF m 21 #[.val (.ref o), .val (.ref b1_0), .val (.int (6 : Int32)), .val (.int (0 : Int32)), .val (.ref w_EQUAL)] [(.ref w_EQUAL)])) rfl rfl (hb hby own_prog_48_method_7_21)
  refine own_step st2 ?_
  show own_Goes _ _ _ _ T2 (mkF m 24 #[.val (.ref o), .val (.ref b1_0), .val (.int (6 : Int32)), .val (.int (0 : Int32)), .val (.ref w_EQUAL)] [(.ref y_EQUAL)])
  refine own_step (fun t k => XS.aloadN X2.here hx rfl (hb hby own_prog_48_method_7_24) rfl rfl k) ?_
  show own_Goes _ _ _ _ T2 (mkF m 25 #[.val (.ref o), .val (.ref b1_0), .val (.int (6 : Int32)), .val (.int (0 : Int32)), .val (.ref w_EQUAL)] [(.ref o), (.ref y_EQUAL)])
  have E_o_v4 := (E_o.keep Kq1)
  have F_y_EQUAL_coder_v5 := (F_y_EQUAL_coder.keep Kq1 nin0)
  have F_o_coder_v6 := (F_o_coder.keep Kq1 nin0)
  have F_y_EQUAL_value_v7 := (F_y_EQUAL_value.keep Kq1 nin0)
  have F_o_value_v8 := (F_o_value.keep Kq1 nin0)
  have V_z_EQUAL_v9 := (V_z_EQUAL.keep Kq1 nin0)
  have V_vo_v10 := (V_vo.keep Kq1 nin0)
  have S_COMPACT_STRINGS_v11 := (own_staKeep S_COMPACT_STRINGS Kq1 all0)
  have E_y_EQUAL_v13 := (E_y_EQUAL.keep Kq1)
  refine own_callV X2 hx hZ (y := (⟨"java/lang/String", "equals", "(Ljava/lang/Object;)Z"⟩ : MethodName)) (z := (⟨"java/lang/String", "equals", "(Ljava/lang/Object;)Z"⟩ : MethodName)) hown (hw _ (List.mem_of_getElem? (i := 59) rfl)) (hw _ (List.mem_of_getElem? (i := 60) rfl)) (notFace_of_selects (args := #[]) (mvT hZ (hw _ (List.mem_of_getElem? (i := 62) rfl)))) (hw _ (List.mem_of_getElem? (i := 62) rfl)) (hw _ (List.mem_of_getElem? (i := 61) rfl)) (hw _ (List.mem_of_getElem? (i := 63) rfl)) (hw _ (List.mem_of_getElem? (i := 7) rfl)) (by decide) 0 E_y_EQUAL_v13 [(.ref o)] [] (own_seq_220 l Z a0 hw [] y_EQUAL o z_EQUAL vo k_EQUAL ko (61 : Int32) (61 : Int32) (33 : Int32) (61 : Int32) zc T1.heap n0 (Nat.le_trans Z0 K1.1) E_o_v4 F_y_EQUAL_coder_v5 F_o_coder_v6 F_y_EQUAL_value_v7 F_o_value_v8 V_z_EQUAL_v9 V_vo_v10 S_COMPACT_STRINGS_v11 (by decide) hz neo_EQUAL) e2 (by decide) (by decide) (by decide) (by decide) (g := (mkF m 25 #[.val (.ref o), .val (.ref b1_0), .val (.int (6 : Int32)), .val (.int (0 : Int32)), .val (.ref w_EQUAL)] [(.ref o), (.ref y_EQUAL)])) rfl (by rw [hml]; rfl) own_pd2 rfl rfl (by show 2 * 0 + _ ≤ _; exact Nat.le_of_eq rfl) (hb hby own_prog_48_method_7_25) ?_
  intro T12 v12 L12 X12 hQ12
  obtain ⟨rfl, N12q, e12⟩ := hQ12
  have N12 := Fr.app N1 N12q
  show own_Goes _ _ _ _ T12 (mkF m 28 #[.val (.ref o), .val (.ref b1_0), .val (.int (6 : Int32)), .val (.int (0 : Int32)), .val (.ref w_EQUAL)] [(.int (0 : Int32))])
  refine own_step (fun t k => XS.ifYes X12.here hx rfl (pc0 := 28) (pc' := 34) rfl (hb hby own_prog_48_method_7_28) rfl ((if0 _ _).trans (teq (show (0 : Int32) = (0 : Int32) from (by decide))).1) (by decide) (by decide) k) ?_
  show own_Goes _ _ _ _ T12 (mkF m 34 #[.val (.ref o), .val (.ref b1_0), .val (.int (6 : Int32)), .val (.int (0 : Int32)), .val (.ref w_EQUAL)] [])
  refine own_step (fun t k => XS.iinc X12.here hx rfl (hb hby own_prog_48_method_7_34) rfl (l' := #[.val (.ref o), .val (.ref b1_0), .val (.int (6 : Int32)), .val (.int (1 : Int32)), .val (.ref w_EQUAL)]) rfl k) ?_
  show own_Goes _ _ _ _ T12 (mkF m 37 #[.val (.ref o), .val (.ref b1_0), .val (.int (6 : Int32)), .val (.int (1 : Int32)), .val (.ref w_EQUAL)] [])
  refine own_step (fun t k => XS.goto X12.here hx rfl (pc0 := 37) (pc' := 9) rfl (hb hby own_prog_48_method_7_37) (by decide) (by decide) k) ?_
  show own_Goes _ _ _ _ T12 (mkF m 9 #[.val (.ref o), .val (.ref b1_0), .val (.int (6 : Int32)), .val (.int (1 : Int32)), .val (.ref w_EQUAL)] [])
  refine own_step (fun t k => XS.iloadN X12.here hx rfl (hb hby own_prog_48_method_7_9) rfl k) ?_
  show own_Goes _ _ _ _ T12 (mkF m 10 #[.val (.ref o), .val (.ref b1_0), .val (.int (6 : Int32)), .val (.int (1 : Int32)), .val (.ref w_EQUAL)] [(.int (1 : Int32))])
  refine own_step (fun t k => XS.iloadN X12.here hx rfl (hb hby own_prog_48_method_7_10) rfl k) ?_
  show own_Goes _ _ _ _ T12 (mkF m 11 #[.val (.ref o), .val (.ref b1_0), .val (.int (6 : Int32)), .val (.int (1 : Int32)), .val (.ref w_EQUAL)] [(.int (6 : Int32)), (.int (1 : Int32))])
  refine own_step (fun t k => XS.icmpNo X12.here hx rfl (hb hby own_prog_48_method_7_11) rfl (tlt (show (1 : Int32) < (6 : Int32) from (by decide))).2.1 k) ?_
  show own_Goes _ _ _ _ T12 (mkF m 14 #[.val (.ref o), .val (.ref b1_0), .val (.int (6 : Int32)), .val (.int (1 : Int32)), .val (.ref w_EQUAL)] [])
  refine own_step (fun t k => XS.aloadN X12.here hx rfl (hb hby own_prog_48_method_7_14) rfl rfl k) ?_
  show own_Goes _ _ _ _ T12 (mkF m 15 #[.val (.ref o), .val (.ref b1_0), .val (.int (6 : Int32)), .val (.int (1 : Int32)), .val (.ref w_EQUAL)] [(.ref b1_0)])
  refine own_step (fun t k => XS.iloadN X12.here hx rfl (hb hby own_prog_48_method_7_15) rfl k) ?_
  show own_Goes _ _ _ _ T12 (mkF m 16 #[.val (.ref o), .val (.ref b1_0), .val (.int (6 : Int32)), .val (.int (1 : Int32)), .val (.ref w_EQUAL)] [(.int (1 : Int32)), (.ref b1_0)])
  refine own_step (own_aaload X12 hx hZ e12 q1_0' rfl (.ref w_NOT_EQUAL) ⟨by decide, by decide⟩ rfl (g := (mkF m 16 #[.val (.ref o), .val (.ref b1_0), .val (.int (6 : Int32)), .val (.int (1 : Int32)), .val (.ref w_EQUAL)] [(.int (1 : Int32)), (.ref b1_0)])) rfl rfl (hb hby own_prog_48_method_7_16)) ?_
  show own_Goes _ _ _ _ T12 (mkF m 17 #[.val (.ref o), .val (.ref b1_0), .val (.int (6 : Int32)), .val (.int (1 : Int32)), .val (.ref w_EQUAL)] [(.ref w_NOT_EQUAL)])
  refine own_step (fun t k => XS.astore X12.here hx rfl (hb hby own_prog_48_method_7_17) rfl rfl (l' := #[.val (.ref o), .val (.ref b1_0), .val (.int (6 : Int32)), .val (.int (1 : Int32)), .val (.ref w_NOT_EQUAL)]) rfl k) ?_
  show own_Goes _ _ _ _ T12 (mkF m 19 #[.val (.ref o), .val (.ref b1_0), .val (.int (6 : Int32)), .val (.int (1 : Int32)), .val (.ref w_NOT_EQUAL)] [])
  refine own_step (fun t k => XS.aload X12.here hx rfl (hb hby own_prog_48_method_7_19) rfl rfl k) ?_
  show own_Goes _ _ _ _ T12 (mkF m 21 #[.val (.ref o), .val (.ref b1_0), .val (.int (6 : Int32)), .val (.int (1 : Int32)), .val (.ref w_NOT_EQUAL)] [(.ref w_NOT_EQUAL)])
  have F_w_NOT_EQUAL_symbol_v15 := (F_w_NOT_EQUAL_symbol.keep Kq1 nin0)
  obtain ⟨T14, X14, e14, st14⟩ := getF X12 hx hZ hown (host := "") (Or.inl (hw _ (List.mem_of_getElem? (i := 57) rfl))) Via.refl e12 F_w_NOT_EQUAL_symbol_v15 (g := (mkF m 21 #[.val (.ref o), .val (.ref b1_0), .val (.int (6 : Int32)), .val (.int (1 : Int32)), .val (.ref w_NOT_EQUAL)] [(.ref w_NOT_EQUAL)])) rfl rfl (hb hby own_prog_48_method_7_21)
  refine own_step st14 ?_
  show own_Goes _ _ _ _ T14 (mkF m 24 #[.val (.ref o), .val (.ref b1_0), .val (.int (6 : Int32)), .val (.int (1 : Int32)), .val (.ref w_NOT_EQUAL)] [(.ref y_NOT_EQUAL)])
  refine own_step (fun t k => XS.aloadN X14.here hx rfl (hb hby own_prog_48_method_7_24) rfl rfl k) ?_
  show own_Goes _ _ _ _ T14 (mkF m 25 #[.val (.ref o), .val (.ref b1_0), .val (.int (6 : Int32)), .val (.int (1 : Int32)), .val (.ref w_NOT_EQUAL)] [(.ref o), (.ref y_NOT_EQUAL)])
  have F_y_NOT_EQUAL_coder_v16 := (F_y_NOT_EQUAL_coder.keep Kq1 nin0)
  have F_y_NOT_EQUAL_value_v17 := (F_y_NOT_EQUAL_value.keep Kq1 nin0)
  have V_z_NOT_EQUAL_v18 := (V_z_NOT_EQUAL.keep Kq1 nin0)
  have E_y_NOT_EQUAL_v20 := (E_y_NOT_EQUAL.keep Kq1)
  refine own_callV X14 hx hZ (y := (⟨"java/lang/String", "equals", "(Ljava/lang/Object;)Z"⟩ : MethodName)) (z := (⟨"java/lang/String", "equals", "(Ljava/lang/Object;)Z"⟩ : MethodName)) hown (hw _ (List.mem_of_getElem? (i := 59) rfl)) (hw _ (List.mem_of_getElem? (i := 60) rfl)) (notFace_of_selects (args := #[]) (mvT hZ (hw _ (List.mem_of_getElem? (i := 62) rfl)))) (hw _ (List.mem_of_getElem? (i := 62) rfl)) (hw _ (List.mem_of_getElem? (i := 61) rfl)) (hw _ (List.mem_of_getElem? (i := 63) rfl)) (hw _ (List.mem_of_getElem? (i := 7) rfl)) (by decide) 0 E_y_NOT_EQUAL_v20 [(.ref o)] [] (own_seq_22eq l Z a0 hw [] y_NOT_EQUAL o z_NOT_EQUAL vo k_NOT_EQUAL ko (33 : Int32) (61 : Int32) (33 : Int32) (61 : Int32) zc T1.heap n0 (Nat.le_trans Z0 K1.1) E_o_v4 F_y_NOT_EQUAL_coder_v16 F_o_coder_v6 F_y_NOT_EQUAL_value_v17 F_o_value_v8 V_z_NOT_EQUAL_v18 V_vo_v10 S_COMPACT_STRINGS_v11 (by decide) (by decide) hz neo_NOT_EQUAL) e14 (by decide) (by decide) (by decide) (by decide) (g := (mkF m 25 #[.val (.ref o), .val (.ref b1_0), .val (.int (6 : Int32)), .val (.int (1 : Int32)), .val (.ref w_NOT_EQUAL)] [(.ref o), (.ref y_NOT_EQUAL)])) rfl (by rw [hml]; rfl) own_pd2 rfl rfl (by show 2 * 0 + _ ≤ _; exact Nat.le_of_eq rfl) (hb hby own_prog_48_method_7_25) ?_
  intro T19 v19 L19 X19 hQ19
  obtain ⟨rfl, N19q, e19⟩ := hQ19
  have N19 := Fr.app N12 N19q
  show own_Goes _ _ _ _ T19 (mkF m 28 #[.val (.ref o), .val (.ref b1_0), .val (.int (6 : Int32)), .val (.int (1 : Int32)), .val (.ref w_NOT_EQUAL)] [(.int (1 : Int32))])
  refine own_step (fun t k => XS.ifNo X19.here hx rfl (hb hby own_prog_48_method_7_28) rfl ((if0 _ _).trans (feq (show ¬ ((1 : Int32) = (0 : Int32)) from (by decide))).1) k) ?_
  show own_Goes _ _ _ _ T19 (mkF m 31 #[.val (.ref o), .val (.ref b1_0), .val (.int (6 : Int32)), .val (.int (1 : Int32)), .val (.ref w_NOT_EQUAL)] [])
  refine own_step (fun t k => XS.aload X19.here hx rfl (hb hby own_prog_48_method_7_31) rfl rfl k) ?_
  show own_Goes _ _ _ _ T19 (mkF m 33 #[.val (.ref o), .val (.ref b1_0), .val (.int (6 : Int32)), .val (.int (1 : Int32)), .val (.ref w_NOT_EQUAL)] [(.ref w_NOT_EQUAL)])
  exact own_retA X19 hx hlk hrt rfl rfl rfl (hb hby own_prog_48_method_7_33) (by rw [e19]; exact ⟨rfl, N19, K1⟩) (by decide) (by decide)
theorem own_jdk_43_method_13_34 : decode jdk_43_method_13_code 34 = .ok (.iconst 0, 1) := by decide +kernel
theorem own_jdk_43_method_13_35 : decode jdk_43_method_13_code 35 = .ok (.ireturn, 1) := by decide +kernel
set_option maxRecDepth 65536 in
set_option maxHeartbeats 40000000 in
theorem own_leq_21len (l : Launch) (Z : State) (a0 : Array Value) (hw : ∀ d ∈ tables_1, d.before a0 Z = true) (ws : List Jvm.Cond) (va : Addr) (vb : Addr) (ka : ClassId) (kb : ClassId) (x0 : Int32) (x1 : Int32) (y0 : Int32) (h0 : Heap) (n0 : Nat) (Z0 : n0 ≤ h0.size) (V_va : Arv Z h0 va ka .byte (2 : Int32) [(.int x0), (.int x1)] (.int (0 : Int32))) (V_vb : Arv Z h0 vb kb .byte (1 : Int32) [(.int y0)] (.int (0 : Int32))) :
    own_Met l Z (⟨"java/lang/StringLatin1", "equals", "([B[B)Z"⟩ : MethodName) jdk_43_method_13_code 3 (some .boolean) ws ({ frames := 0, cells := 0, slots := 0, locals := 0 } : Room) #[(.ref va), (.ref vb)] h0 (fun v h L => v = some (.int (0 : Int32)) ∧ Fr n0 L ∧ h = h0) := by
  refine own_body (plainFor_of_name own_pn_java_lang_StringLatin1) (fun p e s m below meth c s₁ hx hby hml0 hrt hlk hown0 hnm hZ X0 e0 => ?_)
  have N0 := Fr.nil n0
  have hown : s.vm.findClass "java/lang/StringLatin1" = some m.cls := hown0
  have hml : c.maxLocals = 3 := hml0
  refine own_castG (own_ef3 m va vb) ?_
  show own_Goes _ _ _ _ s₁ (mkF m 0 #[.val (.ref va), .val (.ref vb), .unset] [])
  refine own_step (fun t k => XS.aloadN X0.here hx rfl (hb hby own_jdk_43_method_13_0) rfl rfl k) ?_
  show own_Goes _ _ _ _ s₁ (mkF m 1 #[.val (.ref va), .val (.ref vb), .unset] [(.ref va)])
  refine own_step (own_alen X0 hx hZ e0 V_va (g := (mkF m 1 #[.val (.ref va), .val (.ref vb), .unset] [(.ref va)])) rfl rfl (hb hby own_jdk_43_method_13_1)) ?_
  show own_Goes _ _ _ _ s₁ (mkF m 2 #[.val (.ref va), .val (.ref vb), .unset] [(.int (2 : Int32))])
  refine own_step (fun t k => XS.aloadN X0.here hx rfl (hb hby own_jdk_43_method_13_2) rfl rfl k) ?_
  show own_Goes _ _ _ _ s₁ (mkF m 3 #[.val (.ref va), .val (.ref vb), .unset] [(.ref vb), (.int (2 : Int32))])
  refine own_step (own_alen X0 hx hZ e0 V_vb (g := (mkF m 3 #[.val (.ref va), .val (.ref vb), .unset] [(.ref vb), (.int (2 : Int32))])) rfl rfl (hb hby own_jdk_43_method_13_3)) ?_
  show own_Goes _ _ _ _ s₁ (mkF m 4 #[.val (.ref va), .val (.ref vb), .unset] [(.int (1 : Int32)), (.int (2 : Int32))])
  refine own_step (fun t k => XS.icmpYes X0.here hx rfl (pc0 := 4) (pc' := 34) rfl (hb hby own_jdk_43_method_13_4) rfl (feq (show ¬ ((2 : Int32) = (1 : Int32)) from (by decide))).2 (by decide) (by decide) k) ?_
  show own_Goes _ _ _ _ s₁ (mkF m 34 #[.val (.ref va), .val (.ref vb), .unset] [])
  refine own_step (fun t k => XS.iconst X0.here hx rfl (hb hby own_jdk_43_method_13_34) k) ?_
  show own_Goes _ _ _ _ s₁ (mkF m 35 #[.val (.ref va), .val (.ref vb), .unset] [(.int (0 : Int32))])
  exact own_retN X0 hx hlk (t := .boolean) hrt (by simp) (hb hby own_jdk_43_method_13_35) ⟨rfl, N0, e0⟩ (by decide) (by decide)
set_option maxRecDepth 65536 in
set_option maxHeartbeats 40000000 in
theorem own_seq_21len (l : Launch) (Z : State) (a0 : Array Value) (hw : ∀ d ∈ tables_1, d.before a0 Z = true) (ws : List Jvm.Cond) (a : Addr) (o : Addr) (va : Addr) (vb : Addr) (ka : ClassId) (kb : ClassId) (x0 : Int32) (x1 : Int32) (y0 : Int32) (zc : Int32) (h0 : Heap) (n0 : Nat) (Z0 : n0 ≤ h0.size) (E_o : Exa Z h0 o "java/lang/String") (F_a_coder : Fld Z h0 a "java/lang/String" "coder" "B" (.int (0 : Int32))) (F_o_coder : Fld Z h0 o "java/lang/String" "coder" "B" (.int (0 : Int32))) (F_a_value : Fld Z h0 a "java/lang/String" "value" "[B" (.ref va)) (F_o_value : Fld Z h0 o "java/lang/String" "value" "[B" (.ref vb)) (V_va : Arv Z h0 va ka .byte (2 : Int32) [(.int x0), (.int x1)] (.int (0 : Int32))) (V_vb : Arv Z h0 vb kb .byte (1 : Int32) [(.int y0)] (.int (0 : Int32))) (S_COMPACT_STRINGS : Sta Z h0 "java/lang/String" "COMPACT_STRINGS" "Z" (.int zc)) (hz : ¬ (zc = (0 : Int32))) (neao : ¬ (a = o)) :
    own_Met l Z (⟨"java/lang/String", "equals", "(Ljava/lang/Object;)Z"⟩ : MethodName) jdk_42_method_66_code 3 (some .boolean) ws ({ frames := 1, cells := 0, slots := 0, locals := 14 } : Room) #[(.ref a), (.ref o)] h0 (fun v h L => v = some (.int (0 : Int32)) ∧ Fr n0 L ∧ h = h0) := by
  refine own_body (plainFor_of_name own_pn_java_lang_String) (fun p e s m below meth c s₁ hx hby hml0 hrt hlk hown0 hnm hZ X0 e0 => ?_)
  have N0 := Fr.nil n0
  have hown : s.vm.findClass "java/lang/String" = some m.cls := hown0
  have hml : c.maxLocals = 3 := hml0
  refine own_castG (own_ef4 m a o) ?_
  show own_Goes _ _ _ _ s₁ (mkF m 0 #[.val (.ref a), .val (.ref o), .unset] [])
  refine own_step (fun t k => XS.aloadN X0.here hx rfl (hb hby own_jdk_42_method_66_0) rfl rfl k) ?_
  show own_Goes _ _ _ _ s₁ (mkF m 1 #[.val (.ref a), .val (.ref o), .unset] [(.ref a)])
  refine own_step (fun t k => XS.aloadN X0.here hx rfl (hb hby own_jdk_42_method_66_1) rfl rfl k) ?_
  show own_Goes _ _ _ _ s₁ (mkF m 2 #[.val (.ref a), .val (.ref o), .unset] [(.ref o), (.ref a)])
  refine own_step (fun t k => Jvm.RoadKit.acmp (g := (mkF m 2 #[.val (.ref a), .val (.ref o), .unset] [(.ref o), (.ref a)])) X0 hx rfl rfl rfl (pc0 := 2) (pc' := 7) (same := false) rfl (hb hby own_jdk_42_method_66_2) rfl (decide_eq_false fun q => neao (Value.ref.inj q)) (by decide) (by decide) k) ?_
  show own_Goes _ _ _ _ s₁ (mkF m 7 #[.val (.ref a), .val (.ref o), .unset] [])
  refine own_step (fun t k => XS.aloadN X0.here hx rfl (hb hby own_jdk_42_method_66_7) rfl rfl k) ?_
  show own_Goes _ _ _ _ s₁ (mkF m 8 #[.val (.ref a), .val (.ref o), .unset] [(.ref o)])
  obtain ⟨T1, X1, e1, st1⟩ := instY X0 hx hZ hown (hw _ (List.mem_of_getElem? (i := 64) rfl)) e0 (Ins.self E_o) (g := (mkF m 8 #[.val (.ref a), .val (.ref o), .unset] [(.ref o)])) rfl rfl (hb hby own_jdk_42_method_66_8)
  refine own_step st1 ?_
  show own_Goes _ _ _ _ T1 (mkF m 11 #[.val (.ref a), .val (.ref o), .unset] [(.int (1 : Int32))])
  refine own_step (fun t k => XS.ifNo X1.here hx rfl (hb hby own_jdk_42_method_66_11) rfl ((if0 _ _).trans (feq (show ¬ ((1 : Int32) = (0 : Int32)) from (by decide))).1) k) ?_
  show own_Goes _ _ _ _ T1 (mkF m 14 #[.val (.ref a), .val (.ref o), .unset] [])
  refine own_step (fun t k => XS.aloadN X1.here hx rfl (hb hby own_jdk_42_method_66_14) rfl rfl k) ?_
  show own_Goes _ _ _ _ T1 (mkF m 15 #[.val (.ref a), .val (.ref o), .unset] [(.ref o)])
  obtain ⟨T2, X2, e2, st2⟩ := castY X1 hx hZ hown (hw _ (List.mem_of_getElem? (i := 64) rfl)) e1 (Ins.self E_o) (g := (mkF m 15 #[.val (.ref a), .val (.ref o), .unset] [(.ref o)])) rfl rfl (hb hby own_jdk_42_method_66_15)
  refine own_step st2 ?_
  show own_Goes _ _ _ _ T2 (mkF m 18 #[.val (.ref a), .val (.ref o), .unset] [(.ref o)])
  refine own_step (fun t k => XS.astoreN X2.here hx rfl (hb hby own_jdk_42_method_66_18) rfl rfl (l' := #[.val (.ref a), .val (.ref o), .val (.ref o)]) rfl k) ?_
  show own_Goes _ _ _ _ T2 (mkF m 19 #[.val (.ref a), .val (.ref o), .val (.ref o)] [])
  obtain ⟨T3, X3, e3, st3⟩ := getS2 X2 hx hZ hown (host := "") (Or.inl (hw _ (List.mem_of_getElem? (i := 18) rfl))) Via.refl e2 S_COMPACT_STRINGS (g := (mkF m 19 #[.val (.ref a), .val (.ref o), .val (.ref o)] [])) rfl (hb hby own_jdk_42_method_66_19)
  refine own_step st3 ?_
  show own_Goes _ _ _ _ T3 (mkF m 22 #[.val (.ref a), .val (.ref o), .val (.ref o)] [(.int zc)])
  refine own_step (fun t k => XS.ifNo X3.here hx rfl (hb hby own_jdk_42_method_66_22) rfl ((if0 _ _).trans (feq (show ¬ (zc = (0 : Int32)) from hz)).1) k) ?_
  show own_Goes _ _ _ _ T3 (mkF m 25 #[.val (.ref a), .val (.ref o), .val (.ref o)] [])
  refine own_step (fun t k => XS.aloadN X3.here hx rfl (hb hby own_jdk_42_method_66_25) rfl rfl k) ?_
  show own_Goes _ _ _ _ T3 (mkF m 26 #[.val (.ref a), .val (.ref o), .val (.ref o)] [(.ref a)])
  obtain ⟨T4, X4, e4, st4⟩ := getF X3 hx hZ hown (host := "") (Or.inl (hw _ (List.mem_of_getElem? (i := 30) rfl))) Via.refl e3 F_a_coder (g := (mkF m 26 #[.val (.ref a), .val (.ref o), .val (.ref o)] [(.ref a)])) rfl rfl (hb hby own_jdk_42_method_66_26)
  refine own_step st4 ?_
  show own_Goes _ _ _ _ T4 (mkF m 29 #[.val (.ref a), .val (.ref o), .val (.ref o)] [(.int (0 : Int32))])
  refine own_step (fun t k => XS.aloadN X4.here hx rfl (hb hby own_jdk_42_method_66_29) rfl rfl k) ?_
  show own_Goes _ _ _ _ T4 (mkF m 30 #[.val (.ref a), .val (.ref o), .val (.ref o)] [(.ref o), (.int (0 : Int32))])
  obtain ⟨T5, X5, e5, st5⟩ := getF X4 hx hZ hown (host := "") (Or.inl (hw _ (List.mem_of_getElem? (i := 30) rfl))) Via.refl e4 F_o_coder (g := (mkF m 30 #[.val (.ref a), .val (.ref o), .val (.ref o)] [(.ref o), (.int (0 : Int32))])) rfl rfl (hb hby own_jdk_42_method_66_30)
  refine own_step st5 ?_
  show own_Goes _ _ _ _ T5 (mkF m 33 #[.val (.ref a), .val (.ref o), .val (.ref o)] [(.int (0 : Int32)), (.int (0 : Int32))])
  refine own_step (fun t k => XS.icmpNo X5.here hx rfl (hb hby own_jdk_42_method_66_33) rfl (teq (show (0 : Int32) = (0 : Int32) from (by decide))).2 k) ?_
  show own_Goes _ _ _ _ T5 (mkF m 36 #[.val (.ref a), .val (.ref o), .val (.ref o)] [])
  refine own_step (fun t k => XS.aloadN X5.here hx rfl (hb hby own_jdk_42_method_66_36) rfl rfl k) ?_
  show own_Goes _ _ _ _ T5 (mkF m 37 #[.val (.ref a), .val (.ref o), .val (.ref o)] [(.ref a)])
  obtain ⟨T6, X6, e6, st6⟩ := getF X5 hx hZ hown (host := "") (Or.inl (hw _ (List.mem_of_getElem? (i := 32) rfl))) Via.refl e5 F_a_value (g := (mkF m 37 #[.val (.ref a), .val (.ref o), .val (.ref o)] [(.ref a)])) rfl rfl (hb hby own_jdk_42_method_66_37)
  refine own_step st6 ?_
  show own_Goes _ _ _ _ T6 (mkF m 40 #[.val (.ref a), .val (.ref o), .val (.ref o)] [(.ref va)])
  refine own_step (fun t k => XS.aloadN X6.here hx rfl (hb hby own_jdk_42_method_66_40) rfl rfl k) ?_
  show own_Goes _ _ _ _ T6 (mkF m 41 #[.val (.ref a), .val (.ref o), .val (.ref o)] [(.ref o), (.ref va)])
  obtain ⟨T7, X7, e7, st7⟩ := getF X6 hx hZ hown (host := "") (Or.inl (hw _ (List.mem_of_getElem? (i := 32) rfl))) Via.refl e6 F_o_value (g := (mkF m 41 #[.val (.ref a), .val (.ref o), .val (.ref o)] [(.ref o), (.ref va)])) rfl rfl (hb hby own_jdk_42_method_66_41)
  refine own_step st7 ?_
  show own_Goes _ _ _ _ T7 (mkF m 44 #[.val (.ref a), .val (.ref o), .val (.ref o)] [(.ref vb), (.ref va)])
  refine own_callS X7 hx hZ (y := (⟨"java/lang/StringLatin1", "equals", "([B[B)Z"⟩ : MethodName)) hown (hw _ (List.mem_of_getElem? (i := 65) rfl)) (hw _ (List.mem_of_getElem? (i := 66) rfl)) (hw _ (List.mem_of_getElem? (i := 67) rfl)) (hw _ (List.mem_of_getElem? (i := 68) rfl)) (by decide) 0 [(.ref va), (.ref vb)] [] (own_leq_21len l Z a0 hw [] va vb ka kb x0 x1 y0 h0 n0 Z0 V_va V_vb) e7 (by decide) (by decide) (by decide) (by decide) (g := (mkF m 44 #[.val (.ref a), .val (.ref o), .val (.ref o)] [(.ref vb), (.ref va)])) rfl (by rw [hml]; rfl) own_pd0 rfl rfl (by show 2 * 0 + _ ≤ _; exact Nat.le_of_eq rfl) (hb hby own_jdk_42_method_66_44) ?_
  intro T8 v8 L8 X8 hQ8
  obtain ⟨rfl, N8q, e8⟩ := hQ8
  have N8 := Fr.app N0 N8q
  show own_Goes _ _ _ _ T8 (mkF m 47 #[.val (.ref a), .val (.ref o), .val (.ref o)] [(.int (0 : Int32))])
  refine own_step (fun t k => XS.ifYes X8.here hx rfl (pc0 := 47) (pc' := 54) rfl (hb hby own_jdk_42_method_66_47) rfl ((if0 _ _).trans (teq (show (0 : Int32) = (0 : Int32) from (by decide))).1) (by decide) (by decide) k) ?_
  show own_Goes _ _ _ _ T8 (mkF m 54 #[.val (.ref a), .val (.ref o), .val (.ref o)] [])
  refine own_step (fun t k => XS.iconst X8.here hx rfl (hb hby own_jdk_42_method_66_54) k) ?_
  show own_Goes _ _ _ _ T8 (mkF m 55 #[.val (.ref a), .val (.ref o), .val (.ref o)] [(.int (0 : Int32))])
  exact own_retN X8 hx hlk (t := .boolean) hrt (by simp) (hb hby own_jdk_42_method_66_55) ⟨rfl, N8, e8⟩ (by decide) (by decide)
set_option maxRecDepth 65536 in
set_option maxHeartbeats 40000000 in
theorem own_leq_11eq (l : Launch) (Z : State) (a0 : Array Value) (hw : ∀ d ∈ tables_1, d.before a0 Z = true) (ws : List Jvm.Cond) (va : Addr) (vb : Addr) (ka : ClassId) (kb : ClassId) (x0 : Int32) (y0 : Int32) (h0 : Heap) (n0 : Nat) (Z0 : n0 ≤ h0.size) (V_va : Arv Z h0 va ka .byte (1 : Int32) [(.int x0)] (.int (0 : Int32))) (V_vb : Arv Z h0 vb kb .byte (1 : Int32) [(.int y0)] (.int (0 : Int32))) (hq0 : x0 = y0) :
    own_Met l Z (⟨"java/lang/StringLatin1", "equals", "([B[B)Z"⟩ : MethodName) jdk_43_method_13_code 3 (some .boolean) ws ({ frames := 0, cells := 0, slots := 0, locals := 0 } : Room) #[(.ref va), (.ref vb)] h0 (fun v h L => v = some (.int (1 : Int32)) ∧ Fr n0 L ∧ h = h0) := by
  refine own_body (plainFor_of_name own_pn_java_lang_StringLatin1) (fun p e s m below meth c s₁ hx hby hml0 hrt hlk hown0 hnm hZ X0 e0 => ?_)
  have N0 := Fr.nil n0
  have hown : s.vm.findClass "java/lang/StringLatin1" = some m.cls := hown0
  have hml : c.maxLocals = 3 := hml0
  refine own_castG (own_ef3 m va vb) ?_
  show own_Goes _ _ _ _ s₁ (mkF m 0 #[.val (.ref va), .val (.ref vb), .unset] [])
  refine own_step (fun t k => XS.aloadN X0.here hx rfl (hb hby own_jdk_43_method_13_0) rfl rfl k) ?_
  show own_Goes _ _ _ _ s₁ (mkF m 1 #[.val (.ref va), .val (.ref vb), .unset] [(.ref va)])
  refine own_step (own_alen X0 hx hZ e0 V_va (g := (mkF m 1 #[.val (.ref va), .val (.ref vb), .unset] [(.ref va)])) rfl rfl (hb hby own_jdk_43_method_13_1)) ?_
  show own_Goes _ _ _ _ s₁ (mkF m 2 #[.val (.ref va), .val (.ref vb), .unset] [(.int (1 : Int32))])
  refine own_step (fun t k => XS.aloadN X0.here hx rfl (hb hby own_jdk_43_method_13_2) rfl rfl k) ?_
  show own_Goes _ _ _ _ s₁ (mkF m 3 #[.val (.ref va), .val (.ref vb), .unset] [(.ref vb), (.int (1 : Int32))])
  refine own_step (own_alen X0 hx hZ e0 V_vb (g := (mkF m 3 #[.val (.ref va), .val (.ref vb), .unset] [(.ref vb), (.int (1 : Int32))])) rfl rfl (hb hby own_jdk_43_method_13_3)) ?_
  show own_Goes _ _ _ _ s₁ (mkF m 4 #[.val (.ref va), .val (.ref vb), .unset] [(.int (1 : Int32)), (.int (1 : Int32))])
  refine own_step (fun t k => XS.icmpNo X0.here hx rfl (hb hby own_jdk_43_method_13_4) rfl (teq (show (1 : Int32) = (1 : Int32) from (by decide))).2 k) ?_
  show own_Goes _ _ _ _ s₁ (mkF m 7 #[.val (.ref va), .val (.ref vb), .unset] [])
  refine own_step (fun t k => XS.iconst X0.here hx rfl (hb hby own_jdk_43_method_13_7) k) ?_
  show own_Goes _ _ _ _ s₁ (mkF m 8 #[.val (.ref va), .val (.ref vb), .unset] [(.int (0 : Int32))])
  refine own_step (fun t k => XS.istoreN X0.here hx rfl (hb hby own_jdk_43_method_13_8) rfl (l' := #[.val (.ref va), .val (.ref vb), .val (.int (0 : Int32))]) rfl k) ?_
  show own_Goes _ _ _ _ s₁ (mkF m 9 #[.val (.ref va), .val (.ref vb), .val (.int (0 : Int32))] [])
  refine own_step (fun t k => XS.iloadN X0.here hx rfl (hb hby own_jdk_43_method_13_9) rfl k) ?_
  show own_Goes _ _ _ _ s₁ (mkF m 10 #[.val (.ref va), .val (.ref vb), .val (.int (0 : Int32))] [(.int (0 : Int32))])
  refine own_step (fun t k => XS.aloadN X0.here hx rfl (hb hby own_jdk_43_method_13_10) rfl rfl k) ?_
  show own_Goes _ _ _ _ s₁ (mkF m 11 #[.val (.ref va), .val (.ref vb), .val (.int (0 : Int32))] [(.ref va), (.int (0 : Int32))])
  refine own_step (own_alen X0 hx hZ e0 V_va (g := (mkF m 11 #[.val (.ref va), .val (.ref vb), .val (.int (0 : Int32))] [(.ref va), (.int (0 : Int32))])) rfl rfl (hb hby own_jdk_43_method_13_11)) ?_
  show own_Goes _ _ _ _ s₁ (mkF m 12 #[.val (.ref va), .val (.ref vb), .val (.int (0 : Int32))] [(.int (1 : Int32)), (.int (0 : Int32))])
  refine own_step (fun t k => XS.icmpNo X0.here hx rfl (hb hby own_jdk_43_method_13_12) rfl (tlt (show (0 : Int32) < (1 : Int32) from (by decide))).2.1 k) ?_
  show own_Goes _ _ _ _ s₁ (mkF m 15 #[.val (.ref va), .val (.ref vb), .val (.int (0 : Int32))] [])
  refine own_step (fun t k => XS.aloadN X0.here hx rfl (hb hby own_jdk_43_method_13_15) rfl rfl k) ?_
  show own_Goes _ _ _ _ s₁ (mkF m 16 #[.val (.ref va), .val (.ref vb), .val (.int (0 : Int32))] [(.ref va)])
  refine own_step (fun t k => XS.iloadN X0.here hx rfl (hb hby own_jdk_43_method_13_16) rfl k) ?_
  show own_Goes _ _ _ _ s₁ (mkF m 17 #[.val (.ref va), .val (.ref vb), .val (.int (0 : Int32))] [(.int (0 : Int32)), (.ref va)])
  refine own_step (own_baload X0 hx hZ e0 V_va (.int x0) ⟨by decide, by decide⟩ rfl (g := (mkF m 17 #[.val (.ref va), .val (.ref vb), .val (.int (0 : Int32))] [(.int (0 : Int32)), (.ref va)])) rfl rfl (hb hby own_jdk_43_method_13_17)) ?_
  show own_Goes _ _ _ _ s₁ (mkF m 18 #[.val (.ref va), .val (.ref vb), .val (.int (0 : Int32))] [(.int x0)])
  refine own_step (fun t k => XS.aloadN X0.here hx rfl (hb hby own_jdk_43_method_13_18) rfl rfl k) ?_
  show own_Goes _ _ _ _ s₁ (mkF m 19 #[.val (.ref va), .val (.ref vb), .val (.int (0 : Int32))] [(.ref vb), (.int x0)])
  refine own_step (fun t k => XS.iloadN X0.here hx rfl (hb hby own_jdk_43_method_13_19) rfl k) ?_
  show own_Goes _ _ _ _ s₁ (mkF m 20 #[.val (.ref va), .val (.ref vb), .val (.int (0 : Int32))] [(.int (0 : Int32)), (.ref vb), (.int x0)])
  refine own_step (own_baload X0 hx hZ e0 V_vb (.int y0) ⟨by decide, by decide⟩ rfl (g := (mkF m 20 #[.val (.ref va), .val (.ref vb), .val (.int (0 : Int32))] [(.int (0 : Int32)), (.ref vb), (.int x0)])) rfl rfl (hb hby own_jdk_43_method_13_20)) ?_
  show own_Goes _ _ _ _ s₁ (mkF m 21 #[.val (.ref va), .val (.ref vb), .val (.int (0 : Int32))] [(.int y0), (.int x0)])
  refine own_step (fun t k => XS.icmpYes X0.here hx rfl (pc0 := 21) (pc' := 26) rfl (hb hby own_jdk_43_method_13_21) rfl (teq (show x0 = y0 from hq0)).1 (by decide) (by decide) k) ?_
  show own_Goes _ _ _ _ s₁ (mkF m 26 #[.val (.ref va), .val (.ref vb), .val (.int (0 : Int32))] [])
  refine own_step (fun t k => XS.iinc X0.here hx rfl (hb hby own_jdk_43_method_13_26) rfl (l' := #[.val (.ref va), .val (.ref vb), .val (.int (1 : Int32))]) rfl k) ?_
  show own_Goes _ _ _ _ s₁ (mkF m 29 #[.val (.ref va), .val (.ref vb), .val (.int (1 : Int32))] [])
  refine own_step (fun t k => XS.goto X0.here hx rfl (pc0 := 29) (pc' := 9) rfl (hb hby own_jdk_43_method_13_29) (by decide) (by decide) k) ?_
  show own_Goes _ _ _ _ s₁ (mkF m 9 #[.val (.ref va), .val (.ref vb), .val (.int (1 : Int32))] [])
  refine own_step (fun t k => XS.iloadN X0.here hx rfl (hb hby own_jdk_43_method_13_9) rfl k) ?_
  show own_Goes _ _ _ _ s₁ (mkF m 10 #[.val (.ref va), .val (.ref vb), .val (.int (1 : Int32))] [(.int (1 : Int32))])
  refine own_step (fun t k => XS.aloadN X0.here hx rfl (hb hby own_jdk_43_method_13_10) rfl rfl k) ?_
  show own_Goes _ _ _ _ s₁ (mkF m 11 #[.val (.ref va), .val (.ref vb), .val (.int (1 : Int32))] [(.ref va), (.int (1 : Int32))])
  refine own_step (own_alen X0 hx hZ e0 V_va (g := (mkF m 11 #[.val (.ref va), .val (.ref vb), .val (.int (1 : Int32))] [(.ref va), (.int (1 : Int32))])) rfl rfl (hb hby own_jdk_43_method_13_11)) ?_
  show own_Goes _ _ _ _ s₁ (mkF m 12 #[.val (.ref va), .val (.ref vb), .val (.int (1 : Int32))] [(.int (1 : Int32)), (.int (1 : Int32))])
  refine own_step (fun t k => XS.icmpYes X0.here hx rfl (pc0 := 12) (pc' := 32) rfl (hb hby own_jdk_43_method_13_12) rfl (flt (show ¬ ((1 : Int32) < (1 : Int32)) from (by decide))).2.1 (by decide) (by decide) k) ?_
  show own_Goes _ _ _ _ s₁ (mkF m 32 #[.val (.ref va), .val (.ref vb), .val (.int (1 : Int32))] [])
  refine own_step (fun t k => XS.iconst X0.here hx rfl (hb hby own_jdk_43_method_13_32) k) ?_
  show own_Goes _ _ _ _ s₁ (mkF m 33 #[.val (.ref va), .val (.ref vb), .val (.int (1 : Int32))] [(.int (1 : Int32))])
  exact own_retN X0 hx hlk (t := .boolean) hrt (by simp) (hb hby own_jdk_43_method_13_33) ⟨rfl, N0, e0⟩ (by decide) (by decide)
set_option maxRecDepth 65536 in
set_option maxHeartbeats 40000000 in
theorem own_seq_11eq (l : Launch) (Z : State) (a0 : Array Value) (hw : ∀ d ∈ tables_1, d.before a0 Z = true) (ws : List Jvm.Cond) (a : Addr) (o : Addr) (va : Addr) (vb : Addr) (ka : ClassId) (kb : ClassId) (x0 : Int32) (y0 : Int32) (zc : Int32) (h0 : Heap) (n0 : Nat) (Z0 : n0 ≤ h0.size) (E_o : Exa Z h0 o "java/lang/String") (F_a_coder : Fld Z h0 a "java/lang/String" "coder" "B" (.int (0 : Int32))) (F_o_coder : Fld Z h0 o "java/lang/String" "coder" "B" (.int (0 : Int32))) (F_a_value : Fld Z h0 a "java/lang/String" "value" "[B" (.ref va)) (F_o_value : Fld Z h0 o "java/lang/String" "value" "[B" (.ref vb)) (V_va : Arv Z h0 va ka .byte (1 : Int32) [(.int x0)] (.int (0 : Int32))) (V_vb : Arv Z h0 vb kb .byte (1 : Int32) [(.int y0)] (.int (0 : Int32))) (S_COMPACT_STRINGS : Sta Z h0 "java/lang/String" "COMPACT_STRINGS" "Z" (.int zc)) (hq0 : x0 = y0) (hz : ¬ (zc = (0 : Int32))) (neao : ¬ (a = o)) :
    own_Met l Z (⟨"java/lang/String", "equals", "(Ljava/lang/Object;)Z"⟩ : MethodName) jdk_42_method_66_code 3 (some .boolean) ws ({ frames := 1, cells := 0, slots := 0, locals := 14 } : Room) #[(.ref a), (.ref o)] h0 (fun v h L => v = some (.int (1 : Int32)) ∧ Fr n0 L ∧ h = h0) := by
  refine own_body (plainFor_of_name own_pn_java_lang_String) (fun p e s m below meth c s₁ hx hby hml0 hrt hlk hown0 hnm hZ X0 e0 => ?_)
  have N0 := Fr.nil n0
  have hown : s.vm.findClass "java/lang/String" = some m.cls := hown0
  have hml : c.maxLocals = 3 := hml0
  refine own_castG (own_ef4 m a o) ?_
  show own_Goes _ _ _ _ s₁ (mkF m 0 #[.val (.ref a), .val (.ref o), .unset] [])
  refine own_step (fun t k => XS.aloadN X0.here hx rfl (hb hby own_jdk_42_method_66_0) rfl rfl k) ?_
  show own_Goes _ _ _ _ s₁ (mkF m 1 #[.val (.ref a), .val (.ref o), .unset] [(.ref a)])
  refine own_step (fun t k => XS.aloadN X0.here hx rfl (hb hby own_jdk_42_method_66_1) rfl rfl k) ?_
  show own_Goes _ _ _ _ s₁ (mkF m 2 #[.val (.ref a), .val (.ref o), .unset] [(.ref o), (.ref a)])
  refine own_step (fun t k => Jvm.RoadKit.acmp (g := (mkF m 2 #[.val (.ref a), .val (.ref o), .unset] [(.ref o), (.ref a)])) X0 hx rfl rfl rfl (pc0 := 2) (pc' := 7) (same := false) rfl (hb hby own_jdk_42_method_66_2) rfl (decide_eq_false fun q => neao (Value.ref.inj q)) (by decide) (by decide) k) ?_
  show own_Goes _ _ _ _ s₁ (mkF m 7 #[.val (.ref a), .val (.ref o), .unset] [])
  refine own_step (fun t k => XS.aloadN X0.here hx rfl (hb hby own_jdk_42_method_66_7) rfl rfl k) ?_
  show own_Goes _ _ _ _ s₁ (mkF m 8 #[.val (.ref a), .val (.ref o), .unset] [(.ref o)])
  obtain ⟨T1, X1, e1, st1⟩ := instY X0 hx hZ hown (hw _ (List.mem_of_getElem? (i := 64) rfl)) e0 (Ins.self E_o) (g := (mkF m 8 #[.val (.ref a), .val (.ref o), .unset] [(.ref o)])) rfl rfl (hb hby own_jdk_42_method_66_8)
  refine own_step st1 ?_
  show own_Goes _ _ _ _ T1 (mkF m 11 #[.val (.ref a), .val (.ref o), .unset] [(.int (1 : Int32))])
  refine own_step (fun t k => XS.ifNo X1.here hx rfl (hb hby own_jdk_42_method_66_11) rfl ((if0 _ _).trans (feq (show ¬ ((1 : Int32) = (0 : Int32)) from (by decide))).1) k) ?_
  show own_Goes _ _ _ _ T1 (mkF m 14 #[.val (.ref a), .val (.ref o), .unset] [])
  refine own_step (fun t k => XS.aloadN X1.here hx rfl (hb hby own_jdk_42_method_66_14) rfl rfl k) ?_
  show own_Goes _ _ _ _ T1 (mkF m 15 #[.val (.ref a), .val (.ref o), .unset] [(.ref o)])
  obtain ⟨T2, X2, e2, st2⟩ := castY X1 hx hZ hown (hw _ (List.mem_of_getElem? (i := 64) rfl)) e1 (Ins.self E_o) (g := (mkF m 15 #[.val (.ref a), .val (.ref o), .unset] [(.ref o)])) rfl rfl (hb hby own_jdk_42_method_66_15)
  refine own_step st2 ?_
  show own_Goes _ _ _ _ T2 (mkF m 18 #[.val (.ref a), .val (.ref o), .unset] [(.ref o)])
  refine own_step (fun t k => XS.astoreN X2.here hx rfl (hb hby own_jdk_42_method_66_18) rfl rfl (l' := #[.val (.ref a), .val (.ref o), .val (.ref o)]) rfl k) ?_
  show own_Goes _ _ _ _ T2 (mkF m 19 #[.val (.ref a), .val (.ref o), .val (.ref o)] [])
  obtain ⟨T3, X3, e3, st3⟩ := getS2 X2 hx hZ hown (host := "") (Or.inl (hw _ (List.mem_of_getElem? (i := 18) rfl))) Via.refl e2 S_COMPACT_STRINGS (g := (mkF m 19 #[.val (.ref a), .val (.ref o), .val (.ref o)] [])) rfl (hb hby own_jdk_42_method_66_19)
  refine own_step st3 ?_
  show own_Goes _ _ _ _ T3 (mkF m 22 #[.val (.ref a), .val (.ref o), .val (.ref o)] [(.int zc)])
  refine own_step (fun t k => XS.ifNo X3.here hx rfl (hb hby own_jdk_42_method_66_22) rfl ((if0 _ _).trans (feq (show ¬ (zc = (0 : Int32)) from hz)).1) k) ?_
  show own_Goes _ _ _ _ T3 (mkF m 25 #[.val (.ref a), .val (.ref o), .val (.ref o)] [])
  refine own_step (fun t k => XS.aloadN X3.here hx rfl (hb hby own_jdk_42_method_66_25) rfl rfl k) ?_
  show own_Goes _ _ _ _ T3 (mkF m 26 #[.val (.ref a), .val (.ref o), .val (.ref o)] [(.ref a)])
  obtain ⟨T4, X4, e4, st4⟩ := getF X3 hx hZ hown (host := "") (Or.inl (hw _ (List.mem_of_getElem? (i := 30) rfl))) Via.refl e3 F_a_coder (g := (mkF m 26 #[.val (.ref a), .val (.ref o), .val (.ref o)] [(.ref a)])) rfl rfl (hb hby own_jdk_42_method_66_26)
  refine own_step st4 ?_
  show own_Goes _ _ _ _ T4 (mkF m 29 #[.val (.ref a), .val (.ref o), .val (.ref o)] [(.int (0 : Int32))])
  refine own_step (fun t k => XS.aloadN X4.here hx rfl (hb hby own_jdk_42_method_66_29) rfl rfl k) ?_
  show own_Goes _ _ _ _ T4 (mkF m 30 #[.val (.ref a), .val (.ref o), .val (.ref o)] [(.ref o), (.int (0 : Int32))])
  obtain ⟨T5, X5, e5, st5⟩ := getF X4 hx hZ hown (host := "") (Or.inl (hw _ (List.mem_of_getElem? (i := 30) rfl))) Via.refl e4 F_o_coder (g := (mkF m 30 #[.val (.ref a), .val (.ref o), .val (.ref o)] [(.ref o), (.int (0 : Int32))])) rfl rfl (hb hby own_jdk_42_method_66_30)
  refine own_step st5 ?_
  show own_Goes _ _ _ _ T5 (mkF m 33 #[.val (.ref a), .val (.ref o), .val (.ref o)] [(.int (0 : Int32)), (.int (0 : Int32))])
  refine own_step (fun t k => XS.icmpNo X5.here hx rfl (hb hby own_jdk_42_method_66_33) rfl (teq (show (0 : Int32) = (0 : Int32) from (by decide))).2 k) ?_
  show own_Goes _ _ _ _ T5 (mkF m 36 #[.val (.ref a), .val (.ref o), .val (.ref o)] [])
  refine own_step (fun t k => XS.aloadN X5.here hx rfl (hb hby own_jdk_42_method_66_36) rfl rfl k) ?_
  show own_Goes _ _ _ _ T5 (mkF m 37 #[.val (.ref a), .val (.ref o), .val (.ref o)] [(.ref a)])
  obtain ⟨T6, X6, e6, st6⟩ := getF X5 hx hZ hown (host := "") (Or.inl (hw _ (List.mem_of_getElem? (i := 32) rfl))) Via.refl e5 F_a_value (g := (mkF m 37 #[.val (.ref a), .val (.ref o), .val (.ref o)] [(.ref a)])) rfl rfl (hb hby own_jdk_42_method_66_37)
  refine own_step st6 ?_
  show own_Goes _ _ _ _ T6 (mkF m 40 #[.val (.ref a), .val (.ref o), .val (.ref o)] [(.ref va)])
  refine own_step (fun t k => XS.aloadN X6.here hx rfl (hb hby own_jdk_42_method_66_40) rfl rfl k) ?_
  show own_Goes _ _ _ _ T6 (mkF m 41 #[.val (.ref a), .val (.ref o), .val (.ref o)] [(.ref o), (.ref va)])
  obtain ⟨T7, X7, e7, st7⟩ := getF X6 hx hZ hown (host := "") (Or.inl (hw _ (List.mem_of_getElem? (i := 32) rfl))) Via.refl e6 F_o_value (g := (mkF m 41 #[.val (.ref a), .val (.ref o), .val (.ref o)] [(.ref o), (.ref va)])) rfl rfl (hb hby own_jdk_42_method_66_41)
  refine own_step st7 ?_
  show own_Goes _ _ _ _ T7 (mkF m 44 #[.val (.ref a), .val (.ref o), .val (.ref o)] [(.ref vb), (.ref va)])
  refine own_callS X7 hx hZ (y := (⟨"java/lang/StringLatin1", "equals", "([B[B)Z"⟩ : MethodName)) hown (hw _ (List.mem_of_getElem? (i := 65) rfl)) (hw _ (List.mem_of_getElem? (i := 66) rfl)) (hw _ (List.mem_of_getElem? (i := 67) rfl)) (hw _ (List.mem_of_getElem? (i := 68) rfl)) (by decide) 0 [(.ref va), (.ref vb)] [] (own_leq_11eq l Z a0 hw [] va vb ka kb x0 y0 h0 n0 Z0 V_va V_vb hq0) e7 (by decide) (by decide) (by decide) (by decide) (g := (mkF m 44 #[.val (.ref a), .val (.ref o), .val (.ref o)] [(.ref vb), (.ref va)])) rfl (by rw [hml]; rfl) own_pd0 rfl rfl (by show 2 * 0 + _ ≤ _; exact Nat.le_of_eq rfl) (hb hby own_jdk_42_method_66_44) ?_
  intro T8 v8 L8 X8 hQ8
  obtain ⟨rfl, N8q, e8⟩ := hQ8
  have N8 := Fr.app N0 N8q
  show own_Goes _ _ _ _ T8 (mkF m 47 #[.val (.ref a), .val (.ref o), .val (.ref o)] [(.int (1 : Int32))])
  refine own_step (fun t k => XS.ifNo X8.here hx rfl (hb hby own_jdk_42_method_66_47) rfl ((if0 _ _).trans (feq (show ¬ ((1 : Int32) = (0 : Int32)) from (by decide))).1) k) ?_
  show own_Goes _ _ _ _ T8 (mkF m 50 #[.val (.ref a), .val (.ref o), .val (.ref o)] [])
  refine own_step (fun t k => XS.iconst X8.here hx rfl (hb hby own_jdk_42_method_66_50) k) ?_
  show own_Goes _ _ _ _ T8 (mkF m 51 #[.val (.ref a), .val (.ref o), .val (.ref o)] [(.int (1 : Int32))])
  refine own_step (fun t k => XS.goto X8.here hx rfl (pc0 := 51) (pc' := 55) rfl (hb hby own_jdk_42_method_66_51) (by decide) (by decide) k) ?_
  show own_Goes _ _ _ _ T8 (mkF m 55 #[.val (.ref a), .val (.ref o), .val (.ref o)] [(.int (1 : Int32))])
  exact own_retN X8 hx hlk (t := .boolean) hrt (by simp) (hb hby own_jdk_42_method_66_55) ⟨rfl, N8, e8⟩ (by decide) (by decide)
set_option maxRecDepth 65536 in
set_option maxHeartbeats 40000000 in
theorem own_of2 (l : Launch) (Z : State) (a0 : Array Value) (hw : ∀ d ∈ tables_1, d.before a0 Z = true) (ws : List Jvm.Cond) (o : Addr) (vo : Addr) (ko : ClassId) (zc : Int32) (w_V : Addr) (clv : Cell) (w_EQUAL : Addr) (w_NOT_EQUAL : Addr) (w_LESS : Addr) (w_LESS_OR_EQUAL : Addr) (w_GREATER : Addr) (w_GREATER_OR_EQUAL : Addr) (y_EQUAL : Addr) (z_EQUAL : Addr) (k_EQUAL : ClassId) (y_NOT_EQUAL : Addr) (z_NOT_EQUAL : Addr) (k_NOT_EQUAL : ClassId) (y_LESS : Addr) (z_LESS : Addr) (k_LESS : ClassId) (h0 : Heap) (n0 : Nat) (Z0 : n0 ≤ h0.size) (E_o : Exa Z h0 o "java/lang/String") (F_o_coder : Fld Z h0 o "java/lang/String" "coder" "B" (.int (0 : Int32))) (F_o_value : Fld Z h0 o "java/lang/String" "value" "[B" (.ref vo)) (V_vo : Arv Z h0 vo ko .byte (1 : Int32) [(.int (60 : Int32))] (.int (0 : Int32))) (S_COMPACT_STRINGS : Sta Z h0 "java/lang/String" "COMPACT_STRINGS" "Z" (.int zc)) (S__VALUES : Sta Z h0 "com/example/polyphony/polyphony/policy/Operator" "$VALUES" "[Lcom/example/polyphony/polyphony/policy/Operator;" (.ref w_V)) (R_w_V : Arr Z h0 w_V clv (.object "com/example/polyphony/polyphony/policy/Operator")) (E_w_V : Exa Z h0 w_V "[Lcom/example/polyphony/polyphony/policy/Operator;") (F_w_EQUAL_symbol : Fld Z h0 w_EQUAL "com/example/polyphony/polyphony/policy/Operator" "symbol" "Ljava/lang/String;" (.ref y_EQUAL)) (E_y_EQUAL : Exa Z h0 y_EQUAL "java/lang/String") (F_y_EQUAL_coder : Fld Z h0 y_EQUAL "java/lang/String" "coder" "B" (.int (0 : Int32))) (F_y_EQUAL_value : Fld Z h0 y_EQUAL "java/lang/String" "value" "[B" (.ref z_EQUAL)) (V_z_EQUAL : Arv Z h0 z_EQUAL k_EQUAL .byte (2 : Int32) [(.int (61 : Int32)), (.int (61 : Int32))] (.int (0 : Int32))) (F_w_NOT_EQUAL_symbol : Fld Z h0 w_NOT_EQUAL "com/example/polyphony/polyphony/policy/Operator" "symbol" "Ljava/lang/String;" (.ref y_NOT_EQUAL)) (E_y_NOT_EQUAL : Exa Z h0 y_NOT_EQUAL "java/lang/String") (F_y_NOT_EQUAL_coder : Fld Z h0 y_NOT_EQUAL "java/lang/String" "coder" "B" (.int (0 : Int32))) (F_y_NOT_EQUAL_value : Fld Z h0 y_NOT_EQUAL "java/lang/String" "value" "[B" (.ref z_NOT_EQUAL)) (V_z_NOT_EQUAL : Arv Z h0 z_NOT_EQUAL k_NOT_EQUAL .byte (2 : Int32) [(.int (33 : Int32)), (.int (61 : Int32))] (.int (0 : Int32))) (F_w_LESS_symbol : Fld Z h0 w_LESS "com/example/polyphony/polyphony/policy/Operator" "symbol" "Ljava/lang/String;" (.ref y_LESS)) (E_y_LESS : Exa Z h0 y_LESS "java/lang/String") (F_y_LESS_coder : Fld Z h0 y_LESS "java/lang/String" "coder" "B" (.int (0 : Int32))) (F_y_LESS_value : Fld Z h0 y_LESS "java/lang/String" "value" "[B" (.ref z_LESS)) (V_z_LESS : Arv Z h0 z_LESS k_LESS .byte (1 : Int32) [(.int (60 : Int32))] (.int (0 : Int32))) (F_v : FitC Z clv) (S_v : clv.slots.size = (6 : Int32).toNatClampNeg) (H_v : Has clv [(.ref w_EQUAL), (.ref w_NOT_EQUAL), (.ref w_LESS), (.ref w_LESS_OR_EQUAL), (.ref w_GREATER), (.ref w_GREATER_OR_EQUAL)] .null) (G_v : ∀ i, i < clv.slots.size → fits (.object "com/example/polyphony/polyphony/policy/Operator") ([(.ref w_EQUAL), (.ref w_NOT_EQUAL), (.ref w_LESS), (.ref w_LESS_OR_EQUAL), (.ref w_GREATER), (.ref w_GREATER_OR_EQUAL)].getD i .null) = true) (hz : ¬ (zc = (0 : Int32))) (neo_EQUAL : ¬ (y_EQUAL = o)) (neo_NOT_EQUAL : ¬ (y_NOT_EQUAL = o)) (neo_LESS : ¬ (y_LESS = o)) :
    own_Met l Z (⟨"com/example/polyphony/polyphony/policy/Operator", "of", "(Ljava/lang/String;)Lcom/example/polyphony/polyphony/policy/Operator;"⟩ : MethodName) prog_48_method_7_code 5 (some (.object "com/example/polyphony/polyphony/policy/Operator")) ws ({ frames := 2, cells := 1, slots := 6, locals := 28 } : Room) #[(.ref o)] h0 (fun v h L => v = some (.ref w_LESS) ∧ Fr n0 L ∧ Keep h0 h []) := by
  refine own_body (plainFor_of_name own_pn_com_example_polyphony_polyphony_policy_Operator) (fun p e s m below meth c s₁ hx hby hml0 hrt hlk hown0 hnm hZ X0 e0 => ?_)
  have N0 := Fr.nil n0
  have hown : s.vm.findClass "com/example/polyphony/polyphony/policy/Operator" = some m.cls := hown0
  have hml : c.maxLocals = 5 := hml0
  refine own_castG (own_ef5 m o) ?_
  show own_Goes _ _ _ _ s₁ (mkF m 0 #[.val (.ref o), .unset, .unset, .unset, .unset] [])
  refine own_callS X0 hx hZ (y := (⟨"com/example/polyphony/polyphony/policy/Operator", "values", "()[Lcom/example/polyphony/polyphony/policy/Operator;"⟩ : MethodName)) hown (hw _ (List.mem_of_getElem? (i := 37) rfl)) (hw _ (List.mem_of_getElem? (i := 38) rfl)) (hw _ (List.mem_of_getElem? (i := 3) rfl)) (hw _ (List.mem_of_getElem? (i := 39) rfl)) (by decide) 0 [] [] (own_values l Z a0 hw [] w_V clv w_EQUAL w_NOT_EQUAL w_LESS w_LESS_OR_EQUAL w_GREATER w_GREATER_OR_EQUAL h0 n0 Z0 S__VALUES R_w_V E_w_V F_v S_v H_v G_v) e0 (by decide) (by decide) (by decide) (by decide) (g := (mkF m 0 #[.val (.ref o), .unset, .unset, .unset, .unset] [])) rfl (by rw [hml]; rfl) own_pd1 rfl rfl (by show 2 * 0 + _ ≤ _; exact Nat.le_of_eq rfl) (hb hby own_prog_48_method_7_0) ?_
  intro T1 v1 L1 X1 hQ1
  obtain ⟨b1_0, k1_0, rfl, N1q, Kq1, zq1_0, q1_0⟩ := hQ1
  have N1 := Fr.app N0 N1q
  have K1 := (Keep.refl h0 []).trans Kq1 all0
  have g_b1_0 : n0 ≤ b1_0 := Nat.le_trans Z0 zq1_0
  have sz_b1_0 : h0.size ≤ b1_0 := Nat.le_trans (Keep.refl h0 []).1 zq1_0
  have ne_o_b1_0 : o ≠ b1_0 := Nat.ne_of_lt (Nat.lt_of_lt_of_le E_o.lt zq1_0)
  have ne_vo_b1_0 : vo ≠ b1_0 := Nat.ne_of_lt (Nat.lt_of_lt_of_le V_vo.lt zq1_0)
  have ne_w_V_b1_0 : w_V ≠ b1_0 := Nat.ne_of_lt (Nat.lt_of_lt_of_le E_w_V.lt zq1_0)
  have ne_w_EQUAL_b1_0 : w_EQUAL ≠ b1_0 := Nat.ne_of_lt (Nat.lt_of_lt_of_le F_w_EQUAL_symbol.lt zq1_0)
  have ne_y_EQUAL_b1_0 : y_EQUAL ≠ b1_0 := Nat.ne_of_lt (Nat.lt_of_lt_of_le E_y_EQUAL.lt zq1_0)
  have ne_z_EQUAL_b1_0 : z_EQUAL ≠ b1_0 := Nat.ne_of_lt (Nat.lt_of_lt_of_le V_z_EQUAL.lt zq1_0)
  have ne_w_NOT_EQUAL_b1_0 : w_NOT_EQUAL ≠ b1_0 := Nat.ne_of_lt (Nat.lt_of_lt_of_le F_w_NOT_EQUAL_symbol.lt zq1_0)
  have ne_y_NOT_EQUAL_b1_0 : y_NOT_EQUAL ≠ b1_0 := Nat.ne_of_lt (Nat.lt_of_lt_of_le E_y_NOT_EQUAL.lt zq1_0)
  have ne_z_NOT_EQUAL_b1_0 : z_NOT_EQUAL ≠ b1_0 := Nat.ne_of_lt (Nat.lt_of_lt_of_le V_z_NOT_EQUAL.lt zq1_0)
  have ne_w_LESS_b1_0 : w_LESS ≠ b1_0 := Nat.ne_of_lt (Nat.lt_of_lt_of_le F_w_LESS_symbol.lt zq1_0)
  have ne_y_LESS_b1_0 : y_LESS ≠ b1_0 := Nat.ne_of_lt (Nat.lt_of_lt_of_le E_y_LESS.lt zq1_0)
  have ne_z_LESS_b1_0 : z_LESS ≠ b1_0 := Nat.ne_of_lt (Nat.lt_of_lt_of_le V_z_LESS.lt zq1_0)
  have q1_0' : Arv Z T1.heap b1_0 k1_0 (.object "com/example/polyphony/polyphony/policy/Operator") (6 : Int32) [(.ref w_EQUAL), (.ref w_NOT_EQUAL), (.ref w_LESS), (.ref w_LESS_OR_EQUAL), (.ref w_GREATER), (.ref w_GREATER_OR_EQUAL)] .null := q1_0
  show own_Goes _ _ _ _ T1 (mkF m 3 #[.val (.ref o), .unset, .unset, .unset, .unset] [(.ref b1_0)])
  refine own_step (fun t k => XS.astoreN X1.here hx rfl (hb hby own_prog_48_method_7_3) rfl rfl (l' := #[.val (.ref o), .val (.ref b1_0), .unset, .unset, .unset]) rfl k) ?_
  show own_Goes _ _ _ _ T1 (mkF m 4 #[.val (.ref o), .val (.ref b1_0), .unset, .unset, .unset] [])
  refine own_step (fun t k => XS.aloadN X1.here hx rfl (hb hby own_prog_48_method_7_4) rfl rfl k) ?_
  show own_Goes _ _ _ _ T1 (mkF m 5 #[.val (.ref o), .val (.ref b1_0), .unset, .unset, .unset] [(.ref b1_0)])
  refine own_step (own_alen X1 hx hZ rfl q1_0' (g := (mkF m 5 #[.val (.ref o), .val (.ref b1_0), .unset, .unset, .unset] [(.ref b1_0)])) rfl rfl (hb hby own_prog_48_method_7_5)) ?_
  show own_Goes _ _ _ _ T1 (mkF m 6 #[.val (.ref o), .val (.ref b1_0), .unset, .unset, .unset] [(.int (6 : Int32))])
  refine own_step (fun t k => XS.istoreN X1.here hx rfl (hb hby own_prog_48_method_7_6) rfl (l' := #[.val (.ref o), .val (.ref b1_0), .val (.int (6 : Int32)), .unset, .unset]) rfl k) ?_
  show own_Goes _ _ _ _ T1 (mkF m 7 #[.val (.ref o), .val (.ref b1_0), .val (.int (6 : Int32)), .unset, .unset] [])
  refine own_step (fun t k => XS.iconst X1.here hx rfl (hb hby own_prog_48_method_7_7) k) ?_
  show own_Goes _ _ _ _ T1 (mkF m 8 #[.val (.ref o), .val (.ref b1_0), .val (.int (6 : Int32)), .unset, .unset] [(.int (0 : Int32))])
  refine own_step (fun t k => XS.istoreN X1.here hx rfl (hb hby own_prog_48_method_7_8) rfl (l' := #[.val (.ref o), .val (.ref b1_0), .val (.int (6 : Int32)), .val (.int (0 : Int32)), .unset]) rfl k) ?_
  show own_Goes _ _ _ _ T1 (mkF m 9 #[.val (.ref o), .val (.ref b1_0), .val (.int (6 : Int32)), .val (.int (0 : Int32)), .unset] [])
  refine own_step (fun t k => XS.iloadN X1.here hx rfl (hb hby own_prog_48_method_7_9) rfl k) ?_
  show own_Goes _ _ _ _ T1 (mkF m 10 #[.val (.ref o), .val (.ref b1_0), .val (.int (6 : Int32)), .val (.int (0 : Int32)), .unset] [(.int (0 : Int32))])
  refine own_step (fun t k => XS.iloadN X1.here hx rfl (hb hby own_prog_48_method_7_10) rfl k) ?_
  show own_Goes _ _ _ _ T1 (mkF m 11 #[.val (.ref o), .val (.ref b1_0), .val (.int (6 : Int32)), .val (.int (0 : Int32)), .unset] [(.int (6 : Int32)), (.int (0 : Int32))])
  refine own_step (fun t k => XS.icmpNo X1.here hx rfl (hb hby own_prog_48_method_7_11) rfl (tlt (show (0 : Int32) < (6 : Int32) from (by decide))).2.1 k) ?_
  show own_Goes _ _ _ _ T1 (mkF m 14 #[.val (.ref o), .val (.ref b1_0), .val (.int (6 : Int32)), .val (.int (0 : Int32)), .unset] [])
  refine own_step (fun t k => XS.aloadN X1.here hx rfl (hb hby own_prog_48_method_7_14) rfl rfl k) ?_
  show own_Goes _ _ _ _ T1 (mkF m 15 #[.val (.ref o), .val (.ref b1_0), .val (.int (6 : Int32)), .val (.int (0 : Int32)), .unset] [(.ref b1_0)])
  refine own_step (fun t k => XS.iloadN X1.here hx rfl (hb hby own_prog_48_method_7_15) rfl k) ?_
  show own_Goes _ _ _ _ T1 (mkF m 16 #[.val (.ref o), .val (.ref b1_0), .val (.int (6 : Int32)), .val (.int (0 : Int32)), .unset] [(.int (0 : Int32)), (.ref b1_0)])
  refine own_step (own_aaload X1 hx hZ rfl q1_0' rfl (.ref w_EQUAL) ⟨by decide, by decide⟩ rfl (g := (mkF m 16 #[.val (.ref o), .val (.ref b1_0), .val (.int (6 : Int32)), .val (.int (0 : Int32)), .unset] [(.int (0 : Int32)), (.ref b1_0)])) rfl rfl (hb hby own_prog_48_method_7_16)) ?_
  show own_Goes _ _ _ _ T1 (mkF m 17 #[.val (.ref o), .val (.ref b1_0), .val (.int (6 : Int32)), .val (.int (0 : Int32)), .unset] [(.ref w_EQUAL)])
  refine own_step (fun t k => XS.astore X1.here hx rfl (hb hby own_prog_48_method_7_17) rfl rfl (l' := #[.val (.ref o), .val (.ref b1_0), .val (.int (6 : Int32)), .val (.int (0 : Int32)), .val (.ref w_EQUAL)]) rfl k) ?_
  show own_Goes _ _ _ _ T1 (mkF m 19 #[.val (.ref o), .val (.ref b1_0), .val (.int (6 : Int32)), .val (.int (0 : Int32)), .val (.ref w_EQUAL)] [])
  refine own_step (fun t k => XS.aload X1.here hx rfl (hb hby own_prog_48_method_7_19) rfl rfl k) ?_
  show own_Goes _ _ _ _ T1 (mkF m 21 #[.val (.ref o), .val (.ref b1_0), .val (.int (6 : Int32)), .val (.int (0 : Int32)), .val (.ref w_EQUAL)] [(.ref w_EQUAL)])
  have F_w_EQUAL_symbol_v3 := (F_w_EQUAL_symbol.keep Kq1 nin0)
  obtain ⟨T2, X2, e2, st2⟩ := getF X1 hx hZ hown (host := "") (Or.inl (hw _ (List.mem_of_getElem? (i := 57) rfl))) Via.refl rfl F_w_EQUAL_symbol_v3 (g := (mkF m 21 #[.val (.ref o), .val (.ref b1_0), .val (.int (6 : Int32)), .val (.int (0 : Int32)), .val (.ref w_EQUAL)] [(.ref w_EQUAL)])) rfl rfl (hb hby own_prog_48_method_7_21)
  refine own_step st2 ?_
  show own_Goes _ _ _ _ T2 (mkF m 24 #[.val (.ref o), .val (.ref b1_0), .val (.int (6 : Int32)), .val (.int (0 : Int32)), .val (.ref w_EQUAL)] [(.ref y_EQUAL)])
  refine own_step (fun t k => XS.aloadN X2.here hx rfl (hb hby own_prog_48_method_7_24) rfl rfl k) ?_
  show own_Goes _ _ _ _ T2 (mkF m 25 #[.val (.ref o), .val (.ref b1_0), .val (.int (6 : Int32)), .val (.int (0 : Int32)), .val (.ref w_EQUAL)] [(.ref o), (.ref y_EQUAL)])
  have E_o_v4 := (E_o.keep Kq1)
  have F_y_EQUAL_coder_v5 := (F_y_EQUAL_coder.keep Kq1 nin0)
  have F_o_coder_v6 := (F_o_coder.keep Kq1 nin0)
  have F_y_EQUAL_value_v7 := (F_y_EQUAL_value.keep Kq1 nin0)
  have F_o_value_v8 := (F_o_value.keep Kq1 nin0)
  have V_z_EQUAL_v9 := (V_z_EQUAL.keep Kq1 nin0)
  have V_vo_v10 := (V_vo.keep Kq1 nin0)
  have S_COMPACT_STRINGS_v11 := (own_staKeep S_COMPACT_STRINGS Kq1 all0)
  have E_y_EQUAL_v13 := (E_y_EQUAL.keep Kq1)
  refine own_callV X2 hx hZ (y := (⟨"java/lang/String", "equals", "(Ljava/lang/Object;)Z"⟩ : MethodName)) (z := (⟨"java/lang/String", "equals", "(Ljava/lang/Object;)Z"⟩ : MethodName)) hown (hw _ (List.mem_of_getElem? (i := 59) rfl)) (hw _ (List.mem_of_getElem? (i := 60) rfl)) (notFace_of_selects (args := #[]) (mvT hZ (hw _ (List.mem_of_getElem? (i := 62) rfl)))) (hw _ (List.mem_of_getElem? (i := 62) rfl)) (hw _ (List.mem_of_getElem? (i := 61) rfl)) (hw _ (List.mem_of_getElem? (i := 63) rfl)) (hw _ (List.mem_of_getElem? (i := 7) rfl)) (by decide) 0 E_y_EQUAL_v13 [(.ref o)] [] (own_seq_21len l Z a0 hw [] y_EQUAL o z_EQUAL vo k_EQUAL ko (61 : Int32) (61 : Int32) (60 : Int32) zc T1.heap n0 (Nat.le_trans Z0 K1.1) E_o_v4 F_y_EQUAL_coder_v5 F_o_coder_v6 F_y_EQUAL_value_v7 F_o_value_v8 V_z_EQUAL_v9 V_vo_v10 S_COMPACT_STRINGS_v11 hz neo_EQUAL) e2 (by decide) (by decide) (by decide) (by decide) (g := (mkF m 25 #[.val (.ref o), .val (.ref b1_0), .val (.int (6 : Int32)), .val (.int (0 : Int32)), .val (.ref w_EQUAL)] [(.ref o), (.ref y_EQUAL)])) rfl (by rw [hml]; rfl) own_pd2 rfl rfl (by show 2 * 0 + _ ≤ _; exact Nat.le_of_eq rfl) (hb hby own_prog_48_method_7_25) ?_
  intro T12 v12 L12 X12 hQ12
  obtain ⟨rfl, N12q, e12⟩ := hQ12
  have N12 := Fr.app N1 N12q
  show own_Goes _ _ _ _ T12 (mkF m 28 #[.val (.ref o), .val (.ref b1_0), .val (.int (6 : Int32)), .val (.int (0 : Int32)), .val (.ref w_EQUAL)] [(.int (0 : Int32))])
  refine own_step (fun t k => XS.ifYes X12.here hx rfl (pc0 := 28) (pc' := 34) rfl (hb hby own_prog_48_method_7_28) rfl ((if0 _ _).trans (teq (show (0 : Int32) = (0 : Int32) from (by decide))).1) (by decide) (by decide) k) ?_
  show own_Goes _ _ _ _ T12 (mkF m 34 #[.val (.ref o), .val (.ref b1_0), .val (.int (6 : Int32)), .val (.int (0 : Int32)), .val (.ref w_EQUAL)] [])
  refine own_step (fun t k => XS.iinc X12.here hx rfl (hb hby own_prog_48_method_7_34) rfl (l' := #[.val (.ref o), .val (.ref b1_0), .val (.int (6 : Int32)), .val (.int (1 : Int32)), .val (.ref w_EQUAL)]) rfl k) ?_
  show own_Goes _ _ _ _ T12 (mkF m 37 #[.val (.ref o), .val (.ref b1_0), .val (.int (6 : Int32)), .val (.int (1 : Int32)), .val (.ref w_EQUAL)] [])
  refine own_step (fun t k => XS.goto X12.here hx rfl (pc0 := 37) (pc' := 9) rfl (hb hby own_prog_48_method_7_37) (by decide) (by decide) k) ?_
  show own_Goes _ _ _ _ T12 (mkF m 9 #[.val (.ref o), .val (.ref b1_0), .val (.int (6 : Int32)), .val (.int (1 : Int32)), .val (.ref w_EQUAL)] [])
  refine own_step (fun t k => XS.iloadN X12.here hx rfl (hb hby own_prog_48_method_7_9) rfl k) ?_
  show own_Goes _ _ _ _ T12 (mkF m 10 #[.val (.ref o), .val (.ref b1_0), .val (.int (6 : Int32)), .val (.int (1 : Int32)), .val (.ref w_EQUAL)] [(.int (1 : Int32))])
  refine own_step (fun t k => XS.iloadN X12.here hx rfl (hb hby own_prog_48_method_7_10) rfl k) ?_
  show own_Goes _ _ _ _ T12 (mkF m 11 #[.val (.ref o), .val (.ref b1_0), .val (.int (6 : Int32)), .val (.int (1 : Int32)), .val (.ref w_EQUAL)] [(.int (6 : Int32)), (.int (1 : Int32))])
  refine own_step (fun t k => XS.icmpNo X12.here hx rfl (hb hby own_prog_48_method_7_11) rfl (tlt (show (1 : Int32) < (6 : Int32) from (by decide))).2.1 k) ?_
  show own_Goes _ _ _ _ T12 (mkF m 14 #[.val (.ref o), .val (.ref b1_0), .val (.int (6 : Int32)), .val (.int (1 : Int32)), .val (.ref w_EQUAL)] [])
  refine own_step (fun t k => XS.aloadN X12.here hx rfl (hb hby own_prog_48_method_7_14) rfl rfl k) ?_
  show own_Goes _ _ _ _ T12 (mkF m 15 #[.val (.ref o), .val (.ref b1_0), .val (.int (6 : Int32)), .val (.int (1 : Int32)), .val (.ref w_EQUAL)] [(.ref b1_0)])
  refine own_step (fun t k => XS.iloadN X12.here hx rfl (hb hby own_prog_48_method_7_15) rfl k) ?_
  show own_Goes _ _ _ _ T12 (mkF m 16 #[.val (.ref o), .val (.ref b1_0), .val (.int (6 : Int32)), .val (.int (1 : Int32)), .val (.ref w_EQUAL)] [(.int (1 : Int32)), (.ref b1_0)])
  refine own_step (own_aaload X12 hx hZ e12 q1_0' rfl (.ref w_NOT_EQUAL) ⟨by decide, by decide⟩ rfl (g := (mkF m 16 #[.val (.ref o), .val (.ref b1_0), .val (.int (6 : Int32)), .val (.int (1 : Int32)), .val (.ref w_EQUAL)] [(.int (1 : Int32)), (.ref b1_0)])) rfl rfl (hb hby own_prog_48_method_7_16)) ?_
  show own_Goes _ _ _ _ T12 (mkF m 17 #[.val (.ref o), .val (.ref b1_0), .val (.int (6 : Int32)), .val (.int (1 : Int32)), .val (.ref w_EQUAL)] [(.ref w_NOT_EQUAL)])
  refine own_step (fun t k => XS.astore X12.here hx rfl (hb hby own_prog_48_method_7_17) rfl rfl (l' := #[.val (.ref o), .val (.ref b1_0), .val (.int (6 : Int32)), .val (.int (1 : Int32)), .val (.ref w_NOT_EQUAL)]) rfl k) ?_
  show own_Goes _ _ _ _ T12 (mkF m 19 #[.val (.ref o), .val (.ref b1_0), .val (.int (6 : Int32)), .val (.int (1 : Int32)), .val (.ref w_NOT_EQUAL)] [])
  refine own_step (fun t k => XS.aload X12.here hx rfl (hb hby own_prog_48_method_7_19) rfl rfl k) ?_
  show own_Goes _ _ _ _ T12 (mkF m 21 #[.val (.ref o), .val (.ref b1_0), .val (.int (6 : Int32)), .val (.int (1 : Int32)), .val (.ref w_NOT_EQUAL)] [(.ref w_NOT_EQUAL)])
  have F_w_NOT_EQUAL_symbol_v15 := (F_w_NOT_EQUAL_symbol.keep Kq1 nin0)
  obtain ⟨T14, X14, e14, st14⟩ := getF X12 hx hZ hown (host := "") (Or.inl (hw _ (List.mem_of_getElem? (i := 57) rfl))) Via.refl e12 F_w_NOT_EQUAL_symbol_v15 (g := (mkF m 21 #[.val (.ref o), .val (.ref b1_0), .val (.int (6 : Int32)), .val (.int (1 : Int32)), .val (.ref w_NOT_EQUAL)] [(.ref w_NOT_EQUAL)])) rfl rfl (hb hby own_prog_48_method_7_21)
  refine own_step st14 ?_
  show own_Goes _ _ _ _ T14 (mkF m 24 #[.val (.ref o), .val (.ref b1_0), .val (.int (6 : Int32)), .val (.int (1 : Int32)), .val (.ref w_NOT_EQUAL)] [(.ref y_NOT_EQUAL)])
  refine own_step (fun t k => XS.aloadN X14.here hx rfl (hb hby own_prog_48_method_7_24) rfl rfl k) ?_
  show own_Goes _ _ _ _ T14 (mkF m 25 #[.val (.ref o), .val (.ref b1_0), .val (.int (6 : Int32)), .val (.int (1 : Int32)), .val (.ref w_NOT_EQUAL)] [(.ref o), (.ref y_NOT_EQUAL)])
  have F_y_NOT_EQUAL_coder_v16 := (F_y_NOT_EQUAL_coder.keep Kq1 nin0)
  have F_y_NOT_EQUAL_value_v17 := (F_y_NOT_EQUAL_value.keep Kq1 nin0)
  have V_z_NOT_EQUAL_v18 := (V_z_NOT_EQUAL.keep Kq1 nin0)
  have E_y_NOT_EQUAL_v20 := (E_y_NOT_EQUAL.keep Kq1)
  refine own_callV X14 hx hZ (y := (⟨"java/lang/String", "equals", "(Ljava/lang/Object;)Z"⟩ : MethodName)) (z := (⟨"java/lang/String", "equals", "(Ljava/lang/Object;)Z"⟩ : MethodName)) hown (hw _ (List.mem_of_getElem? (i := 59) rfl)) (hw _ (List.mem_of_getElem? (i := 60) rfl)) (notFace_of_selects (args := #[]) (mvT hZ (hw _ (List.mem_of_getElem? (i := 62) rfl)))) (hw _ (List.mem_of_getElem? (i := 62) rfl)) (hw _ (List.mem_of_getElem? (i := 61) rfl)) (hw _ (List.mem_of_getElem? (i := 63) rfl)) (hw _ (List.mem_of_getElem? (i := 7) rfl)) (by decide) 0 E_y_NOT_EQUAL_v20 [(.ref o)] [] (own_seq_21len l Z a0 hw [] y_NOT_EQUAL o z_NOT_EQUAL vo k_NOT_EQUAL ko (33 : Int32) (61 : Int32) (60 : Int32) zc T1.heap n0 (Nat.le_trans Z0 K1.1) E_o_v4 F_y_NOT_EQUAL_coder_v16 F_o_coder_v6 F_y_NOT_EQUAL_value_v17 F_o_value_v8 V_z_NOT_EQUAL_v18 V_vo_v10 S_COMPACT_STRINGS_v11 hz neo_NOT_EQUAL) e14 (by decide) (by decide) (by decide) (by decide) (g := (mkF m 25 #[.val (.ref o), .val (.ref b1_0), .val (.int (6 : Int32)), .val (.int (1 : Int32)), .val (.ref w_NOT_EQUAL)] [(.ref o), (.ref y_NOT_EQUAL)])) rfl (by rw [hml]; rfl) own_pd2 rfl rfl (by show 2 * 0 + _ ≤ _; exact Nat.le_of_eq rfl) (hb hby own_prog_48_method_7_25) ?_
  intro T19 v19 L19 X19 hQ19
  obtain ⟨rfl, N19q, e19⟩ := hQ19
  have N19 := Fr.app N12 N19q
  show own_Goes _ _ _ _ T19 (mkF m 28 #[.val (.ref o), .val (.ref b1_0), .val (.int (6 : Int32)), .val (.int (1 : Int32)), .val (.ref w_NOT_EQUAL)] [(.int (0 : Int32))])
  refine own_step (fun t k => XS.ifYes X19.here hx rfl (pc0 := 28) (pc' := 34) rfl (hb hby own_prog_48_method_7_28) rfl ((if0 _ _).trans (teq (show (0 : Int32) = (0 : Int32) from (by decide))).1) (by decide) (by decide) k) ?_
  show own_Goes _ _ _ _ T19 (mkF m 34 #[.val (.ref o), .val (.ref b1_0), .val (.int (6 : Int32)), .val (.int (1 : Int32)), .val (.ref w_NOT_EQUAL)] [])
  refine own_step (fun t k => XS.iinc X19.here hx rfl (hb hby own_prog_48_method_7_34) rfl (l' := #[.val (.ref o), .val (.ref b1_0), .val (.int (6 : Int32)), .val (.int (2 : Int32)), .val (.ref w_NOT_EQUAL)]) rfl k) ?_
  show own_Goes _ _ _ _ T19 (mkF m 37 #[.val (.ref o), .val (.ref b1_0), .val (.int (6 : Int32)), .val (.int (2 : Int32)), .val (.ref w_NOT_EQUAL)] [])
  refine own_step (fun t k => XS.goto X19.here hx rfl (pc0 := 37) (pc' := 9) rfl (hb hby own_prog_48_method_7_37) (by decide) (by decide) k) ?_
  show own_Goes _ _ _ _ T19 (mkF m 9 #[.val (.ref o), .val (.ref b1_0), .val (.int (6 : Int32)), .val (.int (2 : Int32)), .val (.ref w_NOT_EQUAL)] [])
  refine own_step (fun t k => XS.iloadN X19.here hx rfl (hb hby own_prog_48_method_7_9) rfl k) ?_
  show own_Goes _ _ _ _ T19 (mkF m 10 #[.val (.ref o), .val (.ref b1_0), .val (.int (6 : Int32)), .val (.int (2 : Int32)), .val (.ref w_NOT_EQUAL)] [(.int (2 : Int32))])
  refine own_step (fun t k => XS.iloadN X19.here hx rfl (hb hby own_prog_48_method_7_10) rfl k) ?_
  show own_Goes _ _ _ _ T19 (mkF m 11 #[.val (.ref o), .val (.ref b1_0), .val (.int (6 : Int32)), .val (.int (2 : Int32)), .val (.ref w_NOT_EQUAL)] [(.int (6 : Int32)), (.int (2 : Int32))])
  refine own_step (fun t k => XS.icmpNo X19.here hx rfl (hb hby own_prog_48_method_7_11) rfl (tlt (show (2 : Int32) < (6 : Int32) from (by decide))).2.1 k) ?_
  show own_Goes _ _ _ _ T19 (mkF m 14 #[.val (.ref o), .val (.ref b1_0), .val (.int (6 : Int32)), .val (.int (2 : Int32)), .val (.ref w_NOT_EQUAL)] [])
  refine own_step (fun t k => XS.aloadN X19.here hx rfl (hb hby own_prog_48_method_7_14) rfl rfl k) ?_
  show own_Goes _ _ _ _ T19 (mkF m 15 #[.val (.ref o), .val (.ref b1_0), .val (.int (6 : Int32)), .val (.int (2 : Int32)), .val (.ref w_NOT_EQUAL)] [(.ref b1_0)])
  refine own_step (fun t k => XS.iloadN X19.here hx rfl (hb hby own_prog_48_method_7_15) rfl k) ?_
  show own_Goes _ _ _ _ T19 (mkF m 16 #[.val (.ref o), .val (.ref b1_0), .val (.int (6 : Int32)), .val (.int (2 : Int32)), .val (.ref w_NOT_EQUAL)] [(.int (2 : Int32)), (.ref b1_0)])
  refine own_step (own_aaload X19 hx hZ e19 q1_0' rfl (.ref w_LESS) ⟨by decide, by decide⟩ rfl (g := (mkF m 16 #[.val (.ref o), .val (.ref b1_0), .val (.int (6 : Int32)), .val (.int (2 : Int32)), .val (.ref w_NOT_EQUAL)] [(.int (2 : Int32)), (.ref b1_0)])) rfl rfl (hb hby own_prog_48_method_7_16)) ?_
  show own_Goes _ _ _ _ T19 (mkF m 17 #[.val (.ref o), .val (.ref b1_0), .val (.int (6 : Int32)), .val (.int (2 : Int32)), .val (.ref w_NOT_EQUAL)] [(.ref w_LESS)])
  refine own_step (fun t k => XS.astore X19.here hx rfl (hb hby own_prog_48_method_7_17) rfl rfl (l' := #[.val (.ref o), .val (.ref b1_0), .val (.int (6 : Int32)), .val (.int (2 : Int32)), .val (.ref w_LESS)]) rfl k) ?_
  show own_Goes _ _ _ _ T19 (mkF m 19 #[.val (.ref o), .val (.ref b1_0), .val (.int (6 : Int32)), .val (.int (2 : Int32)), .val (.ref w_LESS)] [])
  refine own_step (fun t k => XS.aload X19.here hx rfl (hb hby own_prog_48_method_7_19) rfl rfl k) ?_
  show own_Goes _ _ _ _ T19 (mkF m 21 #[.val (.ref o), .val (.ref b1_0), .val (.int (6 : Int32)), .val (.int (2 : Int32)), .val (.ref w_LESS)] [(.ref w_LESS)])
  have F_w_LESS_symbol_v22 := (F_w_LESS_symbol.keep Kq1 nin0)
  obtain ⟨T21, X21, e21, st21⟩ := getF X19 hx hZ hown (host := "") (Or.inl (hw _ (List.mem_of_getElem? (i := 57) rfl))) Via.refl e19 F_w_LESS_symbol_v22 (g := (mkF m 21 #[.val (.ref o), .val (.ref b1_0), .val (.int (6 : Int32)), .val (.int (2 : Int32)), .val (.ref w_LESS)] [(.ref w_LESS)])) rfl rfl (hb hby own_prog_48_method_7_21)
  refine own_step st21 ?_
  show own_Goes _ _ _ _ T21 (mkF m 24 #[.val (.ref o), .val (.ref b1_0), .val (.int (6 : Int32)), .val (.int (2 : Int32)), .val (.ref w_LESS)] [(.ref y_LESS)])
  refine own_step (fun t k => XS.aloadN X21.here hx rfl (hb hby own_prog_48_method_7_24) rfl rfl k) ?_
  show own_Goes _ _ _ _ T21 (mkF m 25 #[.val (.ref o), .val (.ref b1_0), .val (.int (6 : Int32)), .val (.int (2 : Int32)), .val (.ref w_LESS)] [(.ref o), (.ref y_LESS)])
  have F_y_LESS_coder_v23 := (F_y_LESS_coder.keep Kq1 nin0)
  have F_y_LESS_value_v24 := (F_y_LESS_value.keep Kq1 nin0)
  have V_z_LESS_v25 := (V_z_LESS.keep Kq1 nin0)
  have E_y_LESS_v27 := (E_y_LESS.keep Kq1)
  refine own_callV X21 hx hZ (y := (⟨"java/lang/String", "equals", "(Ljava/lang/Object;)Z"⟩ : MethodName)) (z := (⟨"java/lang/String", "equals", "(Ljava/lang/Object;)Z"⟩ : MethodName)) hown (hw _ (List.mem_of_getElem? (i := 59) rfl)) (hw _ (List.mem_of_getElem? (i := 60) rfl)) (notFace_of_selects (args := #[]) (mvT hZ (hw _ (List.mem_of_getElem? (i := 62) rfl)))) (hw _ (List.mem_of_getElem? (i := 62) rfl)) (hw _ (List.mem_of_getElem? (i := 61) rfl)) (hw _ (List.mem_of_getElem? (i := 63) rfl)) (hw _ (List.mem_of_getElem? (i := 7) rfl)) (by decide) 0 E_y_LESS_v27 [(.ref o)] [] (own_seq_11eq l Z a0 hw [] y_LESS o z_LESS vo k_LESS ko (60 : Int32) (60 : Int32) zc T1.heap n0 (Nat.le_trans Z0 K1.1) E_o_v4 F_y_LESS_coder_v23 F_o_coder_v6 F_y_LESS_value_v24 F_o_value_v8 V_z_LESS_v25 V_vo_v10 S_COMPACT_STRINGS_v11 (by decide) hz neo_LESS) e21 (by decide) (by decide) (by decide) (by decide) (g := (mkF m 25 #[.val (.ref o), .val (.ref b1_0), .val (.int (6 : Int32)), .val (.int (2 : Int32)), .val (.ref w_LESS)] [(.ref o), (.ref y_LESS)])) rfl (by rw [hml]; rfl) own_pd2 rfl rfl (by show 2 * 0 + _ ≤ _; exact Nat.le_of_eq rfl) (hb hby own_prog_48_method_7_25) ?_
  intro T26 v26 L26 X26 hQ26
  obtain ⟨rfl, N26q, e26⟩ := hQ26
  have N26 := Fr.app N19 N26q
  show own_Goes _ _ _ _ T26 (mkF m 28 #[.val (.ref o), .val (.ref b1_0), .val (.int (6 : Int32)), .val (.int (2 : Int32)), .val (.ref w_LESS)] [(.int (1 : Int32))])
  refine own_step (fun t k => XS.ifNo X26.here hx rfl (hb hby own_prog_48_method_7_28) rfl ((if0 _ _).trans (feq (show ¬ ((1 : Int32) = (0 : Int32)) from (by decide))).1) k) ?_
  show own_Goes _ _ _ _ T26 (mkF m 31 #[.val (.ref o), .val (.ref b1_0), .val (.int (6 : Int32)), .val (.int (2 : Int32)), .val (.ref w_LESS)] [])
  refine own_step (fun t k => XS.aload X26.here hx rfl (hb hby own_prog_48_method_7_31) rfl rfl k) ?_
  show own_Goes _ _ _ _ T26 (mkF m 33 #[.val (.ref o), .val (.ref b1_0), .val (.int (6 : Int32)), .val (.int (2 : Int32)), .val (.ref w_LESS)] [(.ref w_LESS)])
  exact own_retA X26 hx hlk hrt rfl rfl rfl (hb hby own_prog_48_method_7_33) (by rw [e26]; exact ⟨rfl, N26, K1⟩) (by decide) (by decide)
set_option maxRecDepth 65536 in
set_option maxHeartbeats 40000000 in
theorem own_leq_12len (l : Launch) (Z : State) (a0 : Array Value) (hw : ∀ d ∈ tables_1, d.before a0 Z = true) (ws : List Jvm.Cond) (va : Addr) (vb : Addr) (ka : ClassId) (kb : ClassId) (x0 : Int32) (y0 : Int32) (y1 : Int32) (h0 : Heap) (n0 : Nat) (Z0 : n0 ≤ h0.size) (V_va : Arv Z h0 va ka .byte (1 : Int32) [(.int x0)] (.int (0 : Int32))) (V_vb : Arv Z h0 vb kb .byte (2 : Int32) [(.int y0), (.int y1)] (.int (0 : Int32))) :
    own_Met l Z (⟨"java/lang/StringLatin1", "equals", "([B[B)Z"⟩ : MethodName) jdk_43_method_13_code 3 (some .boolean) ws ({ frames := 0, cells := 0, slots := 0, locals := 0 } : Room) #[(.ref va), (.ref vb)] h0 (fun v h L => v = some (.int (0 : Int32)) ∧ Fr n0 L ∧ h = h0) := by
  refine own_body (plainFor_of_name own_pn_java_lang_StringLatin1) (fun p e s m below meth c s₁ hx hby hml0 hrt hlk hown0 hnm hZ X0 e0 => ?_)
  have N0 := Fr.nil n0
  have hown : s.vm.findClass "java/lang/StringLatin1" = some m.cls := hown0
  have hml : c.maxLocals = 3 := hml0
  refine own_castG (own_ef3 m va vb) ?_
  show own_Goes _ _ _ _ s₁ (mkF m 0 #[.val (.ref va), .val (.ref vb), .unset] [])
  refine own_step (fun t k => XS.aloadN X0.here hx rfl (hb hby own_jdk_43_method_13_0) rfl rfl k) ?_
  show own_Goes _ _ _ _ s₁ (mkF m 1 #[.val (.ref va), .val (.ref vb), .unset] [(.ref va)])
  refine own_step (own_alen X0 hx hZ e0 V_va (g := (mkF m 1 #[.val (.ref va), .val (.ref vb), .unset] [(.ref va)])) rfl rfl (hb hby own_jdk_43_method_13_1)) ?_
  show own_Goes _ _ _ _ s₁ (mkF m 2 #[.val (.ref va), .val (.ref vb), .unset] [(.int (1 : Int32))])
  refine own_step (fun t k => XS.aloadN X0.here hx rfl (hb hby own_jdk_43_method_13_2) rfl rfl k) ?_
  show own_Goes _ _ _ _ s₁ (mkF m 3 #[.val (.ref va), .val (.ref vb), .unset] [(.ref vb), (.int (1 : Int32))])
  refine own_step (own_alen X0 hx hZ e0 V_vb (g := (mkF m 3 #[.val (.ref va), .val (.ref vb), .unset] [(.ref vb), (.int (1 : Int32))])) rfl rfl (hb hby own_jdk_43_method_13_3)) ?_
  show own_Goes _ _ _ _ s₁ (mkF m 4 #[.val (.ref va), .val (.ref vb), .unset] [(.int (2 : Int32)), (.int (1 : Int32))])
  refine own_step (fun t k => XS.icmpYes X0.here hx rfl (pc0 := 4) (pc' := 34) rfl (hb hby own_jdk_43_method_13_4) rfl (feq (show ¬ ((1 : Int32) = (2 : Int32)) from (by decide))).2 (by decide) (by decide) k) ?_
  show own_Goes _ _ _ _ s₁ (mkF m 34 #[.val (.ref va), .val (.ref vb), .unset] [])
  refine own_step (fun t k => XS.iconst X0.here hx rfl (hb hby own_jdk_43_method_13_34) k) ?_
  show own_Goes _ _ _ _ s₁ (mkF m 35 #[.val (.ref va), .val (.ref vb), .unset] [(.int (0 : Int32))])
  exact own_retN X0 hx hlk (t := .boolean) hrt (by simp) (hb hby own_jdk_43_method_13_35) ⟨rfl, N0, e0⟩ (by decide) (by decide)
set_option maxRecDepth 65536 in
set_option maxHeartbeats 40000000 in
theorem own_seq_12len (l : Launch) (Z : State) (a0 : Array Value) (hw : ∀ d ∈ tables_1, d.before a0 Z = true) (ws : List Jvm.Cond) (a : Addr) (o : Addr) (va : Addr) (vb : Addr) (ka : ClassId) (kb : ClassId) (x0 : Int32) (y0 : Int32) (y1 : Int32) (zc : Int32) (h0 : Heap) (n0 : Nat) (Z0 : n0 ≤ h0.size) (E_o : Exa Z h0 o "java/lang/String") (F_a_coder : Fld Z h0 a "java/lang/String" "coder" "B" (.int (0 : Int32))) (F_o_coder : Fld Z h0 o "java/lang/String" "coder" "B" (.int (0 : Int32))) (F_a_value : Fld Z h0 a "java/lang/String" "value" "[B" (.ref va)) (F_o_value : Fld Z h0 o "java/lang/String" "value" "[B" (.ref vb)) (V_va : Arv Z h0 va ka .byte (1 : Int32) [(.int x0)] (.int (0 : Int32))) (V_vb : Arv Z h0 vb kb .byte (2 : Int32) [(.int y0), (.int y1)] (.int (0 : Int32))) (S_COMPACT_STRINGS : Sta Z h0 "java/lang/String" "COMPACT_STRINGS" "Z" (.int zc)) (hz : ¬ (zc = (0 : Int32))) (neao : ¬ (a = o)) :
    own_Met l Z (⟨"java/lang/String", "equals", "(Ljava/lang/Object;)Z"⟩ : MethodName) jdk_42_method_66_code 3 (some .boolean) ws ({ frames := 1, cells := 0, slots := 0, locals := 14 } : Room) #[(.ref a), (.ref o)] h0 (fun v h L => v = some (.int (0 : Int32)) ∧ Fr n0 L ∧ h = h0) := by
  refine own_body (plainFor_of_name own_pn_java_lang_String) (fun p e s m below meth c s₁ hx hby hml0 hrt hlk hown0 hnm hZ X0 e0 => ?_)
  have N0 := Fr.nil n0
  have hown : s.vm.findClass "java/lang/String" = some m.cls := hown0
  have hml : c.maxLocals = 3 := hml0
  refine own_castG (own_ef4 m a o) ?_
  show own_Goes _ _ _ _ s₁ (mkF m 0 #[.val (.ref a), .val (.ref o), .unset] [])
  refine own_step (fun t k => XS.aloadN X0.here hx rfl (hb hby own_jdk_42_method_66_0) rfl rfl k) ?_
  show own_Goes _ _ _ _ s₁ (mkF m 1 #[.val (.ref a), .val (.ref o), .unset] [(.ref a)])
  refine own_step (fun t k => XS.aloadN X0.here hx rfl (hb hby own_jdk_42_method_66_1) rfl rfl k) ?_
  show own_Goes _ _ _ _ s₁ (mkF m 2 #[.val (.ref a), .val (.ref o), .unset] [(.ref o), (.ref a)])
  refine own_step (fun t k => Jvm.RoadKit.acmp (g := (mkF m 2 #[.val (.ref a), .val (.ref o), .unset] [(.ref o), (.ref a)])) X0 hx rfl rfl rfl (pc0 := 2) (pc' := 7) (same := false) rfl (hb hby own_jdk_42_method_66_2) rfl (decide_eq_false fun q => neao (Value.ref.inj q)) (by decide) (by decide) k) ?_
  show own_Goes _ _ _ _ s₁ (mkF m 7 #[.val (.ref a), .val (.ref o), .unset] [])
  refine own_step (fun t k => XS.aloadN X0.here hx rfl (hb hby own_jdk_42_method_66_7) rfl rfl k) ?_
  show own_Goes _ _ _ _ s₁ (mkF m 8 #[.val (.ref a), .val (.ref o), .unset] [(.ref o)])
  obtain ⟨T1, X1, e1, st1⟩ := instY X0 hx hZ hown (hw _ (List.mem_of_getElem? (i := 64) rfl)) e0 (Ins.self E_o) (g := (mkF m 8 #[.val (.ref a), .val (.ref o), .unset] [(.ref o)])) rfl rfl (hb hby own_jdk_42_method_66_8)
  refine own_step st1 ?_
  show own_Goes _ _ _ _ T1 (mkF m 11 #[.val (.ref a), .val (.ref o), .unset] [(.int (1 : Int32))])
  refine own_step (fun t k => XS.ifNo X1.here hx rfl (hb hby own_jdk_42_method_66_11) rfl ((if0 _ _).trans (feq (show ¬ ((1 : Int32) = (0 : Int32)) from (by decide))).1) k) ?_
  show own_Goes _ _ _ _ T1 (mkF m 14 #[.val (.ref a), .val (.ref o), .unset] [])
  refine own_step (fun t k => XS.aloadN X1.here hx rfl (hb hby own_jdk_42_method_66_14) rfl rfl k) ?_
  show own_Goes _ _ _ _ T1 (mkF m 15 #[.val (.ref a), .val (.ref o), .unset] [(.ref o)])
  obtain ⟨T2, X2, e2, st2⟩ := castY X1 hx hZ hown (hw _ (List.mem_of_getElem? (i := 64) rfl)) e1 (Ins.self E_o) (g := (mkF m 15 #[.val (.ref a), .val (.ref o), .unset] [(.ref o)])) rfl rfl (hb hby own_jdk_42_method_66_15)
  refine own_step st2 ?_
  show own_Goes _ _ _ _ T2 (mkF m 18 #[.val (.ref a), .val (.ref o), .unset] [(.ref o)])
  refine own_step (fun t k => XS.astoreN X2.here hx rfl (hb hby own_jdk_42_method_66_18) rfl rfl (l' := #[.val (.ref a), .val (.ref o), .val (.ref o)]) rfl k) ?_
  show own_Goes _ _ _ _ T2 (mkF m 19 #[.val (.ref a), .val (.ref o), .val (.ref o)] [])
  obtain ⟨T3, X3, e3, st3⟩ := getS2 X2 hx hZ hown (host := "") (Or.inl (hw _ (List.mem_of_getElem? (i := 18) rfl))) Via.refl e2 S_COMPACT_STRINGS (g := (mkF m 19 #[.val (.ref a), .val (.ref o), .val (.ref o)] [])) rfl (hb hby own_jdk_42_method_66_19)
  refine own_step st3 ?_
  show own_Goes _ _ _ _ T3 (mkF m 22 #[.val (.ref a), .val (.ref o), .val (.ref o)] [(.int zc)])
  refine own_step (fun t k => XS.ifNo X3.here hx rfl (hb hby own_jdk_42_method_66_22) rfl ((if0 _ _).trans (feq (show ¬ (zc = (0 : Int32)) from hz)).1) k) ?_
  show own_Goes _ _ _ _ T3 (mkF m 25 #[.val (.ref a), .val (.ref o), .val (.ref o)] [])
  refine own_step (fun t k => XS.aloadN X3.here hx rfl (hb hby own_jdk_42_method_66_25) rfl rfl k) ?_
  show own_Goes _ _ _ _ T3 (mkF m 26 #[.val (.ref a), .val (.ref o), .val (.ref o)] [(.ref a)])
  obtain ⟨T4, X4, e4, st4⟩ := getF X3 hx hZ hown (host := "") (Or.inl (hw _ (List.mem_of_getElem? (i := 30) rfl))) Via.refl e3 F_a_coder (g := (mkF m 26 #[.val (.ref a), .val (.ref o), .val (.ref o)] [(.ref a)])) rfl rfl (hb hby own_jdk_42_method_66_26)
  refine own_step st4 ?_
  show own_Goes _ _ _ _ T4 (mkF m 29 #[.val (.ref a), .val (.ref o), .val (.ref o)] [(.int (0 : Int32))])
  refine own_step (fun t k => XS.aloadN X4.here hx rfl (hb hby own_jdk_42_method_66_29) rfl rfl k) ?_
  show own_Goes _ _ _ _ T4 (mkF m 30 #[.val (.ref a), .val (.ref o), .val (.ref o)] [(.ref o), (.int (0 : Int32))])
  obtain ⟨T5, X5, e5, st5⟩ := getF X4 hx hZ hown (host := "") (Or.inl (hw _ (List.mem_of_getElem? (i := 30) rfl))) Via.refl e4 F_o_coder (g := (mkF m 30 #[.val (.ref a), .val (.ref o), .val (.ref o)] [(.ref o), (.int (0 : Int32))])) rfl rfl (hb hby own_jdk_42_method_66_30)
  refine own_step st5 ?_
  show own_Goes _ _ _ _ T5 (mkF m 33 #[.val (.ref a), .val (.ref o), .val (.ref o)] [(.int (0 : Int32)), (.int (0 : Int32))])
  refine own_step (fun t k => XS.icmpNo X5.here hx rfl (hb hby own_jdk_42_method_66_33) rfl (teq (show (0 : Int32) = (0 : Int32) from (by decide))).2 k) ?_
  show own_Goes _ _ _ _ T5 (mkF m 36 #[.val (.ref a), .val (.ref o), .val (.ref o)] [])
  refine own_step (fun t k => XS.aloadN X5.here hx rfl (hb hby own_jdk_42_method_66_36) rfl rfl k) ?_
  show own_Goes _ _ _ _ T5 (mkF m 37 #[.val (.ref a), .val (.ref o), .val (.ref o)] [(.ref a)])
  obtain ⟨T6, X6, e6, st6⟩ := getF X5 hx hZ hown (host := "") (Or.inl (hw _ (List.mem_of_getElem? (i := 32) rfl))) Via.refl e5 F_a_value (g := (mkF m 37 #[.val (.ref a), .val (.ref o), .val (.ref o)] [(.ref a)])) rfl rfl (hb hby own_jdk_42_method_66_37)
  refine own_step st6 ?_
  show own_Goes _ _ _ _ T6 (mkF m 40 #[.val (.ref a), .val (.ref o), .val (.ref o)] [(.ref va)])
  refine own_step (fun t k => XS.aloadN X6.here hx rfl (hb hby own_jdk_42_method_66_40) rfl rfl k) ?_
  show own_Goes _ _ _ _ T6 (mkF m 41 #[.val (.ref a), .val (.ref o), .val (.ref o)] [(.ref o), (.ref va)])
  obtain ⟨T7, X7, e7, st7⟩ := getF X6 hx hZ hown (host := "") (Or.inl (hw _ (List.mem_of_getElem? (i := 32) rfl))) Via.refl e6 F_o_value (g := (mkF m 41 #[.val (.ref a), .val (.ref o), .val (.ref o)] [(.ref o), (.ref va)])) rfl rfl (hb hby own_jdk_42_method_66_41)
  refine own_step st7 ?_
  show own_Goes _ _ _ _ T7 (mkF m 44 #[.val (.ref a), .val (.ref o), .val (.ref o)] [(.ref vb), (.ref va)])
  refine own_callS X7 hx hZ (y := (⟨"java/lang/StringLatin1", "equals", "([B[B)Z"⟩ : MethodName)) hown (hw _ (List.mem_of_getElem? (i := 65) rfl)) (hw _ (List.mem_of_getElem? (i := 66) rfl)) (hw _ (List.mem_of_getElem? (i := 67) rfl)) (hw _ (List.mem_of_getElem? (i := 68) rfl)) (by decide) 0 [(.ref va), (.ref vb)] [] (own_leq_12len l Z a0 hw [] va vb ka kb x0 y0 y1 h0 n0 Z0 V_va V_vb) e7 (by decide) (by decide) (by decide) (by decide) (g := (mkF m 44 #[.val (.ref a), .val (.ref o), .val (.ref o)] [(.ref vb), (.ref va)])) rfl (by rw [hml]; rfl) own_pd0 rfl rfl (by show 2 * 0 + _ ≤ _; exact Nat.le_of_eq rfl) (hb hby own_jdk_42_method_66_44) ?_
  intro T8 v8 L8 X8 hQ8
  obtain ⟨rfl, N8q, e8⟩ := hQ8
  have N8 := Fr.app N0 N8q
  show own_Goes _ _ _ _ T8 (mkF m 47 #[.val (.ref a), .val (.ref o), .val (.ref o)] [(.int (0 : Int32))])
  refine own_step (fun t k => XS.ifYes X8.here hx rfl (pc0 := 47) (pc' := 54) rfl (hb hby own_jdk_42_method_66_47) rfl ((if0 _ _).trans (teq (show (0 : Int32) = (0 : Int32) from (by decide))).1) (by decide) (by decide) k) ?_
  show own_Goes _ _ _ _ T8 (mkF m 54 #[.val (.ref a), .val (.ref o), .val (.ref o)] [])
  refine own_step (fun t k => XS.iconst X8.here hx rfl (hb hby own_jdk_42_method_66_54) k) ?_
  show own_Goes _ _ _ _ T8 (mkF m 55 #[.val (.ref a), .val (.ref o), .val (.ref o)] [(.int (0 : Int32))])
  exact own_retN X8 hx hlk (t := .boolean) hrt (by simp) (hb hby own_jdk_42_method_66_55) ⟨rfl, N8, e8⟩ (by decide) (by decide)
set_option maxRecDepth 65536 in
set_option maxHeartbeats 40000000 in
theorem own_of3 (l : Launch) (Z : State) (a0 : Array Value) (hw : ∀ d ∈ tables_1, d.before a0 Z = true) (ws : List Jvm.Cond) (o : Addr) (vo : Addr) (ko : ClassId) (zc : Int32) (w_V : Addr) (clv : Cell) (w_EQUAL : Addr) (w_NOT_EQUAL : Addr) (w_LESS : Addr) (w_LESS_OR_EQUAL : Addr) (w_GREATER : Addr) (w_GREATER_OR_EQUAL : Addr) (y_EQUAL : Addr) (z_EQUAL : Addr) (k_EQUAL : ClassId) (y_NOT_EQUAL : Addr) (z_NOT_EQUAL : Addr) (k_NOT_EQUAL : ClassId) (y_LESS : Addr) (z_LESS : Addr) (k_LESS : ClassId) (y_LESS_OR_EQUAL : Addr) (z_LESS_OR_EQUAL : Addr) (k_LESS_OR_EQUAL : ClassId) (h0 : Heap) (n0 : Nat) (Z0 : n0 ≤ h0.size) (E_o : Exa Z h0 o "java/lang/String") (F_o_coder : Fld Z h0 o "java/lang/String" "coder" "B" (.int (0 : Int32))) (F_o_value : Fld Z h0 o "java/lang/String" "value" "[B" (.ref vo)) (V_vo : Arv Z h0 vo ko .byte (2 : Int32) [(.int (60 : Int32)), (.int (61 : Int32))] (.int (0 : Int32))) (S_COMPACT_STRINGS : Sta Z h0 "java/lang/String" "COMPACT_STRINGS" "Z" (.int zc)) (S__VALUES : Sta Z h0 "com/example/polyphony/polyphony/policy/Operator" "$VALUES" "[Lcom/example/polyphony/polyphony/policy/Operator;" (.ref w_V)) (R_w_V : Arr Z h0 w_V clv (.object "com/example/polyphony/polyphony/policy/Operator")) (E_w_V : Exa Z h0 w_V "[Lcom/example/polyphony/polyphony/policy/Operator;") (F_w_EQUAL_symbol : Fld Z h0 w_EQUAL "com/example/polyphony/polyphony/policy/Operator" "symbol" "Ljava/lang/String;" (.ref y_EQUAL)) (E_y_EQUAL : Exa Z h0 y_EQUAL "java/lang/String") (F_y_EQUAL_coder : Fld Z h0 y_EQUAL "java/lang/String" "coder" "B" (.int (0 : Int32))) (F_y_EQUAL_value : Fld Z h0 y_EQUAL "java/lang/String" "value" "[B" (.ref z_EQUAL)) (V_z_EQUAL : Arv Z h0 z_EQUAL k_EQUAL .byte (2 : Int32) [(.int (61 : Int32)), (.int (61 : Int32))] (.int (0 : Int32))) (F_w_NOT_EQUAL_symbol : Fld Z h0 w_NOT_EQUAL "com/example/polyphony/polyphony/policy/Operator" "symbol" "Ljava/lang/String;" (.ref y_NOT_EQUAL)) (E_y_NOT_EQUAL : Exa Z h0 y_NOT_EQUAL "java/lang/String") (F_y_NOT_EQUAL_coder : Fld Z h0 y_NOT_EQUAL "java/lang/String" "coder" "B" (.int (0 : Int32))) (F_y_NOT_EQUAL_value : Fld Z h0 y_NOT_EQUAL "java/lang/String" "value" "[B" (.ref z_NOT_EQUAL)) (V_z_NOT_EQUAL : Arv Z h0 z_NOT_EQUAL k_NOT_EQUAL .byte (2 : Int32) [(.int (33 : Int32)), (.int (61 : Int32))] (.int (0 : Int32))) (F_w_LESS_symbol : Fld Z h0 w_LESS "com/example/polyphony/polyphony/policy/Operator" "symbol" "Ljava/lang/String;" (.ref y_LESS)) (E_y_LESS : Exa Z h0 y_LESS "java/lang/String") (F_y_LESS_coder : Fld Z h0 y_LESS "java/lang/String" "coder" "B" (.int (0 : Int32))) (F_y_LESS_value : Fld Z h0 y_LESS "java/lang/String" "value" "[B" (.ref z_LESS)) (V_z_LESS : Arv Z h0 z_LESS k_LESS .byte (1 : Int32) [(.int (60 : Int32))] (.int (0 : Int32))) (F_w_LESS_OR_EQUAL_symbol : Fld Z h0 w_LESS_OR_EQUAL "com/example/polyphony/polyphony/policy/Operator" "symbol" "Ljava/lang/String;" (.ref y_LESS_OR_EQUAL)) (E_y_LESS_OR_EQUAL : Exa Z h0 y_LESS_OR_EQUAL "java/lang/String") (F_y_LESS_OR_EQUAL_coder : Fld Z h0 y_LESS_OR_EQUAL "java/lang/String" "coder" "B" (.int (0 : Int32))) (F_y_LESS_OR_EQUAL_value : Fld Z h0 y_LESS_OR_EQUAL "java/lang/String" "value" "[B" (.ref z_LESS_OR_EQUAL)) (V_z_LESS_OR_EQUAL : Arv Z h0 z_LESS_OR_EQUAL k_LESS_OR_EQUAL .byte (2 : Int32) [(.int (60 : Int32)), (.int (61 : Int32))] (.int (0 : Int32))) (F_v : FitC Z clv) (S_v : clv.slots.size = (6 : Int32).toNatClampNeg) (H_v : Has clv [(.ref w_EQUAL), (.ref w_NOT_EQUAL), (.ref w_LESS), (.ref w_LESS_OR_EQUAL), (.ref w_GREATER), (.ref w_GREATER_OR_EQUAL)] .null) (G_v : ∀ i, i < clv.slots.size → fits (.object "com/example/polyphony/polyphony/policy/Operator") ([(.ref w_EQUAL), (.ref w_NOT_EQUAL), (.ref w_LESS), (.ref w_LESS_OR_EQUAL), (.ref w_GREATER), (.ref w_GREATER_OR_EQUAL)].getD i .null) = true) (hz : ¬ (zc = (0 : Int32))) (neo_EQUAL : ¬ (y_EQUAL = o)) (neo_NOT_EQUAL : ¬ (y_NOT_EQUAL = o)) (neo_LESS : ¬ (y_LESS = o)) (neo_LESS_OR_EQUAL : ¬ (y_LESS_OR_EQUAL = o)) :
    own_Met l Z (⟨"com/example/polyphony/polyphony/policy/Operator", "of", "(Ljava/lang/String;)Lcom/example/polyphony/polyphony/policy/Operator;"⟩ : MethodName) prog_48_method_7_code 5 (some (.object "com/example/polyphony/polyphony/policy/Operator")) ws ({ frames := 2, cells := 1, slots := 6, locals := 28 } : Room) #[(.ref o)] h0 (fun v h L => v = some (.ref w_LESS_OR_EQUAL) ∧ Fr n0 L ∧ Keep h0 h []) := by
  refine own_body (plainFor_of_name own_pn_com_example_polyphony_polyphony_policy_Operator) (fun p e s m below meth c s₁ hx hby hml0 hrt hlk hown0 hnm hZ X0 e0 => ?_)
  have N0 := Fr.nil n0
  have hown : s.vm.findClass "com/example/polyphony/polyphony/policy/Operator" = some m.cls := hown0
  have hml : c.maxLocals = 5 := hml0
  refine own_castG (own_ef5 m o) ?_
  show own_Goes _ _ _ _ s₁ (mkF m 0 #[.val (.ref o), .unset, .unset, .unset, .unset] [])
  refine own_callS X0 hx hZ (y := (⟨"com/example/polyphony/polyphony/policy/Operator", "values", "()[Lcom/example/polyphony/polyphony/policy/Operator;"⟩ : MethodName)) hown (hw _ (List.mem_of_getElem? (i := 37) rfl)) (hw _ (List.mem_of_getElem? (i := 38) rfl)) (hw _ (List.mem_of_getElem? (i := 3) rfl)) (hw _ (List.mem_of_getElem? (i := 39) rfl)) (by decide) 0 [] [] (own_values l Z a0 hw [] w_V clv w_EQUAL w_NOT_EQUAL w_LESS w_LESS_OR_EQUAL w_GREATER w_GREATER_OR_EQUAL h0 n0 Z0 S__VALUES R_w_V E_w_V F_v S_v H_v G_v) e0 (by decide) (by decide) (by decide) (by decide) (g := (mkF m 0 #[.val (.ref o), .unset, .unset, .unset, .unset] [])) rfl (by rw [hml]; rfl) own_pd1 rfl rfl (by show 2 * 0 + _ ≤ _; exact Nat.le_of_eq rfl) (hb hby own_prog_48_method_7_0) ?_
  intro T1 v1 L1 X1 hQ1
  obtain ⟨b1_0, k1_0, rfl, N1q, Kq1, zq1_0, q1_0⟩ := hQ1
  have N1 := Fr.app N0 N1q
  have K1 := (Keep.refl h0 []).trans Kq1 all0
  have g_b1_0 : n0 ≤ b1_0 := Nat.le_trans Z0 zq1_0
  have sz_b1_0 : h0.size ≤ b1_0 := Nat.le_trans (Keep.refl h0 []).1 zq1_0
  have ne_o_b1_0 : o ≠ b1_0 := Nat.ne_of_lt (Nat.lt_of_lt_of_le E_o.lt zq1_0)
  have ne_vo_b1_0 : vo ≠ b1_0 := Nat.ne_of_lt (Nat.lt_of_lt_of_le V_vo.lt zq1_0)
  have ne_w_V_b1_0 : w_V ≠ b1_0 := Nat.ne_of_lt (Nat.lt_of_lt_of_le E_w_V.lt zq1_0)
  have ne_w_EQUAL_b1_0 : w_EQUAL ≠ b1_0 := Nat.ne_of_lt (Nat.lt_of_lt_of_le F_w_EQUAL_symbol.lt zq1_0)
  have ne_y_EQUAL_b1_0 : y_EQUAL ≠ b1_0 := Nat.ne_of_lt (Nat.lt_of_lt_of_le E_y_EQUAL.lt zq1_0)
  have ne_z_EQUAL_b1_0 : z_EQUAL ≠ b1_0 := Nat.ne_of_lt (Nat.lt_of_lt_of_le V_z_EQUAL.lt zq1_0)
  have ne_w_NOT_EQUAL_b1_0 : w_NOT_EQUAL ≠ b1_0 := Nat.ne_of_lt (Nat.lt_of_lt_of_le F_w_NOT_EQUAL_symbol.lt zq1_0)
  have ne_y_NOT_EQUAL_b1_0 : y_NOT_EQUAL ≠ b1_0 := Nat.ne_of_lt (Nat.lt_of_lt_of_le E_y_NOT_EQUAL.lt zq1_0)
  have ne_z_NOT_EQUAL_b1_0 : z_NOT_EQUAL ≠ b1_0 := Nat.ne_of_lt (Nat.lt_of_lt_of_le V_z_NOT_EQUAL.lt zq1_0)
  have ne_w_LESS_b1_0 : w_LESS ≠ b1_0 := Nat.ne_of_lt (Nat.lt_of_lt_of_le F_w_LESS_symbol.lt zq1_0)
  have ne_y_LESS_b1_0 : y_LESS ≠ b1_0 := Nat.ne_of_lt (Nat.lt_of_lt_of_le E_y_LESS.lt zq1_0)
  have ne_z_LESS_b1_0 : z_LESS ≠ b1_0 := Nat.ne_of_lt (Nat.lt_of_lt_of_le V_z_LESS.lt zq1_0)
  have ne_w_LESS_OR_EQUAL_b1_0 : w_LESS_OR_EQUAL ≠ b1_0 := Nat.ne_of_lt (Nat.lt_of_lt_of_le F_w_LESS_OR_EQUAL_symbol.lt zq1_0)
  have ne_y_LESS_OR_EQUAL_b1_0 : y_LESS_OR_EQUAL ≠ b1_0 := Nat.ne_of_lt (Nat.lt_of_lt_of_le E_y_LESS_OR_EQUAL.lt zq1_0)
  have ne_z_LESS_OR_EQUAL_b1_0 : z_LESS_OR_EQUAL ≠ b1_0 := Nat.ne_of_lt (Nat.lt_of_lt_of_le V_z_LESS_OR_EQUAL.lt zq1_0)
  have q1_0' : Arv Z T1.heap b1_0 k1_0 (.object "com/example/polyphony/polyphony/policy/Operator") (6 : Int32) [(.ref w_EQUAL), (.ref w_NOT_EQUAL), (.ref w_LESS), (.ref w_LESS_OR_EQUAL), (.ref w_GREATER), (.ref w_GREATER_OR_EQUAL)] .null := q1_0
  show own_Goes _ _ _ _ T1 (mkF m 3 #[.val (.ref o), .unset, .unset, .unset, .unset] [(.ref b1_0)])
  refine own_step (fun t k => XS.astoreN X1.here hx rfl (hb hby own_prog_48_method_7_3) rfl rfl (l' := #[.val (.ref o), .val (.ref b1_0), .unset, .unset, .unset]) rfl k) ?_
  show own_Goes _ _ _ _ T1 (mkF m 4 #[.val (.ref o), .val (.ref b1_0), .unset, .unset, .unset] [])
  refine own_step (fun t k => XS.aloadN X1.here hx rfl (hb hby own_prog_48_method_7_4) rfl rfl k) ?_
  show own_Goes _ _ _ _ T1 (mkF m 5 #[.val (.ref o), .val (.ref b1_0), .unset, .unset, .unset] [(.ref b1_0)])
  refine own_step (own_alen X1 hx hZ rfl q1_0' (g := (mkF m 5 #[.val (.ref o), .val (.ref b1_0), .unset, .unset, .unset] [(.ref b1_0)])) rfl rfl (hb hby own_prog_48_method_7_5)) ?_
  show own_Goes _ _ _ _ T1 (mkF m 6 #[.val (.ref o), .val (.ref b1_0), .unset, .unset, .unset] [(.int (6 : Int32))])
  refine own_step (fun t k => XS.istoreN X1.here hx rfl (hb hby own_prog_48_method_7_6) rfl (l' := #[.val (.ref o), .val (.ref b1_0), .val (.int (6 : Int32)), .unset, .unset]) rfl k) ?_
  show own_Goes _ _ _ _ T1 (mkF m 7 #[.val (.ref o), .val (.ref b1_0), .val (.int (6 : Int32)), .unset, .unset] [])
  refine own_step (fun t k => XS.iconst X1.here hx rfl (hb hby own_prog_48_method_7_7) k) ?_
  show own_Goes _ _ _ _ T1 (mkF m 8 #[.val (.ref o), .val (.ref b1_0), .val (.int (6 : Int32)), .unset, .unset] [(.int (0 : Int32))])
  refine own_step (fun t k => XS.istoreN X1.here hx rfl (hb hby own_prog_48_method_7_8) rfl (l' := #[.val (.ref o), .val (.ref b1_0), .val (.int (6 : Int32)), .val (.int (0 : Int32)), .unset]) rfl k) ?_
  show own_Goes _ _ _ _ T1 (mkF m 9 #[.val (.ref o), .val (.ref b1_0), .val (.int (6 : Int32)), .val (.int (0 : Int32)), .unset] [])
  refine own_step (fun t k => XS.iloadN X1.here hx rfl (hb hby own_prog_48_method_7_9) rfl k) ?_
  show own_Goes _ _ _ _ T1 (mkF m 10 #[.val (.ref o), .val (.ref b1_0), .val (.int (6 : Int32)), .val (.int (0 : Int32)), .unset] [(.int (0 : Int32))])
  refine own_step (fun t k => XS.iloadN X1.here hx rfl (hb hby own_prog_48_method_7_10) rfl k) ?_
  show own_Goes _ _ _ _ T1 (mkF m 11 #[.val (.ref o), .val (.ref b1_0), .val (.int (6 : Int32)), .val (.int (0 : Int32)), .unset] [(.int (6 : Int32)), (.int (0 : Int32))])
  refine own_step (fun t k => XS.icmpNo X1.here hx rfl (hb hby own_prog_48_method_7_11) rfl (tlt (show (0 : Int32) < (6 : Int32) from (by decide))).2.1 k) ?_
  show own_Goes _ _ _ _ T1 (mkF m 14 #[.val (.ref o), .val (.ref b1_0), .val (.int (6 : Int32)), .val (.int (0 : Int32)), .unset] [])
  refine own_step (fun t k => XS.aloadN X1.here hx rfl (hb hby own_prog_48_method_7_14) rfl rfl k) ?_
  show own_Goes _ _ _ _ T1 (mkF m 15 #[.val (.ref o), .val (.ref b1_0), .val (.int (6 : Int32)), .val (.int (0 : Int32)), .unset] [(.ref b1_0)])
  refine own_step (fun t k => XS.iloadN X1.here hx rfl (hb hby own_prog_48_method_7_15) rfl k) ?_
  show own_Goes _ _ _ _ T1 (mkF m 16 #[.val (.ref o), .val (.ref b1_0), .val (.int (6 : Int32)), .val (.int (0 : Int32)), .unset] [(.int (0 : Int32)), (.ref b1_0)])
  refine own_step (own_aaload X1 hx hZ rfl q1_0' rfl (.ref w_EQUAL) ⟨by decide, by decide⟩ rfl (g := (mkF m 16 #[.val (.ref o), .val (.ref b1_0), .val (.int (6 : Int32)), .val (.int (0 : Int32)), .unset] [(.int (0 : Int32)), (.ref b1_0)])) rfl rfl (hb hby own_prog_48_method_7_16)) ?_
  show own_Goes _ _ _ _ T1 (mkF m 17 #[.val (.ref o), .val (.ref b1_0), .val (.int (6 : Int32)), .val (.int (0 : Int32)), .unset] [(.ref w_EQUAL)])
  refine own_step (fun t k => XS.astore X1.here hx rfl (hb hby own_prog_48_method_7_17) rfl rfl (l' := #[.val (.ref o), .val (.ref b1_0), .val (.int (6 : Int32)), .val (.int (0 : Int32)), .val (.ref w_EQUAL)]) rfl k) ?_
  show own_Goes _ _ _ _ T1 (mkF m 19 #[.val (.ref o), .val (.ref b1_0), .val (.int (6 : Int32)), .val (.int (0 : Int32)), .val (.ref w_EQUAL)] [])
  refine own_step (fun t k => XS.aload X1.here hx rfl (hb hby own_prog_48_method_7_19) rfl rfl k) ?_
  show own_Goes _ _ _ _ T1 (mkF m 21 #[.val (.ref o), .val (.ref b1_0), .val (.int (6 : Int32)), .val (.int (0 : Int32)), .val (.ref w_EQUAL)] [(.ref w_EQUAL)])
  have F_w_EQUAL_symbol_v3 := (F_w_EQUAL_symbol.keep Kq1 nin0)
  obtain ⟨T2, X2, e2, st2⟩ := getF X1 hx hZ hown (host := "") (Or.inl (hw _ (List.mem_of_getElem? (i := 57) rfl))) Via.refl rfl F_w_EQUAL_symbol_v3 (g := (mkF m 21 #[.val (.ref o), .val (.ref b1_0), .val (.int (6 : Int32)), .val (.int (0 : Int32)), .val (.ref w_EQUAL)] [(.ref w_EQUAL)])) rfl rfl (hb hby own_prog_48_method_7_21)
  refine own_step st2 ?_
  show own_Goes _ _ _ _ T2 (mkF m 24 #[.val (.ref o), .val (.ref b1_0), .val (.int (6 : Int32)), .val (.int (0 : Int32)), .val (.ref w_EQUAL)] [(.ref y_EQUAL)])
  refine own_step (fun t k => XS.aloadN X2.here hx rfl (hb hby own_prog_48_method_7_24) rfl rfl k) ?_
  show own_Goes _ _ _ _ T2 (mkF m 25 #[.val (.ref o), .val (.ref b1_0), .val (.int (6 : Int32)), .val (.int (0 : Int32)), .val (.ref w_EQUAL)] [(.ref o), (.ref y_EQUAL)])
  have E_o_v4 := (E_o.keep Kq1)
  have F_y_EQUAL_coder_v5 := (F_y_EQUAL_coder.keep Kq1 nin0)
  have F_o_coder_v6 := (F_o_coder.keep Kq1 nin0)
  have F_y_EQUAL_value_v7 := (F_y_EQUAL_value.keep Kq1 nin0)
  have F_o_value_v8 := (F_o_value.keep Kq1 nin0)
  have V_z_EQUAL_v9 := (V_z_EQUAL.keep Kq1 nin0)
  have V_vo_v10 := (V_vo.keep Kq1 nin0)
  have S_COMPACT_STRINGS_v11 := (own_staKeep S_COMPACT_STRINGS Kq1 all0)
  have E_y_EQUAL_v13 := (E_y_EQUAL.keep Kq1)
  refine own_callV X2 hx hZ (y := (⟨"java/lang/String", "equals", "(Ljava/lang/Object;)Z"⟩ : MethodName)) (z := (⟨"java/lang/String", "equals", "(Ljava/lang/Object;)Z"⟩ : MethodName)) hown (hw _ (List.mem_of_getElem? (i := 59) rfl)) (hw _ (List.mem_of_getElem? (i := 60) rfl)) (notFace_of_selects (args := #[]) (mvT hZ (hw _ (List.mem_of_getElem? (i := 62) rfl)))) (hw _ (List.mem_of_getElem? (i := 62) rfl)) (hw _ (List.mem_of_getElem? (i := 61) rfl)) (hw _ (List.mem_of_getElem? (i := 63) rfl)) (hw _ (List.mem_of_getElem? (i := 7) rfl)) (by decide) 0 E_y_EQUAL_v13 [(.ref o)] [] (own_seq_220 l Z a0 hw [] y_EQUAL o z_EQUAL vo k_EQUAL ko (61 : Int32) (61 : Int32) (60 : Int32) (61 : Int32) zc T1.heap n0 (Nat.le_trans Z0 K1.1) E_o_v4 F_y_EQUAL_coder_v5 F_o_coder_v6 F_y_EQUAL_value_v7 F_o_value_v8 V_z_EQUAL_v9 V_vo_v10 S_COMPACT_STRINGS_v11 (by decide) hz neo_EQUAL) e2 (by decide) (by decide) (by decide) (by decide) (g := (mkF m 25 #[.val (.ref o), .val (.ref b1_0), .val (.int (6 : Int32)), .val (.int (0 : Int32)), .val (.ref w_EQUAL)] [(.ref o), (.ref y_EQUAL)])) rfl (by rw [hml]; rfl) own_pd2 rfl rfl (by show 2 * 0 + _ ≤ _; exact Nat.le_of_eq rfl) (hb hby own_prog_48_method_7_25) ?_
  intro T12 v12 L12 X12 hQ12
  obtain ⟨rfl, N12q, e12⟩ := hQ12
  have N12 := Fr.app N1 N12q
  show own_Goes _ _ _ _ T12 (mkF m 28 #[.val (.ref o), .val (.ref b1_0), .val (.int (6 : Int32)), .val (.int (0 : Int32)), .val (.ref w_EQUAL)] [(.int (0 : Int32))])
  refine own_step (fun t k => XS.ifYes X12.here hx rfl (pc0 := 28) (pc' := 34) rfl (hb hby own_prog_48_method_7_28) rfl ((if0 _ _).trans (teq (show (0 : Int32) = (0 : Int32) from (by decide))).1) (by decide) (by decide) k) ?_
  show own_Goes _ _ _ _ T12 (mkF m 34 #[.val (.ref o), .val (.ref b1_0), .val (.int (6 : Int32)), .val (.int (0 : Int32)), .val (.ref w_EQUAL)] [])
  refine own_step (fun t k => XS.iinc X12.here hx rfl (hb hby own_prog_48_method_7_34) rfl (l' := #[.val (.ref o), .val (.ref b1_0), .val (.int (6 : Int32)), .val (.int (1 : Int32)), .val (.ref w_EQUAL)]) rfl k) ?_
  show own_Goes _ _ _ _ T12 (mkF m 37 #[.val (.ref o), .val (.ref b1_0), .val (.int (6 : Int32)), .val (.int (1 : Int32)), .val (.ref w_EQUAL)] [])
  refine own_step (fun t k => XS.goto X12.here hx rfl (pc0 := 37) (pc' := 9) rfl (hb hby own_prog_48_method_7_37) (by decide) (by decide) k) ?_
  show own_Goes _ _ _ _ T12 (mkF m 9 #[.val (.ref o), .val (.ref b1_0), .val (.int (6 : Int32)), .val (.int (1 : Int32)), .val (.ref w_EQUAL)] [])
  refine own_step (fun t k => XS.iloadN X12.here hx rfl (hb hby own_prog_48_method_7_9) rfl k) ?_
  show own_Goes _ _ _ _ T12 (mkF m 10 #[.val (.ref o), .val (.ref b1_0), .val (.int (6 : Int32)), .val (.int (1 : Int32)), .val (.ref w_EQUAL)] [(.int (1 : Int32))])
  refine own_step (fun t k => XS.iloadN X12.here hx rfl (hb hby own_prog_48_method_7_10) rfl k) ?_
  show own_Goes _ _ _ _ T12 (mkF m 11 #[.val (.ref o), .val (.ref b1_0), .val (.int (6 : Int32)), .val (.int (1 : Int32)), .val (.ref w_EQUAL)] [(.int (6 : Int32)), (.int (1 : Int32))])
  refine own_step (fun t k => XS.icmpNo X12.here hx rfl (hb hby own_prog_48_method_7_11) rfl (tlt (show (1 : Int32) < (6 : Int32) from (by decide))).2.1 k) ?_
  show own_Goes _ _ _ _ T12 (mkF m 14 #[.val (.ref o), .val (.ref b1_0), .val (.int (6 : Int32)), .val (.int (1 : Int32)), .val (.ref w_EQUAL)] [])
  refine own_step (fun t k => XS.aloadN X12.here hx rfl (hb hby own_prog_48_method_7_14) rfl rfl k) ?_
  show own_Goes _ _ _ _ T12 (mkF m 15 #[.val (.ref o), .val (.ref b1_0), .val (.int (6 : Int32)), .val (.int (1 : Int32)), .val (.ref w_EQUAL)] [(.ref b1_0)])
  refine own_step (fun t k => XS.iloadN X12.here hx rfl (hb hby own_prog_48_method_7_15) rfl k) ?_
  show own_Goes _ _ _ _ T12 (mkF m 16 #[.val (.ref o), .val (.ref b1_0), .val (.int (6 : Int32)), .val (.int (1 : Int32)), .val (.ref w_EQUAL)] [(.int (1 : Int32)), (.ref b1_0)])
  refine own_step (own_aaload X12 hx hZ e12 q1_0' rfl (.ref w_NOT_EQUAL) ⟨by decide, by decide⟩ rfl (g := (mkF m 16 #[.val (.ref o), .val (.ref b1_0), .val (.int (6 : Int32)), .val (.int (1 : Int32)), .val (.ref w_EQUAL)] [(.int (1 : Int32)), (.ref b1_0)])) rfl rfl (hb hby own_prog_48_method_7_16)) ?_
  show own_Goes _ _ _ _ T12 (mkF m 17 #[.val (.ref o), .val (.ref b1_0), .val (.int (6 : Int32)), .val (.int (1 : Int32)), .val (.ref w_EQUAL)] [(.ref w_NOT_EQUAL)])
  refine own_step (fun t k => XS.astore X12.here hx rfl (hb hby own_prog_48_method_7_17) rfl rfl (l' := #[.val (.ref o), .val (.ref b1_0), .val (.int (6 : Int32)), .val (.int (1 : Int32)), .val (.ref w_NOT_EQUAL)]) rfl k) ?_
  show own_Goes _ _ _ _ T12 (mkF m 19 #[.val (.ref o), .val (.ref b1_0), .val (.int (6 : Int32)), .val (.int (1 : Int32)), .val (.ref w_NOT_EQUAL)] [])
  refine own_step (fun t k => XS.aload X12.here hx rfl (hb hby own_prog_48_method_7_19) rfl rfl k) ?_
  show own_Goes _ _ _ _ T12 (mkF m 21 #[.val (.ref o), .val (.ref b1_0), .val (.int (6 : Int32)), .val (.int (1 : Int32)), .val (.ref w_NOT_EQUAL)] [(.ref w_NOT_EQUAL)])
  have F_w_NOT_EQUAL_symbol_v15 := (F_w_NOT_EQUAL_symbol.keep Kq1 nin0)
  obtain ⟨T14, X14, e14, st14⟩ := getF X12 hx hZ hown (host := "") (Or.inl (hw _ (List.mem_of_getElem? (i := 57) rfl))) Via.refl e12 F_w_NOT_EQUAL_symbol_v15 (g := (mkF m 21 #[.val (.ref o), .val (.ref b1_0), .val (.int (6 : Int32)), .val (.int (1 : Int32)), .val (.ref w_NOT_EQUAL)] [(.ref w_NOT_EQUAL)])) rfl rfl (hb hby own_prog_48_method_7_21)
  refine own_step st14 ?_
  show own_Goes _ _ _ _ T14 (mkF m 24 #[.val (.ref o), .val (.ref b1_0), .val (.int (6 : Int32)), .val (.int (1 : Int32)), .val (.ref w_NOT_EQUAL)] [(.ref y_NOT_EQUAL)])
  refine own_step (fun t k => XS.aloadN X14.here hx rfl (hb hby own_prog_48_method_7_24) rfl rfl k) ?_
  show own_Goes _ _ _ _ T14 (mkF m 25 #[.val (.ref o), .val (.ref b1_0), .val (.int (6 : Int32)), .val (.int (1 : Int32)), .val (.ref w_NOT_EQUAL)] [(.ref o), (.ref y_NOT_EQUAL)])
  have F_y_NOT_EQUAL_coder_v16 := (F_y_NOT_EQUAL_coder.keep Kq1 nin0)
  have F_y_NOT_EQUAL_value_v17 := (F_y_NOT_EQUAL_value.keep Kq1 nin0)
  have V_z_NOT_EQUAL_v18 := (V_z_NOT_EQUAL.keep Kq1 nin0)
  have E_y_NOT_EQUAL_v20 := (E_y_NOT_EQUAL.keep Kq1)
  refine own_callV X14 hx hZ (y := (⟨"java/lang/String", "equals", "(Ljava/lang/Object;)Z"⟩ : MethodName)) (z := (⟨"java/lang/String", "equals", "(Ljava/lang/Object;)Z"⟩ : MethodName)) hown (hw _ (List.mem_of_getElem? (i := 59) rfl)) (hw _ (List.mem_of_getElem? (i := 60) rfl)) (notFace_of_selects (args := #[]) (mvT hZ (hw _ (List.mem_of_getElem? (i := 62) rfl)))) (hw _ (List.mem_of_getElem? (i := 62) rfl)) (hw _ (List.mem_of_getElem? (i := 61) rfl)) (hw _ (List.mem_of_getElem? (i := 63) rfl)) (hw _ (List.mem_of_getElem? (i := 7) rfl)) (by decide) 0 E_y_NOT_EQUAL_v20 [(.ref o)] [] (own_seq_220 l Z a0 hw [] y_NOT_EQUAL o z_NOT_EQUAL vo k_NOT_EQUAL ko (33 : Int32) (61 : Int32) (60 : Int32) (61 : Int32) zc T1.heap n0 (Nat.le_trans Z0 K1.1) E_o_v4 F_y_NOT_EQUAL_coder_v16 F_o_coder_v6 F_y_NOT_EQUAL_value_v17 F_o_value_v8 V_z_NOT_EQUAL_v18 V_vo_v10 S_COMPACT_STRINGS_v11 (by decide) hz neo_NOT_EQUAL) e14 (by decide) (by decide) (by decide) (by decide) (g := (mkF m 25 #[.val (.ref o), .val (.ref b1_0), .val (.int (6 : Int32)), .val (.int (1 : Int32)), .val (.ref w_NOT_EQUAL)] [(.ref o), (.ref y_NOT_EQUAL)])) rfl (by rw [hml]; rfl) own_pd2 rfl rfl (by show 2 * 0 + _ ≤ _; exact Nat.le_of_eq rfl) (hb hby own_prog_48_method_7_25) ?_
  intro T19 v19 L19 X19 hQ19
  obtain ⟨rfl, N19q, e19⟩ := hQ19
  have N19 := Fr.app N12 N19q
  show own_Goes _ _ _ _ T19 (mkF m 28 #[.val (.ref o), .val (.ref b1_0), .val (.int (6 : Int32)), .val (.int (1 : Int32)), .val (.ref w_NOT_EQUAL)] [(.int (0 : Int32))])
  refine own_step (fun t k => XS.ifYes X19.here hx rfl (pc0 := 28) (pc' := 34) rfl (hb hby own_prog_48_method_7_28) rfl ((if0 _ _).trans (teq (show (0 : Int32) = (0 : Int32) from (by decide))).1) (by decide) (by decide) k) ?_
  show own_Goes _ _ _ _ T19 (mkF m 34 #[.val (.ref o), .val (.ref b1_0), .val (.int (6 : Int32)), .val (.int (1 : Int32)), .val (.ref w_NOT_EQUAL)] [])
  refine own_step (fun t k => XS.iinc X19.here hx rfl (hb hby own_prog_48_method_7_34) rfl (l' := #[.val (.ref o), .val (.ref b1_0), .val (.int (6 : Int32)), .val (.int (2 : Int32)), .val (.ref w_NOT_EQUAL)]) rfl k) ?_
  show own_Goes _ _ _ _ T19 (mkF m 37 #[.val (.ref o), .val (.ref b1_0), .val (.int (6 : Int32)), .val (.int (2 : Int32)), .val (.ref w_NOT_EQUAL)] [])
  refine own_step (fun t k => XS.goto X19.here hx rfl (pc0 := 37) (pc' := 9) rfl (hb hby own_prog_48_method_7_37) (by decide) (by decide) k) ?_
  show own_Goes _ _ _ _ T19 (mkF m 9 #[.val (.ref o), .val (.ref b1_0), .val (.int (6 : Int32)), .val (.int (2 : Int32)), .val (.ref w_NOT_EQUAL)] [])
  refine own_step (fun t k => XS.iloadN X19.here hx rfl (hb hby own_prog_48_method_7_9) rfl k) ?_
  show own_Goes _ _ _ _ T19 (mkF m 10 #[.val (.ref o), .val (.ref b1_0), .val (.int (6 : Int32)), .val (.int (2 : Int32)), .val (.ref w_NOT_EQUAL)] [(.int (2 : Int32))])
  refine own_step (fun t k => XS.iloadN X19.here hx rfl (hb hby own_prog_48_method_7_10) rfl k) ?_
  show own_Goes _ _ _ _ T19 (mkF m 11 #[.val (.ref o), .val (.ref b1_0), .val (.int (6 : Int32)), .val (.int (2 : Int32)), .val (.ref w_NOT_EQUAL)] [(.int (6 : Int32)), (.int (2 : Int32))])
  refine own_step (fun t k => XS.icmpNo X19.here hx rfl (hb hby own_prog_48_method_7_11) rfl (tlt (show (2 : Int32) < (6 : Int32) from (by decide))).2.1 k) ?_
  show own_Goes _ _ _ _ T19 (mkF m 14 #[.val (.ref o), .val (.ref b1_0), .val (.int (6 : Int32)), .val (.int (2 : Int32)), .val (.ref w_NOT_EQUAL)] [])
  refine own_step (fun t k => XS.aloadN X19.here hx rfl (hb hby own_prog_48_method_7_14) rfl rfl k) ?_
  show own_Goes _ _ _ _ T19 (mkF m 15 #[.val (.ref o), .val (.ref b1_0), .val (.int (6 : Int32)), .val (.int (2 : Int32)), .val (.ref w_NOT_EQUAL)] [(.ref b1_0)])
  refine own_step (fun t k => XS.iloadN X19.here hx rfl (hb hby own_prog_48_method_7_15) rfl k) ?_
  show own_Goes _ _ _ _ T19 (mkF m 16 #[.val (.ref o), .val (.ref b1_0), .val (.int (6 : Int32)), .val (.int (2 : Int32)), .val (.ref w_NOT_EQUAL)] [(.int (2 : Int32)), (.ref b1_0)])
  refine own_step (own_aaload X19 hx hZ e19 q1_0' rfl (.ref w_LESS) ⟨by decide, by decide⟩ rfl (g := (mkF m 16 #[.val (.ref o), .val (.ref b1_0), .val (.int (6 : Int32)), .val (.int (2 : Int32)), .val (.ref w_NOT_EQUAL)] [(.int (2 : Int32)), (.ref b1_0)])) rfl rfl (hb hby own_prog_48_method_7_16)) ?_
  show own_Goes _ _ _ _ T19 (mkF m 17 #[.val (.ref o), .val (.ref b1_0), .val (.int (6 : Int32)), .val (.int (2 : Int32)), .val (.ref w_NOT_EQUAL)] [(.ref w_LESS)])
  refine own_step (fun t k => XS.astore X19.here hx rfl (hb hby own_prog_48_method_7_17) rfl rfl (l' := #[.val (.ref o), .val (.ref b1_0), .val (.int (6 : Int32)), .val (.int (2 : Int32)), .val (.ref w_LESS)]) rfl k) ?_
  show own_Goes _ _ _ _ T19 (mkF m 19 #[.val (.ref o), .val (.ref b1_0), .val (.int (6 : Int32)), .val (.int (2 : Int32)), .val (.ref w_LESS)] [])
  refine own_step (fun t k => XS.aload X19.here hx rfl (hb hby own_prog_48_method_7_19) rfl rfl k) ?_
  show own_Goes _ _ _ _ T19 (mkF m 21 #[.val (.ref o), .val (.ref b1_0), .val (.int (6 : Int32)), .val (.int (2 : Int32)), .val (.ref w_LESS)] [(.ref w_LESS)])
  have F_w_LESS_symbol_v22 := (F_w_LESS_symbol.keep Kq1 nin0)
  obtain ⟨T21, X21, e21, st21⟩ := getF X19 hx hZ hown (host := "") (Or.inl (hw _ (List.mem_of_getElem? (i := 57) rfl))) Via.refl e19 F_w_LESS_symbol_v22 (g := (mkF m 21 #[.val (.ref o), .val (.ref b1_0), .val (.int (6 : Int32)), .val (.int (2 : Int32)), .val (.ref w_LESS)] [(.ref w_LESS)])) rfl rfl (hb hby own_prog_48_method_7_21)
  refine own_step st21 ?_
  show own_Goes _ _ _ _ T21 (mkF m 24 #[.val (.ref o), .val (.ref b1_0), .val (.int (6 : Int32)), .val (.int (2 : Int32)), .val (.ref w_LESS)] [(.ref y_LESS)])
  refine own_step (fun t k => XS.aloadN X21.here hx rfl (hb hby own_prog_48_method_7_24) rfl rfl k) ?_
  show own_Goes _ _ _ _ T21 (mkF m 25 #[.val (.ref o), .val (.ref b1_0), .val (.int (6 : Int32)), .val (.int (2 : Int32)), .val (.ref w_LESS)] [(.ref o), (.ref y_LESS)])
  have F_y_LESS_coder_v23 := (F_y_LESS_coder.keep Kq1 nin0)
  have F_y_LESS_value_v24 := (F_y_LESS_value.keep Kq1 nin0)
  have V_z_LESS_v25 := (V_z_LESS.keep Kq1 nin0)
  have E_y_LESS_v27 := (E_y_LESS.keep Kq1)
  refine own_callV X21 hx hZ (y := (⟨"java/lang/String", "equals", "(Ljava/lang/Object;)Z"⟩ : MethodName)) (z := (⟨"java/lang/String", "equals", "(Ljava/lang/Object;)Z"⟩ : MethodName)) hown (hw _ (List.mem_of_getElem? (i := 59) rfl)) (hw _ (List.mem_of_getElem? (i := 60) rfl)) (notFace_of_selects (args := #[]) (mvT hZ (hw _ (List.mem_of_getElem? (i := 62) rfl)))) (hw _ (List.mem_of_getElem? (i := 62) rfl)) (hw _ (List.mem_of_getElem? (i := 61) rfl)) (hw _ (List.mem_of_getElem? (i := 63) rfl)) (hw _ (List.mem_of_getElem? (i := 7) rfl)) (by decide) 0 E_y_LESS_v27 [(.ref o)] [] (own_seq_12len l Z a0 hw [] y_LESS o z_LESS vo k_LESS ko (60 : Int32) (60 : Int32) (61 : Int32) zc T1.heap n0 (Nat.le_trans Z0 K1.1) E_o_v4 F_y_LESS_coder_v23 F_o_coder_v6 F_y_LESS_value_v24 F_o_value_v8 V_z_LESS_v25 V_vo_v10 S_COMPACT_STRINGS_v11 hz neo_LESS) e21 (by decide) (by decide) (by decide) (by decide) (g := (mkF m 25 #[.val (.ref o), .val (.ref b1_0), .val (.int (6 : Int32)), .val (.int (2 : Int32)), .val (.ref w_LESS)] [(.ref o), (.ref y_LESS)])) rfl (by rw [hml]; rfl) own_pd2 rfl rfl (by show 2 * 0 + _ ≤ _; exact Nat.le_of_eq rfl) (hb hby own_prog_48_method_7_25) ?_
  intro T26 v26 L26 X26 hQ26
  obtain ⟨rfl, N26q, e26⟩ := hQ26
  have N26 := Fr.app N19 N26q
  show own_Goes _ _ _ _ T26 (mkF m 28 #[.val (.ref o), .val (.ref b1_0), .val (.int (6 : Int32)), .val (.int (2 : Int32)), .val (.ref w_LESS)] [(.int (0 : Int32))])
  refine own_step (fun t k => XS.ifYes X26.here hx rfl (pc0 := 28) (pc' := 34) rfl (hb hby own_prog_48_method_7_28) rfl ((if0 _ _).trans (teq (show (0 : Int32) = (0 : Int32) from (by decide))).1) (by decide) (by decide) k) ?_
  show own_Goes _ _ _ _ T26 (mkF m 34 #[.val (.ref o), .val (.ref b1_0), .val (.int (6 : Int32)), .val (.int (2 : Int32)), .val (.ref w_LESS)] [])
  refine own_step (fun t k => XS.iinc X26.here hx rfl (hb hby own_prog_48_method_7_34) rfl (l' := #[.val (.ref o), .val (.ref b1_0), .val (.int (6 : Int32)), .val (.int (3 : Int32)), .val (.ref w_LESS)]) rfl k) ?_
  show own_Goes _ _ _ _ T26 (mkF m 37 #[.val (.ref o), .val (.ref b1_0), .val (.int (6 : Int32)), .val (.int (3 : Int32)), .val (.ref w_LESS)] [])
  refine own_step (fun t k => XS.goto X26.here hx rfl (pc0 := 37) (pc' := 9) rfl (hb hby own_prog_48_method_7_37) (by decide) (by decide) k) ?_
  show own_Goes _ _ _ _ T26 (mkF m 9 #[.val (.ref o), .val (.ref b1_0), .val (.int (6 : Int32)), .val (.int (3 : Int32)), .val (.ref w_LESS)] [])
  refine own_step (fun t k => XS.iloadN X26.here hx rfl (hb hby own_prog_48_method_7_9) rfl k) ?_
  show own_Goes _ _ _ _ T26 (mkF m 10 #[.val (.ref o), .val (.ref b1_0), .val (.int (6 : Int32)), .val (.int (3 : Int32)), .val (.ref w_LESS)] [(.int (3 : Int32))])
  refine own_step (fun t k => XS.iloadN X26.here hx rfl (hb hby own_prog_48_method_7_10) rfl k) ?_
  show own_Goes _ _ _ _ T26 (mkF m 11 #[.val (.ref o), .val (.ref b1_0), .val (.int (6 : Int32)), .val (.int (3 : Int32)), .val (.ref w_LESS)] [(.int (6 : Int32)), (.int (3 : Int32))])
  refine own_step (fun t k => XS.icmpNo X26.here hx rfl (hb hby own_prog_48_method_7_11) rfl (tlt (show (3 : Int32) < (6 : Int32) from (by decide))).2.1 k) ?_
  show own_Goes _ _ _ _ T26 (mkF m 14 #[.val (.ref o), .val (.ref b1_0), .val (.int (6 : Int32)), .val (.int (3 : Int32)), .val (.ref w_LESS)] [])
  refine own_step (fun t k => XS.aloadN X26.here hx rfl (hb hby own_prog_48_method_7_14) rfl rfl k) ?_
  show own_Goes _ _ _ _ T26 (mkF m 15 #[.val (.ref o), .val (.ref b1_0), .val (.int (6 : Int32)), .val (.int (3 : Int32)), .val (.ref w_LESS)] [(.ref b1_0)])
  refine own_step (fun t k => XS.iloadN X26.here hx rfl (hb hby own_prog_48_method_7_15) rfl k) ?_
  show own_Goes _ _ _ _ T26 (mkF m 16 #[.val (.ref o), .val (.ref b1_0), .val (.int (6 : Int32)), .val (.int (3 : Int32)), .val (.ref w_LESS)] [(.int (3 : Int32)), (.ref b1_0)])
  refine own_step (own_aaload X26 hx hZ e26 q1_0' rfl (.ref w_LESS_OR_EQUAL) ⟨by decide, by decide⟩ rfl (g := (mkF m 16 #[.val (.ref o), .val (.ref b1_0), .val (.int (6 : Int32)), .val (.int (3 : Int32)), .val (.ref w_LESS)] [(.int (3 : Int32)), (.ref b1_0)])) rfl rfl (hb hby own_prog_48_method_7_16)) ?_
  show own_Goes _ _ _ _ T26 (mkF m 17 #[.val (.ref o), .val (.ref b1_0), .val (.int (6 : Int32)), .val (.int (3 : Int32)), .val (.ref w_LESS)] [(.ref w_LESS_OR_EQUAL)])
  refine own_step (fun t k => XS.astore X26.here hx rfl (hb hby own_prog_48_method_7_17) rfl rfl (l' := #[.val (.ref o), .val (.ref b1_0), .val (.int (6 : Int32)), .val (.int (3 : Int32)), .val (.ref w_LESS_OR_EQUAL)]) rfl k) ?_
  show own_Goes _ _ _ _ T26 (mkF m 19 #[.val (.ref o), .val (.ref b1_0), .val (.int (6 : Int32)), .val (.int (3 : Int32)), .val (.ref w_LESS_OR_EQUAL)] [])
  refine own_step (fun t k => XS.aload X26.here hx rfl (hb hby own_prog_48_method_7_19) rfl rfl k) ?_
  show own_Goes _ _ _ _ T26 (mkF m 21 #[.val (.ref o), .val (.ref b1_0), .val (.int (6 : Int32)), .val (.int (3 : Int32)), .val (.ref w_LESS_OR_EQUAL)] [(.ref w_LESS_OR_EQUAL)])
  have F_w_LESS_OR_EQUAL_symbol_v29 := (F_w_LESS_OR_EQUAL_symbol.keep Kq1 nin0)
  obtain ⟨T28, X28, e28, st28⟩ := getF X26 hx hZ hown (host := "") (Or.inl (hw _ (List.mem_of_getElem? (i := 57) rfl))) Via.refl e26 F_w_LESS_OR_EQUAL_symbol_v29 (g := (mkF m 21 #[.val (.ref o), .val (.ref b1_0), .val (.int (6 : Int32)), .val (.int (3 : Int32)), .val (.ref w_LESS_OR_EQUAL)] [(.ref w_LESS_OR_EQUAL)])) rfl rfl (hb hby own_prog_48_method_7_21)
  refine own_step st28 ?_
  show own_Goes _ _ _ _ T28 (mkF m 24 #[.val (.ref o), .val (.ref b1_0), .val (.int (6 : Int32)), .val (.int (3 : Int32)), .val (.ref w_LESS_OR_EQUAL)] [(.ref y_LESS_OR_EQUAL)])
  refine own_step (fun t k => XS.aloadN X28.here hx rfl (hb hby own_prog_48_method_7_24) rfl rfl k) ?_
  show own_Goes _ _ _ _ T28 (mkF m 25 #[.val (.ref o), .val (.ref b1_0), .val (.int (6 : Int32)), .val (.int (3 : Int32)), .val (.ref w_LESS_OR_EQUAL)] [(.ref o), (.ref y_LESS_OR_EQUAL)])
  have F_y_LESS_OR_EQUAL_coder_v30 := (F_y_LESS_OR_EQUAL_coder.keep Kq1 nin0)
  have F_y_LESS_OR_EQUAL_value_v31 := (F_y_LESS_OR_EQUAL_value.keep Kq1 nin0)
  have V_z_LESS_OR_EQUAL_v32 := (V_z_LESS_OR_EQUAL.keep Kq1 nin0)
  have E_y_LESS_OR_EQUAL_v34 := (E_y_LESS_OR_EQUAL.keep Kq1)
  refine own_callV X28 hx hZ (y := (⟨"java/lang/String", "equals", "(Ljava/lang/Object;)Z"⟩ : MethodName)) (z := (⟨"java/lang/String", "equals", "(Ljava/lang/Object;)Z"⟩ : MethodName)) hown (hw _ (List.mem_of_getElem? (i := 59) rfl)) (hw _ (List.mem_of_getElem? (i := 60) rfl)) (notFace_of_selects (args := #[]) (mvT hZ (hw _ (List.mem_of_getElem? (i := 62) rfl)))) (hw _ (List.mem_of_getElem? (i := 62) rfl)) (hw _ (List.mem_of_getElem? (i := 61) rfl)) (hw _ (List.mem_of_getElem? (i := 63) rfl)) (hw _ (List.mem_of_getElem? (i := 7) rfl)) (by decide) 0 E_y_LESS_OR_EQUAL_v34 [(.ref o)] [] (own_seq_22eq l Z a0 hw [] y_LESS_OR_EQUAL o z_LESS_OR_EQUAL vo k_LESS_OR_EQUAL ko (60 : Int32) (61 : Int32) (60 : Int32) (61 : Int32) zc T1.heap n0 (Nat.le_trans Z0 K1.1) E_o_v4 F_y_LESS_OR_EQUAL_coder_v30 F_o_coder_v6 F_y_LESS_OR_EQUAL_value_v31 F_o_value_v8 V_z_LESS_OR_EQUAL_v32 V_vo_v10 S_COMPACT_STRINGS_v11 (by decide) (by decide) hz neo_LESS_OR_EQUAL) e28 (by decide) (by decide) (by decide) (by decide) (g := (mkF m 25 #[.val (.ref o), .val (.ref b1_0), .val (.int (6 : Int32)), .val (.int (3 : Int32)), .val (.ref w_LESS_OR_EQUAL)] [(.ref o), (.ref y_LESS_OR_EQUAL)])) rfl (by rw [hml]; rfl) own_pd2 rfl rfl (by show 2 * 0 + _ ≤ _; exact Nat.le_of_eq rfl) (hb hby own_prog_48_method_7_25) ?_
  intro T33 v33 L33 X33 hQ33
  obtain ⟨rfl, N33q, e33⟩ := hQ33
  have N33 := Fr.app N26 N33q
  show own_Goes _ _ _ _ T33 (mkF m 28 #[.val (.ref o), .val (.ref b1_0), .val (.int (6 : Int32)), .val (.int (3 : Int32)), .val (.ref w_LESS_OR_EQUAL)] [(.int (1 : Int32))])
  refine own_step (fun t k => XS.ifNo X33.here hx rfl (hb hby own_prog_48_method_7_28) rfl ((if0 _ _).trans (feq (show ¬ ((1 : Int32) = (0 : Int32)) from (by decide))).1) k) ?_
  show own_Goes _ _ _ _ T33 (mkF m 31 #[.val (.ref o), .val (.ref b1_0), .val (.int (6 : Int32)), .val (.int (3 : Int32)), .val (.ref w_LESS_OR_EQUAL)] [])
  refine own_step (fun t k => XS.aload X33.here hx rfl (hb hby own_prog_48_method_7_31) rfl rfl k) ?_
  show own_Goes _ _ _ _ T33 (mkF m 33 #[.val (.ref o), .val (.ref b1_0), .val (.int (6 : Int32)), .val (.int (3 : Int32)), .val (.ref w_LESS_OR_EQUAL)] [(.ref w_LESS_OR_EQUAL)])
  exact own_retA X33 hx hlk hrt rfl rfl rfl (hb hby own_prog_48_method_7_33) (by rw [e33]; exact ⟨rfl, N33, K1⟩) (by decide) (by decide)
set_option maxRecDepth 65536 in
set_option maxHeartbeats 40000000 in
theorem own_leq_110 (l : Launch) (Z : State) (a0 : Array Value) (hw : ∀ d ∈ tables_1, d.before a0 Z = true) (ws : List Jvm.Cond) (va : Addr) (vb : Addr) (ka : ClassId) (kb : ClassId) (x0 : Int32) (y0 : Int32) (h0 : Heap) (n0 : Nat) (Z0 : n0 ≤ h0.size) (V_va : Arv Z h0 va ka .byte (1 : Int32) [(.int x0)] (.int (0 : Int32))) (V_vb : Arv Z h0 vb kb .byte (1 : Int32) [(.int y0)] (.int (0 : Int32))) (hq0 : ¬ (x0 = y0)) :
    own_Met l Z (⟨"java/lang/StringLatin1", "equals", "([B[B)Z"⟩ : MethodName) jdk_43_method_13_code 3 (some .boolean) ws ({ frames := 0, cells := 0, slots := 0, locals := 0 } : Room) #[(.ref va), (.ref vb)] h0 (fun v h L => v = some (.int (0 : Int32)) ∧ Fr n0 L ∧ h = h0) := by
  refine own_body (plainFor_of_name own_pn_java_lang_StringLatin1) (fun p e s m below meth c s₁ hx hby hml0 hrt hlk hown0 hnm hZ X0 e0 => ?_)
  have N0 := Fr.nil n0
  have hown : s.vm.findClass "java/lang/StringLatin1" = some m.cls := hown0
  have hml : c.maxLocals = 3 := hml0
  refine own_castG (own_ef3 m va vb) ?_
  show own_Goes _ _ _ _ s₁ (mkF m 0 #[.val (.ref va), .val (.ref vb), .unset] [])
  refine own_step (fun t k => XS.aloadN X0.here hx rfl (hb hby own_jdk_43_method_13_0) rfl rfl k) ?_
  show own_Goes _ _ _ _ s₁ (mkF m 1 #[.val (.ref va), .val (.ref vb), .unset] [(.ref va)])
  refine own_step (own_alen X0 hx hZ e0 V_va (g := (mkF m 1 #[.val (.ref va), .val (.ref vb), .unset] [(.ref va)])) rfl rfl (hb hby own_jdk_43_method_13_1)) ?_
  show own_Goes _ _ _ _ s₁ (mkF m 2 #[.val (.ref va), .val (.ref vb), .unset] [(.int (1 : Int32))])
  refine own_step (fun t k => XS.aloadN X0.here hx rfl (hb hby own_jdk_43_method_13_2) rfl rfl k) ?_
  show own_Goes _ _ _ _ s₁ (mkF m 3 #[.val (.ref va), .val (.ref vb), .unset] [(.ref vb), (.int (1 : Int32))])
  refine own_step (own_alen X0 hx hZ e0 V_vb (g := (mkF m 3 #[.val (.ref va), .val (.ref vb), .unset] [(.ref vb), (.int (1 : Int32))])) rfl rfl (hb hby own_jdk_43_method_13_3)) ?_
  show own_Goes _ _ _ _ s₁ (mkF m 4 #[.val (.ref va), .val (.ref vb), .unset] [(.int (1 : Int32)), (.int (1 : Int32))])
  refine own_step (fun t k => XS.icmpNo X0.here hx rfl (hb hby own_jdk_43_method_13_4) rfl (teq (show (1 : Int32) = (1 : Int32) from (by decide))).2 k) ?_
  show own_Goes _ _ _ _ s₁ (mkF m 7 #[.val (.ref va), .val (.ref vb), .unset] [])
  refine own_step (fun t k => XS.iconst X0.here hx rfl (hb hby own_jdk_43_method_13_7) k) ?_
  show own_Goes _ _ _ _ s₁ (mkF m 8 #[.val (.ref va), .val (.ref vb), .unset] [(.int (0 : Int32))])
  refine own_step (fun t k => XS.istoreN X0.here hx rfl (hb hby own_jdk_43_method_13_8) rfl (l' := #[.val (.ref va), .val (.ref vb), .val (.int (0 : Int32))]) rfl k) ?_
  show own_Goes _ _ _ _ s₁ (mkF m 9 #[.val (.ref va), .val (.ref vb), .val (.int (0 : Int32))] [])
  refine own_step (fun t k => XS.iloadN X0.here hx rfl (hb hby own_jdk_43_method_13_9) rfl k) ?_
  show own_Goes _ _ _ _ s₁ (mkF m 10 #[.val (.ref va), .val (.ref vb), .val (.int (0 : Int32))] [(.int (0 : Int32))])
  refine own_step (fun t k => XS.aloadN X0.here hx rfl (hb hby own_jdk_43_method_13_10) rfl rfl k) ?_
  show own_Goes _ _ _ _ s₁ (mkF m 11 #[.val (.ref va), .val (.ref vb), .val (.int (0 : Int32))] [(.ref va), (.int (0 : Int32))])
  refine own_step (own_alen X0 hx hZ e0 V_va (g := (mkF m 11 #[.val (.ref va), .val (.ref vb), .val (.int (0 : Int32))] [(.ref va), (.int (0 : Int32))])) rfl rfl (hb hby own_jdk_43_method_13_11)) ?_
  show own_Goes _ _ _ _ s₁ (mkF m 12 #[.val (.ref va), .val (.ref vb), .val (.int (0 : Int32))] [(.int (1 : Int32)), (.int (0 : Int32))])
  refine own_step (fun t k => XS.icmpNo X0.here hx rfl (hb hby own_jdk_43_method_13_12) rfl (tlt (show (0 : Int32) < (1 : Int32) from (by decide))).2.1 k) ?_
  show own_Goes _ _ _ _ s₁ (mkF m 15 #[.val (.ref va), .val (.ref vb), .val (.int (0 : Int32))] [])
  refine own_step (fun t k => XS.aloadN X0.here hx rfl (hb hby own_jdk_43_method_13_15) rfl rfl k) ?_
  show own_Goes _ _ _ _ s₁ (mkF m 16 #[.val (.ref va), .val (.ref vb), .val (.int (0 : Int32))] [(.ref va)])
  refine own_step (fun t k => XS.iloadN X0.here hx rfl (hb hby own_jdk_43_method_13_16) rfl k) ?_
  show own_Goes _ _ _ _ s₁ (mkF m 17 #[.val (.ref va), .val (.ref vb), .val (.int (0 : Int32))] [(.int (0 : Int32)), (.ref va)])
  refine own_step (own_baload X0 hx hZ e0 V_va (.int x0) ⟨by decide, by decide⟩ rfl (g := (mkF m 17 #[.val (.ref va), .val (.ref vb), .val (.int (0 : Int32))] [(.int (0 : Int32)), (.ref va)])) rfl rfl (hb hby own_jdk_43_method_13_17)) ?_
  show own_Goes _ _ _ _ s₁ (mkF m 18 #[.val (.ref va), .val (.ref vb), .val (.int (0 : Int32))] [(.int x0)])
  refine own_step (fun t k => XS.aloadN X0.here hx rfl (hb hby own_jdk_43_method_13_18) rfl rfl k) ?_
  show own_Goes _ _ _ _ s₁ (mkF m 19 #[.val (.ref va), .val (.ref vb), .val (.int (0 : Int32))] [(.ref vb), (.int x0)])
  refine own_step (fun t k => XS.iloadN X0.here hx rfl (hb hby own_jdk_43_method_13_19) rfl k) ?_
  show own_Goes _ _ _ _ s₁ (mkF m 20 #[.val (.ref va), .val (.ref vb), .val (.int (0 : Int32))] [(.int (0 : Int32)), (.ref vb), (.int x0)])
  refine own_step (own_baload X0 hx hZ e0 V_vb (.int y0) ⟨by decide, by decide⟩ rfl (g := (mkF m 20 #[.val (.ref va), .val (.ref vb), .val (.int (0 : Int32))] [(.int (0 : Int32)), (.ref vb), (.int x0)])) rfl rfl (hb hby own_jdk_43_method_13_20)) ?_
  show own_Goes _ _ _ _ s₁ (mkF m 21 #[.val (.ref va), .val (.ref vb), .val (.int (0 : Int32))] [(.int y0), (.int x0)])
  refine own_step (fun t k => XS.icmpNo X0.here hx rfl (hb hby own_jdk_43_method_13_21) rfl (feq (show ¬ (x0 = y0) from hq0)).1 k) ?_
  show own_Goes _ _ _ _ s₁ (mkF m 24 #[.val (.ref va), .val (.ref vb), .val (.int (0 : Int32))] [])
  refine own_step (fun t k => XS.iconst X0.here hx rfl (hb hby own_jdk_43_method_13_24) k) ?_
  show own_Goes _ _ _ _ s₁ (mkF m 25 #[.val (.ref va), .val (.ref vb), .val (.int (0 : Int32))] [(.int (0 : Int32))])
  exact own_retN X0 hx hlk (t := .boolean) hrt (by simp) (hb hby own_jdk_43_method_13_25) ⟨rfl, N0, e0⟩ (by decide) (by decide)
set_option maxRecDepth 65536 in
set_option maxHeartbeats 40000000 in
theorem own_seq_110 (l : Launch) (Z : State) (a0 : Array Value) (hw : ∀ d ∈ tables_1, d.before a0 Z = true) (ws : List Jvm.Cond) (a : Addr) (o : Addr) (va : Addr) (vb : Addr) (ka : ClassId) (kb : ClassId) (x0 : Int32) (y0 : Int32) (zc : Int32) (h0 : Heap) (n0 : Nat) (Z0 : n0 ≤ h0.size) (E_o : Exa Z h0 o "java/lang/String") (F_a_coder : Fld Z h0 a "java/lang/String" "coder" "B" (.int (0 : Int32))) (F_o_coder : Fld Z h0 o "java/lang/String" "coder" "B" (.int (0 : Int32))) (F_a_value : Fld Z h0 a "java/lang/String" "value" "[B" (.ref va)) (F_o_value : Fld Z h0 o "java/lang/String" "value" "[B" (.ref vb)) (V_va : Arv Z h0 va ka .byte (1 : Int32) [(.int x0)] (.int (0 : Int32))) (V_vb : Arv Z h0 vb kb .byte (1 : Int32) [(.int y0)] (.int (0 : Int32))) (S_COMPACT_STRINGS : Sta Z h0 "java/lang/String" "COMPACT_STRINGS" "Z" (.int zc)) (hq0 : ¬ (x0 = y0)) (hz : ¬ (zc = (0 : Int32))) (neao : ¬ (a = o)) :
    own_Met l Z (⟨"java/lang/String", "equals", "(Ljava/lang/Object;)Z"⟩ : MethodName) jdk_42_method_66_code 3 (some .boolean) ws ({ frames := 1, cells := 0, slots := 0, locals := 14 } : Room) #[(.ref a), (.ref o)] h0 (fun v h L => v = some (.int (0 : Int32)) ∧ Fr n0 L ∧ h = h0) := by
  refine own_body (plainFor_of_name own_pn_java_lang_String) (fun p e s m below meth c s₁ hx hby hml0 hrt hlk hown0 hnm hZ X0 e0 => ?_)
  have N0 := Fr.nil n0
  have hown : s.vm.findClass "java/lang/String" = some m.cls := hown0
  have hml : c.maxLocals = 3 := hml0
  refine own_castG (own_ef4 m a o) ?_
  show own_Goes _ _ _ _ s₁ (mkF m 0 #[.val (.ref a), .val (.ref o), .unset] [])
  refine own_step (fun t k => XS.aloadN X0.here hx rfl (hb hby own_jdk_42_method_66_0) rfl rfl k) ?_
  show own_Goes _ _ _ _ s₁ (mkF m 1 #[.val (.ref a), .val (.ref o), .unset] [(.ref a)])
  refine own_step (fun t k => XS.aloadN X0.here hx rfl (hb hby own_jdk_42_method_66_1) rfl rfl k) ?_
  show own_Goes _ _ _ _ s₁ (mkF m 2 #[.val (.ref a), .val (.ref o), .unset] [(.ref o), (.ref a)])
  refine own_step (fun t k => Jvm.RoadKit.acmp (g := (mkF m 2 #[.val (.ref a), .val (.ref o), .unset] [(.ref o), (.ref a)])) X0 hx rfl rfl rfl (pc0 := 2) (pc' := 7) (same := false) rfl (hb hby own_jdk_42_method_66_2) rfl (decide_eq_false fun q => neao (Value.ref.inj q)) (by decide) (by decide) k) ?_
  show own_Goes _ _ _ _ s₁ (mkF m 7 #[.val (.ref a), .val (.ref o), .unset] [])
  refine own_step (fun t k => XS.aloadN X0.here hx rfl (hb hby own_jdk_42_method_66_7) rfl rfl k) ?_
  show own_Goes _ _ _ _ s₁ (mkF m 8 #[.val (.ref a), .val (.ref o), .unset] [(.ref o)])
  obtain ⟨T1, X1, e1, st1⟩ := instY X0 hx hZ hown (hw _ (List.mem_of_getElem? (i := 64) rfl)) e0 (Ins.self E_o) (g := (mkF m 8 #[.val (.ref a), .val (.ref o), .unset] [(.ref o)])) rfl rfl (hb hby own_jdk_42_method_66_8)
  refine own_step st1 ?_
  show own_Goes _ _ _ _ T1 (mkF m 11 #[.val (.ref a), .val (.ref o), .unset] [(.int (1 : Int32))])
  refine own_step (fun t k => XS.ifNo X1.here hx rfl (hb hby own_jdk_42_method_66_11) rfl ((if0 _ _).trans (feq (show ¬ ((1 : Int32) = (0 : Int32)) from (by decide))).1) k) ?_
  show own_Goes _ _ _ _ T1 (mkF m 14 #[.val (.ref a), .val (.ref o), .unset] [])
  refine own_step (fun t k => XS.aloadN X1.here hx rfl (hb hby own_jdk_42_method_66_14) rfl rfl k) ?_
  show own_Goes _ _ _ _ T1 (mkF m 15 #[.val (.ref a), .val (.ref o), .unset] [(.ref o)])
  obtain ⟨T2, X2, e2, st2⟩ := castY X1 hx hZ hown (hw _ (List.mem_of_getElem? (i := 64) rfl)) e1 (Ins.self E_o) (g := (mkF m 15 #[.val (.ref a), .val (.ref o), .unset] [(.ref o)])) rfl rfl (hb hby own_jdk_42_method_66_15)
  refine own_step st2 ?_
  show own_Goes _ _ _ _ T2 (mkF m 18 #[.val (.ref a), .val (.ref o), .unset] [(.ref o)])
  refine own_step (fun t k => XS.astoreN X2.here hx rfl (hb hby own_jdk_42_method_66_18) rfl rfl (l' := #[.val (.ref a), .val (.ref o), .val (.ref o)]) rfl k) ?_
  show own_Goes _ _ _ _ T2 (mkF m 19 #[.val (.ref a), .val (.ref o), .val (.ref o)] [])
  obtain ⟨T3, X3, e3, st3⟩ := getS2 X2 hx hZ hown (host := "") (Or.inl (hw _ (List.mem_of_getElem? (i := 18) rfl))) Via.refl e2 S_COMPACT_STRINGS (g := (mkF m 19 #[.val (.ref a), .val (.ref o), .val (.ref o)] [])) rfl (hb hby own_jdk_42_method_66_19)
  refine own_step st3 ?_
  show own_Goes _ _ _ _ T3 (mkF m 22 #[.val (.ref a), .val (.ref o), .val (.ref o)] [(.int zc)])
  refine own_step (fun t k => XS.ifNo X3.here hx rfl (hb hby own_jdk_42_method_66_22) rfl ((if0 _ _).trans (feq (show ¬ (zc = (0 : Int32)) from hz)).1) k) ?_
  show own_Goes _ _ _ _ T3 (mkF m 25 #[.val (.ref a), .val (.ref o), .val (.ref o)] [])
  refine own_step (fun t k => XS.aloadN X3.here hx rfl (hb hby own_jdk_42_method_66_25) rfl rfl k) ?_
  show own_Goes _ _ _ _ T3 (mkF m 26 #[.val (.ref a), .val (.ref o), .val (.ref o)] [(.ref a)])
  obtain ⟨T4, X4, e4, st4⟩ := getF X3 hx hZ hown (host := "") (Or.inl (hw _ (List.mem_of_getElem? (i := 30) rfl))) Via.refl e3 F_a_coder (g := (mkF m 26 #[.val (.ref a), .val (.ref o), .val (.ref o)] [(.ref a)])) rfl rfl (hb hby own_jdk_42_method_66_26)
  refine own_step st4 ?_
  show own_Goes _ _ _ _ T4 (mkF m 29 #[.val (.ref a), .val (.ref o), .val (.ref o)] [(.int (0 : Int32))])
  refine own_step (fun t k => XS.aloadN X4.here hx rfl (hb hby own_jdk_42_method_66_29) rfl rfl k) ?_
  show own_Goes _ _ _ _ T4 (mkF m 30 #[.val (.ref a), .val (.ref o), .val (.ref o)] [(.ref o), (.int (0 : Int32))])
  obtain ⟨T5, X5, e5, st5⟩ := getF X4 hx hZ hown (host := "") (Or.inl (hw _ (List.mem_of_getElem? (i := 30) rfl))) Via.refl e4 F_o_coder (g := (mkF m 30 #[.val (.ref a), .val (.ref o), .val (.ref o)] [(.ref o), (.int (0 : Int32))])) rfl rfl (hb hby own_jdk_42_method_66_30)
  refine own_step st5 ?_
  show own_Goes _ _ _ _ T5 (mkF m 33 #[.val (.ref a), .val (.ref o), .val (.ref o)] [(.int (0 : Int32)), (.int (0 : Int32))])
  refine own_step (fun t k => XS.icmpNo X5.here hx rfl (hb hby own_jdk_42_method_66_33) rfl (teq (show (0 : Int32) = (0 : Int32) from (by decide))).2 k) ?_
  show own_Goes _ _ _ _ T5 (mkF m 36 #[.val (.ref a), .val (.ref o), .val (.ref o)] [])
  refine own_step (fun t k => XS.aloadN X5.here hx rfl (hb hby own_jdk_42_method_66_36) rfl rfl k) ?_
  show own_Goes _ _ _ _ T5 (mkF m 37 #[.val (.ref a), .val (.ref o), .val (.ref o)] [(.ref a)])
  obtain ⟨T6, X6, e6, st6⟩ := getF X5 hx hZ hown (host := "") (Or.inl (hw _ (List.mem_of_getElem? (i := 32) rfl))) Via.refl e5 F_a_value (g := (mkF m 37 #[.val (.ref a), .val (.ref o), .val (.ref o)] [(.ref a)])) rfl rfl (hb hby own_jdk_42_method_66_37)
  refine own_step st6 ?_
  show own_Goes _ _ _ _ T6 (mkF m 40 #[.val (.ref a), .val (.ref o), .val (.ref o)] [(.ref va)])
  refine own_step (fun t k => XS.aloadN X6.here hx rfl (hb hby own_jdk_42_method_66_40) rfl rfl k) ?_
  show own_Goes _ _ _ _ T6 (mkF m 41 #[.val (.ref a), .val (.ref o), .val (.ref o)] [(.ref o), (.ref va)])
  obtain ⟨T7, X7, e7, st7⟩ := getF X6 hx hZ hown (host := "") (Or.inl (hw _ (List.mem_of_getElem? (i := 32) rfl))) Via.refl e6 F_o_value (g := (mkF m 41 #[.val (.ref a), .val (.ref o), .val (.ref o)] [(.ref o), (.ref va)])) rfl rfl (hb hby own_jdk_42_method_66_41)
  refine own_step st7 ?_
  show own_Goes _ _ _ _ T7 (mkF m 44 #[.val (.ref a), .val (.ref o), .val (.ref o)] [(.ref vb), (.ref va)])
  refine own_callS X7 hx hZ (y := (⟨"java/lang/StringLatin1", "equals", "([B[B)Z"⟩ : MethodName)) hown (hw _ (List.mem_of_getElem? (i := 65) rfl)) (hw _ (List.mem_of_getElem? (i := 66) rfl)) (hw _ (List.mem_of_getElem? (i := 67) rfl)) (hw _ (List.mem_of_getElem? (i := 68) rfl)) (by decide) 0 [(.ref va), (.ref vb)] [] (own_leq_110 l Z a0 hw [] va vb ka kb x0 y0 h0 n0 Z0 V_va V_vb hq0) e7 (by decide) (by decide) (by decide) (by decide) (g := (mkF m 44 #[.val (.ref a), .val (.ref o), .val (.ref o)] [(.ref vb), (.ref va)])) rfl (by rw [hml]; rfl) own_pd0 rfl rfl (by show 2 * 0 + _ ≤ _; exact Nat.le_of_eq rfl) (hb hby own_jdk_42_method_66_44) ?_
  intro T8 v8 L8 X8 hQ8
  obtain ⟨rfl, N8q, e8⟩ := hQ8
  have N8 := Fr.app N0 N8q
  show own_Goes _ _ _ _ T8 (mkF m 47 #[.val (.ref a), .val (.ref o), .val (.ref o)] [(.int (0 : Int32))])
  refine own_step (fun t k => XS.ifYes X8.here hx rfl (pc0 := 47) (pc' := 54) rfl (hb hby own_jdk_42_method_66_47) rfl ((if0 _ _).trans (teq (show (0 : Int32) = (0 : Int32) from (by decide))).1) (by decide) (by decide) k) ?_
  show own_Goes _ _ _ _ T8 (mkF m 54 #[.val (.ref a), .val (.ref o), .val (.ref o)] [])
  refine own_step (fun t k => XS.iconst X8.here hx rfl (hb hby own_jdk_42_method_66_54) k) ?_
  show own_Goes _ _ _ _ T8 (mkF m 55 #[.val (.ref a), .val (.ref o), .val (.ref o)] [(.int (0 : Int32))])
  exact own_retN X8 hx hlk (t := .boolean) hrt (by simp) (hb hby own_jdk_42_method_66_55) ⟨rfl, N8, e8⟩ (by decide) (by decide)
set_option maxRecDepth 65536 in
set_option maxHeartbeats 40000000 in
theorem own_of4 (l : Launch) (Z : State) (a0 : Array Value) (hw : ∀ d ∈ tables_1, d.before a0 Z = true) (ws : List Jvm.Cond) (o : Addr) (vo : Addr) (ko : ClassId) (zc : Int32) (w_V : Addr) (clv : Cell) (w_EQUAL : Addr) (w_NOT_EQUAL : Addr) (w_LESS : Addr) (w_LESS_OR_EQUAL : Addr) (w_GREATER : Addr) (w_GREATER_OR_EQUAL : Addr) (y_EQUAL : Addr) (z_EQUAL : Addr) (k_EQUAL : ClassId) (y_NOT_EQUAL : Addr) (z_NOT_EQUAL : Addr) (k_NOT_EQUAL : ClassId) (y_LESS : Addr) (z_LESS : Addr) (k_LESS : ClassId) (y_LESS_OR_EQUAL : Addr) (z_LESS_OR_EQUAL : Addr) (k_LESS_OR_EQUAL : ClassId) (y_GREATER : Addr) (z_GREATER : Addr) (k_GREATER : ClassId) (h0 : Heap) (n0 : Nat) (Z0 : n0 ≤ h0.size) (E_o : Exa Z h0 o "java/lang/String") (F_o_coder : Fld Z h0 o "java/lang/String" "coder" "B" (.int (0 : Int32))) (F_o_value : Fld Z h0 o "java/lang/String" "value" "[B" (.ref vo)) (V_vo : Arv Z h0 vo ko .byte (1 : Int32) [(.int (62 : Int32))] (.int (0 : Int32))) (S_COMPACT_STRINGS : Sta Z h0 "java/lang/String" "COMPACT_STRINGS" "Z" (.int zc)) (S__VALUES : Sta Z h0 "com/example/polyphony/polyphony/policy/Operator" "$VALUES" "[Lcom/example/polyphony/polyphony/policy/Operator;" (.ref w_V)) (R_w_V : Arr Z h0 w_V clv (.object "com/example/polyphony/polyphony/policy/Operator")) (E_w_V : Exa Z h0 w_V "[Lcom/example/polyphony/polyphony/policy/Operator;") (F_w_EQUAL_symbol : Fld Z h0 w_EQUAL "com/example/polyphony/polyphony/policy/Operator" "symbol" "Ljava/lang/String;" (.ref y_EQUAL)) (E_y_EQUAL : Exa Z h0 y_EQUAL "java/lang/String") (F_y_EQUAL_coder : Fld Z h0 y_EQUAL "java/lang/String" "coder" "B" (.int (0 : Int32))) (F_y_EQUAL_value : Fld Z h0 y_EQUAL "java/lang/String" "value" "[B" (.ref z_EQUAL)) (V_z_EQUAL : Arv Z h0 z_EQUAL k_EQUAL .byte (2 : Int32) [(.int (61 : Int32)), (.int (61 : Int32))] (.int (0 : Int32))) (F_w_NOT_EQUAL_symbol : Fld Z h0 w_NOT_EQUAL "com/example/polyphony/polyphony/policy/Operator" "symbol" "Ljava/lang/String;" (.ref y_NOT_EQUAL)) (E_y_NOT_EQUAL : Exa Z h0 y_NOT_EQUAL "java/lang/String") (F_y_NOT_EQUAL_coder : Fld Z h0 y_NOT_EQUAL "java/lang/String" "coder" "B" (.int (0 : Int32))) (F_y_NOT_EQUAL_value : Fld Z h0 y_NOT_EQUAL "java/lang/String" "value" "[B" (.ref z_NOT_EQUAL)) (V_z_NOT_EQUAL : Arv Z h0 z_NOT_EQUAL k_NOT_EQUAL .byte (2 : Int32) [(.int (33 : Int32)), (.int (61 : Int32))] (.int (0 : Int32))) (F_w_LESS_symbol : Fld Z h0 w_LESS "com/example/polyphony/polyphony/policy/Operator" "symbol" "Ljava/lang/String;" (.ref y_LESS)) (E_y_LESS : Exa Z h0 y_LESS "java/lang/String") (F_y_LESS_coder : Fld Z h0 y_LESS "java/lang/String" "coder" "B" (.int (0 : Int32))) (F_y_LESS_value : Fld Z h0 y_LESS "java/lang/String" "value" "[B" (.ref z_LESS)) (V_z_LESS : Arv Z h0 z_LESS k_LESS .byte (1 : Int32) [(.int (60 : Int32))] (.int (0 : Int32))) (F_w_LESS_OR_EQUAL_symbol : Fld Z h0 w_LESS_OR_EQUAL "com/example/polyphony/polyphony/policy/Operator" "symbol" "Ljava/lang/String;" (.ref y_LESS_OR_EQUAL)) (E_y_LESS_OR_EQUAL : Exa Z h0 y_LESS_OR_EQUAL "java/lang/String") (F_y_LESS_OR_EQUAL_coder : Fld Z h0 y_LESS_OR_EQUAL "java/lang/String" "coder" "B" (.int (0 : Int32))) (F_y_LESS_OR_EQUAL_value : Fld Z h0 y_LESS_OR_EQUAL "java/lang/String" "value" "[B" (.ref z_LESS_OR_EQUAL)) (V_z_LESS_OR_EQUAL : Arv Z h0 z_LESS_OR_EQUAL k_LESS_OR_EQUAL .byte (2 : Int32) [(.int (60 : Int32)), (.int (61 : Int32))] (.int (0 : Int32))) (F_w_GREATER_symbol : Fld Z h0 w_GREATER "com/example/polyphony/polyphony/policy/Operator" "symbol" "Ljava/lang/String;" (.ref y_GREATER)) (E_y_GREATER : Exa Z h0 y_GREATER "java/lang/String") (F_y_GREATER_coder : Fld Z h0 y_GREATER "java/lang/String" "coder" "B" (.int (0 : Int32))) (F_y_GREATER_value : Fld Z h0 y_GREATER "java/lang/String" "value" "[B" (.ref z_GREATER)) (V_z_GREATER : Arv Z h0 z_GREATER k_GREATER .byte (1 : Int32) [(.int (62 : Int32))] (.int (0 : Int32))) (F_v : FitC Z clv) (S_v : clv.slots.size = (6 : Int32).toNatClampNeg) (H_v : Has clv [(.ref w_EQUAL), (.ref w_NOT_EQUAL), (.ref w_LESS), (.ref w_LESS_OR_EQUAL), (.ref w_GREATER), (.ref w_GREATER_OR_EQUAL)] .null) (G_v : ∀ i, i < clv.slots.size → fits (.object "com/example/polyphony/polyphony/policy/Operator") ([(.ref w_EQUAL), (.ref w_NOT_EQUAL), (.ref w_LESS), (.ref w_LESS_OR_EQUAL), (.ref w_GREATER), (.ref w_GREATER_OR_EQUAL)].getD i .null) = true) (hz : ¬ (zc = (0 : Int32))) (neo_EQUAL : ¬ (y_EQUAL = o)) (neo_NOT_EQUAL : ¬ (y_NOT_EQUAL = o)) (neo_LESS : ¬ (y_LESS = o)) (neo_LESS_OR_EQUAL : ¬ (y_LESS_OR_EQUAL = o)) (neo_GREATER : ¬ (y_GREATER = o)) :
    own_Met l Z (⟨"com/example/polyphony/polyphony/policy/Operator", "of", "(Ljava/lang/String;)Lcom/example/polyphony/polyphony/policy/Operator;"⟩ : MethodName) prog_48_method_7_code 5 (some (.object "com/example/polyphony/polyphony/policy/Operator")) ws ({ frames := 2, cells := 1, slots := 6, locals := 28 } : Room) #[(.ref o)] h0 (fun v h L => v = some (.ref w_GREATER) ∧ Fr n0 L ∧ Keep h0 h []) := by
  refine own_body (plainFor_of_name own_pn_com_example_polyphony_polyphony_policy_Operator) (fun p e s m below meth c s₁ hx hby hml0 hrt hlk hown0 hnm hZ X0 e0 => ?_)
  have N0 := Fr.nil n0
  have hown : s.vm.findClass "com/example/polyphony/polyphony/policy/Operator" = some m.cls := hown0
  have hml : c.maxLocals = 5 := hml0
  refine own_castG (own_ef5 m o) ?_
  show own_Goes _ _ _ _ s₁ (mkF m 0 #[.val (.ref o), .unset, .unset, .unset, .unset] [])
  refine own_callS X0 hx hZ (y := (⟨"com/example/polyphony/polyphony/policy/Operator", "values", "()[Lcom/example/polyphony/polyphony/policy/Operator;"⟩ : MethodName)) hown (hw _ (List.mem_of_getElem? (i := 37) rfl)) (hw _ (List.mem_of_getElem? (i := 38) rfl)) (hw _ (List.mem_of_getElem? (i := 3) rfl)) (hw _ (List.mem_of_getElem? (i := 39) rfl)) (by decide) 0 [] [] (own_values l Z a0 hw [] w_V clv w_EQUAL w_NOT_EQUAL w_LESS w_LESS_OR_EQUAL w_GREATER w_GREATER_OR_EQUAL h0 n0 Z0 S__VALUES R_w_V E_w_V F_v S_v H_v G_v) e0 (by decide) (by decide) (by decide) (by decide) (g := (mkF m 0 #[.val (.ref o), .unset, .unset, .unset, .unset] [])) rfl (by rw [hml]; rfl) own_pd1 rfl rfl (by show 2 * 0 + _ ≤ _; exact Nat.le_of_eq rfl) (hb hby own_prog_48_method_7_0) ?_
  intro T1 v1 L1 X1 hQ1
  obtain ⟨b1_0, k1_0, rfl, N1q, Kq1, zq1_0, q1_0⟩ := hQ1
  have N1 := Fr.app N0 N1q
  have K1 := (Keep.refl h0 []).trans Kq1 all0
  have g_b1_0 : n0 ≤ b1_0 := Nat.le_trans Z0 zq1_0
  have sz_b1_0 : h0.size ≤ b1_0 := Nat.le_trans (Keep.refl h0 []).1 zq1_0
  have ne_o_b1_0 : o ≠ b1_0 := Nat.ne_of_lt (Nat.lt_of_lt_of_le E_o.lt zq1_0)
  have ne_vo_b1_0 : vo ≠ b1_0 := Nat.ne_of_lt (Nat.lt_of_lt_of_le V_vo.lt zq1_0)
  have ne_w_V_b1_0 : w_V ≠ b1_0 := Nat.ne_of_lt (Nat.lt_of_lt_of_le E_w_V.lt zq1_0)
  have ne_w_EQUAL_b1_0 : w_EQUAL ≠ b1_0 := Nat.ne_of_lt (Nat.lt_of_lt_of_le F_w_EQUAL_symbol.lt zq1_0)
  have ne_y_EQUAL_b1_0 : y_EQUAL ≠ b1_0 := Nat.ne_of_lt (Nat.lt_of_lt_of_le E_y_EQUAL.lt zq1_0)
  have ne_z_EQUAL_b1_0 : z_EQUAL ≠ b1_0 := Nat.ne_of_lt (Nat.lt_of_lt_of_le V_z_EQUAL.lt zq1_0)
  have ne_w_NOT_EQUAL_b1_0 : w_NOT_EQUAL ≠ b1_0 := Nat.ne_of_lt (Nat.lt_of_lt_of_le F_w_NOT_EQUAL_symbol.lt zq1_0)
  have ne_y_NOT_EQUAL_b1_0 : y_NOT_EQUAL ≠ b1_0 := Nat.ne_of_lt (Nat.lt_of_lt_of_le E_y_NOT_EQUAL.lt zq1_0)
  have ne_z_NOT_EQUAL_b1_0 : z_NOT_EQUAL ≠ b1_0 := Nat.ne_of_lt (Nat.lt_of_lt_of_le V_z_NOT_EQUAL.lt zq1_0)
  have ne_w_LESS_b1_0 : w_LESS ≠ b1_0 := Nat.ne_of_lt (Nat.lt_of_lt_of_le F_w_LESS_symbol.lt zq1_0)
  have ne_y_LESS_b1_0 : y_LESS ≠ b1_0 := Nat.ne_of_lt (Nat.lt_of_lt_of_le E_y_LESS.lt zq1_0)
  have ne_z_LESS_b1_0 : z_LESS ≠ b1_0 := Nat.ne_of_lt (Nat.lt_of_lt_of_le V_z_LESS.lt zq1_0)
  have ne_w_LESS_OR_EQUAL_b1_0 : w_LESS_OR_EQUAL ≠ b1_0 := Nat.ne_of_lt (Nat.lt_of_lt_of_le F_w_LESS_OR_EQUAL_symbol.lt zq1_0)
  have ne_y_LESS_OR_EQUAL_b1_0 : y_LESS_OR_EQUAL ≠ b1_0 := Nat.ne_of_lt (Nat.lt_of_lt_of_le E_y_LESS_OR_EQUAL.lt zq1_0)
  have ne_z_LESS_OR_EQUAL_b1_0 : z_LESS_OR_EQUAL ≠ b1_0 := Nat.ne_of_lt (Nat.lt_of_lt_of_le V_z_LESS_OR_EQUAL.lt zq1_0)
  have ne_w_GREATER_b1_0 : w_GREATER ≠ b1_0 := Nat.ne_of_lt (Nat.lt_of_lt_of_le F_w_GREATER_symbol.lt zq1_0)
  have ne_y_GREATER_b1_0 : y_GREATER ≠ b1_0 := Nat.ne_of_lt (Nat.lt_of_lt_of_le E_y_GREATER.lt zq1_0)
  have ne_z_GREATER_b1_0 : z_GREATER ≠ b1_0 := Nat.ne_of_lt (Nat.lt_of_lt_of_le V_z_GREATER.lt zq1_0)
  have q1_0' : Arv Z T1.heap b1_0 k1_0 (.object "com/example/polyphony/polyphony/policy/Operator") (6 : Int32) [(.ref w_EQUAL), (.ref w_NOT_EQUAL), (.ref w_LESS), (.ref w_LESS_OR_EQUAL), (.ref w_GREATER), (.ref w_GREATER_OR_EQUAL)] .null := q1_0
  show own_Goes _ _ _ _ T1 (mkF m 3 #[.val (.ref o), .unset, .unset, .unset, .unset] [(.ref b1_0)])
  refine own_step (fun t k => XS.astoreN X1.here hx rfl (hb hby own_prog_48_method_7_3) rfl rfl (l' := #[.val (.ref o), .val (.ref b1_0), .unset, .unset, .unset]) rfl k) ?_
  show own_Goes _ _ _ _ T1 (mkF m 4 #[.val (.ref o), .val (.ref b1_0), .unset, .unset, .unset] [])
  refine own_step (fun t k => XS.aloadN X1.here hx rfl (hb hby own_prog_48_method_7_4) rfl rfl k) ?_
  show own_Goes _ _ _ _ T1 (mkF m 5 #[.val (.ref o), .val (.ref b1_0), .unset, .unset, .unset] [(.ref b1_0)])
  refine own_step (own_alen X1 hx hZ rfl q1_0' (g := (mkF m 5 #[.val (.ref o), .val (.ref b1_0), .unset, .unset, .unset] [(.ref b1_0)])) rfl rfl (hb hby own_prog_48_method_7_5)) ?_
  show own_Goes _ _ _ _ T1 (mkF m 6 #[.val (.ref o), .val (.ref b1_0), .unset, .unset, .unset] [(.int (6 : Int32))])
  refine own_step (fun t k => XS.istoreN X1.here hx rfl (hb hby own_prog_48_method_7_6) rfl (l' := #[.val (.ref o), .val (.ref b1_0), .val (.int (6 : Int32)), .unset, .unset]) rfl k) ?_
  show own_Goes _ _ _ _ T1 (mkF m 7 #[.val (.ref o), .val (.ref b1_0), .val (.int (6 : Int32)), .unset, .unset] [])
  refine own_step (fun t k => XS.iconst X1.here hx rfl (hb hby own_prog_48_method_7_7) k) ?_
  show own_Goes _ _ _ _ T1 (mkF m 8 #[.val (.ref o), .val (.ref b1_0), .val (.int (6 : Int32)), .unset, .unset] [(.int (0 : Int32))])
  refine own_step (fun t k => XS.istoreN X1.here hx rfl (hb hby own_prog_48_method_7_8) rfl (l' := #[.val (.ref o), .val (.ref b1_0), .val (.int (6 : Int32)), .val (.int (0 : Int32)), .unset]) rfl k) ?_
  show own_Goes _ _ _ _ T1 (mkF m 9 #[.val (.ref o), .val (.ref b1_0), .val (.int (6 : Int32)), .val (.int (0 : Int32)), .unset] [])
  refine own_step (fun t k => XS.iloadN X1.here hx rfl (hb hby own_prog_48_method_7_9) rfl k) ?_
  show own_Goes _ _ _ _ T1 (mkF m 10 #[.val (.ref o), .val (.ref b1_0), .val (.int (6 : Int32)), .val (.int (0 : Int32)), .unset] [(.int (0 : Int32))])
  refine own_step (fun t k => XS.iloadN X1.here hx rfl (hb hby own_prog_48_method_7_10) rfl k) ?_
  show own_Goes _ _ _ _ T1 (mkF m 11 #[.val (.ref o), .val (.ref b1_0), .val (.int (6 : Int32)), .val (.int (0 : Int32)), .unset] [(.int (6 : Int32)), (.int (0 : Int32))])
  refine own_step (fun t k => XS.icmpNo X1.here hx rfl (hb hby own_prog_48_method_7_11) rfl (tlt (show (0 : Int32) < (6 : Int32) from (by decide))).2.1 k) ?_
  show own_Goes _ _ _ _ T1 (mkF m 14 #[.val (.ref o), .val (.ref b1_0), .val (.int (6 : Int32)), .val (.int (0 : Int32)), .unset] [])
  refine own_step (fun t k => XS.aloadN X1.here hx rfl (hb hby own_prog_48_method_7_14) rfl rfl k) ?_
  show own_Goes _ _ _ _ T1 (mkF m 15 #[.val (.ref o), .val (.ref b1_0), .val (.int (6 : Int32)), .val (.int (0 : Int32)), .unset] [(.ref b1_0)])
  refine own_step (fun t k => XS.iloadN X1.here hx rfl (hb hby own_prog_48_method_7_15) rfl k) ?_
  show own_Goes _ _ _ _ T1 (mkF m 16 #[.val (.ref o), .val (.ref b1_0), .val (.int (6 : Int32)), .val (.int (0 : Int32)), .unset] [(.int (0 : Int32)), (.ref b1_0)])
  refine own_step (own_aaload X1 hx hZ rfl q1_0' rfl (.ref w_EQUAL) ⟨by decide, by decide⟩ rfl (g := (mkF m 16 #[.val (.ref o), .val (.ref b1_0), .val (.int (6 : Int32)), .val (.int (0 : Int32)), .unset] [(.int (0 : Int32)), (.ref b1_0)])) rfl rfl (hb hby own_prog_48_method_7_16)) ?_
  show own_Goes _ _ _ _ T1 (mkF m 17 #[.val (.ref o), .val (.ref b1_0), .val (.int (6 : Int32)), .val (.int (0 : Int32)), .unset] [(.ref w_EQUAL)])
  refine own_step (fun t k => XS.astore X1.here hx rfl (hb hby own_prog_48_method_7_17) rfl rfl (l' := #[.val (.ref o), .val (.ref b1_0), .val (.int (6 : Int32)), .val (.int (0 : Int32)), .val (.ref w_EQUAL)]) rfl k) ?_
  show own_Goes _ _ _ _ T1 (mkF m 19 #[.val (.ref o), .val (.ref b1_0), .val (.int (6 : Int32)), .val (.int (0 : Int32)), .val (.ref w_EQUAL)] [])
  refine own_step (fun t k => XS.aload X1.here hx rfl (hb hby own_prog_48_method_7_19) rfl rfl k) ?_
  show own_Goes _ _ _ _ T1 (mkF m 21 #[.val (.ref o), .val (.ref b1_0), .val (.int (6 : Int32)), .val (.int (0 : Int32)), .val (.ref w_EQUAL)] [(.ref w_EQUAL)])
  have F_w_EQUAL_symbol_v3 := (F_w_EQUAL_symbol.keep Kq1 nin0)
  obtain ⟨T2, X2, e2, st2⟩ := getF X1 hx hZ hown (host := "") (Or.inl (hw _ (List.mem_of_getElem? (i := 57) rfl))) Via.refl rfl F_w_EQUAL_symbol_v3 (g := (mkF m 21 #[.val (.ref o), .val (.ref b1_0), .val (.int (6 : Int32)), .val (.int (0 : Int32)), .val (.ref w_EQUAL)] [(.ref w_EQUAL)])) rfl rfl (hb hby own_prog_48_method_7_21)
  refine own_step st2 ?_
  show own_Goes _ _ _ _ T2 (mkF m 24 #[.val (.ref o), .val (.ref b1_0), .val (.int (6 : Int32)), .val (.int (0 : Int32)), .val (.ref w_EQUAL)] [(.ref y_EQUAL)])
  refine own_step (fun t k => XS.aloadN X2.here hx rfl (hb hby own_prog_48_method_7_24) rfl rfl k) ?_
  show own_Goes _ _ _ _ T2 (mkF m 25 #[.val (.ref o), .val (.ref b1_0), .val (.int (6 : Int32)), .val (.int (0 : Int32)), .val (.ref w_EQUAL)] [(.ref o), (.ref y_EQUAL)])
  have E_o_v4 := (E_o.keep Kq1)
  have F_y_EQUAL_coder_v5 := (F_y_EQUAL_coder.keep Kq1 nin0)
  have F_o_coder_v6 := (F_o_coder.keep Kq1 nin0)
  have F_y_EQUAL_value_v7 := (F_y_EQUAL_value.keep Kq1 nin0)
  have F_o_value_v8 := (F_o_value.keep Kq1 nin0)
  have V_z_EQUAL_v9 := (V_z_EQUAL.keep Kq1 nin0)
  have V_vo_v10 := (V_vo.keep Kq1 nin0)
  have S_COMPACT_STRINGS_v11 := (own_staKeep S_COMPACT_STRINGS Kq1 all0)
  have E_y_EQUAL_v13 := (E_y_EQUAL.keep Kq1)
  refine own_callV X2 hx hZ (y := (⟨"java/lang/String", "equals", "(Ljava/lang/Object;)Z"⟩ : MethodName)) (z := (⟨"java/lang/String", "equals", "(Ljava/lang/Object;)Z"⟩ : MethodName)) hown (hw _ (List.mem_of_getElem? (i := 59) rfl)) (hw _ (List.mem_of_getElem? (i := 60) rfl)) (notFace_of_selects (args := #[]) (mvT hZ (hw _ (List.mem_of_getElem? (i := 62) rfl)))) (hw _ (List.mem_of_getElem? (i := 62) rfl)) (hw _ (List.mem_of_getElem? (i := 61) rfl)) (hw _ (List.mem_of_getElem? (i := 63) rfl)) (hw _ (List.mem_of_getElem? (i := 7) rfl)) (by decide) 0 E_y_EQUAL_v13 [(.ref o)] [] (own_seq_21len l Z a0 hw [] y_EQUAL o z_EQUAL vo k_EQUAL ko (61 : Int32) (61 : Int32) (62 : Int32) zc T1.heap n0 (Nat.le_trans Z0 K1.1) E_o_v4 F_y_EQUAL_coder_v5 F_o_coder_v6 F_y_EQUAL_value_v7 F_o_value_v8 V_z_EQUAL_v9 V_vo_v10 S_COMPACT_STRINGS_v11 hz neo_EQUAL) e2 (by decide) (by decide) (by decide) (by decide) (g := (mkF m 25 #[.val (.ref o), .val (.ref b1_0), .val (.int (6 : Int32)), .val (.int (0 : Int32)), .val (.ref w_EQUAL)] [(.ref o), (.ref y_EQUAL)])) rfl (by rw [hml]; rfl) own_pd2 rfl rfl (by show 2 * 0 + _ ≤ _; exact Nat.le_of_eq rfl) (hb hby own_prog_48_method_7_25) ?_
  intro T12 v12 L12 X12 hQ12
  obtain ⟨rfl, N12q, e12⟩ := hQ12
  have N12 := Fr.app N1 N12q
  show own_Goes _ _ _ _ T12 (mkF m 28 #[.val (.ref o), .val (.ref b1_0), .val (.int (6 : Int32)), .val (.int (0 : Int32)), .val (.ref w_EQUAL)] [(.int (0 : Int32))])
  refine own_step (fun t k => XS.ifYes X12.here hx rfl (pc0 := 28) (pc' := 34) rfl (hb hby own_prog_48_method_7_28) rfl ((if0 _ _).trans (teq (show (0 : Int32) = (0 : Int32) from (by decide))).1) (by decide) (by decide) k) ?_
  show own_Goes _ _ _ _ T12 (mkF m 34 #[.val (.ref o), .val (.ref b1_0), .val (.int (6 : Int32)), .val (.int (0 : Int32)), .val (.ref w_EQUAL)] [])
  refine own_step (fun t k => XS.iinc X12.here hx rfl (hb hby own_prog_48_method_7_34) rfl (l' := #[.val (.ref o), .val (.ref b1_0), .val (.int (6 : Int32)), .val (.int (1 : Int32)), .val (.ref w_EQUAL)]) rfl k) ?_
  show own_Goes _ _ _ _ T12 (mkF m 37 #[.val (.ref o), .val (.ref b1_0), .val (.int (6 : Int32)), .val (.int (1 : Int32)), .val (.ref w_EQUAL)] [])
  refine own_step (fun t k => XS.goto X12.here hx rfl (pc0 := 37) (pc' := 9) rfl (hb hby own_prog_48_method_7_37) (by decide) (by decide) k) ?_
  show own_Goes _ _ _ _ T12 (mkF m 9 #[.val (.ref o), .val (.ref b1_0), .val (.int (6 : Int32)), .val (.int (1 : Int32)), .val (.ref w_EQUAL)] [])
  refine own_step (fun t k => XS.iloadN X12.here hx rfl (hb hby own_prog_48_method_7_9) rfl k) ?_
  show own_Goes _ _ _ _ T12 (mkF m 10 #[.val (.ref o), .val (.ref b1_0), .val (.int (6 : Int32)), .val (.int (1 : Int32)), .val (.ref w_EQUAL)] [(.int (1 : Int32))])
  refine own_step (fun t k => XS.iloadN X12.here hx rfl (hb hby own_prog_48_method_7_10) rfl k) ?_
  show own_Goes _ _ _ _ T12 (mkF m 11 #[.val (.ref o), .val (.ref b1_0), .val (.int (6 : Int32)), .val (.int (1 : Int32)), .val (.ref w_EQUAL)] [(.int (6 : Int32)), (.int (1 : Int32))])
  refine own_step (fun t k => XS.icmpNo X12.here hx rfl (hb hby own_prog_48_method_7_11) rfl (tlt (show (1 : Int32) < (6 : Int32) from (by decide))).2.1 k) ?_
  show own_Goes _ _ _ _ T12 (mkF m 14 #[.val (.ref o), .val (.ref b1_0), .val (.int (6 : Int32)), .val (.int (1 : Int32)), .val (.ref w_EQUAL)] [])
  refine own_step (fun t k => XS.aloadN X12.here hx rfl (hb hby own_prog_48_method_7_14) rfl rfl k) ?_
  show own_Goes _ _ _ _ T12 (mkF m 15 #[.val (.ref o), .val (.ref b1_0), .val (.int (6 : Int32)), .val (.int (1 : Int32)), .val (.ref w_EQUAL)] [(.ref b1_0)])
  refine own_step (fun t k => XS.iloadN X12.here hx rfl (hb hby own_prog_48_method_7_15) rfl k) ?_
  show own_Goes _ _ _ _ T12 (mkF m 16 #[.val (.ref o), .val (.ref b1_0), .val (.int (6 : Int32)), .val (.int (1 : Int32)), .val (.ref w_EQUAL)] [(.int (1 : Int32)), (.ref b1_0)])
  refine own_step (own_aaload X12 hx hZ e12 q1_0' rfl (.ref w_NOT_EQUAL) ⟨by decide, by decide⟩ rfl (g := (mkF m 16 #[.val (.ref o), .val (.ref b1_0), .val (.int (6 : Int32)), .val (.int (1 : Int32)), .val (.ref w_EQUAL)] [(.int (1 : Int32)), (.ref b1_0)])) rfl rfl (hb hby own_prog_48_method_7_16)) ?_
  show own_Goes _ _ _ _ T12 (mkF m 17 #[.val (.ref o), .val (.ref b1_0), .val (.int (6 : Int32)), .val (.int (1 : Int32)), .val (.ref w_EQUAL)] [(.ref w_NOT_EQUAL)])
  refine own_step (fun t k => XS.astore X12.here hx rfl (hb hby own_prog_48_method_7_17) rfl rfl (l' := #[.val (.ref o), .val (.ref b1_0), .val (.int (6 : Int32)), .val (.int (1 : Int32)), .val (.ref w_NOT_EQUAL)]) rfl k) ?_
  show own_Goes _ _ _ _ T12 (mkF m 19 #[.val (.ref o), .val (.ref b1_0), .val (.int (6 : Int32)), .val (.int (1 : Int32)), .val (.ref w_NOT_EQUAL)] [])
  refine own_step (fun t k => XS.aload X12.here hx rfl (hb hby own_prog_48_method_7_19) rfl rfl k) ?_
  show own_Goes _ _ _ _ T12 (mkF m 21 #[.val (.ref o), .val (.ref b1_0), .val (.int (6 : Int32)), .val (.int (1 : Int32)), .val (.ref w_NOT_EQUAL)] [(.ref w_NOT_EQUAL)])
  have F_w_NOT_EQUAL_symbol_v15 := (F_w_NOT_EQUAL_symbol.keep Kq1 nin0)
  obtain ⟨T14, X14, e14, st14⟩ := getF X12 hx hZ hown (host := "") (Or.inl (hw _ (List.mem_of_getElem? (i := 57) rfl))) Via.refl e12 F_w_NOT_EQUAL_symbol_v15 (g := (mkF m 21 #[.val (.ref o), .val (.ref b1_0), .val (.int (6 : Int32)), .val (.int (1 : Int32)), .val (.ref w_NOT_EQUAL)] [(.ref w_NOT_EQUAL)])) rfl rfl (hb hby own_prog_48_method_7_21)
  refine own_step st14 ?_
  show own_Goes _ _ _ _ T14 (mkF m 24 #[.val (.ref o), .val (.ref b1_0), .val (.int (6 : Int32)), .val (.int (1 : Int32)), .val (.ref w_NOT_EQUAL)] [(.ref y_NOT_EQUAL)])
  refine own_step (fun t k => XS.aloadN X14.here hx rfl (hb hby own_prog_48_method_7_24) rfl rfl k) ?_
  show own_Goes _ _ _ _ T14 (mkF m 25 #[.val (.ref o), .val (.ref b1_0), .val (.int (6 : Int32)), .val (.int (1 : Int32)), .val (.ref w_NOT_EQUAL)] [(.ref o), (.ref y_NOT_EQUAL)])
  have F_y_NOT_EQUAL_coder_v16 := (F_y_NOT_EQUAL_coder.keep Kq1 nin0)
  have F_y_NOT_EQUAL_value_v17 := (F_y_NOT_EQUAL_value.keep Kq1 nin0)
  have V_z_NOT_EQUAL_v18 := (V_z_NOT_EQUAL.keep Kq1 nin0)
  have E_y_NOT_EQUAL_v20 := (E_y_NOT_EQUAL.keep Kq1)
  refine own_callV X14 hx hZ (y := (⟨"java/lang/String", "equals", "(Ljava/lang/Object;)Z"⟩ : MethodName)) (z := (⟨"java/lang/String", "equals", "(Ljava/lang/Object;)Z"⟩ : MethodName)) hown (hw _ (List.mem_of_getElem? (i := 59) rfl)) (hw _ (List.mem_of_getElem? (i := 60) rfl)) (notFace_of_selects (args := #[]) (mvT hZ (hw _ (List.mem_of_getElem? (i := 62) rfl)))) (hw _ (List.mem_of_getElem? (i := 62) rfl)) (hw _ (List.mem_of_getElem? (i := 61) rfl)) (hw _ (List.mem_of_getElem? (i := 63) rfl)) (hw _ (List.mem_of_getElem? (i := 7) rfl)) (by decide) 0 E_y_NOT_EQUAL_v20 [(.ref o)] [] (own_seq_21len l Z a0 hw [] y_NOT_EQUAL o z_NOT_EQUAL vo k_NOT_EQUAL ko (33 : Int32) (61 : Int32) (62 : Int32) zc T1.heap n0 (Nat.le_trans Z0 K1.1) E_o_v4 F_y_NOT_EQUAL_coder_v16 F_o_coder_v6 F_y_NOT_EQUAL_value_v17 F_o_value_v8 V_z_NOT_EQUAL_v18 V_vo_v10 S_COMPACT_STRINGS_v11 hz neo_NOT_EQUAL) e14 (by decide) (by decide) (by decide) (by decide) (g := (mkF m 25 #[.val (.ref o), .val (.ref b1_0), .val (.int (6 : Int32)), .val (.int (1 : Int32)), .val (.ref w_NOT_EQUAL)] [(.ref o), (.ref y_NOT_EQUAL)])) rfl (by rw [hml]; rfl) own_pd2 rfl rfl (by show 2 * 0 + _ ≤ _; exact Nat.le_of_eq rfl) (hb hby own_prog_48_method_7_25) ?_
  intro T19 v19 L19 X19 hQ19
  obtain ⟨rfl, N19q, e19⟩ := hQ19
  have N19 := Fr.app N12 N19q
  show own_Goes _ _ _ _ T19 (mkF m 28 #[.val (.ref o), .val (.ref b1_0), .val (.int (6 : Int32)), .val (.int (1 : Int32)), .val (.ref w_NOT_EQUAL)] [(.int (0 : Int32))])
  refine own_step (fun t k => XS.ifYes X19.here hx rfl (pc0 := 28) (pc' := 34) rfl (hb hby own_prog_48_method_7_28) rfl ((if0 _ _).trans (teq (show (0 : Int32) = (0 : Int32) from (by decide))).1) (by decide) (by decide) k) ?_
  show own_Goes _ _ _ _ T19 (mkF m 34 #[.val (.ref o), .val (.ref b1_0), .val (.int (6 : Int32)), .val (.int (1 : Int32)), .val (.ref w_NOT_EQUAL)] [])
  refine own_step (fun t k => XS.iinc X19.here hx rfl (hb hby own_prog_48_method_7_34) rfl (l' := #[.val (.ref o), .val (.ref b1_0), .val (.int (6 : Int32)), .val (.int (2 : Int32)), .val (.ref w_NOT_EQUAL)]) rfl k) ?_
  show own_Goes _ _ _ _ T19 (mkF m 37 #[.val (.ref o), .val (.ref b1_0), .val (.int (6 : Int32)), .val (.int (2 : Int32)), .val (.ref w_NOT_EQUAL)] [])
  refine own_step (fun t k => XS.goto X19.here hx rfl (pc0 := 37) (pc' := 9) rfl (hb hby own_prog_48_method_7_37) (by decide) (by decide) k) ?_
  show own_Goes _ _ _ _ T19 (mkF m 9 #[.val (.ref o), .val (.ref b1_0), .val (.int (6 : Int32)), .val (.int (2 : Int32)), .val (.ref w_NOT_EQUAL)] [])
  refine own_step (fun t k => XS.iloadN X19.here hx rfl (hb hby own_prog_48_method_7_9) rfl k) ?_
  show own_Goes _ _ _ _ T19 (mkF m 10 #[.val (.ref o), .val (.ref b1_0), .val (.int (6 : Int32)), .val (.int (2 : Int32)), .val (.ref w_NOT_EQUAL)] [(.int (2 : Int32))])
  refine own_step (fun t k => XS.iloadN X19.here hx rfl (hb hby own_prog_48_method_7_10) rfl k) ?_
  show own_Goes _ _ _ _ T19 (mkF m 11 #[.val (.ref o), .val (.ref b1_0), .val (.int (6 : Int32)), .val (.int (2 : Int32)), .val (.ref w_NOT_EQUAL)] [(.int (6 : Int32)), (.int (2 : Int32))])
  refine own_step (fun t k => XS.icmpNo X19.here hx rfl (hb hby own_prog_48_method_7_11) rfl (tlt (show (2 : Int32) < (6 : Int32) from (by decide))).2.1 k) ?_
  show own_Goes _ _ _ _ T19 (mkF m 14 #[.val (.ref o), .val (.ref b1_0), .val (.int (6 : Int32)), .val (.int (2 : Int32)), .val (.ref w_NOT_EQUAL)] [])
  refine own_step (fun t k => XS.aloadN X19.here hx rfl (hb hby own_prog_48_method_7_14) rfl rfl k) ?_
  show own_Goes _ _ _ _ T19 (mkF m 15 #[.val (.ref o), .val (.ref b1_0), .val (.int (6 : Int32)), .val (.int (2 : Int32)), .val (.ref w_NOT_EQUAL)] [(.ref b1_0)])
  refine own_step (fun t k => XS.iloadN X19.here hx rfl (hb hby own_prog_48_method_7_15) rfl k) ?_
  show own_Goes _ _ _ _ T19 (mkF m 16 #[.val (.ref o), .val (.ref b1_0), .val (.int (6 : Int32)), .val (.int (2 : Int32)), .val (.ref w_NOT_EQUAL)] [(.int (2 : Int32)), (.ref b1_0)])
  refine own_step (own_aaload X19 hx hZ e19 q1_0' rfl (.ref w_LESS) ⟨by decide, by decide⟩ rfl (g := (mkF m 16 #[.val (.ref o), .val (.ref b1_0), .val (.int (6 : Int32)), .val (.int (2 : Int32)), .val (.ref w_NOT_EQUAL)] [(.int (2 : Int32)), (.ref b1_0)])) rfl rfl (hb hby own_prog_48_method_7_16)) ?_
  show own_Goes _ _ _ _ T19 (mkF m 17 #[.val (.ref o), .val (.ref b1_0), .val (.int (6 : Int32)), .val (.int (2 : Int32)), .val (.ref w_NOT_EQUAL)] [(.ref w_LESS)])
  refine own_step (fun t k => XS.astore X19.here hx rfl (hb hby own_prog_48_method_7_17) rfl rfl (l' := #[.val (.ref o), .val (.ref b1_0), .val (.int (6 : Int32)), .val (.int (2 : Int32)), .val (.ref w_LESS)]) rfl k) ?_
  show own_Goes _ _ _ _ T19 (mkF m 19 #[.val (.ref o), .val (.ref b1_0), .val (.int (6 : Int32)), .val (.int (2 : Int32)), .val (.ref w_LESS)] [])
  refine own_step (fun t k => XS.aload X19.here hx rfl (hb hby own_prog_48_method_7_19) rfl rfl k) ?_
  show own_Goes _ _ _ _ T19 (mkF m 21 #[.val (.ref o), .val (.ref b1_0), .val (.int (6 : Int32)), .val (.int (2 : Int32)), .val (.ref w_LESS)] [(.ref w_LESS)])
  have F_w_LESS_symbol_v22 := (F_w_LESS_symbol.keep Kq1 nin0)
  obtain ⟨T21, X21, e21, st21⟩ := getF X19 hx hZ hown (host := "") (Or.inl (hw _ (List.mem_of_getElem? (i := 57) rfl))) Via.refl e19 F_w_LESS_symbol_v22 (g := (mkF m 21 #[.val (.ref o), .val (.ref b1_0), .val (.int (6 : Int32)), .val (.int (2 : Int32)), .val (.ref w_LESS)] [(.ref w_LESS)])) rfl rfl (hb hby own_prog_48_method_7_21)
  refine own_step st21 ?_
  show own_Goes _ _ _ _ T21 (mkF m 24 #[.val (.ref o), .val (.ref b1_0), .val (.int (6 : Int32)), .val (.int (2 : Int32)), .val (.ref w_LESS)] [(.ref y_LESS)])
  refine own_step (fun t k => XS.aloadN X21.here hx rfl (hb hby own_prog_48_method_7_24) rfl rfl k) ?_
  show own_Goes _ _ _ _ T21 (mkF m 25 #[.val (.ref o), .val (.ref b1_0), .val (.int (6 : Int32)), .val (.int (2 : Int32)), .val (.ref w_LESS)] [(.ref o), (.ref y_LESS)])
  have F_y_LESS_coder_v23 := (F_y_LESS_coder.keep Kq1 nin0)
  have F_y_LESS_value_v24 := (F_y_LESS_value.keep Kq1 nin0)
  have V_z_LESS_v25 := (V_z_LESS.keep Kq1 nin0)
  have E_y_LESS_v27 := (E_y_LESS.keep Kq1)
  refine own_callV X21 hx hZ (y := (⟨"java/lang/String", "equals", "(Ljava/lang/Object;)Z"⟩ : MethodName)) (z := (⟨"java/lang/String", "equals", "(Ljava/lang/Object;)Z"⟩ : MethodName)) hown (hw _ (List.mem_of_getElem? (i := 59) rfl)) (hw _ (List.mem_of_getElem? (i := 60) rfl)) (notFace_of_selects (args := #[]) (mvT hZ (hw _ (List.mem_of_getElem? (i := 62) rfl)))) (hw _ (List.mem_of_getElem? (i := 62) rfl)) (hw _ (List.mem_of_getElem? (i := 61) rfl)) (hw _ (List.mem_of_getElem? (i := 63) rfl)) (hw _ (List.mem_of_getElem? (i := 7) rfl)) (by decide) 0 E_y_LESS_v27 [(.ref o)] [] (own_seq_110 l Z a0 hw [] y_LESS o z_LESS vo k_LESS ko (60 : Int32) (62 : Int32) zc T1.heap n0 (Nat.le_trans Z0 K1.1) E_o_v4 F_y_LESS_coder_v23 F_o_coder_v6 F_y_LESS_value_v24 F_o_value_v8 V_z_LESS_v25 V_vo_v10 S_COMPACT_STRINGS_v11 (by decide) hz neo_LESS) e21 (by decide) (by decide) (by decide) (by decide) (g := (mkF m 25 #[.val (.ref o), .val (.ref b1_0), .val (.int (6 : Int32)), .val (.int (2 : Int32)), .val (.ref w_LESS)] [(.ref o), (.ref y_LESS)])) rfl (by rw [hml]; rfl) own_pd2 rfl rfl (by show 2 * 0 + _ ≤ _; exact Nat.le_of_eq rfl) (hb hby own_prog_48_method_7_25) ?_
  intro T26 v26 L26 X26 hQ26
  obtain ⟨rfl, N26q, e26⟩ := hQ26
  have N26 := Fr.app N19 N26q
  show own_Goes _ _ _ _ T26 (mkF m 28 #[.val (.ref o), .val (.ref b1_0), .val (.int (6 : Int32)), .val (.int (2 : Int32)), .val (.ref w_LESS)] [(.int (0 : Int32))])
  refine own_step (fun t k => XS.ifYes X26.here hx rfl (pc0 := 28) (pc' := 34) rfl (hb hby own_prog_48_method_7_28) rfl ((if0 _ _).trans (teq (show (0 : Int32) = (0 : Int32) from (by decide))).1) (by decide) (by decide) k) ?_
  show own_Goes _ _ _ _ T26 (mkF m 34 #[.val (.ref o), .val (.ref b1_0), .val (.int (6 : Int32)), .val (.int (2 : Int32)), .val (.ref w_LESS)] [])
  refine own_step (fun t k => XS.iinc X26.here hx rfl (hb hby own_prog_48_method_7_34) rfl (l' := #[.val (.ref o), .val (.ref b1_0), .val (.int (6 : Int32)), .val (.int (3 : Int32)), .val (.ref w_LESS)]) rfl k) ?_
  show own_Goes _ _ _ _ T26 (mkF m 37 #[.val (.ref o), .val (.ref b1_0), .val (.int (6 : Int32)), .val (.int (3 : Int32)), .val (.ref w_LESS)] [])
  refine own_step (fun t k => XS.goto X26.here hx rfl (pc0 := 37) (pc' := 9) rfl (hb hby own_prog_48_method_7_37) (by decide) (by decide) k) ?_
  show own_Goes _ _ _ _ T26 (mkF m 9 #[.val (.ref o), .val (.ref b1_0), .val (.int (6 : Int32)), .val (.int (3 : Int32)), .val (.ref w_LESS)] [])
  refine own_step (fun t k => XS.iloadN X26.here hx rfl (hb hby own_prog_48_method_7_9) rfl k) ?_
  show own_Goes _ _ _ _ T26 (mkF m 10 #[.val (.ref o), .val (.ref b1_0), .val (.int (6 : Int32)), .val (.int (3 : Int32)), .val (.ref w_LESS)] [(.int (3 : Int32))])
  refine own_step (fun t k => XS.iloadN X26.here hx rfl (hb hby own_prog_48_method_7_10) rfl k) ?_
  show own_Goes _ _ _ _ T26 (mkF m 11 #[.val (.ref o), .val (.ref b1_0), .val (.int (6 : Int32)), .val (.int (3 : Int32)), .val (.ref w_LESS)] [(.int (6 : Int32)), (.int (3 : Int32))])
  refine own_step (fun t k => XS.icmpNo X26.here hx rfl (hb hby own_prog_48_method_7_11) rfl (tlt (show (3 : Int32) < (6 : Int32) from (by decide))).2.1 k) ?_
  show own_Goes _ _ _ _ T26 (mkF m 14 #[.val (.ref o), .val (.ref b1_0), .val (.int (6 : Int32)), .val (.int (3 : Int32)), .val (.ref w_LESS)] [])
  refine own_step (fun t k => XS.aloadN X26.here hx rfl (hb hby own_prog_48_method_7_14) rfl rfl k) ?_
  show own_Goes _ _ _ _ T26 (mkF m 15 #[.val (.ref o), .val (.ref b1_0), .val (.int (6 : Int32)), .val (.int (3 : Int32)), .val (.ref w_LESS)] [(.ref b1_0)])
  refine own_step (fun t k => XS.iloadN X26.here hx rfl (hb hby own_prog_48_method_7_15) rfl k) ?_
  show own_Goes _ _ _ _ T26 (mkF m 16 #[.val (.ref o), .val (.ref b1_0), .val (.int (6 : Int32)), .val (.int (3 : Int32)), .val (.ref w_LESS)] [(.int (3 : Int32)), (.ref b1_0)])
  refine own_step (own_aaload X26 hx hZ e26 q1_0' rfl (.ref w_LESS_OR_EQUAL) ⟨by decide, by decide⟩ rfl (g := (mkF m 16 #[.val (.ref o), .val (.ref b1_0), .val (.int (6 : Int32)), .val (.int (3 : Int32)), .val (.ref w_LESS)] [(.int (3 : Int32)), (.ref b1_0)])) rfl rfl (hb hby own_prog_48_method_7_16)) ?_
  show own_Goes _ _ _ _ T26 (mkF m 17 #[.val (.ref o), .val (.ref b1_0), .val (.int (6 : Int32)), .val (.int (3 : Int32)), .val (.ref w_LESS)] [(.ref w_LESS_OR_EQUAL)])
  refine own_step (fun t k => XS.astore X26.here hx rfl (hb hby own_prog_48_method_7_17) rfl rfl (l' := #[.val (.ref o), .val (.ref b1_0), .val (.int (6 : Int32)), .val (.int (3 : Int32)), .val (.ref w_LESS_OR_EQUAL)]) rfl k) ?_
  show own_Goes _ _ _ _ T26 (mkF m 19 #[.val (.ref o), .val (.ref b1_0), .val (.int (6 : Int32)), .val (.int (3 : Int32)), .val (.ref w_LESS_OR_EQUAL)] [])
  refine own_step (fun t k => XS.aload X26.here hx rfl (hb hby own_prog_48_method_7_19) rfl rfl k) ?_
  show own_Goes _ _ _ _ T26 (mkF m 21 #[.val (.ref o), .val (.ref b1_0), .val (.int (6 : Int32)), .val (.int (3 : Int32)), .val (.ref w_LESS_OR_EQUAL)] [(.ref w_LESS_OR_EQUAL)])
  have F_w_LESS_OR_EQUAL_symbol_v29 := (F_w_LESS_OR_EQUAL_symbol.keep Kq1 nin0)
  obtain ⟨T28, X28, e28, st28⟩ := getF X26 hx hZ hown (host := "") (Or.inl (hw _ (List.mem_of_getElem? (i := 57) rfl))) Via.refl e26 F_w_LESS_OR_EQUAL_symbol_v29 (g := (mkF m 21 #[.val (.ref o), .val (.ref b1_0), .val (.int (6 : Int32)), .val (.int (3 : Int32)), .val (.ref w_LESS_OR_EQUAL)] [(.ref w_LESS_OR_EQUAL)])) rfl rfl (hb hby own_prog_48_method_7_21)
  refine own_step st28 ?_
  show own_Goes _ _ _ _ T28 (mkF m 24 #[.val (.ref o), .val (.ref b1_0), .val (.int (6 : Int32)), .val (.int (3 : Int32)), .val (.ref w_LESS_OR_EQUAL)] [(.ref y_LESS_OR_EQUAL)])
  refine own_step (fun t k => XS.aloadN X28.here hx rfl (hb hby own_prog_48_method_7_24) rfl rfl k) ?_
  show own_Goes _ _ _ _ T28 (mkF m 25 #[.val (.ref o), .val (.ref b1_0), .val (.int (6 : Int32)), .val (.int (3 : Int32)), .val (.ref w_LESS_OR_EQUAL)] [(.ref o), (.ref y_LESS_OR_EQUAL)])
  have F_y_LESS_OR_EQUAL_coder_v30 := (F_y_LESS_OR_EQUAL_coder.keep Kq1 nin0)
  have F_y_LESS_OR_EQUAL_value_v31 := (F_y_LESS_OR_EQUAL_value.keep Kq1 nin0)
  have V_z_LESS_OR_EQUAL_v32 := (V_z_LESS_OR_EQUAL.keep Kq1 nin0)
  have E_y_LESS_OR_EQUAL_v34 := (E_y_LESS_OR_EQUAL.keep Kq1)
  refine own_callV X28 hx hZ (y := (⟨"java/lang/String", "equals", "(Ljava/lang/Object;)Z"⟩ : MethodName)) (z := (⟨"java/lang/String", "equals", "(Ljava/lang/Object;)Z"⟩ : MethodName)) hown (hw _ (List.mem_of_getElem? (i := 59) rfl)) (hw _ (List.mem_of_getElem? (i := 60) rfl)) (notFace_of_selects (args := #[]) (mvT hZ (hw _ (List.mem_of_getElem? (i := 62) rfl)))) (hw _ (List.mem_of_getElem? (i := 62) rfl)) (hw _ (List.mem_of_getElem? (i := 61) rfl)) (hw _ (List.mem_of_getElem? (i := 63) rfl)) (hw _ (List.mem_of_getElem? (i := 7) rfl)) (by decide) 0 E_y_LESS_OR_EQUAL_v34 [(.ref o)] [] (own_seq_21len l Z a0 hw [] y_LESS_OR_EQUAL o z_LESS_OR_EQUAL vo k_LESS_OR_EQUAL ko (60 : Int32) (61 : Int32) (62 : Int32) zc T1.heap n0 (Nat.le_trans Z0 K1.1) E_o_v4 F_y_LESS_OR_EQUAL_coder_v30 F_o_coder_v6 F_y_LESS_OR_EQUAL_value_v31 F_o_value_v8 V_z_LESS_OR_EQUAL_v32 V_vo_v10 S_COMPACT_STRINGS_v11 hz neo_LESS_OR_EQUAL) e28 (by decide) (by decide) (by decide) (by decide) (g := (mkF m 25 #[.val (.ref o), .val (.ref b1_0), .val (.int (6 : Int32)), .val (.int (3 : Int32)), .val (.ref w_LESS_OR_EQUAL)] [(.ref o), (.ref y_LESS_OR_EQUAL)])) rfl (by rw [hml]; rfl) own_pd2 rfl rfl (by show 2 * 0 + _ ≤ _; exact Nat.le_of_eq rfl) (hb hby own_prog_48_method_7_25) ?_
  intro T33 v33 L33 X33 hQ33
  obtain ⟨rfl, N33q, e33⟩ := hQ33
  have N33 := Fr.app N26 N33q
  show own_Goes _ _ _ _ T33 (mkF m 28 #[.val (.ref o), .val (.ref b1_0), .val (.int (6 : Int32)), .val (.int (3 : Int32)), .val (.ref w_LESS_OR_EQUAL)] [(.int (0 : Int32))])
  refine own_step (fun t k => XS.ifYes X33.here hx rfl (pc0 := 28) (pc' := 34) rfl (hb hby own_prog_48_method_7_28) rfl ((if0 _ _).trans (teq (show (0 : Int32) = (0 : Int32) from (by decide))).1) (by decide) (by decide) k) ?_
  show own_Goes _ _ _ _ T33 (mkF m 34 #[.val (.ref o), .val (.ref b1_0), .val (.int (6 : Int32)), .val (.int (3 : Int32)), .val (.ref w_LESS_OR_EQUAL)] [])
  refine own_step (fun t k => XS.iinc X33.here hx rfl (hb hby own_prog_48_method_7_34) rfl (l' := #[.val (.ref o), .val (.ref b1_0), .val (.int (6 : Int32)), .val (.int (4 : Int32)), .val (.ref w_LESS_OR_EQUAL)]) rfl k) ?_
  show own_Goes _ _ _ _ T33 (mkF m 37 #[.val (.ref o), .val (.ref b1_0), .val (.int (6 : Int32)), .val (.int (4 : Int32)), .val (.ref w_LESS_OR_EQUAL)] [])
  refine own_step (fun t k => XS.goto X33.here hx rfl (pc0 := 37) (pc' := 9) rfl (hb hby own_prog_48_method_7_37) (by decide) (by decide) k) ?_
  show own_Goes _ _ _ _ T33 (mkF m 9 #[.val (.ref o), .val (.ref b1_0), .val (.int (6 : Int32)), .val (.int (4 : Int32)), .val (.ref w_LESS_OR_EQUAL)] [])
  refine own_step (fun t k => XS.iloadN X33.here hx rfl (hb hby own_prog_48_method_7_9) rfl k) ?_
  show own_Goes _ _ _ _ T33 (mkF m 10 #[.val (.ref o), .val (.ref b1_0), .val (.int (6 : Int32)), .val (.int (4 : Int32)), .val (.ref w_LESS_OR_EQUAL)] [(.int (4 : Int32))])
  refine own_step (fun t k => XS.iloadN X33.here hx rfl (hb hby own_prog_48_method_7_10) rfl k) ?_
  show own_Goes _ _ _ _ T33 (mkF m 11 #[.val (.ref o), .val (.ref b1_0), .val (.int (6 : Int32)), .val (.int (4 : Int32)), .val (.ref w_LESS_OR_EQUAL)] [(.int (6 : Int32)), (.int (4 : Int32))])
  refine own_step (fun t k => XS.icmpNo X33.here hx rfl (hb hby own_prog_48_method_7_11) rfl (tlt (show (4 : Int32) < (6 : Int32) from (by decide))).2.1 k) ?_
  show own_Goes _ _ _ _ T33 (mkF m 14 #[.val (.ref o), .val (.ref b1_0), .val (.int (6 : Int32)), .val (.int (4 : Int32)), .val (.ref w_LESS_OR_EQUAL)] [])
  refine own_step (fun t k => XS.aloadN X33.here hx rfl (hb hby own_prog_48_method_7_14) rfl rfl k) ?_
  show own_Goes _ _ _ _ T33 (mkF m 15 #[.val (.ref o), .val (.ref b1_0), .val (.int (6 : Int32)), .val (.int (4 : Int32)), .val (.ref w_LESS_OR_EQUAL)] [(.ref b1_0)])
  refine own_step (fun t k => XS.iloadN X33.here hx rfl (hb hby own_prog_48_method_7_15) rfl k) ?_
  show own_Goes _ _ _ _ T33 (mkF m 16 #[.val (.ref o), .val (.ref b1_0), .val (.int (6 : Int32)), .val (.int (4 : Int32)), .val (.ref w_LESS_OR_EQUAL)] [(.int (4 : Int32)), (.ref b1_0)])
  refine own_step (own_aaload X33 hx hZ e33 q1_0' rfl (.ref w_GREATER) ⟨by decide, by decide⟩ rfl (g := (mkF m 16 #[.val (.ref o), .val (.ref b1_0), .val (.int (6 : Int32)), .val (.int (4 : Int32)), .val (.ref w_LESS_OR_EQUAL)] [(.int (4 : Int32)), (.ref b1_0)])) rfl rfl (hb hby own_prog_48_method_7_16)) ?_
  show own_Goes _ _ _ _ T33 (mkF m 17 #[.val (.ref o), .val (.ref b1_0), .val (.int (6 : Int32)), .val (.int (4 : Int32)), .val (.ref w_LESS_OR_EQUAL)] [(.ref w_GREATER)])
  refine own_step (fun t k => XS.astore X33.here hx rfl (hb hby own_prog_48_method_7_17) rfl rfl (l' := #[.val (.ref o), .val (.ref b1_0), .val (.int (6 : Int32)), .val (.int (4 : Int32)), .val (.ref w_GREATER)]) rfl k) ?_
  show own_Goes _ _ _ _ T33 (mkF m 19 #[.val (.ref o), .val (.ref b1_0), .val (.int (6 : Int32)), .val (.int (4 : Int32)), .val (.ref w_GREATER)] [])
  refine own_step (fun t k => XS.aload X33.here hx rfl (hb hby own_prog_48_method_7_19) rfl rfl k) ?_
  show own_Goes _ _ _ _ T33 (mkF m 21 #[.val (.ref o), .val (.ref b1_0), .val (.int (6 : Int32)), .val (.int (4 : Int32)), .val (.ref w_GREATER)] [(.ref w_GREATER)])
  have F_w_GREATER_symbol_v36 := (F_w_GREATER_symbol.keep Kq1 nin0)
  obtain ⟨T35, X35, e35, st35⟩ := getF X33 hx hZ hown (host := "") (Or.inl (hw _ (List.mem_of_getElem? (i := 57) rfl))) Via.refl e33 F_w_GREATER_symbol_v36 (g := (mkF m 21 #[.val (.ref o), .val (.ref b1_0), .val (.int (6 : Int32)), .val (.int (4 : Int32)), .val (.ref w_GREATER)] [(.ref w_GREATER)])) rfl rfl (hb hby own_prog_48_method_7_21)
  refine own_step st35 ?_
  show own_Goes _ _ _ _ T35 (mkF m 24 #[.val (.ref o), .val (.ref b1_0), .val (.int (6 : Int32)), .val (.int (4 : Int32)), .val (.ref w_GREATER)] [(.ref y_GREATER)])
  refine own_step (fun t k => XS.aloadN X35.here hx rfl (hb hby own_prog_48_method_7_24) rfl rfl k) ?_
  show own_Goes _ _ _ _ T35 (mkF m 25 #[.val (.ref o), .val (.ref b1_0), .val (.int (6 : Int32)), .val (.int (4 : Int32)), .val (.ref w_GREATER)] [(.ref o), (.ref y_GREATER)])
  have F_y_GREATER_coder_v37 := (F_y_GREATER_coder.keep Kq1 nin0)
  have F_y_GREATER_value_v38 := (F_y_GREATER_value.keep Kq1 nin0)
  have V_z_GREATER_v39 := (V_z_GREATER.keep Kq1 nin0)
  have E_y_GREATER_v41 := (E_y_GREATER.keep Kq1)
  refine own_callV X35 hx hZ (y := (⟨"java/lang/String", "equals", "(Ljava/lang/Object;)Z"⟩ : MethodName)) (z := (⟨"java/lang/String", "equals", "(Ljava/lang/Object;)Z"⟩ : MethodName)) hown (hw _ (List.mem_of_getElem? (i := 59) rfl)) (hw _ (List.mem_of_getElem? (i := 60) rfl)) (notFace_of_selects (args := #[]) (mvT hZ (hw _ (List.mem_of_getElem? (i := 62) rfl)))) (hw _ (List.mem_of_getElem? (i := 62) rfl)) (hw _ (List.mem_of_getElem? (i := 61) rfl)) (hw _ (List.mem_of_getElem? (i := 63) rfl)) (hw _ (List.mem_of_getElem? (i := 7) rfl)) (by decide) 0 E_y_GREATER_v41 [(.ref o)] [] (own_seq_11eq l Z a0 hw [] y_GREATER o z_GREATER vo k_GREATER ko (62 : Int32) (62 : Int32) zc T1.heap n0 (Nat.le_trans Z0 K1.1) E_o_v4 F_y_GREATER_coder_v37 F_o_coder_v6 F_y_GREATER_value_v38 F_o_value_v8 V_z_GREATER_v39 V_vo_v10 S_COMPACT_STRINGS_v11 (by decide) hz neo_GREATER) e35 (by decide) (by decide) (by decide) (by decide) (g := (mkF m 25 #[.val (.ref o), .val (.ref b1_0), .val (.int (6 : Int32)), .val (.int (4 : Int32)), .val (.ref w_GREATER)] [(.ref o), (.ref y_GREATER)])) rfl (by rw [hml]; rfl) own_pd2 rfl rfl (by show 2 * 0 + _ ≤ _; exact Nat.le_of_eq rfl) (hb hby own_prog_48_method_7_25) ?_
  intro T40 v40 L40 X40 hQ40
  obtain ⟨rfl, N40q, e40⟩ := hQ40
  have N40 := Fr.app N33 N40q
  show own_Goes _ _ _ _ T40 (mkF m 28 #[.val (.ref o), .val (.ref b1_0), .val (.int (6 : Int32)), .val (.int (4 : Int32)), .val (.ref w_GREATER)] [(.int (1 : Int32))])
  refine own_step (fun t k => XS.ifNo X40.here hx rfl (hb hby own_prog_48_method_7_28) rfl ((if0 _ _).trans (feq (show ¬ ((1 : Int32) = (0 : Int32)) from (by decide))).1) k) ?_
  show own_Goes _ _ _ _ T40 (mkF m 31 #[.val (.ref o), .val (.ref b1_0), .val (.int (6 : Int32)), .val (.int (4 : Int32)), .val (.ref w_GREATER)] [])
  refine own_step (fun t k => XS.aload X40.here hx rfl (hb hby own_prog_48_method_7_31) rfl rfl k) ?_
  show own_Goes _ _ _ _ T40 (mkF m 33 #[.val (.ref o), .val (.ref b1_0), .val (.int (6 : Int32)), .val (.int (4 : Int32)), .val (.ref w_GREATER)] [(.ref w_GREATER)])
  exact own_retA X40 hx hlk hrt rfl rfl rfl (hb hby own_prog_48_method_7_33) (by rw [e40]; exact ⟨rfl, N40, K1⟩) (by decide) (by decide)
set_option maxRecDepth 65536 in
set_option maxHeartbeats 40000000 in
theorem own_of5 (l : Launch) (Z : State) (a0 : Array Value) (hw : ∀ d ∈ tables_1, d.before a0 Z = true) (ws : List Jvm.Cond) (o : Addr) (vo : Addr) (ko : ClassId) (zc : Int32) (w_V : Addr) (clv : Cell) (w_EQUAL : Addr) (w_NOT_EQUAL : Addr) (w_LESS : Addr) (w_LESS_OR_EQUAL : Addr) (w_GREATER : Addr) (w_GREATER_OR_EQUAL : Addr) (y_EQUAL : Addr) (z_EQUAL : Addr) (k_EQUAL : ClassId) (y_NOT_EQUAL : Addr) (z_NOT_EQUAL : Addr) (k_NOT_EQUAL : ClassId) (y_LESS : Addr) (z_LESS : Addr) (k_LESS : ClassId) (y_LESS_OR_EQUAL : Addr) (z_LESS_OR_EQUAL : Addr) (k_LESS_OR_EQUAL : ClassId) (y_GREATER : Addr) (z_GREATER : Addr) (k_GREATER : ClassId) (y_GREATER_OR_EQUAL : Addr) (z_GREATER_OR_EQUAL : Addr) (k_GREATER_OR_EQUAL : ClassId) (h0 : Heap) (n0 : Nat) (Z0 : n0 ≤ h0.size) (E_o : Exa Z h0 o "java/lang/String") (F_o_coder : Fld Z h0 o "java/lang/String" "coder" "B" (.int (0 : Int32))) (F_o_value : Fld Z h0 o "java/lang/String" "value" "[B" (.ref vo)) (V_vo : Arv Z h0 vo ko .byte (2 : Int32) [(.int (62 : Int32)), (.int (61 : Int32))] (.int (0 : Int32))) (S_COMPACT_STRINGS : Sta Z h0 "java/lang/String" "COMPACT_STRINGS" "Z" (.int zc)) (S__VALUES : Sta Z h0 "com/example/polyphony/polyphony/policy/Operator" "$VALUES" "[Lcom/example/polyphony/polyphony/policy/Operator;" (.ref w_V)) (R_w_V : Arr Z h0 w_V clv (.object "com/example/polyphony/polyphony/policy/Operator")) (E_w_V : Exa Z h0 w_V "[Lcom/example/polyphony/polyphony/policy/Operator;") (F_w_EQUAL_symbol : Fld Z h0 w_EQUAL "com/example/polyphony/polyphony/policy/Operator" "symbol" "Ljava/lang/String;" (.ref y_EQUAL)) (E_y_EQUAL : Exa Z h0 y_EQUAL "java/lang/String") (F_y_EQUAL_coder : Fld Z h0 y_EQUAL "java/lang/String" "coder" "B" (.int (0 : Int32))) (F_y_EQUAL_value : Fld Z h0 y_EQUAL "java/lang/String" "value" "[B" (.ref z_EQUAL)) (V_z_EQUAL : Arv Z h0 z_EQUAL k_EQUAL .byte (2 : Int32) [(.int (61 : Int32)), (.int (61 : Int32))] (.int (0 : Int32))) (F_w_NOT_EQUAL_symbol : Fld Z h0 w_NOT_EQUAL "com/example/polyphony/polyphony/policy/Operator" "symbol" "Ljava/lang/String;" (.ref y_NOT_EQUAL)) (E_y_NOT_EQUAL : Exa Z h0 y_NOT_EQUAL "java/lang/String") (F_y_NOT_EQUAL_coder : Fld Z h0 y_NOT_EQUAL "java/lang/String" "coder" "B" (.int (0 : Int32))) (F_y_NOT_EQUAL_value : Fld Z h0 y_NOT_EQUAL "java/lang/String" "value" "[B" (.ref z_NOT_EQUAL)) (V_z_NOT_EQUAL : Arv Z h0 z_NOT_EQUAL k_NOT_EQUAL .byte (2 : Int32) [(.int (33 : Int32)), (.int (61 : Int32))] (.int (0 : Int32))) (F_w_LESS_symbol : Fld Z h0 w_LESS "com/example/polyphony/polyphony/policy/Operator" "symbol" "Ljava/lang/String;" (.ref y_LESS)) (E_y_LESS : Exa Z h0 y_LESS "java/lang/String") (F_y_LESS_coder : Fld Z h0 y_LESS "java/lang/String" "coder" "B" (.int (0 : Int32))) (F_y_LESS_value : Fld Z h0 y_LESS "java/lang/String" "value" "[B" (.ref z_LESS)) (V_z_LESS : Arv Z h0 z_LESS k_LESS .byte (1 : Int32) [(.int (60 : Int32))] (.int (0 : Int32))) (F_w_LESS_OR_EQUAL_symbol : Fld Z h0 w_LESS_OR_EQUAL "com/example/polyphony/polyphony/policy/Operator" "symbol" "Ljava/lang/String;" (.ref y_LESS_OR_EQUAL)) (E_y_LESS_OR_EQUAL : Exa Z h0 y_LESS_OR_EQUAL "java/lang/String") (F_y_LESS_OR_EQUAL_coder : Fld Z h0 y_LESS_OR_EQUAL "java/lang/String" "coder" "B" (.int (0 : Int32))) (F_y_LESS_OR_EQUAL_value : Fld Z h0 y_LESS_OR_EQUAL "java/lang/String" "value" "[B" (.ref z_LESS_OR_EQUAL)) (V_z_LESS_OR_EQUAL : Arv Z h0 z_LESS_OR_EQUAL k_LESS_OR_EQUAL .byte (2 : Int32) [(.int (60 : Int32)), (.int (61 : Int32))] (.int (0 : Int32))) (F_w_GREATER_symbol : Fld Z h0 w_GREATER "com/example/polyphony/polyphony/policy/Operator" "symbol" "Ljava/lang/String;" (.ref y_GREATER)) (E_y_GREATER : Exa Z h0 y_GREATER "java/lang/String") (F_y_GREATER_coder : Fld Z h0 y_GREATER "java/lang/String" "coder" "B" (.int (0 : Int32))) (F_y_GREATER_value : Fld Z h0 y_GREATER "java/lang/String" "value" "[B" (.ref z_GREATER)) (V_z_GREATER : Arv Z h0 z_GREATER k_GREATER .byte (1 : Int32) [(.int (62 : Int32))] (.int (0 : Int32))) (F_w_GREATER_OR_EQUAL_symbol : Fld Z h0 w_GREATER_OR_EQUAL "com/example/polyphony/polyphony/policy/Operator" "symbol" "Ljava/lang/String;" (.ref y_GREATER_OR_EQUAL)) (E_y_GREATER_OR_EQUAL : Exa Z h0 y_GREATER_OR_EQUAL "java/lang/String") (F_y_GREATER_OR_EQUAL_coder : Fld Z h0 y_GREATER_OR_EQUAL "java/lang/String" "coder" "B" (.int (0 : Int32))) (F_y_GREATER_OR_EQUAL_value : Fld Z h0 y_GREATER_OR_EQUAL "java/lang/String" "value" "[B" (.ref z_GREATER_OR_EQUAL)) (V_z_GREATER_OR_EQUAL : Arv Z h0 z_GREATER_OR_EQUAL k_GREATER_OR_EQUAL .byte (2 : Int32) [(.int (62 : Int32)), (.int (61 : Int32))] (.int (0 : Int32))) (F_v : FitC Z clv) (S_v : clv.slots.size = (6 : Int32).toNatClampNeg) (H_v : Has clv [(.ref w_EQUAL), (.ref w_NOT_EQUAL), (.ref w_LESS), (.ref w_LESS_OR_EQUAL), (.ref w_GREATER), (.ref w_GREATER_OR_EQUAL)] .null) (G_v : ∀ i, i < clv.slots.size → fits (.object "com/example/polyphony/polyphony/policy/Operator") ([(.ref w_EQUAL), (.ref w_NOT_EQUAL), (.ref w_LESS), (.ref w_LESS_OR_EQUAL), (.ref w_GREATER), (.ref w_GREATER_OR_EQUAL)].getD i .null) = true) (hz : ¬ (zc = (0 : Int32))) (neo_EQUAL : ¬ (y_EQUAL = o)) (neo_NOT_EQUAL : ¬ (y_NOT_EQUAL = o)) (neo_LESS : ¬ (y_LESS = o)) (neo_LESS_OR_EQUAL : ¬ (y_LESS_OR_EQUAL = o)) (neo_GREATER : ¬ (y_GREATER = o)) (neo_GREATER_OR_EQUAL : ¬ (y_GREATER_OR_EQUAL = o)) :
    own_Met l Z (⟨"com/example/polyphony/polyphony/policy/Operator", "of", "(Ljava/lang/String;)Lcom/example/polyphony/polyphony/policy/Operator;"⟩ : MethodName) prog_48_method_7_code 5 (some (.object "com/example/polyphony/polyphony/policy/Operator")) ws ({ frames := 2, cells := 1, slots := 6, locals := 28 } : Room) #[(.ref o)] h0 (fun v h L => v = some (.ref w_GREATER_OR_EQUAL) ∧ Fr n0 L ∧ Keep h0 h []) := by
  refine own_body (plainFor_of_name own_pn_com_example_polyphony_polyphony_policy_Operator) (fun p e s m below meth c s₁ hx hby hml0 hrt hlk hown0 hnm hZ X0 e0 => ?_)
  have N0 := Fr.nil n0
  have hown : s.vm.findClass "com/example/polyphony/polyphony/policy/Operator" = some m.cls := hown0
  have hml : c.maxLocals = 5 := hml0
  refine own_castG (own_ef5 m o) ?_
  show own_Goes _ _ _ _ s₁ (mkF m 0 #[.val (.ref o), .unset, .unset, .unset, .unset] [])
  refine own_callS X0 hx hZ (y := (⟨"com/example/polyphony/polyphony/policy/Operator", "values", "()[Lcom/example/polyphony/polyphony/policy/Operator;"⟩ : MethodName)) hown (hw _ (List.mem_of_getElem? (i := 37) rfl)) (hw _ (List.mem_of_getElem? (i := 38) rfl)) (hw _ (List.mem_of_getElem? (i := 3) rfl)) (hw _ (List.mem_of_getElem? (i := 39) rfl)) (by decide) 0 [] [] (own_values l Z a0 hw [] w_V clv w_EQUAL w_NOT_EQUAL w_LESS w_LESS_OR_EQUAL w_GREATER w_GREATER_OR_EQUAL h0 n0 Z0 S__VALUES R_w_V E_w_V F_v S_v H_v G_v) e0 (by decide) (by decide) (by decide) (by decide) (g := (mkF m 0 #[.val (.ref o), .unset, .unset, .unset, .unset] [])) rfl (by rw [hml]; rfl) own_pd1 rfl rfl (by show 2 * 0 + _ ≤ _; exact Nat.le_of_eq rfl) (hb hby own_prog_48_method_7_0) ?_
  intro T1 v1 L1 X1 hQ1
  obtain ⟨b1_0, k1_0, rfl, N1q, Kq1, zq1_0, q1_0⟩ := hQ1
  have N1 := Fr.app N0 N1q
  have K1 := (Keep.refl h0 []).trans Kq1 all0
  have g_b1_0 : n0 ≤ b1_0 := Nat.le_trans Z0 zq1_0
  have sz_b1_0 : h0.size ≤ b1_0 := Nat.le_trans (Keep.refl h0 []).1 zq1_0
  have ne_o_b1_0 : o ≠ b1_0 := Nat.ne_of_lt (Nat.lt_of_lt_of_le E_o.lt zq1_0)
  have ne_vo_b1_0 : vo ≠ b1_0 := Nat.ne_of_lt (Nat.lt_of_lt_of_le V_vo.lt zq1_0)
  have ne_w_V_b1_0 : w_V ≠ b1_0 := Nat.ne_of_lt (Nat.lt_of_lt_of_le E_w_V.lt zq1_0)
  have ne_w_EQUAL_b1_0 : w_EQUAL ≠ b1_0 := Nat.ne_of_lt (Nat.lt_of_lt_of_le F_w_EQUAL_symbol.lt zq1_0)
  have ne_y_EQUAL_b1_0 : y_EQUAL ≠ b1_0 := Nat.ne_of_lt (Nat.lt_of_lt_of_le E_y_EQUAL.lt zq1_0)
  have ne_z_EQUAL_b1_0 : z_EQUAL ≠ b1_0 := Nat.ne_of_lt (Nat.lt_of_lt_of_le V_z_EQUAL.lt zq1_0)
  have ne_w_NOT_EQUAL_b1_0 : w_NOT_EQUAL ≠ b1_0 := Nat.ne_of_lt (Nat.lt_of_lt_of_le F_w_NOT_EQUAL_symbol.lt zq1_0)
  have ne_y_NOT_EQUAL_b1_0 : y_NOT_EQUAL ≠ b1_0 := Nat.ne_of_lt (Nat.lt_of_lt_of_le E_y_NOT_EQUAL.lt zq1_0)
  have ne_z_NOT_EQUAL_b1_0 : z_NOT_EQUAL ≠ b1_0 := Nat.ne_of_lt (Nat.lt_of_lt_of_le V_z_NOT_EQUAL.lt zq1_0)
  have ne_w_LESS_b1_0 : w_LESS ≠ b1_0 := Nat.ne_of_lt (Nat.lt_of_lt_of_le F_w_LESS_symbol.lt zq1_0)
  have ne_y_LESS_b1_0 : y_LESS ≠ b1_0 := Nat.ne_of_lt (Nat.lt_of_lt_of_le E_y_LESS.lt zq1_0)
  have ne_z_LESS_b1_0 : z_LESS ≠ b1_0 := Nat.ne_of_lt (Nat.lt_of_lt_of_le V_z_LESS.lt zq1_0)
  have ne_w_LESS_OR_EQUAL_b1_0 : w_LESS_OR_EQUAL ≠ b1_0 := Nat.ne_of_lt (Nat.lt_of_lt_of_le F_w_LESS_OR_EQUAL_symbol.lt zq1_0)
  have ne_y_LESS_OR_EQUAL_b1_0 : y_LESS_OR_EQUAL ≠ b1_0 := Nat.ne_of_lt (Nat.lt_of_lt_of_le E_y_LESS_OR_EQUAL.lt zq1_0)
  have ne_z_LESS_OR_EQUAL_b1_0 : z_LESS_OR_EQUAL ≠ b1_0 := Nat.ne_of_lt (Nat.lt_of_lt_of_le V_z_LESS_OR_EQUAL.lt zq1_0)
  have ne_w_GREATER_b1_0 : w_GREATER ≠ b1_0 := Nat.ne_of_lt (Nat.lt_of_lt_of_le F_w_GREATER_symbol.lt zq1_0)
  have ne_y_GREATER_b1_0 : y_GREATER ≠ b1_0 := Nat.ne_of_lt (Nat.lt_of_lt_of_le E_y_GREATER.lt zq1_0)
  have ne_z_GREATER_b1_0 : z_GREATER ≠ b1_0 := Nat.ne_of_lt (Nat.lt_of_lt_of_le V_z_GREATER.lt zq1_0)
  have ne_w_GREATER_OR_EQUAL_b1_0 : w_GREATER_OR_EQUAL ≠ b1_0 := Nat.ne_of_lt (Nat.lt_of_lt_of_le F_w_GREATER_OR_EQUAL_symbol.lt zq1_0)
  have ne_y_GREATER_OR_EQUAL_b1_0 : y_GREATER_OR_EQUAL ≠ b1_0 := Nat.ne_of_lt (Nat.lt_of_lt_of_le E_y_GREATER_OR_EQUAL.lt zq1_0)
  have ne_z_GREATER_OR_EQUAL_b1_0 : z_GREATER_OR_EQUAL ≠ b1_0 := Nat.ne_of_lt (Nat.lt_of_lt_of_le V_z_GREATER_OR_EQUAL.lt zq1_0)
  have q1_0' : Arv Z T1.heap b1_0 k1_0 (.object "com/example/polyphony/polyphony/policy/Operator") (6 : Int32) [(.ref w_EQUAL), (.ref w_NOT_EQUAL), (.ref w_LESS), (.ref w_LESS_OR_EQUAL), (.ref w_GREATER), (.ref w_GREATER_OR_EQUAL)] .null := q1_0
  show own_Goes _ _ _ _ T1 (mkF m 3 #[.val (.ref o), .unset, .unset, .unset, .unset] [(.ref b1_0)])
  refine own_step (fun t k => XS.astoreN X1.here hx rfl (hb hby own_prog_48_method_7_3) rfl rfl (l' := #[.val (.ref o), .val (.ref b1_0), .unset, .unset, .unset]) rfl k) ?_
  show own_Goes _ _ _ _ T1 (mkF m 4 #[.val (.ref o), .val (.ref b1_0), .unset, .unset, .unset] [])
  refine own_step (fun t k => XS.aloadN X1.here hx rfl (hb hby own_prog_48_method_7_4) rfl rfl k) ?_
  show own_Goes _ _ _ _ T1 (mkF m 5 #[.val (.ref o), .val (.ref b1_0), .unset, .unset, .unset] [(.ref b1_0)])
  refine own_step (own_alen X1 hx hZ rfl q1_0' (g := (mkF m 5 #[.val (.ref o), .val (.ref b1_0), .unset, .unset, .unset] [(.ref b1_0)])) rfl rfl (hb hby own_prog_48_method_7_5)) ?_
  show own_Goes _ _ _ _ T1 (mkF m 6 #[.val (.ref o), .val (.ref b1_0), .unset, .unset, .unset] [(.int (6 : Int32))])
  refine own_step (fun t k => XS.istoreN X1.here hx rfl (hb hby own_prog_48_method_7_6) rfl (l' := #[.val (.ref o), .val (.ref b1_0), .val (.int (6 : Int32)), .unset, .unset]) rfl k) ?_
  show own_Goes _ _ _ _ T1 (mkF m 7 #[.val (.ref o), .val (.ref b1_0), .val (.int (6 : Int32)), .unset, .unset] [])
  refine own_step (fun t k => XS.iconst X1.here hx rfl (hb hby own_prog_48_method_7_7) k) ?_
  show own_Goes _ _ _ _ T1 (mkF m 8 #[.val (.ref o), .val (.ref b1_0), .val (.int (6 : Int32)), .unset, .unset] [(.int (0 : Int32))])
  refine own_step (fun t k => XS.istoreN X1.here hx rfl (hb hby own_prog_48_method_7_8) rfl (l' := #[.val (.ref o), .val (.ref b1_0), .val (.int (6 : Int32)), .val (.int (0 : Int32)), .unset]) rfl k) ?_
  show own_Goes _ _ _ _ T1 (mkF m 9 #[.val (.ref o), .val (.ref b1_0), .val (.int (6 : Int32)), .val (.int (0 : Int32)), .unset] [])
  refine own_step (fun t k => XS.iloadN X1.here hx rfl (hb hby own_prog_48_method_7_9) rfl k) ?_
  show own_Goes _ _ _ _ T1 (mkF m 10 #[.val (.ref o), .val (.ref b1_0), .val (.int (6 : Int32)), .val (.int (0 : Int32)), .unset] [(.int (0 : Int32))])
  refine own_step (fun t k => XS.iloadN X1.here hx rfl (hb hby own_prog_48_method_7_10) rfl k) ?_
  show own_Goes _ _ _ _ T1 (mkF m 11 #[.val (.ref o), .val (.ref b1_0), .val (.int (6 : Int32)), .val (.int (0 : Int32)), .unset] [(.int (6 : Int32)), (.int (0 : Int32))])
  refine own_step (fun t k => XS.icmpNo X1.here hx rfl (hb hby own_prog_48_method_7_11) rfl (tlt (show (0 : Int32) < (6 : Int32) from (by decide))).2.1 k) ?_
  show own_Goes _ _ _ _ T1 (mkF m 14 #[.val (.ref o), .val (.ref b1_0), .val (.int (6 : Int32)), .val (.int (0 : Int32)), .unset] [])
  refine own_step (fun t k => XS.aloadN X1.here hx rfl (hb hby own_prog_48_method_7_14) rfl rfl k) ?_
  show own_Goes _ _ _ _ T1 (mkF m 15 #[.val (.ref o), .val (.ref b1_0), .val (.int (6 : Int32)), .val (.int (0 : Int32)), .unset] [(.ref b1_0)])
  refine own_step (fun t k => XS.iloadN X1.here hx rfl (hb hby own_prog_48_method_7_15) rfl k) ?_
  show own_Goes _ _ _ _ T1 (mkF m 16 #[.val (.ref o), .val (.ref b1_0), .val (.int (6 : Int32)), .val (.int (0 : Int32)), .unset] [(.int (0 : Int32)), (.ref b1_0)])
  refine own_step (own_aaload X1 hx hZ rfl q1_0' rfl (.ref w_EQUAL) ⟨by decide, by decide⟩ rfl (g := (mkF m 16 #[.val (.ref o), .val (.ref b1_0), .val (.int (6 : Int32)), .val (.int (0 : Int32)), .unset] [(.int (0 : Int32)), (.ref b1_0)])) rfl rfl (hb hby own_prog_48_method_7_16)) ?_
  show own_Goes _ _ _ _ T1 (mkF m 17 #[.val (.ref o), .val (.ref b1_0), .val (.int (6 : Int32)), .val (.int (0 : Int32)), .unset] [(.ref w_EQUAL)])
  refine own_step (fun t k => XS.astore X1.here hx rfl (hb hby own_prog_48_method_7_17) rfl rfl (l' := #[.val (.ref o), .val (.ref b1_0), .val (.int (6 : Int32)), .val (.int (0 : Int32)), .val (.ref w_EQUAL)]) rfl k) ?_
  show own_Goes _ _ _ _ T1 (mkF m 19 #[.val (.ref o), .val (.ref b1_0), .val (.int (6 : Int32)), .val (.int (0 : Int32)), .val (.ref w_EQUAL)] [])
  refine own_step (fun t k => XS.aload X1.here hx rfl (hb hby own_prog_48_method_7_19) rfl rfl k) ?_
  show own_Goes _ _ _ _ T1 (mkF m 21 #[.val (.ref o), .val (.ref b1_0), .val (.int (6 : Int32)), .val (.int (0 : Int32)), .val (.ref w_EQUAL)] [(.ref w_EQUAL)])
  have F_w_EQUAL_symbol_v3 := (F_w_EQUAL_symbol.keep Kq1 nin0)
  obtain ⟨T2, X2, e2, st2⟩ := getF X1 hx hZ hown (host := "") (Or.inl (hw _ (List.mem_of_getElem? (i := 57) rfl))) Via.refl rfl F_w_EQUAL_symbol_v3 (g := (mkF m 21 #[.val (.ref o), .val (.ref b1_0), .val (.int (6 : Int32)), .val (.int (0 : Int32)), .val (.ref w_EQUAL)] [(.ref w_EQUAL)])) rfl rfl (hb hby own_prog_48_method_7_21)
  refine own_step st2 ?_
  show own_Goes _ _ _ _ T2 (mkF m 24 #[.val (.ref o), .val (.ref b1_0), .val (.int (6 : Int32)), .val (.int (0 : Int32)), .val (.ref w_EQUAL)] [(.ref y_EQUAL)])
  refine own_step (fun t k => XS.aloadN X2.here hx rfl (hb hby own_prog_48_method_7_24) rfl rfl k) ?_
  show own_Goes _ _ _ _ T2 (mkF m 25 #[.val (.ref o), .val (.ref b1_0), .val (.int (6 : Int32)), .val (.int (0 : Int32)), .val (.ref w_EQUAL)] [(.ref o), (.ref y_EQUAL)])
  have E_o_v4 := (E_o.keep Kq1)
  have F_y_EQUAL_coder_v5 := (F_y_EQUAL_coder.keep Kq1 nin0)
  have F_o_coder_v6 := (F_o_coder.keep Kq1 nin0)
  have F_y_EQUAL_value_v7 := (F_y_EQUAL_value.keep Kq1 nin0)
  have F_o_value_v8 := (F_o_value.keep Kq1 nin0)
  have V_z_EQUAL_v9 := (V_z_EQUAL.keep Kq1 nin0)
  have V_vo_v10 := (V_vo.keep Kq1 nin0)
  have S_COMPACT_STRINGS_v11 := (own_staKeep S_COMPACT_STRINGS Kq1 all0)
  have E_y_EQUAL_v13 := (E_y_EQUAL.keep Kq1)
  refine own_callV X2 hx hZ (y := (⟨"java/lang/String", "equals", "(Ljava/lang/Object;)Z"⟩ : MethodName)) (z := (⟨"java/lang/String", "equals", "(Ljava/lang/Object;)Z"⟩ : MethodName)) hown (hw _ (List.mem_of_getElem? (i := 59) rfl)) (hw _ (List.mem_of_getElem? (i := 60) rfl)) (notFace_of_selects (args := #[]) (mvT hZ (hw _ (List.mem_of_getElem? (i := 62) rfl)))) (hw _ (List.mem_of_getElem? (i := 62) rfl)) (hw _ (List.mem_of_getElem? (i := 61) rfl)) (hw _ (List.mem_of_getElem? (i := 63) rfl)) (hw _ (List.mem_of_getElem? (i := 7) rfl)) (by decide) 0 E_y_EQUAL_v13 [(.ref o)] [] (own_seq_220 l Z a0 hw [] y_EQUAL o z_EQUAL vo k_EQUAL ko (61 : Int32) (61 : Int32) (62 : Int32) (61 : Int32) zc T1.heap n0 (Nat.le_trans Z0 K1.1) E_o_v4 F_y_EQUAL_coder_v5 F_o_coder_v6 F_y_EQUAL_value_v7 F_o_value_v8 V_z_EQUAL_v9 V_vo_v10 S_COMPACT_STRINGS_v11 (by decide) hz neo_EQUAL) e2 (by decide) (by decide) (by decide) (by decide) (g := (mkF m 25 #[.val (.ref o), .val (.ref b1_0), .val (.int (6 : Int32)), .val (.int (0 : Int32)), .val (.ref w_EQUAL)] [(.ref o), (.ref y_EQUAL)])) rfl (by rw [hml]; rfl) own_pd2 rfl rfl (by show 2 * 0 + _ ≤ _; exact Nat.le_of_eq rfl) (hb hby own_prog_48_method_7_25) ?_
  intro T12 v12 L12 X12 hQ12
  obtain ⟨rfl, N12q, e12⟩ := hQ12
  have N12 := Fr.app N1 N12q
  show own_Goes _ _ _ _ T12 (mkF m 28 #[.val (.ref o), .val (.ref b1_0), .val (.int (6 : Int32)), .val (.int (0 : Int32)), .val (.ref w_EQUAL)] [(.int (0 : Int32))])
  refine own_step (fun t k => XS.ifYes X12.here hx rfl (pc0 := 28) (pc' := 34) rfl (hb hby own_prog_48_method_7_28) rfl ((if0 _ _).trans (teq (show (0 : Int32) = (0 : Int32) from (by decide))).1) (by decide) (by decide) k) ?_
  show own_Goes _ _ _ _ T12 (mkF m 34 #[.val (.ref o), .val (.ref b1_0), .val (.int (6 : Int32)), .val (.int (0 : Int32)), .val (.ref w_EQUAL)] [])
  refine own_step (fun t k => XS.iinc X12.here hx rfl (hb hby own_prog_48_method_7_34) rfl (l' := #[.val (.ref o), .val (.ref b1_0), .val (.int (6 : Int32)), .val (.int (1 : Int32)), .val (.ref w_EQUAL)]) rfl k) ?_
  show own_Goes _ _ _ _ T12 (mkF m 37 #[.val (.ref o), .val (.ref b1_0), .val (.int (6 : Int32)), .val (.int (1 : Int32)), .val (.ref w_EQUAL)] [])
  refine own_step (fun t k => XS.goto X12.here hx rfl (pc0 := 37) (pc' := 9) rfl (hb hby own_prog_48_method_7_37) (by decide) (by decide) k) ?_
  show own_Goes _ _ _ _ T12 (mkF m 9 #[.val (.ref o), .val (.ref b1_0), .val (.int (6 : Int32)), .val (.int (1 : Int32)), .val (.ref w_EQUAL)] [])
  refine own_step (fun t k => XS.iloadN X12.here hx rfl (hb hby own_prog_48_method_7_9) rfl k) ?_
  show own_Goes _ _ _ _ T12 (mkF m 10 #[.val (.ref o), .val (.ref b1_0), .val (.int (6 : Int32)), .val (.int (1 : Int32)), .val (.ref w_EQUAL)] [(.int (1 : Int32))])
  refine own_step (fun t k => XS.iloadN X12.here hx rfl (hb hby own_prog_48_method_7_10) rfl k) ?_
  show own_Goes _ _ _ _ T12 (mkF m 11 #[.val (.ref o), .val (.ref b1_0), .val (.int (6 : Int32)), .val (.int (1 : Int32)), .val (.ref w_EQUAL)] [(.int (6 : Int32)), (.int (1 : Int32))])
  refine own_step (fun t k => XS.icmpNo X12.here hx rfl (hb hby own_prog_48_method_7_11) rfl (tlt (show (1 : Int32) < (6 : Int32) from (by decide))).2.1 k) ?_
  show own_Goes _ _ _ _ T12 (mkF m 14 #[.val (.ref o), .val (.ref b1_0), .val (.int (6 : Int32)), .val (.int (1 : Int32)), .val (.ref w_EQUAL)] [])
  refine own_step (fun t k => XS.aloadN X12.here hx rfl (hb hby own_prog_48_method_7_14) rfl rfl k) ?_
  show own_Goes _ _ _ _ T12 (mkF m 15 #[.val (.ref o), .val (.ref b1_0), .val (.int (6 : Int32)), .val (.int (1 : Int32)), .val (.ref w_EQUAL)] [(.ref b1_0)])
  refine own_step (fun t k => XS.iloadN X12.here hx rfl (hb hby own_prog_48_method_7_15) rfl k) ?_
  show own_Goes _ _ _ _ T12 (mkF m 16 #[.val (.ref o), .val (.ref b1_0), .val (.int (6 : Int32)), .val (.int (1 : Int32)), .val (.ref w_EQUAL)] [(.int (1 : Int32)), (.ref b1_0)])
  refine own_step (own_aaload X12 hx hZ e12 q1_0' rfl (.ref w_NOT_EQUAL) ⟨by decide, by decide⟩ rfl (g := (mkF m 16 #[.val (.ref o), .val (.ref b1_0), .val (.int (6 : Int32)), .val (.int (1 : Int32)), .val (.ref w_EQUAL)] [(.int (1 : Int32)), (.ref b1_0)])) rfl rfl (hb hby own_prog_48_method_7_16)) ?_
  show own_Goes _ _ _ _ T12 (mkF m 17 #[.val (.ref o), .val (.ref b1_0), .val (.int (6 : Int32)), .val (.int (1 : Int32)), .val (.ref w_EQUAL)] [(.ref w_NOT_EQUAL)])
  refine own_step (fun t k => XS.astore X12.here hx rfl (hb hby own_prog_48_method_7_17) rfl rfl (l' := #[.val (.ref o), .val (.ref b1_0), .val (.int (6 : Int32)), .val (.int (1 : Int32)), .val (.ref w_NOT_EQUAL)]) rfl k) ?_
  show own_Goes _ _ _ _ T12 (mkF m 19 #[.val (.ref o), .val (.ref b1_0), .val (.int (6 : Int32)), .val (.int (1 : Int32)), .val (.ref w_NOT_EQUAL)] [])
  refine own_step (fun t k => XS.aload X12.here hx rfl (hb hby own_prog_48_method_7_19) rfl rfl k) ?_
  show own_Goes _ _ _ _ T12 (mkF m 21 #[.val (.ref o), .val (.ref b1_0), .val (.int (6 : Int32)), .val (.int (1 : Int32)), .val (.ref w_NOT_EQUAL)] [(.ref w_NOT_EQUAL)])
  have F_w_NOT_EQUAL_symbol_v15 := (F_w_NOT_EQUAL_symbol.keep Kq1 nin0)
  obtain ⟨T14, X14, e14, st14⟩ := getF X12 hx hZ hown (host := "") (Or.inl (hw _ (List.mem_of_getElem? (i := 57) rfl))) Via.refl e12 F_w_NOT_EQUAL_symbol_v15 (g := (mkF m 21 #[.val (.ref o), .val (.ref b1_0), .val (.int (6 : Int32)), .val (.int (1 : Int32)), .val (.ref w_NOT_EQUAL)] [(.ref w_NOT_EQUAL)])) rfl rfl (hb hby own_prog_48_method_7_21)
  refine own_step st14 ?_
  show own_Goes _ _ _ _ T14 (mkF m 24 #[.val (.ref o), .val (.ref b1_0), .val (.int (6 : Int32)), .val (.int (1 : Int32)), .val (.ref w_NOT_EQUAL)] [(.ref y_NOT_EQUAL)])
  refine own_step (fun t k => XS.aloadN X14.here hx rfl (hb hby own_prog_48_method_7_24) rfl rfl k) ?_
  show own_Goes _ _ _ _ T14 (mkF m 25 #[.val (.ref o), .val (.ref b1_0), .val (.int (6 : Int32)), .val (.int (1 : Int32)), .val (.ref w_NOT_EQUAL)] [(.ref o), (.ref y_NOT_EQUAL)])
  have F_y_NOT_EQUAL_coder_v16 := (F_y_NOT_EQUAL_coder.keep Kq1 nin0)
  have F_y_NOT_EQUAL_value_v17 := (F_y_NOT_EQUAL_value.keep Kq1 nin0)
  have V_z_NOT_EQUAL_v18 := (V_z_NOT_EQUAL.keep Kq1 nin0)
  have E_y_NOT_EQUAL_v20 := (E_y_NOT_EQUAL.keep Kq1)
  refine own_callV X14 hx hZ (y := (⟨"java/lang/String", "equals", "(Ljava/lang/Object;)Z"⟩ : MethodName)) (z := (⟨"java/lang/String", "equals", "(Ljava/lang/Object;)Z"⟩ : MethodName)) hown (hw _ (List.mem_of_getElem? (i := 59) rfl)) (hw _ (List.mem_of_getElem? (i := 60) rfl)) (notFace_of_selects (args := #[]) (mvT hZ (hw _ (List.mem_of_getElem? (i := 62) rfl)))) (hw _ (List.mem_of_getElem? (i := 62) rfl)) (hw _ (List.mem_of_getElem? (i := 61) rfl)) (hw _ (List.mem_of_getElem? (i := 63) rfl)) (hw _ (List.mem_of_getElem? (i := 7) rfl)) (by decide) 0 E_y_NOT_EQUAL_v20 [(.ref o)] [] (own_seq_220 l Z a0 hw [] y_NOT_EQUAL o z_NOT_EQUAL vo k_NOT_EQUAL ko (33 : Int32) (61 : Int32) (62 : Int32) (61 : Int32) zc T1.heap n0 (Nat.le_trans Z0 K1.1) E_o_v4 F_y_NOT_EQUAL_coder_v16 F_o_coder_v6 F_y_NOT_EQUAL_value_v17 F_o_value_v8 V_z_NOT_EQUAL_v18 V_vo_v10 S_COMPACT_STRINGS_v11 (by decide) hz neo_NOT_EQUAL) e14 (by decide) (by decide) (by decide) (by decide) (g := (mkF m 25 #[.val (.ref o), .val (.ref b1_0), .val (.int (6 : Int32)), .val (.int (1 : Int32)), .val (.ref w_NOT_EQUAL)] [(.ref o), (.ref y_NOT_EQUAL)])) rfl (by rw [hml]; rfl) own_pd2 rfl rfl (by show 2 * 0 + _ ≤ _; exact Nat.le_of_eq rfl) (hb hby own_prog_48_method_7_25) ?_
  intro T19 v19 L19 X19 hQ19
  obtain ⟨rfl, N19q, e19⟩ := hQ19
  have N19 := Fr.app N12 N19q
  show own_Goes _ _ _ _ T19 (mkF m 28 #[.val (.ref o), .val (.ref b1_0), .val (.int (6 : Int32)), .val (.int (1 : Int32)), .val (.ref w_NOT_EQUAL)] [(.int (0 : Int32))])
  refine own_step (fun t k => XS.ifYes X19.here hx rfl (pc0 := 28) (pc' := 34) rfl (hb hby own_prog_48_method_7_28) rfl ((if0 _ _).trans (teq (show (0 : Int32) = (0 : Int32) from (by decide))).1) (by decide) (by decide) k) ?_
  show own_Goes _ _ _ _ T19 (mkF m 34 #[.val (.ref o), .val (.ref b1_0), .val (.int (6 : Int32)), .val (.int (1 : Int32)), .val (.ref w_NOT_EQUAL)] [])
  refine own_step (fun t k => XS.iinc X19.here hx rfl (hb hby own_prog_48_method_7_34) rfl (l' := #[.val (.ref o), .val (.ref b1_0), .val (.int (6 : Int32)), .val (.int (2 : Int32)), .val (.ref w_NOT_EQUAL)]) rfl k) ?_
  show own_Goes _ _ _ _ T19 (mkF m 37 #[.val (.ref o), .val (.ref b1_0), .val (.int (6 : Int32)), .val (.int (2 : Int32)), .val (.ref w_NOT_EQUAL)] [])
  refine own_step (fun t k => XS.goto X19.here hx rfl (pc0 := 37) (pc' := 9) rfl (hb hby own_prog_48_method_7_37) (by decide) (by decide) k) ?_
  show own_Goes _ _ _ _ T19 (mkF m 9 #[.val (.ref o), .val (.ref b1_0), .val (.int (6 : Int32)), .val (.int (2 : Int32)), .val (.ref w_NOT_EQUAL)] [])
  refine own_step (fun t k => XS.iloadN X19.here hx rfl (hb hby own_prog_48_method_7_9) rfl k) ?_
  show own_Goes _ _ _ _ T19 (mkF m 10 #[.val (.ref o), .val (.ref b1_0), .val (.int (6 : Int32)), .val (.int (2 : Int32)), .val (.ref w_NOT_EQUAL)] [(.int (2 : Int32))])
  refine own_step (fun t k => XS.iloadN X19.here hx rfl (hb hby own_prog_48_method_7_10) rfl k) ?_
  show own_Goes _ _ _ _ T19 (mkF m 11 #[.val (.ref o), .val (.ref b1_0), .val (.int (6 : Int32)), .val (.int (2 : Int32)), .val (.ref w_NOT_EQUAL)] [(.int (6 : Int32)), (.int (2 : Int32))])
  refine own_step (fun t k => XS.icmpNo X19.here hx rfl (hb hby own_prog_48_method_7_11) rfl (tlt (show (2 : Int32) < (6 : Int32) from (by decide))).2.1 k) ?_
  show own_Goes _ _ _ _ T19 (mkF m 14 #[.val (.ref o), .val (.ref b1_0), .val (.int (6 : Int32)), .val (.int (2 : Int32)), .val (.ref w_NOT_EQUAL)] [])
  refine own_step (fun t k => XS.aloadN X19.here hx rfl (hb hby own_prog_48_method_7_14) rfl rfl k) ?_
  show own_Goes _ _ _ _ T19 (mkF m 15 #[.val (.ref o), .val (.ref b1_0), .val (.int (6 : Int32)), .val (.int (2 : Int32)), .val (.ref w_NOT_EQUAL)] [(.ref b1_0)])
  refine own_step (fun t k => XS.iloadN X19.here hx rfl (hb hby own_prog_48_method_7_15) rfl k) ?_
  show own_Goes _ _ _ _ T19 (mkF m 16 #[.val (.ref o), .val (.ref b1_0), .val (.int (6 : Int32)), .val (.int (2 : Int32)), .val (.ref w_NOT_EQUAL)] [(.int (2 : Int32)), (.ref b1_0)])
  refine own_step (own_aaload X19 hx hZ e19 q1_0' rfl (.ref w_LESS) ⟨by decide, by decide⟩ rfl (g := (mkF m 16 #[.val (.ref o), .val (.ref b1_0), .val (.int (6 : Int32)), .val (.int (2 : Int32)), .val (.ref w_NOT_EQUAL)] [(.int (2 : Int32)), (.ref b1_0)])) rfl rfl (hb hby own_prog_48_method_7_16)) ?_
  show own_Goes _ _ _ _ T19 (mkF m 17 #[.val (.ref o), .val (.ref b1_0), .val (.int (6 : Int32)), .val (.int (2 : Int32)), .val (.ref w_NOT_EQUAL)] [(.ref w_LESS)])
  refine own_step (fun t k => XS.astore X19.here hx rfl (hb hby own_prog_48_method_7_17) rfl rfl (l' := #[.val (.ref o), .val (.ref b1_0), .val (.int (6 : Int32)), .val (.int (2 : Int32)), .val (.ref w_LESS)]) rfl k) ?_
  show own_Goes _ _ _ _ T19 (mkF m 19 #[.val (.ref o), .val (.ref b1_0), .val (.int (6 : Int32)), .val (.int (2 : Int32)), .val (.ref w_LESS)] [])
  refine own_step (fun t k => XS.aload X19.here hx rfl (hb hby own_prog_48_method_7_19) rfl rfl k) ?_
  show own_Goes _ _ _ _ T19 (mkF m 21 #[.val (.ref o), .val (.ref b1_0), .val (.int (6 : Int32)), .val (.int (2 : Int32)), .val (.ref w_LESS)] [(.ref w_LESS)])
  have F_w_LESS_symbol_v22 := (F_w_LESS_symbol.keep Kq1 nin0)
  obtain ⟨T21, X21, e21, st21⟩ := getF X19 hx hZ hown (host := "") (Or.inl (hw _ (List.mem_of_getElem? (i := 57) rfl))) Via.refl e19 F_w_LESS_symbol_v22 (g := (mkF m 21 #[.val (.ref o), .val (.ref b1_0), .val (.int (6 : Int32)), .val (.int (2 : Int32)), .val (.ref w_LESS)] [(.ref w_LESS)])) rfl rfl (hb hby own_prog_48_method_7_21)
  refine own_step st21 ?_
  show own_Goes _ _ _ _ T21 (mkF m 24 #[.val (.ref o), .val (.ref b1_0), .val (.int (6 : Int32)), .val (.int (2 : Int32)), .val (.ref w_LESS)] [(.ref y_LESS)])
  refine own_step (fun t k => XS.aloadN X21.here hx rfl (hb hby own_prog_48_method_7_24) rfl rfl k) ?_
  show own_Goes _ _ _ _ T21 (mkF m 25 #[.val (.ref o), .val (.ref b1_0), .val (.int (6 : Int32)), .val (.int (2 : Int32)), .val (.ref w_LESS)] [(.ref o), (.ref y_LESS)])
  have F_y_LESS_coder_v23 := (F_y_LESS_coder.keep Kq1 nin0)
  have F_y_LESS_value_v24 := (F_y_LESS_value.keep Kq1 nin0)
  have V_z_LESS_v25 := (V_z_LESS.keep Kq1 nin0)
  have E_y_LESS_v27 := (E_y_LESS.keep Kq1)
  refine own_callV X21 hx hZ (y := (⟨"java/lang/String", "equals", "(Ljava/lang/Object;)Z"⟩ : MethodName)) (z := (⟨"java/lang/String", "equals", "(Ljava/lang/Object;)Z"⟩ : MethodName)) hown (hw _ (List.mem_of_getElem? (i := 59) rfl)) (hw _ (List.mem_of_getElem? (i := 60) rfl)) (notFace_of_selects (args := #[]) (mvT hZ (hw _ (List.mem_of_getElem? (i := 62) rfl)))) (hw _ (List.mem_of_getElem? (i := 62) rfl)) (hw _ (List.mem_of_getElem? (i := 61) rfl)) (hw _ (List.mem_of_getElem? (i := 63) rfl)) (hw _ (List.mem_of_getElem? (i := 7) rfl)) (by decide) 0 E_y_LESS_v27 [(.ref o)] [] (own_seq_12len l Z a0 hw [] y_LESS o z_LESS vo k_LESS ko (60 : Int32) (62 : Int32) (61 : Int32) zc T1.heap n0 (Nat.le_trans Z0 K1.1) E_o_v4 F_y_LESS_coder_v23 F_o_coder_v6 F_y_LESS_value_v24 F_o_value_v8 V_z_LESS_v25 V_vo_v10 S_COMPACT_STRINGS_v11 hz neo_LESS) e21 (by decide) (by decide) (by decide) (by decide) (g := (mkF m 25 #[.val (.ref o), .val (.ref b1_0), .val (.int (6 : Int32)), .val (.int (2 : Int32)), .val (.ref w_LESS)] [(.ref o), (.ref y_LESS)])) rfl (by rw [hml]; rfl) own_pd2 rfl rfl (by show 2 * 0 + _ ≤ _; exact Nat.le_of_eq rfl) (hb hby own_prog_48_method_7_25) ?_
  intro T26 v26 L26 X26 hQ26
  obtain ⟨rfl, N26q, e26⟩ := hQ26
  have N26 := Fr.app N19 N26q
  show own_Goes _ _ _ _ T26 (mkF m 28 #[.val (.ref o), .val (.ref b1_0), .val (.int (6 : Int32)), .val (.int (2 : Int32)), .val (.ref w_LESS)] [(.int (0 : Int32))])
  refine own_step (fun t k => XS.ifYes X26.here hx rfl (pc0 := 28) (pc' := 34) rfl (hb hby own_prog_48_method_7_28) rfl ((if0 _ _).trans (teq (show (0 : Int32) = (0 : Int32) from (by decide))).1) (by decide) (by decide) k) ?_
  show own_Goes _ _ _ _ T26 (mkF m 34 #[.val (.ref o), .val (.ref b1_0), .val (.int (6 : Int32)), .val (.int (2 : Int32)), .val (.ref w_LESS)] [])
  refine own_step (fun t k => XS.iinc X26.here hx rfl (hb hby own_prog_48_method_7_34) rfl (l' := #[.val (.ref o), .val (.ref b1_0), .val (.int (6 : Int32)), .val (.int (3 : Int32)), .val (.ref w_LESS)]) rfl k) ?_
  show own_Goes _ _ _ _ T26 (mkF m 37 #[.val (.ref o), .val (.ref b1_0), .val (.int (6 : Int32)), .val (.int (3 : Int32)), .val (.ref w_LESS)] [])
  refine own_step (fun t k => XS.goto X26.here hx rfl (pc0 := 37) (pc' := 9) rfl (hb hby own_prog_48_method_7_37) (by decide) (by decide) k) ?_
  show own_Goes _ _ _ _ T26 (mkF m 9 #[.val (.ref o), .val (.ref b1_0), .val (.int (6 : Int32)), .val (.int (3 : Int32)), .val (.ref w_LESS)] [])
  refine own_step (fun t k => XS.iloadN X26.here hx rfl (hb hby own_prog_48_method_7_9) rfl k) ?_
  show own_Goes _ _ _ _ T26 (mkF m 10 #[.val (.ref o), .val (.ref b1_0), .val (.int (6 : Int32)), .val (.int (3 : Int32)), .val (.ref w_LESS)] [(.int (3 : Int32))])
  refine own_step (fun t k => XS.iloadN X26.here hx rfl (hb hby own_prog_48_method_7_10) rfl k) ?_
  show own_Goes _ _ _ _ T26 (mkF m 11 #[.val (.ref o), .val (.ref b1_0), .val (.int (6 : Int32)), .val (.int (3 : Int32)), .val (.ref w_LESS)] [(.int (6 : Int32)), (.int (3 : Int32))])
  refine own_step (fun t k => XS.icmpNo X26.here hx rfl (hb hby own_prog_48_method_7_11) rfl (tlt (show (3 : Int32) < (6 : Int32) from (by decide))).2.1 k) ?_
  show own_Goes _ _ _ _ T26 (mkF m 14 #[.val (.ref o), .val (.ref b1_0), .val (.int (6 : Int32)), .val (.int (3 : Int32)), .val (.ref w_LESS)] [])
  refine own_step (fun t k => XS.aloadN X26.here hx rfl (hb hby own_prog_48_method_7_14) rfl rfl k) ?_
  show own_Goes _ _ _ _ T26 (mkF m 15 #[.val (.ref o), .val (.ref b1_0), .val (.int (6 : Int32)), .val (.int (3 : Int32)), .val (.ref w_LESS)] [(.ref b1_0)])
  refine own_step (fun t k => XS.iloadN X26.here hx rfl (hb hby own_prog_48_method_7_15) rfl k) ?_
  show own_Goes _ _ _ _ T26 (mkF m 16 #[.val (.ref o), .val (.ref b1_0), .val (.int (6 : Int32)), .val (.int (3 : Int32)), .val (.ref w_LESS)] [(.int (3 : Int32)), (.ref b1_0)])
  refine own_step (own_aaload X26 hx hZ e26 q1_0' rfl (.ref w_LESS_OR_EQUAL) ⟨by decide, by decide⟩ rfl (g := (mkF m 16 #[.val (.ref o), .val (.ref b1_0), .val (.int (6 : Int32)), .val (.int (3 : Int32)), .val (.ref w_LESS)] [(.int (3 : Int32)), (.ref b1_0)])) rfl rfl (hb hby own_prog_48_method_7_16)) ?_
  show own_Goes _ _ _ _ T26 (mkF m 17 #[.val (.ref o), .val (.ref b1_0), .val (.int (6 : Int32)), .val (.int (3 : Int32)), .val (.ref w_LESS)] [(.ref w_LESS_OR_EQUAL)])
  refine own_step (fun t k => XS.astore X26.here hx rfl (hb hby own_prog_48_method_7_17) rfl rfl (l' := #[.val (.ref o), .val (.ref b1_0), .val (.int (6 : Int32)), .val (.int (3 : Int32)), .val (.ref w_LESS_OR_EQUAL)]) rfl k) ?_
  show own_Goes _ _ _ _ T26 (mkF m 19 #[.val (.ref o), .val (.ref b1_0), .val (.int (6 : Int32)), .val (.int (3 : Int32)), .val (.ref w_LESS_OR_EQUAL)] [])
  refine own_step (fun t k => XS.aload X26.here hx rfl (hb hby own_prog_48_method_7_19) rfl rfl k) ?_
  show own_Goes _ _ _ _ T26 (mkF m 21 #[.val (.ref o), .val (.ref b1_0), .val (.int (6 : Int32)), .val (.int (3 : Int32)), .val (.ref w_LESS_OR_EQUAL)] [(.ref w_LESS_OR_EQUAL)])
  have F_w_LESS_OR_EQUAL_symbol_v29 := (F_w_LESS_OR_EQUAL_symbol.keep Kq1 nin0)
  obtain ⟨T28, X28, e28, st28⟩ := getF X26 hx hZ hown (host := "") (Or.inl (hw _ (List.mem_of_getElem? (i := 57) rfl))) Via.refl e26 F_w_LESS_OR_EQUAL_symbol_v29 (g := (mkF m 21 #[.val (.ref o), .val (.ref b1_0), .val (.int (6 : Int32)), .val (.int (3 : Int32)), .val (.ref w_LESS_OR_EQUAL)] [(.ref w_LESS_OR_EQUAL)])) rfl rfl (hb hby own_prog_48_method_7_21)
  refine own_step st28 ?_
  show own_Goes _ _ _ _ T28 (mkF m 24 #[.val (.ref o), .val (.ref b1_0), .val (.int (6 : Int32)), .val (.int (3 : Int32)), .val (.ref w_LESS_OR_EQUAL)] [(.ref y_LESS_OR_EQUAL)])
  refine own_step (fun t k => XS.aloadN X28.here hx rfl (hb hby own_prog_48_method_7_24) rfl rfl k) ?_
  show own_Goes _ _ _ _ T28 (mkF m 25 #[.val (.ref o), .val (.ref b1_0), .val (.int (6 : Int32)), .val (.int (3 : Int32)), .val (.ref w_LESS_OR_EQUAL)] [(.ref o), (.ref y_LESS_OR_EQUAL)])
  have F_y_LESS_OR_EQUAL_coder_v30 := (F_y_LESS_OR_EQUAL_coder.keep Kq1 nin0)
  have F_y_LESS_OR_EQUAL_value_v31 := (F_y_LESS_OR_EQUAL_value.keep Kq1 nin0)
  have V_z_LESS_OR_EQUAL_v32 := (V_z_LESS_OR_EQUAL.keep Kq1 nin0)
  have E_y_LESS_OR_EQUAL_v34 := (E_y_LESS_OR_EQUAL.keep Kq1)
  refine own_callV X28 hx hZ (y := (⟨"java/lang/String", "equals", "(Ljava/lang/Object;)Z"⟩ : MethodName)) (z := (⟨"java/lang/String", "equals", "(Ljava/lang/Object;)Z"⟩ : MethodName)) hown (hw _ (List.mem_of_getElem? (i := 59) rfl)) (hw _ (List.mem_of_getElem? (i := 60) rfl)) (notFace_of_selects (args := #[]) (mvT hZ (hw _ (List.mem_of_getElem? (i := 62) rfl)))) (hw _ (List.mem_of_getElem? (i := 62) rfl)) (hw _ (List.mem_of_getElem? (i := 61) rfl)) (hw _ (List.mem_of_getElem? (i := 63) rfl)) (hw _ (List.mem_of_getElem? (i := 7) rfl)) (by decide) 0 E_y_LESS_OR_EQUAL_v34 [(.ref o)] [] (own_seq_220 l Z a0 hw [] y_LESS_OR_EQUAL o z_LESS_OR_EQUAL vo k_LESS_OR_EQUAL ko (60 : Int32) (61 : Int32) (62 : Int32) (61 : Int32) zc T1.heap n0 (Nat.le_trans Z0 K1.1) E_o_v4 F_y_LESS_OR_EQUAL_coder_v30 F_o_coder_v6 F_y_LESS_OR_EQUAL_value_v31 F_o_value_v8 V_z_LESS_OR_EQUAL_v32 V_vo_v10 S_COMPACT_STRINGS_v11 (by decide) hz neo_LESS_OR_EQUAL) e28 (by decide) (by decide) (by decide) (by decide) (g := (mkF m 25 #[.val (.ref o), .val (.ref b1_0), .val (.int (6 : Int32)), .val (.int (3 : Int32)), .val (.ref w_LESS_OR_EQUAL)] [(.ref o), (.ref y_LESS_OR_EQUAL)])) rfl (by rw [hml]; rfl) own_pd2 rfl rfl (by show 2 * 0 + _ ≤ _; exact Nat.le_of_eq rfl) (hb hby own_prog_48_method_7_25) ?_
  intro T33 v33 L33 X33 hQ33
  obtain ⟨rfl, N33q, e33⟩ := hQ33
  have N33 := Fr.app N26 N33q
  show own_Goes _ _ _ _ T33 (mkF m 28 #[.val (.ref o), .val (.ref b1_0), .val (.int (6 : Int32)), .val (.int (3 : Int32)), .val (.ref w_LESS_OR_EQUAL)] [(.int (0 : Int32))])
  refine own_step (fun t k => XS.ifYes X33.here hx rfl (pc0 := 28) (pc' := 34) rfl (hb hby own_prog_48_method_7_28) rfl ((if0 _ _).trans (teq (show (0 : Int32) = (0 : Int32) from (by decide))).1) (by decide) (by decide) k) ?_
  show own_Goes _ _ _ _ T33 (mkF m 34 #[.val (.ref o), .val (.ref b1_0), .val (.int (6 : Int32)), .val (.int (3 : Int32)), .val (.ref w_LESS_OR_EQUAL)] [])
  refine own_step (fun t k => XS.iinc X33.here hx rfl (hb hby own_prog_48_method_7_34) rfl (l' := #[.val (.ref o), .val (.ref b1_0), .val (.int (6 : Int32)), .val (.int (4 : Int32)), .val (.ref w_LESS_OR_EQUAL)]) rfl k) ?_
  show own_Goes _ _ _ _ T33 (mkF m 37 #[.val (.ref o), .val (.ref b1_0), .val (.int (6 : Int32)), .val (.int (4 : Int32)), .val (.ref w_LESS_OR_EQUAL)] [])
  refine own_step (fun t k => XS.goto X33.here hx rfl (pc0 := 37) (pc' := 9) rfl (hb hby own_prog_48_method_7_37) (by decide) (by decide) k) ?_
  show own_Goes _ _ _ _ T33 (mkF m 9 #[.val (.ref o), .val (.ref b1_0), .val (.int (6 : Int32)), .val (.int (4 : Int32)), .val (.ref w_LESS_OR_EQUAL)] [])
  refine own_step (fun t k => XS.iloadN X33.here hx rfl (hb hby own_prog_48_method_7_9) rfl k) ?_
  show own_Goes _ _ _ _ T33 (mkF m 10 #[.val (.ref o), .val (.ref b1_0), .val (.int (6 : Int32)), .val (.int (4 : Int32)), .val (.ref w_LESS_OR_EQUAL)] [(.int (4 : Int32))])
  refine own_step (fun t k => XS.iloadN X33.here hx rfl (hb hby own_prog_48_method_7_10) rfl k) ?_
  show own_Goes _ _ _ _ T33 (mkF m 11 #[.val (.ref o), .val (.ref b1_0), .val (.int (6 : Int32)), .val (.int (4 : Int32)), .val (.ref w_LESS_OR_EQUAL)] [(.int (6 : Int32)), (.int (4 : Int32))])
  refine own_step (fun t k => XS.icmpNo X33.here hx rfl (hb hby own_prog_48_method_7_11) rfl (tlt (show (4 : Int32) < (6 : Int32) from (by decide))).2.1 k) ?_
  show own_Goes _ _ _ _ T33 (mkF m 14 #[.val (.ref o), .val (.ref b1_0), .val (.int (6 : Int32)), .val (.int (4 : Int32)), .val (.ref w_LESS_OR_EQUAL)] [])
  refine own_step (fun t k => XS.aloadN X33.here hx rfl (hb hby own_prog_48_method_7_14) rfl rfl k) ?_
  show own_Goes _ _ _ _ T33 (mkF m 15 #[.val (.ref o), .val (.ref b1_0), .val (.int (6 : Int32)), .val (.int (4 : Int32)), .val (.ref w_LESS_OR_EQUAL)] [(.ref b1_0)])
  refine own_step (fun t k => XS.iloadN X33.here hx rfl (hb hby own_prog_48_method_7_15) rfl k) ?_
  show own_Goes _ _ _ _ T33 (mkF m 16 #[.val (.ref o), .val (.ref b1_0), .val (.int (6 : Int32)), .val (.int (4 : Int32)), .val (.ref w_LESS_OR_EQUAL)] [(.int (4 : Int32)), (.ref b1_0)])
  refine own_step (own_aaload X33 hx hZ e33 q1_0' rfl (.ref w_GREATER) ⟨by decide, by decide⟩ rfl (g := (mkF m 16 #[.val (.ref o), .val (.ref b1_0), .val (.int (6 : Int32)), .val (.int (4 : Int32)), .val (.ref w_LESS_OR_EQUAL)] [(.int (4 : Int32)), (.ref b1_0)])) rfl rfl (hb hby own_prog_48_method_7_16)) ?_
  show own_Goes _ _ _ _ T33 (mkF m 17 #[.val (.ref o), .val (.ref b1_0), .val (.int (6 : Int32)), .val (.int (4 : Int32)), .val (.ref w_LESS_OR_EQUAL)] [(.ref w_GREATER)])
  refine own_step (fun t k => XS.astore X33.here hx rfl (hb hby own_prog_48_method_7_17) rfl rfl (l' := #[.val (.ref o), .val (.ref b1_0), .val (.int (6 : Int32)), .val (.int (4 : Int32)), .val (.ref w_GREATER)]) rfl k) ?_
  show own_Goes _ _ _ _ T33 (mkF m 19 #[.val (.ref o), .val (.ref b1_0), .val (.int (6 : Int32)), .val (.int (4 : Int32)), .val (.ref w_GREATER)] [])
  refine own_step (fun t k => XS.aload X33.here hx rfl (hb hby own_prog_48_method_7_19) rfl rfl k) ?_
  show own_Goes _ _ _ _ T33 (mkF m 21 #[.val (.ref o), .val (.ref b1_0), .val (.int (6 : Int32)), .val (.int (4 : Int32)), .val (.ref w_GREATER)] [(.ref w_GREATER)])
  have F_w_GREATER_symbol_v36 := (F_w_GREATER_symbol.keep Kq1 nin0)
  obtain ⟨T35, X35, e35, st35⟩ := getF X33 hx hZ hown (host := "") (Or.inl (hw _ (List.mem_of_getElem? (i := 57) rfl))) Via.refl e33 F_w_GREATER_symbol_v36 (g := (mkF m 21 #[.val (.ref o), .val (.ref b1_0), .val (.int (6 : Int32)), .val (.int (4 : Int32)), .val (.ref w_GREATER)] [(.ref w_GREATER)])) rfl rfl (hb hby own_prog_48_method_7_21)
  refine own_step st35 ?_
  show own_Goes _ _ _ _ T35 (mkF m 24 #[.val (.ref o), .val (.ref b1_0), .val (.int (6 : Int32)), .val (.int (4 : Int32)), .val (.ref w_GREATER)] [(.ref y_GREATER)])
  refine own_step (fun t k => XS.aloadN X35.here hx rfl (hb hby own_prog_48_method_7_24) rfl rfl k) ?_
  show own_Goes _ _ _ _ T35 (mkF m 25 #[.val (.ref o), .val (.ref b1_0), .val (.int (6 : Int32)), .val (.int (4 : Int32)), .val (.ref w_GREATER)] [(.ref o), (.ref y_GREATER)])
  have F_y_GREATER_coder_v37 := (F_y_GREATER_coder.keep Kq1 nin0)
  have F_y_GREATER_value_v38 := (F_y_GREATER_value.keep Kq1 nin0)
  have V_z_GREATER_v39 := (V_z_GREATER.keep Kq1 nin0)
  have E_y_GREATER_v41 := (E_y_GREATER.keep Kq1)
  refine own_callV X35 hx hZ (y := (⟨"java/lang/String", "equals", "(Ljava/lang/Object;)Z"⟩ : MethodName)) (z := (⟨"java/lang/String", "equals", "(Ljava/lang/Object;)Z"⟩ : MethodName)) hown (hw _ (List.mem_of_getElem? (i := 59) rfl)) (hw _ (List.mem_of_getElem? (i := 60) rfl)) (notFace_of_selects (args := #[]) (mvT hZ (hw _ (List.mem_of_getElem? (i := 62) rfl)))) (hw _ (List.mem_of_getElem? (i := 62) rfl)) (hw _ (List.mem_of_getElem? (i := 61) rfl)) (hw _ (List.mem_of_getElem? (i := 63) rfl)) (hw _ (List.mem_of_getElem? (i := 7) rfl)) (by decide) 0 E_y_GREATER_v41 [(.ref o)] [] (own_seq_12len l Z a0 hw [] y_GREATER o z_GREATER vo k_GREATER ko (62 : Int32) (62 : Int32) (61 : Int32) zc T1.heap n0 (Nat.le_trans Z0 K1.1) E_o_v4 F_y_GREATER_coder_v37 F_o_coder_v6 F_y_GREATER_value_v38 F_o_value_v8 V_z_GREATER_v39 V_vo_v10 S_COMPACT_STRINGS_v11 hz neo_GREATER) e35 (by decide) (by decide) (by decide) (by decide) (g := (mkF m 25 #[.val (.ref o), .val (.ref b1_0), .val (.int (6 : Int32)), .val (.int (4 : Int32)), .val (.ref w_GREATER)] [(.ref o), (.ref y_GREATER)])) rfl (by rw [hml]; rfl) own_pd2 rfl rfl (by show 2 * 0 + _ ≤ _; exact Nat.le_of_eq rfl) (hb hby own_prog_48_method_7_25) ?_
  intro T40 v40 L40 X40 hQ40
  obtain ⟨rfl, N40q, e40⟩ := hQ40
  have N40 := Fr.app N33 N40q
  show own_Goes _ _ _ _ T40 (mkF m 28 #[.val (.ref o), .val (.ref b1_0), .val (.int (6 : Int32)), .val (.int (4 : Int32)), .val (.ref w_GREATER)] [(.int (0 : Int32))])
  refine own_step (fun t k => XS.ifYes X40.here hx rfl (pc0 := 28) (pc' := 34) rfl (hb hby own_prog_48_method_7_28) rfl ((if0 _ _).trans (teq (show (0 : Int32) = (0 : Int32) from (by decide))).1) (by decide) (by decide) k) ?_
  show own_Goes _ _ _ _ T40 (mkF m 34 #[.val (.ref o), .val (.ref b1_0), .val (.int (6 : Int32)), .val (.int (4 : Int32)), .val (.ref w_GREATER)] [])
  refine own_step (fun t k => XS.iinc X40.here hx rfl (hb hby own_prog_48_method_7_34) rfl (l' := #[.val (.ref o), .val (.ref b1_0), .val (.int (6 : Int32)), .val (.int (5 : Int32)), .val (.ref w_GREATER)]) rfl k) ?_
  show own_Goes _ _ _ _ T40 (mkF m 37 #[.val (.ref o), .val (.ref b1_0), .val (.int (6 : Int32)), .val (.int (5 : Int32)), .val (.ref w_GREATER)] [])
  refine own_step (fun t k => XS.goto X40.here hx rfl (pc0 := 37) (pc' := 9) rfl (hb hby own_prog_48_method_7_37) (by decide) (by decide) k) ?_
  show own_Goes _ _ _ _ T40 (mkF m 9 #[.val (.ref o), .val (.ref b1_0), .val (.int (6 : Int32)), .val (.int (5 : Int32)), .val (.ref w_GREATER)] [])
  refine own_step (fun t k => XS.iloadN X40.here hx rfl (hb hby own_prog_48_method_7_9) rfl k) ?_
  show own_Goes _ _ _ _ T40 (mkF m 10 #[.val (.ref o), .val (.ref b1_0), .val (.int (6 : Int32)), .val (.int (5 : Int32)), .val (.ref w_GREATER)] [(.int (5 : Int32))])
  refine own_step (fun t k => XS.iloadN X40.here hx rfl (hb hby own_prog_48_method_7_10) rfl k) ?_
  show own_Goes _ _ _ _ T40 (mkF m 11 #[.val (.ref o), .val (.ref b1_0), .val (.int (6 : Int32)), .val (.int (5 : Int32)), .val (.ref w_GREATER)] [(.int (6 : Int32)), (.int (5 : Int32))])
  refine own_step (fun t k => XS.icmpNo X40.here hx rfl (hb hby own_prog_48_method_7_11) rfl (tlt (show (5 : Int32) < (6 : Int32) from (by decide))).2.1 k) ?_
  show own_Goes _ _ _ _ T40 (mkF m 14 #[.val (.ref o), .val (.ref b1_0), .val (.int (6 : Int32)), .val (.int (5 : Int32)), .val (.ref w_GREATER)] [])
  refine own_step (fun t k => XS.aloadN X40.here hx rfl (hb hby own_prog_48_method_7_14) rfl rfl k) ?_
  show own_Goes _ _ _ _ T40 (mkF m 15 #[.val (.ref o), .val (.ref b1_0), .val (.int (6 : Int32)), .val (.int (5 : Int32)), .val (.ref w_GREATER)] [(.ref b1_0)])
  refine own_step (fun t k => XS.iloadN X40.here hx rfl (hb hby own_prog_48_method_7_15) rfl k) ?_
  show own_Goes _ _ _ _ T40 (mkF m 16 #[.val (.ref o), .val (.ref b1_0), .val (.int (6 : Int32)), .val (.int (5 : Int32)), .val (.ref w_GREATER)] [(.int (5 : Int32)), (.ref b1_0)])
  refine own_step (own_aaload X40 hx hZ e40 q1_0' rfl (.ref w_GREATER_OR_EQUAL) ⟨by decide, by decide⟩ rfl (g := (mkF m 16 #[.val (.ref o), .val (.ref b1_0), .val (.int (6 : Int32)), .val (.int (5 : Int32)), .val (.ref w_GREATER)] [(.int (5 : Int32)), (.ref b1_0)])) rfl rfl (hb hby own_prog_48_method_7_16)) ?_
  show own_Goes _ _ _ _ T40 (mkF m 17 #[.val (.ref o), .val (.ref b1_0), .val (.int (6 : Int32)), .val (.int (5 : Int32)), .val (.ref w_GREATER)] [(.ref w_GREATER_OR_EQUAL)])
  refine own_step (fun t k => XS.astore X40.here hx rfl (hb hby own_prog_48_method_7_17) rfl rfl (l' := #[.val (.ref o), .val (.ref b1_0), .val (.int (6 : Int32)), .val (.int (5 : Int32)), .val (.ref w_GREATER_OR_EQUAL)]) rfl k) ?_
  show own_Goes _ _ _ _ T40 (mkF m 19 #[.val (.ref o), .val (.ref b1_0), .val (.int (6 : Int32)), .val (.int (5 : Int32)), .val (.ref w_GREATER_OR_EQUAL)] [])
  refine own_step (fun t k => XS.aload X40.here hx rfl (hb hby own_prog_48_method_7_19) rfl rfl k) ?_
  show own_Goes _ _ _ _ T40 (mkF m 21 #[.val (.ref o), .val (.ref b1_0), .val (.int (6 : Int32)), .val (.int (5 : Int32)), .val (.ref w_GREATER_OR_EQUAL)] [(.ref w_GREATER_OR_EQUAL)])
  have F_w_GREATER_OR_EQUAL_symbol_v43 := (F_w_GREATER_OR_EQUAL_symbol.keep Kq1 nin0)
  obtain ⟨T42, X42, e42, st42⟩ := getF X40 hx hZ hown (host := "") (Or.inl (hw _ (List.mem_of_getElem? (i := 57) rfl))) Via.refl e40 F_w_GREATER_OR_EQUAL_symbol_v43 (g := (mkF m 21 #[.val (.ref o), .val (.ref b1_0), .val (.int (6 : Int32)), .val (.int (5 : Int32)), .val (.ref w_GREATER_OR_EQUAL)] [(.ref w_GREATER_OR_EQUAL)])) rfl rfl (hb hby own_prog_48_method_7_21)
  refine own_step st42 ?_
  show own_Goes _ _ _ _ T42 (mkF m 24 #[.val (.ref o), .val (.ref b1_0), .val (.int (6 : Int32)), .val (.int (5 : Int32)), .val (.ref w_GREATER_OR_EQUAL)] [(.ref y_GREATER_OR_EQUAL)])
  refine own_step (fun t k => XS.aloadN X42.here hx rfl (hb hby own_prog_48_method_7_24) rfl rfl k) ?_
  show own_Goes _ _ _ _ T42 (mkF m 25 #[.val (.ref o), .val (.ref b1_0), .val (.int (6 : Int32)), .val (.int (5 : Int32)), .val (.ref w_GREATER_OR_EQUAL)] [(.ref o), (.ref y_GREATER_OR_EQUAL)])
  have F_y_GREATER_OR_EQUAL_coder_v44 := (F_y_GREATER_OR_EQUAL_coder.keep Kq1 nin0)
  have F_y_GREATER_OR_EQUAL_value_v45 := (F_y_GREATER_OR_EQUAL_value.keep Kq1 nin0)
  have V_z_GREATER_OR_EQUAL_v46 := (V_z_GREATER_OR_EQUAL.keep Kq1 nin0)
  have E_y_GREATER_OR_EQUAL_v48 := (E_y_GREATER_OR_EQUAL.keep Kq1)
  refine own_callV X42 hx hZ (y := (⟨"java/lang/String", "equals", "(Ljava/lang/Object;)Z"⟩ : MethodName)) (z := (⟨"java/lang/String", "equals", "(Ljava/lang/Object;)Z"⟩ : MethodName)) hown (hw _ (List.mem_of_getElem? (i := 59) rfl)) (hw _ (List.mem_of_getElem? (i := 60) rfl)) (notFace_of_selects (args := #[]) (mvT hZ (hw _ (List.mem_of_getElem? (i := 62) rfl)))) (hw _ (List.mem_of_getElem? (i := 62) rfl)) (hw _ (List.mem_of_getElem? (i := 61) rfl)) (hw _ (List.mem_of_getElem? (i := 63) rfl)) (hw _ (List.mem_of_getElem? (i := 7) rfl)) (by decide) 0 E_y_GREATER_OR_EQUAL_v48 [(.ref o)] [] (own_seq_22eq l Z a0 hw [] y_GREATER_OR_EQUAL o z_GREATER_OR_EQUAL vo k_GREATER_OR_EQUAL ko (62 : Int32) (61 : Int32) (62 : Int32) (61 : Int32) zc T1.heap n0 (Nat.le_trans Z0 K1.1) E_o_v4 F_y_GREATER_OR_EQUAL_coder_v44 F_o_coder_v6 F_y_GREATER_OR_EQUAL_value_v45 F_o_value_v8 V_z_GREATER_OR_EQUAL_v46 V_vo_v10 S_COMPACT_STRINGS_v11 (by decide) (by decide) hz neo_GREATER_OR_EQUAL) e42 (by decide) (by decide) (by decide) (by decide) (g := (mkF m 25 #[.val (.ref o), .val (.ref b1_0), .val (.int (6 : Int32)), .val (.int (5 : Int32)), .val (.ref w_GREATER_OR_EQUAL)] [(.ref o), (.ref y_GREATER_OR_EQUAL)])) rfl (by rw [hml]; rfl) own_pd2 rfl rfl (by show 2 * 0 + _ ≤ _; exact Nat.le_of_eq rfl) (hb hby own_prog_48_method_7_25) ?_
  intro T47 v47 L47 X47 hQ47
  obtain ⟨rfl, N47q, e47⟩ := hQ47
  have N47 := Fr.app N40 N47q
  show own_Goes _ _ _ _ T47 (mkF m 28 #[.val (.ref o), .val (.ref b1_0), .val (.int (6 : Int32)), .val (.int (5 : Int32)), .val (.ref w_GREATER_OR_EQUAL)] [(.int (1 : Int32))])
  refine own_step (fun t k => XS.ifNo X47.here hx rfl (hb hby own_prog_48_method_7_28) rfl ((if0 _ _).trans (feq (show ¬ ((1 : Int32) = (0 : Int32)) from (by decide))).1) k) ?_
  show own_Goes _ _ _ _ T47 (mkF m 31 #[.val (.ref o), .val (.ref b1_0), .val (.int (6 : Int32)), .val (.int (5 : Int32)), .val (.ref w_GREATER_OR_EQUAL)] [])
  refine own_step (fun t k => XS.aload X47.here hx rfl (hb hby own_prog_48_method_7_31) rfl rfl k) ?_
  show own_Goes _ _ _ _ T47 (mkF m 33 #[.val (.ref o), .val (.ref b1_0), .val (.int (6 : Int32)), .val (.int (5 : Int32)), .val (.ref w_GREATER_OR_EQUAL)] [(.ref w_GREATER_OR_EQUAL)])
  exact own_retA X47 hx hlk hrt rfl rfl rfl (hb hby own_prog_48_method_7_33) (by rw [e47]; exact ⟨rfl, N47, K1⟩) (by decide) (by decide)
theorem own_mod (x : Int32) : ((x &&& (2147483647 : Int32)) - ((x &&& (2147483647 : Int32)) / (6 : Int32)) * (6 : Int32)) = (0 : Int32) ∨ ((x &&& (2147483647 : Int32)) - ((x &&& (2147483647 : Int32)) / (6 : Int32)) * (6 : Int32)) = (1 : Int32) ∨ ((x &&& (2147483647 : Int32)) - ((x &&& (2147483647 : Int32)) / (6 : Int32)) * (6 : Int32)) = (2 : Int32) ∨ ((x &&& (2147483647 : Int32)) - ((x &&& (2147483647 : Int32)) / (6 : Int32)) * (6 : Int32)) = (3 : Int32) ∨ ((x &&& (2147483647 : Int32)) - ((x &&& (2147483647 : Int32)) / (6 : Int32)) * (6 : Int32)) = (4 : Int32) ∨ ((x &&& (2147483647 : Int32)) - ((x &&& (2147483647 : Int32)) / (6 : Int32)) * (6 : Int32)) = (5 : Int32) := by
  rw [irem_eq_mod]
  have h1 := c_mask x (2147483647 : Int32) 31 (by decide) (by decide)
  have h2 := (c_irem (x &&& (2147483647 : Int32)) (6 : Int32) 6 (by decide)).1 (by rw [h1]; omega)
  have h3 : 0 ≤ ((x &&& (2147483647 : Int32)) % (6 : Int32)).toInt ∧ ((x &&& (2147483647 : Int32)) % (6 : Int32)).toInt < 6 := by rw [h2]; omega
  generalize (x &&& (2147483647 : Int32)) % (6 : Int32) = t at *
  have key : ∀ n : Int32, t.toInt = n.toInt → t = n := fun n h => Int32.toInt_inj.mp h
  have e0 : (0 : Int32).toInt = 0 := by decide
  have e1 : (1 : Int32).toInt = 1 := by decide
  have e2 : (2 : Int32).toInt = 2 := by decide
  have e3 : (3 : Int32).toInt = 3 := by decide
  have e4 : (4 : Int32).toInt = 4 := by decide
  have e5 : (5 : Int32).toInt = 5 := by decide
  have q : t.toInt = (0 : Int32).toInt ∨ t.toInt = (1 : Int32).toInt ∨ t.toInt = (2 : Int32).toInt ∨ t.toInt = (3 : Int32).toInt ∨ t.toInt = (4 : Int32).toInt ∨ t.toInt = (5 : Int32).toInt := by omega
  rcases q with h | h | h | h | h | h
  · exact Or.inl (key _ h)
  · exact Or.inr (Or.inl (key _ h))
  · exact Or.inr (Or.inr (Or.inl (key _ h)))
  · exact Or.inr (Or.inr (Or.inr (Or.inl (key _ h))))
  · exact Or.inr (Or.inr (Or.inr (Or.inr (Or.inl (key _ h)))))
  · exact Or.inr (Or.inr (Or.inr (Or.inr (Or.inr (key _ h)))))
theorem own_tri (x : Int32) : (x < (0 : Int32) ∧ ¬ (x = (0 : Int32)) ∧ ¬ ((0 : Int32) < x)) ∨ (¬ (x < (0 : Int32)) ∧ x = (0 : Int32) ∧ ¬ ((0 : Int32) < x)) ∨ (¬ (x < (0 : Int32)) ∧ ¬ (x = (0 : Int32)) ∧ (0 : Int32) < x) := by
  simp only [Int32.lt_iff_toInt_lt, ← Int32.toInt_inj]
  have e0 : (0 : Int32).toInt = 0 := by decide
  omega
theorem own_pn_java_lang_StringUTF16 : plainName "java/lang/StringUTF16" = true := by first | (simp [plainName, overriddenIn]; done) | decide +kernel
theorem own_ef6 (m : MethodId) (x0 : Addr) (x1 : Int32) (x2 : Addr) (x3 : Int32) (x4 : Int32) : entryFrame m #[(.ref x0), (.int x1), (.ref x2), (.int x3), (.int x4)] 7 = mkF m 0 #[.val (.ref x0), .val (.int x1), .val (.ref x2), .val (.int x3), .val (.int x4), .unset, .unset] [] := by first | (simp [entryFrame, mkF, argsToLocals, Value.category]; done) | rfl
theorem own_jdk_52_method_21_0 : decode jdk_52_method_21_code 0 = .ok (.iconst 0, 1) := by decide +kernel
theorem own_jdk_52_method_21_1 : decode jdk_52_method_21_code 1 = .ok (.istore 5, 2) := by decide +kernel
theorem own_jdk_52_method_21_3 : decode jdk_52_method_21_code 3 = .ok (.iload 5, 2) := by decide +kernel
theorem own_jdk_52_method_21_5 : decode jdk_52_method_21_code 5 = .ok (.iload 4, 2) := by decide +kernel
theorem own_jdk_52_method_21_7 : decode jdk_52_method_21_code 7 = .ok (.if_icmp .ge 37, 3) := by decide +kernel
theorem own_jdk_52_method_21_10 : decode jdk_52_method_21_code 10 = .ok (.aload_n 0, 1) := by decide +kernel
theorem own_jdk_52_method_21_11 : decode jdk_52_method_21_code 11 = .ok (.iload_n 1, 1) := by decide +kernel
theorem own_jdk_52_method_21_12 : decode jdk_52_method_21_code 12 = .ok (.caload, 1) := by decide +kernel
theorem own_jdk_52_method_21_13 : decode jdk_52_method_21_code 13 = .ok (.istore 6, 2) := by decide +kernel
theorem own_jdk_52_method_21_15 : decode jdk_52_method_21_code 15 = .ok (.iload 6, 2) := by decide +kernel
theorem own_jdk_52_method_21_17 : decode jdk_52_method_21_code 17 = .ok (.sipush 255, 3) := by decide +kernel
theorem own_jdk_52_method_21_20 : decode jdk_52_method_21_code 20 = .ok (.if_icmp .le 6, 3) := by decide +kernel
theorem own_jdk_52_method_21_26 : decode jdk_52_method_21_code 26 = .ok (.aload_n 2, 1) := by decide +kernel
theorem own_jdk_52_method_21_27 : decode jdk_52_method_21_code 27 = .ok (.iload_n 3, 1) := by decide +kernel
theorem own_jdk_52_method_21_28 : decode jdk_52_method_21_code 28 = .ok (.iload 6, 2) := by decide +kernel
theorem own_jdk_52_method_21_30 : decode jdk_52_method_21_code 30 = .ok (.i2b, 1) := by decide +kernel
theorem own_jdk_52_method_21_31 : decode jdk_52_method_21_code 31 = .ok (.bastore, 1) := by decide +kernel
theorem own_jdk_52_method_21_32 : decode jdk_52_method_21_code 32 = .ok (.iinc 1 1, 3) := by decide +kernel
theorem own_jdk_52_method_21_35 : decode jdk_52_method_21_code 35 = .ok (.iinc 3 1, 3) := by decide +kernel
theorem own_jdk_52_method_21_38 : decode jdk_52_method_21_code 38 = .ok (.iinc 5 1, 3) := by decide +kernel
theorem own_jdk_52_method_21_41 : decode jdk_52_method_21_code 41 = .ok (.goto (-38), 3) := by decide +kernel
theorem own_jdk_52_method_21_44 : decode jdk_52_method_21_code 44 = .ok (.iload 4, 2) := by decide +kernel
theorem own_jdk_52_method_21_46 : decode jdk_52_method_21_code 46 = .ok (.ireturn, 1) := by decide +kernel
set_option maxRecDepth 65536 in
set_option maxHeartbeats 40000000 in
theorem own_comp5_2 (l : Launch) (Z : State) (a0 : Array Value) (hw : ∀ d ∈ tables_1, d.before a0 Z = true) (ws : List Jvm.Cond) (sr : Addr) (dr : Addr) (ks : ClassId) (kd : ClassId) (c0 : Int32) (c1 : Int32) (h0 : Heap) (n0 : Nat) (Z0 : n0 ≤ h0.size) (V_sr : Arv Z h0 sr ks .char (2 : Int32) [(.int c0), (.int c1)] (.int (0 : Int32))) (V_dr : Arv Z h0 dr kd .byte (2 : Int32) [(.int (0 : Int32)), (.int (0 : Int32))] (.int (0 : Int32))) (hc0 : ¬ ((255 : Int32) < c0)) (hc1 : ¬ ((255 : Int32) < c1)) (nesd : ¬ (sr = dr)) (g_dr : n0 ≤ dr) :
    own_Met l Z (⟨"java/lang/StringUTF16", "compress", "([CI[BII)I"⟩ : MethodName) jdk_52_method_21_code 7 (some .int) ws ({ frames := 0, cells := 0, slots := 0, locals := 0 } : Room) #[(.ref sr), (.int (0 : Int32)), (.ref dr), (.int (0 : Int32)), (.int (2 : Int32))] h0 (fun v h L => v = some (.int (2 : Int32)) ∧ Fr n0 L ∧ Keep h0 h [dr] ∧ Arv Z h dr kd .byte (2 : Int32) [(.int (c0.toInt8.toInt32)), (.int (c1.toInt8.toInt32))] (.int (0 : Int32))) := by
  refine own_body (plainFor_of_name own_pn_java_lang_StringUTF16) (fun p e s m below meth c s₁ hx hby hml0 hrt hlk hown0 hnm hZ X0 e0 => ?_)
  have N0 := Fr.nil n0
  have hown : s.vm.findClass "java/lang/StringUTF16" = some m.cls := hown0
  have hml : c.maxLocals = 7 := hml0
  refine own_castG (own_ef6 m sr (0 : Int32) dr (0 : Int32) (2 : Int32)) ?_
  show own_Goes _ _ _ _ s₁ (mkF m 0 #[.val (.ref sr), .val (.int (0 : Int32)), .val (.ref dr), .val (.int (0 : Int32)), .val (.int (2 : Int32)), .unset, .unset] [])
  refine own_step (fun t k => XS.iconst X0.here hx rfl (hb hby own_jdk_52_method_21_0) k) ?_
  show own_Goes _ _ _ _ s₁ (mkF m 1 #[.val (.ref sr), .val (.int (0 : Int32)), .val (.ref dr), .val (.int (0 : Int32)), .val (.int (2 : Int32)), .unset, .unset] [(.int (0 : Int32))])
  refine own_step (fun t k => XS.istore X0.here hx rfl (hb hby own_jdk_52_method_21_1) rfl (l' := #[.val (.ref sr), .val (.int (0 : Int32)), .val (.ref dr), .val (.int (0 : Int32)), .val (.int (2 : Int32)), .val (.int (0 : Int32)), .unset]) rfl k) ?_
  show own_Goes _ _ _ _ s₁ (mkF m 3 #[.val (.ref sr), .val (.int (0 : Int32)), .val (.ref dr), .val (.int (0 : Int32)), .val (.int (2 : Int32)), .val (.int (0 : Int32)), .unset] [])
  refine own_step (fun t k => XS.iload X0.here hx rfl (hb hby own_jdk_52_method_21_3) rfl k) ?_
  show own_Goes _ _ _ _ s₁ (mkF m 5 #[.val (.ref sr), .val (.int (0 : Int32)), .val (.ref dr), .val (.int (0 : Int32)), .val (.int (2 : Int32)), .val (.int (0 : Int32)), .unset] [(.int (0 : Int32))])
  refine own_step (fun t k => XS.iload X0.here hx rfl (hb hby own_jdk_52_method_21_5) rfl k) ?_
  show own_Goes _ _ _ _ s₁ (mkF m 7 #[.val (.ref sr), .val (.int (0 : Int32)), .val (.ref dr), .val (.int (0 : Int32)), .val (.int (2 : Int32)), .val (.int (0 : Int32)), .unset] [(.int (2 : Int32)), (.int (0 : Int32))])
  refine own_step (fun t k => XS.icmpNo X0.here hx rfl (hb hby own_jdk_52_method_21_7) rfl (tlt (show (0 : Int32) < (2 : Int32) from (by decide))).2.1 k) ?_
  show own_Goes _ _ _ _ s₁ (mkF m 10 #[.val (.ref sr), .val (.int (0 : Int32)), .val (.ref dr), .val (.int (0 : Int32)), .val (.int (2 : Int32)), .val (.int (0 : Int32)), .unset] [])
  refine own_step (fun t k => XS.aloadN X0.here hx rfl (hb hby own_jdk_52_method_21_10) rfl rfl k) ?_
  show own_Goes _ _ _ _ s₁ (mkF m 11 #[.val (.ref sr), .val (.int (0 : Int32)), .val (.ref dr), .val (.int (0 : Int32)), .val (.int (2 : Int32)), .val (.int (0 : Int32)), .unset] [(.ref sr)])
  refine own_step (fun t k => XS.iloadN X0.here hx rfl (hb hby own_jdk_52_method_21_11) rfl k) ?_
  show own_Goes _ _ _ _ s₁ (mkF m 12 #[.val (.ref sr), .val (.int (0 : Int32)), .val (.ref dr), .val (.int (0 : Int32)), .val (.int (2 : Int32)), .val (.int (0 : Int32)), .unset] [(.int (0 : Int32)), (.ref sr)])
  refine own_step (own_caload X0 hx hZ e0 V_sr (.int c0) ⟨by decide, by decide⟩ rfl (g := (mkF m 12 #[.val (.ref sr), .val (.int (0 : Int32)), .val (.ref dr), .val (.int (0 : Int32)), .val (.int (2 : Int32)), .val (.int (0 : Int32)), .unset] [(.int (0 : Int32)), (.ref sr)])) rfl rfl (hb hby own_jdk_52_method_21_12)) ?_
  show own_Goes _ _ _ _ s₁ (mkF m 13 #[.val (.ref sr), .val (.int (0 : Int32)), .val (.ref dr), .val (.int (0 : Int32)), .val (.int (2 : Int32)), .val (.int (0 : Int32)), .unset] [(.int c0)])
  refine own_step (fun t k => XS.istore X0.here hx rfl (hb hby own_jdk_52_method_21_13) rfl (l' := #[.val (.ref sr), .val (.int (0 : Int32)), .val (.ref dr), .val (.int (0 : Int32)), .val (.int (2 : Int32)), .val (.int (0 : Int32)), .val (.int c0)]) rfl k) ?_
  show own_Goes _ _ _ _ s₁ (mkF m 15 #[.val (.ref sr), .val (.int (0 : Int32)), .val (.ref dr), .val (.int (0 : Int32)), .val (.int (2 : Int32)), .val (.int (0 : Int32)), .val (.int c0)] [])
  refine own_step (fun t k => XS.iload X0.here hx rfl (hb hby own_jdk_52_method_21_15) rfl k) ?_
  show own_Goes _ _ _ _ s₁ (mkF m 17 #[.val (.ref sr), .val (.int (0 : Int32)), .val (.ref dr), .val (.int (0 : Int32)), .val (.int (2 : Int32)), .val (.int (0 : Int32)), .val (.int c0)] [(.int c0)])
  refine own_step (fun t k => XS.sipush X0.here hx rfl (hb hby own_jdk_52_method_21_17) k) ?_
  show own_Goes _ _ _ _ s₁ (mkF m 20 #[.val (.ref sr), .val (.int (0 : Int32)), .val (.ref dr), .val (.int (0 : Int32)), .val (.int (2 : Int32)), .val (.int (0 : Int32)), .val (.int c0)] [(.int (255 : Int32)), (.int c0)])
  refine own_step (fun t k => XS.icmpYes X0.here hx rfl (pc0 := 20) (pc' := 26) rfl (hb hby own_jdk_52_method_21_20) rfl (flt (show ¬ ((255 : Int32) < c0) from hc0)).2.2.2 (by decide) (by decide) k) ?_
  show own_Goes _ _ _ _ s₁ (mkF m 26 #[.val (.ref sr), .val (.int (0 : Int32)), .val (.ref dr), .val (.int (0 : Int32)), .val (.int (2 : Int32)), .val (.int (0 : Int32)), .val (.int c0)] [])
  refine own_step (fun t k => XS.aloadN X0.here hx rfl (hb hby own_jdk_52_method_21_26) rfl rfl k) ?_
  show own_Goes _ _ _ _ s₁ (mkF m 27 #[.val (.ref sr), .val (.int (0 : Int32)), .val (.ref dr), .val (.int (0 : Int32)), .val (.int (2 : Int32)), .val (.int (0 : Int32)), .val (.int c0)] [(.ref dr)])
  refine own_step (fun t k => XS.iloadN X0.here hx rfl (hb hby own_jdk_52_method_21_27) rfl k) ?_
  show own_Goes _ _ _ _ s₁ (mkF m 28 #[.val (.ref sr), .val (.int (0 : Int32)), .val (.ref dr), .val (.int (0 : Int32)), .val (.int (2 : Int32)), .val (.int (0 : Int32)), .val (.int c0)] [(.int (0 : Int32)), (.ref dr)])
  refine own_step (fun t k => XS.iload X0.here hx rfl (hb hby own_jdk_52_method_21_28) rfl k) ?_
  show own_Goes _ _ _ _ s₁ (mkF m 30 #[.val (.ref sr), .val (.int (0 : Int32)), .val (.ref dr), .val (.int (0 : Int32)), .val (.int (2 : Int32)), .val (.int (0 : Int32)), .val (.int c0)] [(.int c0), (.int (0 : Int32)), (.ref dr)])
  refine own_step (fun t k => XS.i2b X0.here hx rfl (hb hby own_jdk_52_method_21_30) rfl k) ?_
  show own_Goes _ _ _ _ s₁ (mkF m 31 #[.val (.ref sr), .val (.int (0 : Int32)), .val (.ref dr), .val (.int (0 : Int32)), .val (.int (2 : Int32)), .val (.int (0 : Int32)), .val (.int c0)] [(.int (c0.toInt8.toInt32)), (.int (0 : Int32)), (.ref dr)])
  obtain ⟨T1, h1, X1, e1, W1, V1, st1⟩ := own_bastore X0 hx hZ e0 V_dr (x := (c0.toInt8.toInt32)) (c0.toInt8.toInt32) (own_b8 _) (j := (0 : Int32)) ⟨by decide, by decide⟩ 0 rfl (Nat.le_of_ble_eq_true rfl) (g := (mkF m 31 #[.val (.ref sr), .val (.int (0 : Int32)), .val (.ref dr), .val (.int (0 : Int32)), .val (.int (2 : Int32)), .val (.int (0 : Int32)), .val (.int c0)] [(.int (c0.toInt8.toInt32)), (.int (0 : Int32)), (.ref dr)])) rfl rfl (hb hby own_jdk_52_method_21_31)
  refine own_step st1 ?_
  have K1 := (Keep.refl h0 [dr]).wr W1 (Or.inl (List.mem_of_getElem? (i := 0) rfl))
  have N1 := Fr.snoc X1 N0 g_dr
  have V1' : Arv Z h1 dr kd .byte (2 : Int32) [(.int (c0.toInt8.toInt32)), (.int (0 : Int32))] (.int (0 : Int32)) := V1
  show own_Goes _ _ _ _ T1 (mkF m 32 #[.val (.ref sr), .val (.int (0 : Int32)), .val (.ref dr), .val (.int (0 : Int32)), .val (.int (2 : Int32)), .val (.int (0 : Int32)), .val (.int c0)] [])
  refine own_step (fun t k => XS.iinc X1.here hx rfl (hb hby own_jdk_52_method_21_32) rfl (l' := #[.val (.ref sr), .val (.int (1 : Int32)), .val (.ref dr), .val (.int (0 : Int32)), .val (.int (2 : Int32)), .val (.int (0 : Int32)), .val (.int c0)]) rfl k) ?_
  show own_Goes _ _ _ _ T1 (mkF m 35 #[.val (.ref sr), .val (.int (1 : Int32)), .val (.ref dr), .val (.int (0 : Int32)), .val (.int (2 : Int32)), .val (.int (0 : Int32)), .val (.int c0)] [])
  refine own_step (fun t k => XS.iinc X1.here hx rfl (hb hby own_jdk_52_method_21_35) rfl (l' := #[.val (.ref sr), .val (.int (1 : Int32)), .val (.ref dr), .val (.int (1 : Int32)), .val (.int (2 : Int32)), .val (.int (0 : Int32)), .val (.int c0)]) rfl k) ?_
  show own_Goes _ _ _ _ T1 (mkF m 38 #[.val (.ref sr), .val (.int (1 : Int32)), .val (.ref dr), .val (.int (1 : Int32)), .val (.int (2 : Int32)), .val (.int (0 : Int32)), .val (.int c0)] [])
  refine own_step (fun t k => XS.iinc X1.here hx rfl (hb hby own_jdk_52_method_21_38) rfl (l' := #[.val (.ref sr), .val (.int (1 : Int32)), .val (.ref dr), .val (.int (1 : Int32)), .val (.int (2 : Int32)), .val (.int (1 : Int32)), .val (.int c0)]) rfl k) ?_
  show own_Goes _ _ _ _ T1 (mkF m 41 #[.val (.ref sr), .val (.int (1 : Int32)), .val (.ref dr), .val (.int (1 : Int32)), .val (.int (2 : Int32)), .val (.int (1 : Int32)), .val (.int c0)] [])
  refine own_step (fun t k => XS.goto X1.here hx rfl (pc0 := 41) (pc' := 3) rfl (hb hby own_jdk_52_method_21_41) (by decide) (by decide) k) ?_
  show own_Goes _ _ _ _ T1 (mkF m 3 #[.val (.ref sr), .val (.int (1 : Int32)), .val (.ref dr), .val (.int (1 : Int32)), .val (.int (2 : Int32)), .val (.int (1 : Int32)), .val (.int c0)] [])
  refine own_step (fun t k => XS.iload X1.here hx rfl (hb hby own_jdk_52_method_21_3) rfl k) ?_
  show own_Goes _ _ _ _ T1 (mkF m 5 #[.val (.ref sr), .val (.int (1 : Int32)), .val (.ref dr), .val (.int (1 : Int32)), .val (.int (2 : Int32)), .val (.int (1 : Int32)), .val (.int c0)] [(.int (1 : Int32))])
  refine own_step (fun t k => XS.iload X1.here hx rfl (hb hby own_jdk_52_method_21_5) rfl k) ?_
  show own_Goes _ _ _ _ T1 (mkF m 7 #[.val (.ref sr), .val (.int (1 : Int32)), .val (.ref dr), .val (.int (1 : Int32)), .val (.int (2 : Int32)), .val (.int (1 : Int32)), .val (.int c0)] [(.int (2 : Int32)), (.int (1 : Int32))])
  refine own_step (fun t k => XS.icmpNo X1.here hx rfl (hb hby own_jdk_52_method_21_7) rfl (tlt (show (1 : Int32) < (2 : Int32) from (by decide))).2.1 k) ?_
  show own_Goes _ _ _ _ T1 (mkF m 10 #[.val (.ref sr), .val (.int (1 : Int32)), .val (.ref dr), .val (.int (1 : Int32)), .val (.int (2 : Int32)), .val (.int (1 : Int32)), .val (.int c0)] [])
  refine own_step (fun t k => XS.aloadN X1.here hx rfl (hb hby own_jdk_52_method_21_10) rfl rfl k) ?_
  show own_Goes _ _ _ _ T1 (mkF m 11 #[.val (.ref sr), .val (.int (1 : Int32)), .val (.ref dr), .val (.int (1 : Int32)), .val (.int (2 : Int32)), .val (.int (1 : Int32)), .val (.int c0)] [(.ref sr)])
  refine own_step (fun t k => XS.iloadN X1.here hx rfl (hb hby own_jdk_52_method_21_11) rfl k) ?_
  show own_Goes _ _ _ _ T1 (mkF m 12 #[.val (.ref sr), .val (.int (1 : Int32)), .val (.ref dr), .val (.int (1 : Int32)), .val (.int (2 : Int32)), .val (.int (1 : Int32)), .val (.int c0)] [(.int (1 : Int32)), (.ref sr)])
  have V_sr_v2 := (V_sr.other W1 nesd)
  refine own_step (own_caload X1 hx hZ e1 V_sr_v2 (.int c1) ⟨by decide, by decide⟩ rfl (g := (mkF m 12 #[.val (.ref sr), .val (.int (1 : Int32)), .val (.ref dr), .val (.int (1 : Int32)), .val (.int (2 : Int32)), .val (.int (1 : Int32)), .val (.int c0)] [(.int (1 : Int32)), (.ref sr)])) rfl rfl (hb hby own_jdk_52_method_21_12)) ?_
  show own_Goes _ _ _ _ T1 (mkF m 13 #[.val (.ref sr), .val (.int (1 : Int32)), .val (.ref dr), .val (.int (1 : Int32)), .val (.int (2 : Int32)), .val (.int (1 : Int32)), .val (.int c0)] [(.int c1)])
  refine own_step (fun t k => XS.istore X1.here hx rfl (hb hby own_jdk_52_method_21_13) rfl (l' := #[.val (.ref sr), .val (.int (1 : Int32)), .val (.ref dr), .val (.int (1 : Int32)), .val (.int (2 : Int32)), .val (.int (1 : Int32)), .val (.int c1)]) rfl k) ?_
  show own_Goes _ _ _ _ T1 (mkF m 15 #[.val (.ref sr), .val (.int (1 : Int32)), .val (.ref dr), .val (.int (1 : Int32)), .val (.int (2 : Int32)), .val (.int (1 : Int32)), .val (.int c1)] [])
  refine own_step (fun t k => XS.iload X1.here hx rfl (hb hby own_jdk_52_method_21_15) rfl k) ?_
  show own_Goes _ _ _ _ T1 (mkF m 17 #[.val (.ref sr), .val (.int (1 : Int32)), .val (.ref dr), .val (.int (1 : Int32)), .val (.int (2 : Int32)), .val (.int (1 : Int32)), .val (.int c1)] [(.int c1)])
  refine own_step (fun t k => XS.sipush X1.here hx rfl (hb hby own_jdk_52_method_21_17) k) ?_
  show own_Goes _ _ _ _ T1 (mkF m 20 #[.val (.ref sr), .val (.int (1 : Int32)), .val (.ref dr), .val (.int (1 : Int32)), .val (.int (2 : Int32)), .val (.int (1 : Int32)), .val (.int c1)] [(.int (255 : Int32)), (.int c1)])
  refine own_step (fun t k => XS.icmpYes X1.here hx rfl (pc0 := 20) (pc' := 26) rfl (hb hby own_jdk_52_method_21_20) rfl (flt (show ¬ ((255 : Int32) < c1) from hc1)).2.2.2 (by decide) (by decide) k) ?_
  show own_Goes _ _ _ _ T1 (mkF m 26 #[.val (.ref sr), .val (.int (1 : Int32)), .val (.ref dr), .val (.int (1 : Int32)), .val (.int (2 : Int32)), .val (.int (1 : Int32)), .val (.int c1)] [])
  refine own_step (fun t k => XS.aloadN X1.here hx rfl (hb hby own_jdk_52_method_21_26) rfl rfl k) ?_
  show own_Goes _ _ _ _ T1 (mkF m 27 #[.val (.ref sr), .val (.int (1 : Int32)), .val (.ref dr), .val (.int (1 : Int32)), .val (.int (2 : Int32)), .val (.int (1 : Int32)), .val (.int c1)] [(.ref dr)])
  refine own_step (fun t k => XS.iloadN X1.here hx rfl (hb hby own_jdk_52_method_21_27) rfl k) ?_
  show own_Goes _ _ _ _ T1 (mkF m 28 #[.val (.ref sr), .val (.int (1 : Int32)), .val (.ref dr), .val (.int (1 : Int32)), .val (.int (2 : Int32)), .val (.int (1 : Int32)), .val (.int c1)] [(.int (1 : Int32)), (.ref dr)])
  refine own_step (fun t k => XS.iload X1.here hx rfl (hb hby own_jdk_52_method_21_28) rfl k) ?_
  show own_Goes _ _ _ _ T1 (mkF m 30 #[.val (.ref sr), .val (.int (1 : Int32)), .val (.ref dr), .val (.int (1 : Int32)), .val (.int (2 : Int32)), .val (.int (1 : Int32)), .val (.int c1)] [(.int c1), (.int (1 : Int32)), (.ref dr)])
  refine own_step (fun t k => XS.i2b X1.here hx rfl (hb hby own_jdk_52_method_21_30) rfl k) ?_
  show own_Goes _ _ _ _ T1 (mkF m 31 #[.val (.ref sr), .val (.int (1 : Int32)), .val (.ref dr), .val (.int (1 : Int32)), .val (.int (2 : Int32)), .val (.int (1 : Int32)), .val (.int c1)] [(.int (c1.toInt8.toInt32)), (.int (1 : Int32)), (.ref dr)])
  obtain ⟨T3, h3, X3, e3, W3, V3, st3⟩ := own_bastore X1 hx hZ e1 V1' (x := (c1.toInt8.toInt32)) (c1.toInt8.toInt32) (own_b8 _) (j := (1 : Int32)) ⟨by decide, by decide⟩ 1 rfl (Nat.le_of_ble_eq_true rfl) (g := (mkF m 31 #[.val (.ref sr), .val (.int (1 : Int32)), .val (.ref dr), .val (.int (1 : Int32)), .val (.int (2 : Int32)), .val (.int (1 : Int32)), .val (.int c1)] [(.int (c1.toInt8.toInt32)), (.int (1 : Int32)), (.ref dr)])) rfl rfl (hb hby own_jdk_52_method_21_31)
  refine own_step st3 ?_
  have K3 := K1.wr W3 (Or.inl (List.mem_of_getElem? (i := 0) rfl))
  have N3 := Fr.snoc X3 N1 g_dr
  have V3' : Arv Z h3 dr kd .byte (2 : Int32) [(.int (c0.toInt8.toInt32)), (.int (c1.toInt8.toInt32))] (.int (0 : Int32)) := V3
  show own_Goes _ _ _ _ T3 (mkF m 32 #[.val (.ref sr), .val (.int (1 : Int32)), .val (.ref dr), .val (.int (1 : Int32)), .val (.int (2 : Int32)), .val (.int (1 : Int32)), .val (.int c1)] [])
  refine own_step (fun t k => XS.iinc X3.here hx rfl (hb hby own_jdk_52_method_21_32) rfl (l' := #[.val (.ref sr), .val (.int (2 : Int32)), .val (.ref dr), .val (.int (1 : Int32)), .val (.int (2 : Int32)), .val (.int (1 : Int32)), .val (.int c1)]) rfl k) ?_
  show own_Goes _ _ _ _ T3 (mkF m 35 #[.val (.ref sr), .val (.int (2 : Int32)), .val (.ref dr), .val (.int (1 : Int32)), .val (.int (2 : Int32)), .val (.int (1 : Int32)), .val (.int c1)] [])
  refine own_step (fun t k => XS.iinc X3.here hx rfl (hb hby own_jdk_52_method_21_35) rfl (l' := #[.val (.ref sr), .val (.int (2 : Int32)), .val (.ref dr), .val (.int (2 : Int32)), .val (.int (2 : Int32)), .val (.int (1 : Int32)), .val (.int c1)]) rfl k) ?_
  show own_Goes _ _ _ _ T3 (mkF m 38 #[.val (.ref sr), .val (.int (2 : Int32)), .val (.ref dr), .val (.int (2 : Int32)), .val (.int (2 : Int32)), .val (.int (1 : Int32)), .val (.int c1)] [])
  refine own_step (fun t k => XS.iinc X3.here hx rfl (hb hby own_jdk_52_method_21_38) rfl (l' := #[.val (.ref sr), .val (.int (2 : Int32)), .val (.ref dr), .val (.int (2 : Int32)), .val (.int (2 : Int32)), .val (.int (2 : Int32)), .val (.int c1)]) rfl k) ?_
  show own_Goes _ _ _ _ T3 (mkF m 41 #[.val (.ref sr), .val (.int (2 : Int32)), .val (.ref dr), .val (.int (2 : Int32)), .val (.int (2 : Int32)), .val (.int (2 : Int32)), .val (.int c1)] [])
  refine own_step (fun t k => XS.goto X3.here hx rfl (pc0 := 41) (pc' := 3) rfl (hb hby own_jdk_52_method_21_41) (by decide) (by decide) k) ?_
  show own_Goes _ _ _ _ T3 (mkF m 3 #[.val (.ref sr), .val (.int (2 : Int32)), .val (.ref dr), .val (.int (2 : Int32)), .val (.int (2 : Int32)), .val (.int (2 : Int32)), .val (.int c1)] [])
  refine own_step (fun t k => XS.iload X3.here hx rfl (hb hby own_jdk_52_method_21_3) rfl k) ?_
  show own_Goes _ _ _ _ T3 (mkF m 5 #[.val (.ref sr), .val (.int (2 : Int32)), .val (.ref dr), .val (.int (2 : Int32)), .val (.int (2 : Int32)), .val (.int (2 : Int32)), .val (.int c1)] [(.int (2 : Int32))])
  refine own_step (fun t k => XS.iload X3.here hx rfl (hb hby own_jdk_52_method_21_5) rfl k) ?_
  show own_Goes _ _ _ _ T3 (mkF m 7 #[.val (.ref sr), .val (.int (2 : Int32)), .val (.ref dr), .val (.int (2 : Int32)), .val (.int (2 : Int32)), .val (.int (2 : Int32)), .val (.int c1)] [(.int (2 : Int32)), (.int (2 : Int32))])
  refine own_step (fun t k => XS.icmpYes X3.here hx rfl (pc0 := 7) (pc' := 44) rfl (hb hby own_jdk_52_method_21_7) rfl (flt (show ¬ ((2 : Int32) < (2 : Int32)) from (by decide))).2.1 (by decide) (by decide) k) ?_
  show own_Goes _ _ _ _ T3 (mkF m 44 #[.val (.ref sr), .val (.int (2 : Int32)), .val (.ref dr), .val (.int (2 : Int32)), .val (.int (2 : Int32)), .val (.int (2 : Int32)), .val (.int c1)] [])
  refine own_step (fun t k => XS.iload X3.here hx rfl (hb hby own_jdk_52_method_21_44) rfl k) ?_
  show own_Goes _ _ _ _ T3 (mkF m 46 #[.val (.ref sr), .val (.int (2 : Int32)), .val (.ref dr), .val (.int (2 : Int32)), .val (.int (2 : Int32)), .val (.int (2 : Int32)), .val (.int c1)] [(.int (2 : Int32))])
  exact own_retI X3 hx hlk hrt (hb hby own_jdk_52_method_21_46) (by rw [e3]; exact ⟨rfl, N3, K3, V3'⟩) (by decide) (by decide)
theorem own_ef7 (m : MethodId) (x0 : Addr) (x1 : Int32) (x2 : Int32) : entryFrame m #[(.ref x0), (.int x1), (.int x2)] 6 = mkF m 0 #[.val (.ref x0), .val (.int x1), .val (.int x2), .unset, .unset, .unset] [] := by first | (simp [entryFrame, mkF, argsToLocals, Value.category]; done) | rfl
theorem own_jdk_52_method_16_0 : decode jdk_52_method_16_code 0 = .ok (.iload_n 2, 1) := by decide +kernel
theorem own_jdk_52_method_16_1 : decode jdk_52_method_16_code 1 = .ok (.newarray .byte, 2) := by decide +kernel
theorem own_jdk_52_method_16_3 : decode jdk_52_method_16_code 3 = .ok (.astore_n 3, 1) := by decide +kernel
theorem own_jdk_52_method_16_4 : decode jdk_52_method_16_code 4 = .ok (.aload_n 0, 1) := by decide +kernel
theorem own_jdk_52_method_16_5 : decode jdk_52_method_16_code 5 = .ok (.iload_n 1, 1) := by decide +kernel
theorem own_jdk_52_method_16_6 : decode jdk_52_method_16_code 6 = .ok (.aload_n 3, 1) := by decide +kernel
theorem own_jdk_52_method_16_7 : decode jdk_52_method_16_code 7 = .ok (.iconst 0, 1) := by decide +kernel
theorem own_jdk_52_method_16_8 : decode jdk_52_method_16_code 8 = .ok (.iload_n 2, 1) := by decide +kernel
theorem own_jdk_52_method_16_9 : decode jdk_52_method_16_code 9 = .ok (.invokestatic 115, 3) := by decide +kernel
theorem own_pd3 : parseMethodDescriptor "([CI[BII)I" = some ⟨[(.array .char), .int, (.array .byte), .int, .int], some .int⟩ := by decide +kernel
theorem own_jdk_52_method_16_12 : decode jdk_52_method_16_code 12 = .ok (.istore 4, 2) := by decide +kernel
theorem own_jdk_52_method_16_14 : decode jdk_52_method_16_code 14 = .ok (.iload 4, 2) := by decide +kernel
theorem own_jdk_52_method_16_16 : decode jdk_52_method_16_code 16 = .ok (.iload_n 2, 1) := by decide +kernel
theorem own_jdk_52_method_16_17 : decode jdk_52_method_16_code 17 = .ok (.if_icmp .eq 40, 3) := by decide +kernel
theorem own_jdk_52_method_16_57 : decode jdk_52_method_16_code 57 = .ok (.aload_n 3, 1) := by decide +kernel
theorem own_jdk_52_method_16_58 : decode jdk_52_method_16_code 58 = .ok (.areturn, 1) := by decide +kernel
set_option maxRecDepth 65536 in
set_option maxHeartbeats 40000000 in
theorem own_comp3_2 (l : Launch) (Z : State) (a0 : Array Value) (hw : ∀ d ∈ tables_1, d.before a0 Z = true) (ws : List Jvm.Cond) (sr : Addr) (ks : ClassId) (c0 : Int32) (c1 : Int32) (h0 : Heap) (n0 : Nat) (Z0 : n0 ≤ h0.size) (V_sr : Arv Z h0 sr ks .char (2 : Int32) [(.int c0), (.int c1)] (.int (0 : Int32))) (hc0 : ¬ ((255 : Int32) < c0)) (hc1 : ¬ ((255 : Int32) < c1)) :
    own_Met l Z (⟨"java/lang/StringUTF16", "compress", "([CII)[B"⟩ : MethodName) jdk_52_method_16_code 6 (some (.array .byte)) ws ({ frames := 1, cells := 1, slots := 2, locals := 18 } : Room) #[(.ref sr), (.int (0 : Int32)), (.int (2 : Int32))] h0 (fun v h L => ∃ r : Addr, ∃ kr : ClassId, v = some (.ref r) ∧ Fr n0 L ∧ Keep h0 h [] ∧ h0.size ≤ r ∧ Arv Z h r kr .byte (2 : Int32) [(.int (c0.toInt8.toInt32)), (.int (c1.toInt8.toInt32))] (.int (0 : Int32))) := by
  refine own_body (plainFor_of_name own_pn_java_lang_StringUTF16) (fun p e s m below meth c s₁ hx hby hml0 hrt hlk hown0 hnm hZ X0 e0 => ?_)
  have N0 := Fr.nil n0
  have hown : s.vm.findClass "java/lang/StringUTF16" = some m.cls := hown0
  have hml : c.maxLocals = 6 := hml0
  refine own_castG (own_ef7 m sr (0 : Int32) (2 : Int32)) ?_
  show own_Goes _ _ _ _ s₁ (mkF m 0 #[.val (.ref sr), .val (.int (0 : Int32)), .val (.int (2 : Int32)), .unset, .unset, .unset] [])
  refine own_step (fun t k => XS.iloadN X0.here hx rfl (hb hby own_jdk_52_method_16_0) rfl k) ?_
  show own_Goes _ _ _ _ s₁ (mkF m 1 #[.val (.ref sr), .val (.int (0 : Int32)), .val (.int (2 : Int32)), .unset, .unset, .unset] [(.int (2 : Int32))])
  obtain ⟨T1, h1, k1, X1, e1, E1, A1, st1⟩ := newP X0 hx hZ (hw _ (List.mem_of_getElem? (i := 23) rfl)) e0 (g := (mkF m 1 #[.val (.ref sr), .val (.int (0 : Int32)), .val (.int (2 : Int32)), .unset, .unset, .unset] [(.int (2 : Int32))])) rfl (hb hby own_jdk_52_method_16_1) rfl (by decide) (cap := 2) (by decide) (by decide) (by decide) (by decide)
  obtain ⟨b1, g1⟩ : ∃ z, z = h0.size := ⟨_, rfl⟩
  rw [← g1] at A1 st1
  refine own_step st1 ?_
  have g_b1 : n0 ≤ b1 := Nat.le_trans Z0 (Nat.le_of_eq g1.symm)
  have sz_b1 : h0.size ≤ b1 := Nat.le_trans (Keep.refl h0 []).1 (Nat.le_of_eq g1.symm)
  have ne_sr_b1 : sr ≠ b1 := Nat.ne_of_lt (Nat.lt_of_lt_of_le V_sr.lt (Nat.le_of_eq g1.symm))
  have K1 := (Keep.refl h0 []).ext E1
  have V_b1 : Arv Z h1 b1 k1 .byte (2 : Int32) [(.int (0 : Int32)), (.int (0 : Int32))] (.int (0 : Int32)) := (Arv.new A1 (by decide)).pad (pad_rep [] (.int (0 : Int32)) 2)
  show own_Goes _ _ _ _ T1 (mkF m 3 #[.val (.ref sr), .val (.int (0 : Int32)), .val (.int (2 : Int32)), .unset, .unset, .unset] [(.ref b1)])
  refine own_step (fun t k => XS.astoreN X1.here hx rfl (hb hby own_jdk_52_method_16_3) rfl rfl (l' := #[.val (.ref sr), .val (.int (0 : Int32)), .val (.int (2 : Int32)), .val (.ref b1), .unset, .unset]) rfl k) ?_
  show own_Goes _ _ _ _ T1 (mkF m 4 #[.val (.ref sr), .val (.int (0 : Int32)), .val (.int (2 : Int32)), .val (.ref b1), .unset, .unset] [])
  refine own_step (fun t k => XS.aloadN X1.here hx rfl (hb hby own_jdk_52_method_16_4) rfl rfl k) ?_
  show own_Goes _ _ _ _ T1 (mkF m 5 #[.val (.ref sr), .val (.int (0 : Int32)), .val (.int (2 : Int32)), .val (.ref b1), .unset, .unset] [(.ref sr)])
  refine own_step (fun t k => XS.iloadN X1.here hx rfl (hb hby own_jdk_52_method_16_5) rfl k) ?_
  show own_Goes _ _ _ _ T1 (mkF m 6 #[.val (.ref sr), .val (.int (0 : Int32)), .val (.int (2 : Int32)), .val (.ref b1), .unset, .unset] [(.int (0 : Int32)), (.ref sr)])
  refine own_step (fun t k => XS.aloadN X1.here hx rfl (hb hby own_jdk_52_method_16_6) rfl rfl k) ?_
  show own_Goes _ _ _ _ T1 (mkF m 7 #[.val (.ref sr), .val (.int (0 : Int32)), .val (.int (2 : Int32)), .val (.ref b1), .unset, .unset] [(.ref b1), (.int (0 : Int32)), (.ref sr)])
  refine own_step (fun t k => XS.iconst X1.here hx rfl (hb hby own_jdk_52_method_16_7) k) ?_
  show own_Goes _ _ _ _ T1 (mkF m 8 #[.val (.ref sr), .val (.int (0 : Int32)), .val (.int (2 : Int32)), .val (.ref b1), .unset, .unset] [(.int (0 : Int32)), (.ref b1), (.int (0 : Int32)), (.ref sr)])
  refine own_step (fun t k => XS.iloadN X1.here hx rfl (hb hby own_jdk_52_method_16_8) rfl k) ?_
  show own_Goes _ _ _ _ T1 (mkF m 9 #[.val (.ref sr), .val (.int (0 : Int32)), .val (.int (2 : Int32)), .val (.ref b1), .unset, .unset] [(.int (2 : Int32)), (.int (0 : Int32)), (.ref b1), (.int (0 : Int32)), (.ref sr)])
  have V_sr_v2 := (V_sr.ext E1)
  refine own_callS X1 hx hZ (y := (⟨"java/lang/StringUTF16", "compress", "([CI[BII)I"⟩ : MethodName)) hown (hw _ (List.mem_of_getElem? (i := 24) rfl)) (hw _ (List.mem_of_getElem? (i := 25) rfl)) (hw _ (List.mem_of_getElem? (i := 21) rfl)) (hw _ (List.mem_of_getElem? (i := 26) rfl)) (by decide) 0 [(.ref sr), (.int (0 : Int32)), (.ref b1), (.int (0 : Int32)), (.int (2 : Int32))] [] (own_comp5_2 l Z a0 hw [] sr b1 ks k1 c0 c1 h1 n0 (Nat.le_trans Z0 K1.1) V_sr_v2 V_b1 hc0 hc1 ne_sr_b1 g_b1) e1 (by decide) (by decide) (by decide) (by decide) (g := (mkF m 9 #[.val (.ref sr), .val (.int (0 : Int32)), .val (.int (2 : Int32)), .val (.ref b1), .unset, .unset] [(.int (2 : Int32)), (.int (0 : Int32)), (.ref b1), (.int (0 : Int32)), (.ref sr)])) rfl (by rw [hml]; rfl) own_pd3 rfl rfl (by show 2 * 0 + _ ≤ _; exact Nat.le_of_eq rfl) (hb hby own_jdk_52_method_16_9) ?_
  intro T3 v3 L3 X3 hQ3
  obtain ⟨rfl, N3q, Kq3, q3_0⟩ := hQ3
  have N3 := Fr.app N0 N3q
  have K3 := K1.trans Kq3 (allS (Or.inr sz_b1) all0)
  have q3_0' : Arv Z T3.heap b1 k1 .byte (2 : Int32) [(.int (c0.toInt8.toInt32)), (.int (c1.toInt8.toInt32))] (.int (0 : Int32)) := q3_0
  show own_Goes _ _ _ _ T3 (mkF m 12 #[.val (.ref sr), .val (.int (0 : Int32)), .val (.int (2 : Int32)), .val (.ref b1), .unset, .unset] [(.int (2 : Int32))])
  refine own_step (fun t k => XS.istore X3.here hx rfl (hb hby own_jdk_52_method_16_12) rfl (l' := #[.val (.ref sr), .val (.int (0 : Int32)), .val (.int (2 : Int32)), .val (.ref b1), .val (.int (2 : Int32)), .unset]) rfl k) ?_
  show own_Goes _ _ _ _ T3 (mkF m 14 #[.val (.ref sr), .val (.int (0 : Int32)), .val (.int (2 : Int32)), .val (.ref b1), .val (.int (2 : Int32)), .unset] [])
  refine own_step (fun t k => XS.iload X3.here hx rfl (hb hby own_jdk_52_method_16_14) rfl k) ?_
  show own_Goes _ _ _ _ T3 (mkF m 16 #[.val (.ref sr), .val (.int (0 : Int32)), .val (.int (2 : Int32)), .val (.ref b1), .val (.int (2 : Int32)), .unset] [(.int (2 : Int32))])
  refine own_step (fun t k => XS.iloadN X3.here hx rfl (hb hby own_jdk_52_method_16_16) rfl k) ?_
  show own_Goes _ _ _ _ T3 (mkF m 17 #[.val (.ref sr), .val (.int (0 : Int32)), .val (.int (2 : Int32)), .val (.ref b1), .val (.int (2 : Int32)), .unset] [(.int (2 : Int32)), (.int (2 : Int32))])
  refine own_step (fun t k => XS.icmpYes X3.here hx rfl (pc0 := 17) (pc' := 57) rfl (hb hby own_jdk_52_method_16_17) rfl (teq (show (2 : Int32) = (2 : Int32) from (by decide))).1 (by decide) (by decide) k) ?_
  show own_Goes _ _ _ _ T3 (mkF m 57 #[.val (.ref sr), .val (.int (0 : Int32)), .val (.int (2 : Int32)), .val (.ref b1), .val (.int (2 : Int32)), .unset] [])
  refine own_step (fun t k => XS.aloadN X3.here hx rfl (hb hby own_jdk_52_method_16_57) rfl rfl k) ?_
  show own_Goes _ _ _ _ T3 (mkF m 58 #[.val (.ref sr), .val (.int (0 : Int32)), .val (.int (2 : Int32)), .val (.ref b1), .val (.int (2 : Int32)), .unset] [(.ref b1)])
  exact own_retA X3 hx hlk hrt rfl rfl rfl (hb hby own_jdk_52_method_16_58) (by exact ⟨b1, k1, rfl, N3, K3, sz_b1, q3_0'⟩) (by decide) (by decide)
theorem own_ef8 (m : MethodId) (x0 : Addr) (x1 : Int32) : entryFrame m #[(.ref x0), (.int x1)] 2 = mkF m 0 #[.val (.ref x0), .val (.int x1)] [] := by first | (simp [entryFrame, mkF, argsToLocals, Value.category]; done) | rfl
theorem own_jdk_52_method_15_0 : decode jdk_52_method_15_code 0 = .ok (.iload_n 1, 1) := by decide +kernel
theorem own_jdk_52_method_15_1 : decode jdk_52_method_15_code 1 = .ok (.aload_n 0, 1) := by decide +kernel
theorem own_jdk_52_method_15_2 : decode jdk_52_method_15_code 2 = .ok (.arraylength, 1) := by decide +kernel
theorem own_jdk_52_method_15_3 : decode jdk_52_method_15_code 3 = .ok (.isub, 1) := by decide +kernel
theorem own_jdk_52_method_15_4 : decode jdk_52_method_15_code 4 = .ok (.bipush 31, 2) := by decide +kernel
theorem own_jdk_52_method_15_6 : decode jdk_52_method_15_code 6 = .ok (.iushr, 1) := by decide +kernel
theorem own_jdk_52_method_15_7 : decode jdk_52_method_15_code 7 = .ok (.i2b, 1) := by decide +kernel
theorem own_jdk_52_method_15_8 : decode jdk_52_method_15_code 8 = .ok (.ireturn, 1) := by decide +kernel
set_option maxRecDepth 65536 in
set_option maxHeartbeats 40000000 in
theorem own_coder_2 (l : Launch) (Z : State) (a0 : Array Value) (hw : ∀ d ∈ tables_1, d.before a0 Z = true) (ws : List Jvm.Cond) (dr : Addr) (kd : ClassId) (x0 : Int32) (x1 : Int32) (h0 : Heap) (n0 : Nat) (Z0 : n0 ≤ h0.size) (V_dr : Arv Z h0 dr kd .byte (2 : Int32) [(.int x0), (.int x1)] (.int (0 : Int32))) :
    own_Met l Z (⟨"java/lang/StringUTF16", "coderFromArrayLen", "([BI)B"⟩ : MethodName) jdk_52_method_15_code 2 (some .byte) ws ({ frames := 0, cells := 0, slots := 0, locals := 0 } : Room) #[(.ref dr), (.int (2 : Int32))] h0 (fun v h L => v = some (.int (0 : Int32)) ∧ Fr n0 L ∧ h = h0) := by
  refine own_body (plainFor_of_name own_pn_java_lang_StringUTF16) (fun p e s m below meth c s₁ hx hby hml0 hrt hlk hown0 hnm hZ X0 e0 => ?_)
  have N0 := Fr.nil n0
  have hown : s.vm.findClass "java/lang/StringUTF16" = some m.cls := hown0
  have hml : c.maxLocals = 2 := hml0
  refine own_castG (own_ef8 m dr (2 : Int32)) ?_
  show own_Goes _ _ _ _ s₁ (mkF m 0 #[.val (.ref dr), .val (.int (2 : Int32))] [])
  refine own_step (fun t k => XS.iloadN X0.here hx rfl (hb hby own_jdk_52_method_15_0) rfl k) ?_
  show own_Goes _ _ _ _ s₁ (mkF m 1 #[.val (.ref dr), .val (.int (2 : Int32))] [(.int (2 : Int32))])
  refine own_step (fun t k => XS.aloadN X0.here hx rfl (hb hby own_jdk_52_method_15_1) rfl rfl k) ?_
  show own_Goes _ _ _ _ s₁ (mkF m 2 #[.val (.ref dr), .val (.int (2 : Int32))] [(.ref dr), (.int (2 : Int32))])
  refine own_step (own_alen X0 hx hZ e0 V_dr (g := (mkF m 2 #[.val (.ref dr), .val (.int (2 : Int32))] [(.ref dr), (.int (2 : Int32))])) rfl rfl (hb hby own_jdk_52_method_15_2)) ?_
  show own_Goes _ _ _ _ s₁ (mkF m 3 #[.val (.ref dr), .val (.int (2 : Int32))] [(.int (2 : Int32)), (.int (2 : Int32))])
  refine own_step (fun t k => XS.isub X0.here hx rfl (hb hby own_jdk_52_method_15_3) rfl k) ?_
  show own_Goes _ _ _ _ s₁ (mkF m 4 #[.val (.ref dr), .val (.int (2 : Int32))] [(.int (0 : Int32))])
  refine own_step (fun t k => XS.bipush X0.here hx rfl (hb hby own_jdk_52_method_15_4) k) ?_
  show own_Goes _ _ _ _ s₁ (mkF m 6 #[.val (.ref dr), .val (.int (2 : Int32))] [(.int (31 : Int32)), (.int (0 : Int32))])
  refine own_step (fun t k => XS.iushr X0.here hx rfl (hb hby own_jdk_52_method_15_6) rfl k) ?_
  show own_Goes _ _ _ _ s₁ (mkF m 7 #[.val (.ref dr), .val (.int (2 : Int32))] [(.int (0 : Int32))])
  refine own_step (fun t k => XS.i2b X0.here hx rfl (hb hby own_jdk_52_method_15_7) rfl k) ?_
  show own_Goes _ _ _ _ s₁ (mkF m 8 #[.val (.ref dr), .val (.int (2 : Int32))] [(.int (0 : Int32))])
  exact own_retN X0 hx hlk (t := .byte) hrt (by simp) (hb hby own_jdk_52_method_15_8) ⟨rfl, N0, e0⟩ (by decide) (by decide)
theorem own_ef9 (m : MethodId) (x0 : Addr) (x1 : Addr) (x2 : Int32) (x3 : Int32) : entryFrame m #[(.ref x0), (.ref x1), (.int x2), (.int x3), .null] 6 = mkF m 0 #[.val (.ref x0), .val (.ref x1), .val (.int x2), .val (.int x3), .val .null, .unset] [] := by first | (simp [entryFrame, mkF, argsToLocals, Value.category]; done) | rfl
theorem own_jdk_42_method_149_0 : decode jdk_42_method_149_code 0 = .ok (.aload_n 0, 1) := by decide +kernel
theorem own_jdk_42_method_149_1 : decode jdk_42_method_149_code 1 = .ok (.invokespecial 1, 3) := by decide +kernel
theorem own_jdk_42_method_149_4 : decode jdk_42_method_149_code 4 = .ok (.iload_n 3, 1) := by decide +kernel
theorem own_jdk_42_method_149_5 : decode jdk_42_method_149_code 5 = .ok (.ifCond .ne 22, 3) := by decide +kernel
theorem own_jdk_42_method_149_27 : decode jdk_42_method_149_code 27 = .ok (.getstatic 38, 3) := by decide +kernel
theorem own_jdk_42_method_149_30 : decode jdk_42_method_149_code 30 = .ok (.ifCond .eq 28, 3) := by decide +kernel
theorem own_jdk_42_method_149_33 : decode jdk_42_method_149_code 33 = .ok (.aload_n 1, 1) := by decide +kernel
theorem own_jdk_42_method_149_34 : decode jdk_42_method_149_code 34 = .ok (.iload_n 2, 1) := by decide +kernel
theorem own_jdk_42_method_149_35 : decode jdk_42_method_149_code 35 = .ok (.iload_n 3, 1) := by decide +kernel
theorem own_jdk_42_method_149_36 : decode jdk_42_method_149_code 36 = .ok (.invokestatic 177, 3) := by decide +kernel
theorem own_pd4 : parseMethodDescriptor "([CII)[B" = some ⟨[(.array .char), .int, .int], some (.array .byte)⟩ := by decide +kernel
theorem own_jdk_42_method_149_39 : decode jdk_42_method_149_code 39 = .ok (.astore 5, 2) := by decide +kernel
theorem own_jdk_42_method_149_41 : decode jdk_42_method_149_code 41 = .ok (.aload_n 0, 1) := by decide +kernel
theorem own_jdk_42_method_149_42 : decode jdk_42_method_149_code 42 = .ok (.aload 5, 2) := by decide +kernel
theorem own_jdk_42_method_149_44 : decode jdk_42_method_149_code 44 = .ok (.iload_n 3, 1) := by decide +kernel
theorem own_jdk_42_method_149_45 : decode jdk_42_method_149_code 45 = .ok (.invokestatic 47, 3) := by decide +kernel
theorem own_pd5 : parseMethodDescriptor "([BI)B" = some ⟨[(.array .byte), .int], some .byte⟩ := by decide +kernel
theorem own_jdk_42_method_149_48 : decode jdk_42_method_149_code 48 = .ok (.putfield 15, 3) := by decide +kernel
theorem own_jdk_42_method_149_51 : decode jdk_42_method_149_code 51 = .ok (.aload_n 0, 1) := by decide +kernel
theorem own_jdk_42_method_149_52 : decode jdk_42_method_149_code 52 = .ok (.aload 5, 2) := by decide +kernel
theorem own_jdk_42_method_149_54 : decode jdk_42_method_149_code 54 = .ok (.putfield 9, 3) := by decide +kernel
theorem own_jdk_42_method_149_57 : decode jdk_42_method_149_code 57 = .ok (.return_, 1) := by decide +kernel
set_option maxRecDepth 65536 in
set_option maxHeartbeats 40000000 in
theorem own_sinit4_2 (l : Launch) (Z : State) (a0 : Array Value) (hw : ∀ d ∈ tables_1, d.before a0 Z = true) (ws : List Jvm.Cond) (a : Addr) (sr : Addr) (ks : ClassId) (c0 : Int32) (c1 : Int32) (zc : Int32) (h0 : Heap) (n0 : Nat) (Z0 : n0 ≤ h0.size) (E_a : Exa Z h0 a "java/lang/String") (F_a_value : Fld Z h0 a "java/lang/String" "value" "[B" .null) (F_a_coder : Fld Z h0 a "java/lang/String" "coder" "B" (.int (0 : Int32))) (V_sr : Arv Z h0 sr ks .char (2 : Int32) [(.int c0), (.int c1)] (.int (0 : Int32))) (S_COMPACT_STRINGS : Sta Z h0 "java/lang/String" "COMPACT_STRINGS" "Z" (.int zc)) (hc0 : ¬ ((255 : Int32) < c0)) (hc1 : ¬ ((255 : Int32) < c1)) (hz : ¬ (zc = (0 : Int32))) (g_a : n0 ≤ a) :
    own_Met l Z (⟨"java/lang/String", "<init>", "([CIILjava/lang/Void;)V"⟩ : MethodName) jdk_42_method_149_code 6 none ws ({ frames := 2, cells := 1, slots := 2, locals := 35 } : Room) #[(.ref a), (.ref sr), (.int (0 : Int32)), (.int (2 : Int32)), .null] h0 (fun v h L => ∃ r : Addr, ∃ kr : ClassId, v = none ∧ Fr n0 L ∧ Keep h0 h [a] ∧ h0.size ≤ r ∧ Exa Z h a "java/lang/String" ∧ Fld Z h a "java/lang/String" "coder" "B" (.int (0 : Int32)) ∧ Fld Z h a "java/lang/String" "value" "[B" (.ref r) ∧ Arv Z h r kr .byte (2 : Int32) [(.int (c0.toInt8.toInt32)), (.int (c1.toInt8.toInt32))] (.int (0 : Int32))) := by
  refine own_body (plainFor_of_name own_pn_java_lang_String) (fun p e s m below meth c s₁ hx hby hml0 hrt hlk hown0 hnm hZ X0 e0 => ?_)
  have N0 := Fr.nil n0
  have hown : s.vm.findClass "java/lang/String" = some m.cls := hown0
  have hml : c.maxLocals = 6 := hml0
  refine own_castG (own_ef9 m a sr (0 : Int32) (2 : Int32)) ?_
  show own_Goes _ _ _ _ s₁ (mkF m 0 #[.val (.ref a), .val (.ref sr), .val (.int (0 : Int32)), .val (.int (2 : Int32)), .val .null, .unset] [])
  refine own_step (fun t k => XS.aloadN X0.here hx rfl (hb hby own_jdk_42_method_149_0) rfl rfl k) ?_
  show own_Goes _ _ _ _ s₁ (mkF m 1 #[.val (.ref a), .val (.ref sr), .val (.int (0 : Int32)), .val (.int (2 : Int32)), .val .null, .unset] [(.ref a)])
  obtain ⟨T1, X1, e1, st1⟩ := initO X0 hx hZ hown (hw _ (List.mem_of_getElem? (i := 15) rfl)) (hw _ (List.mem_of_getElem? (i := 16) rfl)) (hw _ (List.mem_of_getElem? (i := 17) rfl)) e0 (g := (mkF m 1 #[.val (.ref a), .val (.ref sr), .val (.int (0 : Int32)), .val (.int (2 : Int32)), .val .null, .unset] [(.ref a)])) rfl (by rw [hml]; rfl) rfl (hb hby own_jdk_42_method_149_1) (by decide) (W := 0) (by show 2 * 0 + _ ≤ _; exact Nat.le_of_eq rfl) (by decide)
  refine own_step st1 ?_
  show own_Goes _ _ _ _ T1 (mkF m 4 #[.val (.ref a), .val (.ref sr), .val (.int (0 : Int32)), .val (.int (2 : Int32)), .val .null, .unset] [])
  refine own_step (fun t k => XS.iloadN X1.here hx rfl (hb hby own_jdk_42_method_149_4) rfl k) ?_
  show own_Goes _ _ _ _ T1 (mkF m 5 #[.val (.ref a), .val (.ref sr), .val (.int (0 : Int32)), .val (.int (2 : Int32)), .val .null, .unset] [(.int (2 : Int32))])
  refine own_step (fun t k => XS.ifYes X1.here hx rfl (pc0 := 5) (pc' := 27) rfl (hb hby own_jdk_42_method_149_5) rfl ((if0 _ _).trans (feq (show ¬ ((2 : Int32) = (0 : Int32)) from (by decide))).2) (by decide) (by decide) k) ?_
  show own_Goes _ _ _ _ T1 (mkF m 27 #[.val (.ref a), .val (.ref sr), .val (.int (0 : Int32)), .val (.int (2 : Int32)), .val .null, .unset] [])
  obtain ⟨T2, X2, e2, st2⟩ := getS2 X1 hx hZ hown (host := "") (Or.inl (hw _ (List.mem_of_getElem? (i := 18) rfl))) Via.refl e1 S_COMPACT_STRINGS (g := (mkF m 27 #[.val (.ref a), .val (.ref sr), .val (.int (0 : Int32)), .val (.int (2 : Int32)), .val .null, .unset] [])) rfl (hb hby own_jdk_42_method_149_27)
  refine own_step st2 ?_
  show own_Goes _ _ _ _ T2 (mkF m 30 #[.val (.ref a), .val (.ref sr), .val (.int (0 : Int32)), .val (.int (2 : Int32)), .val .null, .unset] [(.int zc)])
  refine own_step (fun t k => XS.ifNo X2.here hx rfl (hb hby own_jdk_42_method_149_30) rfl ((if0 _ _).trans (feq (show ¬ (zc = (0 : Int32)) from hz)).1) k) ?_
  show own_Goes _ _ _ _ T2 (mkF m 33 #[.val (.ref a), .val (.ref sr), .val (.int (0 : Int32)), .val (.int (2 : Int32)), .val .null, .unset] [])
  refine own_step (fun t k => XS.aloadN X2.here hx rfl (hb hby own_jdk_42_method_149_33) rfl rfl k) ?_
  show own_Goes _ _ _ _ T2 (mkF m 34 #[.val (.ref a), .val (.ref sr), .val (.int (0 : Int32)), .val (.int (2 : Int32)), .val .null, .unset] [(.ref sr)])
  refine own_step (fun t k => XS.iloadN X2.here hx rfl (hb hby own_jdk_42_method_149_34) rfl k) ?_
  show own_Goes _ _ _ _ T2 (mkF m 35 #[.val (.ref a), .val (.ref sr), .val (.int (0 : Int32)), .val (.int (2 : Int32)), .val .null, .unset] [(.int (0 : Int32)), (.ref sr)])
  refine own_step (fun t k => XS.iloadN X2.here hx rfl (hb hby own_jdk_42_method_149_35) rfl k) ?_
  show own_Goes _ _ _ _ T2 (mkF m 36 #[.val (.ref a), .val (.ref sr), .val (.int (0 : Int32)), .val (.int (2 : Int32)), .val .null, .unset] [(.int (2 : Int32)), (.int (0 : Int32)), (.ref sr)])
  refine own_callS X2 hx hZ (y := (⟨"java/lang/StringUTF16", "compress", "([CII)[B"⟩ : MethodName)) hown (hw _ (List.mem_of_getElem? (i := 19) rfl)) (hw _ (List.mem_of_getElem? (i := 20) rfl)) (hw _ (List.mem_of_getElem? (i := 21) rfl)) (hw _ (List.mem_of_getElem? (i := 22) rfl)) (by decide) 0 [(.ref sr), (.int (0 : Int32)), (.int (2 : Int32))] [] (own_comp3_2 l Z a0 hw [] sr ks c0 c1 h0 n0 Z0 V_sr hc0 hc1) e2 (by decide) (by decide) (by decide) (by decide) (g := (mkF m 36 #[.val (.ref a), .val (.ref sr), .val (.int (0 : Int32)), .val (.int (2 : Int32)), .val .null, .unset] [(.int (2 : Int32)), (.int (0 : Int32)), (.ref sr)])) rfl (by rw [hml]; rfl) own_pd4 rfl rfl (by show 2 * 0 + _ ≤ _; exact Nat.le_of_eq rfl) (hb hby own_jdk_42_method_149_36) ?_
  intro T3 v3 L3 X3 hQ3
  obtain ⟨b3_0, k3_0, rfl, N3q, Kq3, zq3_0, q3_0⟩ := hQ3
  have N3 := Fr.app N0 N3q
  have K3 := (Keep.refl h0 [a]).trans Kq3 all0
  have g_b3_0 : n0 ≤ b3_0 := Nat.le_trans Z0 zq3_0
  have sz_b3_0 : h0.size ≤ b3_0 := Nat.le_trans (Keep.refl h0 [a]).1 zq3_0
  have ne_a_b3_0 : a ≠ b3_0 := Nat.ne_of_lt (Nat.lt_of_lt_of_le E_a.lt zq3_0)
  have ne_sr_b3_0 : sr ≠ b3_0 := Nat.ne_of_lt (Nat.lt_of_lt_of_le V_sr.lt zq3_0)
  have q3_0' : Arv Z T3.heap b3_0 k3_0 .byte (2 : Int32) [(.int (c0.toInt8.toInt32)), (.int (c1.toInt8.toInt32))] (.int (0 : Int32)) := q3_0
  show own_Goes _ _ _ _ T3 (mkF m 39 #[.val (.ref a), .val (.ref sr), .val (.int (0 : Int32)), .val (.int (2 : Int32)), .val .null, .unset] [(.ref b3_0)])
  refine own_step (fun t k => XS.astore X3.here hx rfl (hb hby own_jdk_42_method_149_39) rfl rfl (l' := #[.val (.ref a), .val (.ref sr), .val (.int (0 : Int32)), .val (.int (2 : Int32)), .val .null, .val (.ref b3_0)]) rfl k) ?_
  show own_Goes _ _ _ _ T3 (mkF m 41 #[.val (.ref a), .val (.ref sr), .val (.int (0 : Int32)), .val (.int (2 : Int32)), .val .null, .val (.ref b3_0)] [])
  refine own_step (fun t k => XS.aloadN X3.here hx rfl (hb hby own_jdk_42_method_149_41) rfl rfl k) ?_
  show own_Goes _ _ _ _ T3 (mkF m 42 #[.val (.ref a), .val (.ref sr), .val (.int (0 : Int32)), .val (.int (2 : Int32)), .val .null, .val (.ref b3_0)] [(.ref a)])
  refine own_step (fun t k => XS.aload X3.here hx rfl (hb hby own_jdk_42_method_149_42) rfl rfl k) ?_
  show own_Goes _ _ _ _ T3 (mkF m 44 #[.val (.ref a), .val (.ref sr), .val (.int (0 : Int32)), .val (.int (2 : Int32)), .val .null, .val (.ref b3_0)] [(.ref b3_0), (.ref a)])
  refine own_step (fun t k => XS.iloadN X3.here hx rfl (hb hby own_jdk_42_method_149_44) rfl k) ?_
  show own_Goes _ _ _ _ T3 (mkF m 45 #[.val (.ref a), .val (.ref sr), .val (.int (0 : Int32)), .val (.int (2 : Int32)), .val .null, .val (.ref b3_0)] [(.int (2 : Int32)), (.ref b3_0), (.ref a)])
  refine own_callS X3 hx hZ (y := (⟨"java/lang/StringUTF16", "coderFromArrayLen", "([BI)B"⟩ : MethodName)) hown (hw _ (List.mem_of_getElem? (i := 27) rfl)) (hw _ (List.mem_of_getElem? (i := 28) rfl)) (hw _ (List.mem_of_getElem? (i := 21) rfl)) (hw _ (List.mem_of_getElem? (i := 29) rfl)) (by decide) 1 [(.ref b3_0), (.int (2 : Int32))] [(.ref a)] (own_coder_2 l Z a0 hw [] b3_0 k3_0 (c0.toInt8.toInt32) (c1.toInt8.toInt32) T3.heap n0 (Nat.le_trans Z0 K3.1) q3_0') rfl (by decide) (by decide) (by decide) (by decide) (g := (mkF m 45 #[.val (.ref a), .val (.ref sr), .val (.int (0 : Int32)), .val (.int (2 : Int32)), .val .null, .val (.ref b3_0)] [(.int (2 : Int32)), (.ref b3_0), (.ref a)])) rfl (by rw [hml]; rfl) own_pd5 rfl rfl (by show 2 * 0 + _ ≤ _; exact Nat.le_of_eq rfl) (hb hby own_jdk_42_method_149_45) ?_
  intro T4 v4 L4 X4 hQ4
  obtain ⟨rfl, N4q, e4⟩ := hQ4
  have N4 := Fr.app N3 N4q
  show own_Goes _ _ _ _ T4 (mkF m 48 #[.val (.ref a), .val (.ref sr), .val (.int (0 : Int32)), .val (.int (2 : Int32)), .val .null, .val (.ref b3_0)] [(.int (0 : Int32)), (.ref a)])
  have E_a_v6 := (E_a.keep Kq3)
  have F_a_coder_v7 := (F_a_coder.keep Kq3 nin0)
  obtain ⟨T5, h5, X5, e5, W5, st5⟩ := putFN X4 hx hZ hown (hw _ (List.mem_of_getElem? (i := 30) rfl)) Via.refl e4 F_a_coder_v7 E_a_v6 (Or.inr ⟨(hw _ (List.mem_of_getElem? (i := 31) rfl)), rfl, hnm⟩) (hw _ (List.mem_of_getElem? (i := 6) rfl)) (ty := .byte) (v' := (.int (0 : Int32))) (by decide) rfl rfl (g := (mkF m 48 #[.val (.ref a), .val (.ref sr), .val (.int (0 : Int32)), .val (.int (2 : Int32)), .val .null, .val (.ref b3_0)] [(.int (0 : Int32)), (.ref a)])) rfl rfl (hb hby own_jdk_42_method_149_48)
  refine own_step st5 ?_
  have F5 := F_a_coder_v7.same W5
  have K5 := K3.wr W5 (Or.inl (List.mem_of_getElem? (i := 0) rfl))
  have N5 := Fr.snoc X5 N4 g_a
  show own_Goes _ _ _ _ T5 (mkF m 51 #[.val (.ref a), .val (.ref sr), .val (.int (0 : Int32)), .val (.int (2 : Int32)), .val .null, .val (.ref b3_0)] [])
  refine own_step (fun t k => XS.aloadN X5.here hx rfl (hb hby own_jdk_42_method_149_51) rfl rfl k) ?_
  show own_Goes _ _ _ _ T5 (mkF m 52 #[.val (.ref a), .val (.ref sr), .val (.int (0 : Int32)), .val (.int (2 : Int32)), .val .null, .val (.ref b3_0)] [(.ref a)])
  refine own_step (fun t k => XS.aload X5.here hx rfl (hb hby own_jdk_42_method_149_52) rfl rfl k) ?_
  show own_Goes _ _ _ _ T5 (mkF m 54 #[.val (.ref a), .val (.ref sr), .val (.int (0 : Int32)), .val (.int (2 : Int32)), .val .null, .val (.ref b3_0)] [(.ref b3_0), (.ref a)])
  have E_a_v9 := (E_a_v6.wr W5)
  have F_a_value_v10 := ((F_a_value.keep Kq3 nin0).other W5 (Or.inr (slot_ne (Or.inr (hw _ (List.mem_of_getElem? (i := 33) rfl))) (Or.inr (hw _ (List.mem_of_getElem? (i := 31) rfl))) (by decide) (t := (.array .byte)) (t' := .byte) (by decide) (by decide))))
  obtain ⟨T8, h8, X8, e8, W8, st8⟩ := putF X5 hx hZ hown (host := "") (Or.inl (hw _ (List.mem_of_getElem? (i := 32) rfl))) Via.refl e5 F_a_value_v10 E_a_v9 (Or.inr ⟨(hw _ (List.mem_of_getElem? (i := 33) rfl)), rfl, hnm⟩) (hw _ (List.mem_of_getElem? (i := 6) rfl)) (ty := (.array .byte)) (by decide) rfl rfl (g := (mkF m 54 #[.val (.ref a), .val (.ref sr), .val (.int (0 : Int32)), .val (.int (2 : Int32)), .val .null, .val (.ref b3_0)] [(.ref b3_0), (.ref a)])) rfl rfl (hb hby own_jdk_42_method_149_54)
  refine own_step st8 ?_
  have F8 := F_a_value_v10.same W8
  have K8 := K5.wr W8 (Or.inl (List.mem_of_getElem? (i := 0) rfl))
  have N8 := Fr.snoc X8 N5 g_a
  show own_Goes _ _ _ _ T8 (mkF m 57 #[.val (.ref a), .val (.ref sr), .val (.int (0 : Int32)), .val (.int (2 : Int32)), .val .null, .val (.ref b3_0)] [])
  have E_a_v11 := (E_a_v9.wr W8)
  have F5_v12 := (F5.other W8 (Or.inr (slot_ne (Or.inr (hw _ (List.mem_of_getElem? (i := 31) rfl))) (Or.inr (hw _ (List.mem_of_getElem? (i := 33) rfl))) (by decide) (t := .byte) (t' := (.array .byte)) (by decide) (by decide))))
  have q3_0'_v13 := ((q3_0'.other W5 (Ne.symm ne_a_b3_0)).other W8 (Ne.symm ne_a_b3_0))
  exact own_retV X8 hx hlk hrt (hb hby own_jdk_42_method_149_57) (by rw [e8]; exact ⟨b3_0, k3_0, rfl, N8, K8, sz_b3_0, E_a_v11, F5_v12, F8, q3_0'_v13⟩) (by decide) (by decide)
theorem own_ef10 (m : MethodId) (x0 : Addr) (x1 : Addr) : entryFrame m #[(.ref x0), (.ref x1)] 2 = mkF m 0 #[.val (.ref x0), .val (.ref x1)] [] := by first | (simp [entryFrame, mkF, argsToLocals, Value.category]; done) | rfl
theorem own_jdk_42_method_3_0 : decode jdk_42_method_3_code 0 = .ok (.aload_n 0, 1) := by decide +kernel
theorem own_jdk_42_method_3_1 : decode jdk_42_method_3_code 1 = .ok (.aload_n 1, 1) := by decide +kernel
theorem own_jdk_42_method_3_2 : decode jdk_42_method_3_code 2 = .ok (.iconst 0, 1) := by decide +kernel
theorem own_jdk_42_method_3_3 : decode jdk_42_method_3_code 3 = .ok (.aload_n 1, 1) := by decide +kernel
theorem own_jdk_42_method_3_4 : decode jdk_42_method_3_code 4 = .ok (.arraylength, 1) := by decide +kernel
theorem own_jdk_42_method_3_5 : decode jdk_42_method_3_code 5 = .ok (.aconst_null, 1) := by decide +kernel
theorem own_jdk_42_method_3_6 : decode jdk_42_method_3_code 6 = .ok (.invokespecial 27, 3) := by decide +kernel
theorem own_pd6 : parseMethodDescriptor "([CIILjava/lang/Void;)V" = some ⟨[(.array .char), .int, .int, (.object "java/lang/Void")], none⟩ := by decide +kernel
theorem own_jdk_42_method_3_9 : decode jdk_42_method_3_code 9 = .ok (.return_, 1) := by decide +kernel
set_option maxRecDepth 65536 in
set_option maxHeartbeats 40000000 in
theorem own_sinit_2 (l : Launch) (Z : State) (a0 : Array Value) (hw : ∀ d ∈ tables_1, d.before a0 Z = true) (ws : List Jvm.Cond) (a : Addr) (sr : Addr) (ks : ClassId) (c0 : Int32) (c1 : Int32) (zc : Int32) (h0 : Heap) (n0 : Nat) (Z0 : n0 ≤ h0.size) (E_a : Exa Z h0 a "java/lang/String") (F_a_value : Fld Z h0 a "java/lang/String" "value" "[B" .null) (F_a_coder : Fld Z h0 a "java/lang/String" "coder" "B" (.int (0 : Int32))) (V_sr : Arv Z h0 sr ks .char (2 : Int32) [(.int c0), (.int c1)] (.int (0 : Int32))) (S_COMPACT_STRINGS : Sta Z h0 "java/lang/String" "COMPACT_STRINGS" "Z" (.int zc)) (hc0 : ¬ ((255 : Int32) < c0)) (hc1 : ¬ ((255 : Int32) < c1)) (hz : ¬ (zc = (0 : Int32))) (g_a : n0 ≤ a) :
    own_Met l Z (⟨"java/lang/String", "<init>", "([C)V"⟩ : MethodName) jdk_42_method_3_code 2 none ws ({ frames := 3, cells := 1, slots := 2, locals := 52 } : Room) #[(.ref a), (.ref sr)] h0 (fun v h L => ∃ r : Addr, ∃ kr : ClassId, v = none ∧ Fr n0 L ∧ Keep h0 h [a] ∧ h0.size ≤ r ∧ Exa Z h a "java/lang/String" ∧ Fld Z h a "java/lang/String" "coder" "B" (.int (0 : Int32)) ∧ Fld Z h a "java/lang/String" "value" "[B" (.ref r) ∧ Arv Z h r kr .byte (2 : Int32) [(.int (c0.toInt8.toInt32)), (.int (c1.toInt8.toInt32))] (.int (0 : Int32))) := by
  refine own_body (plainFor_of_name own_pn_java_lang_String) (fun p e s m below meth c s₁ hx hby hml0 hrt hlk hown0 hnm hZ X0 e0 => ?_)
  have N0 := Fr.nil n0
  have hown : s.vm.findClass "java/lang/String" = some m.cls := hown0
  have hml : c.maxLocals = 2 := hml0
  refine own_castG (own_ef10 m a sr) ?_
  show own_Goes _ _ _ _ s₁ (mkF m 0 #[.val (.ref a), .val (.ref sr)] [])
  refine own_step (fun t k => XS.aloadN X0.here hx rfl (hb hby own_jdk_42_method_3_0) rfl rfl k) ?_
  show own_Goes _ _ _ _ s₁ (mkF m 1 #[.val (.ref a), .val (.ref sr)] [(.ref a)])
  refine own_step (fun t k => XS.aloadN X0.here hx rfl (hb hby own_jdk_42_method_3_1) rfl rfl k) ?_
  show own_Goes _ _ _ _ s₁ (mkF m 2 #[.val (.ref a), .val (.ref sr)] [(.ref sr), (.ref a)])
  refine own_step (fun t k => XS.iconst X0.here hx rfl (hb hby own_jdk_42_method_3_2) k) ?_
  show own_Goes _ _ _ _ s₁ (mkF m 3 #[.val (.ref a), .val (.ref sr)] [(.int (0 : Int32)), (.ref sr), (.ref a)])
  refine own_step (fun t k => XS.aloadN X0.here hx rfl (hb hby own_jdk_42_method_3_3) rfl rfl k) ?_
  show own_Goes _ _ _ _ s₁ (mkF m 4 #[.val (.ref a), .val (.ref sr)] [(.ref sr), (.int (0 : Int32)), (.ref sr), (.ref a)])
  refine own_step (own_alen X0 hx hZ e0 V_sr (g := (mkF m 4 #[.val (.ref a), .val (.ref sr)] [(.ref sr), (.int (0 : Int32)), (.ref sr), (.ref a)])) rfl rfl (hb hby own_jdk_42_method_3_4)) ?_
  show own_Goes _ _ _ _ s₁ (mkF m 5 #[.val (.ref a), .val (.ref sr)] [(.int (2 : Int32)), (.int (0 : Int32)), (.ref sr), (.ref a)])
  refine own_step (fun t k => XS.aconstNull X0.here hx rfl (hb hby own_jdk_42_method_3_5) k) ?_
  show own_Goes _ _ _ _ s₁ (mkF m 6 #[.val (.ref a), .val (.ref sr)] [.null, (.int (2 : Int32)), (.int (0 : Int32)), (.ref sr), (.ref a)])
  refine own_callC X0 hx hZ (y := (⟨"java/lang/String", "<init>", "([CIILjava/lang/Void;)V"⟩ : MethodName)) rfl hown (hw _ (List.mem_of_getElem? (i := 11) rfl)) (hw _ (List.mem_of_getElem? (i := 12) rfl)) (hw _ (List.mem_of_getElem? (i := 14) rfl)) (hw _ (List.mem_of_getElem? (i := 7) rfl)) (by decide) 0 (a := a) [(.ref sr), (.int (0 : Int32)), (.int (2 : Int32)), .null] [] (own_sinit4_2 l Z a0 hw [] a sr ks c0 c1 zc h0 n0 Z0 E_a F_a_value F_a_coder V_sr S_COMPACT_STRINGS hc0 hc1 hz g_a) e0 (by decide) (by decide) (by decide) (by decide) (g := (mkF m 6 #[.val (.ref a), .val (.ref sr)] [.null, (.int (2 : Int32)), (.int (0 : Int32)), (.ref sr), (.ref a)])) rfl (by rw [hml]; rfl) own_pd6 rfl rfl (by show 2 * 0 + _ ≤ _; exact Nat.le_of_eq rfl) (hb hby own_jdk_42_method_3_6) ?_
  intro T1 v1 L1 X1 hQ1
  obtain ⟨b1_0, k1_0, rfl, N1q, Kq1, zq1_0, q1_0, q1_1, q1_2, q1_3⟩ := hQ1
  have N1 := Fr.app N0 N1q
  have K1 := (Keep.refl h0 [a]).trans Kq1 (allS (Or.inl (List.mem_of_getElem? (i := 0) rfl)) all0)
  have g_b1_0 : n0 ≤ b1_0 := Nat.le_trans Z0 zq1_0
  have sz_b1_0 : h0.size ≤ b1_0 := Nat.le_trans (Keep.refl h0 [a]).1 zq1_0
  have ne_a_b1_0 : a ≠ b1_0 := Nat.ne_of_lt (Nat.lt_of_lt_of_le E_a.lt zq1_0)
  have ne_sr_b1_0 : sr ≠ b1_0 := Nat.ne_of_lt (Nat.lt_of_lt_of_le V_sr.lt zq1_0)
  have q1_0' : Exa Z T1.heap a "java/lang/String" := q1_0
  have q1_1' : Fld Z T1.heap a "java/lang/String" "coder" "B" (.int (0 : Int32)) := q1_1
  have q1_2' : Fld Z T1.heap a "java/lang/String" "value" "[B" (.ref b1_0) := q1_2
  have q1_3' : Arv Z T1.heap b1_0 k1_0 .byte (2 : Int32) [(.int (c0.toInt8.toInt32)), (.int (c1.toInt8.toInt32))] (.int (0 : Int32)) := q1_3
  show own_Goes _ _ _ _ T1 (mkF m 9 #[.val (.ref a), .val (.ref sr)] [])
  exact own_retV X1 hx hlk hrt (hb hby own_jdk_42_method_3_9) (by exact ⟨b1_0, k1_0, rfl, N1, K1, sz_b1_0, q1_0', q1_1', q1_2', q1_3'⟩) (by decide) (by decide)
theorem own_pn_com_example_polyphony_polyphony_policy_OperatorOfPinLaw : plainName "com/example/polyphony/polyphony/policy/OperatorOfPinLaw" = true := by first | (simp [plainName, overriddenIn]; done) | decide +kernel
theorem own_ef11 (m : MethodId) (x0 : Int32) (x1 : Int32) : entryFrame m #[(.int x0), (.int x1)] maxLocals = mkF m 0 #[.val (.int x0), .val (.int x1), .unset, .unset, .unset, .unset, .unset, .unset] [] := by first | (simp [entryFrame, mkF, argsToLocals, Value.category, maxLocals]; done) | rfl
theorem own_pd7 : parseMethodDescriptor "([C)V" = some ⟨[(.array .char)], none⟩ := by decide +kernel
theorem own_pd8 : parseMethodDescriptor "(Ljava/lang/String;)Lcom/example/polyphony/polyphony/policy/Operator;" = some ⟨[(.object "java/lang/String")], some (.object "com/example/polyphony/polyphony/policy/Operator")⟩ := by decide +kernel
theorem own_pd9 : parseMethodDescriptor "()Ljava/lang/String;" = some ⟨[], some (.object "java/lang/String")⟩ := by decide +kernel
theorem own_pd10 : parseMethodDescriptor "(I)Z" = some ⟨[.int], some .boolean⟩ := by decide +kernel
set_option maxRecDepth 65536 in
set_option maxHeartbeats 40000000 in
theorem own_law0 (l : Launch) (Z : State) (a0 : Array Value) (hw : ∀ d ∈ tables_1, d.before a0 Z = true) (ws : List Jvm.Cond) (p1 : Int32) (p2 : Int32) (r : Int32) (zc : Int32) (w_V : Addr) (clv : Cell) (w_EQUAL : Addr) (w_NOT_EQUAL : Addr) (w_LESS : Addr) (w_LESS_OR_EQUAL : Addr) (w_GREATER : Addr) (w_GREATER_OR_EQUAL : Addr) (y_EQUAL : Addr) (z_EQUAL : Addr) (k_EQUAL : ClassId) (h0 : Heap) (n0 : Nat) (Z0 : n0 ≤ h0.size) (S_EQUAL : Sta Z h0 "com/example/polyphony/polyphony/policy/Operator" "EQUAL" "Lcom/example/polyphony/polyphony/policy/Operator;" (.ref w_EQUAL)) (E_w_EQUAL : Exa Z h0 w_EQUAL "com/example/polyphony/polyphony/policy/Operator") (S_COMPACT_STRINGS : Sta Z h0 "java/lang/String" "COMPACT_STRINGS" "Z" (.int zc)) (S__VALUES : Sta Z h0 "com/example/polyphony/polyphony/policy/Operator" "$VALUES" "[Lcom/example/polyphony/polyphony/policy/Operator;" (.ref w_V)) (R_w_V : Arr Z h0 w_V clv (.object "com/example/polyphony/polyphony/policy/Operator")) (E_w_V : Exa Z h0 w_V "[Lcom/example/polyphony/polyphony/policy/Operator;") (F_w_EQUAL_symbol : Fld Z h0 w_EQUAL "com/example/polyphony/polyphony/policy/Operator" "symbol" "Ljava/lang/String;" (.ref y_EQUAL)) (E_y_EQUAL : Exa Z h0 y_EQUAL "java/lang/String") (F_y_EQUAL_coder : Fld Z h0 y_EQUAL "java/lang/String" "coder" "B" (.int (0 : Int32))) (F_y_EQUAL_value : Fld Z h0 y_EQUAL "java/lang/String" "value" "[B" (.ref z_EQUAL)) (V_z_EQUAL : Arv Z h0 z_EQUAL k_EQUAL .byte (2 : Int32) [(.int (61 : Int32)), (.int (61 : Int32))] (.int (0 : Int32))) (F_w_EQUAL_whenBefore : Fld Z h0 w_EQUAL "com/example/polyphony/polyphony/policy/Operator" "whenBefore" "Z" (.int (0 : Int32))) (F_w_EQUAL_whenEqual : Fld Z h0 w_EQUAL "com/example/polyphony/polyphony/policy/Operator" "whenEqual" "Z" (.int (1 : Int32))) (F_w_EQUAL_whenAfter : Fld Z h0 w_EQUAL "com/example/polyphony/polyphony/policy/Operator" "whenAfter" "Z" (.int (0 : Int32))) (F_v : FitC Z clv) (S_v : clv.slots.size = (6 : Int32).toNatClampNeg) (H_v : Has clv [(.ref w_EQUAL), (.ref w_NOT_EQUAL), (.ref w_LESS), (.ref w_LESS_OR_EQUAL), (.ref w_GREATER), (.ref w_GREATER_OR_EQUAL)] .null) (G_v : ∀ i, i < clv.slots.size → fits (.object "com/example/polyphony/polyphony/policy/Operator") ([(.ref w_EQUAL), (.ref w_NOT_EQUAL), (.ref w_LESS), (.ref w_LESS_OR_EQUAL), (.ref w_GREATER), (.ref w_GREATER_OR_EQUAL)].getD i .null) = true) (hz : ¬ (zc = (0 : Int32))) (hi : ((p1 &&& (2147483647 : Int32)) - ((p1 &&& (2147483647 : Int32)) / (6 : Int32)) * (6 : Int32)) = (0 : Int32)) (hrn : p2 < (0 : Int32) → r = (0 : Int32)) (hrz : ¬ (p2 < (0 : Int32)) → p2 = (0 : Int32) → r = (1 : Int32)) (hrp : ¬ (p2 < (0 : Int32)) → ¬ (p2 = (0 : Int32)) → r = (0 : Int32)) (ht : p2 = (0 : Int32) → r = (1 : Int32)) (hf : ¬ (p2 = (0 : Int32)) → r = (0 : Int32)) :
    own_Met l Z x code maxLocals ret ws room_1 #[(.int p1), (.int p2)] h0 (fun v h L => v = some (.int 1) ∧ Fr n0 L) := by
  refine own_body (plainFor_of_name own_pn_com_example_polyphony_polyphony_policy_OperatorOfPinLaw) (fun p e s m below meth c s₁ hx hby hml0 hrt hlk hown0 hnm hZ X0 e0 => ?_)
  have N0 := Fr.nil n0
  have hown : s.vm.findClass "com/example/polyphony/polyphony/policy/OperatorOfPinLaw" = some m.cls := hown0
  have hml : c.maxLocals = 8 := hml0
  refine own_castG (own_ef11 m p1 p2) ?_
  show own_Goes _ _ _ _ s₁ (mkF m 0 #[.val (.int p1), .val (.int p2), .unset, .unset, .unset, .unset, .unset, .unset] [])
  refine own_step (fun t k => XS.iloadN X0.here hx rfl (hb hby at_0) rfl k) ?_
  show own_Goes _ _ _ _ s₁ (mkF m 1 #[.val (.int p1), .val (.int p2), .unset, .unset, .unset, .unset, .unset, .unset] [(.int p1)])
  refine own_step (X0.ldcInt hx hown (mvT hZ (hw _ (List.mem_of_getElem? (i := 0) rfl))) (g := (mkF m 1 #[.val (.int p1), .val (.int p2), .unset, .unset, .unset, .unset, .unset, .unset] [(.int p1)])) rfl (hb hby at_1)) ?_
  show own_Goes _ _ _ _ s₁ (mkF m 3 #[.val (.int p1), .val (.int p2), .unset, .unset, .unset, .unset, .unset, .unset] [(.int (2147483647 : Int32)), (.int p1)])
  refine own_step (fun t k => XS.iand X0.here hx rfl (hb hby at_3) rfl k) ?_
  show own_Goes _ _ _ _ s₁ (mkF m 4 #[.val (.int p1), .val (.int p2), .unset, .unset, .unset, .unset, .unset, .unset] [(.int (p1 &&& (2147483647 : Int32)))])
  refine own_step (fun t k => XS.bipush X0.here hx rfl (hb hby at_4) k) ?_
  show own_Goes _ _ _ _ s₁ (mkF m 6 #[.val (.int p1), .val (.int p2), .unset, .unset, .unset, .unset, .unset, .unset] [(.int (6 : Int32)), (.int (p1 &&& (2147483647 : Int32)))])
  refine own_step (fun t k => XS.irem X0.here hx rfl (hb hby at_6) rfl (by decide) k) ?_
  show own_Goes _ _ _ _ s₁ (mkF m 7 #[.val (.int p1), .val (.int p2), .unset, .unset, .unset, .unset, .unset, .unset] [(.int ((p1 &&& (2147483647 : Int32)) - ((p1 &&& (2147483647 : Int32)) / (6 : Int32)) * (6 : Int32)))])
  rw [hi]
  show own_Goes _ _ _ _ s₁ (mkF m 7 #[.val (.int p1), .val (.int p2), .unset, .unset, .unset, .unset, .unset, .unset] [(.int (0 : Int32))])
  refine own_step (fun t k => XS.istoreN X0.here hx rfl (hb hby at_7) rfl (l' := #[.val (.int p1), .val (.int p2), .val (.int (0 : Int32)), .unset, .unset, .unset, .unset, .unset]) rfl k) ?_
  show own_Goes _ _ _ _ s₁ (mkF m 8 #[.val (.int p1), .val (.int p2), .val (.int (0 : Int32)), .unset, .unset, .unset, .unset, .unset] [])
  refine own_step (fun t k => XS.iloadN X0.here hx rfl (hb hby at_8) rfl k) ?_
  show own_Goes _ _ _ _ s₁ (mkF m 9 #[.val (.int p1), .val (.int p2), .val (.int (0 : Int32)), .unset, .unset, .unset, .unset, .unset] [(.int (0 : Int32))])
  refine own_step (fun t k => XS.ifNo X0.here hx rfl (hb hby at_9) rfl ((if0 _ _).trans (teq (show (0 : Int32) = (0 : Int32) from (by decide))).2) k) ?_
  show own_Goes _ _ _ _ s₁ (mkF m 12 #[.val (.int p1), .val (.int p2), .val (.int (0 : Int32)), .unset, .unset, .unset, .unset, .unset] [])
  refine own_step (fun t k => XS.iconst X0.here hx rfl (hb hby at_12) k) ?_
  show own_Goes _ _ _ _ s₁ (mkF m 13 #[.val (.int p1), .val (.int p2), .val (.int (0 : Int32)), .unset, .unset, .unset, .unset, .unset] [(.int (2 : Int32))])
  obtain ⟨T1, h1, k1, X1, e1, E1, A1, st1⟩ := newP X0 hx hZ (hw _ (List.mem_of_getElem? (i := 1) rfl)) e0 (g := (mkF m 13 #[.val (.int p1), .val (.int p2), .val (.int (0 : Int32)), .unset, .unset, .unset, .unset, .unset] [(.int (2 : Int32))])) rfl (hb hby at_13) rfl (by decide) (cap := 2) (by decide) (by decide) (by decide) (by decide)
  obtain ⟨b1, g1⟩ : ∃ z, z = h0.size := ⟨_, rfl⟩
  rw [← g1] at A1 st1
  refine own_step st1 ?_
  have g_b1 : n0 ≤ b1 := Nat.le_trans Z0 (Nat.le_of_eq g1.symm)
  have sz_b1 : h0.size ≤ b1 := Nat.le_trans (Keep.refl h0 []).1 (Nat.le_of_eq g1.symm)
  have ne_w_EQUAL_b1 : w_EQUAL ≠ b1 := Nat.ne_of_lt (Nat.lt_of_lt_of_le E_w_EQUAL.lt (Nat.le_of_eq g1.symm))
  have ne_w_V_b1 : w_V ≠ b1 := Nat.ne_of_lt (Nat.lt_of_lt_of_le E_w_V.lt (Nat.le_of_eq g1.symm))
  have ne_y_EQUAL_b1 : y_EQUAL ≠ b1 := Nat.ne_of_lt (Nat.lt_of_lt_of_le E_y_EQUAL.lt (Nat.le_of_eq g1.symm))
  have ne_z_EQUAL_b1 : z_EQUAL ≠ b1 := Nat.ne_of_lt (Nat.lt_of_lt_of_le V_z_EQUAL.lt (Nat.le_of_eq g1.symm))
  have K1 := (Keep.refl h0 []).ext E1
  have V_b1 : Arv Z h1 b1 k1 .char (2 : Int32) [(.int (0 : Int32)), (.int (0 : Int32))] (.int (0 : Int32)) := (Arv.new A1 (by decide)).pad (pad_rep [] (.int (0 : Int32)) 2)
  show own_Goes _ _ _ _ T1 (mkF m 15 #[.val (.int p1), .val (.int p2), .val (.int (0 : Int32)), .unset, .unset, .unset, .unset, .unset] [(.ref b1)])
  refine own_step (fun t k => XS.dup X1.here hx rfl (hb hby at_15) rfl rfl k) ?_
  show own_Goes _ _ _ _ T1 (mkF m 16 #[.val (.int p1), .val (.int p2), .val (.int (0 : Int32)), .unset, .unset, .unset, .unset, .unset] [(.ref b1), (.ref b1)])
  refine own_step (fun t k => XS.iconst X1.here hx rfl (hb hby at_16) k) ?_
  show own_Goes _ _ _ _ T1 (mkF m 17 #[.val (.int p1), .val (.int p2), .val (.int (0 : Int32)), .unset, .unset, .unset, .unset, .unset] [(.int (0 : Int32)), (.ref b1), (.ref b1)])
  refine own_step (fun t k => XS.bipush X1.here hx rfl (hb hby at_17) k) ?_
  show own_Goes _ _ _ _ T1 (mkF m 19 #[.val (.int p1), .val (.int p2), .val (.int (0 : Int32)), .unset, .unset, .unset, .unset, .unset] [(.int (61 : Int32)), (.int (0 : Int32)), (.ref b1), (.ref b1)])
  obtain ⟨T2, h2, X2, e2, W2, V2, st2⟩ := own_castore X1 hx hZ e1 V_b1 (x := (61 : Int32)) (61 : Int32) rfl (j := (0 : Int32)) ⟨by decide, by decide⟩ 0 rfl (Nat.le_of_ble_eq_true rfl) (g := (mkF m 19 #[.val (.int p1), .val (.int p2), .val (.int (0 : Int32)), .unset, .unset, .unset, .unset, .unset] [(.int (61 : Int32)), (.int (0 : Int32)), (.ref b1), (.ref b1)])) rfl rfl (hb hby at_19)
  refine own_step st2 ?_
  have K2 := K1.wr W2 (Or.inr sz_b1)
  have N2 := Fr.snoc X2 N0 g_b1
  have V2' : Arv Z h2 b1 k1 .char (2 : Int32) [(.int (61 : Int32)), (.int (0 : Int32))] (.int (0 : Int32)) := V2
  show own_Goes _ _ _ _ T2 (mkF m 20 #[.val (.int p1), .val (.int p2), .val (.int (0 : Int32)), .unset, .unset, .unset, .unset, .unset] [(.ref b1)])
  refine own_step (fun t k => XS.dup X2.here hx rfl (hb hby at_20) rfl rfl k) ?_
  show own_Goes _ _ _ _ T2 (mkF m 21 #[.val (.int p1), .val (.int p2), .val (.int (0 : Int32)), .unset, .unset, .unset, .unset, .unset] [(.ref b1), (.ref b1)])
  refine own_step (fun t k => XS.iconst X2.here hx rfl (hb hby at_21) k) ?_
  show own_Goes _ _ _ _ T2 (mkF m 22 #[.val (.int p1), .val (.int p2), .val (.int (0 : Int32)), .unset, .unset, .unset, .unset, .unset] [(.int (1 : Int32)), (.ref b1), (.ref b1)])
  refine own_step (fun t k => XS.bipush X2.here hx rfl (hb hby at_22) k) ?_
  show own_Goes _ _ _ _ T2 (mkF m 24 #[.val (.int p1), .val (.int p2), .val (.int (0 : Int32)), .unset, .unset, .unset, .unset, .unset] [(.int (61 : Int32)), (.int (1 : Int32)), (.ref b1), (.ref b1)])
  obtain ⟨T3, h3, X3, e3, W3, V3, st3⟩ := own_castore X2 hx hZ e2 V2' (x := (61 : Int32)) (61 : Int32) rfl (j := (1 : Int32)) ⟨by decide, by decide⟩ 1 rfl (Nat.le_of_ble_eq_true rfl) (g := (mkF m 24 #[.val (.int p1), .val (.int p2), .val (.int (0 : Int32)), .unset, .unset, .unset, .unset, .unset] [(.int (61 : Int32)), (.int (1 : Int32)), (.ref b1), (.ref b1)])) rfl rfl (hb hby at_24)
  refine own_step st3 ?_
  have K3 := K2.wr W3 (Or.inr sz_b1)
  have N3 := Fr.snoc X3 N2 g_b1
  have V3' : Arv Z h3 b1 k1 .char (2 : Int32) [(.int (61 : Int32)), (.int (61 : Int32))] (.int (0 : Int32)) := V3
  show own_Goes _ _ _ _ T3 (mkF m 25 #[.val (.int p1), .val (.int p2), .val (.int (0 : Int32)), .unset, .unset, .unset, .unset, .unset] [(.ref b1)])
  refine own_step (fun t k => XS.astoreN X3.here hx rfl (hb hby at_25) rfl rfl (l' := #[.val (.int p1), .val (.int p2), .val (.int (0 : Int32)), .val (.ref b1), .unset, .unset, .unset, .unset]) rfl k) ?_
  show own_Goes _ _ _ _ T3 (mkF m 26 #[.val (.int p1), .val (.int p2), .val (.int (0 : Int32)), .val (.ref b1), .unset, .unset, .unset, .unset] [])
  have S_EQUAL_v5 := (((S_EQUAL.ext E1).wr W2).wr W3)
  obtain ⟨T4, X4, e4, st4⟩ := getS2 X3 hx hZ hown (host := "") (Or.inl (hw _ (List.mem_of_getElem? (i := 2) rfl))) Via.refl e3 S_EQUAL_v5 (g := (mkF m 26 #[.val (.int p1), .val (.int p2), .val (.int (0 : Int32)), .val (.ref b1), .unset, .unset, .unset, .unset] [])) rfl (hb hby at_26)
  refine own_step st4 ?_
  show own_Goes _ _ _ _ T4 (mkF m 29 #[.val (.int p1), .val (.int p2), .val (.int (0 : Int32)), .val (.ref b1), .unset, .unset, .unset, .unset] [(.ref w_EQUAL)])
  refine own_step (fun t k => XS.astore X4.here hx rfl (hb hby at_29) rfl rfl (l' := #[.val (.int p1), .val (.int p2), .val (.int (0 : Int32)), .val (.ref b1), .val (.ref w_EQUAL), .unset, .unset, .unset]) rfl k) ?_
  show own_Goes _ _ _ _ T4 (mkF m 31 #[.val (.int p1), .val (.int p2), .val (.int (0 : Int32)), .val (.ref b1), .val (.ref w_EQUAL), .unset, .unset, .unset] [])
  refine own_step (fun t k => XS.iloadN X4.here hx rfl (hb hby at_31) rfl k) ?_
  show own_Goes _ _ _ _ T4 (mkF m 32 #[.val (.int p1), .val (.int p2), .val (.int (0 : Int32)), .val (.ref b1), .val (.ref w_EQUAL), .unset, .unset, .unset] [(.int p2)])
  have tail : own_Goes p e below (own_K s (fun v h L => v = some (.int 1) ∧ Fr n0 L) room_1.cells room_1.slots) T4 (mkF m 217 #[.val (.int p1), .val (.int p2), .val (.int (0 : Int32)), .val (.ref b1), .val (.ref w_EQUAL), .val (.int r), .unset, .unset] []) := by
    obtain ⟨T6, h6, X6, e6, E6, A6, D6, -, st6⟩ := newO X4 hx hZ hown (hw _ (List.mem_of_getElem? (i := 5) rfl)) (hw _ (List.mem_of_getElem? (i := 6) rfl)) (hw _ (List.mem_of_getElem? (i := 7) rfl)) e4 (g := (mkF m 217 #[.val (.int p1), .val (.int p2), .val (.int (0 : Int32)), .val (.ref b1), .val (.ref w_EQUAL), .val (.int r), .unset, .unset] [])) rfl (hb hby at_217) (by decide) (by decide)
    obtain ⟨b6, g6⟩ : ∃ z, z = h3.size := ⟨_, rfl⟩
    rw [← g6] at A6 D6 st6
    refine own_step st6 ?_
    have g_b6 : n0 ≤ b6 := Nat.le_trans (Nat.le_trans Z0 K3.1) (Nat.le_of_eq g6.symm)
    have sz_b6 : h0.size ≤ b6 := Nat.le_trans K3.1 (Nat.le_of_eq g6.symm)
    have E_w_EQUAL_v7 := (((E_w_EQUAL.ext E1).wr W2).wr W3)
    have ne_w_EQUAL_b6 : w_EQUAL ≠ b6 := Nat.ne_of_lt (Nat.lt_of_lt_of_le E_w_EQUAL_v7.lt (Nat.le_of_eq g6.symm))
    have E_w_V_v8 := (((E_w_V.ext E1).wr W2).wr W3)
    have ne_w_V_b6 : w_V ≠ b6 := Nat.ne_of_lt (Nat.lt_of_lt_of_le E_w_V_v8.lt (Nat.le_of_eq g6.symm))
    have E_y_EQUAL_v9 := (((E_y_EQUAL.ext E1).wr W2).wr W3)
    have ne_y_EQUAL_b6 : y_EQUAL ≠ b6 := Nat.ne_of_lt (Nat.lt_of_lt_of_le E_y_EQUAL_v9.lt (Nat.le_of_eq g6.symm))
    have V_z_EQUAL_v10 := (((V_z_EQUAL.ext E1).other W2 ne_z_EQUAL_b1).other W3 ne_z_EQUAL_b1)
    have ne_z_EQUAL_b6 : z_EQUAL ≠ b6 := Nat.ne_of_lt (Nat.lt_of_lt_of_le V_z_EQUAL_v10.lt (Nat.le_of_eq g6.symm))
    have ne_b1_b6 : b1 ≠ b6 := Nat.ne_of_lt (Nat.lt_of_lt_of_le V3'.lt (Nat.le_of_eq g6.symm))
    have K6 := K3.ext E6
    have F_b6_coder : Fld Z h6 b6 "java/lang/String" "coder" "B" (.int (0 : Int32)) := D6 (Or.inr (hw _ (List.mem_of_getElem? (i := 31) rfl))) (ty := .byte) (by decide)
    have F_b6_value : Fld Z h6 b6 "java/lang/String" "value" "[B" .null := D6 (Or.inr (hw _ (List.mem_of_getElem? (i := 33) rfl))) (ty := (.array .byte)) (by decide)
    show own_Goes _ _ _ _ T6 (mkF m 220 #[.val (.int p1), .val (.int p2), .val (.int (0 : Int32)), .val (.ref b1), .val (.ref w_EQUAL), .val (.int r), .unset, .unset] [(.ref b6)])
    refine own_step (fun t k => XS.dup X6.here hx rfl (hb hby at_220) rfl rfl k) ?_
    show own_Goes _ _ _ _ T6 (mkF m 221 #[.val (.int p1), .val (.int p2), .val (.int (0 : Int32)), .val (.ref b1), .val (.ref w_EQUAL), .val (.int r), .unset, .unset] [(.ref b6), (.ref b6)])
    refine own_step (fun t k => XS.aloadN X6.here hx rfl (hb hby at_221) rfl rfl k) ?_
    show own_Goes _ _ _ _ T6 (mkF m 222 #[.val (.int p1), .val (.int p2), .val (.int (0 : Int32)), .val (.ref b1), .val (.ref w_EQUAL), .val (.int r), .unset, .unset] [(.ref b1), (.ref b6), (.ref b6)])
    have V3'_v11 := (V3'.ext E6)
    have S_COMPACT_STRINGS_v12 := ((((S_COMPACT_STRINGS.ext E1).wr W2).wr W3).ext E6)
    refine own_callC X6 hx hZ (y := (⟨"java/lang/String", "<init>", "([C)V"⟩ : MethodName)) rfl hown (hw _ (List.mem_of_getElem? (i := 8) rfl)) (hw _ (List.mem_of_getElem? (i := 9) rfl)) (hw _ (List.mem_of_getElem? (i := 10) rfl)) (hw _ (List.mem_of_getElem? (i := 7) rfl)) (by decide) 1 (a := b6) [(.ref b1)] [(.ref b6)] (own_sinit_2 l Z a0 hw [] b6 b1 k1 (61 : Int32) (61 : Int32) zc h6 n0 (Nat.le_trans Z0 K6.1) A6 F_b6_value F_b6_coder V3'_v11 S_COMPACT_STRINGS_v12 (by decide) (by decide) hz g_b6) e6 (by decide) (by decide) (by decide) (by decide) (g := (mkF m 222 #[.val (.int p1), .val (.int p2), .val (.int (0 : Int32)), .val (.ref b1), .val (.ref w_EQUAL), .val (.int r), .unset, .unset] [(.ref b1), (.ref b6), (.ref b6)])) rfl (by rw [hml]; rfl) own_pd7 rfl rfl (by show 2 * 0 + _ ≤ _; exact Nat.le_of_eq rfl) (hb hby at_222) ?_
    intro T13 v13 L13 X13 hQ13
    have E_w_EQUAL_v14 := (E_w_EQUAL_v7.ext E6)
    have E_w_V_v15 := (E_w_V_v8.ext E6)
    have E_y_EQUAL_v16 := (E_y_EQUAL_v9.ext E6)
    have V_z_EQUAL_v17 := (V_z_EQUAL_v10.ext E6)
    obtain ⟨b13_0, k13_0, rfl, N13q, Kq13, zq13_0, q13_0, q13_1, q13_2, q13_3⟩ := hQ13
    have N13 := Fr.app N3 N13q
    have K13 := K6.trans Kq13 (allS (Or.inr sz_b6) all0)
    have g_b13_0 : n0 ≤ b13_0 := Nat.le_trans (Nat.le_trans Z0 K6.1) zq13_0
    have sz_b13_0 : h0.size ≤ b13_0 := Nat.le_trans K6.1 zq13_0
    have ne_w_EQUAL_b13_0 : w_EQUAL ≠ b13_0 := Nat.ne_of_lt (Nat.lt_of_lt_of_le E_w_EQUAL_v14.lt zq13_0)
    have ne_w_V_b13_0 : w_V ≠ b13_0 := Nat.ne_of_lt (Nat.lt_of_lt_of_le E_w_V_v15.lt zq13_0)
    have ne_y_EQUAL_b13_0 : y_EQUAL ≠ b13_0 := Nat.ne_of_lt (Nat.lt_of_lt_of_le E_y_EQUAL_v16.lt zq13_0)
    have ne_z_EQUAL_b13_0 : z_EQUAL ≠ b13_0 := Nat.ne_of_lt (Nat.lt_of_lt_of_le V_z_EQUAL_v17.lt zq13_0)
    have ne_b1_b13_0 : b1 ≠ b13_0 := Nat.ne_of_lt (Nat.lt_of_lt_of_le V3'_v11.lt zq13_0)
    have ne_b6_b13_0 : b6 ≠ b13_0 := Nat.ne_of_lt (Nat.lt_of_lt_of_le A6.lt zq13_0)
    have q13_0' : Exa Z T13.heap b6 "java/lang/String" := q13_0
    have q13_1' : Fld Z T13.heap b6 "java/lang/String" "coder" "B" (.int (0 : Int32)) := q13_1
    have q13_2' : Fld Z T13.heap b6 "java/lang/String" "value" "[B" (.ref b13_0) := q13_2
    have q13_3' : Arv Z T13.heap b13_0 k13_0 .byte (2 : Int32) [(.int (61 : Int32)), (.int (61 : Int32))] (.int (0 : Int32)) := q13_3
    show own_Goes _ _ _ _ T13 (mkF m 225 #[.val (.int p1), .val (.int p2), .val (.int (0 : Int32)), .val (.ref b1), .val (.ref w_EQUAL), .val (.int r), .unset, .unset] [(.ref b6)])
    refine own_step (fun t k => XS.astore X13.here hx rfl (hb hby at_225) rfl rfl (l' := #[.val (.int p1), .val (.int p2), .val (.int (0 : Int32)), .val (.ref b1), .val (.ref w_EQUAL), .val (.int r), .val (.ref b6), .unset]) rfl k) ?_
    show own_Goes _ _ _ _ T13 (mkF m 227 #[.val (.int p1), .val (.int p2), .val (.int (0 : Int32)), .val (.ref b1), .val (.ref w_EQUAL), .val (.int r), .val (.ref b6), .unset] [])
    refine own_step (fun t k => XS.aload X13.here hx rfl (hb hby at_227) rfl rfl k) ?_
    show own_Goes _ _ _ _ T13 (mkF m 229 #[.val (.int p1), .val (.int p2), .val (.int (0 : Int32)), .val (.ref b1), .val (.ref w_EQUAL), .val (.int r), .val (.ref b6), .unset] [(.ref b6)])
    have S_COMPACT_STRINGS_v18 := (own_staKeep S_COMPACT_STRINGS_v12 Kq13 (allS (own_plainE A6) all0))
    have S__VALUES_v19 := (own_staKeep ((((S__VALUES.ext E1).wr W2).wr W3).ext E6) Kq13 (allS (own_plainE A6) all0))
    have R_w_V_v20 := (own_arrKeep ((((R_w_V.ext E1).other W2 ne_w_V_b1).other W3 ne_w_V_b1).ext E6) Kq13 (ninS ne_w_V_b6 nin0))
    have E_w_V_v21 := (E_w_V_v15.keep Kq13)
    have F_w_EQUAL_symbol_v22 := (((((F_w_EQUAL_symbol.ext E1).other W2 (Or.inl ne_w_EQUAL_b1)).other W3 (Or.inl ne_w_EQUAL_b1)).ext E6).keep Kq13 (ninS ne_w_EQUAL_b6 nin0))
    have E_y_EQUAL_v23 := (E_y_EQUAL_v16.keep Kq13)
    have F_y_EQUAL_coder_v24 := (((((F_y_EQUAL_coder.ext E1).other W2 (Or.inl ne_y_EQUAL_b1)).other W3 (Or.inl ne_y_EQUAL_b1)).ext E6).keep Kq13 (ninS ne_y_EQUAL_b6 nin0))
    have F_y_EQUAL_value_v25 := (((((F_y_EQUAL_value.ext E1).other W2 (Or.inl ne_y_EQUAL_b1)).other W3 (Or.inl ne_y_EQUAL_b1)).ext E6).keep Kq13 (ninS ne_y_EQUAL_b6 nin0))
    have V_z_EQUAL_v26 := (V_z_EQUAL_v17.keep Kq13 (ninS ne_z_EQUAL_b6 nin0))
    refine own_callS X13 hx hZ (y := (⟨"com/example/polyphony/polyphony/policy/Operator", "of", "(Ljava/lang/String;)Lcom/example/polyphony/polyphony/policy/Operator;"⟩ : MethodName)) hown (hw _ (List.mem_of_getElem? (i := 34) rfl)) (hw _ (List.mem_of_getElem? (i := 35) rfl)) (hw _ (List.mem_of_getElem? (i := 3) rfl)) (hw _ (List.mem_of_getElem? (i := 36) rfl)) (by decide) 0 [(.ref b6)] [] (own_of0 l Z a0 hw [] b6 b13_0 k13_0 zc w_V clv w_EQUAL w_NOT_EQUAL w_LESS w_LESS_OR_EQUAL w_GREATER w_GREATER_OR_EQUAL y_EQUAL z_EQUAL k_EQUAL T13.heap n0 (Nat.le_trans Z0 K13.1) q13_0' q13_1' q13_2' q13_3' S_COMPACT_STRINGS_v18 S__VALUES_v19 R_w_V_v20 E_w_V_v21 F_w_EQUAL_symbol_v22 E_y_EQUAL_v23 F_y_EQUAL_coder_v24 F_y_EQUAL_value_v25 V_z_EQUAL_v26 F_v S_v H_v G_v hz ne_y_EQUAL_b6) rfl (by decide) (by decide) (by decide) (by decide) (g := (mkF m 229 #[.val (.int p1), .val (.int p2), .val (.int (0 : Int32)), .val (.ref b1), .val (.ref w_EQUAL), .val (.int r), .val (.ref b6), .unset] [(.ref b6)])) rfl (by rw [hml]; rfl) own_pd8 rfl rfl (by show 2 * 0 + _ ≤ _; exact Nat.le_of_eq rfl) (hb hby at_229) ?_
    intro T27 v27 L27 X27 hQ27
    have E_w_EQUAL_v28 := (E_w_EQUAL_v14.keep Kq13)
    have V3'_v29 := (V3'_v11.keep Kq13 (ninS ne_b1_b6 nin0))
    obtain ⟨rfl, N27q, Kq27⟩ := hQ27
    have N27 := Fr.app N13 N27q
    have K27 := K13.trans Kq27 all0
    show own_Goes _ _ _ _ T27 (mkF m 232 #[.val (.int p1), .val (.int p2), .val (.int (0 : Int32)), .val (.ref b1), .val (.ref w_EQUAL), .val (.int r), .val (.ref b6), .unset] [(.ref w_EQUAL)])
    refine own_step (fun t k => XS.astore X27.here hx rfl (hb hby at_232) rfl rfl (l' := #[.val (.int p1), .val (.int p2), .val (.int (0 : Int32)), .val (.ref b1), .val (.ref w_EQUAL), .val (.int r), .val (.ref b6), .val (.ref w_EQUAL)]) rfl k) ?_
    show own_Goes _ _ _ _ T27 (mkF m 234 #[.val (.int p1), .val (.int p2), .val (.int (0 : Int32)), .val (.ref b1), .val (.ref w_EQUAL), .val (.int r), .val (.ref b6), .val (.ref w_EQUAL)] [])
    refine own_step (fun t k => XS.aload X27.here hx rfl (hb hby at_234) rfl rfl k) ?_
    show own_Goes _ _ _ _ T27 (mkF m 236 #[.val (.int p1), .val (.int p2), .val (.int (0 : Int32)), .val (.ref b1), .val (.ref w_EQUAL), .val (.int r), .val (.ref b6), .val (.ref w_EQUAL)] [(.ref w_EQUAL)])
    refine own_step (fun t k => XS.aload X27.here hx rfl (hb hby at_236) rfl rfl k) ?_
    show own_Goes _ _ _ _ T27 (mkF m 238 #[.val (.int p1), .val (.int p2), .val (.int (0 : Int32)), .val (.ref b1), .val (.ref w_EQUAL), .val (.int r), .val (.ref b6), .val (.ref w_EQUAL)] [(.ref w_EQUAL), (.ref w_EQUAL)])
    refine own_step (fun t k => Jvm.RoadKit.acmp (g := (mkF m 238 #[.val (.int p1), .val (.int p2), .val (.int (0 : Int32)), .val (.ref b1), .val (.ref w_EQUAL), .val (.int r), .val (.ref b6), .val (.ref w_EQUAL)] [(.ref w_EQUAL), (.ref w_EQUAL)])) X27 hx rfl rfl rfl (pc0 := 238) (pc' := 241) (same := true) rfl (hb hby at_238) rfl (decide_eq_true rfl) (by decide) (by decide) k) ?_
    show own_Goes _ _ _ _ T27 (mkF m 241 #[.val (.int p1), .val (.int p2), .val (.int (0 : Int32)), .val (.ref b1), .val (.ref w_EQUAL), .val (.int r), .val (.ref b6), .val (.ref w_EQUAL)] [])
    refine own_step (fun t k => XS.aload X27.here hx rfl (hb hby at_241) rfl rfl k) ?_
    show own_Goes _ _ _ _ T27 (mkF m 243 #[.val (.int p1), .val (.int p2), .val (.int (0 : Int32)), .val (.ref b1), .val (.ref w_EQUAL), .val (.int r), .val (.ref b6), .val (.ref w_EQUAL)] [(.ref w_EQUAL)])
    have F_w_EQUAL_symbol_v30 := (F_w_EQUAL_symbol_v22.keep Kq27 nin0)
    have E_w_EQUAL_v32 := (E_w_EQUAL_v28.keep Kq27)
    refine own_callV X27 hx hZ (y := (⟨"com/example/polyphony/polyphony/policy/Operator", "symbol", "()Ljava/lang/String;"⟩ : MethodName)) (z := (⟨"com/example/polyphony/polyphony/policy/Operator", "symbol", "()Ljava/lang/String;"⟩ : MethodName)) hown (hw _ (List.mem_of_getElem? (i := 69) rfl)) (hw _ (List.mem_of_getElem? (i := 70) rfl)) (notFace_of_selects (args := #[]) (mvT hZ (hw _ (List.mem_of_getElem? (i := 72) rfl)))) (hw _ (List.mem_of_getElem? (i := 72) rfl)) (hw _ (List.mem_of_getElem? (i := 71) rfl)) (hw _ (List.mem_of_getElem? (i := 73) rfl)) (hw _ (List.mem_of_getElem? (i := 3) rfl)) (by decide) 0 E_w_EQUAL_v32 [] [] (own_symbol l Z a0 hw [] w_EQUAL y_EQUAL T27.heap n0 (Nat.le_trans Z0 K27.1) F_w_EQUAL_symbol_v30) rfl (by decide) (by decide) (by decide) (by decide) (g := (mkF m 243 #[.val (.int p1), .val (.int p2), .val (.int (0 : Int32)), .val (.ref b1), .val (.ref w_EQUAL), .val (.int r), .val (.ref b6), .val (.ref w_EQUAL)] [(.ref w_EQUAL)])) rfl (by rw [hml]; rfl) own_pd9 rfl rfl (by show 2 * 0 + _ ≤ _; exact Nat.le_of_eq rfl) (hb hby at_243) ?_
    intro T31 v31 L31 X31 hQ31
    obtain ⟨rfl, N31q, e31⟩ := hQ31
    have N31 := Fr.app N27 N31q
    show own_Goes _ _ _ _ T31 (mkF m 246 #[.val (.int p1), .val (.int p2), .val (.int (0 : Int32)), .val (.ref b1), .val (.ref w_EQUAL), .val (.int r), .val (.ref b6), .val (.ref w_EQUAL)] [(.ref y_EQUAL)])
    refine own_step (fun t k => XS.aload X31.here hx rfl (hb hby at_246) rfl rfl k) ?_
    show own_Goes _ _ _ _ T31 (mkF m 248 #[.val (.int p1), .val (.int p2), .val (.int (0 : Int32)), .val (.ref b1), .val (.ref w_EQUAL), .val (.int r), .val (.ref b6), .val (.ref w_EQUAL)] [(.ref b6), (.ref y_EQUAL)])
    have q13_0'_v33 := (q13_0'.keep Kq27)
    have F_y_EQUAL_coder_v34 := (F_y_EQUAL_coder_v24.keep Kq27 nin0)
    have q13_1'_v35 := (q13_1'.keep Kq27 nin0)
    have F_y_EQUAL_value_v36 := (F_y_EQUAL_value_v25.keep Kq27 nin0)
    have q13_2'_v37 := (q13_2'.keep Kq27 nin0)
    have V_z_EQUAL_v38 := (V_z_EQUAL_v26.keep Kq27 nin0)
    have q13_3'_v39 := (q13_3'.keep Kq27 nin0)
    have S_COMPACT_STRINGS_v40 := (own_staKeep S_COMPACT_STRINGS_v18 Kq27 all0)
    have E_y_EQUAL_v42 := (E_y_EQUAL_v23.keep Kq27)
    refine own_callV X31 hx hZ (y := (⟨"java/lang/String", "equals", "(Ljava/lang/Object;)Z"⟩ : MethodName)) (z := (⟨"java/lang/String", "equals", "(Ljava/lang/Object;)Z"⟩ : MethodName)) hown (hw _ (List.mem_of_getElem? (i := 74) rfl)) (hw _ (List.mem_of_getElem? (i := 60) rfl)) (notFace_of_selects (args := #[]) (mvT hZ (hw _ (List.mem_of_getElem? (i := 62) rfl)))) (hw _ (List.mem_of_getElem? (i := 62) rfl)) (hw _ (List.mem_of_getElem? (i := 61) rfl)) (hw _ (List.mem_of_getElem? (i := 63) rfl)) (hw _ (List.mem_of_getElem? (i := 7) rfl)) (by decide) 0 E_y_EQUAL_v42 [(.ref b6)] [] (own_seq_22eq l Z a0 hw [] y_EQUAL b6 z_EQUAL b13_0 k_EQUAL k13_0 (61 : Int32) (61 : Int32) (61 : Int32) (61 : Int32) zc T27.heap n0 (Nat.le_trans Z0 K27.1) q13_0'_v33 F_y_EQUAL_coder_v34 q13_1'_v35 F_y_EQUAL_value_v36 q13_2'_v37 V_z_EQUAL_v38 q13_3'_v39 S_COMPACT_STRINGS_v40 (by decide) (by decide) hz ne_y_EQUAL_b6) e31 (by decide) (by decide) (by decide) (by decide) (g := (mkF m 248 #[.val (.int p1), .val (.int p2), .val (.int (0 : Int32)), .val (.ref b1), .val (.ref w_EQUAL), .val (.int r), .val (.ref b6), .val (.ref w_EQUAL)] [(.ref b6), (.ref y_EQUAL)])) rfl (by rw [hml]; rfl) own_pd2 rfl rfl (by show 2 * 0 + _ ≤ _; exact Nat.le_of_eq rfl) (hb hby at_248) ?_
    intro T41 v41 L41 X41 hQ41
    obtain ⟨rfl, N41q, e41⟩ := hQ41
    have N41 := Fr.app N31 N41q
    show own_Goes _ _ _ _ T41 (mkF m 251 #[.val (.int p1), .val (.int p2), .val (.int (0 : Int32)), .val (.ref b1), .val (.ref w_EQUAL), .val (.int r), .val (.ref b6), .val (.ref w_EQUAL)] [(.int (1 : Int32))])
    refine own_step (fun t k => XS.ifNo X41.here hx rfl (hb hby at_251) rfl ((if0 _ _).trans (feq (show ¬ ((1 : Int32) = (0 : Int32)) from (by decide))).1) k) ?_
    show own_Goes _ _ _ _ T41 (mkF m 254 #[.val (.int p1), .val (.int p2), .val (.int (0 : Int32)), .val (.ref b1), .val (.ref w_EQUAL), .val (.int r), .val (.ref b6), .val (.ref w_EQUAL)] [])
    refine own_step (fun t k => XS.aload X41.here hx rfl (hb hby at_254) rfl rfl k) ?_
    show own_Goes _ _ _ _ T41 (mkF m 256 #[.val (.int p1), .val (.int p2), .val (.int (0 : Int32)), .val (.ref b1), .val (.ref w_EQUAL), .val (.int r), .val (.ref b6), .val (.ref w_EQUAL)] [(.ref w_EQUAL)])
    refine own_step (fun t k => XS.iloadN X41.here hx rfl (hb hby at_256) rfl k) ?_
    show own_Goes _ _ _ _ T41 (mkF m 257 #[.val (.int p1), .val (.int p2), .val (.int (0 : Int32)), .val (.ref b1), .val (.ref w_EQUAL), .val (.int r), .val (.ref b6), .val (.ref w_EQUAL)] [(.int p2), (.ref w_EQUAL)])
    have F_w_EQUAL_whenBefore_v43 := ((((((F_w_EQUAL_whenBefore.ext E1).other W2 (Or.inl ne_w_EQUAL_b1)).other W3 (Or.inl ne_w_EQUAL_b1)).ext E6).keep Kq13 (ninS ne_w_EQUAL_b6 nin0)).keep Kq27 nin0)
    have F_w_EQUAL_whenEqual_v44 := ((((((F_w_EQUAL_whenEqual.ext E1).other W2 (Or.inl ne_w_EQUAL_b1)).other W3 (Or.inl ne_w_EQUAL_b1)).ext E6).keep Kq13 (ninS ne_w_EQUAL_b6 nin0)).keep Kq27 nin0)
    have F_w_EQUAL_whenAfter_v45 := ((((((F_w_EQUAL_whenAfter.ext E1).other W2 (Or.inl ne_w_EQUAL_b1)).other W3 (Or.inl ne_w_EQUAL_b1)).ext E6).keep Kq13 (ninS ne_w_EQUAL_b6 nin0)).keep Kq27 nin0)
    refine own_callV X41 hx hZ (y := (⟨"com/example/polyphony/polyphony/policy/Operator", "holds", "(I)Z"⟩ : MethodName)) (z := (⟨"com/example/polyphony/polyphony/policy/Operator", "holds", "(I)Z"⟩ : MethodName)) hown (hw _ (List.mem_of_getElem? (i := 75) rfl)) (hw _ (List.mem_of_getElem? (i := 76) rfl)) (notFace_of_selects (args := #[]) (mvT hZ (hw _ (List.mem_of_getElem? (i := 78) rfl)))) (hw _ (List.mem_of_getElem? (i := 78) rfl)) (hw _ (List.mem_of_getElem? (i := 77) rfl)) (hw _ (List.mem_of_getElem? (i := 79) rfl)) (hw _ (List.mem_of_getElem? (i := 3) rfl)) (by decide) 0 E_w_EQUAL_v32 [(.int p2)] [] (own_holds_EQUAL l Z a0 hw [] w_EQUAL p2 r T27.heap n0 (Nat.le_trans Z0 K27.1) F_w_EQUAL_whenBefore_v43 F_w_EQUAL_whenEqual_v44 F_w_EQUAL_whenAfter_v45 hrn hrz hrp) e41 (by decide) (by decide) (by decide) (by decide) (g := (mkF m 257 #[.val (.int p1), .val (.int p2), .val (.int (0 : Int32)), .val (.ref b1), .val (.ref w_EQUAL), .val (.int r), .val (.ref b6), .val (.ref w_EQUAL)] [(.int p2), (.ref w_EQUAL)])) rfl (by rw [hml]; rfl) own_pd10 rfl rfl (by show 2 * 0 + _ ≤ _; exact Nat.le_of_eq rfl) (hb hby at_257) ?_
    intro T46 v46 L46 X46 hQ46
    obtain ⟨rfl, N46q, e46⟩ := hQ46
    have N46 := Fr.app N41 N46q
    show own_Goes _ _ _ _ T46 (mkF m 260 #[.val (.int p1), .val (.int p2), .val (.int (0 : Int32)), .val (.ref b1), .val (.ref w_EQUAL), .val (.int r), .val (.ref b6), .val (.ref w_EQUAL)] [(.int r)])
    refine own_step (fun t k => XS.iload X46.here hx rfl (hb hby at_260) rfl k) ?_
    show own_Goes _ _ _ _ T46 (mkF m 262 #[.val (.int p1), .val (.int p2), .val (.int (0 : Int32)), .val (.ref b1), .val (.ref w_EQUAL), .val (.int r), .val (.ref b6), .val (.ref w_EQUAL)] [(.int r), (.int r)])
    refine own_step (fun t k => XS.icmpNo X46.here hx rfl (hb hby at_262) rfl (teq (show r = r from rfl)).2 k) ?_
    show own_Goes _ _ _ _ T46 (mkF m 265 #[.val (.int p1), .val (.int p2), .val (.int (0 : Int32)), .val (.ref b1), .val (.ref w_EQUAL), .val (.int r), .val (.ref b6), .val (.ref w_EQUAL)] [])
    refine own_step (fun t k => XS.iconst X46.here hx rfl (hb hby at_265) k) ?_
    show own_Goes _ _ _ _ T46 (mkF m 266 #[.val (.int p1), .val (.int p2), .val (.int (0 : Int32)), .val (.ref b1), .val (.ref w_EQUAL), .val (.int r), .val (.ref b6), .val (.ref w_EQUAL)] [(.int (1 : Int32))])
    refine own_step (fun t k => XS.goto X46.here hx rfl (pc0 := 266) (pc' := 270) rfl (hb hby at_266) (by decide) (by decide) k) ?_
    show own_Goes _ _ _ _ T46 (mkF m 270 #[.val (.int p1), .val (.int p2), .val (.int (0 : Int32)), .val (.ref b1), .val (.ref w_EQUAL), .val (.int r), .val (.ref b6), .val (.ref w_EQUAL)] [(.int (1 : Int32))])
    exact own_retN X46 hx hlk (t := .boolean) hrt (by simp) (hb hby at_270) ⟨rfl, N46⟩ (by decide) (by decide)
  by_cases hc32_47 : p2 = (0 : Int32)
  · refine own_step (fun t k => XS.ifNo X4.here hx rfl (hb hby at_32) rfl ((if0 _ _).trans (teq (show p2 = (0 : Int32) from hc32_47)).2) k) ?_
    show own_Goes _ _ _ _ T4 (mkF m 35 #[.val (.int p1), .val (.int p2), .val (.int (0 : Int32)), .val (.ref b1), .val (.ref w_EQUAL), .unset, .unset, .unset] [])
    refine own_step (fun t k => XS.iconst X4.here hx rfl (hb hby at_35) k) ?_
    show own_Goes _ _ _ _ T4 (mkF m 36 #[.val (.int p1), .val (.int p2), .val (.int (0 : Int32)), .val (.ref b1), .val (.ref w_EQUAL), .unset, .unset, .unset] [(.int (1 : Int32))])
    refine own_step (fun t k => XS.goto X4.here hx rfl (pc0 := 36) (pc' := 40) rfl (hb hby at_36) (by decide) (by decide) k) ?_
    show own_Goes _ _ _ _ T4 (mkF m 40 #[.val (.int p1), .val (.int p2), .val (.int (0 : Int32)), .val (.ref b1), .val (.ref w_EQUAL), .unset, .unset, .unset] [(.int (1 : Int32))])
    refine own_step (fun t k => XS.istore X4.here hx rfl (hb hby at_40) rfl (l' := #[.val (.int p1), .val (.int p2), .val (.int (0 : Int32)), .val (.ref b1), .val (.ref w_EQUAL), .val (.int (1 : Int32)), .unset, .unset]) rfl k) ?_
    show own_Goes _ _ _ _ T4 (mkF m 42 #[.val (.int p1), .val (.int p2), .val (.int (0 : Int32)), .val (.ref b1), .val (.ref w_EQUAL), .val (.int (1 : Int32)), .unset, .unset] [])
    refine own_step (fun t k => XS.goto X4.here hx rfl (pc0 := 42) (pc' := 217) rfl (hb hby at_42) (by decide) (by decide) k) ?_
    show own_Goes _ _ _ _ T4 (mkF m 217 #[.val (.int p1), .val (.int p2), .val (.int (0 : Int32)), .val (.ref b1), .val (.ref w_EQUAL), .val (.int (1 : Int32)), .unset, .unset] [])
    obtain rfl : r = (1 : Int32) := ht hc32_47
    exact tail
  · refine own_step (fun t k => XS.ifYes X4.here hx rfl (pc0 := 32) (pc' := 39) rfl (hb hby at_32) rfl ((if0 _ _).trans (feq (show ¬ (p2 = (0 : Int32)) from hc32_47)).2) (by decide) (by decide) k) ?_
    show own_Goes _ _ _ _ T4 (mkF m 39 #[.val (.int p1), .val (.int p2), .val (.int (0 : Int32)), .val (.ref b1), .val (.ref w_EQUAL), .unset, .unset, .unset] [])
    refine own_step (fun t k => XS.iconst X4.here hx rfl (hb hby at_39) k) ?_
    show own_Goes _ _ _ _ T4 (mkF m 40 #[.val (.int p1), .val (.int p2), .val (.int (0 : Int32)), .val (.ref b1), .val (.ref w_EQUAL), .unset, .unset, .unset] [(.int (0 : Int32))])
    refine own_step (fun t k => XS.istore X4.here hx rfl (hb hby at_40) rfl (l' := #[.val (.int p1), .val (.int p2), .val (.int (0 : Int32)), .val (.ref b1), .val (.ref w_EQUAL), .val (.int (0 : Int32)), .unset, .unset]) rfl k) ?_
    show own_Goes _ _ _ _ T4 (mkF m 42 #[.val (.int p1), .val (.int p2), .val (.int (0 : Int32)), .val (.ref b1), .val (.ref w_EQUAL), .val (.int (0 : Int32)), .unset, .unset] [])
    refine own_step (fun t k => XS.goto X4.here hx rfl (pc0 := 42) (pc' := 217) rfl (hb hby at_42) (by decide) (by decide) k) ?_
    show own_Goes _ _ _ _ T4 (mkF m 217 #[.val (.int p1), .val (.int p2), .val (.int (0 : Int32)), .val (.ref b1), .val (.ref w_EQUAL), .val (.int (0 : Int32)), .unset, .unset] [])
    obtain rfl : r = (0 : Int32) := hf hc32_47
    exact tail
set_option maxRecDepth 65536 in
set_option maxHeartbeats 40000000 in
theorem own_law1 (l : Launch) (Z : State) (a0 : Array Value) (hw : ∀ d ∈ tables_1, d.before a0 Z = true) (ws : List Jvm.Cond) (p1 : Int32) (p2 : Int32) (r : Int32) (zc : Int32) (w_V : Addr) (clv : Cell) (w_EQUAL : Addr) (w_NOT_EQUAL : Addr) (w_LESS : Addr) (w_LESS_OR_EQUAL : Addr) (w_GREATER : Addr) (w_GREATER_OR_EQUAL : Addr) (y_EQUAL : Addr) (z_EQUAL : Addr) (k_EQUAL : ClassId) (y_NOT_EQUAL : Addr) (z_NOT_EQUAL : Addr) (k_NOT_EQUAL : ClassId) (h0 : Heap) (n0 : Nat) (Z0 : n0 ≤ h0.size) (S_NOT_EQUAL : Sta Z h0 "com/example/polyphony/polyphony/policy/Operator" "NOT_EQUAL" "Lcom/example/polyphony/polyphony/policy/Operator;" (.ref w_NOT_EQUAL)) (E_w_NOT_EQUAL : Exa Z h0 w_NOT_EQUAL "com/example/polyphony/polyphony/policy/Operator") (S_COMPACT_STRINGS : Sta Z h0 "java/lang/String" "COMPACT_STRINGS" "Z" (.int zc)) (S__VALUES : Sta Z h0 "com/example/polyphony/polyphony/policy/Operator" "$VALUES" "[Lcom/example/polyphony/polyphony/policy/Operator;" (.ref w_V)) (R_w_V : Arr Z h0 w_V clv (.object "com/example/polyphony/polyphony/policy/Operator")) (E_w_V : Exa Z h0 w_V "[Lcom/example/polyphony/polyphony/policy/Operator;") (F_w_EQUAL_symbol : Fld Z h0 w_EQUAL "com/example/polyphony/polyphony/policy/Operator" "symbol" "Ljava/lang/String;" (.ref y_EQUAL)) (E_y_EQUAL : Exa Z h0 y_EQUAL "java/lang/String") (F_y_EQUAL_coder : Fld Z h0 y_EQUAL "java/lang/String" "coder" "B" (.int (0 : Int32))) (F_y_EQUAL_value : Fld Z h0 y_EQUAL "java/lang/String" "value" "[B" (.ref z_EQUAL)) (V_z_EQUAL : Arv Z h0 z_EQUAL k_EQUAL .byte (2 : Int32) [(.int (61 : Int32)), (.int (61 : Int32))] (.int (0 : Int32))) (F_w_NOT_EQUAL_symbol : Fld Z h0 w_NOT_EQUAL "com/example/polyphony/polyphony/policy/Operator" "symbol" "Ljava/lang/String;" (.ref y_NOT_EQUAL)) (E_y_NOT_EQUAL : Exa Z h0 y_NOT_EQUAL "java/lang/String") (F_y_NOT_EQUAL_coder : Fld Z h0 y_NOT_EQUAL "java/lang/String" "coder" "B" (.int (0 : Int32))) (F_y_NOT_EQUAL_value : Fld Z h0 y_NOT_EQUAL "java/lang/String" "value" "[B" (.ref z_NOT_EQUAL)) (V_z_NOT_EQUAL : Arv Z h0 z_NOT_EQUAL k_NOT_EQUAL .byte (2 : Int32) [(.int (33 : Int32)), (.int (61 : Int32))] (.int (0 : Int32))) (F_w_NOT_EQUAL_whenBefore : Fld Z h0 w_NOT_EQUAL "com/example/polyphony/polyphony/policy/Operator" "whenBefore" "Z" (.int (1 : Int32))) (F_w_NOT_EQUAL_whenEqual : Fld Z h0 w_NOT_EQUAL "com/example/polyphony/polyphony/policy/Operator" "whenEqual" "Z" (.int (0 : Int32))) (F_w_NOT_EQUAL_whenAfter : Fld Z h0 w_NOT_EQUAL "com/example/polyphony/polyphony/policy/Operator" "whenAfter" "Z" (.int (1 : Int32))) (F_v : FitC Z clv) (S_v : clv.slots.size = (6 : Int32).toNatClampNeg) (H_v : Has clv [(.ref w_EQUAL), (.ref w_NOT_EQUAL), (.ref w_LESS), (.ref w_LESS_OR_EQUAL), (.ref w_GREATER), (.ref w_GREATER_OR_EQUAL)] .null) (G_v : ∀ i, i < clv.slots.size → fits (.object "com/example/polyphony/polyphony/policy/Operator") ([(.ref w_EQUAL), (.ref w_NOT_EQUAL), (.ref w_LESS), (.ref w_LESS_OR_EQUAL), (.ref w_GREATER), (.ref w_GREATER_OR_EQUAL)].getD i .null) = true) (hz : ¬ (zc = (0 : Int32))) (hi : ((p1 &&& (2147483647 : Int32)) - ((p1 &&& (2147483647 : Int32)) / (6 : Int32)) * (6 : Int32)) = (1 : Int32)) (hrn : p2 < (0 : Int32) → r = (1 : Int32)) (hrz : ¬ (p2 < (0 : Int32)) → p2 = (0 : Int32) → r = (0 : Int32)) (hrp : ¬ (p2 < (0 : Int32)) → ¬ (p2 = (0 : Int32)) → r = (1 : Int32)) (ht : p2 = (0 : Int32) → r = (0 : Int32)) (hf : ¬ (p2 = (0 : Int32)) → r = (1 : Int32)) :
    own_Met l Z x code maxLocals ret ws room_1 #[(.int p1), (.int p2)] h0 (fun v h L => v = some (.int 1) ∧ Fr n0 L) := by
  refine own_body (plainFor_of_name own_pn_com_example_polyphony_polyphony_policy_OperatorOfPinLaw) (fun p e s m below meth c s₁ hx hby hml0 hrt hlk hown0 hnm hZ X0 e0 => ?_)
  have N0 := Fr.nil n0
  have hown : s.vm.findClass "com/example/polyphony/polyphony/policy/OperatorOfPinLaw" = some m.cls := hown0
  have hml : c.maxLocals = 8 := hml0
  refine own_castG (own_ef11 m p1 p2) ?_
  show own_Goes _ _ _ _ s₁ (mkF m 0 #[.val (.int p1), .val (.int p2), .unset, .unset, .unset, .unset, .unset, .unset] [])
  refine own_step (fun t k => XS.iloadN X0.here hx rfl (hb hby at_0) rfl k) ?_
  show own_Goes _ _ _ _ s₁ (mkF m 1 #[.val (.int p1), .val (.int p2), .unset, .unset, .unset, .unset, .unset, .unset] [(.int p1)])
  refine own_step (X0.ldcInt hx hown (mvT hZ (hw _ (List.mem_of_getElem? (i := 0) rfl))) (g := (mkF m 1 #[.val (.int p1), .val (.int p2), .unset, .unset, .unset, .unset, .unset, .unset] [(.int p1)])) rfl (hb hby at_1)) ?_
  show own_Goes _ _ _ _ s₁ (mkF m 3 #[.val (.int p1), .val (.int p2), .unset, .unset, .unset, .unset, .unset, .unset] [(.int (2147483647 : Int32)), (.int p1)])
  refine own_step (fun t k => XS.iand X0.here hx rfl (hb hby at_3) rfl k) ?_
  show own_Goes _ _ _ _ s₁ (mkF m 4 #[.val (.int p1), .val (.int p2), .unset, .unset, .unset, .unset, .unset, .unset] [(.int (p1 &&& (2147483647 : Int32)))])
  refine own_step (fun t k => XS.bipush X0.here hx rfl (hb hby at_4) k) ?_
  show own_Goes _ _ _ _ s₁ (mkF m 6 #[.val (.int p1), .val (.int p2), .unset, .unset, .unset, .unset, .unset, .unset] [(.int (6 : Int32)), (.int (p1 &&& (2147483647 : Int32)))])
  refine own_step (fun t k => XS.irem X0.here hx rfl (hb hby at_6) rfl (by decide) k) ?_
  show own_Goes _ _ _ _ s₁ (mkF m 7 #[.val (.int p1), .val (.int p2), .unset, .unset, .unset, .unset, .unset, .unset] [(.int ((p1 &&& (2147483647 : Int32)) - ((p1 &&& (2147483647 : Int32)) / (6 : Int32)) * (6 : Int32)))])
  rw [hi]
  show own_Goes _ _ _ _ s₁ (mkF m 7 #[.val (.int p1), .val (.int p2), .unset, .unset, .unset, .unset, .unset, .unset] [(.int (1 : Int32))])
  refine own_step (fun t k => XS.istoreN X0.here hx rfl (hb hby at_7) rfl (l' := #[.val (.int p1), .val (.int p2), .val (.int (1 : Int32)), .unset, .unset, .unset, .unset, .unset]) rfl k) ?_
  show own_Goes _ _ _ _ s₁ (mkF m 8 #[.val (.int p1), .val (.int p2), .val (.int (1 : Int32)), .unset, .unset, .unset, .unset, .unset] [])
  refine own_step (fun t k => XS.iloadN X0.here hx rfl (hb hby at_8) rfl k) ?_
  show own_Goes _ _ _ _ s₁ (mkF m 9 #[.val (.int p1), .val (.int p2), .val (.int (1 : Int32)), .unset, .unset, .unset, .unset, .unset] [(.int (1 : Int32))])
  refine own_step (fun t k => XS.ifYes X0.here hx rfl (pc0 := 9) (pc' := 45) rfl (hb hby at_9) rfl ((if0 _ _).trans (feq (show ¬ ((1 : Int32) = (0 : Int32)) from (by decide))).2) (by decide) (by decide) k) ?_
  show own_Goes _ _ _ _ s₁ (mkF m 45 #[.val (.int p1), .val (.int p2), .val (.int (1 : Int32)), .unset, .unset, .unset, .unset, .unset] [])
  refine own_step (fun t k => XS.iloadN X0.here hx rfl (hb hby at_45) rfl k) ?_
  show own_Goes _ _ _ _ s₁ (mkF m 46 #[.val (.int p1), .val (.int p2), .val (.int (1 : Int32)), .unset, .unset, .unset, .unset, .unset] [(.int (1 : Int32))])
  refine own_step (fun t k => XS.iconst X0.here hx rfl (hb hby at_46) k) ?_
  show own_Goes _ _ _ _ s₁ (mkF m 47 #[.val (.int p1), .val (.int p2), .val (.int (1 : Int32)), .unset, .unset, .unset, .unset, .unset] [(.int (1 : Int32)), (.int (1 : Int32))])
  refine own_step (fun t k => XS.icmpNo X0.here hx rfl (hb hby at_47) rfl (teq (show (1 : Int32) = (1 : Int32) from (by decide))).2 k) ?_
  show own_Goes _ _ _ _ s₁ (mkF m 50 #[.val (.int p1), .val (.int p2), .val (.int (1 : Int32)), .unset, .unset, .unset, .unset, .unset] [])
  refine own_step (fun t k => XS.iconst X0.here hx rfl (hb hby at_50) k) ?_
  show own_Goes _ _ _ _ s₁ (mkF m 51 #[.val (.int p1), .val (.int p2), .val (.int (1 : Int32)), .unset, .unset, .unset, .unset, .unset] [(.int (2 : Int32))])
  obtain ⟨T1, h1, k1, X1, e1, E1, A1, st1⟩ := newP X0 hx hZ (hw _ (List.mem_of_getElem? (i := 1) rfl)) e0 (g := (mkF m 51 #[.val (.int p1), .val (.int p2), .val (.int (1 : Int32)), .unset, .unset, .unset, .unset, .unset] [(.int (2 : Int32))])) rfl (hb hby at_51) rfl (by decide) (cap := 2) (by decide) (by decide) (by decide) (by decide)
  obtain ⟨b1, g1⟩ : ∃ z, z = h0.size := ⟨_, rfl⟩
  rw [← g1] at A1 st1
  refine own_step st1 ?_
  have g_b1 : n0 ≤ b1 := Nat.le_trans Z0 (Nat.le_of_eq g1.symm)
  have sz_b1 : h0.size ≤ b1 := Nat.le_trans (Keep.refl h0 []).1 (Nat.le_of_eq g1.symm)
  have ne_w_NOT_EQUAL_b1 : w_NOT_EQUAL ≠ b1 := Nat.ne_of_lt (Nat.lt_of_lt_of_le E_w_NOT_EQUAL.lt (Nat.le_of_eq g1.symm))
  have ne_w_V_b1 : w_V ≠ b1 := Nat.ne_of_lt (Nat.lt_of_lt_of_le E_w_V.lt (Nat.le_of_eq g1.symm))
  have ne_w_EQUAL_b1 : w_EQUAL ≠ b1 := Nat.ne_of_lt (Nat.lt_of_lt_of_le F_w_EQUAL_symbol.lt (Nat.le_of_eq g1.symm))
  have ne_y_EQUAL_b1 : y_EQUAL ≠ b1 := Nat.ne_of_lt (Nat.lt_of_lt_of_le E_y_EQUAL.lt (Nat.le_of_eq g1.symm))
  have ne_z_EQUAL_b1 : z_EQUAL ≠ b1 := Nat.ne_of_lt (Nat.lt_of_lt_of_le V_z_EQUAL.lt (Nat.le_of_eq g1.symm))
  have ne_y_NOT_EQUAL_b1 : y_NOT_EQUAL ≠ b1 := Nat.ne_of_lt (Nat.lt_of_lt_of_le E_y_NOT_EQUAL.lt (Nat.le_of_eq g1.symm))
  have ne_z_NOT_EQUAL_b1 : z_NOT_EQUAL ≠ b1 := Nat.ne_of_lt (Nat.lt_of_lt_of_le V_z_NOT_EQUAL.lt (Nat.le_of_eq g1.symm))
  have K1 := (Keep.refl h0 []).ext E1
  have V_b1 : Arv Z h1 b1 k1 .char (2 : Int32) [(.int (0 : Int32)), (.int (0 : Int32))] (.int (0 : Int32)) := (Arv.new A1 (by decide)).pad (pad_rep [] (.int (0 : Int32)) 2)
  show own_Goes _ _ _ _ T1 (mkF m 53 #[.val (.int p1), .val (.int p2), .val (.int (1 : Int32)), .unset, .unset, .unset, .unset, .unset] [(.ref b1)])
  refine own_step (fun t k => XS.dup X1.here hx rfl (hb hby at_53) rfl rfl k) ?_
  show own_Goes _ _ _ _ T1 (mkF m 54 #[.val (.int p1), .val (.int p2), .val (.int (1 : Int32)), .unset, .unset, .unset, .unset, .unset] [(.ref b1), (.ref b1)])
  refine own_step (fun t k => XS.iconst X1.here hx rfl (hb hby at_54) k) ?_
  show own_Goes _ _ _ _ T1 (mkF m 55 #[.val (.int p1), .val (.int p2), .val (.int (1 : Int32)), .unset, .unset, .unset, .unset, .unset] [(.int (0 : Int32)), (.ref b1), (.ref b1)])
  refine own_step (fun t k => XS.bipush X1.here hx rfl (hb hby at_55) k) ?_
  show own_Goes _ _ _ _ T1 (mkF m 57 #[.val (.int p1), .val (.int p2), .val (.int (1 : Int32)), .unset, .unset, .unset, .unset, .unset] [(.int (33 : Int32)), (.int (0 : Int32)), (.ref b1), (.ref b1)])
  obtain ⟨T2, h2, X2, e2, W2, V2, st2⟩ := own_castore X1 hx hZ e1 V_b1 (x := (33 : Int32)) (33 : Int32) rfl (j := (0 : Int32)) ⟨by decide, by decide⟩ 0 rfl (Nat.le_of_ble_eq_true rfl) (g := (mkF m 57 #[.val (.int p1), .val (.int p2), .val (.int (1 : Int32)), .unset, .unset, .unset, .unset, .unset] [(.int (33 : Int32)), (.int (0 : Int32)), (.ref b1), (.ref b1)])) rfl rfl (hb hby at_57)
  refine own_step st2 ?_
  have K2 := K1.wr W2 (Or.inr sz_b1)
  have N2 := Fr.snoc X2 N0 g_b1
  have V2' : Arv Z h2 b1 k1 .char (2 : Int32) [(.int (33 : Int32)), (.int (0 : Int32))] (.int (0 : Int32)) := V2
  show own_Goes _ _ _ _ T2 (mkF m 58 #[.val (.int p1), .val (.int p2), .val (.int (1 : Int32)), .unset, .unset, .unset, .unset, .unset] [(.ref b1)])
  refine own_step (fun t k => XS.dup X2.here hx rfl (hb hby at_58) rfl rfl k) ?_
  show own_Goes _ _ _ _ T2 (mkF m 59 #[.val (.int p1), .val (.int p2), .val (.int (1 : Int32)), .unset, .unset, .unset, .unset, .unset] [(.ref b1), (.ref b1)])
  refine own_step (fun t k => XS.iconst X2.here hx rfl (hb hby at_59) k) ?_
  show own_Goes _ _ _ _ T2 (mkF m 60 #[.val (.int p1), .val (.int p2), .val (.int (1 : Int32)), .unset, .unset, .unset, .unset, .unset] [(.int (1 : Int32)), (.ref b1), (.ref b1)])
  refine own_step (fun t k => XS.bipush X2.here hx rfl (hb hby at_60) k) ?_
  show own_Goes _ _ _ _ T2 (mkF m 62 #[.val (.int p1), .val (.int p2), .val (.int (1 : Int32)), .unset, .unset, .unset, .unset, .unset] [(.int (61 : Int32)), (.int (1 : Int32)), (.ref b1), (.ref b1)])
  obtain ⟨T3, h3, X3, e3, W3, V3, st3⟩ := own_castore X2 hx hZ e2 V2' (x := (61 : Int32)) (61 : Int32) rfl (j := (1 : Int32)) ⟨by decide, by decide⟩ 1 rfl (Nat.le_of_ble_eq_true rfl) (g := (mkF m 62 #[.val (.int p1), .val (.int p2), .val (.int (1 : Int32)), .unset, .unset, .unset, .unset, .unset] [(.int (61 : Int32)), (.int (1 : Int32)), (.ref b1), (.ref b1)])) rfl rfl (hb hby at_62)
  refine own_step st3 ?_
  have K3 := K2.wr W3 (Or.inr sz_b1)
  have N3 := Fr.snoc X3 N2 g_b1
  have V3' : Arv Z h3 b1 k1 .char (2 : Int32) [(.int (33 : Int32)), (.int (61 : Int32))] (.int (0 : Int32)) := V3
  show own_Goes _ _ _ _ T3 (mkF m 63 #[.val (.int p1), .val (.int p2), .val (.int (1 : Int32)), .unset, .unset, .unset, .unset, .unset] [(.ref b1)])
  refine own_step (fun t k => XS.astoreN X3.here hx rfl (hb hby at_63) rfl rfl (l' := #[.val (.int p1), .val (.int p2), .val (.int (1 : Int32)), .val (.ref b1), .unset, .unset, .unset, .unset]) rfl k) ?_
  show own_Goes _ _ _ _ T3 (mkF m 64 #[.val (.int p1), .val (.int p2), .val (.int (1 : Int32)), .val (.ref b1), .unset, .unset, .unset, .unset] [])
  have S_NOT_EQUAL_v5 := (((S_NOT_EQUAL.ext E1).wr W2).wr W3)
  obtain ⟨T4, X4, e4, st4⟩ := getS2 X3 hx hZ hown (host := "") (Or.inl (hw _ (List.mem_of_getElem? (i := 86) rfl))) Via.refl e3 S_NOT_EQUAL_v5 (g := (mkF m 64 #[.val (.int p1), .val (.int p2), .val (.int (1 : Int32)), .val (.ref b1), .unset, .unset, .unset, .unset] [])) rfl (hb hby at_64)
  refine own_step st4 ?_
  show own_Goes _ _ _ _ T4 (mkF m 67 #[.val (.int p1), .val (.int p2), .val (.int (1 : Int32)), .val (.ref b1), .unset, .unset, .unset, .unset] [(.ref w_NOT_EQUAL)])
  refine own_step (fun t k => XS.astore X4.here hx rfl (hb hby at_67) rfl rfl (l' := #[.val (.int p1), .val (.int p2), .val (.int (1 : Int32)), .val (.ref b1), .val (.ref w_NOT_EQUAL), .unset, .unset, .unset]) rfl k) ?_
  show own_Goes _ _ _ _ T4 (mkF m 69 #[.val (.int p1), .val (.int p2), .val (.int (1 : Int32)), .val (.ref b1), .val (.ref w_NOT_EQUAL), .unset, .unset, .unset] [])
  refine own_step (fun t k => XS.iloadN X4.here hx rfl (hb hby at_69) rfl k) ?_
  show own_Goes _ _ _ _ T4 (mkF m 70 #[.val (.int p1), .val (.int p2), .val (.int (1 : Int32)), .val (.ref b1), .val (.ref w_NOT_EQUAL), .unset, .unset, .unset] [(.int p2)])
  have tail : own_Goes p e below (own_K s (fun v h L => v = some (.int 1) ∧ Fr n0 L) room_1.cells room_1.slots) T4 (mkF m 217 #[.val (.int p1), .val (.int p2), .val (.int (1 : Int32)), .val (.ref b1), .val (.ref w_NOT_EQUAL), .val (.int r), .unset, .unset] []) := by
    obtain ⟨T6, h6, X6, e6, E6, A6, D6, -, st6⟩ := newO X4 hx hZ hown (hw _ (List.mem_of_getElem? (i := 5) rfl)) (hw _ (List.mem_of_getElem? (i := 6) rfl)) (hw _ (List.mem_of_getElem? (i := 7) rfl)) e4 (g := (mkF m 217 #[.val (.int p1), .val (.int p2), .val (.int (1 : Int32)), .val (.ref b1), .val (.ref w_NOT_EQUAL), .val (.int r), .unset, .unset] [])) rfl (hb hby at_217) (by decide) (by decide)
    obtain ⟨b6, g6⟩ : ∃ z, z = h3.size := ⟨_, rfl⟩
    rw [← g6] at A6 D6 st6
    refine own_step st6 ?_
    have g_b6 : n0 ≤ b6 := Nat.le_trans (Nat.le_trans Z0 K3.1) (Nat.le_of_eq g6.symm)
    have sz_b6 : h0.size ≤ b6 := Nat.le_trans K3.1 (Nat.le_of_eq g6.symm)
    have E_w_NOT_EQUAL_v7 := (((E_w_NOT_EQUAL.ext E1).wr W2).wr W3)
    have ne_w_NOT_EQUAL_b6 : w_NOT_EQUAL ≠ b6 := Nat.ne_of_lt (Nat.lt_of_lt_of_le E_w_NOT_EQUAL_v7.lt (Nat.le_of_eq g6.symm))
    have E_w_V_v8 := (((E_w_V.ext E1).wr W2).wr W3)
    have ne_w_V_b6 : w_V ≠ b6 := Nat.ne_of_lt (Nat.lt_of_lt_of_le E_w_V_v8.lt (Nat.le_of_eq g6.symm))
    have F_w_EQUAL_symbol_v9 := (((F_w_EQUAL_symbol.ext E1).other W2 (Or.inl ne_w_EQUAL_b1)).other W3 (Or.inl ne_w_EQUAL_b1))
    have ne_w_EQUAL_b6 : w_EQUAL ≠ b6 := Nat.ne_of_lt (Nat.lt_of_lt_of_le F_w_EQUAL_symbol_v9.lt (Nat.le_of_eq g6.symm))
    have E_y_EQUAL_v10 := (((E_y_EQUAL.ext E1).wr W2).wr W3)
    have ne_y_EQUAL_b6 : y_EQUAL ≠ b6 := Nat.ne_of_lt (Nat.lt_of_lt_of_le E_y_EQUAL_v10.lt (Nat.le_of_eq g6.symm))
    have V_z_EQUAL_v11 := (((V_z_EQUAL.ext E1).other W2 ne_z_EQUAL_b1).other W3 ne_z_EQUAL_b1)
    have ne_z_EQUAL_b6 : z_EQUAL ≠ b6 := Nat.ne_of_lt (Nat.lt_of_lt_of_le V_z_EQUAL_v11.lt (Nat.le_of_eq g6.symm))
    have E_y_NOT_EQUAL_v12 := (((E_y_NOT_EQUAL.ext E1).wr W2).wr W3)
    have ne_y_NOT_EQUAL_b6 : y_NOT_EQUAL ≠ b6 := Nat.ne_of_lt (Nat.lt_of_lt_of_le E_y_NOT_EQUAL_v12.lt (Nat.le_of_eq g6.symm))
    have V_z_NOT_EQUAL_v13 := (((V_z_NOT_EQUAL.ext E1).other W2 ne_z_NOT_EQUAL_b1).other W3 ne_z_NOT_EQUAL_b1)
    have ne_z_NOT_EQUAL_b6 : z_NOT_EQUAL ≠ b6 := Nat.ne_of_lt (Nat.lt_of_lt_of_le V_z_NOT_EQUAL_v13.lt (Nat.le_of_eq g6.symm))
    have ne_b1_b6 : b1 ≠ b6 := Nat.ne_of_lt (Nat.lt_of_lt_of_le V3'.lt (Nat.le_of_eq g6.symm))
    have K6 := K3.ext E6
    have F_b6_coder : Fld Z h6 b6 "java/lang/String" "coder" "B" (.int (0 : Int32)) := D6 (Or.inr (hw _ (List.mem_of_getElem? (i := 31) rfl))) (ty := .byte) (by decide)
    have F_b6_value : Fld Z h6 b6 "java/lang/String" "value" "[B" .null := D6 (Or.inr (hw _ (List.mem_of_getElem? (i := 33) rfl))) (ty := (.array .byte)) (by decide)
    show own_Goes _ _ _ _ T6 (mkF m 220 #[.val (.int p1), .val (.int p2), .val (.int (1 : Int32)), .val (.ref b1), .val (.ref w_NOT_EQUAL), .val (.int r), .unset, .unset] [(.ref b6)])
    refine own_step (fun t k => XS.dup X6.here hx rfl (hb hby at_220) rfl rfl k) ?_
    show own_Goes _ _ _ _ T6 (mkF m 221 #[.val (.int p1), .val (.int p2), .val (.int (1 : Int32)), .val (.ref b1), .val (.ref w_NOT_EQUAL), .val (.int r), .unset, .unset] [(.ref b6), (.ref b6)])
    refine own_step (fun t k => XS.aloadN X6.here hx rfl (hb hby at_221) rfl rfl k) ?_
    show own_Goes _ _ _ _ T6 (mkF m 222 #[.val (.int p1), .val (.int p2), .val (.int (1 : Int32)), .val (.ref b1), .val (.ref w_NOT_EQUAL), .val (.int r), .unset, .unset] [(.ref b1), (.ref b6), (.ref b6)])
    have V3'_v14 := (V3'.ext E6)
    have S_COMPACT_STRINGS_v15 := ((((S_COMPACT_STRINGS.ext E1).wr W2).wr W3).ext E6)
    refine own_callC X6 hx hZ (y := (⟨"java/lang/String", "<init>", "([C)V"⟩ : MethodName)) rfl hown (hw _ (List.mem_of_getElem? (i := 8) rfl)) (hw _ (List.mem_of_getElem? (i := 9) rfl)) (hw _ (List.mem_of_getElem? (i := 10) rfl)) (hw _ (List.mem_of_getElem? (i := 7) rfl)) (by decide) 1 (a := b6) [(.ref b1)] [(.ref b6)] (own_sinit_2 l Z a0 hw [] b6 b1 k1 (33 : Int32) (61 : Int32) zc h6 n0 (Nat.le_trans Z0 K6.1) A6 F_b6_value F_b6_coder V3'_v14 S_COMPACT_STRINGS_v15 (by decide) (by decide) hz g_b6) e6 (by decide) (by decide) (by decide) (by decide) (g := (mkF m 222 #[.val (.int p1), .val (.int p2), .val (.int (1 : Int32)), .val (.ref b1), .val (.ref w_NOT_EQUAL), .val (.int r), .unset, .unset] [(.ref b1), (.ref b6), (.ref b6)])) rfl (by rw [hml]; rfl) own_pd7 rfl rfl (by show 2 * 0 + _ ≤ _; exact Nat.le_of_eq rfl) (hb hby at_222) ?_
    intro T16 v16 L16 X16 hQ16
    have E_w_NOT_EQUAL_v17 := (E_w_NOT_EQUAL_v7.ext E6)
    have E_w_V_v18 := (E_w_V_v8.ext E6)
    have F_w_EQUAL_symbol_v19 := (F_w_EQUAL_symbol_v9.ext E6)
    have E_y_EQUAL_v20 := (E_y_EQUAL_v10.ext E6)
    have V_z_EQUAL_v21 := (V_z_EQUAL_v11.ext E6)
    have E_y_NOT_EQUAL_v22 := (E_y_NOT_EQUAL_v12.ext E6)
    have V_z_NOT_EQUAL_v23 := (V_z_NOT_EQUAL_v13.ext E6)
    obtain ⟨b16_0, k16_0, rfl, N16q, Kq16, zq16_0, q16_0, q16_1, q16_2, q16_3⟩ := hQ16
    have N16 := Fr.app N3 N16q
    have K16 := K6.trans Kq16 (allS (Or.inr sz_b6) all0)
    have g_b16_0 : n0 ≤ b16_0 := Nat.le_trans (Nat.le_trans Z0 K6.1) zq16_0
    have sz_b16_0 : h0.size ≤ b16_0 := Nat.le_trans K6.1 zq16_0
    have ne_w_NOT_EQUAL_b16_0 : w_NOT_EQUAL ≠ b16_0 := Nat.ne_of_lt (Nat.lt_of_lt_of_le E_w_NOT_EQUAL_v17.lt zq16_0)
    have ne_w_V_b16_0 : w_V ≠ b16_0 := Nat.ne_of_lt (Nat.lt_of_lt_of_le E_w_V_v18.lt zq16_0)
    have ne_w_EQUAL_b16_0 : w_EQUAL ≠ b16_0 := Nat.ne_of_lt (Nat.lt_of_lt_of_le F_w_EQUAL_symbol_v19.lt zq16_0)
    have ne_y_EQUAL_b16_0 : y_EQUAL ≠ b16_0 := Nat.ne_of_lt (Nat.lt_of_lt_of_le E_y_EQUAL_v20.lt zq16_0)
    have ne_z_EQUAL_b16_0 : z_EQUAL ≠ b16_0 := Nat.ne_of_lt (Nat.lt_of_lt_of_le V_z_EQUAL_v21.lt zq16_0)
    have ne_y_NOT_EQUAL_b16_0 : y_NOT_EQUAL ≠ b16_0 := Nat.ne_of_lt (Nat.lt_of_lt_of_le E_y_NOT_EQUAL_v22.lt zq16_0)
    have ne_z_NOT_EQUAL_b16_0 : z_NOT_EQUAL ≠ b16_0 := Nat.ne_of_lt (Nat.lt_of_lt_of_le V_z_NOT_EQUAL_v23.lt zq16_0)
    have ne_b1_b16_0 : b1 ≠ b16_0 := Nat.ne_of_lt (Nat.lt_of_lt_of_le V3'_v14.lt zq16_0)
    have ne_b6_b16_0 : b6 ≠ b16_0 := Nat.ne_of_lt (Nat.lt_of_lt_of_le A6.lt zq16_0)
    have q16_0' : Exa Z T16.heap b6 "java/lang/String" := q16_0
    have q16_1' : Fld Z T16.heap b6 "java/lang/String" "coder" "B" (.int (0 : Int32)) := q16_1
    have q16_2' : Fld Z T16.heap b6 "java/lang/String" "value" "[B" (.ref b16_0) := q16_2
    have q16_3' : Arv Z T16.heap b16_0 k16_0 .byte (2 : Int32) [(.int (33 : Int32)), (.int (61 : Int32))] (.int (0 : Int32)) := q16_3
    show own_Goes _ _ _ _ T16 (mkF m 225 #[.val (.int p1), .val (.int p2), .val (.int (1 : Int32)), .val (.ref b1), .val (.ref w_NOT_EQUAL), .val (.int r), .unset, .unset] [(.ref b6)])
    refine own_step (fun t k => XS.astore X16.here hx rfl (hb hby at_225) rfl rfl (l' := #[.val (.int p1), .val (.int p2), .val (.int (1 : Int32)), .val (.ref b1), .val (.ref w_NOT_EQUAL), .val (.int r), .val (.ref b6), .unset]) rfl k) ?_
    show own_Goes _ _ _ _ T16 (mkF m 227 #[.val (.int p1), .val (.int p2), .val (.int (1 : Int32)), .val (.ref b1), .val (.ref w_NOT_EQUAL), .val (.int r), .val (.ref b6), .unset] [])
    refine own_step (fun t k => XS.aload X16.here hx rfl (hb hby at_227) rfl rfl k) ?_
    show own_Goes _ _ _ _ T16 (mkF m 229 #[.val (.int p1), .val (.int p2), .val (.int (1 : Int32)), .val (.ref b1), .val (.ref w_NOT_EQUAL), .val (.int r), .val (.ref b6), .unset] [(.ref b6)])
    have S_COMPACT_STRINGS_v24 := (own_staKeep S_COMPACT_STRINGS_v15 Kq16 (allS (own_plainE A6) all0))
    have S__VALUES_v25 := (own_staKeep ((((S__VALUES.ext E1).wr W2).wr W3).ext E6) Kq16 (allS (own_plainE A6) all0))
    have R_w_V_v26 := (own_arrKeep ((((R_w_V.ext E1).other W2 ne_w_V_b1).other W3 ne_w_V_b1).ext E6) Kq16 (ninS ne_w_V_b6 nin0))
    have E_w_V_v27 := (E_w_V_v18.keep Kq16)
    have F_w_EQUAL_symbol_v28 := (F_w_EQUAL_symbol_v19.keep Kq16 (ninS ne_w_EQUAL_b6 nin0))
    have E_y_EQUAL_v29 := (E_y_EQUAL_v20.keep Kq16)
    have F_y_EQUAL_coder_v30 := (((((F_y_EQUAL_coder.ext E1).other W2 (Or.inl ne_y_EQUAL_b1)).other W3 (Or.inl ne_y_EQUAL_b1)).ext E6).keep Kq16 (ninS ne_y_EQUAL_b6 nin0))
    have F_y_EQUAL_value_v31 := (((((F_y_EQUAL_value.ext E1).other W2 (Or.inl ne_y_EQUAL_b1)).other W3 (Or.inl ne_y_EQUAL_b1)).ext E6).keep Kq16 (ninS ne_y_EQUAL_b6 nin0))
    have V_z_EQUAL_v32 := (V_z_EQUAL_v21.keep Kq16 (ninS ne_z_EQUAL_b6 nin0))
    have F_w_NOT_EQUAL_symbol_v33 := (((((F_w_NOT_EQUAL_symbol.ext E1).other W2 (Or.inl ne_w_NOT_EQUAL_b1)).other W3 (Or.inl ne_w_NOT_EQUAL_b1)).ext E6).keep Kq16 (ninS ne_w_NOT_EQUAL_b6 nin0))
    have E_y_NOT_EQUAL_v34 := (E_y_NOT_EQUAL_v22.keep Kq16)
    have F_y_NOT_EQUAL_coder_v35 := (((((F_y_NOT_EQUAL_coder.ext E1).other W2 (Or.inl ne_y_NOT_EQUAL_b1)).other W3 (Or.inl ne_y_NOT_EQUAL_b1)).ext E6).keep Kq16 (ninS ne_y_NOT_EQUAL_b6 nin0))
    have F_y_NOT_EQUAL_value_v36 := (((((F_y_NOT_EQUAL_value.ext E1).other W2 (Or.inl ne_y_NOT_EQUAL_b1)).other W3 (Or.inl ne_y_NOT_EQUAL_b1)).ext E6).keep Kq16 (ninS ne_y_NOT_EQUAL_b6 nin0))
    have V_z_NOT_EQUAL_v37 := (V_z_NOT_EQUAL_v23.keep Kq16 (ninS ne_z_NOT_EQUAL_b6 nin0))
    refine own_callS X16 hx hZ (y := (⟨"com/example/polyphony/polyphony/policy/Operator", "of", "(Ljava/lang/String;)Lcom/example/polyphony/polyphony/policy/Operator;"⟩ : MethodName)) hown (hw _ (List.mem_of_getElem? (i := 34) rfl)) (hw _ (List.mem_of_getElem? (i := 35) rfl)) (hw _ (List.mem_of_getElem? (i := 3) rfl)) (hw _ (List.mem_of_getElem? (i := 36) rfl)) (by decide) 0 [(.ref b6)] [] (own_of1 l Z a0 hw [] b6 b16_0 k16_0 zc w_V clv w_EQUAL w_NOT_EQUAL w_LESS w_LESS_OR_EQUAL w_GREATER w_GREATER_OR_EQUAL y_EQUAL z_EQUAL k_EQUAL y_NOT_EQUAL z_NOT_EQUAL k_NOT_EQUAL T16.heap n0 (Nat.le_trans Z0 K16.1) q16_0' q16_1' q16_2' q16_3' S_COMPACT_STRINGS_v24 S__VALUES_v25 R_w_V_v26 E_w_V_v27 F_w_EQUAL_symbol_v28 E_y_EQUAL_v29 F_y_EQUAL_coder_v30 F_y_EQUAL_value_v31 V_z_EQUAL_v32 F_w_NOT_EQUAL_symbol_v33 E_y_NOT_EQUAL_v34 F_y_NOT_EQUAL_coder_v35 F_y_NOT_EQUAL_value_v36 V_z_NOT_EQUAL_v37 F_v S_v H_v G_v hz ne_y_EQUAL_b6 ne_y_NOT_EQUAL_b6) rfl (by decide) (by decide) (by decide) (by decide) (g := (mkF m 229 #[.val (.int p1), .val (.int p2), .val (.int (1 : Int32)), .val (.ref b1), .val (.ref w_NOT_EQUAL), .val (.int r), .val (.ref b6), .unset] [(.ref b6)])) rfl (by rw [hml]; rfl) own_pd8 rfl rfl (by show 2 * 0 + _ ≤ _; exact Nat.le_of_eq rfl) (hb hby at_229) ?_
    intro T38 v38 L38 X38 hQ38
    have E_w_NOT_EQUAL_v39 := (E_w_NOT_EQUAL_v17.keep Kq16)
    have V3'_v40 := (V3'_v14.keep Kq16 (ninS ne_b1_b6 nin0))
    obtain ⟨rfl, N38q, Kq38⟩ := hQ38
    have N38 := Fr.app N16 N38q
    have K38 := K16.trans Kq38 all0
    show own_Goes _ _ _ _ T38 (mkF m 232 #[.val (.int p1), .val (.int p2), .val (.int (1 : Int32)), .val (.ref b1), .val (.ref w_NOT_EQUAL), .val (.int r), .val (.ref b6), .unset] [(.ref w_NOT_EQUAL)])
    refine own_step (fun t k => XS.astore X38.here hx rfl (hb hby at_232) rfl rfl (l' := #[.val (.int p1), .val (.int p2), .val (.int (1 : Int32)), .val (.ref b1), .val (.ref w_NOT_EQUAL), .val (.int r), .val (.ref b6), .val (.ref w_NOT_EQUAL)]) rfl k) ?_
    show own_Goes _ _ _ _ T38 (mkF m 234 #[.val (.int p1), .val (.int p2), .val (.int (1 : Int32)), .val (.ref b1), .val (.ref w_NOT_EQUAL), .val (.int r), .val (.ref b6), .val (.ref w_NOT_EQUAL)] [])
    refine own_step (fun t k => XS.aload X38.here hx rfl (hb hby at_234) rfl rfl k) ?_
    show own_Goes _ _ _ _ T38 (mkF m 236 #[.val (.int p1), .val (.int p2), .val (.int (1 : Int32)), .val (.ref b1), .val (.ref w_NOT_EQUAL), .val (.int r), .val (.ref b6), .val (.ref w_NOT_EQUAL)] [(.ref w_NOT_EQUAL)])
    refine own_step (fun t k => XS.aload X38.here hx rfl (hb hby at_236) rfl rfl k) ?_
    show own_Goes _ _ _ _ T38 (mkF m 238 #[.val (.int p1), .val (.int p2), .val (.int (1 : Int32)), .val (.ref b1), .val (.ref w_NOT_EQUAL), .val (.int r), .val (.ref b6), .val (.ref w_NOT_EQUAL)] [(.ref w_NOT_EQUAL), (.ref w_NOT_EQUAL)])
    refine own_step (fun t k => Jvm.RoadKit.acmp (g := (mkF m 238 #[.val (.int p1), .val (.int p2), .val (.int (1 : Int32)), .val (.ref b1), .val (.ref w_NOT_EQUAL), .val (.int r), .val (.ref b6), .val (.ref w_NOT_EQUAL)] [(.ref w_NOT_EQUAL), (.ref w_NOT_EQUAL)])) X38 hx rfl rfl rfl (pc0 := 238) (pc' := 241) (same := true) rfl (hb hby at_238) rfl (decide_eq_true rfl) (by decide) (by decide) k) ?_
    show own_Goes _ _ _ _ T38 (mkF m 241 #[.val (.int p1), .val (.int p2), .val (.int (1 : Int32)), .val (.ref b1), .val (.ref w_NOT_EQUAL), .val (.int r), .val (.ref b6), .val (.ref w_NOT_EQUAL)] [])
    refine own_step (fun t k => XS.aload X38.here hx rfl (hb hby at_241) rfl rfl k) ?_
    show own_Goes _ _ _ _ T38 (mkF m 243 #[.val (.int p1), .val (.int p2), .val (.int (1 : Int32)), .val (.ref b1), .val (.ref w_NOT_EQUAL), .val (.int r), .val (.ref b6), .val (.ref w_NOT_EQUAL)] [(.ref w_NOT_EQUAL)])
    have F_w_NOT_EQUAL_symbol_v41 := (F_w_NOT_EQUAL_symbol_v33.keep Kq38 nin0)
    have E_w_NOT_EQUAL_v43 := (E_w_NOT_EQUAL_v39.keep Kq38)
    refine own_callV X38 hx hZ (y := (⟨"com/example/polyphony/polyphony/policy/Operator", "symbol", "()Ljava/lang/String;"⟩ : MethodName)) (z := (⟨"com/example/polyphony/polyphony/policy/Operator", "symbol", "()Ljava/lang/String;"⟩ : MethodName)) hown (hw _ (List.mem_of_getElem? (i := 69) rfl)) (hw _ (List.mem_of_getElem? (i := 70) rfl)) (notFace_of_selects (args := #[]) (mvT hZ (hw _ (List.mem_of_getElem? (i := 72) rfl)))) (hw _ (List.mem_of_getElem? (i := 72) rfl)) (hw _ (List.mem_of_getElem? (i := 71) rfl)) (hw _ (List.mem_of_getElem? (i := 73) rfl)) (hw _ (List.mem_of_getElem? (i := 3) rfl)) (by decide) 0 E_w_NOT_EQUAL_v43 [] [] (own_symbol l Z a0 hw [] w_NOT_EQUAL y_NOT_EQUAL T38.heap n0 (Nat.le_trans Z0 K38.1) F_w_NOT_EQUAL_symbol_v41) rfl (by decide) (by decide) (by decide) (by decide) (g := (mkF m 243 #[.val (.int p1), .val (.int p2), .val (.int (1 : Int32)), .val (.ref b1), .val (.ref w_NOT_EQUAL), .val (.int r), .val (.ref b6), .val (.ref w_NOT_EQUAL)] [(.ref w_NOT_EQUAL)])) rfl (by rw [hml]; rfl) own_pd9 rfl rfl (by show 2 * 0 + _ ≤ _; exact Nat.le_of_eq rfl) (hb hby at_243) ?_
    intro T42 v42 L42 X42 hQ42
    obtain ⟨rfl, N42q, e42⟩ := hQ42
    have N42 := Fr.app N38 N42q
    show own_Goes _ _ _ _ T42 (mkF m 246 #[.val (.int p1), .val (.int p2), .val (.int (1 : Int32)), .val (.ref b1), .val (.ref w_NOT_EQUAL), .val (.int r), .val (.ref b6), .val (.ref w_NOT_EQUAL)] [(.ref y_NOT_EQUAL)])
    refine own_step (fun t k => XS.aload X42.here hx rfl (hb hby at_246) rfl rfl k) ?_
    show own_Goes _ _ _ _ T42 (mkF m 248 #[.val (.int p1), .val (.int p2), .val (.int (1 : Int32)), .val (.ref b1), .val (.ref w_NOT_EQUAL), .val (.int r), .val (.ref b6), .val (.ref w_NOT_EQUAL)] [(.ref b6), (.ref y_NOT_EQUAL)])
    have q16_0'_v44 := (q16_0'.keep Kq38)
    have F_y_NOT_EQUAL_coder_v45 := (F_y_NOT_EQUAL_coder_v35.keep Kq38 nin0)
    have q16_1'_v46 := (q16_1'.keep Kq38 nin0)
    have F_y_NOT_EQUAL_value_v47 := (F_y_NOT_EQUAL_value_v36.keep Kq38 nin0)
    have q16_2'_v48 := (q16_2'.keep Kq38 nin0)
    have V_z_NOT_EQUAL_v49 := (V_z_NOT_EQUAL_v37.keep Kq38 nin0)
    have q16_3'_v50 := (q16_3'.keep Kq38 nin0)
    have S_COMPACT_STRINGS_v51 := (own_staKeep S_COMPACT_STRINGS_v24 Kq38 all0)
    have E_y_NOT_EQUAL_v53 := (E_y_NOT_EQUAL_v34.keep Kq38)
    refine own_callV X42 hx hZ (y := (⟨"java/lang/String", "equals", "(Ljava/lang/Object;)Z"⟩ : MethodName)) (z := (⟨"java/lang/String", "equals", "(Ljava/lang/Object;)Z"⟩ : MethodName)) hown (hw _ (List.mem_of_getElem? (i := 74) rfl)) (hw _ (List.mem_of_getElem? (i := 60) rfl)) (notFace_of_selects (args := #[]) (mvT hZ (hw _ (List.mem_of_getElem? (i := 62) rfl)))) (hw _ (List.mem_of_getElem? (i := 62) rfl)) (hw _ (List.mem_of_getElem? (i := 61) rfl)) (hw _ (List.mem_of_getElem? (i := 63) rfl)) (hw _ (List.mem_of_getElem? (i := 7) rfl)) (by decide) 0 E_y_NOT_EQUAL_v53 [(.ref b6)] [] (own_seq_22eq l Z a0 hw [] y_NOT_EQUAL b6 z_NOT_EQUAL b16_0 k_NOT_EQUAL k16_0 (33 : Int32) (61 : Int32) (33 : Int32) (61 : Int32) zc T38.heap n0 (Nat.le_trans Z0 K38.1) q16_0'_v44 F_y_NOT_EQUAL_coder_v45 q16_1'_v46 F_y_NOT_EQUAL_value_v47 q16_2'_v48 V_z_NOT_EQUAL_v49 q16_3'_v50 S_COMPACT_STRINGS_v51 (by decide) (by decide) hz ne_y_NOT_EQUAL_b6) e42 (by decide) (by decide) (by decide) (by decide) (g := (mkF m 248 #[.val (.int p1), .val (.int p2), .val (.int (1 : Int32)), .val (.ref b1), .val (.ref w_NOT_EQUAL), .val (.int r), .val (.ref b6), .val (.ref w_NOT_EQUAL)] [(.ref b6), (.ref y_NOT_EQUAL)])) rfl (by rw [hml]; rfl) own_pd2 rfl rfl (by show 2 * 0 + _ ≤ _; exact Nat.le_of_eq rfl) (hb hby at_248) ?_
    intro T52 v52 L52 X52 hQ52
    obtain ⟨rfl, N52q, e52⟩ := hQ52
    have N52 := Fr.app N42 N52q
    show own_Goes _ _ _ _ T52 (mkF m 251 #[.val (.int p1), .val (.int p2), .val (.int (1 : Int32)), .val (.ref b1), .val (.ref w_NOT_EQUAL), .val (.int r), .val (.ref b6), .val (.ref w_NOT_EQUAL)] [(.int (1 : Int32))])
    refine own_step (fun t k => XS.ifNo X52.here hx rfl (hb hby at_251) rfl ((if0 _ _).trans (feq (show ¬ ((1 : Int32) = (0 : Int32)) from (by decide))).1) k) ?_
    show own_Goes _ _ _ _ T52 (mkF m 254 #[.val (.int p1), .val (.int p2), .val (.int (1 : Int32)), .val (.ref b1), .val (.ref w_NOT_EQUAL), .val (.int r), .val (.ref b6), .val (.ref w_NOT_EQUAL)] [])
    refine own_step (fun t k => XS.aload X52.here hx rfl (hb hby at_254) rfl rfl k) ?_
    show own_Goes _ _ _ _ T52 (mkF m 256 #[.val (.int p1), .val (.int p2), .val (.int (1 : Int32)), .val (.ref b1), .val (.ref w_NOT_EQUAL), .val (.int r), .val (.ref b6), .val (.ref w_NOT_EQUAL)] [(.ref w_NOT_EQUAL)])
    refine own_step (fun t k => XS.iloadN X52.here hx rfl (hb hby at_256) rfl k) ?_
    show own_Goes _ _ _ _ T52 (mkF m 257 #[.val (.int p1), .val (.int p2), .val (.int (1 : Int32)), .val (.ref b1), .val (.ref w_NOT_EQUAL), .val (.int r), .val (.ref b6), .val (.ref w_NOT_EQUAL)] [(.int p2), (.ref w_NOT_EQUAL)])
    have F_w_NOT_EQUAL_whenBefore_v54 := ((((((F_w_NOT_EQUAL_whenBefore.ext E1).other W2 (Or.inl ne_w_NOT_EQUAL_b1)).other W3 (Or.inl ne_w_NOT_EQUAL_b1)).ext E6).keep Kq16 (ninS ne_w_NOT_EQUAL_b6 nin0)).keep Kq38 nin0)
    have F_w_NOT_EQUAL_whenEqual_v55 := ((((((F_w_NOT_EQUAL_whenEqual.ext E1).other W2 (Or.inl ne_w_NOT_EQUAL_b1)).other W3 (Or.inl ne_w_NOT_EQUAL_b1)).ext E6).keep Kq16 (ninS ne_w_NOT_EQUAL_b6 nin0)).keep Kq38 nin0)
    have F_w_NOT_EQUAL_whenAfter_v56 := ((((((F_w_NOT_EQUAL_whenAfter.ext E1).other W2 (Or.inl ne_w_NOT_EQUAL_b1)).other W3 (Or.inl ne_w_NOT_EQUAL_b1)).ext E6).keep Kq16 (ninS ne_w_NOT_EQUAL_b6 nin0)).keep Kq38 nin0)
    refine own_callV X52 hx hZ (y := (⟨"com/example/polyphony/polyphony/policy/Operator", "holds", "(I)Z"⟩ : MethodName)) (z := (⟨"com/example/polyphony/polyphony/policy/Operator", "holds", "(I)Z"⟩ : MethodName)) hown (hw _ (List.mem_of_getElem? (i := 75) rfl)) (hw _ (List.mem_of_getElem? (i := 76) rfl)) (notFace_of_selects (args := #[]) (mvT hZ (hw _ (List.mem_of_getElem? (i := 78) rfl)))) (hw _ (List.mem_of_getElem? (i := 78) rfl)) (hw _ (List.mem_of_getElem? (i := 77) rfl)) (hw _ (List.mem_of_getElem? (i := 79) rfl)) (hw _ (List.mem_of_getElem? (i := 3) rfl)) (by decide) 0 E_w_NOT_EQUAL_v43 [(.int p2)] [] (own_holds_NOT_EQUAL l Z a0 hw [] w_NOT_EQUAL p2 r T38.heap n0 (Nat.le_trans Z0 K38.1) F_w_NOT_EQUAL_whenBefore_v54 F_w_NOT_EQUAL_whenEqual_v55 F_w_NOT_EQUAL_whenAfter_v56 hrn hrz hrp) e52 (by decide) (by decide) (by decide) (by decide) (g := (mkF m 257 #[.val (.int p1), .val (.int p2), .val (.int (1 : Int32)), .val (.ref b1), .val (.ref w_NOT_EQUAL), .val (.int r), .val (.ref b6), .val (.ref w_NOT_EQUAL)] [(.int p2), (.ref w_NOT_EQUAL)])) rfl (by rw [hml]; rfl) own_pd10 rfl rfl (by show 2 * 0 + _ ≤ _; exact Nat.le_of_eq rfl) (hb hby at_257) ?_
    intro T57 v57 L57 X57 hQ57
    obtain ⟨rfl, N57q, e57⟩ := hQ57
    have N57 := Fr.app N52 N57q
    show own_Goes _ _ _ _ T57 (mkF m 260 #[.val (.int p1), .val (.int p2), .val (.int (1 : Int32)), .val (.ref b1), .val (.ref w_NOT_EQUAL), .val (.int r), .val (.ref b6), .val (.ref w_NOT_EQUAL)] [(.int r)])
    refine own_step (fun t k => XS.iload X57.here hx rfl (hb hby at_260) rfl k) ?_
    show own_Goes _ _ _ _ T57 (mkF m 262 #[.val (.int p1), .val (.int p2), .val (.int (1 : Int32)), .val (.ref b1), .val (.ref w_NOT_EQUAL), .val (.int r), .val (.ref b6), .val (.ref w_NOT_EQUAL)] [(.int r), (.int r)])
    refine own_step (fun t k => XS.icmpNo X57.here hx rfl (hb hby at_262) rfl (teq (show r = r from rfl)).2 k) ?_
    show own_Goes _ _ _ _ T57 (mkF m 265 #[.val (.int p1), .val (.int p2), .val (.int (1 : Int32)), .val (.ref b1), .val (.ref w_NOT_EQUAL), .val (.int r), .val (.ref b6), .val (.ref w_NOT_EQUAL)] [])
    refine own_step (fun t k => XS.iconst X57.here hx rfl (hb hby at_265) k) ?_
    show own_Goes _ _ _ _ T57 (mkF m 266 #[.val (.int p1), .val (.int p2), .val (.int (1 : Int32)), .val (.ref b1), .val (.ref w_NOT_EQUAL), .val (.int r), .val (.ref b6), .val (.ref w_NOT_EQUAL)] [(.int (1 : Int32))])
    refine own_step (fun t k => XS.goto X57.here hx rfl (pc0 := 266) (pc' := 270) rfl (hb hby at_266) (by decide) (by decide) k) ?_
    show own_Goes _ _ _ _ T57 (mkF m 270 #[.val (.int p1), .val (.int p2), .val (.int (1 : Int32)), .val (.ref b1), .val (.ref w_NOT_EQUAL), .val (.int r), .val (.ref b6), .val (.ref w_NOT_EQUAL)] [(.int (1 : Int32))])
    exact own_retN X57 hx hlk (t := .boolean) hrt (by simp) (hb hby at_270) ⟨rfl, N57⟩ (by decide) (by decide)
  by_cases hc70_58 : p2 = (0 : Int32)
  · refine own_step (fun t k => XS.ifYes X4.here hx rfl (pc0 := 70) (pc' := 77) rfl (hb hby at_70) rfl ((if0 _ _).trans (teq (show p2 = (0 : Int32) from hc70_58)).1) (by decide) (by decide) k) ?_
    show own_Goes _ _ _ _ T4 (mkF m 77 #[.val (.int p1), .val (.int p2), .val (.int (1 : Int32)), .val (.ref b1), .val (.ref w_NOT_EQUAL), .unset, .unset, .unset] [])
    refine own_step (fun t k => XS.iconst X4.here hx rfl (hb hby at_77) k) ?_
    show own_Goes _ _ _ _ T4 (mkF m 78 #[.val (.int p1), .val (.int p2), .val (.int (1 : Int32)), .val (.ref b1), .val (.ref w_NOT_EQUAL), .unset, .unset, .unset] [(.int (0 : Int32))])
    refine own_step (fun t k => XS.istore X4.here hx rfl (hb hby at_78) rfl (l' := #[.val (.int p1), .val (.int p2), .val (.int (1 : Int32)), .val (.ref b1), .val (.ref w_NOT_EQUAL), .val (.int (0 : Int32)), .unset, .unset]) rfl k) ?_
    show own_Goes _ _ _ _ T4 (mkF m 80 #[.val (.int p1), .val (.int p2), .val (.int (1 : Int32)), .val (.ref b1), .val (.ref w_NOT_EQUAL), .val (.int (0 : Int32)), .unset, .unset] [])
    refine own_step (fun t k => XS.goto X4.here hx rfl (pc0 := 80) (pc' := 217) rfl (hb hby at_80) (by decide) (by decide) k) ?_
    show own_Goes _ _ _ _ T4 (mkF m 217 #[.val (.int p1), .val (.int p2), .val (.int (1 : Int32)), .val (.ref b1), .val (.ref w_NOT_EQUAL), .val (.int (0 : Int32)), .unset, .unset] [])
    obtain rfl : r = (0 : Int32) := ht hc70_58
    exact tail
  · refine own_step (fun t k => XS.ifNo X4.here hx rfl (hb hby at_70) rfl ((if0 _ _).trans (feq (show ¬ (p2 = (0 : Int32)) from hc70_58)).1) k) ?_
    show own_Goes _ _ _ _ T4 (mkF m 73 #[.val (.int p1), .val (.int p2), .val (.int (1 : Int32)), .val (.ref b1), .val (.ref w_NOT_EQUAL), .unset, .unset, .unset] [])
    refine own_step (fun t k => XS.iconst X4.here hx rfl (hb hby at_73) k) ?_
    show own_Goes _ _ _ _ T4 (mkF m 74 #[.val (.int p1), .val (.int p2), .val (.int (1 : Int32)), .val (.ref b1), .val (.ref w_NOT_EQUAL), .unset, .unset, .unset] [(.int (1 : Int32))])
    refine own_step (fun t k => XS.goto X4.here hx rfl (pc0 := 74) (pc' := 78) rfl (hb hby at_74) (by decide) (by decide) k) ?_
    show own_Goes _ _ _ _ T4 (mkF m 78 #[.val (.int p1), .val (.int p2), .val (.int (1 : Int32)), .val (.ref b1), .val (.ref w_NOT_EQUAL), .unset, .unset, .unset] [(.int (1 : Int32))])
    refine own_step (fun t k => XS.istore X4.here hx rfl (hb hby at_78) rfl (l' := #[.val (.int p1), .val (.int p2), .val (.int (1 : Int32)), .val (.ref b1), .val (.ref w_NOT_EQUAL), .val (.int (1 : Int32)), .unset, .unset]) rfl k) ?_
    show own_Goes _ _ _ _ T4 (mkF m 80 #[.val (.int p1), .val (.int p2), .val (.int (1 : Int32)), .val (.ref b1), .val (.ref w_NOT_EQUAL), .val (.int (1 : Int32)), .unset, .unset] [])
    refine own_step (fun t k => XS.goto X4.here hx rfl (pc0 := 80) (pc' := 217) rfl (hb hby at_80) (by decide) (by decide) k) ?_
    show own_Goes _ _ _ _ T4 (mkF m 217 #[.val (.int p1), .val (.int p2), .val (.int (1 : Int32)), .val (.ref b1), .val (.ref w_NOT_EQUAL), .val (.int (1 : Int32)), .unset, .unset] [])
    obtain rfl : r = (1 : Int32) := hf hc70_58
    exact tail
set_option maxRecDepth 65536 in
set_option maxHeartbeats 40000000 in
theorem own_comp5_1 (l : Launch) (Z : State) (a0 : Array Value) (hw : ∀ d ∈ tables_1, d.before a0 Z = true) (ws : List Jvm.Cond) (sr : Addr) (dr : Addr) (ks : ClassId) (kd : ClassId) (c0 : Int32) (h0 : Heap) (n0 : Nat) (Z0 : n0 ≤ h0.size) (V_sr : Arv Z h0 sr ks .char (1 : Int32) [(.int c0)] (.int (0 : Int32))) (V_dr : Arv Z h0 dr kd .byte (1 : Int32) [(.int (0 : Int32))] (.int (0 : Int32))) (hc0 : ¬ ((255 : Int32) < c0)) (nesd : ¬ (sr = dr)) (g_dr : n0 ≤ dr) :
    own_Met l Z (⟨"java/lang/StringUTF16", "compress", "([CI[BII)I"⟩ : MethodName) jdk_52_method_21_code 7 (some .int) ws ({ frames := 0, cells := 0, slots := 0, locals := 0 } : Room) #[(.ref sr), (.int (0 : Int32)), (.ref dr), (.int (0 : Int32)), (.int (1 : Int32))] h0 (fun v h L => v = some (.int (1 : Int32)) ∧ Fr n0 L ∧ Keep h0 h [dr] ∧ Arv Z h dr kd .byte (1 : Int32) [(.int (c0.toInt8.toInt32))] (.int (0 : Int32))) := by
  refine own_body (plainFor_of_name own_pn_java_lang_StringUTF16) (fun p e s m below meth c s₁ hx hby hml0 hrt hlk hown0 hnm hZ X0 e0 => ?_)
  have N0 := Fr.nil n0
  have hown : s.vm.findClass "java/lang/StringUTF16" = some m.cls := hown0
  have hml : c.maxLocals = 7 := hml0
  refine own_castG (own_ef6 m sr (0 : Int32) dr (0 : Int32) (1 : Int32)) ?_
  show own_Goes _ _ _ _ s₁ (mkF m 0 #[.val (.ref sr), .val (.int (0 : Int32)), .val (.ref dr), .val (.int (0 : Int32)), .val (.int (1 : Int32)), .unset, .unset] [])
  refine own_step (fun t k => XS.iconst X0.here hx rfl (hb hby own_jdk_52_method_21_0) k) ?_
  show own_Goes _ _ _ _ s₁ (mkF m 1 #[.val (.ref sr), .val (.int (0 : Int32)), .val (.ref dr), .val (.int (0 : Int32)), .val (.int (1 : Int32)), .unset, .unset] [(.int (0 : Int32))])
  refine own_step (fun t k => XS.istore X0.here hx rfl (hb hby own_jdk_52_method_21_1) rfl (l' := #[.val (.ref sr), .val (.int (0 : Int32)), .val (.ref dr), .val (.int (0 : Int32)), .val (.int (1 : Int32)), .val (.int (0 : Int32)), .unset]) rfl k) ?_
  show own_Goes _ _ _ _ s₁ (mkF m 3 #[.val (.ref sr), .val (.int (0 : Int32)), .val (.ref dr), .val (.int (0 : Int32)), .val (.int (1 : Int32)), .val (.int (0 : Int32)), .unset] [])
  refine own_step (fun t k => XS.iload X0.here hx rfl (hb hby own_jdk_52_method_21_3) rfl k) ?_
  show own_Goes _ _ _ _ s₁ (mkF m 5 #[.val (.ref sr), .val (.int (0 : Int32)), .val (.ref dr), .val (.int (0 : Int32)), .val (.int (1 : Int32)), .val (.int (0 : Int32)), .unset] [(.int (0 : Int32))])
  refine own_step (fun t k => XS.iload X0.here hx rfl (hb hby own_jdk_52_method_21_5) rfl k) ?_
  show own_Goes _ _ _ _ s₁ (mkF m 7 #[.val (.ref sr), .val (.int (0 : Int32)), .val (.ref dr), .val (.int (0 : Int32)), .val (.int (1 : Int32)), .val (.int (0 : Int32)), .unset] [(.int (1 : Int32)), (.int (0 : Int32))])
  refine own_step (fun t k => XS.icmpNo X0.here hx rfl (hb hby own_jdk_52_method_21_7) rfl (tlt (show (0 : Int32) < (1 : Int32) from (by decide))).2.1 k) ?_
  show own_Goes _ _ _ _ s₁ (mkF m 10 #[.val (.ref sr), .val (.int (0 : Int32)), .val (.ref dr), .val (.int (0 : Int32)), .val (.int (1 : Int32)), .val (.int (0 : Int32)), .unset] [])
  refine own_step (fun t k => XS.aloadN X0.here hx rfl (hb hby own_jdk_52_method_21_10) rfl rfl k) ?_
  show own_Goes _ _ _ _ s₁ (mkF m 11 #[.val (.ref sr), .val (.int (0 : Int32)), .val (.ref dr), .val (.int (0 : Int32)), .val (.int (1 : Int32)), .val (.int (0 : Int32)), .unset] [(.ref sr)])
  refine own_step (fun t k => XS.iloadN X0.here hx rfl (hb hby own_jdk_52_method_21_11) rfl k) ?_
  show own_Goes _ _ _ _ s₁ (mkF m 12 #[.val (.ref sr), .val (.int (0 : Int32)), .val (.ref dr), .val (.int (0 : Int32)), .val (.int (1 : Int32)), .val (.int (0 : Int32)), .unset] [(.int (0 : Int32)), (.ref sr)])
  refine own_step (own_caload X0 hx hZ e0 V_sr (.int c0) ⟨by decide, by decide⟩ rfl (g := (mkF m 12 #[.val (.ref sr), .val (.int (0 : Int32)), .val (.ref dr), .val (.int (0 : Int32)), .val (.int (1 : Int32)), .val (.int (0 : Int32)), .unset] [(.int (0 : Int32)), (.ref sr)])) rfl rfl (hb hby own_jdk_52_method_21_12)) ?_
  show own_Goes _ _ _ _ s₁ (mkF m 13 #[.val (.ref sr), .val (.int (0 : Int32)), .val (.ref dr), .val (.int (0 : Int32)), .val (.int (1 : Int32)), .val (.int (0 : Int32)), .unset] [(.int c0)])
  refine own_step (fun t k => XS.istore X0.here hx rfl (hb hby own_jdk_52_method_21_13) rfl (l' := #[.val (.ref sr), .val (.int (0 : Int32)), .val (.ref dr), .val (.int (0 : Int32)), .val (.int (1 : Int32)), .val (.int (0 : Int32)), .val (.int c0)]) rfl k) ?_
  show own_Goes _ _ _ _ s₁ (mkF m 15 #[.val (.ref sr), .val (.int (0 : Int32)), .val (.ref dr), .val (.int (0 : Int32)), .val (.int (1 : Int32)), .val (.int (0 : Int32)), .val (.int c0)] [])
  refine own_step (fun t k => XS.iload X0.here hx rfl (hb hby own_jdk_52_method_21_15) rfl k) ?_
  show own_Goes _ _ _ _ s₁ (mkF m 17 #[.val (.ref sr), .val (.int (0 : Int32)), .val (.ref dr), .val (.int (0 : Int32)), .val (.int (1 : Int32)), .val (.int (0 : Int32)), .val (.int c0)] [(.int c0)])
  refine own_step (fun t k => XS.sipush X0.here hx rfl (hb hby own_jdk_52_method_21_17) k) ?_
  show own_Goes _ _ _ _ s₁ (mkF m 20 #[.val (.ref sr), .val (.int (0 : Int32)), .val (.ref dr), .val (.int (0 : Int32)), .val (.int (1 : Int32)), .val (.int (0 : Int32)), .val (.int c0)] [(.int (255 : Int32)), (.int c0)])
  refine own_step (fun t k => XS.icmpYes X0.here hx rfl (pc0 := 20) (pc' := 26) rfl (hb hby own_jdk_52_method_21_20) rfl (flt (show ¬ ((255 : Int32) < c0) from hc0)).2.2.2 (by decide) (by decide) k) ?_
  show own_Goes _ _ _ _ s₁ (mkF m 26 #[.val (.ref sr), .val (.int (0 : Int32)), .val (.ref dr), .val (.int (0 : Int32)), .val (.int (1 : Int32)), .val (.int (0 : Int32)), .val (.int c0)] [])
  refine own_step (fun t k => XS.aloadN X0.here hx rfl (hb hby own_jdk_52_method_21_26) rfl rfl k) ?_
  show own_Goes _ _ _ _ s₁ (mkF m 27 #[.val (.ref sr), .val (.int (0 : Int32)), .val (.ref dr), .val (.int (0 : Int32)), .val (.int (1 : Int32)), .val (.int (0 : Int32)), .val (.int c0)] [(.ref dr)])
  refine own_step (fun t k => XS.iloadN X0.here hx rfl (hb hby own_jdk_52_method_21_27) rfl k) ?_
  show own_Goes _ _ _ _ s₁ (mkF m 28 #[.val (.ref sr), .val (.int (0 : Int32)), .val (.ref dr), .val (.int (0 : Int32)), .val (.int (1 : Int32)), .val (.int (0 : Int32)), .val (.int c0)] [(.int (0 : Int32)), (.ref dr)])
  refine own_step (fun t k => XS.iload X0.here hx rfl (hb hby own_jdk_52_method_21_28) rfl k) ?_
  show own_Goes _ _ _ _ s₁ (mkF m 30 #[.val (.ref sr), .val (.int (0 : Int32)), .val (.ref dr), .val (.int (0 : Int32)), .val (.int (1 : Int32)), .val (.int (0 : Int32)), .val (.int c0)] [(.int c0), (.int (0 : Int32)), (.ref dr)])
  refine own_step (fun t k => XS.i2b X0.here hx rfl (hb hby own_jdk_52_method_21_30) rfl k) ?_
  show own_Goes _ _ _ _ s₁ (mkF m 31 #[.val (.ref sr), .val (.int (0 : Int32)), .val (.ref dr), .val (.int (0 : Int32)), .val (.int (1 : Int32)), .val (.int (0 : Int32)), .val (.int c0)] [(.int (c0.toInt8.toInt32)), (.int (0 : Int32)), (.ref dr)])
  obtain ⟨T1, h1, X1, e1, W1, V1, st1⟩ := own_bastore X0 hx hZ e0 V_dr (x := (c0.toInt8.toInt32)) (c0.toInt8.toInt32) (own_b8 _) (j := (0 : Int32)) ⟨by decide, by decide⟩ 0 rfl (Nat.le_of_ble_eq_true rfl) (g := (mkF m 31 #[.val (.ref sr), .val (.int (0 : Int32)), .val (.ref dr), .val (.int (0 : Int32)), .val (.int (1 : Int32)), .val (.int (0 : Int32)), .val (.int c0)] [(.int (c0.toInt8.toInt32)), (.int (0 : Int32)), (.ref dr)])) rfl rfl (hb hby own_jdk_52_method_21_31)
  refine own_step st1 ?_
  have K1 := (Keep.refl h0 [dr]).wr W1 (Or.inl (List.mem_of_getElem? (i := 0) rfl))
  have N1 := Fr.snoc X1 N0 g_dr
  have V1' : Arv Z h1 dr kd .byte (1 : Int32) [(.int (c0.toInt8.toInt32))] (.int (0 : Int32)) := V1
  show own_Goes _ _ _ _ T1 (mkF m 32 #[.val (.ref sr), .val (.int (0 : Int32)), .val (.ref dr), .val (.int (0 : Int32)), .val (.int (1 : Int32)), .val (.int (0 : Int32)), .val (.int c0)] [])
  refine own_step (fun t k => XS.iinc X1.here hx rfl (hb hby own_jdk_52_method_21_32) rfl (l' := #[.val (.ref sr), .val (.int (1 : Int32)), .val (.ref dr), .val (.int (0 : Int32)), .val (.int (1 : Int32)), .val (.int (0 : Int32)), .val (.int c0)]) rfl k) ?_
  show own_Goes _ _ _ _ T1 (mkF m 35 #[.val (.ref sr), .val (.int (1 : Int32)), .val (.ref dr), .val (.int (0 : Int32)), .val (.int (1 : Int32)), .val (.int (0 : Int32)), .val (.int c0)] [])
  refine own_step (fun t k => XS.iinc X1.here hx rfl (hb hby own_jdk_52_method_21_35) rfl (l' := #[.val (.ref sr), .val (.int (1 : Int32)), .val (.ref dr), .val (.int (1 : Int32)), .val (.int (1 : Int32)), .val (.int (0 : Int32)), .val (.int c0)]) rfl k) ?_
  show own_Goes _ _ _ _ T1 (mkF m 38 #[.val (.ref sr), .val (.int (1 : Int32)), .val (.ref dr), .val (.int (1 : Int32)), .val (.int (1 : Int32)), .val (.int (0 : Int32)), .val (.int c0)] [])
  refine own_step (fun t k => XS.iinc X1.here hx rfl (hb hby own_jdk_52_method_21_38) rfl (l' := #[.val (.ref sr), .val (.int (1 : Int32)), .val (.ref dr), .val (.int (1 : Int32)), .val (.int (1 : Int32)), .val (.int (1 : Int32)), .val (.int c0)]) rfl k) ?_
  show own_Goes _ _ _ _ T1 (mkF m 41 #[.val (.ref sr), .val (.int (1 : Int32)), .val (.ref dr), .val (.int (1 : Int32)), .val (.int (1 : Int32)), .val (.int (1 : Int32)), .val (.int c0)] [])
  refine own_step (fun t k => XS.goto X1.here hx rfl (pc0 := 41) (pc' := 3) rfl (hb hby own_jdk_52_method_21_41) (by decide) (by decide) k) ?_
  show own_Goes _ _ _ _ T1 (mkF m 3 #[.val (.ref sr), .val (.int (1 : Int32)), .val (.ref dr), .val (.int (1 : Int32)), .val (.int (1 : Int32)), .val (.int (1 : Int32)), .val (.int c0)] [])
  refine own_step (fun t k => XS.iload X1.here hx rfl (hb hby own_jdk_52_method_21_3) rfl k) ?_
  show own_Goes _ _ _ _ T1 (mkF m 5 #[.val (.ref sr), .val (.int (1 : Int32)), .val (.ref dr), .val (.int (1 : Int32)), .val (.int (1 : Int32)), .val (.int (1 : Int32)), .val (.int c0)] [(.int (1 : Int32))])
  refine own_step (fun t k => XS.iload X1.here hx rfl (hb hby own_jdk_52_method_21_5) rfl k) ?_
  show own_Goes _ _ _ _ T1 (mkF m 7 #[.val (.ref sr), .val (.int (1 : Int32)), .val (.ref dr), .val (.int (1 : Int32)), .val (.int (1 : Int32)), .val (.int (1 : Int32)), .val (.int c0)] [(.int (1 : Int32)), (.int (1 : Int32))])
  refine own_step (fun t k => XS.icmpYes X1.here hx rfl (pc0 := 7) (pc' := 44) rfl (hb hby own_jdk_52_method_21_7) rfl (flt (show ¬ ((1 : Int32) < (1 : Int32)) from (by decide))).2.1 (by decide) (by decide) k) ?_
  show own_Goes _ _ _ _ T1 (mkF m 44 #[.val (.ref sr), .val (.int (1 : Int32)), .val (.ref dr), .val (.int (1 : Int32)), .val (.int (1 : Int32)), .val (.int (1 : Int32)), .val (.int c0)] [])
  refine own_step (fun t k => XS.iload X1.here hx rfl (hb hby own_jdk_52_method_21_44) rfl k) ?_
  show own_Goes _ _ _ _ T1 (mkF m 46 #[.val (.ref sr), .val (.int (1 : Int32)), .val (.ref dr), .val (.int (1 : Int32)), .val (.int (1 : Int32)), .val (.int (1 : Int32)), .val (.int c0)] [(.int (1 : Int32))])
  exact own_retI X1 hx hlk hrt (hb hby own_jdk_52_method_21_46) (by rw [e1]; exact ⟨rfl, N1, K1, V1'⟩) (by decide) (by decide)
set_option maxRecDepth 65536 in
set_option maxHeartbeats 40000000 in
theorem own_comp3_1 (l : Launch) (Z : State) (a0 : Array Value) (hw : ∀ d ∈ tables_1, d.before a0 Z = true) (ws : List Jvm.Cond) (sr : Addr) (ks : ClassId) (c0 : Int32) (h0 : Heap) (n0 : Nat) (Z0 : n0 ≤ h0.size) (V_sr : Arv Z h0 sr ks .char (1 : Int32) [(.int c0)] (.int (0 : Int32))) (hc0 : ¬ ((255 : Int32) < c0)) :
    own_Met l Z (⟨"java/lang/StringUTF16", "compress", "([CII)[B"⟩ : MethodName) jdk_52_method_16_code 6 (some (.array .byte)) ws ({ frames := 1, cells := 1, slots := 1, locals := 18 } : Room) #[(.ref sr), (.int (0 : Int32)), (.int (1 : Int32))] h0 (fun v h L => ∃ r : Addr, ∃ kr : ClassId, v = some (.ref r) ∧ Fr n0 L ∧ Keep h0 h [] ∧ h0.size ≤ r ∧ Arv Z h r kr .byte (1 : Int32) [(.int (c0.toInt8.toInt32))] (.int (0 : Int32))) := by
  refine own_body (plainFor_of_name own_pn_java_lang_StringUTF16) (fun p e s m below meth c s₁ hx hby hml0 hrt hlk hown0 hnm hZ X0 e0 => ?_)
  have N0 := Fr.nil n0
  have hown : s.vm.findClass "java/lang/StringUTF16" = some m.cls := hown0
  have hml : c.maxLocals = 6 := hml0
  refine own_castG (own_ef7 m sr (0 : Int32) (1 : Int32)) ?_
  show own_Goes _ _ _ _ s₁ (mkF m 0 #[.val (.ref sr), .val (.int (0 : Int32)), .val (.int (1 : Int32)), .unset, .unset, .unset] [])
  refine own_step (fun t k => XS.iloadN X0.here hx rfl (hb hby own_jdk_52_method_16_0) rfl k) ?_
  show own_Goes _ _ _ _ s₁ (mkF m 1 #[.val (.ref sr), .val (.int (0 : Int32)), .val (.int (1 : Int32)), .unset, .unset, .unset] [(.int (1 : Int32))])
  obtain ⟨T1, h1, k1, X1, e1, E1, A1, st1⟩ := newP X0 hx hZ (hw _ (List.mem_of_getElem? (i := 23) rfl)) e0 (g := (mkF m 1 #[.val (.ref sr), .val (.int (0 : Int32)), .val (.int (1 : Int32)), .unset, .unset, .unset] [(.int (1 : Int32))])) rfl (hb hby own_jdk_52_method_16_1) rfl (by decide) (cap := 1) (by decide) (by decide) (by decide) (by decide)
  obtain ⟨b1, g1⟩ : ∃ z, z = h0.size := ⟨_, rfl⟩
  rw [← g1] at A1 st1
  refine own_step st1 ?_
  have g_b1 : n0 ≤ b1 := Nat.le_trans Z0 (Nat.le_of_eq g1.symm)
  have sz_b1 : h0.size ≤ b1 := Nat.le_trans (Keep.refl h0 []).1 (Nat.le_of_eq g1.symm)
  have ne_sr_b1 : sr ≠ b1 := Nat.ne_of_lt (Nat.lt_of_lt_of_le V_sr.lt (Nat.le_of_eq g1.symm))
  have K1 := (Keep.refl h0 []).ext E1
  have V_b1 : Arv Z h1 b1 k1 .byte (1 : Int32) [(.int (0 : Int32))] (.int (0 : Int32)) := (Arv.new A1 (by decide)).pad (pad_rep [] (.int (0 : Int32)) 1)
  show own_Goes _ _ _ _ T1 (mkF m 3 #[.val (.ref sr), .val (.int (0 : Int32)), .val (.int (1 : Int32)), .unset, .unset, .unset] [(.ref b1)])
  refine own_step (fun t k => XS.astoreN X1.here hx rfl (hb hby own_jdk_52_method_16_3) rfl rfl (l' := #[.val (.ref sr), .val (.int (0 : Int32)), .val (.int (1 : Int32)), .val (.ref b1), .unset, .unset]) rfl k) ?_
  show own_Goes _ _ _ _ T1 (mkF m 4 #[.val (.ref sr), .val (.int (0 : Int32)), .val (.int (1 : Int32)), .val (.ref b1), .unset, .unset] [])
  refine own_step (fun t k => XS.aloadN X1.here hx rfl (hb hby own_jdk_52_method_16_4) rfl rfl k) ?_
  show own_Goes _ _ _ _ T1 (mkF m 5 #[.val (.ref sr), .val (.int (0 : Int32)), .val (.int (1 : Int32)), .val (.ref b1), .unset, .unset] [(.ref sr)])
  refine own_step (fun t k => XS.iloadN X1.here hx rfl (hb hby own_jdk_52_method_16_5) rfl k) ?_
  show own_Goes _ _ _ _ T1 (mkF m 6 #[.val (.ref sr), .val (.int (0 : Int32)), .val (.int (1 : Int32)), .val (.ref b1), .unset, .unset] [(.int (0 : Int32)), (.ref sr)])
  refine own_step (fun t k => XS.aloadN X1.here hx rfl (hb hby own_jdk_52_method_16_6) rfl rfl k) ?_
  show own_Goes _ _ _ _ T1 (mkF m 7 #[.val (.ref sr), .val (.int (0 : Int32)), .val (.int (1 : Int32)), .val (.ref b1), .unset, .unset] [(.ref b1), (.int (0 : Int32)), (.ref sr)])
  refine own_step (fun t k => XS.iconst X1.here hx rfl (hb hby own_jdk_52_method_16_7) k) ?_
  show own_Goes _ _ _ _ T1 (mkF m 8 #[.val (.ref sr), .val (.int (0 : Int32)), .val (.int (1 : Int32)), .val (.ref b1), .unset, .unset] [(.int (0 : Int32)), (.ref b1), (.int (0 : Int32)), (.ref sr)])
  refine own_step (fun t k => XS.iloadN X1.here hx rfl (hb hby own_jdk_52_method_16_8) rfl k) ?_
  show own_Goes _ _ _ _ T1 (mkF m 9 #[.val (.ref sr), .val (.int (0 : Int32)), .val (.int (1 : Int32)), .val (.ref b1), .unset, .unset] [(.int (1 : Int32)), (.int (0 : Int32)), (.ref b1), (.int (0 : Int32)), (.ref sr)])
  have V_sr_v2 := (V_sr.ext E1)
  refine own_callS X1 hx hZ (y := (⟨"java/lang/StringUTF16", "compress", "([CI[BII)I"⟩ : MethodName)) hown (hw _ (List.mem_of_getElem? (i := 24) rfl)) (hw _ (List.mem_of_getElem? (i := 25) rfl)) (hw _ (List.mem_of_getElem? (i := 21) rfl)) (hw _ (List.mem_of_getElem? (i := 26) rfl)) (by decide) 0 [(.ref sr), (.int (0 : Int32)), (.ref b1), (.int (0 : Int32)), (.int (1 : Int32))] [] (own_comp5_1 l Z a0 hw [] sr b1 ks k1 c0 h1 n0 (Nat.le_trans Z0 K1.1) V_sr_v2 V_b1 hc0 ne_sr_b1 g_b1) e1 (by decide) (by decide) (by decide) (by decide) (g := (mkF m 9 #[.val (.ref sr), .val (.int (0 : Int32)), .val (.int (1 : Int32)), .val (.ref b1), .unset, .unset] [(.int (1 : Int32)), (.int (0 : Int32)), (.ref b1), (.int (0 : Int32)), (.ref sr)])) rfl (by rw [hml]; rfl) own_pd3 rfl rfl (by show 2 * 0 + _ ≤ _; exact Nat.le_of_eq rfl) (hb hby own_jdk_52_method_16_9) ?_
  intro T3 v3 L3 X3 hQ3
  obtain ⟨rfl, N3q, Kq3, q3_0⟩ := hQ3
  have N3 := Fr.app N0 N3q
  have K3 := K1.trans Kq3 (allS (Or.inr sz_b1) all0)
  have q3_0' : Arv Z T3.heap b1 k1 .byte (1 : Int32) [(.int (c0.toInt8.toInt32))] (.int (0 : Int32)) := q3_0
  show own_Goes _ _ _ _ T3 (mkF m 12 #[.val (.ref sr), .val (.int (0 : Int32)), .val (.int (1 : Int32)), .val (.ref b1), .unset, .unset] [(.int (1 : Int32))])
  refine own_step (fun t k => XS.istore X3.here hx rfl (hb hby own_jdk_52_method_16_12) rfl (l' := #[.val (.ref sr), .val (.int (0 : Int32)), .val (.int (1 : Int32)), .val (.ref b1), .val (.int (1 : Int32)), .unset]) rfl k) ?_
  show own_Goes _ _ _ _ T3 (mkF m 14 #[.val (.ref sr), .val (.int (0 : Int32)), .val (.int (1 : Int32)), .val (.ref b1), .val (.int (1 : Int32)), .unset] [])
  refine own_step (fun t k => XS.iload X3.here hx rfl (hb hby own_jdk_52_method_16_14) rfl k) ?_
  show own_Goes _ _ _ _ T3 (mkF m 16 #[.val (.ref sr), .val (.int (0 : Int32)), .val (.int (1 : Int32)), .val (.ref b1), .val (.int (1 : Int32)), .unset] [(.int (1 : Int32))])
  refine own_step (fun t k => XS.iloadN X3.here hx rfl (hb hby own_jdk_52_method_16_16) rfl k) ?_
  show own_Goes _ _ _ _ T3 (mkF m 17 #[.val (.ref sr), .val (.int (0 : Int32)), .val (.int (1 : Int32)), .val (.ref b1), .val (.int (1 : Int32)), .unset] [(.int (1 : Int32)), (.int (1 : Int32))])
  refine own_step (fun t k => XS.icmpYes X3.here hx rfl (pc0 := 17) (pc' := 57) rfl (hb hby own_jdk_52_method_16_17) rfl (teq (show (1 : Int32) = (1 : Int32) from (by decide))).1 (by decide) (by decide) k) ?_
  show own_Goes _ _ _ _ T3 (mkF m 57 #[.val (.ref sr), .val (.int (0 : Int32)), .val (.int (1 : Int32)), .val (.ref b1), .val (.int (1 : Int32)), .unset] [])
  refine own_step (fun t k => XS.aloadN X3.here hx rfl (hb hby own_jdk_52_method_16_57) rfl rfl k) ?_
  show own_Goes _ _ _ _ T3 (mkF m 58 #[.val (.ref sr), .val (.int (0 : Int32)), .val (.int (1 : Int32)), .val (.ref b1), .val (.int (1 : Int32)), .unset] [(.ref b1)])
  exact own_retA X3 hx hlk hrt rfl rfl rfl (hb hby own_jdk_52_method_16_58) (by exact ⟨b1, k1, rfl, N3, K3, sz_b1, q3_0'⟩) (by decide) (by decide)
set_option maxRecDepth 65536 in
set_option maxHeartbeats 40000000 in
theorem own_coder_1 (l : Launch) (Z : State) (a0 : Array Value) (hw : ∀ d ∈ tables_1, d.before a0 Z = true) (ws : List Jvm.Cond) (dr : Addr) (kd : ClassId) (x0 : Int32) (h0 : Heap) (n0 : Nat) (Z0 : n0 ≤ h0.size) (V_dr : Arv Z h0 dr kd .byte (1 : Int32) [(.int x0)] (.int (0 : Int32))) :
    own_Met l Z (⟨"java/lang/StringUTF16", "coderFromArrayLen", "([BI)B"⟩ : MethodName) jdk_52_method_15_code 2 (some .byte) ws ({ frames := 0, cells := 0, slots := 0, locals := 0 } : Room) #[(.ref dr), (.int (1 : Int32))] h0 (fun v h L => v = some (.int (0 : Int32)) ∧ Fr n0 L ∧ h = h0) := by
  refine own_body (plainFor_of_name own_pn_java_lang_StringUTF16) (fun p e s m below meth c s₁ hx hby hml0 hrt hlk hown0 hnm hZ X0 e0 => ?_)
  have N0 := Fr.nil n0
  have hown : s.vm.findClass "java/lang/StringUTF16" = some m.cls := hown0
  have hml : c.maxLocals = 2 := hml0
  refine own_castG (own_ef8 m dr (1 : Int32)) ?_
  show own_Goes _ _ _ _ s₁ (mkF m 0 #[.val (.ref dr), .val (.int (1 : Int32))] [])
  refine own_step (fun t k => XS.iloadN X0.here hx rfl (hb hby own_jdk_52_method_15_0) rfl k) ?_
  show own_Goes _ _ _ _ s₁ (mkF m 1 #[.val (.ref dr), .val (.int (1 : Int32))] [(.int (1 : Int32))])
  refine own_step (fun t k => XS.aloadN X0.here hx rfl (hb hby own_jdk_52_method_15_1) rfl rfl k) ?_
  show own_Goes _ _ _ _ s₁ (mkF m 2 #[.val (.ref dr), .val (.int (1 : Int32))] [(.ref dr), (.int (1 : Int32))])
  refine own_step (own_alen X0 hx hZ e0 V_dr (g := (mkF m 2 #[.val (.ref dr), .val (.int (1 : Int32))] [(.ref dr), (.int (1 : Int32))])) rfl rfl (hb hby own_jdk_52_method_15_2)) ?_
  show own_Goes _ _ _ _ s₁ (mkF m 3 #[.val (.ref dr), .val (.int (1 : Int32))] [(.int (1 : Int32)), (.int (1 : Int32))])
  refine own_step (fun t k => XS.isub X0.here hx rfl (hb hby own_jdk_52_method_15_3) rfl k) ?_
  show own_Goes _ _ _ _ s₁ (mkF m 4 #[.val (.ref dr), .val (.int (1 : Int32))] [(.int (0 : Int32))])
  refine own_step (fun t k => XS.bipush X0.here hx rfl (hb hby own_jdk_52_method_15_4) k) ?_
  show own_Goes _ _ _ _ s₁ (mkF m 6 #[.val (.ref dr), .val (.int (1 : Int32))] [(.int (31 : Int32)), (.int (0 : Int32))])
  refine own_step (fun t k => XS.iushr X0.here hx rfl (hb hby own_jdk_52_method_15_6) rfl k) ?_
  show own_Goes _ _ _ _ s₁ (mkF m 7 #[.val (.ref dr), .val (.int (1 : Int32))] [(.int (0 : Int32))])
  refine own_step (fun t k => XS.i2b X0.here hx rfl (hb hby own_jdk_52_method_15_7) rfl k) ?_
  show own_Goes _ _ _ _ s₁ (mkF m 8 #[.val (.ref dr), .val (.int (1 : Int32))] [(.int (0 : Int32))])
  exact own_retN X0 hx hlk (t := .byte) hrt (by simp) (hb hby own_jdk_52_method_15_8) ⟨rfl, N0, e0⟩ (by decide) (by decide)
set_option maxRecDepth 65536 in
set_option maxHeartbeats 40000000 in
theorem own_sinit4_1 (l : Launch) (Z : State) (a0 : Array Value) (hw : ∀ d ∈ tables_1, d.before a0 Z = true) (ws : List Jvm.Cond) (a : Addr) (sr : Addr) (ks : ClassId) (c0 : Int32) (zc : Int32) (h0 : Heap) (n0 : Nat) (Z0 : n0 ≤ h0.size) (E_a : Exa Z h0 a "java/lang/String") (F_a_value : Fld Z h0 a "java/lang/String" "value" "[B" .null) (F_a_coder : Fld Z h0 a "java/lang/String" "coder" "B" (.int (0 : Int32))) (V_sr : Arv Z h0 sr ks .char (1 : Int32) [(.int c0)] (.int (0 : Int32))) (S_COMPACT_STRINGS : Sta Z h0 "java/lang/String" "COMPACT_STRINGS" "Z" (.int zc)) (hc0 : ¬ ((255 : Int32) < c0)) (hz : ¬ (zc = (0 : Int32))) (g_a : n0 ≤ a) :
    own_Met l Z (⟨"java/lang/String", "<init>", "([CIILjava/lang/Void;)V"⟩ : MethodName) jdk_42_method_149_code 6 none ws ({ frames := 2, cells := 1, slots := 1, locals := 35 } : Room) #[(.ref a), (.ref sr), (.int (0 : Int32)), (.int (1 : Int32)), .null] h0 (fun v h L => ∃ r : Addr, ∃ kr : ClassId, v = none ∧ Fr n0 L ∧ Keep h0 h [a] ∧ h0.size ≤ r ∧ Exa Z h a "java/lang/String" ∧ Fld Z h a "java/lang/String" "coder" "B" (.int (0 : Int32)) ∧ Fld Z h a "java/lang/String" "value" "[B" (.ref r) ∧ Arv Z h r kr .byte (1 : Int32) [(.int (c0.toInt8.toInt32))] (.int (0 : Int32))) := by
  refine own_body (plainFor_of_name own_pn_java_lang_String) (fun p e s m below meth c s₁ hx hby hml0 hrt hlk hown0 hnm hZ X0 e0 => ?_)
  have N0 := Fr.nil n0
  have hown : s.vm.findClass "java/lang/String" = some m.cls := hown0
  have hml : c.maxLocals = 6 := hml0
  refine own_castG (own_ef9 m a sr (0 : Int32) (1 : Int32)) ?_
  show own_Goes _ _ _ _ s₁ (mkF m 0 #[.val (.ref a), .val (.ref sr), .val (.int (0 : Int32)), .val (.int (1 : Int32)), .val .null, .unset] [])
  refine own_step (fun t k => XS.aloadN X0.here hx rfl (hb hby own_jdk_42_method_149_0) rfl rfl k) ?_
  show own_Goes _ _ _ _ s₁ (mkF m 1 #[.val (.ref a), .val (.ref sr), .val (.int (0 : Int32)), .val (.int (1 : Int32)), .val .null, .unset] [(.ref a)])
  obtain ⟨T1, X1, e1, st1⟩ := initO X0 hx hZ hown (hw _ (List.mem_of_getElem? (i := 15) rfl)) (hw _ (List.mem_of_getElem? (i := 16) rfl)) (hw _ (List.mem_of_getElem? (i := 17) rfl)) e0 (g := (mkF m 1 #[.val (.ref a), .val (.ref sr), .val (.int (0 : Int32)), .val (.int (1 : Int32)), .val .null, .unset] [(.ref a)])) rfl (by rw [hml]; rfl) rfl (hb hby own_jdk_42_method_149_1) (by decide) (W := 0) (by show 2 * 0 + _ ≤ _; exact Nat.le_of_eq rfl) (by decide)
  refine own_step st1 ?_
  show own_Goes _ _ _ _ T1 (mkF m 4 #[.val (.ref a), .val (.ref sr), .val (.int (0 : Int32)), .val (.int (1 : Int32)), .val .null, .unset] [])
  refine own_step (fun t k => XS.iloadN X1.here hx rfl (hb hby own_jdk_42_method_149_4) rfl k) ?_
  show own_Goes _ _ _ _ T1 (mkF m 5 #[.val (.ref a), .val (.ref sr), .val (.int (0 : Int32)), .val (.int (1 : Int32)), .val .null, .unset] [(.int (1 : Int32))])
  refine own_step (fun t k => XS.ifYes X1.here hx rfl (pc0 := 5) (pc' := 27) rfl (hb hby own_jdk_42_method_149_5) rfl ((if0 _ _).trans (feq (show ¬ ((1 : Int32) = (0 : Int32)) from (by decide))).2) (by decide) (by decide) k) ?_
  show own_Goes _ _ _ _ T1 (mkF m 27 #[.val (.ref a), .val (.ref sr), .val (.int (0 : Int32)), .val (.int (1 : Int32)), .val .null, .unset] [])
  obtain ⟨T2, X2, e2, st2⟩ := getS2 X1 hx hZ hown (host := "") (Or.inl (hw _ (List.mem_of_getElem? (i := 18) rfl))) Via.refl e1 S_COMPACT_STRINGS (g := (mkF m 27 #[.val (.ref a), .val (.ref sr), .val (.int (0 : Int32)), .val (.int (1 : Int32)), .val .null, .unset] [])) rfl (hb hby own_jdk_42_method_149_27)
  refine own_step st2 ?_
  show own_Goes _ _ _ _ T2 (mkF m 30 #[.val (.ref a), .val (.ref sr), .val (.int (0 : Int32)), .val (.int (1 : Int32)), .val .null, .unset] [(.int zc)])
  refine own_step (fun t k => XS.ifNo X2.here hx rfl (hb hby own_jdk_42_method_149_30) rfl ((if0 _ _).trans (feq (show ¬ (zc = (0 : Int32)) from hz)).1) k) ?_
  show own_Goes _ _ _ _ T2 (mkF m 33 #[.val (.ref a), .val (.ref sr), .val (.int (0 : Int32)), .val (.int (1 : Int32)), .val .null, .unset] [])
  refine own_step (fun t k => XS.aloadN X2.here hx rfl (hb hby own_jdk_42_method_149_33) rfl rfl k) ?_
  show own_Goes _ _ _ _ T2 (mkF m 34 #[.val (.ref a), .val (.ref sr), .val (.int (0 : Int32)), .val (.int (1 : Int32)), .val .null, .unset] [(.ref sr)])
  refine own_step (fun t k => XS.iloadN X2.here hx rfl (hb hby own_jdk_42_method_149_34) rfl k) ?_
  show own_Goes _ _ _ _ T2 (mkF m 35 #[.val (.ref a), .val (.ref sr), .val (.int (0 : Int32)), .val (.int (1 : Int32)), .val .null, .unset] [(.int (0 : Int32)), (.ref sr)])
  refine own_step (fun t k => XS.iloadN X2.here hx rfl (hb hby own_jdk_42_method_149_35) rfl k) ?_
  show own_Goes _ _ _ _ T2 (mkF m 36 #[.val (.ref a), .val (.ref sr), .val (.int (0 : Int32)), .val (.int (1 : Int32)), .val .null, .unset] [(.int (1 : Int32)), (.int (0 : Int32)), (.ref sr)])
  refine own_callS X2 hx hZ (y := (⟨"java/lang/StringUTF16", "compress", "([CII)[B"⟩ : MethodName)) hown (hw _ (List.mem_of_getElem? (i := 19) rfl)) (hw _ (List.mem_of_getElem? (i := 20) rfl)) (hw _ (List.mem_of_getElem? (i := 21) rfl)) (hw _ (List.mem_of_getElem? (i := 22) rfl)) (by decide) 0 [(.ref sr), (.int (0 : Int32)), (.int (1 : Int32))] [] (own_comp3_1 l Z a0 hw [] sr ks c0 h0 n0 Z0 V_sr hc0) e2 (by decide) (by decide) (by decide) (by decide) (g := (mkF m 36 #[.val (.ref a), .val (.ref sr), .val (.int (0 : Int32)), .val (.int (1 : Int32)), .val .null, .unset] [(.int (1 : Int32)), (.int (0 : Int32)), (.ref sr)])) rfl (by rw [hml]; rfl) own_pd4 rfl rfl (by show 2 * 0 + _ ≤ _; exact Nat.le_of_eq rfl) (hb hby own_jdk_42_method_149_36) ?_
  intro T3 v3 L3 X3 hQ3
  obtain ⟨b3_0, k3_0, rfl, N3q, Kq3, zq3_0, q3_0⟩ := hQ3
  have N3 := Fr.app N0 N3q
  have K3 := (Keep.refl h0 [a]).trans Kq3 all0
  have g_b3_0 : n0 ≤ b3_0 := Nat.le_trans Z0 zq3_0
  have sz_b3_0 : h0.size ≤ b3_0 := Nat.le_trans (Keep.refl h0 [a]).1 zq3_0
  have ne_a_b3_0 : a ≠ b3_0 := Nat.ne_of_lt (Nat.lt_of_lt_of_le E_a.lt zq3_0)
  have ne_sr_b3_0 : sr ≠ b3_0 := Nat.ne_of_lt (Nat.lt_of_lt_of_le V_sr.lt zq3_0)
  have q3_0' : Arv Z T3.heap b3_0 k3_0 .byte (1 : Int32) [(.int (c0.toInt8.toInt32))] (.int (0 : Int32)) := q3_0
  show own_Goes _ _ _ _ T3 (mkF m 39 #[.val (.ref a), .val (.ref sr), .val (.int (0 : Int32)), .val (.int (1 : Int32)), .val .null, .unset] [(.ref b3_0)])
  refine own_step (fun t k => XS.astore X3.here hx rfl (hb hby own_jdk_42_method_149_39) rfl rfl (l' := #[.val (.ref a), .val (.ref sr), .val (.int (0 : Int32)), .val (.int (1 : Int32)), .val .null, .val (.ref b3_0)]) rfl k) ?_
  show own_Goes _ _ _ _ T3 (mkF m 41 #[.val (.ref a), .val (.ref sr), .val (.int (0 : Int32)), .val (.int (1 : Int32)), .val .null, .val (.ref b3_0)] [])
  refine own_step (fun t k => XS.aloadN X3.here hx rfl (hb hby own_jdk_42_method_149_41) rfl rfl k) ?_
  show own_Goes _ _ _ _ T3 (mkF m 42 #[.val (.ref a), .val (.ref sr), .val (.int (0 : Int32)), .val (.int (1 : Int32)), .val .null, .val (.ref b3_0)] [(.ref a)])
  refine own_step (fun t k => XS.aload X3.here hx rfl (hb hby own_jdk_42_method_149_42) rfl rfl k) ?_
  show own_Goes _ _ _ _ T3 (mkF m 44 #[.val (.ref a), .val (.ref sr), .val (.int (0 : Int32)), .val (.int (1 : Int32)), .val .null, .val (.ref b3_0)] [(.ref b3_0), (.ref a)])
  refine own_step (fun t k => XS.iloadN X3.here hx rfl (hb hby own_jdk_42_method_149_44) rfl k) ?_
  show own_Goes _ _ _ _ T3 (mkF m 45 #[.val (.ref a), .val (.ref sr), .val (.int (0 : Int32)), .val (.int (1 : Int32)), .val .null, .val (.ref b3_0)] [(.int (1 : Int32)), (.ref b3_0), (.ref a)])
  refine own_callS X3 hx hZ (y := (⟨"java/lang/StringUTF16", "coderFromArrayLen", "([BI)B"⟩ : MethodName)) hown (hw _ (List.mem_of_getElem? (i := 27) rfl)) (hw _ (List.mem_of_getElem? (i := 28) rfl)) (hw _ (List.mem_of_getElem? (i := 21) rfl)) (hw _ (List.mem_of_getElem? (i := 29) rfl)) (by decide) 1 [(.ref b3_0), (.int (1 : Int32))] [(.ref a)] (own_coder_1 l Z a0 hw [] b3_0 k3_0 (c0.toInt8.toInt32) T3.heap n0 (Nat.le_trans Z0 K3.1) q3_0') rfl (by decide) (by decide) (by decide) (by decide) (g := (mkF m 45 #[.val (.ref a), .val (.ref sr), .val (.int (0 : Int32)), .val (.int (1 : Int32)), .val .null, .val (.ref b3_0)] [(.int (1 : Int32)), (.ref b3_0), (.ref a)])) rfl (by rw [hml]; rfl) own_pd5 rfl rfl (by show 2 * 0 + _ ≤ _; exact Nat.le_of_eq rfl) (hb hby own_jdk_42_method_149_45) ?_
  intro T4 v4 L4 X4 hQ4
  obtain ⟨rfl, N4q, e4⟩ := hQ4
  have N4 := Fr.app N3 N4q
  show own_Goes _ _ _ _ T4 (mkF m 48 #[.val (.ref a), .val (.ref sr), .val (.int (0 : Int32)), .val (.int (1 : Int32)), .val .null, .val (.ref b3_0)] [(.int (0 : Int32)), (.ref a)])
  have E_a_v6 := (E_a.keep Kq3)
  have F_a_coder_v7 := (F_a_coder.keep Kq3 nin0)
  obtain ⟨T5, h5, X5, e5, W5, st5⟩ := putFN X4 hx hZ hown (hw _ (List.mem_of_getElem? (i := 30) rfl)) Via.refl e4 F_a_coder_v7 E_a_v6 (Or.inr ⟨(hw _ (List.mem_of_getElem? (i := 31) rfl)), rfl, hnm⟩) (hw _ (List.mem_of_getElem? (i := 6) rfl)) (ty := .byte) (v' := (.int (0 : Int32))) (by decide) rfl rfl (g := (mkF m 48 #[.val (.ref a), .val (.ref sr), .val (.int (0 : Int32)), .val (.int (1 : Int32)), .val .null, .val (.ref b3_0)] [(.int (0 : Int32)), (.ref a)])) rfl rfl (hb hby own_jdk_42_method_149_48)
  refine own_step st5 ?_
  have F5 := F_a_coder_v7.same W5
  have K5 := K3.wr W5 (Or.inl (List.mem_of_getElem? (i := 0) rfl))
  have N5 := Fr.snoc X5 N4 g_a
  show own_Goes _ _ _ _ T5 (mkF m 51 #[.val (.ref a), .val (.ref sr), .val (.int (0 : Int32)), .val (.int (1 : Int32)), .val .null, .val (.ref b3_0)] [])
  refine own_step (fun t k => XS.aloadN X5.here hx rfl (hb hby own_jdk_42_method_149_51) rfl rfl k) ?_
  show own_Goes _ _ _ _ T5 (mkF m 52 #[.val (.ref a), .val (.ref sr), .val (.int (0 : Int32)), .val (.int (1 : Int32)), .val .null, .val (.ref b3_0)] [(.ref a)])
  refine own_step (fun t k => XS.aload X5.here hx rfl (hb hby own_jdk_42_method_149_52) rfl rfl k) ?_
  show own_Goes _ _ _ _ T5 (mkF m 54 #[.val (.ref a), .val (.ref sr), .val (.int (0 : Int32)), .val (.int (1 : Int32)), .val .null, .val (.ref b3_0)] [(.ref b3_0), (.ref a)])
  have E_a_v9 := (E_a_v6.wr W5)
  have F_a_value_v10 := ((F_a_value.keep Kq3 nin0).other W5 (Or.inr (slot_ne (Or.inr (hw _ (List.mem_of_getElem? (i := 33) rfl))) (Or.inr (hw _ (List.mem_of_getElem? (i := 31) rfl))) (by decide) (t := (.array .byte)) (t' := .byte) (by decide) (by decide))))
  obtain ⟨T8, h8, X8, e8, W8, st8⟩ := putF X5 hx hZ hown (host := "") (Or.inl (hw _ (List.mem_of_getElem? (i := 32) rfl))) Via.refl e5 F_a_value_v10 E_a_v9 (Or.inr ⟨(hw _ (List.mem_of_getElem? (i := 33) rfl)), rfl, hnm⟩) (hw _ (List.mem_of_getElem? (i := 6) rfl)) (ty := (.array .byte)) (by decide) rfl rfl (g := (mkF m 54 #[.val (.ref a), .val (.ref sr), .val (.int (0 : Int32)), .val (.int (1 : Int32)), .val .null, .val (.ref b3_0)] [(.ref b3_0), (.ref a)])) rfl rfl (hb hby own_jdk_42_method_149_54)
  refine own_step st8 ?_
  have F8 := F_a_value_v10.same W8
  have K8 := K5.wr W8 (Or.inl (List.mem_of_getElem? (i := 0) rfl))
  have N8 := Fr.snoc X8 N5 g_a
  show own_Goes _ _ _ _ T8 (mkF m 57 #[.val (.ref a), .val (.ref sr), .val (.int (0 : Int32)), .val (.int (1 : Int32)), .val .null, .val (.ref b3_0)] [])
  have E_a_v11 := (E_a_v9.wr W8)
  have F5_v12 := (F5.other W8 (Or.inr (slot_ne (Or.inr (hw _ (List.mem_of_getElem? (i := 31) rfl))) (Or.inr (hw _ (List.mem_of_getElem? (i := 33) rfl))) (by decide) (t := .byte) (t' := (.array .byte)) (by decide) (by decide))))
  have q3_0'_v13 := ((q3_0'.other W5 (Ne.symm ne_a_b3_0)).other W8 (Ne.symm ne_a_b3_0))
  exact own_retV X8 hx hlk hrt (hb hby own_jdk_42_method_149_57) (by rw [e8]; exact ⟨b3_0, k3_0, rfl, N8, K8, sz_b3_0, E_a_v11, F5_v12, F8, q3_0'_v13⟩) (by decide) (by decide)
set_option maxRecDepth 65536 in
set_option maxHeartbeats 40000000 in
theorem own_sinit_1 (l : Launch) (Z : State) (a0 : Array Value) (hw : ∀ d ∈ tables_1, d.before a0 Z = true) (ws : List Jvm.Cond) (a : Addr) (sr : Addr) (ks : ClassId) (c0 : Int32) (zc : Int32) (h0 : Heap) (n0 : Nat) (Z0 : n0 ≤ h0.size) (E_a : Exa Z h0 a "java/lang/String") (F_a_value : Fld Z h0 a "java/lang/String" "value" "[B" .null) (F_a_coder : Fld Z h0 a "java/lang/String" "coder" "B" (.int (0 : Int32))) (V_sr : Arv Z h0 sr ks .char (1 : Int32) [(.int c0)] (.int (0 : Int32))) (S_COMPACT_STRINGS : Sta Z h0 "java/lang/String" "COMPACT_STRINGS" "Z" (.int zc)) (hc0 : ¬ ((255 : Int32) < c0)) (hz : ¬ (zc = (0 : Int32))) (g_a : n0 ≤ a) :
    own_Met l Z (⟨"java/lang/String", "<init>", "([C)V"⟩ : MethodName) jdk_42_method_3_code 2 none ws ({ frames := 3, cells := 1, slots := 1, locals := 52 } : Room) #[(.ref a), (.ref sr)] h0 (fun v h L => ∃ r : Addr, ∃ kr : ClassId, v = none ∧ Fr n0 L ∧ Keep h0 h [a] ∧ h0.size ≤ r ∧ Exa Z h a "java/lang/String" ∧ Fld Z h a "java/lang/String" "coder" "B" (.int (0 : Int32)) ∧ Fld Z h a "java/lang/String" "value" "[B" (.ref r) ∧ Arv Z h r kr .byte (1 : Int32) [(.int (c0.toInt8.toInt32))] (.int (0 : Int32))) := by
  refine own_body (plainFor_of_name own_pn_java_lang_String) (fun p e s m below meth c s₁ hx hby hml0 hrt hlk hown0 hnm hZ X0 e0 => ?_)
  have N0 := Fr.nil n0
  have hown : s.vm.findClass "java/lang/String" = some m.cls := hown0
  have hml : c.maxLocals = 2 := hml0
  refine own_castG (own_ef10 m a sr) ?_
  show own_Goes _ _ _ _ s₁ (mkF m 0 #[.val (.ref a), .val (.ref sr)] [])
  refine own_step (fun t k => XS.aloadN X0.here hx rfl (hb hby own_jdk_42_method_3_0) rfl rfl k) ?_
  show own_Goes _ _ _ _ s₁ (mkF m 1 #[.val (.ref a), .val (.ref sr)] [(.ref a)])
  refine own_step (fun t k => XS.aloadN X0.here hx rfl (hb hby own_jdk_42_method_3_1) rfl rfl k) ?_
  show own_Goes _ _ _ _ s₁ (mkF m 2 #[.val (.ref a), .val (.ref sr)] [(.ref sr), (.ref a)])
  refine own_step (fun t k => XS.iconst X0.here hx rfl (hb hby own_jdk_42_method_3_2) k) ?_
  show own_Goes _ _ _ _ s₁ (mkF m 3 #[.val (.ref a), .val (.ref sr)] [(.int (0 : Int32)), (.ref sr), (.ref a)])
  refine own_step (fun t k => XS.aloadN X0.here hx rfl (hb hby own_jdk_42_method_3_3) rfl rfl k) ?_
  show own_Goes _ _ _ _ s₁ (mkF m 4 #[.val (.ref a), .val (.ref sr)] [(.ref sr), (.int (0 : Int32)), (.ref sr), (.ref a)])
  refine own_step (own_alen X0 hx hZ e0 V_sr (g := (mkF m 4 #[.val (.ref a), .val (.ref sr)] [(.ref sr), (.int (0 : Int32)), (.ref sr), (.ref a)])) rfl rfl (hb hby own_jdk_42_method_3_4)) ?_
  show own_Goes _ _ _ _ s₁ (mkF m 5 #[.val (.ref a), .val (.ref sr)] [(.int (1 : Int32)), (.int (0 : Int32)), (.ref sr), (.ref a)])
  refine own_step (fun t k => XS.aconstNull X0.here hx rfl (hb hby own_jdk_42_method_3_5) k) ?_
  show own_Goes _ _ _ _ s₁ (mkF m 6 #[.val (.ref a), .val (.ref sr)] [.null, (.int (1 : Int32)), (.int (0 : Int32)), (.ref sr), (.ref a)])
  refine own_callC X0 hx hZ (y := (⟨"java/lang/String", "<init>", "([CIILjava/lang/Void;)V"⟩ : MethodName)) rfl hown (hw _ (List.mem_of_getElem? (i := 11) rfl)) (hw _ (List.mem_of_getElem? (i := 12) rfl)) (hw _ (List.mem_of_getElem? (i := 14) rfl)) (hw _ (List.mem_of_getElem? (i := 7) rfl)) (by decide) 0 (a := a) [(.ref sr), (.int (0 : Int32)), (.int (1 : Int32)), .null] [] (own_sinit4_1 l Z a0 hw [] a sr ks c0 zc h0 n0 Z0 E_a F_a_value F_a_coder V_sr S_COMPACT_STRINGS hc0 hz g_a) e0 (by decide) (by decide) (by decide) (by decide) (g := (mkF m 6 #[.val (.ref a), .val (.ref sr)] [.null, (.int (1 : Int32)), (.int (0 : Int32)), (.ref sr), (.ref a)])) rfl (by rw [hml]; rfl) own_pd6 rfl rfl (by show 2 * 0 + _ ≤ _; exact Nat.le_of_eq rfl) (hb hby own_jdk_42_method_3_6) ?_
  intro T1 v1 L1 X1 hQ1
  obtain ⟨b1_0, k1_0, rfl, N1q, Kq1, zq1_0, q1_0, q1_1, q1_2, q1_3⟩ := hQ1
  have N1 := Fr.app N0 N1q
  have K1 := (Keep.refl h0 [a]).trans Kq1 (allS (Or.inl (List.mem_of_getElem? (i := 0) rfl)) all0)
  have g_b1_0 : n0 ≤ b1_0 := Nat.le_trans Z0 zq1_0
  have sz_b1_0 : h0.size ≤ b1_0 := Nat.le_trans (Keep.refl h0 [a]).1 zq1_0
  have ne_a_b1_0 : a ≠ b1_0 := Nat.ne_of_lt (Nat.lt_of_lt_of_le E_a.lt zq1_0)
  have ne_sr_b1_0 : sr ≠ b1_0 := Nat.ne_of_lt (Nat.lt_of_lt_of_le V_sr.lt zq1_0)
  have q1_0' : Exa Z T1.heap a "java/lang/String" := q1_0
  have q1_1' : Fld Z T1.heap a "java/lang/String" "coder" "B" (.int (0 : Int32)) := q1_1
  have q1_2' : Fld Z T1.heap a "java/lang/String" "value" "[B" (.ref b1_0) := q1_2
  have q1_3' : Arv Z T1.heap b1_0 k1_0 .byte (1 : Int32) [(.int (c0.toInt8.toInt32))] (.int (0 : Int32)) := q1_3
  show own_Goes _ _ _ _ T1 (mkF m 9 #[.val (.ref a), .val (.ref sr)] [])
  exact own_retV X1 hx hlk hrt (hb hby own_jdk_42_method_3_9) (by exact ⟨b1_0, k1_0, rfl, N1, K1, sz_b1_0, q1_0', q1_1', q1_2', q1_3'⟩) (by decide) (by decide)
set_option maxRecDepth 65536 in
set_option maxHeartbeats 40000000 in
theorem own_law2 (l : Launch) (Z : State) (a0 : Array Value) (hw : ∀ d ∈ tables_1, d.before a0 Z = true) (ws : List Jvm.Cond) (p1 : Int32) (p2 : Int32) (r : Int32) (zc : Int32) (w_V : Addr) (clv : Cell) (w_EQUAL : Addr) (w_NOT_EQUAL : Addr) (w_LESS : Addr) (w_LESS_OR_EQUAL : Addr) (w_GREATER : Addr) (w_GREATER_OR_EQUAL : Addr) (y_EQUAL : Addr) (z_EQUAL : Addr) (k_EQUAL : ClassId) (y_NOT_EQUAL : Addr) (z_NOT_EQUAL : Addr) (k_NOT_EQUAL : ClassId) (y_LESS : Addr) (z_LESS : Addr) (k_LESS : ClassId) (h0 : Heap) (n0 : Nat) (Z0 : n0 ≤ h0.size) (S_LESS : Sta Z h0 "com/example/polyphony/polyphony/policy/Operator" "LESS" "Lcom/example/polyphony/polyphony/policy/Operator;" (.ref w_LESS)) (E_w_LESS : Exa Z h0 w_LESS "com/example/polyphony/polyphony/policy/Operator") (S_COMPACT_STRINGS : Sta Z h0 "java/lang/String" "COMPACT_STRINGS" "Z" (.int zc)) (S__VALUES : Sta Z h0 "com/example/polyphony/polyphony/policy/Operator" "$VALUES" "[Lcom/example/polyphony/polyphony/policy/Operator;" (.ref w_V)) (R_w_V : Arr Z h0 w_V clv (.object "com/example/polyphony/polyphony/policy/Operator")) (E_w_V : Exa Z h0 w_V "[Lcom/example/polyphony/polyphony/policy/Operator;") (F_w_EQUAL_symbol : Fld Z h0 w_EQUAL "com/example/polyphony/polyphony/policy/Operator" "symbol" "Ljava/lang/String;" (.ref y_EQUAL)) (E_y_EQUAL : Exa Z h0 y_EQUAL "java/lang/String") (F_y_EQUAL_coder : Fld Z h0 y_EQUAL "java/lang/String" "coder" "B" (.int (0 : Int32))) (F_y_EQUAL_value : Fld Z h0 y_EQUAL "java/lang/String" "value" "[B" (.ref z_EQUAL)) (V_z_EQUAL : Arv Z h0 z_EQUAL k_EQUAL .byte (2 : Int32) [(.int (61 : Int32)), (.int (61 : Int32))] (.int (0 : Int32))) (F_w_NOT_EQUAL_symbol : Fld Z h0 w_NOT_EQUAL "com/example/polyphony/polyphony/policy/Operator" "symbol" "Ljava/lang/String;" (.ref y_NOT_EQUAL)) (E_y_NOT_EQUAL : Exa Z h0 y_NOT_EQUAL "java/lang/String") (F_y_NOT_EQUAL_coder : Fld Z h0 y_NOT_EQUAL "java/lang/String" "coder" "B" (.int (0 : Int32))) (F_y_NOT_EQUAL_value : Fld Z h0 y_NOT_EQUAL "java/lang/String" "value" "[B" (.ref z_NOT_EQUAL)) (V_z_NOT_EQUAL : Arv Z h0 z_NOT_EQUAL k_NOT_EQUAL .byte (2 : Int32) [(.int (33 : Int32)), (.int (61 : Int32))] (.int (0 : Int32))) (F_w_LESS_symbol : Fld Z h0 w_LESS "com/example/polyphony/polyphony/policy/Operator" "symbol" "Ljava/lang/String;" (.ref y_LESS)) (E_y_LESS : Exa Z h0 y_LESS "java/lang/String") (F_y_LESS_coder : Fld Z h0 y_LESS "java/lang/String" "coder" "B" (.int (0 : Int32))) (F_y_LESS_value : Fld Z h0 y_LESS "java/lang/String" "value" "[B" (.ref z_LESS)) (V_z_LESS : Arv Z h0 z_LESS k_LESS .byte (1 : Int32) [(.int (60 : Int32))] (.int (0 : Int32))) (F_w_LESS_whenBefore : Fld Z h0 w_LESS "com/example/polyphony/polyphony/policy/Operator" "whenBefore" "Z" (.int (1 : Int32))) (F_w_LESS_whenEqual : Fld Z h0 w_LESS "com/example/polyphony/polyphony/policy/Operator" "whenEqual" "Z" (.int (0 : Int32))) (F_w_LESS_whenAfter : Fld Z h0 w_LESS "com/example/polyphony/polyphony/policy/Operator" "whenAfter" "Z" (.int (0 : Int32))) (F_v : FitC Z clv) (S_v : clv.slots.size = (6 : Int32).toNatClampNeg) (H_v : Has clv [(.ref w_EQUAL), (.ref w_NOT_EQUAL), (.ref w_LESS), (.ref w_LESS_OR_EQUAL), (.ref w_GREATER), (.ref w_GREATER_OR_EQUAL)] .null) (G_v : ∀ i, i < clv.slots.size → fits (.object "com/example/polyphony/polyphony/policy/Operator") ([(.ref w_EQUAL), (.ref w_NOT_EQUAL), (.ref w_LESS), (.ref w_LESS_OR_EQUAL), (.ref w_GREATER), (.ref w_GREATER_OR_EQUAL)].getD i .null) = true) (hz : ¬ (zc = (0 : Int32))) (hi : ((p1 &&& (2147483647 : Int32)) - ((p1 &&& (2147483647 : Int32)) / (6 : Int32)) * (6 : Int32)) = (2 : Int32)) (hrn : p2 < (0 : Int32) → r = (1 : Int32)) (hrz : ¬ (p2 < (0 : Int32)) → p2 = (0 : Int32) → r = (0 : Int32)) (hrp : ¬ (p2 < (0 : Int32)) → ¬ (p2 = (0 : Int32)) → r = (0 : Int32)) (ht : p2 < (0 : Int32) → r = (1 : Int32)) (hf : ¬ (p2 < (0 : Int32)) → r = (0 : Int32)) :
    own_Met l Z x code maxLocals ret ws room_1 #[(.int p1), (.int p2)] h0 (fun v h L => v = some (.int 1) ∧ Fr n0 L) := by
  refine own_body (plainFor_of_name own_pn_com_example_polyphony_polyphony_policy_OperatorOfPinLaw) (fun p e s m below meth c s₁ hx hby hml0 hrt hlk hown0 hnm hZ X0 e0 => ?_)
  have N0 := Fr.nil n0
  have hown : s.vm.findClass "com/example/polyphony/polyphony/policy/OperatorOfPinLaw" = some m.cls := hown0
  have hml : c.maxLocals = 8 := hml0
  refine own_castG (own_ef11 m p1 p2) ?_
  show own_Goes _ _ _ _ s₁ (mkF m 0 #[.val (.int p1), .val (.int p2), .unset, .unset, .unset, .unset, .unset, .unset] [])
  refine own_step (fun t k => XS.iloadN X0.here hx rfl (hb hby at_0) rfl k) ?_
  show own_Goes _ _ _ _ s₁ (mkF m 1 #[.val (.int p1), .val (.int p2), .unset, .unset, .unset, .unset, .unset, .unset] [(.int p1)])
  refine own_step (X0.ldcInt hx hown (mvT hZ (hw _ (List.mem_of_getElem? (i := 0) rfl))) (g := (mkF m 1 #[.val (.int p1), .val (.int p2), .unset, .unset, .unset, .unset, .unset, .unset] [(.int p1)])) rfl (hb hby at_1)) ?_
  show own_Goes _ _ _ _ s₁ (mkF m 3 #[.val (.int p1), .val (.int p2), .unset, .unset, .unset, .unset, .unset, .unset] [(.int (2147483647 : Int32)), (.int p1)])
  refine own_step (fun t k => XS.iand X0.here hx rfl (hb hby at_3) rfl k) ?_
  show own_Goes _ _ _ _ s₁ (mkF m 4 #[.val (.int p1), .val (.int p2), .unset, .unset, .unset, .unset, .unset, .unset] [(.int (p1 &&& (2147483647 : Int32)))])
  refine own_step (fun t k => XS.bipush X0.here hx rfl (hb hby at_4) k) ?_
  show own_Goes _ _ _ _ s₁ (mkF m 6 #[.val (.int p1), .val (.int p2), .unset, .unset, .unset, .unset, .unset, .unset] [(.int (6 : Int32)), (.int (p1 &&& (2147483647 : Int32)))])
  refine own_step (fun t k => XS.irem X0.here hx rfl (hb hby at_6) rfl (by decide) k) ?_
  show own_Goes _ _ _ _ s₁ (mkF m 7 #[.val (.int p1), .val (.int p2), .unset, .unset, .unset, .unset, .unset, .unset] [(.int ((p1 &&& (2147483647 : Int32)) - ((p1 &&& (2147483647 : Int32)) / (6 : Int32)) * (6 : Int32)))])
  rw [hi]
  show own_Goes _ _ _ _ s₁ (mkF m 7 #[.val (.int p1), .val (.int p2), .unset, .unset, .unset, .unset, .unset, .unset] [(.int (2 : Int32))])
  refine own_step (fun t k => XS.istoreN X0.here hx rfl (hb hby at_7) rfl (l' := #[.val (.int p1), .val (.int p2), .val (.int (2 : Int32)), .unset, .unset, .unset, .unset, .unset]) rfl k) ?_
  show own_Goes _ _ _ _ s₁ (mkF m 8 #[.val (.int p1), .val (.int p2), .val (.int (2 : Int32)), .unset, .unset, .unset, .unset, .unset] [])
  refine own_step (fun t k => XS.iloadN X0.here hx rfl (hb hby at_8) rfl k) ?_
  show own_Goes _ _ _ _ s₁ (mkF m 9 #[.val (.int p1), .val (.int p2), .val (.int (2 : Int32)), .unset, .unset, .unset, .unset, .unset] [(.int (2 : Int32))])
  refine own_step (fun t k => XS.ifYes X0.here hx rfl (pc0 := 9) (pc' := 45) rfl (hb hby at_9) rfl ((if0 _ _).trans (feq (show ¬ ((2 : Int32) = (0 : Int32)) from (by decide))).2) (by decide) (by decide) k) ?_
  show own_Goes _ _ _ _ s₁ (mkF m 45 #[.val (.int p1), .val (.int p2), .val (.int (2 : Int32)), .unset, .unset, .unset, .unset, .unset] [])
  refine own_step (fun t k => XS.iloadN X0.here hx rfl (hb hby at_45) rfl k) ?_
  show own_Goes _ _ _ _ s₁ (mkF m 46 #[.val (.int p1), .val (.int p2), .val (.int (2 : Int32)), .unset, .unset, .unset, .unset, .unset] [(.int (2 : Int32))])
  refine own_step (fun t k => XS.iconst X0.here hx rfl (hb hby at_46) k) ?_
  show own_Goes _ _ _ _ s₁ (mkF m 47 #[.val (.int p1), .val (.int p2), .val (.int (2 : Int32)), .unset, .unset, .unset, .unset, .unset] [(.int (1 : Int32)), (.int (2 : Int32))])
  refine own_step (fun t k => XS.icmpYes X0.here hx rfl (pc0 := 47) (pc' := 83) rfl (hb hby at_47) rfl (feq (show ¬ ((2 : Int32) = (1 : Int32)) from (by decide))).2 (by decide) (by decide) k) ?_
  show own_Goes _ _ _ _ s₁ (mkF m 83 #[.val (.int p1), .val (.int p2), .val (.int (2 : Int32)), .unset, .unset, .unset, .unset, .unset] [])
  refine own_step (fun t k => XS.iloadN X0.here hx rfl (hb hby at_83) rfl k) ?_
  show own_Goes _ _ _ _ s₁ (mkF m 84 #[.val (.int p1), .val (.int p2), .val (.int (2 : Int32)), .unset, .unset, .unset, .unset, .unset] [(.int (2 : Int32))])
  refine own_step (fun t k => XS.iconst X0.here hx rfl (hb hby at_84) k) ?_
  show own_Goes _ _ _ _ s₁ (mkF m 85 #[.val (.int p1), .val (.int p2), .val (.int (2 : Int32)), .unset, .unset, .unset, .unset, .unset] [(.int (2 : Int32)), (.int (2 : Int32))])
  refine own_step (fun t k => XS.icmpNo X0.here hx rfl (hb hby at_85) rfl (teq (show (2 : Int32) = (2 : Int32) from (by decide))).2 k) ?_
  show own_Goes _ _ _ _ s₁ (mkF m 88 #[.val (.int p1), .val (.int p2), .val (.int (2 : Int32)), .unset, .unset, .unset, .unset, .unset] [])
  refine own_step (fun t k => XS.iconst X0.here hx rfl (hb hby at_88) k) ?_
  show own_Goes _ _ _ _ s₁ (mkF m 89 #[.val (.int p1), .val (.int p2), .val (.int (2 : Int32)), .unset, .unset, .unset, .unset, .unset] [(.int (1 : Int32))])
  obtain ⟨T1, h1, k1, X1, e1, E1, A1, st1⟩ := newP X0 hx hZ (hw _ (List.mem_of_getElem? (i := 1) rfl)) e0 (g := (mkF m 89 #[.val (.int p1), .val (.int p2), .val (.int (2 : Int32)), .unset, .unset, .unset, .unset, .unset] [(.int (1 : Int32))])) rfl (hb hby at_89) rfl (by decide) (cap := 1) (by decide) (by decide) (by decide) (by decide)
  obtain ⟨b1, g1⟩ : ∃ z, z = h0.size := ⟨_, rfl⟩
  rw [← g1] at A1 st1
  refine own_step st1 ?_
  have g_b1 : n0 ≤ b1 := Nat.le_trans Z0 (Nat.le_of_eq g1.symm)
  have sz_b1 : h0.size ≤ b1 := Nat.le_trans (Keep.refl h0 []).1 (Nat.le_of_eq g1.symm)
  have ne_w_LESS_b1 : w_LESS ≠ b1 := Nat.ne_of_lt (Nat.lt_of_lt_of_le E_w_LESS.lt (Nat.le_of_eq g1.symm))
  have ne_w_V_b1 : w_V ≠ b1 := Nat.ne_of_lt (Nat.lt_of_lt_of_le E_w_V.lt (Nat.le_of_eq g1.symm))
  have ne_w_EQUAL_b1 : w_EQUAL ≠ b1 := Nat.ne_of_lt (Nat.lt_of_lt_of_le F_w_EQUAL_symbol.lt (Nat.le_of_eq g1.symm))
  have ne_y_EQUAL_b1 : y_EQUAL ≠ b1 := Nat.ne_of_lt (Nat.lt_of_lt_of_le E_y_EQUAL.lt (Nat.le_of_eq g1.symm))
  have ne_z_EQUAL_b1 : z_EQUAL ≠ b1 := Nat.ne_of_lt (Nat.lt_of_lt_of_le V_z_EQUAL.lt (Nat.le_of_eq g1.symm))
  have ne_w_NOT_EQUAL_b1 : w_NOT_EQUAL ≠ b1 := Nat.ne_of_lt (Nat.lt_of_lt_of_le F_w_NOT_EQUAL_symbol.lt (Nat.le_of_eq g1.symm))
  have ne_y_NOT_EQUAL_b1 : y_NOT_EQUAL ≠ b1 := Nat.ne_of_lt (Nat.lt_of_lt_of_le E_y_NOT_EQUAL.lt (Nat.le_of_eq g1.symm))
  have ne_z_NOT_EQUAL_b1 : z_NOT_EQUAL ≠ b1 := Nat.ne_of_lt (Nat.lt_of_lt_of_le V_z_NOT_EQUAL.lt (Nat.le_of_eq g1.symm))
  have ne_y_LESS_b1 : y_LESS ≠ b1 := Nat.ne_of_lt (Nat.lt_of_lt_of_le E_y_LESS.lt (Nat.le_of_eq g1.symm))
  have ne_z_LESS_b1 : z_LESS ≠ b1 := Nat.ne_of_lt (Nat.lt_of_lt_of_le V_z_LESS.lt (Nat.le_of_eq g1.symm))
  have K1 := (Keep.refl h0 []).ext E1
  have V_b1 : Arv Z h1 b1 k1 .char (1 : Int32) [(.int (0 : Int32))] (.int (0 : Int32)) := (Arv.new A1 (by decide)).pad (pad_rep [] (.int (0 : Int32)) 1)
  show own_Goes _ _ _ _ T1 (mkF m 91 #[.val (.int p1), .val (.int p2), .val (.int (2 : Int32)), .unset, .unset, .unset, .unset, .unset] [(.ref b1)])
  refine own_step (fun t k => XS.dup X1.here hx rfl (hb hby at_91) rfl rfl k) ?_
  show own_Goes _ _ _ _ T1 (mkF m 92 #[.val (.int p1), .val (.int p2), .val (.int (2 : Int32)), .unset, .unset, .unset, .unset, .unset] [(.ref b1), (.ref b1)])
  refine own_step (fun t k => XS.iconst X1.here hx rfl (hb hby at_92) k) ?_
  show own_Goes _ _ _ _ T1 (mkF m 93 #[.val (.int p1), .val (.int p2), .val (.int (2 : Int32)), .unset, .unset, .unset, .unset, .unset] [(.int (0 : Int32)), (.ref b1), (.ref b1)])
  refine own_step (fun t k => XS.bipush X1.here hx rfl (hb hby at_93) k) ?_
  show own_Goes _ _ _ _ T1 (mkF m 95 #[.val (.int p1), .val (.int p2), .val (.int (2 : Int32)), .unset, .unset, .unset, .unset, .unset] [(.int (60 : Int32)), (.int (0 : Int32)), (.ref b1), (.ref b1)])
  obtain ⟨T2, h2, X2, e2, W2, V2, st2⟩ := own_castore X1 hx hZ e1 V_b1 (x := (60 : Int32)) (60 : Int32) rfl (j := (0 : Int32)) ⟨by decide, by decide⟩ 0 rfl (Nat.le_of_ble_eq_true rfl) (g := (mkF m 95 #[.val (.int p1), .val (.int p2), .val (.int (2 : Int32)), .unset, .unset, .unset, .unset, .unset] [(.int (60 : Int32)), (.int (0 : Int32)), (.ref b1), (.ref b1)])) rfl rfl (hb hby at_95)
  refine own_step st2 ?_
  have K2 := K1.wr W2 (Or.inr sz_b1)
  have N2 := Fr.snoc X2 N0 g_b1
  have V2' : Arv Z h2 b1 k1 .char (1 : Int32) [(.int (60 : Int32))] (.int (0 : Int32)) := V2
  show own_Goes _ _ _ _ T2 (mkF m 96 #[.val (.int p1), .val (.int p2), .val (.int (2 : Int32)), .unset, .unset, .unset, .unset, .unset] [(.ref b1)])
  refine own_step (fun t k => XS.astoreN X2.here hx rfl (hb hby at_96) rfl rfl (l' := #[.val (.int p1), .val (.int p2), .val (.int (2 : Int32)), .val (.ref b1), .unset, .unset, .unset, .unset]) rfl k) ?_
  show own_Goes _ _ _ _ T2 (mkF m 97 #[.val (.int p1), .val (.int p2), .val (.int (2 : Int32)), .val (.ref b1), .unset, .unset, .unset, .unset] [])
  have S_LESS_v4 := ((S_LESS.ext E1).wr W2)
  obtain ⟨T3, X3, e3, st3⟩ := getS2 X2 hx hZ hown (host := "") (Or.inl (hw _ (List.mem_of_getElem? (i := 82) rfl))) Via.refl e2 S_LESS_v4 (g := (mkF m 97 #[.val (.int p1), .val (.int p2), .val (.int (2 : Int32)), .val (.ref b1), .unset, .unset, .unset, .unset] [])) rfl (hb hby at_97)
  refine own_step st3 ?_
  show own_Goes _ _ _ _ T3 (mkF m 100 #[.val (.int p1), .val (.int p2), .val (.int (2 : Int32)), .val (.ref b1), .unset, .unset, .unset, .unset] [(.ref w_LESS)])
  refine own_step (fun t k => XS.astore X3.here hx rfl (hb hby at_100) rfl rfl (l' := #[.val (.int p1), .val (.int p2), .val (.int (2 : Int32)), .val (.ref b1), .val (.ref w_LESS), .unset, .unset, .unset]) rfl k) ?_
  show own_Goes _ _ _ _ T3 (mkF m 102 #[.val (.int p1), .val (.int p2), .val (.int (2 : Int32)), .val (.ref b1), .val (.ref w_LESS), .unset, .unset, .unset] [])
  refine own_step (fun t k => XS.iloadN X3.here hx rfl (hb hby at_102) rfl k) ?_
  show own_Goes _ _ _ _ T3 (mkF m 103 #[.val (.int p1), .val (.int p2), .val (.int (2 : Int32)), .val (.ref b1), .val (.ref w_LESS), .unset, .unset, .unset] [(.int p2)])
  have tail : own_Goes p e below (own_K s (fun v h L => v = some (.int 1) ∧ Fr n0 L) room_1.cells room_1.slots) T3 (mkF m 217 #[.val (.int p1), .val (.int p2), .val (.int (2 : Int32)), .val (.ref b1), .val (.ref w_LESS), .val (.int r), .unset, .unset] []) := by
    obtain ⟨T5, h5, X5, e5, E5, A5, D5, -, st5⟩ := newO X3 hx hZ hown (hw _ (List.mem_of_getElem? (i := 5) rfl)) (hw _ (List.mem_of_getElem? (i := 6) rfl)) (hw _ (List.mem_of_getElem? (i := 7) rfl)) e3 (g := (mkF m 217 #[.val (.int p1), .val (.int p2), .val (.int (2 : Int32)), .val (.ref b1), .val (.ref w_LESS), .val (.int r), .unset, .unset] [])) rfl (hb hby at_217) (by decide) (by decide)
    obtain ⟨b5, g5⟩ : ∃ z, z = h2.size := ⟨_, rfl⟩
    rw [← g5] at A5 D5 st5
    refine own_step st5 ?_
    have g_b5 : n0 ≤ b5 := Nat.le_trans (Nat.le_trans Z0 K2.1) (Nat.le_of_eq g5.symm)
    have sz_b5 : h0.size ≤ b5 := Nat.le_trans K2.1 (Nat.le_of_eq g5.symm)
    have E_w_LESS_v6 := ((E_w_LESS.ext E1).wr W2)
    have ne_w_LESS_b5 : w_LESS ≠ b5 := Nat.ne_of_lt (Nat.lt_of_lt_of_le E_w_LESS_v6.lt (Nat.le_of_eq g5.symm))
    have E_w_V_v7 := ((E_w_V.ext E1).wr W2)
    have ne_w_V_b5 : w_V ≠ b5 := Nat.ne_of_lt (Nat.lt_of_lt_of_le E_w_V_v7.lt (Nat.le_of_eq g5.symm))
    have F_w_EQUAL_symbol_v8 := ((F_w_EQUAL_symbol.ext E1).other W2 (Or.inl ne_w_EQUAL_b1))
    have ne_w_EQUAL_b5 : w_EQUAL ≠ b5 := Nat.ne_of_lt (Nat.lt_of_lt_of_le F_w_EQUAL_symbol_v8.lt (Nat.le_of_eq g5.symm))
    have E_y_EQUAL_v9 := ((E_y_EQUAL.ext E1).wr W2)
    have ne_y_EQUAL_b5 : y_EQUAL ≠ b5 := Nat.ne_of_lt (Nat.lt_of_lt_of_le E_y_EQUAL_v9.lt (Nat.le_of_eq g5.symm))
    have V_z_EQUAL_v10 := ((V_z_EQUAL.ext E1).other W2 ne_z_EQUAL_b1)
    have ne_z_EQUAL_b5 : z_EQUAL ≠ b5 := Nat.ne_of_lt (Nat.lt_of_lt_of_le V_z_EQUAL_v10.lt (Nat.le_of_eq g5.symm))
    have F_w_NOT_EQUAL_symbol_v11 := ((F_w_NOT_EQUAL_symbol.ext E1).other W2 (Or.inl ne_w_NOT_EQUAL_b1))
    have ne_w_NOT_EQUAL_b5 : w_NOT_EQUAL ≠ b5 := Nat.ne_of_lt (Nat.lt_of_lt_of_le F_w_NOT_EQUAL_symbol_v11.lt (Nat.le_of_eq g5.symm))
    have E_y_NOT_EQUAL_v12 := ((E_y_NOT_EQUAL.ext E1).wr W2)
    have ne_y_NOT_EQUAL_b5 : y_NOT_EQUAL ≠ b5 := Nat.ne_of_lt (Nat.lt_of_lt_of_le E_y_NOT_EQUAL_v12.lt (Nat.le_of_eq g5.symm))
    have V_z_NOT_EQUAL_v13 := ((V_z_NOT_EQUAL.ext E1).other W2 ne_z_NOT_EQUAL_b1)
    have ne_z_NOT_EQUAL_b5 : z_NOT_EQUAL ≠ b5 := Nat.ne_of_lt (Nat.lt_of_lt_of_le V_z_NOT_EQUAL_v13.lt (Nat.le_of_eq g5.symm))
    have E_y_LESS_v14 := ((E_y_LESS.ext E1).wr W2)
    have ne_y_LESS_b5 : y_LESS ≠ b5 := Nat.ne_of_lt (Nat.lt_of_lt_of_le E_y_LESS_v14.lt (Nat.le_of_eq g5.symm))
    have V_z_LESS_v15 := ((V_z_LESS.ext E1).other W2 ne_z_LESS_b1)
    have ne_z_LESS_b5 : z_LESS ≠ b5 := Nat.ne_of_lt (Nat.lt_of_lt_of_le V_z_LESS_v15.lt (Nat.le_of_eq g5.symm))
    have ne_b1_b5 : b1 ≠ b5 := Nat.ne_of_lt (Nat.lt_of_lt_of_le V2'.lt (Nat.le_of_eq g5.symm))
    have K5 := K2.ext E5
    have F_b5_coder : Fld Z h5 b5 "java/lang/String" "coder" "B" (.int (0 : Int32)) := D5 (Or.inr (hw _ (List.mem_of_getElem? (i := 31) rfl))) (ty := .byte) (by decide)
    have F_b5_value : Fld Z h5 b5 "java/lang/String" "value" "[B" .null := D5 (Or.inr (hw _ (List.mem_of_getElem? (i := 33) rfl))) (ty := (.array .byte)) (by decide)
    show own_Goes _ _ _ _ T5 (mkF m 220 #[.val (.int p1), .val (.int p2), .val (.int (2 : Int32)), .val (.ref b1), .val (.ref w_LESS), .val (.int r), .unset, .unset] [(.ref b5)])
    refine own_step (fun t k => XS.dup X5.here hx rfl (hb hby at_220) rfl rfl k) ?_
    show own_Goes _ _ _ _ T5 (mkF m 221 #[.val (.int p1), .val (.int p2), .val (.int (2 : Int32)), .val (.ref b1), .val (.ref w_LESS), .val (.int r), .unset, .unset] [(.ref b5), (.ref b5)])
    refine own_step (fun t k => XS.aloadN X5.here hx rfl (hb hby at_221) rfl rfl k) ?_
    show own_Goes _ _ _ _ T5 (mkF m 222 #[.val (.int p1), .val (.int p2), .val (.int (2 : Int32)), .val (.ref b1), .val (.ref w_LESS), .val (.int r), .unset, .unset] [(.ref b1), (.ref b5), (.ref b5)])
    have V2'_v16 := (V2'.ext E5)
    have S_COMPACT_STRINGS_v17 := (((S_COMPACT_STRINGS.ext E1).wr W2).ext E5)
    refine own_callC X5 hx hZ (y := (⟨"java/lang/String", "<init>", "([C)V"⟩ : MethodName)) rfl hown (hw _ (List.mem_of_getElem? (i := 8) rfl)) (hw _ (List.mem_of_getElem? (i := 9) rfl)) (hw _ (List.mem_of_getElem? (i := 10) rfl)) (hw _ (List.mem_of_getElem? (i := 7) rfl)) (by decide) 1 (a := b5) [(.ref b1)] [(.ref b5)] (own_sinit_1 l Z a0 hw [] b5 b1 k1 (60 : Int32) zc h5 n0 (Nat.le_trans Z0 K5.1) A5 F_b5_value F_b5_coder V2'_v16 S_COMPACT_STRINGS_v17 (by decide) hz g_b5) e5 (by decide) (by decide) (by decide) (by decide) (g := (mkF m 222 #[.val (.int p1), .val (.int p2), .val (.int (2 : Int32)), .val (.ref b1), .val (.ref w_LESS), .val (.int r), .unset, .unset] [(.ref b1), (.ref b5), (.ref b5)])) rfl (by rw [hml]; rfl) own_pd7 rfl rfl (by show 2 * 0 + _ ≤ _; exact Nat.le_of_eq rfl) (hb hby at_222) ?_
    intro T18 v18 L18 X18 hQ18
    have E_w_LESS_v19 := (E_w_LESS_v6.ext E5)
    have E_w_V_v20 := (E_w_V_v7.ext E5)
    have F_w_EQUAL_symbol_v21 := (F_w_EQUAL_symbol_v8.ext E5)
    have E_y_EQUAL_v22 := (E_y_EQUAL_v9.ext E5)
    have V_z_EQUAL_v23 := (V_z_EQUAL_v10.ext E5)
    have F_w_NOT_EQUAL_symbol_v24 := (F_w_NOT_EQUAL_symbol_v11.ext E5)
    have E_y_NOT_EQUAL_v25 := (E_y_NOT_EQUAL_v12.ext E5)
    have V_z_NOT_EQUAL_v26 := (V_z_NOT_EQUAL_v13.ext E5)
    have E_y_LESS_v27 := (E_y_LESS_v14.ext E5)
    have V_z_LESS_v28 := (V_z_LESS_v15.ext E5)
    obtain ⟨b18_0, k18_0, rfl, N18q, Kq18, zq18_0, q18_0, q18_1, q18_2, q18_3⟩ := hQ18
    have N18 := Fr.app N2 N18q
    have K18 := K5.trans Kq18 (allS (Or.inr sz_b5) all0)
    have g_b18_0 : n0 ≤ b18_0 := Nat.le_trans (Nat.le_trans Z0 K5.1) zq18_0
    have sz_b18_0 : h0.size ≤ b18_0 := Nat.le_trans K5.1 zq18_0
    have ne_w_LESS_b18_0 : w_LESS ≠ b18_0 := Nat.ne_of_lt (Nat.lt_of_lt_of_le E_w_LESS_v19.lt zq18_0)
    have ne_w_V_b18_0 : w_V ≠ b18_0 := Nat.ne_of_lt (Nat.lt_of_lt_of_le E_w_V_v20.lt zq18_0)
    have ne_w_EQUAL_b18_0 : w_EQUAL ≠ b18_0 := Nat.ne_of_lt (Nat.lt_of_lt_of_le F_w_EQUAL_symbol_v21.lt zq18_0)
    have ne_y_EQUAL_b18_0 : y_EQUAL ≠ b18_0 := Nat.ne_of_lt (Nat.lt_of_lt_of_le E_y_EQUAL_v22.lt zq18_0)
    have ne_z_EQUAL_b18_0 : z_EQUAL ≠ b18_0 := Nat.ne_of_lt (Nat.lt_of_lt_of_le V_z_EQUAL_v23.lt zq18_0)
    have ne_w_NOT_EQUAL_b18_0 : w_NOT_EQUAL ≠ b18_0 := Nat.ne_of_lt (Nat.lt_of_lt_of_le F_w_NOT_EQUAL_symbol_v24.lt zq18_0)
    have ne_y_NOT_EQUAL_b18_0 : y_NOT_EQUAL ≠ b18_0 := Nat.ne_of_lt (Nat.lt_of_lt_of_le E_y_NOT_EQUAL_v25.lt zq18_0)
    have ne_z_NOT_EQUAL_b18_0 : z_NOT_EQUAL ≠ b18_0 := Nat.ne_of_lt (Nat.lt_of_lt_of_le V_z_NOT_EQUAL_v26.lt zq18_0)
    have ne_y_LESS_b18_0 : y_LESS ≠ b18_0 := Nat.ne_of_lt (Nat.lt_of_lt_of_le E_y_LESS_v27.lt zq18_0)
    have ne_z_LESS_b18_0 : z_LESS ≠ b18_0 := Nat.ne_of_lt (Nat.lt_of_lt_of_le V_z_LESS_v28.lt zq18_0)
    have ne_b1_b18_0 : b1 ≠ b18_0 := Nat.ne_of_lt (Nat.lt_of_lt_of_le V2'_v16.lt zq18_0)
    have ne_b5_b18_0 : b5 ≠ b18_0 := Nat.ne_of_lt (Nat.lt_of_lt_of_le A5.lt zq18_0)
    have q18_0' : Exa Z T18.heap b5 "java/lang/String" := q18_0
    have q18_1' : Fld Z T18.heap b5 "java/lang/String" "coder" "B" (.int (0 : Int32)) := q18_1
    have q18_2' : Fld Z T18.heap b5 "java/lang/String" "value" "[B" (.ref b18_0) := q18_2
    have q18_3' : Arv Z T18.heap b18_0 k18_0 .byte (1 : Int32) [(.int (60 : Int32))] (.int (0 : Int32)) := q18_3
    show own_Goes _ _ _ _ T18 (mkF m 225 #[.val (.int p1), .val (.int p2), .val (.int (2 : Int32)), .val (.ref b1), .val (.ref w_LESS), .val (.int r), .unset, .unset] [(.ref b5)])
    refine own_step (fun t k => XS.astore X18.here hx rfl (hb hby at_225) rfl rfl (l' := #[.val (.int p1), .val (.int p2), .val (.int (2 : Int32)), .val (.ref b1), .val (.ref w_LESS), .val (.int r), .val (.ref b5), .unset]) rfl k) ?_
    show own_Goes _ _ _ _ T18 (mkF m 227 #[.val (.int p1), .val (.int p2), .val (.int (2 : Int32)), .val (.ref b1), .val (.ref w_LESS), .val (.int r), .val (.ref b5), .unset] [])
    refine own_step (fun t k => XS.aload X18.here hx rfl (hb hby at_227) rfl rfl k) ?_
    show own_Goes _ _ _ _ T18 (mkF m 229 #[.val (.int p1), .val (.int p2), .val (.int (2 : Int32)), .val (.ref b1), .val (.ref w_LESS), .val (.int r), .val (.ref b5), .unset] [(.ref b5)])
    have S_COMPACT_STRINGS_v29 := (own_staKeep S_COMPACT_STRINGS_v17 Kq18 (allS (own_plainE A5) all0))
    have S__VALUES_v30 := (own_staKeep (((S__VALUES.ext E1).wr W2).ext E5) Kq18 (allS (own_plainE A5) all0))
    have R_w_V_v31 := (own_arrKeep (((R_w_V.ext E1).other W2 ne_w_V_b1).ext E5) Kq18 (ninS ne_w_V_b5 nin0))
    have E_w_V_v32 := (E_w_V_v20.keep Kq18)
    have F_w_EQUAL_symbol_v33 := (F_w_EQUAL_symbol_v21.keep Kq18 (ninS ne_w_EQUAL_b5 nin0))
    have E_y_EQUAL_v34 := (E_y_EQUAL_v22.keep Kq18)
    have F_y_EQUAL_coder_v35 := ((((F_y_EQUAL_coder.ext E1).other W2 (Or.inl ne_y_EQUAL_b1)).ext E5).keep Kq18 (ninS ne_y_EQUAL_b5 nin0))
    have F_y_EQUAL_value_v36 := ((((F_y_EQUAL_value.ext E1).other W2 (Or.inl ne_y_EQUAL_b1)).ext E5).keep Kq18 (ninS ne_y_EQUAL_b5 nin0))
    have V_z_EQUAL_v37 := (V_z_EQUAL_v23.keep Kq18 (ninS ne_z_EQUAL_b5 nin0))
    have F_w_NOT_EQUAL_symbol_v38 := (F_w_NOT_EQUAL_symbol_v24.keep Kq18 (ninS ne_w_NOT_EQUAL_b5 nin0))
    have E_y_NOT_EQUAL_v39 := (E_y_NOT_EQUAL_v25.keep Kq18)
    have F_y_NOT_EQUAL_coder_v40 := ((((F_y_NOT_EQUAL_coder.ext E1).other W2 (Or.inl ne_y_NOT_EQUAL_b1)).ext E5).keep Kq18 (ninS ne_y_NOT_EQUAL_b5 nin0))
    have F_y_NOT_EQUAL_value_v41 := ((((F_y_NOT_EQUAL_value.ext E1).other W2 (Or.inl ne_y_NOT_EQUAL_b1)).ext E5).keep Kq18 (ninS ne_y_NOT_EQUAL_b5 nin0))
    have V_z_NOT_EQUAL_v42 := (V_z_NOT_EQUAL_v26.keep Kq18 (ninS ne_z_NOT_EQUAL_b5 nin0))
    have F_w_LESS_symbol_v43 := ((((F_w_LESS_symbol.ext E1).other W2 (Or.inl ne_w_LESS_b1)).ext E5).keep Kq18 (ninS ne_w_LESS_b5 nin0))
    have E_y_LESS_v44 := (E_y_LESS_v27.keep Kq18)
    have F_y_LESS_coder_v45 := ((((F_y_LESS_coder.ext E1).other W2 (Or.inl ne_y_LESS_b1)).ext E5).keep Kq18 (ninS ne_y_LESS_b5 nin0))
    have F_y_LESS_value_v46 := ((((F_y_LESS_value.ext E1).other W2 (Or.inl ne_y_LESS_b1)).ext E5).keep Kq18 (ninS ne_y_LESS_b5 nin0))
    have V_z_LESS_v47 := (V_z_LESS_v28.keep Kq18 (ninS ne_z_LESS_b5 nin0))
    refine own_callS X18 hx hZ (y := (⟨"com/example/polyphony/polyphony/policy/Operator", "of", "(Ljava/lang/String;)Lcom/example/polyphony/polyphony/policy/Operator;"⟩ : MethodName)) hown (hw _ (List.mem_of_getElem? (i := 34) rfl)) (hw _ (List.mem_of_getElem? (i := 35) rfl)) (hw _ (List.mem_of_getElem? (i := 3) rfl)) (hw _ (List.mem_of_getElem? (i := 36) rfl)) (by decide) 0 [(.ref b5)] [] (own_of2 l Z a0 hw [] b5 b18_0 k18_0 zc w_V clv w_EQUAL w_NOT_EQUAL w_LESS w_LESS_OR_EQUAL w_GREATER w_GREATER_OR_EQUAL y_EQUAL z_EQUAL k_EQUAL y_NOT_EQUAL z_NOT_EQUAL k_NOT_EQUAL y_LESS z_LESS k_LESS T18.heap n0 (Nat.le_trans Z0 K18.1) q18_0' q18_1' q18_2' q18_3' S_COMPACT_STRINGS_v29 S__VALUES_v30 R_w_V_v31 E_w_V_v32 F_w_EQUAL_symbol_v33 E_y_EQUAL_v34 F_y_EQUAL_coder_v35 F_y_EQUAL_value_v36 V_z_EQUAL_v37 F_w_NOT_EQUAL_symbol_v38 E_y_NOT_EQUAL_v39 F_y_NOT_EQUAL_coder_v40 F_y_NOT_EQUAL_value_v41 V_z_NOT_EQUAL_v42 F_w_LESS_symbol_v43 E_y_LESS_v44 F_y_LESS_coder_v45 F_y_LESS_value_v46 V_z_LESS_v47 F_v S_v H_v G_v hz ne_y_EQUAL_b5 ne_y_NOT_EQUAL_b5 ne_y_LESS_b5) rfl (by decide) (by decide) (by decide) (by decide) (g := (mkF m 229 #[.val (.int p1), .val (.int p2), .val (.int (2 : Int32)), .val (.ref b1), .val (.ref w_LESS), .val (.int r), .val (.ref b5), .unset] [(.ref b5)])) rfl (by rw [hml]; rfl) own_pd8 rfl rfl (by show 2 * 0 + _ ≤ _; exact Nat.le_of_eq rfl) (hb hby at_229) ?_
    intro T48 v48 L48 X48 hQ48
    have E_w_LESS_v49 := (E_w_LESS_v19.keep Kq18)
    have V2'_v50 := (V2'_v16.keep Kq18 (ninS ne_b1_b5 nin0))
    obtain ⟨rfl, N48q, Kq48⟩ := hQ48
    have N48 := Fr.app N18 N48q
    have K48 := K18.trans Kq48 all0
    show own_Goes _ _ _ _ T48 (mkF m 232 #[.val (.int p1), .val (.int p2), .val (.int (2 : Int32)), .val (.ref b1), .val (.ref w_LESS), .val (.int r), .val (.ref b5), .unset] [(.ref w_LESS)])
    refine own_step (fun t k => XS.astore X48.here hx rfl (hb hby at_232) rfl rfl (l' := #[.val (.int p1), .val (.int p2), .val (.int (2 : Int32)), .val (.ref b1), .val (.ref w_LESS), .val (.int r), .val (.ref b5), .val (.ref w_LESS)]) rfl k) ?_
    show own_Goes _ _ _ _ T48 (mkF m 234 #[.val (.int p1), .val (.int p2), .val (.int (2 : Int32)), .val (.ref b1), .val (.ref w_LESS), .val (.int r), .val (.ref b5), .val (.ref w_LESS)] [])
    refine own_step (fun t k => XS.aload X48.here hx rfl (hb hby at_234) rfl rfl k) ?_
    show own_Goes _ _ _ _ T48 (mkF m 236 #[.val (.int p1), .val (.int p2), .val (.int (2 : Int32)), .val (.ref b1), .val (.ref w_LESS), .val (.int r), .val (.ref b5), .val (.ref w_LESS)] [(.ref w_LESS)])
    refine own_step (fun t k => XS.aload X48.here hx rfl (hb hby at_236) rfl rfl k) ?_
    show own_Goes _ _ _ _ T48 (mkF m 238 #[.val (.int p1), .val (.int p2), .val (.int (2 : Int32)), .val (.ref b1), .val (.ref w_LESS), .val (.int r), .val (.ref b5), .val (.ref w_LESS)] [(.ref w_LESS), (.ref w_LESS)])
    refine own_step (fun t k => Jvm.RoadKit.acmp (g := (mkF m 238 #[.val (.int p1), .val (.int p2), .val (.int (2 : Int32)), .val (.ref b1), .val (.ref w_LESS), .val (.int r), .val (.ref b5), .val (.ref w_LESS)] [(.ref w_LESS), (.ref w_LESS)])) X48 hx rfl rfl rfl (pc0 := 238) (pc' := 241) (same := true) rfl (hb hby at_238) rfl (decide_eq_true rfl) (by decide) (by decide) k) ?_
    show own_Goes _ _ _ _ T48 (mkF m 241 #[.val (.int p1), .val (.int p2), .val (.int (2 : Int32)), .val (.ref b1), .val (.ref w_LESS), .val (.int r), .val (.ref b5), .val (.ref w_LESS)] [])
    refine own_step (fun t k => XS.aload X48.here hx rfl (hb hby at_241) rfl rfl k) ?_
    show own_Goes _ _ _ _ T48 (mkF m 243 #[.val (.int p1), .val (.int p2), .val (.int (2 : Int32)), .val (.ref b1), .val (.ref w_LESS), .val (.int r), .val (.ref b5), .val (.ref w_LESS)] [(.ref w_LESS)])
    have F_w_LESS_symbol_v51 := (F_w_LESS_symbol_v43.keep Kq48 nin0)
    have E_w_LESS_v53 := (E_w_LESS_v49.keep Kq48)
    refine own_callV X48 hx hZ (y := (⟨"com/example/polyphony/polyphony/policy/Operator", "symbol", "()Ljava/lang/String;"⟩ : MethodName)) (z := (⟨"com/example/polyphony/polyphony/policy/Operator", "symbol", "()Ljava/lang/String;"⟩ : MethodName)) hown (hw _ (List.mem_of_getElem? (i := 69) rfl)) (hw _ (List.mem_of_getElem? (i := 70) rfl)) (notFace_of_selects (args := #[]) (mvT hZ (hw _ (List.mem_of_getElem? (i := 72) rfl)))) (hw _ (List.mem_of_getElem? (i := 72) rfl)) (hw _ (List.mem_of_getElem? (i := 71) rfl)) (hw _ (List.mem_of_getElem? (i := 73) rfl)) (hw _ (List.mem_of_getElem? (i := 3) rfl)) (by decide) 0 E_w_LESS_v53 [] [] (own_symbol l Z a0 hw [] w_LESS y_LESS T48.heap n0 (Nat.le_trans Z0 K48.1) F_w_LESS_symbol_v51) rfl (by decide) (by decide) (by decide) (by decide) (g := (mkF m 243 #[.val (.int p1), .val (.int p2), .val (.int (2 : Int32)), .val (.ref b1), .val (.ref w_LESS), .val (.int r), .val (.ref b5), .val (.ref w_LESS)] [(.ref w_LESS)])) rfl (by rw [hml]; rfl) own_pd9 rfl rfl (by show 2 * 0 + _ ≤ _; exact Nat.le_of_eq rfl) (hb hby at_243) ?_
    intro T52 v52 L52 X52 hQ52
    obtain ⟨rfl, N52q, e52⟩ := hQ52
    have N52 := Fr.app N48 N52q
    show own_Goes _ _ _ _ T52 (mkF m 246 #[.val (.int p1), .val (.int p2), .val (.int (2 : Int32)), .val (.ref b1), .val (.ref w_LESS), .val (.int r), .val (.ref b5), .val (.ref w_LESS)] [(.ref y_LESS)])
    refine own_step (fun t k => XS.aload X52.here hx rfl (hb hby at_246) rfl rfl k) ?_
    show own_Goes _ _ _ _ T52 (mkF m 248 #[.val (.int p1), .val (.int p2), .val (.int (2 : Int32)), .val (.ref b1), .val (.ref w_LESS), .val (.int r), .val (.ref b5), .val (.ref w_LESS)] [(.ref b5), (.ref y_LESS)])
    have q18_0'_v54 := (q18_0'.keep Kq48)
    have F_y_LESS_coder_v55 := (F_y_LESS_coder_v45.keep Kq48 nin0)
    have q18_1'_v56 := (q18_1'.keep Kq48 nin0)
    have F_y_LESS_value_v57 := (F_y_LESS_value_v46.keep Kq48 nin0)
    have q18_2'_v58 := (q18_2'.keep Kq48 nin0)
    have V_z_LESS_v59 := (V_z_LESS_v47.keep Kq48 nin0)
    have q18_3'_v60 := (q18_3'.keep Kq48 nin0)
    have S_COMPACT_STRINGS_v61 := (own_staKeep S_COMPACT_STRINGS_v29 Kq48 all0)
    have E_y_LESS_v63 := (E_y_LESS_v44.keep Kq48)
    refine own_callV X52 hx hZ (y := (⟨"java/lang/String", "equals", "(Ljava/lang/Object;)Z"⟩ : MethodName)) (z := (⟨"java/lang/String", "equals", "(Ljava/lang/Object;)Z"⟩ : MethodName)) hown (hw _ (List.mem_of_getElem? (i := 74) rfl)) (hw _ (List.mem_of_getElem? (i := 60) rfl)) (notFace_of_selects (args := #[]) (mvT hZ (hw _ (List.mem_of_getElem? (i := 62) rfl)))) (hw _ (List.mem_of_getElem? (i := 62) rfl)) (hw _ (List.mem_of_getElem? (i := 61) rfl)) (hw _ (List.mem_of_getElem? (i := 63) rfl)) (hw _ (List.mem_of_getElem? (i := 7) rfl)) (by decide) 0 E_y_LESS_v63 [(.ref b5)] [] (own_seq_11eq l Z a0 hw [] y_LESS b5 z_LESS b18_0 k_LESS k18_0 (60 : Int32) (60 : Int32) zc T48.heap n0 (Nat.le_trans Z0 K48.1) q18_0'_v54 F_y_LESS_coder_v55 q18_1'_v56 F_y_LESS_value_v57 q18_2'_v58 V_z_LESS_v59 q18_3'_v60 S_COMPACT_STRINGS_v61 (by decide) hz ne_y_LESS_b5) e52 (by decide) (by decide) (by decide) (by decide) (g := (mkF m 248 #[.val (.int p1), .val (.int p2), .val (.int (2 : Int32)), .val (.ref b1), .val (.ref w_LESS), .val (.int r), .val (.ref b5), .val (.ref w_LESS)] [(.ref b5), (.ref y_LESS)])) rfl (by rw [hml]; rfl) own_pd2 rfl rfl (by show 2 * 0 + _ ≤ _; exact Nat.le_of_eq rfl) (hb hby at_248) ?_
    intro T62 v62 L62 X62 hQ62
    obtain ⟨rfl, N62q, e62⟩ := hQ62
    have N62 := Fr.app N52 N62q
    show own_Goes _ _ _ _ T62 (mkF m 251 #[.val (.int p1), .val (.int p2), .val (.int (2 : Int32)), .val (.ref b1), .val (.ref w_LESS), .val (.int r), .val (.ref b5), .val (.ref w_LESS)] [(.int (1 : Int32))])
    refine own_step (fun t k => XS.ifNo X62.here hx rfl (hb hby at_251) rfl ((if0 _ _).trans (feq (show ¬ ((1 : Int32) = (0 : Int32)) from (by decide))).1) k) ?_
    show own_Goes _ _ _ _ T62 (mkF m 254 #[.val (.int p1), .val (.int p2), .val (.int (2 : Int32)), .val (.ref b1), .val (.ref w_LESS), .val (.int r), .val (.ref b5), .val (.ref w_LESS)] [])
    refine own_step (fun t k => XS.aload X62.here hx rfl (hb hby at_254) rfl rfl k) ?_
    show own_Goes _ _ _ _ T62 (mkF m 256 #[.val (.int p1), .val (.int p2), .val (.int (2 : Int32)), .val (.ref b1), .val (.ref w_LESS), .val (.int r), .val (.ref b5), .val (.ref w_LESS)] [(.ref w_LESS)])
    refine own_step (fun t k => XS.iloadN X62.here hx rfl (hb hby at_256) rfl k) ?_
    show own_Goes _ _ _ _ T62 (mkF m 257 #[.val (.int p1), .val (.int p2), .val (.int (2 : Int32)), .val (.ref b1), .val (.ref w_LESS), .val (.int r), .val (.ref b5), .val (.ref w_LESS)] [(.int p2), (.ref w_LESS)])
    have F_w_LESS_whenBefore_v64 := (((((F_w_LESS_whenBefore.ext E1).other W2 (Or.inl ne_w_LESS_b1)).ext E5).keep Kq18 (ninS ne_w_LESS_b5 nin0)).keep Kq48 nin0)
    have F_w_LESS_whenEqual_v65 := (((((F_w_LESS_whenEqual.ext E1).other W2 (Or.inl ne_w_LESS_b1)).ext E5).keep Kq18 (ninS ne_w_LESS_b5 nin0)).keep Kq48 nin0)
    have F_w_LESS_whenAfter_v66 := (((((F_w_LESS_whenAfter.ext E1).other W2 (Or.inl ne_w_LESS_b1)).ext E5).keep Kq18 (ninS ne_w_LESS_b5 nin0)).keep Kq48 nin0)
    refine own_callV X62 hx hZ (y := (⟨"com/example/polyphony/polyphony/policy/Operator", "holds", "(I)Z"⟩ : MethodName)) (z := (⟨"com/example/polyphony/polyphony/policy/Operator", "holds", "(I)Z"⟩ : MethodName)) hown (hw _ (List.mem_of_getElem? (i := 75) rfl)) (hw _ (List.mem_of_getElem? (i := 76) rfl)) (notFace_of_selects (args := #[]) (mvT hZ (hw _ (List.mem_of_getElem? (i := 78) rfl)))) (hw _ (List.mem_of_getElem? (i := 78) rfl)) (hw _ (List.mem_of_getElem? (i := 77) rfl)) (hw _ (List.mem_of_getElem? (i := 79) rfl)) (hw _ (List.mem_of_getElem? (i := 3) rfl)) (by decide) 0 E_w_LESS_v53 [(.int p2)] [] (own_holds_LESS l Z a0 hw [] w_LESS p2 r T48.heap n0 (Nat.le_trans Z0 K48.1) F_w_LESS_whenBefore_v64 F_w_LESS_whenEqual_v65 F_w_LESS_whenAfter_v66 hrn hrz hrp) e62 (by decide) (by decide) (by decide) (by decide) (g := (mkF m 257 #[.val (.int p1), .val (.int p2), .val (.int (2 : Int32)), .val (.ref b1), .val (.ref w_LESS), .val (.int r), .val (.ref b5), .val (.ref w_LESS)] [(.int p2), (.ref w_LESS)])) rfl (by rw [hml]; rfl) own_pd10 rfl rfl (by show 2 * 0 + _ ≤ _; exact Nat.le_of_eq rfl) (hb hby at_257) ?_
    intro T67 v67 L67 X67 hQ67
    obtain ⟨rfl, N67q, e67⟩ := hQ67
    have N67 := Fr.app N62 N67q
    show own_Goes _ _ _ _ T67 (mkF m 260 #[.val (.int p1), .val (.int p2), .val (.int (2 : Int32)), .val (.ref b1), .val (.ref w_LESS), .val (.int r), .val (.ref b5), .val (.ref w_LESS)] [(.int r)])
    refine own_step (fun t k => XS.iload X67.here hx rfl (hb hby at_260) rfl k) ?_
    show own_Goes _ _ _ _ T67 (mkF m 262 #[.val (.int p1), .val (.int p2), .val (.int (2 : Int32)), .val (.ref b1), .val (.ref w_LESS), .val (.int r), .val (.ref b5), .val (.ref w_LESS)] [(.int r), (.int r)])
    refine own_step (fun t k => XS.icmpNo X67.here hx rfl (hb hby at_262) rfl (teq (show r = r from rfl)).2 k) ?_
    show own_Goes _ _ _ _ T67 (mkF m 265 #[.val (.int p1), .val (.int p2), .val (.int (2 : Int32)), .val (.ref b1), .val (.ref w_LESS), .val (.int r), .val (.ref b5), .val (.ref w_LESS)] [])
    refine own_step (fun t k => XS.iconst X67.here hx rfl (hb hby at_265) k) ?_
    show own_Goes _ _ _ _ T67 (mkF m 266 #[.val (.int p1), .val (.int p2), .val (.int (2 : Int32)), .val (.ref b1), .val (.ref w_LESS), .val (.int r), .val (.ref b5), .val (.ref w_LESS)] [(.int (1 : Int32))])
    refine own_step (fun t k => XS.goto X67.here hx rfl (pc0 := 266) (pc' := 270) rfl (hb hby at_266) (by decide) (by decide) k) ?_
    show own_Goes _ _ _ _ T67 (mkF m 270 #[.val (.int p1), .val (.int p2), .val (.int (2 : Int32)), .val (.ref b1), .val (.ref w_LESS), .val (.int r), .val (.ref b5), .val (.ref w_LESS)] [(.int (1 : Int32))])
    exact own_retN X67 hx hlk (t := .boolean) hrt (by simp) (hb hby at_270) ⟨rfl, N67⟩ (by decide) (by decide)
  by_cases hc103_68 : p2 < (0 : Int32)
  · refine own_step (fun t k => XS.ifNo X3.here hx rfl (hb hby at_103) rfl ((if0 _ _).trans (tlt (show p2 < (0 : Int32) from hc103_68)).2.1) k) ?_
    show own_Goes _ _ _ _ T3 (mkF m 106 #[.val (.int p1), .val (.int p2), .val (.int (2 : Int32)), .val (.ref b1), .val (.ref w_LESS), .unset, .unset, .unset] [])
    refine own_step (fun t k => XS.iconst X3.here hx rfl (hb hby at_106) k) ?_
    show own_Goes _ _ _ _ T3 (mkF m 107 #[.val (.int p1), .val (.int p2), .val (.int (2 : Int32)), .val (.ref b1), .val (.ref w_LESS), .unset, .unset, .unset] [(.int (1 : Int32))])
    refine own_step (fun t k => XS.goto X3.here hx rfl (pc0 := 107) (pc' := 111) rfl (hb hby at_107) (by decide) (by decide) k) ?_
    show own_Goes _ _ _ _ T3 (mkF m 111 #[.val (.int p1), .val (.int p2), .val (.int (2 : Int32)), .val (.ref b1), .val (.ref w_LESS), .unset, .unset, .unset] [(.int (1 : Int32))])
    refine own_step (fun t k => XS.istore X3.here hx rfl (hb hby at_111) rfl (l' := #[.val (.int p1), .val (.int p2), .val (.int (2 : Int32)), .val (.ref b1), .val (.ref w_LESS), .val (.int (1 : Int32)), .unset, .unset]) rfl k) ?_
    show own_Goes _ _ _ _ T3 (mkF m 113 #[.val (.int p1), .val (.int p2), .val (.int (2 : Int32)), .val (.ref b1), .val (.ref w_LESS), .val (.int (1 : Int32)), .unset, .unset] [])
    refine own_step (fun t k => XS.goto X3.here hx rfl (pc0 := 113) (pc' := 217) rfl (hb hby at_113) (by decide) (by decide) k) ?_
    show own_Goes _ _ _ _ T3 (mkF m 217 #[.val (.int p1), .val (.int p2), .val (.int (2 : Int32)), .val (.ref b1), .val (.ref w_LESS), .val (.int (1 : Int32)), .unset, .unset] [])
    obtain rfl : r = (1 : Int32) := ht hc103_68
    exact tail
  · refine own_step (fun t k => XS.ifYes X3.here hx rfl (pc0 := 103) (pc' := 110) rfl (hb hby at_103) rfl ((if0 _ _).trans (flt (show ¬ (p2 < (0 : Int32)) from hc103_68)).2.1) (by decide) (by decide) k) ?_
    show own_Goes _ _ _ _ T3 (mkF m 110 #[.val (.int p1), .val (.int p2), .val (.int (2 : Int32)), .val (.ref b1), .val (.ref w_LESS), .unset, .unset, .unset] [])
    refine own_step (fun t k => XS.iconst X3.here hx rfl (hb hby at_110) k) ?_
    show own_Goes _ _ _ _ T3 (mkF m 111 #[.val (.int p1), .val (.int p2), .val (.int (2 : Int32)), .val (.ref b1), .val (.ref w_LESS), .unset, .unset, .unset] [(.int (0 : Int32))])
    refine own_step (fun t k => XS.istore X3.here hx rfl (hb hby at_111) rfl (l' := #[.val (.int p1), .val (.int p2), .val (.int (2 : Int32)), .val (.ref b1), .val (.ref w_LESS), .val (.int (0 : Int32)), .unset, .unset]) rfl k) ?_
    show own_Goes _ _ _ _ T3 (mkF m 113 #[.val (.int p1), .val (.int p2), .val (.int (2 : Int32)), .val (.ref b1), .val (.ref w_LESS), .val (.int (0 : Int32)), .unset, .unset] [])
    refine own_step (fun t k => XS.goto X3.here hx rfl (pc0 := 113) (pc' := 217) rfl (hb hby at_113) (by decide) (by decide) k) ?_
    show own_Goes _ _ _ _ T3 (mkF m 217 #[.val (.int p1), .val (.int p2), .val (.int (2 : Int32)), .val (.ref b1), .val (.ref w_LESS), .val (.int (0 : Int32)), .unset, .unset] [])
    obtain rfl : r = (0 : Int32) := hf hc103_68
    exact tail
set_option maxRecDepth 65536 in
set_option maxHeartbeats 40000000 in
theorem own_law3 (l : Launch) (Z : State) (a0 : Array Value) (hw : ∀ d ∈ tables_1, d.before a0 Z = true) (ws : List Jvm.Cond) (p1 : Int32) (p2 : Int32) (r : Int32) (zc : Int32) (w_V : Addr) (clv : Cell) (w_EQUAL : Addr) (w_NOT_EQUAL : Addr) (w_LESS : Addr) (w_LESS_OR_EQUAL : Addr) (w_GREATER : Addr) (w_GREATER_OR_EQUAL : Addr) (y_EQUAL : Addr) (z_EQUAL : Addr) (k_EQUAL : ClassId) (y_NOT_EQUAL : Addr) (z_NOT_EQUAL : Addr) (k_NOT_EQUAL : ClassId) (y_LESS : Addr) (z_LESS : Addr) (k_LESS : ClassId) (y_LESS_OR_EQUAL : Addr) (z_LESS_OR_EQUAL : Addr) (k_LESS_OR_EQUAL : ClassId) (h0 : Heap) (n0 : Nat) (Z0 : n0 ≤ h0.size) (S_LESS_OR_EQUAL : Sta Z h0 "com/example/polyphony/polyphony/policy/Operator" "LESS_OR_EQUAL" "Lcom/example/polyphony/polyphony/policy/Operator;" (.ref w_LESS_OR_EQUAL)) (E_w_LESS_OR_EQUAL : Exa Z h0 w_LESS_OR_EQUAL "com/example/polyphony/polyphony/policy/Operator") (S_COMPACT_STRINGS : Sta Z h0 "java/lang/String" "COMPACT_STRINGS" "Z" (.int zc)) (S__VALUES : Sta Z h0 "com/example/polyphony/polyphony/policy/Operator" "$VALUES" "[Lcom/example/polyphony/polyphony/policy/Operator;" (.ref w_V)) (R_w_V : Arr Z h0 w_V clv (.object "com/example/polyphony/polyphony/policy/Operator")) (E_w_V : Exa Z h0 w_V "[Lcom/example/polyphony/polyphony/policy/Operator;") (F_w_EQUAL_symbol : Fld Z h0 w_EQUAL "com/example/polyphony/polyphony/policy/Operator" "symbol" "Ljava/lang/String;" (.ref y_EQUAL)) (E_y_EQUAL : Exa Z h0 y_EQUAL "java/lang/String") (F_y_EQUAL_coder : Fld Z h0 y_EQUAL "java/lang/String" "coder" "B" (.int (0 : Int32))) (F_y_EQUAL_value : Fld Z h0 y_EQUAL "java/lang/String" "value" "[B" (.ref z_EQUAL)) (V_z_EQUAL : Arv Z h0 z_EQUAL k_EQUAL .byte (2 : Int32) [(.int (61 : Int32)), (.int (61 : Int32))] (.int (0 : Int32))) (F_w_NOT_EQUAL_symbol : Fld Z h0 w_NOT_EQUAL "com/example/polyphony/polyphony/policy/Operator" "symbol" "Ljava/lang/String;" (.ref y_NOT_EQUAL)) (E_y_NOT_EQUAL : Exa Z h0 y_NOT_EQUAL "java/lang/String") (F_y_NOT_EQUAL_coder : Fld Z h0 y_NOT_EQUAL "java/lang/String" "coder" "B" (.int (0 : Int32))) (F_y_NOT_EQUAL_value : Fld Z h0 y_NOT_EQUAL "java/lang/String" "value" "[B" (.ref z_NOT_EQUAL)) (V_z_NOT_EQUAL : Arv Z h0 z_NOT_EQUAL k_NOT_EQUAL .byte (2 : Int32) [(.int (33 : Int32)), (.int (61 : Int32))] (.int (0 : Int32))) (F_w_LESS_symbol : Fld Z h0 w_LESS "com/example/polyphony/polyphony/policy/Operator" "symbol" "Ljava/lang/String;" (.ref y_LESS)) (E_y_LESS : Exa Z h0 y_LESS "java/lang/String") (F_y_LESS_coder : Fld Z h0 y_LESS "java/lang/String" "coder" "B" (.int (0 : Int32))) (F_y_LESS_value : Fld Z h0 y_LESS "java/lang/String" "value" "[B" (.ref z_LESS)) (V_z_LESS : Arv Z h0 z_LESS k_LESS .byte (1 : Int32) [(.int (60 : Int32))] (.int (0 : Int32))) (F_w_LESS_OR_EQUAL_symbol : Fld Z h0 w_LESS_OR_EQUAL "com/example/polyphony/polyphony/policy/Operator" "symbol" "Ljava/lang/String;" (.ref y_LESS_OR_EQUAL)) (E_y_LESS_OR_EQUAL : Exa Z h0 y_LESS_OR_EQUAL "java/lang/String") (F_y_LESS_OR_EQUAL_coder : Fld Z h0 y_LESS_OR_EQUAL "java/lang/String" "coder" "B" (.int (0 : Int32))) (F_y_LESS_OR_EQUAL_value : Fld Z h0 y_LESS_OR_EQUAL "java/lang/String" "value" "[B" (.ref z_LESS_OR_EQUAL)) (V_z_LESS_OR_EQUAL : Arv Z h0 z_LESS_OR_EQUAL k_LESS_OR_EQUAL .byte (2 : Int32) [(.int (60 : Int32)), (.int (61 : Int32))] (.int (0 : Int32))) (F_w_LESS_OR_EQUAL_whenBefore : Fld Z h0 w_LESS_OR_EQUAL "com/example/polyphony/polyphony/policy/Operator" "whenBefore" "Z" (.int (1 : Int32))) (F_w_LESS_OR_EQUAL_whenEqual : Fld Z h0 w_LESS_OR_EQUAL "com/example/polyphony/polyphony/policy/Operator" "whenEqual" "Z" (.int (1 : Int32))) (F_w_LESS_OR_EQUAL_whenAfter : Fld Z h0 w_LESS_OR_EQUAL "com/example/polyphony/polyphony/policy/Operator" "whenAfter" "Z" (.int (0 : Int32))) (F_v : FitC Z clv) (S_v : clv.slots.size = (6 : Int32).toNatClampNeg) (H_v : Has clv [(.ref w_EQUAL), (.ref w_NOT_EQUAL), (.ref w_LESS), (.ref w_LESS_OR_EQUAL), (.ref w_GREATER), (.ref w_GREATER_OR_EQUAL)] .null) (G_v : ∀ i, i < clv.slots.size → fits (.object "com/example/polyphony/polyphony/policy/Operator") ([(.ref w_EQUAL), (.ref w_NOT_EQUAL), (.ref w_LESS), (.ref w_LESS_OR_EQUAL), (.ref w_GREATER), (.ref w_GREATER_OR_EQUAL)].getD i .null) = true) (hz : ¬ (zc = (0 : Int32))) (hi : ((p1 &&& (2147483647 : Int32)) - ((p1 &&& (2147483647 : Int32)) / (6 : Int32)) * (6 : Int32)) = (3 : Int32)) (hrn : p2 < (0 : Int32) → r = (1 : Int32)) (hrz : ¬ (p2 < (0 : Int32)) → p2 = (0 : Int32) → r = (1 : Int32)) (hrp : ¬ (p2 < (0 : Int32)) → ¬ (p2 = (0 : Int32)) → r = (0 : Int32)) (ht : (0 : Int32) < p2 → r = (0 : Int32)) (hf : ¬ ((0 : Int32) < p2) → r = (1 : Int32)) :
    own_Met l Z x code maxLocals ret ws room_1 #[(.int p1), (.int p2)] h0 (fun v h L => v = some (.int 1) ∧ Fr n0 L) := by
  refine own_body (plainFor_of_name own_pn_com_example_polyphony_polyphony_policy_OperatorOfPinLaw) (fun p e s m below meth c s₁ hx hby hml0 hrt hlk hown0 hnm hZ X0 e0 => ?_)
  have N0 := Fr.nil n0
  have hown : s.vm.findClass "com/example/polyphony/polyphony/policy/OperatorOfPinLaw" = some m.cls := hown0
  have hml : c.maxLocals = 8 := hml0
  refine own_castG (own_ef11 m p1 p2) ?_
  show own_Goes _ _ _ _ s₁ (mkF m 0 #[.val (.int p1), .val (.int p2), .unset, .unset, .unset, .unset, .unset, .unset] [])
  refine own_step (fun t k => XS.iloadN X0.here hx rfl (hb hby at_0) rfl k) ?_
  show own_Goes _ _ _ _ s₁ (mkF m 1 #[.val (.int p1), .val (.int p2), .unset, .unset, .unset, .unset, .unset, .unset] [(.int p1)])
  refine own_step (X0.ldcInt hx hown (mvT hZ (hw _ (List.mem_of_getElem? (i := 0) rfl))) (g := (mkF m 1 #[.val (.int p1), .val (.int p2), .unset, .unset, .unset, .unset, .unset, .unset] [(.int p1)])) rfl (hb hby at_1)) ?_
  show own_Goes _ _ _ _ s₁ (mkF m 3 #[.val (.int p1), .val (.int p2), .unset, .unset, .unset, .unset, .unset, .unset] [(.int (2147483647 : Int32)), (.int p1)])
  refine own_step (fun t k => XS.iand X0.here hx rfl (hb hby at_3) rfl k) ?_
  show own_Goes _ _ _ _ s₁ (mkF m 4 #[.val (.int p1), .val (.int p2), .unset, .unset, .unset, .unset, .unset, .unset] [(.int (p1 &&& (2147483647 : Int32)))])
  refine own_step (fun t k => XS.bipush X0.here hx rfl (hb hby at_4) k) ?_
  show own_Goes _ _ _ _ s₁ (mkF m 6 #[.val (.int p1), .val (.int p2), .unset, .unset, .unset, .unset, .unset, .unset] [(.int (6 : Int32)), (.int (p1 &&& (2147483647 : Int32)))])
  refine own_step (fun t k => XS.irem X0.here hx rfl (hb hby at_6) rfl (by decide) k) ?_
  show own_Goes _ _ _ _ s₁ (mkF m 7 #[.val (.int p1), .val (.int p2), .unset, .unset, .unset, .unset, .unset, .unset] [(.int ((p1 &&& (2147483647 : Int32)) - ((p1 &&& (2147483647 : Int32)) / (6 : Int32)) * (6 : Int32)))])
  rw [hi]
  show own_Goes _ _ _ _ s₁ (mkF m 7 #[.val (.int p1), .val (.int p2), .unset, .unset, .unset, .unset, .unset, .unset] [(.int (3 : Int32))])
  refine own_step (fun t k => XS.istoreN X0.here hx rfl (hb hby at_7) rfl (l' := #[.val (.int p1), .val (.int p2), .val (.int (3 : Int32)), .unset, .unset, .unset, .unset, .unset]) rfl k) ?_
  show own_Goes _ _ _ _ s₁ (mkF m 8 #[.val (.int p1), .val (.int p2), .val (.int (3 : Int32)), .unset, .unset, .unset, .unset, .unset] [])
  refine own_step (fun t k => XS.iloadN X0.here hx rfl (hb hby at_8) rfl k) ?_
  show own_Goes _ _ _ _ s₁ (mkF m 9 #[.val (.int p1), .val (.int p2), .val (.int (3 : Int32)), .unset, .unset, .unset, .unset, .unset] [(.int (3 : Int32))])
  refine own_step (fun t k => XS.ifYes X0.here hx rfl (pc0 := 9) (pc' := 45) rfl (hb hby at_9) rfl ((if0 _ _).trans (feq (show ¬ ((3 : Int32) = (0 : Int32)) from (by decide))).2) (by decide) (by decide) k) ?_
  show own_Goes _ _ _ _ s₁ (mkF m 45 #[.val (.int p1), .val (.int p2), .val (.int (3 : Int32)), .unset, .unset, .unset, .unset, .unset] [])
  refine own_step (fun t k => XS.iloadN X0.here hx rfl (hb hby at_45) rfl k) ?_
  show own_Goes _ _ _ _ s₁ (mkF m 46 #[.val (.int p1), .val (.int p2), .val (.int (3 : Int32)), .unset, .unset, .unset, .unset, .unset] [(.int (3 : Int32))])
  refine own_step (fun t k => XS.iconst X0.here hx rfl (hb hby at_46) k) ?_
  show own_Goes _ _ _ _ s₁ (mkF m 47 #[.val (.int p1), .val (.int p2), .val (.int (3 : Int32)), .unset, .unset, .unset, .unset, .unset] [(.int (1 : Int32)), (.int (3 : Int32))])
  refine own_step (fun t k => XS.icmpYes X0.here hx rfl (pc0 := 47) (pc' := 83) rfl (hb hby at_47) rfl (feq (show ¬ ((3 : Int32) = (1 : Int32)) from (by decide))).2 (by decide) (by decide) k) ?_
  show own_Goes _ _ _ _ s₁ (mkF m 83 #[.val (.int p1), .val (.int p2), .val (.int (3 : Int32)), .unset, .unset, .unset, .unset, .unset] [])
  refine own_step (fun t k => XS.iloadN X0.here hx rfl (hb hby at_83) rfl k) ?_
  show own_Goes _ _ _ _ s₁ (mkF m 84 #[.val (.int p1), .val (.int p2), .val (.int (3 : Int32)), .unset, .unset, .unset, .unset, .unset] [(.int (3 : Int32))])
  refine own_step (fun t k => XS.iconst X0.here hx rfl (hb hby at_84) k) ?_
  show own_Goes _ _ _ _ s₁ (mkF m 85 #[.val (.int p1), .val (.int p2), .val (.int (3 : Int32)), .unset, .unset, .unset, .unset, .unset] [(.int (2 : Int32)), (.int (3 : Int32))])
  refine own_step (fun t k => XS.icmpYes X0.here hx rfl (pc0 := 85) (pc' := 116) rfl (hb hby at_85) rfl (feq (show ¬ ((3 : Int32) = (2 : Int32)) from (by decide))).2 (by decide) (by decide) k) ?_
  show own_Goes _ _ _ _ s₁ (mkF m 116 #[.val (.int p1), .val (.int p2), .val (.int (3 : Int32)), .unset, .unset, .unset, .unset, .unset] [])
  refine own_step (fun t k => XS.iloadN X0.here hx rfl (hb hby at_116) rfl k) ?_
  show own_Goes _ _ _ _ s₁ (mkF m 117 #[.val (.int p1), .val (.int p2), .val (.int (3 : Int32)), .unset, .unset, .unset, .unset, .unset] [(.int (3 : Int32))])
  refine own_step (fun t k => XS.iconst X0.here hx rfl (hb hby at_117) k) ?_
  show own_Goes _ _ _ _ s₁ (mkF m 118 #[.val (.int p1), .val (.int p2), .val (.int (3 : Int32)), .unset, .unset, .unset, .unset, .unset] [(.int (3 : Int32)), (.int (3 : Int32))])
  refine own_step (fun t k => XS.icmpNo X0.here hx rfl (hb hby at_118) rfl (teq (show (3 : Int32) = (3 : Int32) from (by decide))).2 k) ?_
  show own_Goes _ _ _ _ s₁ (mkF m 121 #[.val (.int p1), .val (.int p2), .val (.int (3 : Int32)), .unset, .unset, .unset, .unset, .unset] [])
  refine own_step (fun t k => XS.iconst X0.here hx rfl (hb hby at_121) k) ?_
  show own_Goes _ _ _ _ s₁ (mkF m 122 #[.val (.int p1), .val (.int p2), .val (.int (3 : Int32)), .unset, .unset, .unset, .unset, .unset] [(.int (2 : Int32))])
  obtain ⟨T1, h1, k1, X1, e1, E1, A1, st1⟩ := newP X0 hx hZ (hw _ (List.mem_of_getElem? (i := 1) rfl)) e0 (g := (mkF m 122 #[.val (.int p1), .val (.int p2), .val (.int (3 : Int32)), .unset, .unset, .unset, .unset, .unset] [(.int (2 : Int32))])) rfl (hb hby at_122) rfl (by decide) (cap := 2) (by decide) (by decide) (by decide) (by decide)
  obtain ⟨b1, g1⟩ : ∃ z, z = h0.size := ⟨_, rfl⟩
  rw [← g1] at A1 st1
  refine own_step st1 ?_
  have g_b1 : n0 ≤ b1 := Nat.le_trans Z0 (Nat.le_of_eq g1.symm)
  have sz_b1 : h0.size ≤ b1 := Nat.le_trans (Keep.refl h0 []).1 (Nat.le_of_eq g1.symm)
  have ne_w_LESS_OR_EQUAL_b1 : w_LESS_OR_EQUAL ≠ b1 := Nat.ne_of_lt (Nat.lt_of_lt_of_le E_w_LESS_OR_EQUAL.lt (Nat.le_of_eq g1.symm))
  have ne_w_V_b1 : w_V ≠ b1 := Nat.ne_of_lt (Nat.lt_of_lt_of_le E_w_V.lt (Nat.le_of_eq g1.symm))
  have ne_w_EQUAL_b1 : w_EQUAL ≠ b1 := Nat.ne_of_lt (Nat.lt_of_lt_of_le F_w_EQUAL_symbol.lt (Nat.le_of_eq g1.symm))
  have ne_y_EQUAL_b1 : y_EQUAL ≠ b1 := Nat.ne_of_lt (Nat.lt_of_lt_of_le E_y_EQUAL.lt (Nat.le_of_eq g1.symm))
  have ne_z_EQUAL_b1 : z_EQUAL ≠ b1 := Nat.ne_of_lt (Nat.lt_of_lt_of_le V_z_EQUAL.lt (Nat.le_of_eq g1.symm))
  have ne_w_NOT_EQUAL_b1 : w_NOT_EQUAL ≠ b1 := Nat.ne_of_lt (Nat.lt_of_lt_of_le F_w_NOT_EQUAL_symbol.lt (Nat.le_of_eq g1.symm))
  have ne_y_NOT_EQUAL_b1 : y_NOT_EQUAL ≠ b1 := Nat.ne_of_lt (Nat.lt_of_lt_of_le E_y_NOT_EQUAL.lt (Nat.le_of_eq g1.symm))
  have ne_z_NOT_EQUAL_b1 : z_NOT_EQUAL ≠ b1 := Nat.ne_of_lt (Nat.lt_of_lt_of_le V_z_NOT_EQUAL.lt (Nat.le_of_eq g1.symm))
  have ne_w_LESS_b1 : w_LESS ≠ b1 := Nat.ne_of_lt (Nat.lt_of_lt_of_le F_w_LESS_symbol.lt (Nat.le_of_eq g1.symm))
  have ne_y_LESS_b1 : y_LESS ≠ b1 := Nat.ne_of_lt (Nat.lt_of_lt_of_le E_y_LESS.lt (Nat.le_of_eq g1.symm))
  have ne_z_LESS_b1 : z_LESS ≠ b1 := Nat.ne_of_lt (Nat.lt_of_lt_of_le V_z_LESS.lt (Nat.le_of_eq g1.symm))
  have ne_y_LESS_OR_EQUAL_b1 : y_LESS_OR_EQUAL ≠ b1 := Nat.ne_of_lt (Nat.lt_of_lt_of_le E_y_LESS_OR_EQUAL.lt (Nat.le_of_eq g1.symm))
  have ne_z_LESS_OR_EQUAL_b1 : z_LESS_OR_EQUAL ≠ b1 := Nat.ne_of_lt (Nat.lt_of_lt_of_le V_z_LESS_OR_EQUAL.lt (Nat.le_of_eq g1.symm))
  have K1 := (Keep.refl h0 []).ext E1
  have V_b1 : Arv Z h1 b1 k1 .char (2 : Int32) [(.int (0 : Int32)), (.int (0 : Int32))] (.int (0 : Int32)) := (Arv.new A1 (by decide)).pad (pad_rep [] (.int (0 : Int32)) 2)
  show own_Goes _ _ _ _ T1 (mkF m 124 #[.val (.int p1), .val (.int p2), .val (.int (3 : Int32)), .unset, .unset, .unset, .unset, .unset] [(.ref b1)])
  refine own_step (fun t k => XS.dup X1.here hx rfl (hb hby at_124) rfl rfl k) ?_
  show own_Goes _ _ _ _ T1 (mkF m 125 #[.val (.int p1), .val (.int p2), .val (.int (3 : Int32)), .unset, .unset, .unset, .unset, .unset] [(.ref b1), (.ref b1)])
  refine own_step (fun t k => XS.iconst X1.here hx rfl (hb hby at_125) k) ?_
  show own_Goes _ _ _ _ T1 (mkF m 126 #[.val (.int p1), .val (.int p2), .val (.int (3 : Int32)), .unset, .unset, .unset, .unset, .unset] [(.int (0 : Int32)), (.ref b1), (.ref b1)])
  refine own_step (fun t k => XS.bipush X1.here hx rfl (hb hby at_126) k) ?_
  show own_Goes _ _ _ _ T1 (mkF m 128 #[.val (.int p1), .val (.int p2), .val (.int (3 : Int32)), .unset, .unset, .unset, .unset, .unset] [(.int (60 : Int32)), (.int (0 : Int32)), (.ref b1), (.ref b1)])
  obtain ⟨T2, h2, X2, e2, W2, V2, st2⟩ := own_castore X1 hx hZ e1 V_b1 (x := (60 : Int32)) (60 : Int32) rfl (j := (0 : Int32)) ⟨by decide, by decide⟩ 0 rfl (Nat.le_of_ble_eq_true rfl) (g := (mkF m 128 #[.val (.int p1), .val (.int p2), .val (.int (3 : Int32)), .unset, .unset, .unset, .unset, .unset] [(.int (60 : Int32)), (.int (0 : Int32)), (.ref b1), (.ref b1)])) rfl rfl (hb hby at_128)
  refine own_step st2 ?_
  have K2 := K1.wr W2 (Or.inr sz_b1)
  have N2 := Fr.snoc X2 N0 g_b1
  have V2' : Arv Z h2 b1 k1 .char (2 : Int32) [(.int (60 : Int32)), (.int (0 : Int32))] (.int (0 : Int32)) := V2
  show own_Goes _ _ _ _ T2 (mkF m 129 #[.val (.int p1), .val (.int p2), .val (.int (3 : Int32)), .unset, .unset, .unset, .unset, .unset] [(.ref b1)])
  refine own_step (fun t k => XS.dup X2.here hx rfl (hb hby at_129) rfl rfl k) ?_
  show own_Goes _ _ _ _ T2 (mkF m 130 #[.val (.int p1), .val (.int p2), .val (.int (3 : Int32)), .unset, .unset, .unset, .unset, .unset] [(.ref b1), (.ref b1)])
  refine own_step (fun t k => XS.iconst X2.here hx rfl (hb hby at_130) k) ?_
  show own_Goes _ _ _ _ T2 (mkF m 131 #[.val (.int p1), .val (.int p2), .val (.int (3 : Int32)), .unset, .unset, .unset, .unset, .unset] [(.int (1 : Int32)), (.ref b1), (.ref b1)])
  refine own_step (fun t k => XS.bipush X2.here hx rfl (hb hby at_131) k) ?_
  show own_Goes _ _ _ _ T2 (mkF m 133 #[.val (.int p1), .val (.int p2), .val (.int (3 : Int32)), .unset, .unset, .unset, .unset, .unset] [(.int (61 : Int32)), (.int (1 : Int32)), (.ref b1), (.ref b1)])
  obtain ⟨T3, h3, X3, e3, W3, V3, st3⟩ := own_castore X2 hx hZ e2 V2' (x := (61 : Int32)) (61 : Int32) rfl (j := (1 : Int32)) ⟨by decide, by decide⟩ 1 rfl (Nat.le_of_ble_eq_true rfl) (g := (mkF m 133 #[.val (.int p1), .val (.int p2), .val (.int (3 : Int32)), .unset, .unset, .unset, .unset, .unset] [(.int (61 : Int32)), (.int (1 : Int32)), (.ref b1), (.ref b1)])) rfl rfl (hb hby at_133)
  refine own_step st3 ?_
  have K3 := K2.wr W3 (Or.inr sz_b1)
  have N3 := Fr.snoc X3 N2 g_b1
  have V3' : Arv Z h3 b1 k1 .char (2 : Int32) [(.int (60 : Int32)), (.int (61 : Int32))] (.int (0 : Int32)) := V3
  show own_Goes _ _ _ _ T3 (mkF m 134 #[.val (.int p1), .val (.int p2), .val (.int (3 : Int32)), .unset, .unset, .unset, .unset, .unset] [(.ref b1)])
  refine own_step (fun t k => XS.astoreN X3.here hx rfl (hb hby at_134) rfl rfl (l' := #[.val (.int p1), .val (.int p2), .val (.int (3 : Int32)), .val (.ref b1), .unset, .unset, .unset, .unset]) rfl k) ?_
  show own_Goes _ _ _ _ T3 (mkF m 135 #[.val (.int p1), .val (.int p2), .val (.int (3 : Int32)), .val (.ref b1), .unset, .unset, .unset, .unset] [])
  have S_LESS_OR_EQUAL_v5 := (((S_LESS_OR_EQUAL.ext E1).wr W2).wr W3)
  obtain ⟨T4, X4, e4, st4⟩ := getS2 X3 hx hZ hown (host := "") (Or.inl (hw _ (List.mem_of_getElem? (i := 88) rfl))) Via.refl e3 S_LESS_OR_EQUAL_v5 (g := (mkF m 135 #[.val (.int p1), .val (.int p2), .val (.int (3 : Int32)), .val (.ref b1), .unset, .unset, .unset, .unset] [])) rfl (hb hby at_135)
  refine own_step st4 ?_
  show own_Goes _ _ _ _ T4 (mkF m 138 #[.val (.int p1), .val (.int p2), .val (.int (3 : Int32)), .val (.ref b1), .unset, .unset, .unset, .unset] [(.ref w_LESS_OR_EQUAL)])
  refine own_step (fun t k => XS.astore X4.here hx rfl (hb hby at_138) rfl rfl (l' := #[.val (.int p1), .val (.int p2), .val (.int (3 : Int32)), .val (.ref b1), .val (.ref w_LESS_OR_EQUAL), .unset, .unset, .unset]) rfl k) ?_
  show own_Goes _ _ _ _ T4 (mkF m 140 #[.val (.int p1), .val (.int p2), .val (.int (3 : Int32)), .val (.ref b1), .val (.ref w_LESS_OR_EQUAL), .unset, .unset, .unset] [])
  refine own_step (fun t k => XS.iloadN X4.here hx rfl (hb hby at_140) rfl k) ?_
  show own_Goes _ _ _ _ T4 (mkF m 141 #[.val (.int p1), .val (.int p2), .val (.int (3 : Int32)), .val (.ref b1), .val (.ref w_LESS_OR_EQUAL), .unset, .unset, .unset] [(.int p2)])
  have tail : own_Goes p e below (own_K s (fun v h L => v = some (.int 1) ∧ Fr n0 L) room_1.cells room_1.slots) T4 (mkF m 217 #[.val (.int p1), .val (.int p2), .val (.int (3 : Int32)), .val (.ref b1), .val (.ref w_LESS_OR_EQUAL), .val (.int r), .unset, .unset] []) := by
    obtain ⟨T6, h6, X6, e6, E6, A6, D6, -, st6⟩ := newO X4 hx hZ hown (hw _ (List.mem_of_getElem? (i := 5) rfl)) (hw _ (List.mem_of_getElem? (i := 6) rfl)) (hw _ (List.mem_of_getElem? (i := 7) rfl)) e4 (g := (mkF m 217 #[.val (.int p1), .val (.int p2), .val (.int (3 : Int32)), .val (.ref b1), .val (.ref w_LESS_OR_EQUAL), .val (.int r), .unset, .unset] [])) rfl (hb hby at_217) (by decide) (by decide)
    obtain ⟨b6, g6⟩ : ∃ z, z = h3.size := ⟨_, rfl⟩
    rw [← g6] at A6 D6 st6
    refine own_step st6 ?_
    have g_b6 : n0 ≤ b6 := Nat.le_trans (Nat.le_trans Z0 K3.1) (Nat.le_of_eq g6.symm)
    have sz_b6 : h0.size ≤ b6 := Nat.le_trans K3.1 (Nat.le_of_eq g6.symm)
    have E_w_LESS_OR_EQUAL_v7 := (((E_w_LESS_OR_EQUAL.ext E1).wr W2).wr W3)
    have ne_w_LESS_OR_EQUAL_b6 : w_LESS_OR_EQUAL ≠ b6 := Nat.ne_of_lt (Nat.lt_of_lt_of_le E_w_LESS_OR_EQUAL_v7.lt (Nat.le_of_eq g6.symm))
    have E_w_V_v8 := (((E_w_V.ext E1).wr W2).wr W3)
    have ne_w_V_b6 : w_V ≠ b6 := Nat.ne_of_lt (Nat.lt_of_lt_of_le E_w_V_v8.lt (Nat.le_of_eq g6.symm))
    have F_w_EQUAL_symbol_v9 := (((F_w_EQUAL_symbol.ext E1).other W2 (Or.inl ne_w_EQUAL_b1)).other W3 (Or.inl ne_w_EQUAL_b1))
    have ne_w_EQUAL_b6 : w_EQUAL ≠ b6 := Nat.ne_of_lt (Nat.lt_of_lt_of_le F_w_EQUAL_symbol_v9.lt (Nat.le_of_eq g6.symm))
    have E_y_EQUAL_v10 := (((E_y_EQUAL.ext E1).wr W2).wr W3)
    have ne_y_EQUAL_b6 : y_EQUAL ≠ b6 := Nat.ne_of_lt (Nat.lt_of_lt_of_le E_y_EQUAL_v10.lt (Nat.le_of_eq g6.symm))
    have V_z_EQUAL_v11 := (((V_z_EQUAL.ext E1).other W2 ne_z_EQUAL_b1).other W3 ne_z_EQUAL_b1)
    have ne_z_EQUAL_b6 : z_EQUAL ≠ b6 := Nat.ne_of_lt (Nat.lt_of_lt_of_le V_z_EQUAL_v11.lt (Nat.le_of_eq g6.symm))
    have F_w_NOT_EQUAL_symbol_v12 := (((F_w_NOT_EQUAL_symbol.ext E1).other W2 (Or.inl ne_w_NOT_EQUAL_b1)).other W3 (Or.inl ne_w_NOT_EQUAL_b1))
    have ne_w_NOT_EQUAL_b6 : w_NOT_EQUAL ≠ b6 := Nat.ne_of_lt (Nat.lt_of_lt_of_le F_w_NOT_EQUAL_symbol_v12.lt (Nat.le_of_eq g6.symm))
    have E_y_NOT_EQUAL_v13 := (((E_y_NOT_EQUAL.ext E1).wr W2).wr W3)
    have ne_y_NOT_EQUAL_b6 : y_NOT_EQUAL ≠ b6 := Nat.ne_of_lt (Nat.lt_of_lt_of_le E_y_NOT_EQUAL_v13.lt (Nat.le_of_eq g6.symm))
    have V_z_NOT_EQUAL_v14 := (((V_z_NOT_EQUAL.ext E1).other W2 ne_z_NOT_EQUAL_b1).other W3 ne_z_NOT_EQUAL_b1)
    have ne_z_NOT_EQUAL_b6 : z_NOT_EQUAL ≠ b6 := Nat.ne_of_lt (Nat.lt_of_lt_of_le V_z_NOT_EQUAL_v14.lt (Nat.le_of_eq g6.symm))
    have F_w_LESS_symbol_v15 := (((F_w_LESS_symbol.ext E1).other W2 (Or.inl ne_w_LESS_b1)).other W3 (Or.inl ne_w_LESS_b1))
    have ne_w_LESS_b6 : w_LESS ≠ b6 := Nat.ne_of_lt (Nat.lt_of_lt_of_le F_w_LESS_symbol_v15.lt (Nat.le_of_eq g6.symm))
    have E_y_LESS_v16 := (((E_y_LESS.ext E1).wr W2).wr W3)
    have ne_y_LESS_b6 : y_LESS ≠ b6 := Nat.ne_of_lt (Nat.lt_of_lt_of_le E_y_LESS_v16.lt (Nat.le_of_eq g6.symm))
    have V_z_LESS_v17 := (((V_z_LESS.ext E1).other W2 ne_z_LESS_b1).other W3 ne_z_LESS_b1)
    have ne_z_LESS_b6 : z_LESS ≠ b6 := Nat.ne_of_lt (Nat.lt_of_lt_of_le V_z_LESS_v17.lt (Nat.le_of_eq g6.symm))
    have E_y_LESS_OR_EQUAL_v18 := (((E_y_LESS_OR_EQUAL.ext E1).wr W2).wr W3)
    have ne_y_LESS_OR_EQUAL_b6 : y_LESS_OR_EQUAL ≠ b6 := Nat.ne_of_lt (Nat.lt_of_lt_of_le E_y_LESS_OR_EQUAL_v18.lt (Nat.le_of_eq g6.symm))
    have V_z_LESS_OR_EQUAL_v19 := (((V_z_LESS_OR_EQUAL.ext E1).other W2 ne_z_LESS_OR_EQUAL_b1).other W3 ne_z_LESS_OR_EQUAL_b1)
    have ne_z_LESS_OR_EQUAL_b6 : z_LESS_OR_EQUAL ≠ b6 := Nat.ne_of_lt (Nat.lt_of_lt_of_le V_z_LESS_OR_EQUAL_v19.lt (Nat.le_of_eq g6.symm))
    have ne_b1_b6 : b1 ≠ b6 := Nat.ne_of_lt (Nat.lt_of_lt_of_le V3'.lt (Nat.le_of_eq g6.symm))
    have K6 := K3.ext E6
    have F_b6_coder : Fld Z h6 b6 "java/lang/String" "coder" "B" (.int (0 : Int32)) := D6 (Or.inr (hw _ (List.mem_of_getElem? (i := 31) rfl))) (ty := .byte) (by decide)
    have F_b6_value : Fld Z h6 b6 "java/lang/String" "value" "[B" .null := D6 (Or.inr (hw _ (List.mem_of_getElem? (i := 33) rfl))) (ty := (.array .byte)) (by decide)
    show own_Goes _ _ _ _ T6 (mkF m 220 #[.val (.int p1), .val (.int p2), .val (.int (3 : Int32)), .val (.ref b1), .val (.ref w_LESS_OR_EQUAL), .val (.int r), .unset, .unset] [(.ref b6)])
    refine own_step (fun t k => XS.dup X6.here hx rfl (hb hby at_220) rfl rfl k) ?_
    show own_Goes _ _ _ _ T6 (mkF m 221 #[.val (.int p1), .val (.int p2), .val (.int (3 : Int32)), .val (.ref b1), .val (.ref w_LESS_OR_EQUAL), .val (.int r), .unset, .unset] [(.ref b6), (.ref b6)])
    refine own_step (fun t k => XS.aloadN X6.here hx rfl (hb hby at_221) rfl rfl k) ?_
    show own_Goes _ _ _ _ T6 (mkF m 222 #[.val (.int p1), .val (.int p2), .val (.int (3 : Int32)), .val (.ref b1), .val (.ref w_LESS_OR_EQUAL), .val (.int r), .unset, .unset] [(.ref b1), (.ref b6), (.ref b6)])
    have V3'_v20 := (V3'.ext E6)
    have S_COMPACT_STRINGS_v21 := ((((S_COMPACT_STRINGS.ext E1).wr W2).wr W3).ext E6)
    refine own_callC X6 hx hZ (y := (⟨"java/lang/String", "<init>", "([C)V"⟩ : MethodName)) rfl hown (hw _ (List.mem_of_getElem? (i := 8) rfl)) (hw _ (List.mem_of_getElem? (i := 9) rfl)) (hw _ (List.mem_of_getElem? (i := 10) rfl)) (hw _ (List.mem_of_getElem? (i := 7) rfl)) (by decide) 1 (a := b6) [(.ref b1)] [(.ref b6)] (own_sinit_2 l Z a0 hw [] b6 b1 k1 (60 : Int32) (61 : Int32) zc h6 n0 (Nat.le_trans Z0 K6.1) A6 F_b6_value F_b6_coder V3'_v20 S_COMPACT_STRINGS_v21 (by decide) (by decide) hz g_b6) e6 (by decide) (by decide) (by decide) (by decide) (g := (mkF m 222 #[.val (.int p1), .val (.int p2), .val (.int (3 : Int32)), .val (.ref b1), .val (.ref w_LESS_OR_EQUAL), .val (.int r), .unset, .unset] [(.ref b1), (.ref b6), (.ref b6)])) rfl (by rw [hml]; rfl) own_pd7 rfl rfl (by show 2 * 0 + _ ≤ _; exact Nat.le_of_eq rfl) (hb hby at_222) ?_
    intro T22 v22 L22 X22 hQ22
    have E_w_LESS_OR_EQUAL_v23 := (E_w_LESS_OR_EQUAL_v7.ext E6)
    have E_w_V_v24 := (E_w_V_v8.ext E6)
    have F_w_EQUAL_symbol_v25 := (F_w_EQUAL_symbol_v9.ext E6)
    have E_y_EQUAL_v26 := (E_y_EQUAL_v10.ext E6)
    have V_z_EQUAL_v27 := (V_z_EQUAL_v11.ext E6)
    have F_w_NOT_EQUAL_symbol_v28 := (F_w_NOT_EQUAL_symbol_v12.ext E6)
    have E_y_NOT_EQUAL_v29 := (E_y_NOT_EQUAL_v13.ext E6)
    have V_z_NOT_EQUAL_v30 := (V_z_NOT_EQUAL_v14.ext E6)
    have F_w_LESS_symbol_v31 := (F_w_LESS_symbol_v15.ext E6)
    have E_y_LESS_v32 := (E_y_LESS_v16.ext E6)
    have V_z_LESS_v33 := (V_z_LESS_v17.ext E6)
    have E_y_LESS_OR_EQUAL_v34 := (E_y_LESS_OR_EQUAL_v18.ext E6)
    have V_z_LESS_OR_EQUAL_v35 := (V_z_LESS_OR_EQUAL_v19.ext E6)
    obtain ⟨b22_0, k22_0, rfl, N22q, Kq22, zq22_0, q22_0, q22_1, q22_2, q22_3⟩ := hQ22
    have N22 := Fr.app N3 N22q
    have K22 := K6.trans Kq22 (allS (Or.inr sz_b6) all0)
    have g_b22_0 : n0 ≤ b22_0 := Nat.le_trans (Nat.le_trans Z0 K6.1) zq22_0
    have sz_b22_0 : h0.size ≤ b22_0 := Nat.le_trans K6.1 zq22_0
    have ne_w_LESS_OR_EQUAL_b22_0 : w_LESS_OR_EQUAL ≠ b22_0 := Nat.ne_of_lt (Nat.lt_of_lt_of_le E_w_LESS_OR_EQUAL_v23.lt zq22_0)
    have ne_w_V_b22_0 : w_V ≠ b22_0 := Nat.ne_of_lt (Nat.lt_of_lt_of_le E_w_V_v24.lt zq22_0)
    have ne_w_EQUAL_b22_0 : w_EQUAL ≠ b22_0 := Nat.ne_of_lt (Nat.lt_of_lt_of_le F_w_EQUAL_symbol_v25.lt zq22_0)
    have ne_y_EQUAL_b22_0 : y_EQUAL ≠ b22_0 := Nat.ne_of_lt (Nat.lt_of_lt_of_le E_y_EQUAL_v26.lt zq22_0)
    have ne_z_EQUAL_b22_0 : z_EQUAL ≠ b22_0 := Nat.ne_of_lt (Nat.lt_of_lt_of_le V_z_EQUAL_v27.lt zq22_0)
    have ne_w_NOT_EQUAL_b22_0 : w_NOT_EQUAL ≠ b22_0 := Nat.ne_of_lt (Nat.lt_of_lt_of_le F_w_NOT_EQUAL_symbol_v28.lt zq22_0)
    have ne_y_NOT_EQUAL_b22_0 : y_NOT_EQUAL ≠ b22_0 := Nat.ne_of_lt (Nat.lt_of_lt_of_le E_y_NOT_EQUAL_v29.lt zq22_0)
    have ne_z_NOT_EQUAL_b22_0 : z_NOT_EQUAL ≠ b22_0 := Nat.ne_of_lt (Nat.lt_of_lt_of_le V_z_NOT_EQUAL_v30.lt zq22_0)
    have ne_w_LESS_b22_0 : w_LESS ≠ b22_0 := Nat.ne_of_lt (Nat.lt_of_lt_of_le F_w_LESS_symbol_v31.lt zq22_0)
    have ne_y_LESS_b22_0 : y_LESS ≠ b22_0 := Nat.ne_of_lt (Nat.lt_of_lt_of_le E_y_LESS_v32.lt zq22_0)
    have ne_z_LESS_b22_0 : z_LESS ≠ b22_0 := Nat.ne_of_lt (Nat.lt_of_lt_of_le V_z_LESS_v33.lt zq22_0)
    have ne_y_LESS_OR_EQUAL_b22_0 : y_LESS_OR_EQUAL ≠ b22_0 := Nat.ne_of_lt (Nat.lt_of_lt_of_le E_y_LESS_OR_EQUAL_v34.lt zq22_0)
    have ne_z_LESS_OR_EQUAL_b22_0 : z_LESS_OR_EQUAL ≠ b22_0 := Nat.ne_of_lt (Nat.lt_of_lt_of_le V_z_LESS_OR_EQUAL_v35.lt zq22_0)
    have ne_b1_b22_0 : b1 ≠ b22_0 := Nat.ne_of_lt (Nat.lt_of_lt_of_le V3'_v20.lt zq22_0)
    have ne_b6_b22_0 : b6 ≠ b22_0 := Nat.ne_of_lt (Nat.lt_of_lt_of_le A6.lt zq22_0)
    have q22_0' : Exa Z T22.heap b6 "java/lang/String" := q22_0
    have q22_1' : Fld Z T22.heap b6 "java/lang/String" "coder" "B" (.int (0 : Int32)) := q22_1
    have q22_2' : Fld Z T22.heap b6 "java/lang/String" "value" "[B" (.ref b22_0) := q22_2
    have q22_3' : Arv Z T22.heap b22_0 k22_0 .byte (2 : Int32) [(.int (60 : Int32)), (.int (61 : Int32))] (.int (0 : Int32)) := q22_3
    show own_Goes _ _ _ _ T22 (mkF m 225 #[.val (.int p1), .val (.int p2), .val (.int (3 : Int32)), .val (.ref b1), .val (.ref w_LESS_OR_EQUAL), .val (.int r), .unset, .unset] [(.ref b6)])
    refine own_step (fun t k => XS.astore X22.here hx rfl (hb hby at_225) rfl rfl (l' := #[.val (.int p1), .val (.int p2), .val (.int (3 : Int32)), .val (.ref b1), .val (.ref w_LESS_OR_EQUAL), .val (.int r), .val (.ref b6), .unset]) rfl k) ?_
    show own_Goes _ _ _ _ T22 (mkF m 227 #[.val (.int p1), .val (.int p2), .val (.int (3 : Int32)), .val (.ref b1), .val (.ref w_LESS_OR_EQUAL), .val (.int r), .val (.ref b6), .unset] [])
    refine own_step (fun t k => XS.aload X22.here hx rfl (hb hby at_227) rfl rfl k) ?_
    show own_Goes _ _ _ _ T22 (mkF m 229 #[.val (.int p1), .val (.int p2), .val (.int (3 : Int32)), .val (.ref b1), .val (.ref w_LESS_OR_EQUAL), .val (.int r), .val (.ref b6), .unset] [(.ref b6)])
    have S_COMPACT_STRINGS_v36 := (own_staKeep S_COMPACT_STRINGS_v21 Kq22 (allS (own_plainE A6) all0))
    have S__VALUES_v37 := (own_staKeep ((((S__VALUES.ext E1).wr W2).wr W3).ext E6) Kq22 (allS (own_plainE A6) all0))
    have R_w_V_v38 := (own_arrKeep ((((R_w_V.ext E1).other W2 ne_w_V_b1).other W3 ne_w_V_b1).ext E6) Kq22 (ninS ne_w_V_b6 nin0))
    have E_w_V_v39 := (E_w_V_v24.keep Kq22)
    have F_w_EQUAL_symbol_v40 := (F_w_EQUAL_symbol_v25.keep Kq22 (ninS ne_w_EQUAL_b6 nin0))
    have E_y_EQUAL_v41 := (E_y_EQUAL_v26.keep Kq22)
    have F_y_EQUAL_coder_v42 := (((((F_y_EQUAL_coder.ext E1).other W2 (Or.inl ne_y_EQUAL_b1)).other W3 (Or.inl ne_y_EQUAL_b1)).ext E6).keep Kq22 (ninS ne_y_EQUAL_b6 nin0))
    have F_y_EQUAL_value_v43 := (((((F_y_EQUAL_value.ext E1).other W2 (Or.inl ne_y_EQUAL_b1)).other W3 (Or.inl ne_y_EQUAL_b1)).ext E6).keep Kq22 (ninS ne_y_EQUAL_b6 nin0))
    have V_z_EQUAL_v44 := (V_z_EQUAL_v27.keep Kq22 (ninS ne_z_EQUAL_b6 nin0))
    have F_w_NOT_EQUAL_symbol_v45 := (F_w_NOT_EQUAL_symbol_v28.keep Kq22 (ninS ne_w_NOT_EQUAL_b6 nin0))
    have E_y_NOT_EQUAL_v46 := (E_y_NOT_EQUAL_v29.keep Kq22)
    have F_y_NOT_EQUAL_coder_v47 := (((((F_y_NOT_EQUAL_coder.ext E1).other W2 (Or.inl ne_y_NOT_EQUAL_b1)).other W3 (Or.inl ne_y_NOT_EQUAL_b1)).ext E6).keep Kq22 (ninS ne_y_NOT_EQUAL_b6 nin0))
    have F_y_NOT_EQUAL_value_v48 := (((((F_y_NOT_EQUAL_value.ext E1).other W2 (Or.inl ne_y_NOT_EQUAL_b1)).other W3 (Or.inl ne_y_NOT_EQUAL_b1)).ext E6).keep Kq22 (ninS ne_y_NOT_EQUAL_b6 nin0))
    have V_z_NOT_EQUAL_v49 := (V_z_NOT_EQUAL_v30.keep Kq22 (ninS ne_z_NOT_EQUAL_b6 nin0))
    have F_w_LESS_symbol_v50 := (F_w_LESS_symbol_v31.keep Kq22 (ninS ne_w_LESS_b6 nin0))
    have E_y_LESS_v51 := (E_y_LESS_v32.keep Kq22)
    have F_y_LESS_coder_v52 := (((((F_y_LESS_coder.ext E1).other W2 (Or.inl ne_y_LESS_b1)).other W3 (Or.inl ne_y_LESS_b1)).ext E6).keep Kq22 (ninS ne_y_LESS_b6 nin0))
    have F_y_LESS_value_v53 := (((((F_y_LESS_value.ext E1).other W2 (Or.inl ne_y_LESS_b1)).other W3 (Or.inl ne_y_LESS_b1)).ext E6).keep Kq22 (ninS ne_y_LESS_b6 nin0))
    have V_z_LESS_v54 := (V_z_LESS_v33.keep Kq22 (ninS ne_z_LESS_b6 nin0))
    have F_w_LESS_OR_EQUAL_symbol_v55 := (((((F_w_LESS_OR_EQUAL_symbol.ext E1).other W2 (Or.inl ne_w_LESS_OR_EQUAL_b1)).other W3 (Or.inl ne_w_LESS_OR_EQUAL_b1)).ext E6).keep Kq22 (ninS ne_w_LESS_OR_EQUAL_b6 nin0))
    have E_y_LESS_OR_EQUAL_v56 := (E_y_LESS_OR_EQUAL_v34.keep Kq22)
    have F_y_LESS_OR_EQUAL_coder_v57 := (((((F_y_LESS_OR_EQUAL_coder.ext E1).other W2 (Or.inl ne_y_LESS_OR_EQUAL_b1)).other W3 (Or.inl ne_y_LESS_OR_EQUAL_b1)).ext E6).keep Kq22 (ninS ne_y_LESS_OR_EQUAL_b6 nin0))
    have F_y_LESS_OR_EQUAL_value_v58 := (((((F_y_LESS_OR_EQUAL_value.ext E1).other W2 (Or.inl ne_y_LESS_OR_EQUAL_b1)).other W3 (Or.inl ne_y_LESS_OR_EQUAL_b1)).ext E6).keep Kq22 (ninS ne_y_LESS_OR_EQUAL_b6 nin0))
    have V_z_LESS_OR_EQUAL_v59 := (V_z_LESS_OR_EQUAL_v35.keep Kq22 (ninS ne_z_LESS_OR_EQUAL_b6 nin0))
    refine own_callS X22 hx hZ (y := (⟨"com/example/polyphony/polyphony/policy/Operator", "of", "(Ljava/lang/String;)Lcom/example/polyphony/polyphony/policy/Operator;"⟩ : MethodName)) hown (hw _ (List.mem_of_getElem? (i := 34) rfl)) (hw _ (List.mem_of_getElem? (i := 35) rfl)) (hw _ (List.mem_of_getElem? (i := 3) rfl)) (hw _ (List.mem_of_getElem? (i := 36) rfl)) (by decide) 0 [(.ref b6)] [] (own_of3 l Z a0 hw [] b6 b22_0 k22_0 zc w_V clv w_EQUAL w_NOT_EQUAL w_LESS w_LESS_OR_EQUAL w_GREATER w_GREATER_OR_EQUAL y_EQUAL z_EQUAL k_EQUAL y_NOT_EQUAL z_NOT_EQUAL k_NOT_EQUAL y_LESS z_LESS k_LESS y_LESS_OR_EQUAL z_LESS_OR_EQUAL k_LESS_OR_EQUAL T22.heap n0 (Nat.le_trans Z0 K22.1) q22_0' q22_1' q22_2' q22_3' S_COMPACT_STRINGS_v36 S__VALUES_v37 R_w_V_v38 E_w_V_v39 F_w_EQUAL_symbol_v40 E_y_EQUAL_v41 F_y_EQUAL_coder_v42 F_y_EQUAL_value_v43 V_z_EQUAL_v44 F_w_NOT_EQUAL_symbol_v45 E_y_NOT_EQUAL_v46 F_y_NOT_EQUAL_coder_v47 F_y_NOT_EQUAL_value_v48 V_z_NOT_EQUAL_v49 F_w_LESS_symbol_v50 E_y_LESS_v51 F_y_LESS_coder_v52 F_y_LESS_value_v53 V_z_LESS_v54 F_w_LESS_OR_EQUAL_symbol_v55 E_y_LESS_OR_EQUAL_v56 F_y_LESS_OR_EQUAL_coder_v57 F_y_LESS_OR_EQUAL_value_v58 V_z_LESS_OR_EQUAL_v59 F_v S_v H_v G_v hz ne_y_EQUAL_b6 ne_y_NOT_EQUAL_b6 ne_y_LESS_b6 ne_y_LESS_OR_EQUAL_b6) rfl (by decide) (by decide) (by decide) (by decide) (g := (mkF m 229 #[.val (.int p1), .val (.int p2), .val (.int (3 : Int32)), .val (.ref b1), .val (.ref w_LESS_OR_EQUAL), .val (.int r), .val (.ref b6), .unset] [(.ref b6)])) rfl (by rw [hml]; rfl) own_pd8 rfl rfl (by show 2 * 0 + _ ≤ _; exact Nat.le_of_eq rfl) (hb hby at_229) ?_
    intro T60 v60 L60 X60 hQ60
    have E_w_LESS_OR_EQUAL_v61 := (E_w_LESS_OR_EQUAL_v23.keep Kq22)
    have V3'_v62 := (V3'_v20.keep Kq22 (ninS ne_b1_b6 nin0))
    obtain ⟨rfl, N60q, Kq60⟩ := hQ60
    have N60 := Fr.app N22 N60q
    have K60 := K22.trans Kq60 all0
    show own_Goes _ _ _ _ T60 (mkF m 232 #[.val (.int p1), .val (.int p2), .val (.int (3 : Int32)), .val (.ref b1), .val (.ref w_LESS_OR_EQUAL), .val (.int r), .val (.ref b6), .unset] [(.ref w_LESS_OR_EQUAL)])
    refine own_step (fun t k => XS.astore X60.here hx rfl (hb hby at_232) rfl rfl (l' := #[.val (.int p1), .val (.int p2), .val (.int (3 : Int32)), .val (.ref b1), .val (.ref w_LESS_OR_EQUAL), .val (.int r), .val (.ref b6), .val (.ref w_LESS_OR_EQUAL)]) rfl k) ?_
    show own_Goes _ _ _ _ T60 (mkF m 234 #[.val (.int p1), .val (.int p2), .val (.int (3 : Int32)), .val (.ref b1), .val (.ref w_LESS_OR_EQUAL), .val (.int r), .val (.ref b6), .val (.ref w_LESS_OR_EQUAL)] [])
    refine own_step (fun t k => XS.aload X60.here hx rfl (hb hby at_234) rfl rfl k) ?_
    show own_Goes _ _ _ _ T60 (mkF m 236 #[.val (.int p1), .val (.int p2), .val (.int (3 : Int32)), .val (.ref b1), .val (.ref w_LESS_OR_EQUAL), .val (.int r), .val (.ref b6), .val (.ref w_LESS_OR_EQUAL)] [(.ref w_LESS_OR_EQUAL)])
    refine own_step (fun t k => XS.aload X60.here hx rfl (hb hby at_236) rfl rfl k) ?_
    show own_Goes _ _ _ _ T60 (mkF m 238 #[.val (.int p1), .val (.int p2), .val (.int (3 : Int32)), .val (.ref b1), .val (.ref w_LESS_OR_EQUAL), .val (.int r), .val (.ref b6), .val (.ref w_LESS_OR_EQUAL)] [(.ref w_LESS_OR_EQUAL), (.ref w_LESS_OR_EQUAL)])
    refine own_step (fun t k => Jvm.RoadKit.acmp (g := (mkF m 238 #[.val (.int p1), .val (.int p2), .val (.int (3 : Int32)), .val (.ref b1), .val (.ref w_LESS_OR_EQUAL), .val (.int r), .val (.ref b6), .val (.ref w_LESS_OR_EQUAL)] [(.ref w_LESS_OR_EQUAL), (.ref w_LESS_OR_EQUAL)])) X60 hx rfl rfl rfl (pc0 := 238) (pc' := 241) (same := true) rfl (hb hby at_238) rfl (decide_eq_true rfl) (by decide) (by decide) k) ?_
    show own_Goes _ _ _ _ T60 (mkF m 241 #[.val (.int p1), .val (.int p2), .val (.int (3 : Int32)), .val (.ref b1), .val (.ref w_LESS_OR_EQUAL), .val (.int r), .val (.ref b6), .val (.ref w_LESS_OR_EQUAL)] [])
    refine own_step (fun t k => XS.aload X60.here hx rfl (hb hby at_241) rfl rfl k) ?_
    show own_Goes _ _ _ _ T60 (mkF m 243 #[.val (.int p1), .val (.int p2), .val (.int (3 : Int32)), .val (.ref b1), .val (.ref w_LESS_OR_EQUAL), .val (.int r), .val (.ref b6), .val (.ref w_LESS_OR_EQUAL)] [(.ref w_LESS_OR_EQUAL)])
    have F_w_LESS_OR_EQUAL_symbol_v63 := (F_w_LESS_OR_EQUAL_symbol_v55.keep Kq60 nin0)
    have E_w_LESS_OR_EQUAL_v65 := (E_w_LESS_OR_EQUAL_v61.keep Kq60)
    refine own_callV X60 hx hZ (y := (⟨"com/example/polyphony/polyphony/policy/Operator", "symbol", "()Ljava/lang/String;"⟩ : MethodName)) (z := (⟨"com/example/polyphony/polyphony/policy/Operator", "symbol", "()Ljava/lang/String;"⟩ : MethodName)) hown (hw _ (List.mem_of_getElem? (i := 69) rfl)) (hw _ (List.mem_of_getElem? (i := 70) rfl)) (notFace_of_selects (args := #[]) (mvT hZ (hw _ (List.mem_of_getElem? (i := 72) rfl)))) (hw _ (List.mem_of_getElem? (i := 72) rfl)) (hw _ (List.mem_of_getElem? (i := 71) rfl)) (hw _ (List.mem_of_getElem? (i := 73) rfl)) (hw _ (List.mem_of_getElem? (i := 3) rfl)) (by decide) 0 E_w_LESS_OR_EQUAL_v65 [] [] (own_symbol l Z a0 hw [] w_LESS_OR_EQUAL y_LESS_OR_EQUAL T60.heap n0 (Nat.le_trans Z0 K60.1) F_w_LESS_OR_EQUAL_symbol_v63) rfl (by decide) (by decide) (by decide) (by decide) (g := (mkF m 243 #[.val (.int p1), .val (.int p2), .val (.int (3 : Int32)), .val (.ref b1), .val (.ref w_LESS_OR_EQUAL), .val (.int r), .val (.ref b6), .val (.ref w_LESS_OR_EQUAL)] [(.ref w_LESS_OR_EQUAL)])) rfl (by rw [hml]; rfl) own_pd9 rfl rfl (by show 2 * 0 + _ ≤ _; exact Nat.le_of_eq rfl) (hb hby at_243) ?_
    intro T64 v64 L64 X64 hQ64
    obtain ⟨rfl, N64q, e64⟩ := hQ64
    have N64 := Fr.app N60 N64q
    show own_Goes _ _ _ _ T64 (mkF m 246 #[.val (.int p1), .val (.int p2), .val (.int (3 : Int32)), .val (.ref b1), .val (.ref w_LESS_OR_EQUAL), .val (.int r), .val (.ref b6), .val (.ref w_LESS_OR_EQUAL)] [(.ref y_LESS_OR_EQUAL)])
    refine own_step (fun t k => XS.aload X64.here hx rfl (hb hby at_246) rfl rfl k) ?_
    show own_Goes _ _ _ _ T64 (mkF m 248 #[.val (.int p1), .val (.int p2), .val (.int (3 : Int32)), .val (.ref b1), .val (.ref w_LESS_OR_EQUAL), .val (.int r), .val (.ref b6), .val (.ref w_LESS_OR_EQUAL)] [(.ref b6), (.ref y_LESS_OR_EQUAL)])
    have q22_0'_v66 := (q22_0'.keep Kq60)
    have F_y_LESS_OR_EQUAL_coder_v67 := (F_y_LESS_OR_EQUAL_coder_v57.keep Kq60 nin0)
    have q22_1'_v68 := (q22_1'.keep Kq60 nin0)
    have F_y_LESS_OR_EQUAL_value_v69 := (F_y_LESS_OR_EQUAL_value_v58.keep Kq60 nin0)
    have q22_2'_v70 := (q22_2'.keep Kq60 nin0)
    have V_z_LESS_OR_EQUAL_v71 := (V_z_LESS_OR_EQUAL_v59.keep Kq60 nin0)
    have q22_3'_v72 := (q22_3'.keep Kq60 nin0)
    have S_COMPACT_STRINGS_v73 := (own_staKeep S_COMPACT_STRINGS_v36 Kq60 all0)
    have E_y_LESS_OR_EQUAL_v75 := (E_y_LESS_OR_EQUAL_v56.keep Kq60)
    refine own_callV X64 hx hZ (y := (⟨"java/lang/String", "equals", "(Ljava/lang/Object;)Z"⟩ : MethodName)) (z := (⟨"java/lang/String", "equals", "(Ljava/lang/Object;)Z"⟩ : MethodName)) hown (hw _ (List.mem_of_getElem? (i := 74) rfl)) (hw _ (List.mem_of_getElem? (i := 60) rfl)) (notFace_of_selects (args := #[]) (mvT hZ (hw _ (List.mem_of_getElem? (i := 62) rfl)))) (hw _ (List.mem_of_getElem? (i := 62) rfl)) (hw _ (List.mem_of_getElem? (i := 61) rfl)) (hw _ (List.mem_of_getElem? (i := 63) rfl)) (hw _ (List.mem_of_getElem? (i := 7) rfl)) (by decide) 0 E_y_LESS_OR_EQUAL_v75 [(.ref b6)] [] (own_seq_22eq l Z a0 hw [] y_LESS_OR_EQUAL b6 z_LESS_OR_EQUAL b22_0 k_LESS_OR_EQUAL k22_0 (60 : Int32) (61 : Int32) (60 : Int32) (61 : Int32) zc T60.heap n0 (Nat.le_trans Z0 K60.1) q22_0'_v66 F_y_LESS_OR_EQUAL_coder_v67 q22_1'_v68 F_y_LESS_OR_EQUAL_value_v69 q22_2'_v70 V_z_LESS_OR_EQUAL_v71 q22_3'_v72 S_COMPACT_STRINGS_v73 (by decide) (by decide) hz ne_y_LESS_OR_EQUAL_b6) e64 (by decide) (by decide) (by decide) (by decide) (g := (mkF m 248 #[.val (.int p1), .val (.int p2), .val (.int (3 : Int32)), .val (.ref b1), .val (.ref w_LESS_OR_EQUAL), .val (.int r), .val (.ref b6), .val (.ref w_LESS_OR_EQUAL)] [(.ref b6), (.ref y_LESS_OR_EQUAL)])) rfl (by rw [hml]; rfl) own_pd2 rfl rfl (by show 2 * 0 + _ ≤ _; exact Nat.le_of_eq rfl) (hb hby at_248) ?_
    intro T74 v74 L74 X74 hQ74
    obtain ⟨rfl, N74q, e74⟩ := hQ74
    have N74 := Fr.app N64 N74q
    show own_Goes _ _ _ _ T74 (mkF m 251 #[.val (.int p1), .val (.int p2), .val (.int (3 : Int32)), .val (.ref b1), .val (.ref w_LESS_OR_EQUAL), .val (.int r), .val (.ref b6), .val (.ref w_LESS_OR_EQUAL)] [(.int (1 : Int32))])
    refine own_step (fun t k => XS.ifNo X74.here hx rfl (hb hby at_251) rfl ((if0 _ _).trans (feq (show ¬ ((1 : Int32) = (0 : Int32)) from (by decide))).1) k) ?_
    show own_Goes _ _ _ _ T74 (mkF m 254 #[.val (.int p1), .val (.int p2), .val (.int (3 : Int32)), .val (.ref b1), .val (.ref w_LESS_OR_EQUAL), .val (.int r), .val (.ref b6), .val (.ref w_LESS_OR_EQUAL)] [])
    refine own_step (fun t k => XS.aload X74.here hx rfl (hb hby at_254) rfl rfl k) ?_
    show own_Goes _ _ _ _ T74 (mkF m 256 #[.val (.int p1), .val (.int p2), .val (.int (3 : Int32)), .val (.ref b1), .val (.ref w_LESS_OR_EQUAL), .val (.int r), .val (.ref b6), .val (.ref w_LESS_OR_EQUAL)] [(.ref w_LESS_OR_EQUAL)])
    refine own_step (fun t k => XS.iloadN X74.here hx rfl (hb hby at_256) rfl k) ?_
    show own_Goes _ _ _ _ T74 (mkF m 257 #[.val (.int p1), .val (.int p2), .val (.int (3 : Int32)), .val (.ref b1), .val (.ref w_LESS_OR_EQUAL), .val (.int r), .val (.ref b6), .val (.ref w_LESS_OR_EQUAL)] [(.int p2), (.ref w_LESS_OR_EQUAL)])
    have F_w_LESS_OR_EQUAL_whenBefore_v76 := ((((((F_w_LESS_OR_EQUAL_whenBefore.ext E1).other W2 (Or.inl ne_w_LESS_OR_EQUAL_b1)).other W3 (Or.inl ne_w_LESS_OR_EQUAL_b1)).ext E6).keep Kq22 (ninS ne_w_LESS_OR_EQUAL_b6 nin0)).keep Kq60 nin0)
    have F_w_LESS_OR_EQUAL_whenEqual_v77 := ((((((F_w_LESS_OR_EQUAL_whenEqual.ext E1).other W2 (Or.inl ne_w_LESS_OR_EQUAL_b1)).other W3 (Or.inl ne_w_LESS_OR_EQUAL_b1)).ext E6).keep Kq22 (ninS ne_w_LESS_OR_EQUAL_b6 nin0)).keep Kq60 nin0)
    have F_w_LESS_OR_EQUAL_whenAfter_v78 := ((((((F_w_LESS_OR_EQUAL_whenAfter.ext E1).other W2 (Or.inl ne_w_LESS_OR_EQUAL_b1)).other W3 (Or.inl ne_w_LESS_OR_EQUAL_b1)).ext E6).keep Kq22 (ninS ne_w_LESS_OR_EQUAL_b6 nin0)).keep Kq60 nin0)
    refine own_callV X74 hx hZ (y := (⟨"com/example/polyphony/polyphony/policy/Operator", "holds", "(I)Z"⟩ : MethodName)) (z := (⟨"com/example/polyphony/polyphony/policy/Operator", "holds", "(I)Z"⟩ : MethodName)) hown (hw _ (List.mem_of_getElem? (i := 75) rfl)) (hw _ (List.mem_of_getElem? (i := 76) rfl)) (notFace_of_selects (args := #[]) (mvT hZ (hw _ (List.mem_of_getElem? (i := 78) rfl)))) (hw _ (List.mem_of_getElem? (i := 78) rfl)) (hw _ (List.mem_of_getElem? (i := 77) rfl)) (hw _ (List.mem_of_getElem? (i := 79) rfl)) (hw _ (List.mem_of_getElem? (i := 3) rfl)) (by decide) 0 E_w_LESS_OR_EQUAL_v65 [(.int p2)] [] (own_holds_LESS_OR_EQUAL l Z a0 hw [] w_LESS_OR_EQUAL p2 r T60.heap n0 (Nat.le_trans Z0 K60.1) F_w_LESS_OR_EQUAL_whenBefore_v76 F_w_LESS_OR_EQUAL_whenEqual_v77 F_w_LESS_OR_EQUAL_whenAfter_v78 hrn hrz hrp) e74 (by decide) (by decide) (by decide) (by decide) (g := (mkF m 257 #[.val (.int p1), .val (.int p2), .val (.int (3 : Int32)), .val (.ref b1), .val (.ref w_LESS_OR_EQUAL), .val (.int r), .val (.ref b6), .val (.ref w_LESS_OR_EQUAL)] [(.int p2), (.ref w_LESS_OR_EQUAL)])) rfl (by rw [hml]; rfl) own_pd10 rfl rfl (by show 2 * 0 + _ ≤ _; exact Nat.le_of_eq rfl) (hb hby at_257) ?_
    intro T79 v79 L79 X79 hQ79
    obtain ⟨rfl, N79q, e79⟩ := hQ79
    have N79 := Fr.app N74 N79q
    show own_Goes _ _ _ _ T79 (mkF m 260 #[.val (.int p1), .val (.int p2), .val (.int (3 : Int32)), .val (.ref b1), .val (.ref w_LESS_OR_EQUAL), .val (.int r), .val (.ref b6), .val (.ref w_LESS_OR_EQUAL)] [(.int r)])
    refine own_step (fun t k => XS.iload X79.here hx rfl (hb hby at_260) rfl k) ?_
    show own_Goes _ _ _ _ T79 (mkF m 262 #[.val (.int p1), .val (.int p2), .val (.int (3 : Int32)), .val (.ref b1), .val (.ref w_LESS_OR_EQUAL), .val (.int r), .val (.ref b6), .val (.ref w_LESS_OR_EQUAL)] [(.int r), (.int r)])
    refine own_step (fun t k => XS.icmpNo X79.here hx rfl (hb hby at_262) rfl (teq (show r = r from rfl)).2 k) ?_
    show own_Goes _ _ _ _ T79 (mkF m 265 #[.val (.int p1), .val (.int p2), .val (.int (3 : Int32)), .val (.ref b1), .val (.ref w_LESS_OR_EQUAL), .val (.int r), .val (.ref b6), .val (.ref w_LESS_OR_EQUAL)] [])
    refine own_step (fun t k => XS.iconst X79.here hx rfl (hb hby at_265) k) ?_
    show own_Goes _ _ _ _ T79 (mkF m 266 #[.val (.int p1), .val (.int p2), .val (.int (3 : Int32)), .val (.ref b1), .val (.ref w_LESS_OR_EQUAL), .val (.int r), .val (.ref b6), .val (.ref w_LESS_OR_EQUAL)] [(.int (1 : Int32))])
    refine own_step (fun t k => XS.goto X79.here hx rfl (pc0 := 266) (pc' := 270) rfl (hb hby at_266) (by decide) (by decide) k) ?_
    show own_Goes _ _ _ _ T79 (mkF m 270 #[.val (.int p1), .val (.int p2), .val (.int (3 : Int32)), .val (.ref b1), .val (.ref w_LESS_OR_EQUAL), .val (.int r), .val (.ref b6), .val (.ref w_LESS_OR_EQUAL)] [(.int (1 : Int32))])
    exact own_retN X79 hx hlk (t := .boolean) hrt (by simp) (hb hby at_270) ⟨rfl, N79⟩ (by decide) (by decide)
  by_cases hc141_80 : (0 : Int32) < p2
  · refine own_step (fun t k => XS.ifYes X4.here hx rfl (pc0 := 141) (pc' := 148) rfl (hb hby at_141) rfl ((if0 _ _).trans (tlt (show (0 : Int32) < p2 from hc141_80)).2.2.1) (by decide) (by decide) k) ?_
    show own_Goes _ _ _ _ T4 (mkF m 148 #[.val (.int p1), .val (.int p2), .val (.int (3 : Int32)), .val (.ref b1), .val (.ref w_LESS_OR_EQUAL), .unset, .unset, .unset] [])
    refine own_step (fun t k => XS.iconst X4.here hx rfl (hb hby at_148) k) ?_
    show own_Goes _ _ _ _ T4 (mkF m 149 #[.val (.int p1), .val (.int p2), .val (.int (3 : Int32)), .val (.ref b1), .val (.ref w_LESS_OR_EQUAL), .unset, .unset, .unset] [(.int (0 : Int32))])
    refine own_step (fun t k => XS.istore X4.here hx rfl (hb hby at_149) rfl (l' := #[.val (.int p1), .val (.int p2), .val (.int (3 : Int32)), .val (.ref b1), .val (.ref w_LESS_OR_EQUAL), .val (.int (0 : Int32)), .unset, .unset]) rfl k) ?_
    show own_Goes _ _ _ _ T4 (mkF m 151 #[.val (.int p1), .val (.int p2), .val (.int (3 : Int32)), .val (.ref b1), .val (.ref w_LESS_OR_EQUAL), .val (.int (0 : Int32)), .unset, .unset] [])
    refine own_step (fun t k => XS.goto X4.here hx rfl (pc0 := 151) (pc' := 217) rfl (hb hby at_151) (by decide) (by decide) k) ?_
    show own_Goes _ _ _ _ T4 (mkF m 217 #[.val (.int p1), .val (.int p2), .val (.int (3 : Int32)), .val (.ref b1), .val (.ref w_LESS_OR_EQUAL), .val (.int (0 : Int32)), .unset, .unset] [])
    obtain rfl : r = (0 : Int32) := ht hc141_80
    exact tail
  · refine own_step (fun t k => XS.ifNo X4.here hx rfl (hb hby at_141) rfl ((if0 _ _).trans (flt (show ¬ ((0 : Int32) < p2) from hc141_80)).2.2.1) k) ?_
    show own_Goes _ _ _ _ T4 (mkF m 144 #[.val (.int p1), .val (.int p2), .val (.int (3 : Int32)), .val (.ref b1), .val (.ref w_LESS_OR_EQUAL), .unset, .unset, .unset] [])
    refine own_step (fun t k => XS.iconst X4.here hx rfl (hb hby at_144) k) ?_
    show own_Goes _ _ _ _ T4 (mkF m 145 #[.val (.int p1), .val (.int p2), .val (.int (3 : Int32)), .val (.ref b1), .val (.ref w_LESS_OR_EQUAL), .unset, .unset, .unset] [(.int (1 : Int32))])
    refine own_step (fun t k => XS.goto X4.here hx rfl (pc0 := 145) (pc' := 149) rfl (hb hby at_145) (by decide) (by decide) k) ?_
    show own_Goes _ _ _ _ T4 (mkF m 149 #[.val (.int p1), .val (.int p2), .val (.int (3 : Int32)), .val (.ref b1), .val (.ref w_LESS_OR_EQUAL), .unset, .unset, .unset] [(.int (1 : Int32))])
    refine own_step (fun t k => XS.istore X4.here hx rfl (hb hby at_149) rfl (l' := #[.val (.int p1), .val (.int p2), .val (.int (3 : Int32)), .val (.ref b1), .val (.ref w_LESS_OR_EQUAL), .val (.int (1 : Int32)), .unset, .unset]) rfl k) ?_
    show own_Goes _ _ _ _ T4 (mkF m 151 #[.val (.int p1), .val (.int p2), .val (.int (3 : Int32)), .val (.ref b1), .val (.ref w_LESS_OR_EQUAL), .val (.int (1 : Int32)), .unset, .unset] [])
    refine own_step (fun t k => XS.goto X4.here hx rfl (pc0 := 151) (pc' := 217) rfl (hb hby at_151) (by decide) (by decide) k) ?_
    show own_Goes _ _ _ _ T4 (mkF m 217 #[.val (.int p1), .val (.int p2), .val (.int (3 : Int32)), .val (.ref b1), .val (.ref w_LESS_OR_EQUAL), .val (.int (1 : Int32)), .unset, .unset] [])
    obtain rfl : r = (1 : Int32) := hf hc141_80
    exact tail
set_option maxRecDepth 65536 in
set_option maxHeartbeats 40000000 in
theorem own_law4 (l : Launch) (Z : State) (a0 : Array Value) (hw : ∀ d ∈ tables_1, d.before a0 Z = true) (ws : List Jvm.Cond) (p1 : Int32) (p2 : Int32) (r : Int32) (zc : Int32) (w_V : Addr) (clv : Cell) (w_EQUAL : Addr) (w_NOT_EQUAL : Addr) (w_LESS : Addr) (w_LESS_OR_EQUAL : Addr) (w_GREATER : Addr) (w_GREATER_OR_EQUAL : Addr) (y_EQUAL : Addr) (z_EQUAL : Addr) (k_EQUAL : ClassId) (y_NOT_EQUAL : Addr) (z_NOT_EQUAL : Addr) (k_NOT_EQUAL : ClassId) (y_LESS : Addr) (z_LESS : Addr) (k_LESS : ClassId) (y_LESS_OR_EQUAL : Addr) (z_LESS_OR_EQUAL : Addr) (k_LESS_OR_EQUAL : ClassId) (y_GREATER : Addr) (z_GREATER : Addr) (k_GREATER : ClassId) (h0 : Heap) (n0 : Nat) (Z0 : n0 ≤ h0.size) (S_GREATER : Sta Z h0 "com/example/polyphony/polyphony/policy/Operator" "GREATER" "Lcom/example/polyphony/polyphony/policy/Operator;" (.ref w_GREATER)) (E_w_GREATER : Exa Z h0 w_GREATER "com/example/polyphony/polyphony/policy/Operator") (S_COMPACT_STRINGS : Sta Z h0 "java/lang/String" "COMPACT_STRINGS" "Z" (.int zc)) (S__VALUES : Sta Z h0 "com/example/polyphony/polyphony/policy/Operator" "$VALUES" "[Lcom/example/polyphony/polyphony/policy/Operator;" (.ref w_V)) (R_w_V : Arr Z h0 w_V clv (.object "com/example/polyphony/polyphony/policy/Operator")) (E_w_V : Exa Z h0 w_V "[Lcom/example/polyphony/polyphony/policy/Operator;") (F_w_EQUAL_symbol : Fld Z h0 w_EQUAL "com/example/polyphony/polyphony/policy/Operator" "symbol" "Ljava/lang/String;" (.ref y_EQUAL)) (E_y_EQUAL : Exa Z h0 y_EQUAL "java/lang/String") (F_y_EQUAL_coder : Fld Z h0 y_EQUAL "java/lang/String" "coder" "B" (.int (0 : Int32))) (F_y_EQUAL_value : Fld Z h0 y_EQUAL "java/lang/String" "value" "[B" (.ref z_EQUAL)) (V_z_EQUAL : Arv Z h0 z_EQUAL k_EQUAL .byte (2 : Int32) [(.int (61 : Int32)), (.int (61 : Int32))] (.int (0 : Int32))) (F_w_NOT_EQUAL_symbol : Fld Z h0 w_NOT_EQUAL "com/example/polyphony/polyphony/policy/Operator" "symbol" "Ljava/lang/String;" (.ref y_NOT_EQUAL)) (E_y_NOT_EQUAL : Exa Z h0 y_NOT_EQUAL "java/lang/String") (F_y_NOT_EQUAL_coder : Fld Z h0 y_NOT_EQUAL "java/lang/String" "coder" "B" (.int (0 : Int32))) (F_y_NOT_EQUAL_value : Fld Z h0 y_NOT_EQUAL "java/lang/String" "value" "[B" (.ref z_NOT_EQUAL)) (V_z_NOT_EQUAL : Arv Z h0 z_NOT_EQUAL k_NOT_EQUAL .byte (2 : Int32) [(.int (33 : Int32)), (.int (61 : Int32))] (.int (0 : Int32))) (F_w_LESS_symbol : Fld Z h0 w_LESS "com/example/polyphony/polyphony/policy/Operator" "symbol" "Ljava/lang/String;" (.ref y_LESS)) (E_y_LESS : Exa Z h0 y_LESS "java/lang/String") (F_y_LESS_coder : Fld Z h0 y_LESS "java/lang/String" "coder" "B" (.int (0 : Int32))) (F_y_LESS_value : Fld Z h0 y_LESS "java/lang/String" "value" "[B" (.ref z_LESS)) (V_z_LESS : Arv Z h0 z_LESS k_LESS .byte (1 : Int32) [(.int (60 : Int32))] (.int (0 : Int32))) (F_w_LESS_OR_EQUAL_symbol : Fld Z h0 w_LESS_OR_EQUAL "com/example/polyphony/polyphony/policy/Operator" "symbol" "Ljava/lang/String;" (.ref y_LESS_OR_EQUAL)) (E_y_LESS_OR_EQUAL : Exa Z h0 y_LESS_OR_EQUAL "java/lang/String") (F_y_LESS_OR_EQUAL_coder : Fld Z h0 y_LESS_OR_EQUAL "java/lang/String" "coder" "B" (.int (0 : Int32))) (F_y_LESS_OR_EQUAL_value : Fld Z h0 y_LESS_OR_EQUAL "java/lang/String" "value" "[B" (.ref z_LESS_OR_EQUAL)) (V_z_LESS_OR_EQUAL : Arv Z h0 z_LESS_OR_EQUAL k_LESS_OR_EQUAL .byte (2 : Int32) [(.int (60 : Int32)), (.int (61 : Int32))] (.int (0 : Int32))) (F_w_GREATER_symbol : Fld Z h0 w_GREATER "com/example/polyphony/polyphony/policy/Operator" "symbol" "Ljava/lang/String;" (.ref y_GREATER)) (E_y_GREATER : Exa Z h0 y_GREATER "java/lang/String") (F_y_GREATER_coder : Fld Z h0 y_GREATER "java/lang/String" "coder" "B" (.int (0 : Int32))) (F_y_GREATER_value : Fld Z h0 y_GREATER "java/lang/String" "value" "[B" (.ref z_GREATER)) (V_z_GREATER : Arv Z h0 z_GREATER k_GREATER .byte (1 : Int32) [(.int (62 : Int32))] (.int (0 : Int32))) (F_w_GREATER_whenBefore : Fld Z h0 w_GREATER "com/example/polyphony/polyphony/policy/Operator" "whenBefore" "Z" (.int (0 : Int32))) (F_w_GREATER_whenEqual : Fld Z h0 w_GREATER "com/example/polyphony/polyphony/policy/Operator" "whenEqual" "Z" (.int (0 : Int32))) (F_w_GREATER_whenAfter : Fld Z h0 w_GREATER "com/example/polyphony/polyphony/policy/Operator" "whenAfter" "Z" (.int (1 : Int32))) (F_v : FitC Z clv) (S_v : clv.slots.size = (6 : Int32).toNatClampNeg) (H_v : Has clv [(.ref w_EQUAL), (.ref w_NOT_EQUAL), (.ref w_LESS), (.ref w_LESS_OR_EQUAL), (.ref w_GREATER), (.ref w_GREATER_OR_EQUAL)] .null) (G_v : ∀ i, i < clv.slots.size → fits (.object "com/example/polyphony/polyphony/policy/Operator") ([(.ref w_EQUAL), (.ref w_NOT_EQUAL), (.ref w_LESS), (.ref w_LESS_OR_EQUAL), (.ref w_GREATER), (.ref w_GREATER_OR_EQUAL)].getD i .null) = true) (hz : ¬ (zc = (0 : Int32))) (hi : ((p1 &&& (2147483647 : Int32)) - ((p1 &&& (2147483647 : Int32)) / (6 : Int32)) * (6 : Int32)) = (4 : Int32)) (hrn : p2 < (0 : Int32) → r = (0 : Int32)) (hrz : ¬ (p2 < (0 : Int32)) → p2 = (0 : Int32) → r = (0 : Int32)) (hrp : ¬ (p2 < (0 : Int32)) → ¬ (p2 = (0 : Int32)) → r = (1 : Int32)) (ht : (0 : Int32) < p2 → r = (1 : Int32)) (hf : ¬ ((0 : Int32) < p2) → r = (0 : Int32)) :
    own_Met l Z x code maxLocals ret ws room_1 #[(.int p1), (.int p2)] h0 (fun v h L => v = some (.int 1) ∧ Fr n0 L) := by
  refine own_body (plainFor_of_name own_pn_com_example_polyphony_polyphony_policy_OperatorOfPinLaw) (fun p e s m below meth c s₁ hx hby hml0 hrt hlk hown0 hnm hZ X0 e0 => ?_)
  have N0 := Fr.nil n0
  have hown : s.vm.findClass "com/example/polyphony/polyphony/policy/OperatorOfPinLaw" = some m.cls := hown0
  have hml : c.maxLocals = 8 := hml0
  refine own_castG (own_ef11 m p1 p2) ?_
  show own_Goes _ _ _ _ s₁ (mkF m 0 #[.val (.int p1), .val (.int p2), .unset, .unset, .unset, .unset, .unset, .unset] [])
  refine own_step (fun t k => XS.iloadN X0.here hx rfl (hb hby at_0) rfl k) ?_
  show own_Goes _ _ _ _ s₁ (mkF m 1 #[.val (.int p1), .val (.int p2), .unset, .unset, .unset, .unset, .unset, .unset] [(.int p1)])
  refine own_step (X0.ldcInt hx hown (mvT hZ (hw _ (List.mem_of_getElem? (i := 0) rfl))) (g := (mkF m 1 #[.val (.int p1), .val (.int p2), .unset, .unset, .unset, .unset, .unset, .unset] [(.int p1)])) rfl (hb hby at_1)) ?_
  show own_Goes _ _ _ _ s₁ (mkF m 3 #[.val (.int p1), .val (.int p2), .unset, .unset, .unset, .unset, .unset, .unset] [(.int (2147483647 : Int32)), (.int p1)])
  refine own_step (fun t k => XS.iand X0.here hx rfl (hb hby at_3) rfl k) ?_
  show own_Goes _ _ _ _ s₁ (mkF m 4 #[.val (.int p1), .val (.int p2), .unset, .unset, .unset, .unset, .unset, .unset] [(.int (p1 &&& (2147483647 : Int32)))])
  refine own_step (fun t k => XS.bipush X0.here hx rfl (hb hby at_4) k) ?_
  show own_Goes _ _ _ _ s₁ (mkF m 6 #[.val (.int p1), .val (.int p2), .unset, .unset, .unset, .unset, .unset, .unset] [(.int (6 : Int32)), (.int (p1 &&& (2147483647 : Int32)))])
  refine own_step (fun t k => XS.irem X0.here hx rfl (hb hby at_6) rfl (by decide) k) ?_
  show own_Goes _ _ _ _ s₁ (mkF m 7 #[.val (.int p1), .val (.int p2), .unset, .unset, .unset, .unset, .unset, .unset] [(.int ((p1 &&& (2147483647 : Int32)) - ((p1 &&& (2147483647 : Int32)) / (6 : Int32)) * (6 : Int32)))])
  rw [hi]
  show own_Goes _ _ _ _ s₁ (mkF m 7 #[.val (.int p1), .val (.int p2), .unset, .unset, .unset, .unset, .unset, .unset] [(.int (4 : Int32))])
  refine own_step (fun t k => XS.istoreN X0.here hx rfl (hb hby at_7) rfl (l' := #[.val (.int p1), .val (.int p2), .val (.int (4 : Int32)), .unset, .unset, .unset, .unset, .unset]) rfl k) ?_
  show own_Goes _ _ _ _ s₁ (mkF m 8 #[.val (.int p1), .val (.int p2), .val (.int (4 : Int32)), .unset, .unset, .unset, .unset, .unset] [])
  refine own_step (fun t k => XS.iloadN X0.here hx rfl (hb hby at_8) rfl k) ?_
  show own_Goes _ _ _ _ s₁ (mkF m 9 #[.val (.int p1), .val (.int p2), .val (.int (4 : Int32)), .unset, .unset, .unset, .unset, .unset] [(.int (4 : Int32))])
  refine own_step (fun t k => XS.ifYes X0.here hx rfl (pc0 := 9) (pc' := 45) rfl (hb hby at_9) rfl ((if0 _ _).trans (feq (show ¬ ((4 : Int32) = (0 : Int32)) from (by decide))).2) (by decide) (by decide) k) ?_
  show own_Goes _ _ _ _ s₁ (mkF m 45 #[.val (.int p1), .val (.int p2), .val (.int (4 : Int32)), .unset, .unset, .unset, .unset, .unset] [])
  refine own_step (fun t k => XS.iloadN X0.here hx rfl (hb hby at_45) rfl k) ?_
  show own_Goes _ _ _ _ s₁ (mkF m 46 #[.val (.int p1), .val (.int p2), .val (.int (4 : Int32)), .unset, .unset, .unset, .unset, .unset] [(.int (4 : Int32))])
  refine own_step (fun t k => XS.iconst X0.here hx rfl (hb hby at_46) k) ?_
  show own_Goes _ _ _ _ s₁ (mkF m 47 #[.val (.int p1), .val (.int p2), .val (.int (4 : Int32)), .unset, .unset, .unset, .unset, .unset] [(.int (1 : Int32)), (.int (4 : Int32))])
  refine own_step (fun t k => XS.icmpYes X0.here hx rfl (pc0 := 47) (pc' := 83) rfl (hb hby at_47) rfl (feq (show ¬ ((4 : Int32) = (1 : Int32)) from (by decide))).2 (by decide) (by decide) k) ?_
  show own_Goes _ _ _ _ s₁ (mkF m 83 #[.val (.int p1), .val (.int p2), .val (.int (4 : Int32)), .unset, .unset, .unset, .unset, .unset] [])
  refine own_step (fun t k => XS.iloadN X0.here hx rfl (hb hby at_83) rfl k) ?_
  show own_Goes _ _ _ _ s₁ (mkF m 84 #[.val (.int p1), .val (.int p2), .val (.int (4 : Int32)), .unset, .unset, .unset, .unset, .unset] [(.int (4 : Int32))])
  refine own_step (fun t k => XS.iconst X0.here hx rfl (hb hby at_84) k) ?_
  show own_Goes _ _ _ _ s₁ (mkF m 85 #[.val (.int p1), .val (.int p2), .val (.int (4 : Int32)), .unset, .unset, .unset, .unset, .unset] [(.int (2 : Int32)), (.int (4 : Int32))])
  refine own_step (fun t k => XS.icmpYes X0.here hx rfl (pc0 := 85) (pc' := 116) rfl (hb hby at_85) rfl (feq (show ¬ ((4 : Int32) = (2 : Int32)) from (by decide))).2 (by decide) (by decide) k) ?_
  show own_Goes _ _ _ _ s₁ (mkF m 116 #[.val (.int p1), .val (.int p2), .val (.int (4 : Int32)), .unset, .unset, .unset, .unset, .unset] [])
  refine own_step (fun t k => XS.iloadN X0.here hx rfl (hb hby at_116) rfl k) ?_
  show own_Goes _ _ _ _ s₁ (mkF m 117 #[.val (.int p1), .val (.int p2), .val (.int (4 : Int32)), .unset, .unset, .unset, .unset, .unset] [(.int (4 : Int32))])
  refine own_step (fun t k => XS.iconst X0.here hx rfl (hb hby at_117) k) ?_
  show own_Goes _ _ _ _ s₁ (mkF m 118 #[.val (.int p1), .val (.int p2), .val (.int (4 : Int32)), .unset, .unset, .unset, .unset, .unset] [(.int (3 : Int32)), (.int (4 : Int32))])
  refine own_step (fun t k => XS.icmpYes X0.here hx rfl (pc0 := 118) (pc' := 154) rfl (hb hby at_118) rfl (feq (show ¬ ((4 : Int32) = (3 : Int32)) from (by decide))).2 (by decide) (by decide) k) ?_
  show own_Goes _ _ _ _ s₁ (mkF m 154 #[.val (.int p1), .val (.int p2), .val (.int (4 : Int32)), .unset, .unset, .unset, .unset, .unset] [])
  refine own_step (fun t k => XS.iloadN X0.here hx rfl (hb hby at_154) rfl k) ?_
  show own_Goes _ _ _ _ s₁ (mkF m 155 #[.val (.int p1), .val (.int p2), .val (.int (4 : Int32)), .unset, .unset, .unset, .unset, .unset] [(.int (4 : Int32))])
  refine own_step (fun t k => XS.iconst X0.here hx rfl (hb hby at_155) k) ?_
  show own_Goes _ _ _ _ s₁ (mkF m 156 #[.val (.int p1), .val (.int p2), .val (.int (4 : Int32)), .unset, .unset, .unset, .unset, .unset] [(.int (4 : Int32)), (.int (4 : Int32))])
  refine own_step (fun t k => XS.icmpNo X0.here hx rfl (hb hby at_156) rfl (teq (show (4 : Int32) = (4 : Int32) from (by decide))).2 k) ?_
  show own_Goes _ _ _ _ s₁ (mkF m 159 #[.val (.int p1), .val (.int p2), .val (.int (4 : Int32)), .unset, .unset, .unset, .unset, .unset] [])
  refine own_step (fun t k => XS.iconst X0.here hx rfl (hb hby at_159) k) ?_
  show own_Goes _ _ _ _ s₁ (mkF m 160 #[.val (.int p1), .val (.int p2), .val (.int (4 : Int32)), .unset, .unset, .unset, .unset, .unset] [(.int (1 : Int32))])
  obtain ⟨T1, h1, k1, X1, e1, E1, A1, st1⟩ := newP X0 hx hZ (hw _ (List.mem_of_getElem? (i := 1) rfl)) e0 (g := (mkF m 160 #[.val (.int p1), .val (.int p2), .val (.int (4 : Int32)), .unset, .unset, .unset, .unset, .unset] [(.int (1 : Int32))])) rfl (hb hby at_160) rfl (by decide) (cap := 1) (by decide) (by decide) (by decide) (by decide)
  obtain ⟨b1, g1⟩ : ∃ z, z = h0.size := ⟨_, rfl⟩
  rw [← g1] at A1 st1
  refine own_step st1 ?_
  have g_b1 : n0 ≤ b1 := Nat.le_trans Z0 (Nat.le_of_eq g1.symm)
  have sz_b1 : h0.size ≤ b1 := Nat.le_trans (Keep.refl h0 []).1 (Nat.le_of_eq g1.symm)
  have ne_w_GREATER_b1 : w_GREATER ≠ b1 := Nat.ne_of_lt (Nat.lt_of_lt_of_le E_w_GREATER.lt (Nat.le_of_eq g1.symm))
  have ne_w_V_b1 : w_V ≠ b1 := Nat.ne_of_lt (Nat.lt_of_lt_of_le E_w_V.lt (Nat.le_of_eq g1.symm))
  have ne_w_EQUAL_b1 : w_EQUAL ≠ b1 := Nat.ne_of_lt (Nat.lt_of_lt_of_le F_w_EQUAL_symbol.lt (Nat.le_of_eq g1.symm))
  have ne_y_EQUAL_b1 : y_EQUAL ≠ b1 := Nat.ne_of_lt (Nat.lt_of_lt_of_le E_y_EQUAL.lt (Nat.le_of_eq g1.symm))
  have ne_z_EQUAL_b1 : z_EQUAL ≠ b1 := Nat.ne_of_lt (Nat.lt_of_lt_of_le V_z_EQUAL.lt (Nat.le_of_eq g1.symm))
  have ne_w_NOT_EQUAL_b1 : w_NOT_EQUAL ≠ b1 := Nat.ne_of_lt (Nat.lt_of_lt_of_le F_w_NOT_EQUAL_symbol.lt (Nat.le_of_eq g1.symm))
  have ne_y_NOT_EQUAL_b1 : y_NOT_EQUAL ≠ b1 := Nat.ne_of_lt (Nat.lt_of_lt_of_le E_y_NOT_EQUAL.lt (Nat.le_of_eq g1.symm))
  have ne_z_NOT_EQUAL_b1 : z_NOT_EQUAL ≠ b1 := Nat.ne_of_lt (Nat.lt_of_lt_of_le V_z_NOT_EQUAL.lt (Nat.le_of_eq g1.symm))
  have ne_w_LESS_b1 : w_LESS ≠ b1 := Nat.ne_of_lt (Nat.lt_of_lt_of_le F_w_LESS_symbol.lt (Nat.le_of_eq g1.symm))
  have ne_y_LESS_b1 : y_LESS ≠ b1 := Nat.ne_of_lt (Nat.lt_of_lt_of_le E_y_LESS.lt (Nat.le_of_eq g1.symm))
  have ne_z_LESS_b1 : z_LESS ≠ b1 := Nat.ne_of_lt (Nat.lt_of_lt_of_le V_z_LESS.lt (Nat.le_of_eq g1.symm))
  have ne_w_LESS_OR_EQUAL_b1 : w_LESS_OR_EQUAL ≠ b1 := Nat.ne_of_lt (Nat.lt_of_lt_of_le F_w_LESS_OR_EQUAL_symbol.lt (Nat.le_of_eq g1.symm))
  have ne_y_LESS_OR_EQUAL_b1 : y_LESS_OR_EQUAL ≠ b1 := Nat.ne_of_lt (Nat.lt_of_lt_of_le E_y_LESS_OR_EQUAL.lt (Nat.le_of_eq g1.symm))
  have ne_z_LESS_OR_EQUAL_b1 : z_LESS_OR_EQUAL ≠ b1 := Nat.ne_of_lt (Nat.lt_of_lt_of_le V_z_LESS_OR_EQUAL.lt (Nat.le_of_eq g1.symm))
  have ne_y_GREATER_b1 : y_GREATER ≠ b1 := Nat.ne_of_lt (Nat.lt_of_lt_of_le E_y_GREATER.lt (Nat.le_of_eq g1.symm))
  have ne_z_GREATER_b1 : z_GREATER ≠ b1 := Nat.ne_of_lt (Nat.lt_of_lt_of_le V_z_GREATER.lt (Nat.le_of_eq g1.symm))
  have K1 := (Keep.refl h0 []).ext E1
  have V_b1 : Arv Z h1 b1 k1 .char (1 : Int32) [(.int (0 : Int32))] (.int (0 : Int32)) := (Arv.new A1 (by decide)).pad (pad_rep [] (.int (0 : Int32)) 1)
  show own_Goes _ _ _ _ T1 (mkF m 162 #[.val (.int p1), .val (.int p2), .val (.int (4 : Int32)), .unset, .unset, .unset, .unset, .unset] [(.ref b1)])
  refine own_step (fun t k => XS.dup X1.here hx rfl (hb hby at_162) rfl rfl k) ?_
  show own_Goes _ _ _ _ T1 (mkF m 163 #[.val (.int p1), .val (.int p2), .val (.int (4 : Int32)), .unset, .unset, .unset, .unset, .unset] [(.ref b1), (.ref b1)])
  refine own_step (fun t k => XS.iconst X1.here hx rfl (hb hby at_163) k) ?_
  show own_Goes _ _ _ _ T1 (mkF m 164 #[.val (.int p1), .val (.int p2), .val (.int (4 : Int32)), .unset, .unset, .unset, .unset, .unset] [(.int (0 : Int32)), (.ref b1), (.ref b1)])
  refine own_step (fun t k => XS.bipush X1.here hx rfl (hb hby at_164) k) ?_
  show own_Goes _ _ _ _ T1 (mkF m 166 #[.val (.int p1), .val (.int p2), .val (.int (4 : Int32)), .unset, .unset, .unset, .unset, .unset] [(.int (62 : Int32)), (.int (0 : Int32)), (.ref b1), (.ref b1)])
  obtain ⟨T2, h2, X2, e2, W2, V2, st2⟩ := own_castore X1 hx hZ e1 V_b1 (x := (62 : Int32)) (62 : Int32) rfl (j := (0 : Int32)) ⟨by decide, by decide⟩ 0 rfl (Nat.le_of_ble_eq_true rfl) (g := (mkF m 166 #[.val (.int p1), .val (.int p2), .val (.int (4 : Int32)), .unset, .unset, .unset, .unset, .unset] [(.int (62 : Int32)), (.int (0 : Int32)), (.ref b1), (.ref b1)])) rfl rfl (hb hby at_166)
  refine own_step st2 ?_
  have K2 := K1.wr W2 (Or.inr sz_b1)
  have N2 := Fr.snoc X2 N0 g_b1
  have V2' : Arv Z h2 b1 k1 .char (1 : Int32) [(.int (62 : Int32))] (.int (0 : Int32)) := V2
  show own_Goes _ _ _ _ T2 (mkF m 167 #[.val (.int p1), .val (.int p2), .val (.int (4 : Int32)), .unset, .unset, .unset, .unset, .unset] [(.ref b1)])
  refine own_step (fun t k => XS.astoreN X2.here hx rfl (hb hby at_167) rfl rfl (l' := #[.val (.int p1), .val (.int p2), .val (.int (4 : Int32)), .val (.ref b1), .unset, .unset, .unset, .unset]) rfl k) ?_
  show own_Goes _ _ _ _ T2 (mkF m 168 #[.val (.int p1), .val (.int p2), .val (.int (4 : Int32)), .val (.ref b1), .unset, .unset, .unset, .unset] [])
  have S_GREATER_v4 := ((S_GREATER.ext E1).wr W2)
  obtain ⟨T3, X3, e3, st3⟩ := getS2 X2 hx hZ hown (host := "") (Or.inl (hw _ (List.mem_of_getElem? (i := 85) rfl))) Via.refl e2 S_GREATER_v4 (g := (mkF m 168 #[.val (.int p1), .val (.int p2), .val (.int (4 : Int32)), .val (.ref b1), .unset, .unset, .unset, .unset] [])) rfl (hb hby at_168)
  refine own_step st3 ?_
  show own_Goes _ _ _ _ T3 (mkF m 171 #[.val (.int p1), .val (.int p2), .val (.int (4 : Int32)), .val (.ref b1), .unset, .unset, .unset, .unset] [(.ref w_GREATER)])
  refine own_step (fun t k => XS.astore X3.here hx rfl (hb hby at_171) rfl rfl (l' := #[.val (.int p1), .val (.int p2), .val (.int (4 : Int32)), .val (.ref b1), .val (.ref w_GREATER), .unset, .unset, .unset]) rfl k) ?_
  show own_Goes _ _ _ _ T3 (mkF m 173 #[.val (.int p1), .val (.int p2), .val (.int (4 : Int32)), .val (.ref b1), .val (.ref w_GREATER), .unset, .unset, .unset] [])
  refine own_step (fun t k => XS.iloadN X3.here hx rfl (hb hby at_173) rfl k) ?_
  show own_Goes _ _ _ _ T3 (mkF m 174 #[.val (.int p1), .val (.int p2), .val (.int (4 : Int32)), .val (.ref b1), .val (.ref w_GREATER), .unset, .unset, .unset] [(.int p2)])
  have tail : own_Goes p e below (own_K s (fun v h L => v = some (.int 1) ∧ Fr n0 L) room_1.cells room_1.slots) T3 (mkF m 217 #[.val (.int p1), .val (.int p2), .val (.int (4 : Int32)), .val (.ref b1), .val (.ref w_GREATER), .val (.int r), .unset, .unset] []) := by
    obtain ⟨T5, h5, X5, e5, E5, A5, D5, -, st5⟩ := newO X3 hx hZ hown (hw _ (List.mem_of_getElem? (i := 5) rfl)) (hw _ (List.mem_of_getElem? (i := 6) rfl)) (hw _ (List.mem_of_getElem? (i := 7) rfl)) e3 (g := (mkF m 217 #[.val (.int p1), .val (.int p2), .val (.int (4 : Int32)), .val (.ref b1), .val (.ref w_GREATER), .val (.int r), .unset, .unset] [])) rfl (hb hby at_217) (by decide) (by decide)
    obtain ⟨b5, g5⟩ : ∃ z, z = h2.size := ⟨_, rfl⟩
    rw [← g5] at A5 D5 st5
    refine own_step st5 ?_
    have g_b5 : n0 ≤ b5 := Nat.le_trans (Nat.le_trans Z0 K2.1) (Nat.le_of_eq g5.symm)
    have sz_b5 : h0.size ≤ b5 := Nat.le_trans K2.1 (Nat.le_of_eq g5.symm)
    have E_w_GREATER_v6 := ((E_w_GREATER.ext E1).wr W2)
    have ne_w_GREATER_b5 : w_GREATER ≠ b5 := Nat.ne_of_lt (Nat.lt_of_lt_of_le E_w_GREATER_v6.lt (Nat.le_of_eq g5.symm))
    have E_w_V_v7 := ((E_w_V.ext E1).wr W2)
    have ne_w_V_b5 : w_V ≠ b5 := Nat.ne_of_lt (Nat.lt_of_lt_of_le E_w_V_v7.lt (Nat.le_of_eq g5.symm))
    have F_w_EQUAL_symbol_v8 := ((F_w_EQUAL_symbol.ext E1).other W2 (Or.inl ne_w_EQUAL_b1))
    have ne_w_EQUAL_b5 : w_EQUAL ≠ b5 := Nat.ne_of_lt (Nat.lt_of_lt_of_le F_w_EQUAL_symbol_v8.lt (Nat.le_of_eq g5.symm))
    have E_y_EQUAL_v9 := ((E_y_EQUAL.ext E1).wr W2)
    have ne_y_EQUAL_b5 : y_EQUAL ≠ b5 := Nat.ne_of_lt (Nat.lt_of_lt_of_le E_y_EQUAL_v9.lt (Nat.le_of_eq g5.symm))
    have V_z_EQUAL_v10 := ((V_z_EQUAL.ext E1).other W2 ne_z_EQUAL_b1)
    have ne_z_EQUAL_b5 : z_EQUAL ≠ b5 := Nat.ne_of_lt (Nat.lt_of_lt_of_le V_z_EQUAL_v10.lt (Nat.le_of_eq g5.symm))
    have F_w_NOT_EQUAL_symbol_v11 := ((F_w_NOT_EQUAL_symbol.ext E1).other W2 (Or.inl ne_w_NOT_EQUAL_b1))
    have ne_w_NOT_EQUAL_b5 : w_NOT_EQUAL ≠ b5 := Nat.ne_of_lt (Nat.lt_of_lt_of_le F_w_NOT_EQUAL_symbol_v11.lt (Nat.le_of_eq g5.symm))
    have E_y_NOT_EQUAL_v12 := ((E_y_NOT_EQUAL.ext E1).wr W2)
    have ne_y_NOT_EQUAL_b5 : y_NOT_EQUAL ≠ b5 := Nat.ne_of_lt (Nat.lt_of_lt_of_le E_y_NOT_EQUAL_v12.lt (Nat.le_of_eq g5.symm))
    have V_z_NOT_EQUAL_v13 := ((V_z_NOT_EQUAL.ext E1).other W2 ne_z_NOT_EQUAL_b1)
    have ne_z_NOT_EQUAL_b5 : z_NOT_EQUAL ≠ b5 := Nat.ne_of_lt (Nat.lt_of_lt_of_le V_z_NOT_EQUAL_v13.lt (Nat.le_of_eq g5.symm))
    have F_w_LESS_symbol_v14 := ((F_w_LESS_symbol.ext E1).other W2 (Or.inl ne_w_LESS_b1))
    have ne_w_LESS_b5 : w_LESS ≠ b5 := Nat.ne_of_lt (Nat.lt_of_lt_of_le F_w_LESS_symbol_v14.lt (Nat.le_of_eq g5.symm))
    have E_y_LESS_v15 := ((E_y_LESS.ext E1).wr W2)
    have ne_y_LESS_b5 : y_LESS ≠ b5 := Nat.ne_of_lt (Nat.lt_of_lt_of_le E_y_LESS_v15.lt (Nat.le_of_eq g5.symm))
    have V_z_LESS_v16 := ((V_z_LESS.ext E1).other W2 ne_z_LESS_b1)
    have ne_z_LESS_b5 : z_LESS ≠ b5 := Nat.ne_of_lt (Nat.lt_of_lt_of_le V_z_LESS_v16.lt (Nat.le_of_eq g5.symm))
    have F_w_LESS_OR_EQUAL_symbol_v17 := ((F_w_LESS_OR_EQUAL_symbol.ext E1).other W2 (Or.inl ne_w_LESS_OR_EQUAL_b1))
    have ne_w_LESS_OR_EQUAL_b5 : w_LESS_OR_EQUAL ≠ b5 := Nat.ne_of_lt (Nat.lt_of_lt_of_le F_w_LESS_OR_EQUAL_symbol_v17.lt (Nat.le_of_eq g5.symm))
    have E_y_LESS_OR_EQUAL_v18 := ((E_y_LESS_OR_EQUAL.ext E1).wr W2)
    have ne_y_LESS_OR_EQUAL_b5 : y_LESS_OR_EQUAL ≠ b5 := Nat.ne_of_lt (Nat.lt_of_lt_of_le E_y_LESS_OR_EQUAL_v18.lt (Nat.le_of_eq g5.symm))
    have V_z_LESS_OR_EQUAL_v19 := ((V_z_LESS_OR_EQUAL.ext E1).other W2 ne_z_LESS_OR_EQUAL_b1)
    have ne_z_LESS_OR_EQUAL_b5 : z_LESS_OR_EQUAL ≠ b5 := Nat.ne_of_lt (Nat.lt_of_lt_of_le V_z_LESS_OR_EQUAL_v19.lt (Nat.le_of_eq g5.symm))
    have E_y_GREATER_v20 := ((E_y_GREATER.ext E1).wr W2)
    have ne_y_GREATER_b5 : y_GREATER ≠ b5 := Nat.ne_of_lt (Nat.lt_of_lt_of_le E_y_GREATER_v20.lt (Nat.le_of_eq g5.symm))
    have V_z_GREATER_v21 := ((V_z_GREATER.ext E1).other W2 ne_z_GREATER_b1)
    have ne_z_GREATER_b5 : z_GREATER ≠ b5 := Nat.ne_of_lt (Nat.lt_of_lt_of_le V_z_GREATER_v21.lt (Nat.le_of_eq g5.symm))
    have ne_b1_b5 : b1 ≠ b5 := Nat.ne_of_lt (Nat.lt_of_lt_of_le V2'.lt (Nat.le_of_eq g5.symm))
    have K5 := K2.ext E5
    have F_b5_coder : Fld Z h5 b5 "java/lang/String" "coder" "B" (.int (0 : Int32)) := D5 (Or.inr (hw _ (List.mem_of_getElem? (i := 31) rfl))) (ty := .byte) (by decide)
    have F_b5_value : Fld Z h5 b5 "java/lang/String" "value" "[B" .null := D5 (Or.inr (hw _ (List.mem_of_getElem? (i := 33) rfl))) (ty := (.array .byte)) (by decide)
    show own_Goes _ _ _ _ T5 (mkF m 220 #[.val (.int p1), .val (.int p2), .val (.int (4 : Int32)), .val (.ref b1), .val (.ref w_GREATER), .val (.int r), .unset, .unset] [(.ref b5)])
    refine own_step (fun t k => XS.dup X5.here hx rfl (hb hby at_220) rfl rfl k) ?_
    show own_Goes _ _ _ _ T5 (mkF m 221 #[.val (.int p1), .val (.int p2), .val (.int (4 : Int32)), .val (.ref b1), .val (.ref w_GREATER), .val (.int r), .unset, .unset] [(.ref b5), (.ref b5)])
    refine own_step (fun t k => XS.aloadN X5.here hx rfl (hb hby at_221) rfl rfl k) ?_
    show own_Goes _ _ _ _ T5 (mkF m 222 #[.val (.int p1), .val (.int p2), .val (.int (4 : Int32)), .val (.ref b1), .val (.ref w_GREATER), .val (.int r), .unset, .unset] [(.ref b1), (.ref b5), (.ref b5)])
    have V2'_v22 := (V2'.ext E5)
    have S_COMPACT_STRINGS_v23 := (((S_COMPACT_STRINGS.ext E1).wr W2).ext E5)
    refine own_callC X5 hx hZ (y := (⟨"java/lang/String", "<init>", "([C)V"⟩ : MethodName)) rfl hown (hw _ (List.mem_of_getElem? (i := 8) rfl)) (hw _ (List.mem_of_getElem? (i := 9) rfl)) (hw _ (List.mem_of_getElem? (i := 10) rfl)) (hw _ (List.mem_of_getElem? (i := 7) rfl)) (by decide) 1 (a := b5) [(.ref b1)] [(.ref b5)] (own_sinit_1 l Z a0 hw [] b5 b1 k1 (62 : Int32) zc h5 n0 (Nat.le_trans Z0 K5.1) A5 F_b5_value F_b5_coder V2'_v22 S_COMPACT_STRINGS_v23 (by decide) hz g_b5) e5 (by decide) (by decide) (by decide) (by decide) (g := (mkF m 222 #[.val (.int p1), .val (.int p2), .val (.int (4 : Int32)), .val (.ref b1), .val (.ref w_GREATER), .val (.int r), .unset, .unset] [(.ref b1), (.ref b5), (.ref b5)])) rfl (by rw [hml]; rfl) own_pd7 rfl rfl (by show 2 * 0 + _ ≤ _; exact Nat.le_of_eq rfl) (hb hby at_222) ?_
    intro T24 v24 L24 X24 hQ24
    have E_w_GREATER_v25 := (E_w_GREATER_v6.ext E5)
    have E_w_V_v26 := (E_w_V_v7.ext E5)
    have F_w_EQUAL_symbol_v27 := (F_w_EQUAL_symbol_v8.ext E5)
    have E_y_EQUAL_v28 := (E_y_EQUAL_v9.ext E5)
    have V_z_EQUAL_v29 := (V_z_EQUAL_v10.ext E5)
    have F_w_NOT_EQUAL_symbol_v30 := (F_w_NOT_EQUAL_symbol_v11.ext E5)
    have E_y_NOT_EQUAL_v31 := (E_y_NOT_EQUAL_v12.ext E5)
    have V_z_NOT_EQUAL_v32 := (V_z_NOT_EQUAL_v13.ext E5)
    have F_w_LESS_symbol_v33 := (F_w_LESS_symbol_v14.ext E5)
    have E_y_LESS_v34 := (E_y_LESS_v15.ext E5)
    have V_z_LESS_v35 := (V_z_LESS_v16.ext E5)
    have F_w_LESS_OR_EQUAL_symbol_v36 := (F_w_LESS_OR_EQUAL_symbol_v17.ext E5)
    have E_y_LESS_OR_EQUAL_v37 := (E_y_LESS_OR_EQUAL_v18.ext E5)
    have V_z_LESS_OR_EQUAL_v38 := (V_z_LESS_OR_EQUAL_v19.ext E5)
    have E_y_GREATER_v39 := (E_y_GREATER_v20.ext E5)
    have V_z_GREATER_v40 := (V_z_GREATER_v21.ext E5)
    obtain ⟨b24_0, k24_0, rfl, N24q, Kq24, zq24_0, q24_0, q24_1, q24_2, q24_3⟩ := hQ24
    have N24 := Fr.app N2 N24q
    have K24 := K5.trans Kq24 (allS (Or.inr sz_b5) all0)
    have g_b24_0 : n0 ≤ b24_0 := Nat.le_trans (Nat.le_trans Z0 K5.1) zq24_0
    have sz_b24_0 : h0.size ≤ b24_0 := Nat.le_trans K5.1 zq24_0
    have ne_w_GREATER_b24_0 : w_GREATER ≠ b24_0 := Nat.ne_of_lt (Nat.lt_of_lt_of_le E_w_GREATER_v25.lt zq24_0)
    have ne_w_V_b24_0 : w_V ≠ b24_0 := Nat.ne_of_lt (Nat.lt_of_lt_of_le E_w_V_v26.lt zq24_0)
    have ne_w_EQUAL_b24_0 : w_EQUAL ≠ b24_0 := Nat.ne_of_lt (Nat.lt_of_lt_of_le F_w_EQUAL_symbol_v27.lt zq24_0)
    have ne_y_EQUAL_b24_0 : y_EQUAL ≠ b24_0 := Nat.ne_of_lt (Nat.lt_of_lt_of_le E_y_EQUAL_v28.lt zq24_0)
    have ne_z_EQUAL_b24_0 : z_EQUAL ≠ b24_0 := Nat.ne_of_lt (Nat.lt_of_lt_of_le V_z_EQUAL_v29.lt zq24_0)
    have ne_w_NOT_EQUAL_b24_0 : w_NOT_EQUAL ≠ b24_0 := Nat.ne_of_lt (Nat.lt_of_lt_of_le F_w_NOT_EQUAL_symbol_v30.lt zq24_0)
    have ne_y_NOT_EQUAL_b24_0 : y_NOT_EQUAL ≠ b24_0 := Nat.ne_of_lt (Nat.lt_of_lt_of_le E_y_NOT_EQUAL_v31.lt zq24_0)
    have ne_z_NOT_EQUAL_b24_0 : z_NOT_EQUAL ≠ b24_0 := Nat.ne_of_lt (Nat.lt_of_lt_of_le V_z_NOT_EQUAL_v32.lt zq24_0)
    have ne_w_LESS_b24_0 : w_LESS ≠ b24_0 := Nat.ne_of_lt (Nat.lt_of_lt_of_le F_w_LESS_symbol_v33.lt zq24_0)
    have ne_y_LESS_b24_0 : y_LESS ≠ b24_0 := Nat.ne_of_lt (Nat.lt_of_lt_of_le E_y_LESS_v34.lt zq24_0)
    have ne_z_LESS_b24_0 : z_LESS ≠ b24_0 := Nat.ne_of_lt (Nat.lt_of_lt_of_le V_z_LESS_v35.lt zq24_0)
    have ne_w_LESS_OR_EQUAL_b24_0 : w_LESS_OR_EQUAL ≠ b24_0 := Nat.ne_of_lt (Nat.lt_of_lt_of_le F_w_LESS_OR_EQUAL_symbol_v36.lt zq24_0)
    have ne_y_LESS_OR_EQUAL_b24_0 : y_LESS_OR_EQUAL ≠ b24_0 := Nat.ne_of_lt (Nat.lt_of_lt_of_le E_y_LESS_OR_EQUAL_v37.lt zq24_0)
    have ne_z_LESS_OR_EQUAL_b24_0 : z_LESS_OR_EQUAL ≠ b24_0 := Nat.ne_of_lt (Nat.lt_of_lt_of_le V_z_LESS_OR_EQUAL_v38.lt zq24_0)
    have ne_y_GREATER_b24_0 : y_GREATER ≠ b24_0 := Nat.ne_of_lt (Nat.lt_of_lt_of_le E_y_GREATER_v39.lt zq24_0)
    have ne_z_GREATER_b24_0 : z_GREATER ≠ b24_0 := Nat.ne_of_lt (Nat.lt_of_lt_of_le V_z_GREATER_v40.lt zq24_0)
    have ne_b1_b24_0 : b1 ≠ b24_0 := Nat.ne_of_lt (Nat.lt_of_lt_of_le V2'_v22.lt zq24_0)
    have ne_b5_b24_0 : b5 ≠ b24_0 := Nat.ne_of_lt (Nat.lt_of_lt_of_le A5.lt zq24_0)
    have q24_0' : Exa Z T24.heap b5 "java/lang/String" := q24_0
    have q24_1' : Fld Z T24.heap b5 "java/lang/String" "coder" "B" (.int (0 : Int32)) := q24_1
    have q24_2' : Fld Z T24.heap b5 "java/lang/String" "value" "[B" (.ref b24_0) := q24_2
    have q24_3' : Arv Z T24.heap b24_0 k24_0 .byte (1 : Int32) [(.int (62 : Int32))] (.int (0 : Int32)) := q24_3
    show own_Goes _ _ _ _ T24 (mkF m 225 #[.val (.int p1), .val (.int p2), .val (.int (4 : Int32)), .val (.ref b1), .val (.ref w_GREATER), .val (.int r), .unset, .unset] [(.ref b5)])
    refine own_step (fun t k => XS.astore X24.here hx rfl (hb hby at_225) rfl rfl (l' := #[.val (.int p1), .val (.int p2), .val (.int (4 : Int32)), .val (.ref b1), .val (.ref w_GREATER), .val (.int r), .val (.ref b5), .unset]) rfl k) ?_
    show own_Goes _ _ _ _ T24 (mkF m 227 #[.val (.int p1), .val (.int p2), .val (.int (4 : Int32)), .val (.ref b1), .val (.ref w_GREATER), .val (.int r), .val (.ref b5), .unset] [])
    refine own_step (fun t k => XS.aload X24.here hx rfl (hb hby at_227) rfl rfl k) ?_
    show own_Goes _ _ _ _ T24 (mkF m 229 #[.val (.int p1), .val (.int p2), .val (.int (4 : Int32)), .val (.ref b1), .val (.ref w_GREATER), .val (.int r), .val (.ref b5), .unset] [(.ref b5)])
    have S_COMPACT_STRINGS_v41 := (own_staKeep S_COMPACT_STRINGS_v23 Kq24 (allS (own_plainE A5) all0))
    have S__VALUES_v42 := (own_staKeep (((S__VALUES.ext E1).wr W2).ext E5) Kq24 (allS (own_plainE A5) all0))
    have R_w_V_v43 := (own_arrKeep (((R_w_V.ext E1).other W2 ne_w_V_b1).ext E5) Kq24 (ninS ne_w_V_b5 nin0))
    have E_w_V_v44 := (E_w_V_v26.keep Kq24)
    have F_w_EQUAL_symbol_v45 := (F_w_EQUAL_symbol_v27.keep Kq24 (ninS ne_w_EQUAL_b5 nin0))
    have E_y_EQUAL_v46 := (E_y_EQUAL_v28.keep Kq24)
    have F_y_EQUAL_coder_v47 := ((((F_y_EQUAL_coder.ext E1).other W2 (Or.inl ne_y_EQUAL_b1)).ext E5).keep Kq24 (ninS ne_y_EQUAL_b5 nin0))
    have F_y_EQUAL_value_v48 := ((((F_y_EQUAL_value.ext E1).other W2 (Or.inl ne_y_EQUAL_b1)).ext E5).keep Kq24 (ninS ne_y_EQUAL_b5 nin0))
    have V_z_EQUAL_v49 := (V_z_EQUAL_v29.keep Kq24 (ninS ne_z_EQUAL_b5 nin0))
    have F_w_NOT_EQUAL_symbol_v50 := (F_w_NOT_EQUAL_symbol_v30.keep Kq24 (ninS ne_w_NOT_EQUAL_b5 nin0))
    have E_y_NOT_EQUAL_v51 := (E_y_NOT_EQUAL_v31.keep Kq24)
    have F_y_NOT_EQUAL_coder_v52 := ((((F_y_NOT_EQUAL_coder.ext E1).other W2 (Or.inl ne_y_NOT_EQUAL_b1)).ext E5).keep Kq24 (ninS ne_y_NOT_EQUAL_b5 nin0))
    have F_y_NOT_EQUAL_value_v53 := ((((F_y_NOT_EQUAL_value.ext E1).other W2 (Or.inl ne_y_NOT_EQUAL_b1)).ext E5).keep Kq24 (ninS ne_y_NOT_EQUAL_b5 nin0))
    have V_z_NOT_EQUAL_v54 := (V_z_NOT_EQUAL_v32.keep Kq24 (ninS ne_z_NOT_EQUAL_b5 nin0))
    have F_w_LESS_symbol_v55 := (F_w_LESS_symbol_v33.keep Kq24 (ninS ne_w_LESS_b5 nin0))
    have E_y_LESS_v56 := (E_y_LESS_v34.keep Kq24)
    have F_y_LESS_coder_v57 := ((((F_y_LESS_coder.ext E1).other W2 (Or.inl ne_y_LESS_b1)).ext E5).keep Kq24 (ninS ne_y_LESS_b5 nin0))
    have F_y_LESS_value_v58 := ((((F_y_LESS_value.ext E1).other W2 (Or.inl ne_y_LESS_b1)).ext E5).keep Kq24 (ninS ne_y_LESS_b5 nin0))
    have V_z_LESS_v59 := (V_z_LESS_v35.keep Kq24 (ninS ne_z_LESS_b5 nin0))
    have F_w_LESS_OR_EQUAL_symbol_v60 := (F_w_LESS_OR_EQUAL_symbol_v36.keep Kq24 (ninS ne_w_LESS_OR_EQUAL_b5 nin0))
    have E_y_LESS_OR_EQUAL_v61 := (E_y_LESS_OR_EQUAL_v37.keep Kq24)
    have F_y_LESS_OR_EQUAL_coder_v62 := ((((F_y_LESS_OR_EQUAL_coder.ext E1).other W2 (Or.inl ne_y_LESS_OR_EQUAL_b1)).ext E5).keep Kq24 (ninS ne_y_LESS_OR_EQUAL_b5 nin0))
    have F_y_LESS_OR_EQUAL_value_v63 := ((((F_y_LESS_OR_EQUAL_value.ext E1).other W2 (Or.inl ne_y_LESS_OR_EQUAL_b1)).ext E5).keep Kq24 (ninS ne_y_LESS_OR_EQUAL_b5 nin0))
    have V_z_LESS_OR_EQUAL_v64 := (V_z_LESS_OR_EQUAL_v38.keep Kq24 (ninS ne_z_LESS_OR_EQUAL_b5 nin0))
    have F_w_GREATER_symbol_v65 := ((((F_w_GREATER_symbol.ext E1).other W2 (Or.inl ne_w_GREATER_b1)).ext E5).keep Kq24 (ninS ne_w_GREATER_b5 nin0))
    have E_y_GREATER_v66 := (E_y_GREATER_v39.keep Kq24)
    have F_y_GREATER_coder_v67 := ((((F_y_GREATER_coder.ext E1).other W2 (Or.inl ne_y_GREATER_b1)).ext E5).keep Kq24 (ninS ne_y_GREATER_b5 nin0))
    have F_y_GREATER_value_v68 := ((((F_y_GREATER_value.ext E1).other W2 (Or.inl ne_y_GREATER_b1)).ext E5).keep Kq24 (ninS ne_y_GREATER_b5 nin0))
    have V_z_GREATER_v69 := (V_z_GREATER_v40.keep Kq24 (ninS ne_z_GREATER_b5 nin0))
    refine own_callS X24 hx hZ (y := (⟨"com/example/polyphony/polyphony/policy/Operator", "of", "(Ljava/lang/String;)Lcom/example/polyphony/polyphony/policy/Operator;"⟩ : MethodName)) hown (hw _ (List.mem_of_getElem? (i := 34) rfl)) (hw _ (List.mem_of_getElem? (i := 35) rfl)) (hw _ (List.mem_of_getElem? (i := 3) rfl)) (hw _ (List.mem_of_getElem? (i := 36) rfl)) (by decide) 0 [(.ref b5)] [] (own_of4 l Z a0 hw [] b5 b24_0 k24_0 zc w_V clv w_EQUAL w_NOT_EQUAL w_LESS w_LESS_OR_EQUAL w_GREATER w_GREATER_OR_EQUAL y_EQUAL z_EQUAL k_EQUAL y_NOT_EQUAL z_NOT_EQUAL k_NOT_EQUAL y_LESS z_LESS k_LESS y_LESS_OR_EQUAL z_LESS_OR_EQUAL k_LESS_OR_EQUAL y_GREATER z_GREATER k_GREATER T24.heap n0 (Nat.le_trans Z0 K24.1) q24_0' q24_1' q24_2' q24_3' S_COMPACT_STRINGS_v41 S__VALUES_v42 R_w_V_v43 E_w_V_v44 F_w_EQUAL_symbol_v45 E_y_EQUAL_v46 F_y_EQUAL_coder_v47 F_y_EQUAL_value_v48 V_z_EQUAL_v49 F_w_NOT_EQUAL_symbol_v50 E_y_NOT_EQUAL_v51 F_y_NOT_EQUAL_coder_v52 F_y_NOT_EQUAL_value_v53 V_z_NOT_EQUAL_v54 F_w_LESS_symbol_v55 E_y_LESS_v56 F_y_LESS_coder_v57 F_y_LESS_value_v58 V_z_LESS_v59 F_w_LESS_OR_EQUAL_symbol_v60 E_y_LESS_OR_EQUAL_v61 F_y_LESS_OR_EQUAL_coder_v62 F_y_LESS_OR_EQUAL_value_v63 V_z_LESS_OR_EQUAL_v64 F_w_GREATER_symbol_v65 E_y_GREATER_v66 F_y_GREATER_coder_v67 F_y_GREATER_value_v68 V_z_GREATER_v69 F_v S_v H_v G_v hz ne_y_EQUAL_b5 ne_y_NOT_EQUAL_b5 ne_y_LESS_b5 ne_y_LESS_OR_EQUAL_b5 ne_y_GREATER_b5) rfl (by decide) (by decide) (by decide) (by decide) (g := (mkF m 229 #[.val (.int p1), .val (.int p2), .val (.int (4 : Int32)), .val (.ref b1), .val (.ref w_GREATER), .val (.int r), .val (.ref b5), .unset] [(.ref b5)])) rfl (by rw [hml]; rfl) own_pd8 rfl rfl (by show 2 * 0 + _ ≤ _; exact Nat.le_of_eq rfl) (hb hby at_229) ?_
    intro T70 v70 L70 X70 hQ70
    have E_w_GREATER_v71 := (E_w_GREATER_v25.keep Kq24)
    have V2'_v72 := (V2'_v22.keep Kq24 (ninS ne_b1_b5 nin0))
    obtain ⟨rfl, N70q, Kq70⟩ := hQ70
    have N70 := Fr.app N24 N70q
    have K70 := K24.trans Kq70 all0
    show own_Goes _ _ _ _ T70 (mkF m 232 #[.val (.int p1), .val (.int p2), .val (.int (4 : Int32)), .val (.ref b1), .val (.ref w_GREATER), .val (.int r), .val (.ref b5), .unset] [(.ref w_GREATER)])
    refine own_step (fun t k => XS.astore X70.here hx rfl (hb hby at_232) rfl rfl (l' := #[.val (.int p1), .val (.int p2), .val (.int (4 : Int32)), .val (.ref b1), .val (.ref w_GREATER), .val (.int r), .val (.ref b5), .val (.ref w_GREATER)]) rfl k) ?_
    show own_Goes _ _ _ _ T70 (mkF m 234 #[.val (.int p1), .val (.int p2), .val (.int (4 : Int32)), .val (.ref b1), .val (.ref w_GREATER), .val (.int r), .val (.ref b5), .val (.ref w_GREATER)] [])
    refine own_step (fun t k => XS.aload X70.here hx rfl (hb hby at_234) rfl rfl k) ?_
    show own_Goes _ _ _ _ T70 (mkF m 236 #[.val (.int p1), .val (.int p2), .val (.int (4 : Int32)), .val (.ref b1), .val (.ref w_GREATER), .val (.int r), .val (.ref b5), .val (.ref w_GREATER)] [(.ref w_GREATER)])
    refine own_step (fun t k => XS.aload X70.here hx rfl (hb hby at_236) rfl rfl k) ?_
    show own_Goes _ _ _ _ T70 (mkF m 238 #[.val (.int p1), .val (.int p2), .val (.int (4 : Int32)), .val (.ref b1), .val (.ref w_GREATER), .val (.int r), .val (.ref b5), .val (.ref w_GREATER)] [(.ref w_GREATER), (.ref w_GREATER)])
    refine own_step (fun t k => Jvm.RoadKit.acmp (g := (mkF m 238 #[.val (.int p1), .val (.int p2), .val (.int (4 : Int32)), .val (.ref b1), .val (.ref w_GREATER), .val (.int r), .val (.ref b5), .val (.ref w_GREATER)] [(.ref w_GREATER), (.ref w_GREATER)])) X70 hx rfl rfl rfl (pc0 := 238) (pc' := 241) (same := true) rfl (hb hby at_238) rfl (decide_eq_true rfl) (by decide) (by decide) k) ?_
    show own_Goes _ _ _ _ T70 (mkF m 241 #[.val (.int p1), .val (.int p2), .val (.int (4 : Int32)), .val (.ref b1), .val (.ref w_GREATER), .val (.int r), .val (.ref b5), .val (.ref w_GREATER)] [])
    refine own_step (fun t k => XS.aload X70.here hx rfl (hb hby at_241) rfl rfl k) ?_
    show own_Goes _ _ _ _ T70 (mkF m 243 #[.val (.int p1), .val (.int p2), .val (.int (4 : Int32)), .val (.ref b1), .val (.ref w_GREATER), .val (.int r), .val (.ref b5), .val (.ref w_GREATER)] [(.ref w_GREATER)])
    have F_w_GREATER_symbol_v73 := (F_w_GREATER_symbol_v65.keep Kq70 nin0)
    have E_w_GREATER_v75 := (E_w_GREATER_v71.keep Kq70)
    refine own_callV X70 hx hZ (y := (⟨"com/example/polyphony/polyphony/policy/Operator", "symbol", "()Ljava/lang/String;"⟩ : MethodName)) (z := (⟨"com/example/polyphony/polyphony/policy/Operator", "symbol", "()Ljava/lang/String;"⟩ : MethodName)) hown (hw _ (List.mem_of_getElem? (i := 69) rfl)) (hw _ (List.mem_of_getElem? (i := 70) rfl)) (notFace_of_selects (args := #[]) (mvT hZ (hw _ (List.mem_of_getElem? (i := 72) rfl)))) (hw _ (List.mem_of_getElem? (i := 72) rfl)) (hw _ (List.mem_of_getElem? (i := 71) rfl)) (hw _ (List.mem_of_getElem? (i := 73) rfl)) (hw _ (List.mem_of_getElem? (i := 3) rfl)) (by decide) 0 E_w_GREATER_v75 [] [] (own_symbol l Z a0 hw [] w_GREATER y_GREATER T70.heap n0 (Nat.le_trans Z0 K70.1) F_w_GREATER_symbol_v73) rfl (by decide) (by decide) (by decide) (by decide) (g := (mkF m 243 #[.val (.int p1), .val (.int p2), .val (.int (4 : Int32)), .val (.ref b1), .val (.ref w_GREATER), .val (.int r), .val (.ref b5), .val (.ref w_GREATER)] [(.ref w_GREATER)])) rfl (by rw [hml]; rfl) own_pd9 rfl rfl (by show 2 * 0 + _ ≤ _; exact Nat.le_of_eq rfl) (hb hby at_243) ?_
    intro T74 v74 L74 X74 hQ74
    obtain ⟨rfl, N74q, e74⟩ := hQ74
    have N74 := Fr.app N70 N74q
    show own_Goes _ _ _ _ T74 (mkF m 246 #[.val (.int p1), .val (.int p2), .val (.int (4 : Int32)), .val (.ref b1), .val (.ref w_GREATER), .val (.int r), .val (.ref b5), .val (.ref w_GREATER)] [(.ref y_GREATER)])
    refine own_step (fun t k => XS.aload X74.here hx rfl (hb hby at_246) rfl rfl k) ?_
    show own_Goes _ _ _ _ T74 (mkF m 248 #[.val (.int p1), .val (.int p2), .val (.int (4 : Int32)), .val (.ref b1), .val (.ref w_GREATER), .val (.int r), .val (.ref b5), .val (.ref w_GREATER)] [(.ref b5), (.ref y_GREATER)])
    have q24_0'_v76 := (q24_0'.keep Kq70)
    have F_y_GREATER_coder_v77 := (F_y_GREATER_coder_v67.keep Kq70 nin0)
    have q24_1'_v78 := (q24_1'.keep Kq70 nin0)
    have F_y_GREATER_value_v79 := (F_y_GREATER_value_v68.keep Kq70 nin0)
    have q24_2'_v80 := (q24_2'.keep Kq70 nin0)
    have V_z_GREATER_v81 := (V_z_GREATER_v69.keep Kq70 nin0)
    have q24_3'_v82 := (q24_3'.keep Kq70 nin0)
    have S_COMPACT_STRINGS_v83 := (own_staKeep S_COMPACT_STRINGS_v41 Kq70 all0)
    have E_y_GREATER_v85 := (E_y_GREATER_v66.keep Kq70)
    refine own_callV X74 hx hZ (y := (⟨"java/lang/String", "equals", "(Ljava/lang/Object;)Z"⟩ : MethodName)) (z := (⟨"java/lang/String", "equals", "(Ljava/lang/Object;)Z"⟩ : MethodName)) hown (hw _ (List.mem_of_getElem? (i := 74) rfl)) (hw _ (List.mem_of_getElem? (i := 60) rfl)) (notFace_of_selects (args := #[]) (mvT hZ (hw _ (List.mem_of_getElem? (i := 62) rfl)))) (hw _ (List.mem_of_getElem? (i := 62) rfl)) (hw _ (List.mem_of_getElem? (i := 61) rfl)) (hw _ (List.mem_of_getElem? (i := 63) rfl)) (hw _ (List.mem_of_getElem? (i := 7) rfl)) (by decide) 0 E_y_GREATER_v85 [(.ref b5)] [] (own_seq_11eq l Z a0 hw [] y_GREATER b5 z_GREATER b24_0 k_GREATER k24_0 (62 : Int32) (62 : Int32) zc T70.heap n0 (Nat.le_trans Z0 K70.1) q24_0'_v76 F_y_GREATER_coder_v77 q24_1'_v78 F_y_GREATER_value_v79 q24_2'_v80 V_z_GREATER_v81 q24_3'_v82 S_COMPACT_STRINGS_v83 (by decide) hz ne_y_GREATER_b5) e74 (by decide) (by decide) (by decide) (by decide) (g := (mkF m 248 #[.val (.int p1), .val (.int p2), .val (.int (4 : Int32)), .val (.ref b1), .val (.ref w_GREATER), .val (.int r), .val (.ref b5), .val (.ref w_GREATER)] [(.ref b5), (.ref y_GREATER)])) rfl (by rw [hml]; rfl) own_pd2 rfl rfl (by show 2 * 0 + _ ≤ _; exact Nat.le_of_eq rfl) (hb hby at_248) ?_
    intro T84 v84 L84 X84 hQ84
    obtain ⟨rfl, N84q, e84⟩ := hQ84
    have N84 := Fr.app N74 N84q
    show own_Goes _ _ _ _ T84 (mkF m 251 #[.val (.int p1), .val (.int p2), .val (.int (4 : Int32)), .val (.ref b1), .val (.ref w_GREATER), .val (.int r), .val (.ref b5), .val (.ref w_GREATER)] [(.int (1 : Int32))])
    refine own_step (fun t k => XS.ifNo X84.here hx rfl (hb hby at_251) rfl ((if0 _ _).trans (feq (show ¬ ((1 : Int32) = (0 : Int32)) from (by decide))).1) k) ?_
    show own_Goes _ _ _ _ T84 (mkF m 254 #[.val (.int p1), .val (.int p2), .val (.int (4 : Int32)), .val (.ref b1), .val (.ref w_GREATER), .val (.int r), .val (.ref b5), .val (.ref w_GREATER)] [])
    refine own_step (fun t k => XS.aload X84.here hx rfl (hb hby at_254) rfl rfl k) ?_
    show own_Goes _ _ _ _ T84 (mkF m 256 #[.val (.int p1), .val (.int p2), .val (.int (4 : Int32)), .val (.ref b1), .val (.ref w_GREATER), .val (.int r), .val (.ref b5), .val (.ref w_GREATER)] [(.ref w_GREATER)])
    refine own_step (fun t k => XS.iloadN X84.here hx rfl (hb hby at_256) rfl k) ?_
    show own_Goes _ _ _ _ T84 (mkF m 257 #[.val (.int p1), .val (.int p2), .val (.int (4 : Int32)), .val (.ref b1), .val (.ref w_GREATER), .val (.int r), .val (.ref b5), .val (.ref w_GREATER)] [(.int p2), (.ref w_GREATER)])
    have F_w_GREATER_whenBefore_v86 := (((((F_w_GREATER_whenBefore.ext E1).other W2 (Or.inl ne_w_GREATER_b1)).ext E5).keep Kq24 (ninS ne_w_GREATER_b5 nin0)).keep Kq70 nin0)
    have F_w_GREATER_whenEqual_v87 := (((((F_w_GREATER_whenEqual.ext E1).other W2 (Or.inl ne_w_GREATER_b1)).ext E5).keep Kq24 (ninS ne_w_GREATER_b5 nin0)).keep Kq70 nin0)
    have F_w_GREATER_whenAfter_v88 := (((((F_w_GREATER_whenAfter.ext E1).other W2 (Or.inl ne_w_GREATER_b1)).ext E5).keep Kq24 (ninS ne_w_GREATER_b5 nin0)).keep Kq70 nin0)
    refine own_callV X84 hx hZ (y := (⟨"com/example/polyphony/polyphony/policy/Operator", "holds", "(I)Z"⟩ : MethodName)) (z := (⟨"com/example/polyphony/polyphony/policy/Operator", "holds", "(I)Z"⟩ : MethodName)) hown (hw _ (List.mem_of_getElem? (i := 75) rfl)) (hw _ (List.mem_of_getElem? (i := 76) rfl)) (notFace_of_selects (args := #[]) (mvT hZ (hw _ (List.mem_of_getElem? (i := 78) rfl)))) (hw _ (List.mem_of_getElem? (i := 78) rfl)) (hw _ (List.mem_of_getElem? (i := 77) rfl)) (hw _ (List.mem_of_getElem? (i := 79) rfl)) (hw _ (List.mem_of_getElem? (i := 3) rfl)) (by decide) 0 E_w_GREATER_v75 [(.int p2)] [] (own_holds_GREATER l Z a0 hw [] w_GREATER p2 r T70.heap n0 (Nat.le_trans Z0 K70.1) F_w_GREATER_whenBefore_v86 F_w_GREATER_whenEqual_v87 F_w_GREATER_whenAfter_v88 hrn hrz hrp) e84 (by decide) (by decide) (by decide) (by decide) (g := (mkF m 257 #[.val (.int p1), .val (.int p2), .val (.int (4 : Int32)), .val (.ref b1), .val (.ref w_GREATER), .val (.int r), .val (.ref b5), .val (.ref w_GREATER)] [(.int p2), (.ref w_GREATER)])) rfl (by rw [hml]; rfl) own_pd10 rfl rfl (by show 2 * 0 + _ ≤ _; exact Nat.le_of_eq rfl) (hb hby at_257) ?_
    intro T89 v89 L89 X89 hQ89
    obtain ⟨rfl, N89q, e89⟩ := hQ89
    have N89 := Fr.app N84 N89q
    show own_Goes _ _ _ _ T89 (mkF m 260 #[.val (.int p1), .val (.int p2), .val (.int (4 : Int32)), .val (.ref b1), .val (.ref w_GREATER), .val (.int r), .val (.ref b5), .val (.ref w_GREATER)] [(.int r)])
    refine own_step (fun t k => XS.iload X89.here hx rfl (hb hby at_260) rfl k) ?_
    show own_Goes _ _ _ _ T89 (mkF m 262 #[.val (.int p1), .val (.int p2), .val (.int (4 : Int32)), .val (.ref b1), .val (.ref w_GREATER), .val (.int r), .val (.ref b5), .val (.ref w_GREATER)] [(.int r), (.int r)])
    refine own_step (fun t k => XS.icmpNo X89.here hx rfl (hb hby at_262) rfl (teq (show r = r from rfl)).2 k) ?_
    show own_Goes _ _ _ _ T89 (mkF m 265 #[.val (.int p1), .val (.int p2), .val (.int (4 : Int32)), .val (.ref b1), .val (.ref w_GREATER), .val (.int r), .val (.ref b5), .val (.ref w_GREATER)] [])
    refine own_step (fun t k => XS.iconst X89.here hx rfl (hb hby at_265) k) ?_
    show own_Goes _ _ _ _ T89 (mkF m 266 #[.val (.int p1), .val (.int p2), .val (.int (4 : Int32)), .val (.ref b1), .val (.ref w_GREATER), .val (.int r), .val (.ref b5), .val (.ref w_GREATER)] [(.int (1 : Int32))])
    refine own_step (fun t k => XS.goto X89.here hx rfl (pc0 := 266) (pc' := 270) rfl (hb hby at_266) (by decide) (by decide) k) ?_
    show own_Goes _ _ _ _ T89 (mkF m 270 #[.val (.int p1), .val (.int p2), .val (.int (4 : Int32)), .val (.ref b1), .val (.ref w_GREATER), .val (.int r), .val (.ref b5), .val (.ref w_GREATER)] [(.int (1 : Int32))])
    exact own_retN X89 hx hlk (t := .boolean) hrt (by simp) (hb hby at_270) ⟨rfl, N89⟩ (by decide) (by decide)
  by_cases hc174_90 : (0 : Int32) < p2
  · refine own_step (fun t k => XS.ifNo X3.here hx rfl (hb hby at_174) rfl ((if0 _ _).trans (tlt (show (0 : Int32) < p2 from hc174_90)).2.2.2) k) ?_
    show own_Goes _ _ _ _ T3 (mkF m 177 #[.val (.int p1), .val (.int p2), .val (.int (4 : Int32)), .val (.ref b1), .val (.ref w_GREATER), .unset, .unset, .unset] [])
    refine own_step (fun t k => XS.iconst X3.here hx rfl (hb hby at_177) k) ?_
    show own_Goes _ _ _ _ T3 (mkF m 178 #[.val (.int p1), .val (.int p2), .val (.int (4 : Int32)), .val (.ref b1), .val (.ref w_GREATER), .unset, .unset, .unset] [(.int (1 : Int32))])
    refine own_step (fun t k => XS.goto X3.here hx rfl (pc0 := 178) (pc' := 182) rfl (hb hby at_178) (by decide) (by decide) k) ?_
    show own_Goes _ _ _ _ T3 (mkF m 182 #[.val (.int p1), .val (.int p2), .val (.int (4 : Int32)), .val (.ref b1), .val (.ref w_GREATER), .unset, .unset, .unset] [(.int (1 : Int32))])
    refine own_step (fun t k => XS.istore X3.here hx rfl (hb hby at_182) rfl (l' := #[.val (.int p1), .val (.int p2), .val (.int (4 : Int32)), .val (.ref b1), .val (.ref w_GREATER), .val (.int (1 : Int32)), .unset, .unset]) rfl k) ?_
    show own_Goes _ _ _ _ T3 (mkF m 184 #[.val (.int p1), .val (.int p2), .val (.int (4 : Int32)), .val (.ref b1), .val (.ref w_GREATER), .val (.int (1 : Int32)), .unset, .unset] [])
    refine own_step (fun t k => XS.goto X3.here hx rfl (pc0 := 184) (pc' := 217) rfl (hb hby at_184) (by decide) (by decide) k) ?_
    show own_Goes _ _ _ _ T3 (mkF m 217 #[.val (.int p1), .val (.int p2), .val (.int (4 : Int32)), .val (.ref b1), .val (.ref w_GREATER), .val (.int (1 : Int32)), .unset, .unset] [])
    obtain rfl : r = (1 : Int32) := ht hc174_90
    exact tail
  · refine own_step (fun t k => XS.ifYes X3.here hx rfl (pc0 := 174) (pc' := 181) rfl (hb hby at_174) rfl ((if0 _ _).trans (flt (show ¬ ((0 : Int32) < p2) from hc174_90)).2.2.2) (by decide) (by decide) k) ?_
    show own_Goes _ _ _ _ T3 (mkF m 181 #[.val (.int p1), .val (.int p2), .val (.int (4 : Int32)), .val (.ref b1), .val (.ref w_GREATER), .unset, .unset, .unset] [])
    refine own_step (fun t k => XS.iconst X3.here hx rfl (hb hby at_181) k) ?_
    show own_Goes _ _ _ _ T3 (mkF m 182 #[.val (.int p1), .val (.int p2), .val (.int (4 : Int32)), .val (.ref b1), .val (.ref w_GREATER), .unset, .unset, .unset] [(.int (0 : Int32))])
    refine own_step (fun t k => XS.istore X3.here hx rfl (hb hby at_182) rfl (l' := #[.val (.int p1), .val (.int p2), .val (.int (4 : Int32)), .val (.ref b1), .val (.ref w_GREATER), .val (.int (0 : Int32)), .unset, .unset]) rfl k) ?_
    show own_Goes _ _ _ _ T3 (mkF m 184 #[.val (.int p1), .val (.int p2), .val (.int (4 : Int32)), .val (.ref b1), .val (.ref w_GREATER), .val (.int (0 : Int32)), .unset, .unset] [])
    refine own_step (fun t k => XS.goto X3.here hx rfl (pc0 := 184) (pc' := 217) rfl (hb hby at_184) (by decide) (by decide) k) ?_
    show own_Goes _ _ _ _ T3 (mkF m 217 #[.val (.int p1), .val (.int p2), .val (.int (4 : Int32)), .val (.ref b1), .val (.ref w_GREATER), .val (.int (0 : Int32)), .unset, .unset] [])
    obtain rfl : r = (0 : Int32) := hf hc174_90
    exact tail
set_option maxRecDepth 65536 in
set_option maxHeartbeats 40000000 in
theorem own_law5 (l : Launch) (Z : State) (a0 : Array Value) (hw : ∀ d ∈ tables_1, d.before a0 Z = true) (ws : List Jvm.Cond) (p1 : Int32) (p2 : Int32) (r : Int32) (zc : Int32) (w_V : Addr) (clv : Cell) (w_EQUAL : Addr) (w_NOT_EQUAL : Addr) (w_LESS : Addr) (w_LESS_OR_EQUAL : Addr) (w_GREATER : Addr) (w_GREATER_OR_EQUAL : Addr) (y_EQUAL : Addr) (z_EQUAL : Addr) (k_EQUAL : ClassId) (y_NOT_EQUAL : Addr) (z_NOT_EQUAL : Addr) (k_NOT_EQUAL : ClassId) (y_LESS : Addr) (z_LESS : Addr) (k_LESS : ClassId) (y_LESS_OR_EQUAL : Addr) (z_LESS_OR_EQUAL : Addr) (k_LESS_OR_EQUAL : ClassId) (y_GREATER : Addr) (z_GREATER : Addr) (k_GREATER : ClassId) (y_GREATER_OR_EQUAL : Addr) (z_GREATER_OR_EQUAL : Addr) (k_GREATER_OR_EQUAL : ClassId) (h0 : Heap) (n0 : Nat) (Z0 : n0 ≤ h0.size) (S_GREATER_OR_EQUAL : Sta Z h0 "com/example/polyphony/polyphony/policy/Operator" "GREATER_OR_EQUAL" "Lcom/example/polyphony/polyphony/policy/Operator;" (.ref w_GREATER_OR_EQUAL)) (E_w_GREATER_OR_EQUAL : Exa Z h0 w_GREATER_OR_EQUAL "com/example/polyphony/polyphony/policy/Operator") (S_COMPACT_STRINGS : Sta Z h0 "java/lang/String" "COMPACT_STRINGS" "Z" (.int zc)) (S__VALUES : Sta Z h0 "com/example/polyphony/polyphony/policy/Operator" "$VALUES" "[Lcom/example/polyphony/polyphony/policy/Operator;" (.ref w_V)) (R_w_V : Arr Z h0 w_V clv (.object "com/example/polyphony/polyphony/policy/Operator")) (E_w_V : Exa Z h0 w_V "[Lcom/example/polyphony/polyphony/policy/Operator;") (F_w_EQUAL_symbol : Fld Z h0 w_EQUAL "com/example/polyphony/polyphony/policy/Operator" "symbol" "Ljava/lang/String;" (.ref y_EQUAL)) (E_y_EQUAL : Exa Z h0 y_EQUAL "java/lang/String") (F_y_EQUAL_coder : Fld Z h0 y_EQUAL "java/lang/String" "coder" "B" (.int (0 : Int32))) (F_y_EQUAL_value : Fld Z h0 y_EQUAL "java/lang/String" "value" "[B" (.ref z_EQUAL)) (V_z_EQUAL : Arv Z h0 z_EQUAL k_EQUAL .byte (2 : Int32) [(.int (61 : Int32)), (.int (61 : Int32))] (.int (0 : Int32))) (F_w_NOT_EQUAL_symbol : Fld Z h0 w_NOT_EQUAL "com/example/polyphony/polyphony/policy/Operator" "symbol" "Ljava/lang/String;" (.ref y_NOT_EQUAL)) (E_y_NOT_EQUAL : Exa Z h0 y_NOT_EQUAL "java/lang/String") (F_y_NOT_EQUAL_coder : Fld Z h0 y_NOT_EQUAL "java/lang/String" "coder" "B" (.int (0 : Int32))) (F_y_NOT_EQUAL_value : Fld Z h0 y_NOT_EQUAL "java/lang/String" "value" "[B" (.ref z_NOT_EQUAL)) (V_z_NOT_EQUAL : Arv Z h0 z_NOT_EQUAL k_NOT_EQUAL .byte (2 : Int32) [(.int (33 : Int32)), (.int (61 : Int32))] (.int (0 : Int32))) (F_w_LESS_symbol : Fld Z h0 w_LESS "com/example/polyphony/polyphony/policy/Operator" "symbol" "Ljava/lang/String;" (.ref y_LESS)) (E_y_LESS : Exa Z h0 y_LESS "java/lang/String") (F_y_LESS_coder : Fld Z h0 y_LESS "java/lang/String" "coder" "B" (.int (0 : Int32))) (F_y_LESS_value : Fld Z h0 y_LESS "java/lang/String" "value" "[B" (.ref z_LESS)) (V_z_LESS : Arv Z h0 z_LESS k_LESS .byte (1 : Int32) [(.int (60 : Int32))] (.int (0 : Int32))) (F_w_LESS_OR_EQUAL_symbol : Fld Z h0 w_LESS_OR_EQUAL "com/example/polyphony/polyphony/policy/Operator" "symbol" "Ljava/lang/String;" (.ref y_LESS_OR_EQUAL)) (E_y_LESS_OR_EQUAL : Exa Z h0 y_LESS_OR_EQUAL "java/lang/String") (F_y_LESS_OR_EQUAL_coder : Fld Z h0 y_LESS_OR_EQUAL "java/lang/String" "coder" "B" (.int (0 : Int32))) (F_y_LESS_OR_EQUAL_value : Fld Z h0 y_LESS_OR_EQUAL "java/lang/String" "value" "[B" (.ref z_LESS_OR_EQUAL)) (V_z_LESS_OR_EQUAL : Arv Z h0 z_LESS_OR_EQUAL k_LESS_OR_EQUAL .byte (2 : Int32) [(.int (60 : Int32)), (.int (61 : Int32))] (.int (0 : Int32))) (F_w_GREATER_symbol : Fld Z h0 w_GREATER "com/example/polyphony/polyphony/policy/Operator" "symbol" "Ljava/lang/String;" (.ref y_GREATER)) (E_y_GREATER : Exa Z h0 y_GREATER "java/lang/String") (F_y_GREATER_coder : Fld Z h0 y_GREATER "java/lang/String" "coder" "B" (.int (0 : Int32))) (F_y_GREATER_value : Fld Z h0 y_GREATER "java/lang/String" "value" "[B" (.ref z_GREATER)) (V_z_GREATER : Arv Z h0 z_GREATER k_GREATER .byte (1 : Int32) [(.int (62 : Int32))] (.int (0 : Int32))) (F_w_GREATER_OR_EQUAL_symbol : Fld Z h0 w_GREATER_OR_EQUAL "com/example/polyphony/polyphony/policy/Operator" "symbol" "Ljava/lang/String;" (.ref y_GREATER_OR_EQUAL)) (E_y_GREATER_OR_EQUAL : Exa Z h0 y_GREATER_OR_EQUAL "java/lang/String") (F_y_GREATER_OR_EQUAL_coder : Fld Z h0 y_GREATER_OR_EQUAL "java/lang/String" "coder" "B" (.int (0 : Int32))) (F_y_GREATER_OR_EQUAL_value : Fld Z h0 y_GREATER_OR_EQUAL "java/lang/String" "value" "[B" (.ref z_GREATER_OR_EQUAL)) (V_z_GREATER_OR_EQUAL : Arv Z h0 z_GREATER_OR_EQUAL k_GREATER_OR_EQUAL .byte (2 : Int32) [(.int (62 : Int32)), (.int (61 : Int32))] (.int (0 : Int32))) (F_w_GREATER_OR_EQUAL_whenBefore : Fld Z h0 w_GREATER_OR_EQUAL "com/example/polyphony/polyphony/policy/Operator" "whenBefore" "Z" (.int (0 : Int32))) (F_w_GREATER_OR_EQUAL_whenEqual : Fld Z h0 w_GREATER_OR_EQUAL "com/example/polyphony/polyphony/policy/Operator" "whenEqual" "Z" (.int (1 : Int32))) (F_w_GREATER_OR_EQUAL_whenAfter : Fld Z h0 w_GREATER_OR_EQUAL "com/example/polyphony/polyphony/policy/Operator" "whenAfter" "Z" (.int (1 : Int32))) (F_v : FitC Z clv) (S_v : clv.slots.size = (6 : Int32).toNatClampNeg) (H_v : Has clv [(.ref w_EQUAL), (.ref w_NOT_EQUAL), (.ref w_LESS), (.ref w_LESS_OR_EQUAL), (.ref w_GREATER), (.ref w_GREATER_OR_EQUAL)] .null) (G_v : ∀ i, i < clv.slots.size → fits (.object "com/example/polyphony/polyphony/policy/Operator") ([(.ref w_EQUAL), (.ref w_NOT_EQUAL), (.ref w_LESS), (.ref w_LESS_OR_EQUAL), (.ref w_GREATER), (.ref w_GREATER_OR_EQUAL)].getD i .null) = true) (hz : ¬ (zc = (0 : Int32))) (hi : ((p1 &&& (2147483647 : Int32)) - ((p1 &&& (2147483647 : Int32)) / (6 : Int32)) * (6 : Int32)) = (5 : Int32)) (hrn : p2 < (0 : Int32) → r = (0 : Int32)) (hrz : ¬ (p2 < (0 : Int32)) → p2 = (0 : Int32) → r = (1 : Int32)) (hrp : ¬ (p2 < (0 : Int32)) → ¬ (p2 = (0 : Int32)) → r = (1 : Int32)) (ht : p2 < (0 : Int32) → r = (0 : Int32)) (hf : ¬ (p2 < (0 : Int32)) → r = (1 : Int32)) :
    own_Met l Z x code maxLocals ret ws room_1 #[(.int p1), (.int p2)] h0 (fun v h L => v = some (.int 1) ∧ Fr n0 L) := by
  refine own_body (plainFor_of_name own_pn_com_example_polyphony_polyphony_policy_OperatorOfPinLaw) (fun p e s m below meth c s₁ hx hby hml0 hrt hlk hown0 hnm hZ X0 e0 => ?_)
  have N0 := Fr.nil n0
  have hown : s.vm.findClass "com/example/polyphony/polyphony/policy/OperatorOfPinLaw" = some m.cls := hown0
  have hml : c.maxLocals = 8 := hml0
  refine own_castG (own_ef11 m p1 p2) ?_
  show own_Goes _ _ _ _ s₁ (mkF m 0 #[.val (.int p1), .val (.int p2), .unset, .unset, .unset, .unset, .unset, .unset] [])
  refine own_step (fun t k => XS.iloadN X0.here hx rfl (hb hby at_0) rfl k) ?_
  show own_Goes _ _ _ _ s₁ (mkF m 1 #[.val (.int p1), .val (.int p2), .unset, .unset, .unset, .unset, .unset, .unset] [(.int p1)])
  refine own_step (X0.ldcInt hx hown (mvT hZ (hw _ (List.mem_of_getElem? (i := 0) rfl))) (g := (mkF m 1 #[.val (.int p1), .val (.int p2), .unset, .unset, .unset, .unset, .unset, .unset] [(.int p1)])) rfl (hb hby at_1)) ?_
  show own_Goes _ _ _ _ s₁ (mkF m 3 #[.val (.int p1), .val (.int p2), .unset, .unset, .unset, .unset, .unset, .unset] [(.int (2147483647 : Int32)), (.int p1)])
  refine own_step (fun t k => XS.iand X0.here hx rfl (hb hby at_3) rfl k) ?_
  show own_Goes _ _ _ _ s₁ (mkF m 4 #[.val (.int p1), .val (.int p2), .unset, .unset, .unset, .unset, .unset, .unset] [(.int (p1 &&& (2147483647 : Int32)))])
  refine own_step (fun t k => XS.bipush X0.here hx rfl (hb hby at_4) k) ?_
  show own_Goes _ _ _ _ s₁ (mkF m 6 #[.val (.int p1), .val (.int p2), .unset, .unset, .unset, .unset, .unset, .unset] [(.int (6 : Int32)), (.int (p1 &&& (2147483647 : Int32)))])
  refine own_step (fun t k => XS.irem X0.here hx rfl (hb hby at_6) rfl (by decide) k) ?_
  show own_Goes _ _ _ _ s₁ (mkF m 7 #[.val (.int p1), .val (.int p2), .unset, .unset, .unset, .unset, .unset, .unset] [(.int ((p1 &&& (2147483647 : Int32)) - ((p1 &&& (2147483647 : Int32)) / (6 : Int32)) * (6 : Int32)))])
  rw [hi]
  show own_Goes _ _ _ _ s₁ (mkF m 7 #[.val (.int p1), .val (.int p2), .unset, .unset, .unset, .unset, .unset, .unset] [(.int (5 : Int32))])
  refine own_step (fun t k => XS.istoreN X0.here hx rfl (hb hby at_7) rfl (l' := #[.val (.int p1), .val (.int p2), .val (.int (5 : Int32)), .unset, .unset, .unset, .unset, .unset]) rfl k) ?_
  show own_Goes _ _ _ _ s₁ (mkF m 8 #[.val (.int p1), .val (.int p2), .val (.int (5 : Int32)), .unset, .unset, .unset, .unset, .unset] [])
  refine own_step (fun t k => XS.iloadN X0.here hx rfl (hb hby at_8) rfl k) ?_
  show own_Goes _ _ _ _ s₁ (mkF m 9 #[.val (.int p1), .val (.int p2), .val (.int (5 : Int32)), .unset, .unset, .unset, .unset, .unset] [(.int (5 : Int32))])
  refine own_step (fun t k => XS.ifYes X0.here hx rfl (pc0 := 9) (pc' := 45) rfl (hb hby at_9) rfl ((if0 _ _).trans (feq (show ¬ ((5 : Int32) = (0 : Int32)) from (by decide))).2) (by decide) (by decide) k) ?_
  show own_Goes _ _ _ _ s₁ (mkF m 45 #[.val (.int p1), .val (.int p2), .val (.int (5 : Int32)), .unset, .unset, .unset, .unset, .unset] [])
  refine own_step (fun t k => XS.iloadN X0.here hx rfl (hb hby at_45) rfl k) ?_
  show own_Goes _ _ _ _ s₁ (mkF m 46 #[.val (.int p1), .val (.int p2), .val (.int (5 : Int32)), .unset, .unset, .unset, .unset, .unset] [(.int (5 : Int32))])
  refine own_step (fun t k => XS.iconst X0.here hx rfl (hb hby at_46) k) ?_
  show own_Goes _ _ _ _ s₁ (mkF m 47 #[.val (.int p1), .val (.int p2), .val (.int (5 : Int32)), .unset, .unset, .unset, .unset, .unset] [(.int (1 : Int32)), (.int (5 : Int32))])
  refine own_step (fun t k => XS.icmpYes X0.here hx rfl (pc0 := 47) (pc' := 83) rfl (hb hby at_47) rfl (feq (show ¬ ((5 : Int32) = (1 : Int32)) from (by decide))).2 (by decide) (by decide) k) ?_
  show own_Goes _ _ _ _ s₁ (mkF m 83 #[.val (.int p1), .val (.int p2), .val (.int (5 : Int32)), .unset, .unset, .unset, .unset, .unset] [])
  refine own_step (fun t k => XS.iloadN X0.here hx rfl (hb hby at_83) rfl k) ?_
  show own_Goes _ _ _ _ s₁ (mkF m 84 #[.val (.int p1), .val (.int p2), .val (.int (5 : Int32)), .unset, .unset, .unset, .unset, .unset] [(.int (5 : Int32))])
  refine own_step (fun t k => XS.iconst X0.here hx rfl (hb hby at_84) k) ?_
  show own_Goes _ _ _ _ s₁ (mkF m 85 #[.val (.int p1), .val (.int p2), .val (.int (5 : Int32)), .unset, .unset, .unset, .unset, .unset] [(.int (2 : Int32)), (.int (5 : Int32))])
  refine own_step (fun t k => XS.icmpYes X0.here hx rfl (pc0 := 85) (pc' := 116) rfl (hb hby at_85) rfl (feq (show ¬ ((5 : Int32) = (2 : Int32)) from (by decide))).2 (by decide) (by decide) k) ?_
  show own_Goes _ _ _ _ s₁ (mkF m 116 #[.val (.int p1), .val (.int p2), .val (.int (5 : Int32)), .unset, .unset, .unset, .unset, .unset] [])
  refine own_step (fun t k => XS.iloadN X0.here hx rfl (hb hby at_116) rfl k) ?_
  show own_Goes _ _ _ _ s₁ (mkF m 117 #[.val (.int p1), .val (.int p2), .val (.int (5 : Int32)), .unset, .unset, .unset, .unset, .unset] [(.int (5 : Int32))])
  refine own_step (fun t k => XS.iconst X0.here hx rfl (hb hby at_117) k) ?_
  show own_Goes _ _ _ _ s₁ (mkF m 118 #[.val (.int p1), .val (.int p2), .val (.int (5 : Int32)), .unset, .unset, .unset, .unset, .unset] [(.int (3 : Int32)), (.int (5 : Int32))])
  refine own_step (fun t k => XS.icmpYes X0.here hx rfl (pc0 := 118) (pc' := 154) rfl (hb hby at_118) rfl (feq (show ¬ ((5 : Int32) = (3 : Int32)) from (by decide))).2 (by decide) (by decide) k) ?_
  show own_Goes _ _ _ _ s₁ (mkF m 154 #[.val (.int p1), .val (.int p2), .val (.int (5 : Int32)), .unset, .unset, .unset, .unset, .unset] [])
  refine own_step (fun t k => XS.iloadN X0.here hx rfl (hb hby at_154) rfl k) ?_
  show own_Goes _ _ _ _ s₁ (mkF m 155 #[.val (.int p1), .val (.int p2), .val (.int (5 : Int32)), .unset, .unset, .unset, .unset, .unset] [(.int (5 : Int32))])
  refine own_step (fun t k => XS.iconst X0.here hx rfl (hb hby at_155) k) ?_
  show own_Goes _ _ _ _ s₁ (mkF m 156 #[.val (.int p1), .val (.int p2), .val (.int (5 : Int32)), .unset, .unset, .unset, .unset, .unset] [(.int (4 : Int32)), (.int (5 : Int32))])
  refine own_step (fun t k => XS.icmpYes X0.here hx rfl (pc0 := 156) (pc' := 187) rfl (hb hby at_156) rfl (feq (show ¬ ((5 : Int32) = (4 : Int32)) from (by decide))).2 (by decide) (by decide) k) ?_
  show own_Goes _ _ _ _ s₁ (mkF m 187 #[.val (.int p1), .val (.int p2), .val (.int (5 : Int32)), .unset, .unset, .unset, .unset, .unset] [])
  refine own_step (fun t k => XS.iconst X0.here hx rfl (hb hby at_187) k) ?_
  show own_Goes _ _ _ _ s₁ (mkF m 188 #[.val (.int p1), .val (.int p2), .val (.int (5 : Int32)), .unset, .unset, .unset, .unset, .unset] [(.int (2 : Int32))])
  obtain ⟨T1, h1, k1, X1, e1, E1, A1, st1⟩ := newP X0 hx hZ (hw _ (List.mem_of_getElem? (i := 1) rfl)) e0 (g := (mkF m 188 #[.val (.int p1), .val (.int p2), .val (.int (5 : Int32)), .unset, .unset, .unset, .unset, .unset] [(.int (2 : Int32))])) rfl (hb hby at_188) rfl (by decide) (cap := 2) (by decide) (by decide) (by decide) (by decide)
  obtain ⟨b1, g1⟩ : ∃ z, z = h0.size := ⟨_, rfl⟩
  rw [← g1] at A1 st1
  refine own_step st1 ?_
  have g_b1 : n0 ≤ b1 := Nat.le_trans Z0 (Nat.le_of_eq g1.symm)
  have sz_b1 : h0.size ≤ b1 := Nat.le_trans (Keep.refl h0 []).1 (Nat.le_of_eq g1.symm)
  have ne_w_GREATER_OR_EQUAL_b1 : w_GREATER_OR_EQUAL ≠ b1 := Nat.ne_of_lt (Nat.lt_of_lt_of_le E_w_GREATER_OR_EQUAL.lt (Nat.le_of_eq g1.symm))
  have ne_w_V_b1 : w_V ≠ b1 := Nat.ne_of_lt (Nat.lt_of_lt_of_le E_w_V.lt (Nat.le_of_eq g1.symm))
  have ne_w_EQUAL_b1 : w_EQUAL ≠ b1 := Nat.ne_of_lt (Nat.lt_of_lt_of_le F_w_EQUAL_symbol.lt (Nat.le_of_eq g1.symm))
  have ne_y_EQUAL_b1 : y_EQUAL ≠ b1 := Nat.ne_of_lt (Nat.lt_of_lt_of_le E_y_EQUAL.lt (Nat.le_of_eq g1.symm))
  have ne_z_EQUAL_b1 : z_EQUAL ≠ b1 := Nat.ne_of_lt (Nat.lt_of_lt_of_le V_z_EQUAL.lt (Nat.le_of_eq g1.symm))
  have ne_w_NOT_EQUAL_b1 : w_NOT_EQUAL ≠ b1 := Nat.ne_of_lt (Nat.lt_of_lt_of_le F_w_NOT_EQUAL_symbol.lt (Nat.le_of_eq g1.symm))
  have ne_y_NOT_EQUAL_b1 : y_NOT_EQUAL ≠ b1 := Nat.ne_of_lt (Nat.lt_of_lt_of_le E_y_NOT_EQUAL.lt (Nat.le_of_eq g1.symm))
  have ne_z_NOT_EQUAL_b1 : z_NOT_EQUAL ≠ b1 := Nat.ne_of_lt (Nat.lt_of_lt_of_le V_z_NOT_EQUAL.lt (Nat.le_of_eq g1.symm))
  have ne_w_LESS_b1 : w_LESS ≠ b1 := Nat.ne_of_lt (Nat.lt_of_lt_of_le F_w_LESS_symbol.lt (Nat.le_of_eq g1.symm))
  have ne_y_LESS_b1 : y_LESS ≠ b1 := Nat.ne_of_lt (Nat.lt_of_lt_of_le E_y_LESS.lt (Nat.le_of_eq g1.symm))
  have ne_z_LESS_b1 : z_LESS ≠ b1 := Nat.ne_of_lt (Nat.lt_of_lt_of_le V_z_LESS.lt (Nat.le_of_eq g1.symm))
  have ne_w_LESS_OR_EQUAL_b1 : w_LESS_OR_EQUAL ≠ b1 := Nat.ne_of_lt (Nat.lt_of_lt_of_le F_w_LESS_OR_EQUAL_symbol.lt (Nat.le_of_eq g1.symm))
  have ne_y_LESS_OR_EQUAL_b1 : y_LESS_OR_EQUAL ≠ b1 := Nat.ne_of_lt (Nat.lt_of_lt_of_le E_y_LESS_OR_EQUAL.lt (Nat.le_of_eq g1.symm))
  have ne_z_LESS_OR_EQUAL_b1 : z_LESS_OR_EQUAL ≠ b1 := Nat.ne_of_lt (Nat.lt_of_lt_of_le V_z_LESS_OR_EQUAL.lt (Nat.le_of_eq g1.symm))
  have ne_w_GREATER_b1 : w_GREATER ≠ b1 := Nat.ne_of_lt (Nat.lt_of_lt_of_le F_w_GREATER_symbol.lt (Nat.le_of_eq g1.symm))
  have ne_y_GREATER_b1 : y_GREATER ≠ b1 := Nat.ne_of_lt (Nat.lt_of_lt_of_le E_y_GREATER.lt (Nat.le_of_eq g1.symm))
  have ne_z_GREATER_b1 : z_GREATER ≠ b1 := Nat.ne_of_lt (Nat.lt_of_lt_of_le V_z_GREATER.lt (Nat.le_of_eq g1.symm))
  have ne_y_GREATER_OR_EQUAL_b1 : y_GREATER_OR_EQUAL ≠ b1 := Nat.ne_of_lt (Nat.lt_of_lt_of_le E_y_GREATER_OR_EQUAL.lt (Nat.le_of_eq g1.symm))
  have ne_z_GREATER_OR_EQUAL_b1 : z_GREATER_OR_EQUAL ≠ b1 := Nat.ne_of_lt (Nat.lt_of_lt_of_le V_z_GREATER_OR_EQUAL.lt (Nat.le_of_eq g1.symm))
  have K1 := (Keep.refl h0 []).ext E1
  have V_b1 : Arv Z h1 b1 k1 .char (2 : Int32) [(.int (0 : Int32)), (.int (0 : Int32))] (.int (0 : Int32)) := (Arv.new A1 (by decide)).pad (pad_rep [] (.int (0 : Int32)) 2)
  show own_Goes _ _ _ _ T1 (mkF m 190 #[.val (.int p1), .val (.int p2), .val (.int (5 : Int32)), .unset, .unset, .unset, .unset, .unset] [(.ref b1)])
  refine own_step (fun t k => XS.dup X1.here hx rfl (hb hby at_190) rfl rfl k) ?_
  show own_Goes _ _ _ _ T1 (mkF m 191 #[.val (.int p1), .val (.int p2), .val (.int (5 : Int32)), .unset, .unset, .unset, .unset, .unset] [(.ref b1), (.ref b1)])
  refine own_step (fun t k => XS.iconst X1.here hx rfl (hb hby at_191) k) ?_
  show own_Goes _ _ _ _ T1 (mkF m 192 #[.val (.int p1), .val (.int p2), .val (.int (5 : Int32)), .unset, .unset, .unset, .unset, .unset] [(.int (0 : Int32)), (.ref b1), (.ref b1)])
  refine own_step (fun t k => XS.bipush X1.here hx rfl (hb hby at_192) k) ?_
  show own_Goes _ _ _ _ T1 (mkF m 194 #[.val (.int p1), .val (.int p2), .val (.int (5 : Int32)), .unset, .unset, .unset, .unset, .unset] [(.int (62 : Int32)), (.int (0 : Int32)), (.ref b1), (.ref b1)])
  obtain ⟨T2, h2, X2, e2, W2, V2, st2⟩ := own_castore X1 hx hZ e1 V_b1 (x := (62 : Int32)) (62 : Int32) rfl (j := (0 : Int32)) ⟨by decide, by decide⟩ 0 rfl (Nat.le_of_ble_eq_true rfl) (g := (mkF m 194 #[.val (.int p1), .val (.int p2), .val (.int (5 : Int32)), .unset, .unset, .unset, .unset, .unset] [(.int (62 : Int32)), (.int (0 : Int32)), (.ref b1), (.ref b1)])) rfl rfl (hb hby at_194)
  refine own_step st2 ?_
  have K2 := K1.wr W2 (Or.inr sz_b1)
  have N2 := Fr.snoc X2 N0 g_b1
  have V2' : Arv Z h2 b1 k1 .char (2 : Int32) [(.int (62 : Int32)), (.int (0 : Int32))] (.int (0 : Int32)) := V2
  show own_Goes _ _ _ _ T2 (mkF m 195 #[.val (.int p1), .val (.int p2), .val (.int (5 : Int32)), .unset, .unset, .unset, .unset, .unset] [(.ref b1)])
  refine own_step (fun t k => XS.dup X2.here hx rfl (hb hby at_195) rfl rfl k) ?_
  show own_Goes _ _ _ _ T2 (mkF m 196 #[.val (.int p1), .val (.int p2), .val (.int (5 : Int32)), .unset, .unset, .unset, .unset, .unset] [(.ref b1), (.ref b1)])
  refine own_step (fun t k => XS.iconst X2.here hx rfl (hb hby at_196) k) ?_
  show own_Goes _ _ _ _ T2 (mkF m 197 #[.val (.int p1), .val (.int p2), .val (.int (5 : Int32)), .unset, .unset, .unset, .unset, .unset] [(.int (1 : Int32)), (.ref b1), (.ref b1)])
  refine own_step (fun t k => XS.bipush X2.here hx rfl (hb hby at_197) k) ?_
  show own_Goes _ _ _ _ T2 (mkF m 199 #[.val (.int p1), .val (.int p2), .val (.int (5 : Int32)), .unset, .unset, .unset, .unset, .unset] [(.int (61 : Int32)), (.int (1 : Int32)), (.ref b1), (.ref b1)])
  obtain ⟨T3, h3, X3, e3, W3, V3, st3⟩ := own_castore X2 hx hZ e2 V2' (x := (61 : Int32)) (61 : Int32) rfl (j := (1 : Int32)) ⟨by decide, by decide⟩ 1 rfl (Nat.le_of_ble_eq_true rfl) (g := (mkF m 199 #[.val (.int p1), .val (.int p2), .val (.int (5 : Int32)), .unset, .unset, .unset, .unset, .unset] [(.int (61 : Int32)), (.int (1 : Int32)), (.ref b1), (.ref b1)])) rfl rfl (hb hby at_199)
  refine own_step st3 ?_
  have K3 := K2.wr W3 (Or.inr sz_b1)
  have N3 := Fr.snoc X3 N2 g_b1
  have V3' : Arv Z h3 b1 k1 .char (2 : Int32) [(.int (62 : Int32)), (.int (61 : Int32))] (.int (0 : Int32)) := V3
  show own_Goes _ _ _ _ T3 (mkF m 200 #[.val (.int p1), .val (.int p2), .val (.int (5 : Int32)), .unset, .unset, .unset, .unset, .unset] [(.ref b1)])
  refine own_step (fun t k => XS.astoreN X3.here hx rfl (hb hby at_200) rfl rfl (l' := #[.val (.int p1), .val (.int p2), .val (.int (5 : Int32)), .val (.ref b1), .unset, .unset, .unset, .unset]) rfl k) ?_
  show own_Goes _ _ _ _ T3 (mkF m 201 #[.val (.int p1), .val (.int p2), .val (.int (5 : Int32)), .val (.ref b1), .unset, .unset, .unset, .unset] [])
  have S_GREATER_OR_EQUAL_v5 := (((S_GREATER_OR_EQUAL.ext E1).wr W2).wr W3)
  obtain ⟨T4, X4, e4, st4⟩ := getS2 X3 hx hZ hown (host := "") (Or.inl (hw _ (List.mem_of_getElem? (i := 87) rfl))) Via.refl e3 S_GREATER_OR_EQUAL_v5 (g := (mkF m 201 #[.val (.int p1), .val (.int p2), .val (.int (5 : Int32)), .val (.ref b1), .unset, .unset, .unset, .unset] [])) rfl (hb hby at_201)
  refine own_step st4 ?_
  show own_Goes _ _ _ _ T4 (mkF m 204 #[.val (.int p1), .val (.int p2), .val (.int (5 : Int32)), .val (.ref b1), .unset, .unset, .unset, .unset] [(.ref w_GREATER_OR_EQUAL)])
  refine own_step (fun t k => XS.astore X4.here hx rfl (hb hby at_204) rfl rfl (l' := #[.val (.int p1), .val (.int p2), .val (.int (5 : Int32)), .val (.ref b1), .val (.ref w_GREATER_OR_EQUAL), .unset, .unset, .unset]) rfl k) ?_
  show own_Goes _ _ _ _ T4 (mkF m 206 #[.val (.int p1), .val (.int p2), .val (.int (5 : Int32)), .val (.ref b1), .val (.ref w_GREATER_OR_EQUAL), .unset, .unset, .unset] [])
  refine own_step (fun t k => XS.iloadN X4.here hx rfl (hb hby at_206) rfl k) ?_
  show own_Goes _ _ _ _ T4 (mkF m 207 #[.val (.int p1), .val (.int p2), .val (.int (5 : Int32)), .val (.ref b1), .val (.ref w_GREATER_OR_EQUAL), .unset, .unset, .unset] [(.int p2)])
  have tail : own_Goes p e below (own_K s (fun v h L => v = some (.int 1) ∧ Fr n0 L) room_1.cells room_1.slots) T4 (mkF m 217 #[.val (.int p1), .val (.int p2), .val (.int (5 : Int32)), .val (.ref b1), .val (.ref w_GREATER_OR_EQUAL), .val (.int r), .unset, .unset] []) := by
    obtain ⟨T6, h6, X6, e6, E6, A6, D6, -, st6⟩ := newO X4 hx hZ hown (hw _ (List.mem_of_getElem? (i := 5) rfl)) (hw _ (List.mem_of_getElem? (i := 6) rfl)) (hw _ (List.mem_of_getElem? (i := 7) rfl)) e4 (g := (mkF m 217 #[.val (.int p1), .val (.int p2), .val (.int (5 : Int32)), .val (.ref b1), .val (.ref w_GREATER_OR_EQUAL), .val (.int r), .unset, .unset] [])) rfl (hb hby at_217) (by decide) (by decide)
    obtain ⟨b6, g6⟩ : ∃ z, z = h3.size := ⟨_, rfl⟩
    rw [← g6] at A6 D6 st6
    refine own_step st6 ?_
    have g_b6 : n0 ≤ b6 := Nat.le_trans (Nat.le_trans Z0 K3.1) (Nat.le_of_eq g6.symm)
    have sz_b6 : h0.size ≤ b6 := Nat.le_trans K3.1 (Nat.le_of_eq g6.symm)
    have E_w_GREATER_OR_EQUAL_v7 := (((E_w_GREATER_OR_EQUAL.ext E1).wr W2).wr W3)
    have ne_w_GREATER_OR_EQUAL_b6 : w_GREATER_OR_EQUAL ≠ b6 := Nat.ne_of_lt (Nat.lt_of_lt_of_le E_w_GREATER_OR_EQUAL_v7.lt (Nat.le_of_eq g6.symm))
    have E_w_V_v8 := (((E_w_V.ext E1).wr W2).wr W3)
    have ne_w_V_b6 : w_V ≠ b6 := Nat.ne_of_lt (Nat.lt_of_lt_of_le E_w_V_v8.lt (Nat.le_of_eq g6.symm))
    have F_w_EQUAL_symbol_v9 := (((F_w_EQUAL_symbol.ext E1).other W2 (Or.inl ne_w_EQUAL_b1)).other W3 (Or.inl ne_w_EQUAL_b1))
    have ne_w_EQUAL_b6 : w_EQUAL ≠ b6 := Nat.ne_of_lt (Nat.lt_of_lt_of_le F_w_EQUAL_symbol_v9.lt (Nat.le_of_eq g6.symm))
    have E_y_EQUAL_v10 := (((E_y_EQUAL.ext E1).wr W2).wr W3)
    have ne_y_EQUAL_b6 : y_EQUAL ≠ b6 := Nat.ne_of_lt (Nat.lt_of_lt_of_le E_y_EQUAL_v10.lt (Nat.le_of_eq g6.symm))
    have V_z_EQUAL_v11 := (((V_z_EQUAL.ext E1).other W2 ne_z_EQUAL_b1).other W3 ne_z_EQUAL_b1)
    have ne_z_EQUAL_b6 : z_EQUAL ≠ b6 := Nat.ne_of_lt (Nat.lt_of_lt_of_le V_z_EQUAL_v11.lt (Nat.le_of_eq g6.symm))
    have F_w_NOT_EQUAL_symbol_v12 := (((F_w_NOT_EQUAL_symbol.ext E1).other W2 (Or.inl ne_w_NOT_EQUAL_b1)).other W3 (Or.inl ne_w_NOT_EQUAL_b1))
    have ne_w_NOT_EQUAL_b6 : w_NOT_EQUAL ≠ b6 := Nat.ne_of_lt (Nat.lt_of_lt_of_le F_w_NOT_EQUAL_symbol_v12.lt (Nat.le_of_eq g6.symm))
    have E_y_NOT_EQUAL_v13 := (((E_y_NOT_EQUAL.ext E1).wr W2).wr W3)
    have ne_y_NOT_EQUAL_b6 : y_NOT_EQUAL ≠ b6 := Nat.ne_of_lt (Nat.lt_of_lt_of_le E_y_NOT_EQUAL_v13.lt (Nat.le_of_eq g6.symm))
    have V_z_NOT_EQUAL_v14 := (((V_z_NOT_EQUAL.ext E1).other W2 ne_z_NOT_EQUAL_b1).other W3 ne_z_NOT_EQUAL_b1)
    have ne_z_NOT_EQUAL_b6 : z_NOT_EQUAL ≠ b6 := Nat.ne_of_lt (Nat.lt_of_lt_of_le V_z_NOT_EQUAL_v14.lt (Nat.le_of_eq g6.symm))
    have F_w_LESS_symbol_v15 := (((F_w_LESS_symbol.ext E1).other W2 (Or.inl ne_w_LESS_b1)).other W3 (Or.inl ne_w_LESS_b1))
    have ne_w_LESS_b6 : w_LESS ≠ b6 := Nat.ne_of_lt (Nat.lt_of_lt_of_le F_w_LESS_symbol_v15.lt (Nat.le_of_eq g6.symm))
    have E_y_LESS_v16 := (((E_y_LESS.ext E1).wr W2).wr W3)
    have ne_y_LESS_b6 : y_LESS ≠ b6 := Nat.ne_of_lt (Nat.lt_of_lt_of_le E_y_LESS_v16.lt (Nat.le_of_eq g6.symm))
    have V_z_LESS_v17 := (((V_z_LESS.ext E1).other W2 ne_z_LESS_b1).other W3 ne_z_LESS_b1)
    have ne_z_LESS_b6 : z_LESS ≠ b6 := Nat.ne_of_lt (Nat.lt_of_lt_of_le V_z_LESS_v17.lt (Nat.le_of_eq g6.symm))
    have F_w_LESS_OR_EQUAL_symbol_v18 := (((F_w_LESS_OR_EQUAL_symbol.ext E1).other W2 (Or.inl ne_w_LESS_OR_EQUAL_b1)).other W3 (Or.inl ne_w_LESS_OR_EQUAL_b1))
    have ne_w_LESS_OR_EQUAL_b6 : w_LESS_OR_EQUAL ≠ b6 := Nat.ne_of_lt (Nat.lt_of_lt_of_le F_w_LESS_OR_EQUAL_symbol_v18.lt (Nat.le_of_eq g6.symm))
    have E_y_LESS_OR_EQUAL_v19 := (((E_y_LESS_OR_EQUAL.ext E1).wr W2).wr W3)
    have ne_y_LESS_OR_EQUAL_b6 : y_LESS_OR_EQUAL ≠ b6 := Nat.ne_of_lt (Nat.lt_of_lt_of_le E_y_LESS_OR_EQUAL_v19.lt (Nat.le_of_eq g6.symm))
    have V_z_LESS_OR_EQUAL_v20 := (((V_z_LESS_OR_EQUAL.ext E1).other W2 ne_z_LESS_OR_EQUAL_b1).other W3 ne_z_LESS_OR_EQUAL_b1)
    have ne_z_LESS_OR_EQUAL_b6 : z_LESS_OR_EQUAL ≠ b6 := Nat.ne_of_lt (Nat.lt_of_lt_of_le V_z_LESS_OR_EQUAL_v20.lt (Nat.le_of_eq g6.symm))
    have F_w_GREATER_symbol_v21 := (((F_w_GREATER_symbol.ext E1).other W2 (Or.inl ne_w_GREATER_b1)).other W3 (Or.inl ne_w_GREATER_b1))
    have ne_w_GREATER_b6 : w_GREATER ≠ b6 := Nat.ne_of_lt (Nat.lt_of_lt_of_le F_w_GREATER_symbol_v21.lt (Nat.le_of_eq g6.symm))
    have E_y_GREATER_v22 := (((E_y_GREATER.ext E1).wr W2).wr W3)
    have ne_y_GREATER_b6 : y_GREATER ≠ b6 := Nat.ne_of_lt (Nat.lt_of_lt_of_le E_y_GREATER_v22.lt (Nat.le_of_eq g6.symm))
    have V_z_GREATER_v23 := (((V_z_GREATER.ext E1).other W2 ne_z_GREATER_b1).other W3 ne_z_GREATER_b1)
    have ne_z_GREATER_b6 : z_GREATER ≠ b6 := Nat.ne_of_lt (Nat.lt_of_lt_of_le V_z_GREATER_v23.lt (Nat.le_of_eq g6.symm))
    have E_y_GREATER_OR_EQUAL_v24 := (((E_y_GREATER_OR_EQUAL.ext E1).wr W2).wr W3)
    have ne_y_GREATER_OR_EQUAL_b6 : y_GREATER_OR_EQUAL ≠ b6 := Nat.ne_of_lt (Nat.lt_of_lt_of_le E_y_GREATER_OR_EQUAL_v24.lt (Nat.le_of_eq g6.symm))
    have V_z_GREATER_OR_EQUAL_v25 := (((V_z_GREATER_OR_EQUAL.ext E1).other W2 ne_z_GREATER_OR_EQUAL_b1).other W3 ne_z_GREATER_OR_EQUAL_b1)
    have ne_z_GREATER_OR_EQUAL_b6 : z_GREATER_OR_EQUAL ≠ b6 := Nat.ne_of_lt (Nat.lt_of_lt_of_le V_z_GREATER_OR_EQUAL_v25.lt (Nat.le_of_eq g6.symm))
    have ne_b1_b6 : b1 ≠ b6 := Nat.ne_of_lt (Nat.lt_of_lt_of_le V3'.lt (Nat.le_of_eq g6.symm))
    have K6 := K3.ext E6
    have F_b6_coder : Fld Z h6 b6 "java/lang/String" "coder" "B" (.int (0 : Int32)) := D6 (Or.inr (hw _ (List.mem_of_getElem? (i := 31) rfl))) (ty := .byte) (by decide)
    have F_b6_value : Fld Z h6 b6 "java/lang/String" "value" "[B" .null := D6 (Or.inr (hw _ (List.mem_of_getElem? (i := 33) rfl))) (ty := (.array .byte)) (by decide)
    show own_Goes _ _ _ _ T6 (mkF m 220 #[.val (.int p1), .val (.int p2), .val (.int (5 : Int32)), .val (.ref b1), .val (.ref w_GREATER_OR_EQUAL), .val (.int r), .unset, .unset] [(.ref b6)])
    refine own_step (fun t k => XS.dup X6.here hx rfl (hb hby at_220) rfl rfl k) ?_
    show own_Goes _ _ _ _ T6 (mkF m 221 #[.val (.int p1), .val (.int p2), .val (.int (5 : Int32)), .val (.ref b1), .val (.ref w_GREATER_OR_EQUAL), .val (.int r), .unset, .unset] [(.ref b6), (.ref b6)])
    refine own_step (fun t k => XS.aloadN X6.here hx rfl (hb hby at_221) rfl rfl k) ?_
    show own_Goes _ _ _ _ T6 (mkF m 222 #[.val (.int p1), .val (.int p2), .val (.int (5 : Int32)), .val (.ref b1), .val (.ref w_GREATER_OR_EQUAL), .val (.int r), .unset, .unset] [(.ref b1), (.ref b6), (.ref b6)])
    have V3'_v26 := (V3'.ext E6)
    have S_COMPACT_STRINGS_v27 := ((((S_COMPACT_STRINGS.ext E1).wr W2).wr W3).ext E6)
    refine own_callC X6 hx hZ (y := (⟨"java/lang/String", "<init>", "([C)V"⟩ : MethodName)) rfl hown (hw _ (List.mem_of_getElem? (i := 8) rfl)) (hw _ (List.mem_of_getElem? (i := 9) rfl)) (hw _ (List.mem_of_getElem? (i := 10) rfl)) (hw _ (List.mem_of_getElem? (i := 7) rfl)) (by decide) 1 (a := b6) [(.ref b1)] [(.ref b6)] (own_sinit_2 l Z a0 hw [] b6 b1 k1 (62 : Int32) (61 : Int32) zc h6 n0 (Nat.le_trans Z0 K6.1) A6 F_b6_value F_b6_coder V3'_v26 S_COMPACT_STRINGS_v27 (by decide) (by decide) hz g_b6) e6 (by decide) (by decide) (by decide) (by decide) (g := (mkF m 222 #[.val (.int p1), .val (.int p2), .val (.int (5 : Int32)), .val (.ref b1), .val (.ref w_GREATER_OR_EQUAL), .val (.int r), .unset, .unset] [(.ref b1), (.ref b6), (.ref b6)])) rfl (by rw [hml]; rfl) own_pd7 rfl rfl (by show 2 * 0 + _ ≤ _; exact Nat.le_of_eq rfl) (hb hby at_222) ?_
    intro T28 v28 L28 X28 hQ28
    have E_w_GREATER_OR_EQUAL_v29 := (E_w_GREATER_OR_EQUAL_v7.ext E6)
    have E_w_V_v30 := (E_w_V_v8.ext E6)
    have F_w_EQUAL_symbol_v31 := (F_w_EQUAL_symbol_v9.ext E6)
    have E_y_EQUAL_v32 := (E_y_EQUAL_v10.ext E6)
    have V_z_EQUAL_v33 := (V_z_EQUAL_v11.ext E6)
    have F_w_NOT_EQUAL_symbol_v34 := (F_w_NOT_EQUAL_symbol_v12.ext E6)
    have E_y_NOT_EQUAL_v35 := (E_y_NOT_EQUAL_v13.ext E6)
    have V_z_NOT_EQUAL_v36 := (V_z_NOT_EQUAL_v14.ext E6)
    have F_w_LESS_symbol_v37 := (F_w_LESS_symbol_v15.ext E6)
    have E_y_LESS_v38 := (E_y_LESS_v16.ext E6)
    have V_z_LESS_v39 := (V_z_LESS_v17.ext E6)
    have F_w_LESS_OR_EQUAL_symbol_v40 := (F_w_LESS_OR_EQUAL_symbol_v18.ext E6)
    have E_y_LESS_OR_EQUAL_v41 := (E_y_LESS_OR_EQUAL_v19.ext E6)
    have V_z_LESS_OR_EQUAL_v42 := (V_z_LESS_OR_EQUAL_v20.ext E6)
    have F_w_GREATER_symbol_v43 := (F_w_GREATER_symbol_v21.ext E6)
    have E_y_GREATER_v44 := (E_y_GREATER_v22.ext E6)
    have V_z_GREATER_v45 := (V_z_GREATER_v23.ext E6)
    have E_y_GREATER_OR_EQUAL_v46 := (E_y_GREATER_OR_EQUAL_v24.ext E6)
    have V_z_GREATER_OR_EQUAL_v47 := (V_z_GREATER_OR_EQUAL_v25.ext E6)
    obtain ⟨b28_0, k28_0, rfl, N28q, Kq28, zq28_0, q28_0, q28_1, q28_2, q28_3⟩ := hQ28
    have N28 := Fr.app N3 N28q
    have K28 := K6.trans Kq28 (allS (Or.inr sz_b6) all0)
    have g_b28_0 : n0 ≤ b28_0 := Nat.le_trans (Nat.le_trans Z0 K6.1) zq28_0
    have sz_b28_0 : h0.size ≤ b28_0 := Nat.le_trans K6.1 zq28_0
    have ne_w_GREATER_OR_EQUAL_b28_0 : w_GREATER_OR_EQUAL ≠ b28_0 := Nat.ne_of_lt (Nat.lt_of_lt_of_le E_w_GREATER_OR_EQUAL_v29.lt zq28_0)
    have ne_w_V_b28_0 : w_V ≠ b28_0 := Nat.ne_of_lt (Nat.lt_of_lt_of_le E_w_V_v30.lt zq28_0)
    have ne_w_EQUAL_b28_0 : w_EQUAL ≠ b28_0 := Nat.ne_of_lt (Nat.lt_of_lt_of_le F_w_EQUAL_symbol_v31.lt zq28_0)
    have ne_y_EQUAL_b28_0 : y_EQUAL ≠ b28_0 := Nat.ne_of_lt (Nat.lt_of_lt_of_le E_y_EQUAL_v32.lt zq28_0)
    have ne_z_EQUAL_b28_0 : z_EQUAL ≠ b28_0 := Nat.ne_of_lt (Nat.lt_of_lt_of_le V_z_EQUAL_v33.lt zq28_0)
    have ne_w_NOT_EQUAL_b28_0 : w_NOT_EQUAL ≠ b28_0 := Nat.ne_of_lt (Nat.lt_of_lt_of_le F_w_NOT_EQUAL_symbol_v34.lt zq28_0)
    have ne_y_NOT_EQUAL_b28_0 : y_NOT_EQUAL ≠ b28_0 := Nat.ne_of_lt (Nat.lt_of_lt_of_le E_y_NOT_EQUAL_v35.lt zq28_0)
    have ne_z_NOT_EQUAL_b28_0 : z_NOT_EQUAL ≠ b28_0 := Nat.ne_of_lt (Nat.lt_of_lt_of_le V_z_NOT_EQUAL_v36.lt zq28_0)
    have ne_w_LESS_b28_0 : w_LESS ≠ b28_0 := Nat.ne_of_lt (Nat.lt_of_lt_of_le F_w_LESS_symbol_v37.lt zq28_0)
    have ne_y_LESS_b28_0 : y_LESS ≠ b28_0 := Nat.ne_of_lt (Nat.lt_of_lt_of_le E_y_LESS_v38.lt zq28_0)
    have ne_z_LESS_b28_0 : z_LESS ≠ b28_0 := Nat.ne_of_lt (Nat.lt_of_lt_of_le V_z_LESS_v39.lt zq28_0)
    have ne_w_LESS_OR_EQUAL_b28_0 : w_LESS_OR_EQUAL ≠ b28_0 := Nat.ne_of_lt (Nat.lt_of_lt_of_le F_w_LESS_OR_EQUAL_symbol_v40.lt zq28_0)
    have ne_y_LESS_OR_EQUAL_b28_0 : y_LESS_OR_EQUAL ≠ b28_0 := Nat.ne_of_lt (Nat.lt_of_lt_of_le E_y_LESS_OR_EQUAL_v41.lt zq28_0)
    have ne_z_LESS_OR_EQUAL_b28_0 : z_LESS_OR_EQUAL ≠ b28_0 := Nat.ne_of_lt (Nat.lt_of_lt_of_le V_z_LESS_OR_EQUAL_v42.lt zq28_0)
    have ne_w_GREATER_b28_0 : w_GREATER ≠ b28_0 := Nat.ne_of_lt (Nat.lt_of_lt_of_le F_w_GREATER_symbol_v43.lt zq28_0)
    have ne_y_GREATER_b28_0 : y_GREATER ≠ b28_0 := Nat.ne_of_lt (Nat.lt_of_lt_of_le E_y_GREATER_v44.lt zq28_0)
    have ne_z_GREATER_b28_0 : z_GREATER ≠ b28_0 := Nat.ne_of_lt (Nat.lt_of_lt_of_le V_z_GREATER_v45.lt zq28_0)
    have ne_y_GREATER_OR_EQUAL_b28_0 : y_GREATER_OR_EQUAL ≠ b28_0 := Nat.ne_of_lt (Nat.lt_of_lt_of_le E_y_GREATER_OR_EQUAL_v46.lt zq28_0)
    have ne_z_GREATER_OR_EQUAL_b28_0 : z_GREATER_OR_EQUAL ≠ b28_0 := Nat.ne_of_lt (Nat.lt_of_lt_of_le V_z_GREATER_OR_EQUAL_v47.lt zq28_0)
    have ne_b1_b28_0 : b1 ≠ b28_0 := Nat.ne_of_lt (Nat.lt_of_lt_of_le V3'_v26.lt zq28_0)
    have ne_b6_b28_0 : b6 ≠ b28_0 := Nat.ne_of_lt (Nat.lt_of_lt_of_le A6.lt zq28_0)
    have q28_0' : Exa Z T28.heap b6 "java/lang/String" := q28_0
    have q28_1' : Fld Z T28.heap b6 "java/lang/String" "coder" "B" (.int (0 : Int32)) := q28_1
    have q28_2' : Fld Z T28.heap b6 "java/lang/String" "value" "[B" (.ref b28_0) := q28_2
    have q28_3' : Arv Z T28.heap b28_0 k28_0 .byte (2 : Int32) [(.int (62 : Int32)), (.int (61 : Int32))] (.int (0 : Int32)) := q28_3
    show own_Goes _ _ _ _ T28 (mkF m 225 #[.val (.int p1), .val (.int p2), .val (.int (5 : Int32)), .val (.ref b1), .val (.ref w_GREATER_OR_EQUAL), .val (.int r), .unset, .unset] [(.ref b6)])
    refine own_step (fun t k => XS.astore X28.here hx rfl (hb hby at_225) rfl rfl (l' := #[.val (.int p1), .val (.int p2), .val (.int (5 : Int32)), .val (.ref b1), .val (.ref w_GREATER_OR_EQUAL), .val (.int r), .val (.ref b6), .unset]) rfl k) ?_
    show own_Goes _ _ _ _ T28 (mkF m 227 #[.val (.int p1), .val (.int p2), .val (.int (5 : Int32)), .val (.ref b1), .val (.ref w_GREATER_OR_EQUAL), .val (.int r), .val (.ref b6), .unset] [])
    refine own_step (fun t k => XS.aload X28.here hx rfl (hb hby at_227) rfl rfl k) ?_
    show own_Goes _ _ _ _ T28 (mkF m 229 #[.val (.int p1), .val (.int p2), .val (.int (5 : Int32)), .val (.ref b1), .val (.ref w_GREATER_OR_EQUAL), .val (.int r), .val (.ref b6), .unset] [(.ref b6)])
    have S_COMPACT_STRINGS_v48 := (own_staKeep S_COMPACT_STRINGS_v27 Kq28 (allS (own_plainE A6) all0))
    have S__VALUES_v49 := (own_staKeep ((((S__VALUES.ext E1).wr W2).wr W3).ext E6) Kq28 (allS (own_plainE A6) all0))
    have R_w_V_v50 := (own_arrKeep ((((R_w_V.ext E1).other W2 ne_w_V_b1).other W3 ne_w_V_b1).ext E6) Kq28 (ninS ne_w_V_b6 nin0))
    have E_w_V_v51 := (E_w_V_v30.keep Kq28)
    have F_w_EQUAL_symbol_v52 := (F_w_EQUAL_symbol_v31.keep Kq28 (ninS ne_w_EQUAL_b6 nin0))
    have E_y_EQUAL_v53 := (E_y_EQUAL_v32.keep Kq28)
    have F_y_EQUAL_coder_v54 := (((((F_y_EQUAL_coder.ext E1).other W2 (Or.inl ne_y_EQUAL_b1)).other W3 (Or.inl ne_y_EQUAL_b1)).ext E6).keep Kq28 (ninS ne_y_EQUAL_b6 nin0))
    have F_y_EQUAL_value_v55 := (((((F_y_EQUAL_value.ext E1).other W2 (Or.inl ne_y_EQUAL_b1)).other W3 (Or.inl ne_y_EQUAL_b1)).ext E6).keep Kq28 (ninS ne_y_EQUAL_b6 nin0))
    have V_z_EQUAL_v56 := (V_z_EQUAL_v33.keep Kq28 (ninS ne_z_EQUAL_b6 nin0))
    have F_w_NOT_EQUAL_symbol_v57 := (F_w_NOT_EQUAL_symbol_v34.keep Kq28 (ninS ne_w_NOT_EQUAL_b6 nin0))
    have E_y_NOT_EQUAL_v58 := (E_y_NOT_EQUAL_v35.keep Kq28)
    have F_y_NOT_EQUAL_coder_v59 := (((((F_y_NOT_EQUAL_coder.ext E1).other W2 (Or.inl ne_y_NOT_EQUAL_b1)).other W3 (Or.inl ne_y_NOT_EQUAL_b1)).ext E6).keep Kq28 (ninS ne_y_NOT_EQUAL_b6 nin0))
    have F_y_NOT_EQUAL_value_v60 := (((((F_y_NOT_EQUAL_value.ext E1).other W2 (Or.inl ne_y_NOT_EQUAL_b1)).other W3 (Or.inl ne_y_NOT_EQUAL_b1)).ext E6).keep Kq28 (ninS ne_y_NOT_EQUAL_b6 nin0))
    have V_z_NOT_EQUAL_v61 := (V_z_NOT_EQUAL_v36.keep Kq28 (ninS ne_z_NOT_EQUAL_b6 nin0))
    have F_w_LESS_symbol_v62 := (F_w_LESS_symbol_v37.keep Kq28 (ninS ne_w_LESS_b6 nin0))
    have E_y_LESS_v63 := (E_y_LESS_v38.keep Kq28)
    have F_y_LESS_coder_v64 := (((((F_y_LESS_coder.ext E1).other W2 (Or.inl ne_y_LESS_b1)).other W3 (Or.inl ne_y_LESS_b1)).ext E6).keep Kq28 (ninS ne_y_LESS_b6 nin0))
    have F_y_LESS_value_v65 := (((((F_y_LESS_value.ext E1).other W2 (Or.inl ne_y_LESS_b1)).other W3 (Or.inl ne_y_LESS_b1)).ext E6).keep Kq28 (ninS ne_y_LESS_b6 nin0))
    have V_z_LESS_v66 := (V_z_LESS_v39.keep Kq28 (ninS ne_z_LESS_b6 nin0))
    have F_w_LESS_OR_EQUAL_symbol_v67 := (F_w_LESS_OR_EQUAL_symbol_v40.keep Kq28 (ninS ne_w_LESS_OR_EQUAL_b6 nin0))
    have E_y_LESS_OR_EQUAL_v68 := (E_y_LESS_OR_EQUAL_v41.keep Kq28)
    have F_y_LESS_OR_EQUAL_coder_v69 := (((((F_y_LESS_OR_EQUAL_coder.ext E1).other W2 (Or.inl ne_y_LESS_OR_EQUAL_b1)).other W3 (Or.inl ne_y_LESS_OR_EQUAL_b1)).ext E6).keep Kq28 (ninS ne_y_LESS_OR_EQUAL_b6 nin0))
    have F_y_LESS_OR_EQUAL_value_v70 := (((((F_y_LESS_OR_EQUAL_value.ext E1).other W2 (Or.inl ne_y_LESS_OR_EQUAL_b1)).other W3 (Or.inl ne_y_LESS_OR_EQUAL_b1)).ext E6).keep Kq28 (ninS ne_y_LESS_OR_EQUAL_b6 nin0))
    have V_z_LESS_OR_EQUAL_v71 := (V_z_LESS_OR_EQUAL_v42.keep Kq28 (ninS ne_z_LESS_OR_EQUAL_b6 nin0))
    have F_w_GREATER_symbol_v72 := (F_w_GREATER_symbol_v43.keep Kq28 (ninS ne_w_GREATER_b6 nin0))
    have E_y_GREATER_v73 := (E_y_GREATER_v44.keep Kq28)
    have F_y_GREATER_coder_v74 := (((((F_y_GREATER_coder.ext E1).other W2 (Or.inl ne_y_GREATER_b1)).other W3 (Or.inl ne_y_GREATER_b1)).ext E6).keep Kq28 (ninS ne_y_GREATER_b6 nin0))
    have F_y_GREATER_value_v75 := (((((F_y_GREATER_value.ext E1).other W2 (Or.inl ne_y_GREATER_b1)).other W3 (Or.inl ne_y_GREATER_b1)).ext E6).keep Kq28 (ninS ne_y_GREATER_b6 nin0))
    have V_z_GREATER_v76 := (V_z_GREATER_v45.keep Kq28 (ninS ne_z_GREATER_b6 nin0))
    have F_w_GREATER_OR_EQUAL_symbol_v77 := (((((F_w_GREATER_OR_EQUAL_symbol.ext E1).other W2 (Or.inl ne_w_GREATER_OR_EQUAL_b1)).other W3 (Or.inl ne_w_GREATER_OR_EQUAL_b1)).ext E6).keep Kq28 (ninS ne_w_GREATER_OR_EQUAL_b6 nin0))
    have E_y_GREATER_OR_EQUAL_v78 := (E_y_GREATER_OR_EQUAL_v46.keep Kq28)
    have F_y_GREATER_OR_EQUAL_coder_v79 := (((((F_y_GREATER_OR_EQUAL_coder.ext E1).other W2 (Or.inl ne_y_GREATER_OR_EQUAL_b1)).other W3 (Or.inl ne_y_GREATER_OR_EQUAL_b1)).ext E6).keep Kq28 (ninS ne_y_GREATER_OR_EQUAL_b6 nin0))
    have F_y_GREATER_OR_EQUAL_value_v80 := (((((F_y_GREATER_OR_EQUAL_value.ext E1).other W2 (Or.inl ne_y_GREATER_OR_EQUAL_b1)).other W3 (Or.inl ne_y_GREATER_OR_EQUAL_b1)).ext E6).keep Kq28 (ninS ne_y_GREATER_OR_EQUAL_b6 nin0))
    have V_z_GREATER_OR_EQUAL_v81 := (V_z_GREATER_OR_EQUAL_v47.keep Kq28 (ninS ne_z_GREATER_OR_EQUAL_b6 nin0))
    refine own_callS X28 hx hZ (y := (⟨"com/example/polyphony/polyphony/policy/Operator", "of", "(Ljava/lang/String;)Lcom/example/polyphony/polyphony/policy/Operator;"⟩ : MethodName)) hown (hw _ (List.mem_of_getElem? (i := 34) rfl)) (hw _ (List.mem_of_getElem? (i := 35) rfl)) (hw _ (List.mem_of_getElem? (i := 3) rfl)) (hw _ (List.mem_of_getElem? (i := 36) rfl)) (by decide) 0 [(.ref b6)] [] (own_of5 l Z a0 hw [] b6 b28_0 k28_0 zc w_V clv w_EQUAL w_NOT_EQUAL w_LESS w_LESS_OR_EQUAL w_GREATER w_GREATER_OR_EQUAL y_EQUAL z_EQUAL k_EQUAL y_NOT_EQUAL z_NOT_EQUAL k_NOT_EQUAL y_LESS z_LESS k_LESS y_LESS_OR_EQUAL z_LESS_OR_EQUAL k_LESS_OR_EQUAL y_GREATER z_GREATER k_GREATER y_GREATER_OR_EQUAL z_GREATER_OR_EQUAL k_GREATER_OR_EQUAL T28.heap n0 (Nat.le_trans Z0 K28.1) q28_0' q28_1' q28_2' q28_3' S_COMPACT_STRINGS_v48 S__VALUES_v49 R_w_V_v50 E_w_V_v51 F_w_EQUAL_symbol_v52 E_y_EQUAL_v53 F_y_EQUAL_coder_v54 F_y_EQUAL_value_v55 V_z_EQUAL_v56 F_w_NOT_EQUAL_symbol_v57 E_y_NOT_EQUAL_v58 F_y_NOT_EQUAL_coder_v59 F_y_NOT_EQUAL_value_v60 V_z_NOT_EQUAL_v61 F_w_LESS_symbol_v62 E_y_LESS_v63 F_y_LESS_coder_v64 F_y_LESS_value_v65 V_z_LESS_v66 F_w_LESS_OR_EQUAL_symbol_v67 E_y_LESS_OR_EQUAL_v68 F_y_LESS_OR_EQUAL_coder_v69 F_y_LESS_OR_EQUAL_value_v70 V_z_LESS_OR_EQUAL_v71 F_w_GREATER_symbol_v72 E_y_GREATER_v73 F_y_GREATER_coder_v74 F_y_GREATER_value_v75 V_z_GREATER_v76 F_w_GREATER_OR_EQUAL_symbol_v77 E_y_GREATER_OR_EQUAL_v78 F_y_GREATER_OR_EQUAL_coder_v79 F_y_GREATER_OR_EQUAL_value_v80 V_z_GREATER_OR_EQUAL_v81 F_v S_v H_v G_v hz ne_y_EQUAL_b6 ne_y_NOT_EQUAL_b6 ne_y_LESS_b6 ne_y_LESS_OR_EQUAL_b6 ne_y_GREATER_b6 ne_y_GREATER_OR_EQUAL_b6) rfl (by decide) (by decide) (by decide) (by decide) (g := (mkF m 229 #[.val (.int p1), .val (.int p2), .val (.int (5 : Int32)), .val (.ref b1), .val (.ref w_GREATER_OR_EQUAL), .val (.int r), .val (.ref b6), .unset] [(.ref b6)])) rfl (by rw [hml]; rfl) own_pd8 rfl rfl (by show 2 * 0 + _ ≤ _; exact Nat.le_of_eq rfl) (hb hby at_229) ?_
    intro T82 v82 L82 X82 hQ82
    have E_w_GREATER_OR_EQUAL_v83 := (E_w_GREATER_OR_EQUAL_v29.keep Kq28)
    have V3'_v84 := (V3'_v26.keep Kq28 (ninS ne_b1_b6 nin0))
    obtain ⟨rfl, N82q, Kq82⟩ := hQ82
    have N82 := Fr.app N28 N82q
    have K82 := K28.trans Kq82 all0
    show own_Goes _ _ _ _ T82 (mkF m 232 #[.val (.int p1), .val (.int p2), .val (.int (5 : Int32)), .val (.ref b1), .val (.ref w_GREATER_OR_EQUAL), .val (.int r), .val (.ref b6), .unset] [(.ref w_GREATER_OR_EQUAL)])
    refine own_step (fun t k => XS.astore X82.here hx rfl (hb hby at_232) rfl rfl (l' := #[.val (.int p1), .val (.int p2), .val (.int (5 : Int32)), .val (.ref b1), .val (.ref w_GREATER_OR_EQUAL), .val (.int r), .val (.ref b6), .val (.ref w_GREATER_OR_EQUAL)]) rfl k) ?_
    show own_Goes _ _ _ _ T82 (mkF m 234 #[.val (.int p1), .val (.int p2), .val (.int (5 : Int32)), .val (.ref b1), .val (.ref w_GREATER_OR_EQUAL), .val (.int r), .val (.ref b6), .val (.ref w_GREATER_OR_EQUAL)] [])
    refine own_step (fun t k => XS.aload X82.here hx rfl (hb hby at_234) rfl rfl k) ?_
    show own_Goes _ _ _ _ T82 (mkF m 236 #[.val (.int p1), .val (.int p2), .val (.int (5 : Int32)), .val (.ref b1), .val (.ref w_GREATER_OR_EQUAL), .val (.int r), .val (.ref b6), .val (.ref w_GREATER_OR_EQUAL)] [(.ref w_GREATER_OR_EQUAL)])
    refine own_step (fun t k => XS.aload X82.here hx rfl (hb hby at_236) rfl rfl k) ?_
    show own_Goes _ _ _ _ T82 (mkF m 238 #[.val (.int p1), .val (.int p2), .val (.int (5 : Int32)), .val (.ref b1), .val (.ref w_GREATER_OR_EQUAL), .val (.int r), .val (.ref b6), .val (.ref w_GREATER_OR_EQUAL)] [(.ref w_GREATER_OR_EQUAL), (.ref w_GREATER_OR_EQUAL)])
    refine own_step (fun t k => Jvm.RoadKit.acmp (g := (mkF m 238 #[.val (.int p1), .val (.int p2), .val (.int (5 : Int32)), .val (.ref b1), .val (.ref w_GREATER_OR_EQUAL), .val (.int r), .val (.ref b6), .val (.ref w_GREATER_OR_EQUAL)] [(.ref w_GREATER_OR_EQUAL), (.ref w_GREATER_OR_EQUAL)])) X82 hx rfl rfl rfl (pc0 := 238) (pc' := 241) (same := true) rfl (hb hby at_238) rfl (decide_eq_true rfl) (by decide) (by decide) k) ?_
    show own_Goes _ _ _ _ T82 (mkF m 241 #[.val (.int p1), .val (.int p2), .val (.int (5 : Int32)), .val (.ref b1), .val (.ref w_GREATER_OR_EQUAL), .val (.int r), .val (.ref b6), .val (.ref w_GREATER_OR_EQUAL)] [])
    refine own_step (fun t k => XS.aload X82.here hx rfl (hb hby at_241) rfl rfl k) ?_
    show own_Goes _ _ _ _ T82 (mkF m 243 #[.val (.int p1), .val (.int p2), .val (.int (5 : Int32)), .val (.ref b1), .val (.ref w_GREATER_OR_EQUAL), .val (.int r), .val (.ref b6), .val (.ref w_GREATER_OR_EQUAL)] [(.ref w_GREATER_OR_EQUAL)])
    have F_w_GREATER_OR_EQUAL_symbol_v85 := (F_w_GREATER_OR_EQUAL_symbol_v77.keep Kq82 nin0)
    have E_w_GREATER_OR_EQUAL_v87 := (E_w_GREATER_OR_EQUAL_v83.keep Kq82)
    refine own_callV X82 hx hZ (y := (⟨"com/example/polyphony/polyphony/policy/Operator", "symbol", "()Ljava/lang/String;"⟩ : MethodName)) (z := (⟨"com/example/polyphony/polyphony/policy/Operator", "symbol", "()Ljava/lang/String;"⟩ : MethodName)) hown (hw _ (List.mem_of_getElem? (i := 69) rfl)) (hw _ (List.mem_of_getElem? (i := 70) rfl)) (notFace_of_selects (args := #[]) (mvT hZ (hw _ (List.mem_of_getElem? (i := 72) rfl)))) (hw _ (List.mem_of_getElem? (i := 72) rfl)) (hw _ (List.mem_of_getElem? (i := 71) rfl)) (hw _ (List.mem_of_getElem? (i := 73) rfl)) (hw _ (List.mem_of_getElem? (i := 3) rfl)) (by decide) 0 E_w_GREATER_OR_EQUAL_v87 [] [] (own_symbol l Z a0 hw [] w_GREATER_OR_EQUAL y_GREATER_OR_EQUAL T82.heap n0 (Nat.le_trans Z0 K82.1) F_w_GREATER_OR_EQUAL_symbol_v85) rfl (by decide) (by decide) (by decide) (by decide) (g := (mkF m 243 #[.val (.int p1), .val (.int p2), .val (.int (5 : Int32)), .val (.ref b1), .val (.ref w_GREATER_OR_EQUAL), .val (.int r), .val (.ref b6), .val (.ref w_GREATER_OR_EQUAL)] [(.ref w_GREATER_OR_EQUAL)])) rfl (by rw [hml]; rfl) own_pd9 rfl rfl (by show 2 * 0 + _ ≤ _; exact Nat.le_of_eq rfl) (hb hby at_243) ?_
    intro T86 v86 L86 X86 hQ86
    obtain ⟨rfl, N86q, e86⟩ := hQ86
    have N86 := Fr.app N82 N86q
    show own_Goes _ _ _ _ T86 (mkF m 246 #[.val (.int p1), .val (.int p2), .val (.int (5 : Int32)), .val (.ref b1), .val (.ref w_GREATER_OR_EQUAL), .val (.int r), .val (.ref b6), .val (.ref w_GREATER_OR_EQUAL)] [(.ref y_GREATER_OR_EQUAL)])
    refine own_step (fun t k => XS.aload X86.here hx rfl (hb hby at_246) rfl rfl k) ?_
    show own_Goes _ _ _ _ T86 (mkF m 248 #[.val (.int p1), .val (.int p2), .val (.int (5 : Int32)), .val (.ref b1), .val (.ref w_GREATER_OR_EQUAL), .val (.int r), .val (.ref b6), .val (.ref w_GREATER_OR_EQUAL)] [(.ref b6), (.ref y_GREATER_OR_EQUAL)])
    have q28_0'_v88 := (q28_0'.keep Kq82)
    have F_y_GREATER_OR_EQUAL_coder_v89 := (F_y_GREATER_OR_EQUAL_coder_v79.keep Kq82 nin0)
    have q28_1'_v90 := (q28_1'.keep Kq82 nin0)
    have F_y_GREATER_OR_EQUAL_value_v91 := (F_y_GREATER_OR_EQUAL_value_v80.keep Kq82 nin0)
    have q28_2'_v92 := (q28_2'.keep Kq82 nin0)
    have V_z_GREATER_OR_EQUAL_v93 := (V_z_GREATER_OR_EQUAL_v81.keep Kq82 nin0)
    have q28_3'_v94 := (q28_3'.keep Kq82 nin0)
    have S_COMPACT_STRINGS_v95 := (own_staKeep S_COMPACT_STRINGS_v48 Kq82 all0)
    have E_y_GREATER_OR_EQUAL_v97 := (E_y_GREATER_OR_EQUAL_v78.keep Kq82)
    refine own_callV X86 hx hZ (y := (⟨"java/lang/String", "equals", "(Ljava/lang/Object;)Z"⟩ : MethodName)) (z := (⟨"java/lang/String", "equals", "(Ljava/lang/Object;)Z"⟩ : MethodName)) hown (hw _ (List.mem_of_getElem? (i := 74) rfl)) (hw _ (List.mem_of_getElem? (i := 60) rfl)) (notFace_of_selects (args := #[]) (mvT hZ (hw _ (List.mem_of_getElem? (i := 62) rfl)))) (hw _ (List.mem_of_getElem? (i := 62) rfl)) (hw _ (List.mem_of_getElem? (i := 61) rfl)) (hw _ (List.mem_of_getElem? (i := 63) rfl)) (hw _ (List.mem_of_getElem? (i := 7) rfl)) (by decide) 0 E_y_GREATER_OR_EQUAL_v97 [(.ref b6)] [] (own_seq_22eq l Z a0 hw [] y_GREATER_OR_EQUAL b6 z_GREATER_OR_EQUAL b28_0 k_GREATER_OR_EQUAL k28_0 (62 : Int32) (61 : Int32) (62 : Int32) (61 : Int32) zc T82.heap n0 (Nat.le_trans Z0 K82.1) q28_0'_v88 F_y_GREATER_OR_EQUAL_coder_v89 q28_1'_v90 F_y_GREATER_OR_EQUAL_value_v91 q28_2'_v92 V_z_GREATER_OR_EQUAL_v93 q28_3'_v94 S_COMPACT_STRINGS_v95 (by decide) (by decide) hz ne_y_GREATER_OR_EQUAL_b6) e86 (by decide) (by decide) (by decide) (by decide) (g := (mkF m 248 #[.val (.int p1), .val (.int p2), .val (.int (5 : Int32)), .val (.ref b1), .val (.ref w_GREATER_OR_EQUAL), .val (.int r), .val (.ref b6), .val (.ref w_GREATER_OR_EQUAL)] [(.ref b6), (.ref y_GREATER_OR_EQUAL)])) rfl (by rw [hml]; rfl) own_pd2 rfl rfl (by show 2 * 0 + _ ≤ _; exact Nat.le_of_eq rfl) (hb hby at_248) ?_
    intro T96 v96 L96 X96 hQ96
    obtain ⟨rfl, N96q, e96⟩ := hQ96
    have N96 := Fr.app N86 N96q
    show own_Goes _ _ _ _ T96 (mkF m 251 #[.val (.int p1), .val (.int p2), .val (.int (5 : Int32)), .val (.ref b1), .val (.ref w_GREATER_OR_EQUAL), .val (.int r), .val (.ref b6), .val (.ref w_GREATER_OR_EQUAL)] [(.int (1 : Int32))])
    refine own_step (fun t k => XS.ifNo X96.here hx rfl (hb hby at_251) rfl ((if0 _ _).trans (feq (show ¬ ((1 : Int32) = (0 : Int32)) from (by decide))).1) k) ?_
    show own_Goes _ _ _ _ T96 (mkF m 254 #[.val (.int p1), .val (.int p2), .val (.int (5 : Int32)), .val (.ref b1), .val (.ref w_GREATER_OR_EQUAL), .val (.int r), .val (.ref b6), .val (.ref w_GREATER_OR_EQUAL)] [])
    refine own_step (fun t k => XS.aload X96.here hx rfl (hb hby at_254) rfl rfl k) ?_
    show own_Goes _ _ _ _ T96 (mkF m 256 #[.val (.int p1), .val (.int p2), .val (.int (5 : Int32)), .val (.ref b1), .val (.ref w_GREATER_OR_EQUAL), .val (.int r), .val (.ref b6), .val (.ref w_GREATER_OR_EQUAL)] [(.ref w_GREATER_OR_EQUAL)])
    refine own_step (fun t k => XS.iloadN X96.here hx rfl (hb hby at_256) rfl k) ?_
    show own_Goes _ _ _ _ T96 (mkF m 257 #[.val (.int p1), .val (.int p2), .val (.int (5 : Int32)), .val (.ref b1), .val (.ref w_GREATER_OR_EQUAL), .val (.int r), .val (.ref b6), .val (.ref w_GREATER_OR_EQUAL)] [(.int p2), (.ref w_GREATER_OR_EQUAL)])
    have F_w_GREATER_OR_EQUAL_whenBefore_v98 := ((((((F_w_GREATER_OR_EQUAL_whenBefore.ext E1).other W2 (Or.inl ne_w_GREATER_OR_EQUAL_b1)).other W3 (Or.inl ne_w_GREATER_OR_EQUAL_b1)).ext E6).keep Kq28 (ninS ne_w_GREATER_OR_EQUAL_b6 nin0)).keep Kq82 nin0)
    have F_w_GREATER_OR_EQUAL_whenEqual_v99 := ((((((F_w_GREATER_OR_EQUAL_whenEqual.ext E1).other W2 (Or.inl ne_w_GREATER_OR_EQUAL_b1)).other W3 (Or.inl ne_w_GREATER_OR_EQUAL_b1)).ext E6).keep Kq28 (ninS ne_w_GREATER_OR_EQUAL_b6 nin0)).keep Kq82 nin0)
    have F_w_GREATER_OR_EQUAL_whenAfter_v100 := ((((((F_w_GREATER_OR_EQUAL_whenAfter.ext E1).other W2 (Or.inl ne_w_GREATER_OR_EQUAL_b1)).other W3 (Or.inl ne_w_GREATER_OR_EQUAL_b1)).ext E6).keep Kq28 (ninS ne_w_GREATER_OR_EQUAL_b6 nin0)).keep Kq82 nin0)
    refine own_callV X96 hx hZ (y := (⟨"com/example/polyphony/polyphony/policy/Operator", "holds", "(I)Z"⟩ : MethodName)) (z := (⟨"com/example/polyphony/polyphony/policy/Operator", "holds", "(I)Z"⟩ : MethodName)) hown (hw _ (List.mem_of_getElem? (i := 75) rfl)) (hw _ (List.mem_of_getElem? (i := 76) rfl)) (notFace_of_selects (args := #[]) (mvT hZ (hw _ (List.mem_of_getElem? (i := 78) rfl)))) (hw _ (List.mem_of_getElem? (i := 78) rfl)) (hw _ (List.mem_of_getElem? (i := 77) rfl)) (hw _ (List.mem_of_getElem? (i := 79) rfl)) (hw _ (List.mem_of_getElem? (i := 3) rfl)) (by decide) 0 E_w_GREATER_OR_EQUAL_v87 [(.int p2)] [] (own_holds_GREATER_OR_EQUAL l Z a0 hw [] w_GREATER_OR_EQUAL p2 r T82.heap n0 (Nat.le_trans Z0 K82.1) F_w_GREATER_OR_EQUAL_whenBefore_v98 F_w_GREATER_OR_EQUAL_whenEqual_v99 F_w_GREATER_OR_EQUAL_whenAfter_v100 hrn hrz hrp) e96 (by decide) (by decide) (by decide) (by decide) (g := (mkF m 257 #[.val (.int p1), .val (.int p2), .val (.int (5 : Int32)), .val (.ref b1), .val (.ref w_GREATER_OR_EQUAL), .val (.int r), .val (.ref b6), .val (.ref w_GREATER_OR_EQUAL)] [(.int p2), (.ref w_GREATER_OR_EQUAL)])) rfl (by rw [hml]; rfl) own_pd10 rfl rfl (by show 2 * 0 + _ ≤ _; exact Nat.le_of_eq rfl) (hb hby at_257) ?_
    intro T101 v101 L101 X101 hQ101
    obtain ⟨rfl, N101q, e101⟩ := hQ101
    have N101 := Fr.app N96 N101q
    show own_Goes _ _ _ _ T101 (mkF m 260 #[.val (.int p1), .val (.int p2), .val (.int (5 : Int32)), .val (.ref b1), .val (.ref w_GREATER_OR_EQUAL), .val (.int r), .val (.ref b6), .val (.ref w_GREATER_OR_EQUAL)] [(.int r)])
    refine own_step (fun t k => XS.iload X101.here hx rfl (hb hby at_260) rfl k) ?_
    show own_Goes _ _ _ _ T101 (mkF m 262 #[.val (.int p1), .val (.int p2), .val (.int (5 : Int32)), .val (.ref b1), .val (.ref w_GREATER_OR_EQUAL), .val (.int r), .val (.ref b6), .val (.ref w_GREATER_OR_EQUAL)] [(.int r), (.int r)])
    refine own_step (fun t k => XS.icmpNo X101.here hx rfl (hb hby at_262) rfl (teq (show r = r from rfl)).2 k) ?_
    show own_Goes _ _ _ _ T101 (mkF m 265 #[.val (.int p1), .val (.int p2), .val (.int (5 : Int32)), .val (.ref b1), .val (.ref w_GREATER_OR_EQUAL), .val (.int r), .val (.ref b6), .val (.ref w_GREATER_OR_EQUAL)] [])
    refine own_step (fun t k => XS.iconst X101.here hx rfl (hb hby at_265) k) ?_
    show own_Goes _ _ _ _ T101 (mkF m 266 #[.val (.int p1), .val (.int p2), .val (.int (5 : Int32)), .val (.ref b1), .val (.ref w_GREATER_OR_EQUAL), .val (.int r), .val (.ref b6), .val (.ref w_GREATER_OR_EQUAL)] [(.int (1 : Int32))])
    refine own_step (fun t k => XS.goto X101.here hx rfl (pc0 := 266) (pc' := 270) rfl (hb hby at_266) (by decide) (by decide) k) ?_
    show own_Goes _ _ _ _ T101 (mkF m 270 #[.val (.int p1), .val (.int p2), .val (.int (5 : Int32)), .val (.ref b1), .val (.ref w_GREATER_OR_EQUAL), .val (.int r), .val (.ref b6), .val (.ref w_GREATER_OR_EQUAL)] [(.int (1 : Int32))])
    exact own_retN X101 hx hlk (t := .boolean) hrt (by simp) (hb hby at_270) ⟨rfl, N101⟩ (by decide) (by decide)
  by_cases hc207_102 : p2 < (0 : Int32)
  · refine own_step (fun t k => XS.ifYes X4.here hx rfl (pc0 := 207) (pc' := 214) rfl (hb hby at_207) rfl ((if0 _ _).trans (tlt (show p2 < (0 : Int32) from hc207_102)).1) (by decide) (by decide) k) ?_
    show own_Goes _ _ _ _ T4 (mkF m 214 #[.val (.int p1), .val (.int p2), .val (.int (5 : Int32)), .val (.ref b1), .val (.ref w_GREATER_OR_EQUAL), .unset, .unset, .unset] [])
    refine own_step (fun t k => XS.iconst X4.here hx rfl (hb hby at_214) k) ?_
    show own_Goes _ _ _ _ T4 (mkF m 215 #[.val (.int p1), .val (.int p2), .val (.int (5 : Int32)), .val (.ref b1), .val (.ref w_GREATER_OR_EQUAL), .unset, .unset, .unset] [(.int (0 : Int32))])
    refine own_step (fun t k => XS.istore X4.here hx rfl (hb hby at_215) rfl (l' := #[.val (.int p1), .val (.int p2), .val (.int (5 : Int32)), .val (.ref b1), .val (.ref w_GREATER_OR_EQUAL), .val (.int (0 : Int32)), .unset, .unset]) rfl k) ?_
    show own_Goes _ _ _ _ T4 (mkF m 217 #[.val (.int p1), .val (.int p2), .val (.int (5 : Int32)), .val (.ref b1), .val (.ref w_GREATER_OR_EQUAL), .val (.int (0 : Int32)), .unset, .unset] [])
    obtain rfl : r = (0 : Int32) := ht hc207_102
    exact tail
  · refine own_step (fun t k => XS.ifNo X4.here hx rfl (hb hby at_207) rfl ((if0 _ _).trans (flt (show ¬ (p2 < (0 : Int32)) from hc207_102)).1) k) ?_
    show own_Goes _ _ _ _ T4 (mkF m 210 #[.val (.int p1), .val (.int p2), .val (.int (5 : Int32)), .val (.ref b1), .val (.ref w_GREATER_OR_EQUAL), .unset, .unset, .unset] [])
    refine own_step (fun t k => XS.iconst X4.here hx rfl (hb hby at_210) k) ?_
    show own_Goes _ _ _ _ T4 (mkF m 211 #[.val (.int p1), .val (.int p2), .val (.int (5 : Int32)), .val (.ref b1), .val (.ref w_GREATER_OR_EQUAL), .unset, .unset, .unset] [(.int (1 : Int32))])
    refine own_step (fun t k => XS.goto X4.here hx rfl (pc0 := 211) (pc' := 215) rfl (hb hby at_211) (by decide) (by decide) k) ?_
    show own_Goes _ _ _ _ T4 (mkF m 215 #[.val (.int p1), .val (.int p2), .val (.int (5 : Int32)), .val (.ref b1), .val (.ref w_GREATER_OR_EQUAL), .unset, .unset, .unset] [(.int (1 : Int32))])
    refine own_step (fun t k => XS.istore X4.here hx rfl (hb hby at_215) rfl (l' := #[.val (.int p1), .val (.int p2), .val (.int (5 : Int32)), .val (.ref b1), .val (.ref w_GREATER_OR_EQUAL), .val (.int (1 : Int32)), .unset, .unset]) rfl k) ?_
    show own_Goes _ _ _ _ T4 (mkF m 217 #[.val (.int p1), .val (.int p2), .val (.int (5 : Int32)), .val (.ref b1), .val (.ref w_GREATER_OR_EQUAL), .val (.int (1 : Int32)), .unset, .unset] [])
    obtain rfl : r = (1 : Int32) := hf hc207_102
    exact tail
theorem own_law (l : Launch) (Z : State) (a0 : Array Value) (hw : ∀ d ∈ tables_1, d.before a0 Z = true) (ws : List Jvm.Cond) (p1 : Int32) (p2 : Int32) (zc : Int32) (w_V : Addr) (clv : Cell) (w_EQUAL : Addr) (w_NOT_EQUAL : Addr) (w_LESS : Addr) (w_LESS_OR_EQUAL : Addr) (w_GREATER : Addr) (w_GREATER_OR_EQUAL : Addr) (y_EQUAL : Addr) (z_EQUAL : Addr) (k_EQUAL : ClassId) (y_NOT_EQUAL : Addr) (z_NOT_EQUAL : Addr) (k_NOT_EQUAL : ClassId) (y_LESS : Addr) (z_LESS : Addr) (k_LESS : ClassId) (y_LESS_OR_EQUAL : Addr) (z_LESS_OR_EQUAL : Addr) (k_LESS_OR_EQUAL : ClassId) (y_GREATER : Addr) (z_GREATER : Addr) (k_GREATER : ClassId) (y_GREATER_OR_EQUAL : Addr) (z_GREATER_OR_EQUAL : Addr) (k_GREATER_OR_EQUAL : ClassId) (h0 : Heap) (n0 : Nat) (Z0 : n0 ≤ h0.size) (S_COMPACT_STRINGS : Sta Z h0 "java/lang/String" "COMPACT_STRINGS" "Z" (.int zc)) (S__VALUES : Sta Z h0 "com/example/polyphony/polyphony/policy/Operator" "$VALUES" "[Lcom/example/polyphony/polyphony/policy/Operator;" (.ref w_V)) (R_w_V : Arr Z h0 w_V clv (.object "com/example/polyphony/polyphony/policy/Operator")) (E_w_V : Exa Z h0 w_V "[Lcom/example/polyphony/polyphony/policy/Operator;") (S_EQUAL : Sta Z h0 "com/example/polyphony/polyphony/policy/Operator" "EQUAL" "Lcom/example/polyphony/polyphony/policy/Operator;" (.ref w_EQUAL)) (E_w_EQUAL : Exa Z h0 w_EQUAL "com/example/polyphony/polyphony/policy/Operator") (F_w_EQUAL_symbol : Fld Z h0 w_EQUAL "com/example/polyphony/polyphony/policy/Operator" "symbol" "Ljava/lang/String;" (.ref y_EQUAL)) (E_y_EQUAL : Exa Z h0 y_EQUAL "java/lang/String") (F_y_EQUAL_coder : Fld Z h0 y_EQUAL "java/lang/String" "coder" "B" (.int (0 : Int32))) (F_y_EQUAL_value : Fld Z h0 y_EQUAL "java/lang/String" "value" "[B" (.ref z_EQUAL)) (V_z_EQUAL : Arv Z h0 z_EQUAL k_EQUAL .byte (2 : Int32) [(.int (61 : Int32)), (.int (61 : Int32))] (.int (0 : Int32))) (F_w_EQUAL_whenBefore : Fld Z h0 w_EQUAL "com/example/polyphony/polyphony/policy/Operator" "whenBefore" "Z" (.int (0 : Int32))) (F_w_EQUAL_whenEqual : Fld Z h0 w_EQUAL "com/example/polyphony/polyphony/policy/Operator" "whenEqual" "Z" (.int (1 : Int32))) (F_w_EQUAL_whenAfter : Fld Z h0 w_EQUAL "com/example/polyphony/polyphony/policy/Operator" "whenAfter" "Z" (.int (0 : Int32))) (S_NOT_EQUAL : Sta Z h0 "com/example/polyphony/polyphony/policy/Operator" "NOT_EQUAL" "Lcom/example/polyphony/polyphony/policy/Operator;" (.ref w_NOT_EQUAL)) (E_w_NOT_EQUAL : Exa Z h0 w_NOT_EQUAL "com/example/polyphony/polyphony/policy/Operator") (F_w_NOT_EQUAL_symbol : Fld Z h0 w_NOT_EQUAL "com/example/polyphony/polyphony/policy/Operator" "symbol" "Ljava/lang/String;" (.ref y_NOT_EQUAL)) (E_y_NOT_EQUAL : Exa Z h0 y_NOT_EQUAL "java/lang/String") (F_y_NOT_EQUAL_coder : Fld Z h0 y_NOT_EQUAL "java/lang/String" "coder" "B" (.int (0 : Int32))) (F_y_NOT_EQUAL_value : Fld Z h0 y_NOT_EQUAL "java/lang/String" "value" "[B" (.ref z_NOT_EQUAL)) (V_z_NOT_EQUAL : Arv Z h0 z_NOT_EQUAL k_NOT_EQUAL .byte (2 : Int32) [(.int (33 : Int32)), (.int (61 : Int32))] (.int (0 : Int32))) (F_w_NOT_EQUAL_whenBefore : Fld Z h0 w_NOT_EQUAL "com/example/polyphony/polyphony/policy/Operator" "whenBefore" "Z" (.int (1 : Int32))) (F_w_NOT_EQUAL_whenEqual : Fld Z h0 w_NOT_EQUAL "com/example/polyphony/polyphony/policy/Operator" "whenEqual" "Z" (.int (0 : Int32))) (F_w_NOT_EQUAL_whenAfter : Fld Z h0 w_NOT_EQUAL "com/example/polyphony/polyphony/policy/Operator" "whenAfter" "Z" (.int (1 : Int32))) (S_LESS : Sta Z h0 "com/example/polyphony/polyphony/policy/Operator" "LESS" "Lcom/example/polyphony/polyphony/policy/Operator;" (.ref w_LESS)) (E_w_LESS : Exa Z h0 w_LESS "com/example/polyphony/polyphony/policy/Operator") (F_w_LESS_symbol : Fld Z h0 w_LESS "com/example/polyphony/polyphony/policy/Operator" "symbol" "Ljava/lang/String;" (.ref y_LESS)) (E_y_LESS : Exa Z h0 y_LESS "java/lang/String") (F_y_LESS_coder : Fld Z h0 y_LESS "java/lang/String" "coder" "B" (.int (0 : Int32))) (F_y_LESS_value : Fld Z h0 y_LESS "java/lang/String" "value" "[B" (.ref z_LESS)) (V_z_LESS : Arv Z h0 z_LESS k_LESS .byte (1 : Int32) [(.int (60 : Int32))] (.int (0 : Int32))) (F_w_LESS_whenBefore : Fld Z h0 w_LESS "com/example/polyphony/polyphony/policy/Operator" "whenBefore" "Z" (.int (1 : Int32))) (F_w_LESS_whenEqual : Fld Z h0 w_LESS "com/example/polyphony/polyphony/policy/Operator" "whenEqual" "Z" (.int (0 : Int32))) (F_w_LESS_whenAfter : Fld Z h0 w_LESS "com/example/polyphony/polyphony/policy/Operator" "whenAfter" "Z" (.int (0 : Int32))) (S_LESS_OR_EQUAL : Sta Z h0 "com/example/polyphony/polyphony/policy/Operator" "LESS_OR_EQUAL" "Lcom/example/polyphony/polyphony/policy/Operator;" (.ref w_LESS_OR_EQUAL)) (E_w_LESS_OR_EQUAL : Exa Z h0 w_LESS_OR_EQUAL "com/example/polyphony/polyphony/policy/Operator") (F_w_LESS_OR_EQUAL_symbol : Fld Z h0 w_LESS_OR_EQUAL "com/example/polyphony/polyphony/policy/Operator" "symbol" "Ljava/lang/String;" (.ref y_LESS_OR_EQUAL)) (E_y_LESS_OR_EQUAL : Exa Z h0 y_LESS_OR_EQUAL "java/lang/String") (F_y_LESS_OR_EQUAL_coder : Fld Z h0 y_LESS_OR_EQUAL "java/lang/String" "coder" "B" (.int (0 : Int32))) (F_y_LESS_OR_EQUAL_value : Fld Z h0 y_LESS_OR_EQUAL "java/lang/String" "value" "[B" (.ref z_LESS_OR_EQUAL)) (V_z_LESS_OR_EQUAL : Arv Z h0 z_LESS_OR_EQUAL k_LESS_OR_EQUAL .byte (2 : Int32) [(.int (60 : Int32)), (.int (61 : Int32))] (.int (0 : Int32))) (F_w_LESS_OR_EQUAL_whenBefore : Fld Z h0 w_LESS_OR_EQUAL "com/example/polyphony/polyphony/policy/Operator" "whenBefore" "Z" (.int (1 : Int32))) (F_w_LESS_OR_EQUAL_whenEqual : Fld Z h0 w_LESS_OR_EQUAL "com/example/polyphony/polyphony/policy/Operator" "whenEqual" "Z" (.int (1 : Int32))) (F_w_LESS_OR_EQUAL_whenAfter : Fld Z h0 w_LESS_OR_EQUAL "com/example/polyphony/polyphony/policy/Operator" "whenAfter" "Z" (.int (0 : Int32))) (S_GREATER : Sta Z h0 "com/example/polyphony/polyphony/policy/Operator" "GREATER" "Lcom/example/polyphony/polyphony/policy/Operator;" (.ref w_GREATER)) (E_w_GREATER : Exa Z h0 w_GREATER "com/example/polyphony/polyphony/policy/Operator") (F_w_GREATER_symbol : Fld Z h0 w_GREATER "com/example/polyphony/polyphony/policy/Operator" "symbol" "Ljava/lang/String;" (.ref y_GREATER)) (E_y_GREATER : Exa Z h0 y_GREATER "java/lang/String") (F_y_GREATER_coder : Fld Z h0 y_GREATER "java/lang/String" "coder" "B" (.int (0 : Int32))) (F_y_GREATER_value : Fld Z h0 y_GREATER "java/lang/String" "value" "[B" (.ref z_GREATER)) (V_z_GREATER : Arv Z h0 z_GREATER k_GREATER .byte (1 : Int32) [(.int (62 : Int32))] (.int (0 : Int32))) (F_w_GREATER_whenBefore : Fld Z h0 w_GREATER "com/example/polyphony/polyphony/policy/Operator" "whenBefore" "Z" (.int (0 : Int32))) (F_w_GREATER_whenEqual : Fld Z h0 w_GREATER "com/example/polyphony/polyphony/policy/Operator" "whenEqual" "Z" (.int (0 : Int32))) (F_w_GREATER_whenAfter : Fld Z h0 w_GREATER "com/example/polyphony/polyphony/policy/Operator" "whenAfter" "Z" (.int (1 : Int32))) (S_GREATER_OR_EQUAL : Sta Z h0 "com/example/polyphony/polyphony/policy/Operator" "GREATER_OR_EQUAL" "Lcom/example/polyphony/polyphony/policy/Operator;" (.ref w_GREATER_OR_EQUAL)) (E_w_GREATER_OR_EQUAL : Exa Z h0 w_GREATER_OR_EQUAL "com/example/polyphony/polyphony/policy/Operator") (F_w_GREATER_OR_EQUAL_symbol : Fld Z h0 w_GREATER_OR_EQUAL "com/example/polyphony/polyphony/policy/Operator" "symbol" "Ljava/lang/String;" (.ref y_GREATER_OR_EQUAL)) (E_y_GREATER_OR_EQUAL : Exa Z h0 y_GREATER_OR_EQUAL "java/lang/String") (F_y_GREATER_OR_EQUAL_coder : Fld Z h0 y_GREATER_OR_EQUAL "java/lang/String" "coder" "B" (.int (0 : Int32))) (F_y_GREATER_OR_EQUAL_value : Fld Z h0 y_GREATER_OR_EQUAL "java/lang/String" "value" "[B" (.ref z_GREATER_OR_EQUAL)) (V_z_GREATER_OR_EQUAL : Arv Z h0 z_GREATER_OR_EQUAL k_GREATER_OR_EQUAL .byte (2 : Int32) [(.int (62 : Int32)), (.int (61 : Int32))] (.int (0 : Int32))) (F_w_GREATER_OR_EQUAL_whenBefore : Fld Z h0 w_GREATER_OR_EQUAL "com/example/polyphony/polyphony/policy/Operator" "whenBefore" "Z" (.int (0 : Int32))) (F_w_GREATER_OR_EQUAL_whenEqual : Fld Z h0 w_GREATER_OR_EQUAL "com/example/polyphony/polyphony/policy/Operator" "whenEqual" "Z" (.int (1 : Int32))) (F_w_GREATER_OR_EQUAL_whenAfter : Fld Z h0 w_GREATER_OR_EQUAL "com/example/polyphony/polyphony/policy/Operator" "whenAfter" "Z" (.int (1 : Int32))) (F_v : FitC Z clv) (S_v : clv.slots.size = (6 : Int32).toNatClampNeg) (H_v : Has clv [(.ref w_EQUAL), (.ref w_NOT_EQUAL), (.ref w_LESS), (.ref w_LESS_OR_EQUAL), (.ref w_GREATER), (.ref w_GREATER_OR_EQUAL)] .null) (G_v : ∀ i, i < clv.slots.size → fits (.object "com/example/polyphony/polyphony/policy/Operator") ([(.ref w_EQUAL), (.ref w_NOT_EQUAL), (.ref w_LESS), (.ref w_LESS_OR_EQUAL), (.ref w_GREATER), (.ref w_GREATER_OR_EQUAL)].getD i .null) = true) (hz : ¬ (zc = (0 : Int32))) : own_Met l Z x code maxLocals ret ws room_1 #[(.int p1), (.int p2)] h0 (fun v h L => v = some (.int 1) ∧ Fr n0 L) := by
  rcases own_tri p2 with ⟨q1, q2, q3⟩ | ⟨q1, q2, q3⟩ | ⟨q1, q2, q3⟩
  · rcases own_mod p1 with hi | hi | hi | hi | hi | hi
    · exact own_law0 l Z a0 hw ws p1 p2 (0 : Int32) zc w_V clv w_EQUAL w_NOT_EQUAL w_LESS w_LESS_OR_EQUAL w_GREATER w_GREATER_OR_EQUAL y_EQUAL z_EQUAL k_EQUAL h0 n0 Z0 S_EQUAL E_w_EQUAL S_COMPACT_STRINGS S__VALUES R_w_V E_w_V F_w_EQUAL_symbol E_y_EQUAL F_y_EQUAL_coder F_y_EQUAL_value V_z_EQUAL F_w_EQUAL_whenBefore F_w_EQUAL_whenEqual F_w_EQUAL_whenAfter F_v S_v H_v G_v hz hi (fun _ => rfl) (fun z => absurd q1 z) (fun z => absurd q1 z) (fun z => absurd z q2) (fun _ => rfl)
    · exact own_law1 l Z a0 hw ws p1 p2 (1 : Int32) zc w_V clv w_EQUAL w_NOT_EQUAL w_LESS w_LESS_OR_EQUAL w_GREATER w_GREATER_OR_EQUAL y_EQUAL z_EQUAL k_EQUAL y_NOT_EQUAL z_NOT_EQUAL k_NOT_EQUAL h0 n0 Z0 S_NOT_EQUAL E_w_NOT_EQUAL S_COMPACT_STRINGS S__VALUES R_w_V E_w_V F_w_EQUAL_symbol E_y_EQUAL F_y_EQUAL_coder F_y_EQUAL_value V_z_EQUAL F_w_NOT_EQUAL_symbol E_y_NOT_EQUAL F_y_NOT_EQUAL_coder F_y_NOT_EQUAL_value V_z_NOT_EQUAL F_w_NOT_EQUAL_whenBefore F_w_NOT_EQUAL_whenEqual F_w_NOT_EQUAL_whenAfter F_v S_v H_v G_v hz hi (fun _ => rfl) (fun z => absurd q1 z) (fun z => absurd q1 z) (fun z => absurd z q2) (fun _ => rfl)
    · exact own_law2 l Z a0 hw ws p1 p2 (1 : Int32) zc w_V clv w_EQUAL w_NOT_EQUAL w_LESS w_LESS_OR_EQUAL w_GREATER w_GREATER_OR_EQUAL y_EQUAL z_EQUAL k_EQUAL y_NOT_EQUAL z_NOT_EQUAL k_NOT_EQUAL y_LESS z_LESS k_LESS h0 n0 Z0 S_LESS E_w_LESS S_COMPACT_STRINGS S__VALUES R_w_V E_w_V F_w_EQUAL_symbol E_y_EQUAL F_y_EQUAL_coder F_y_EQUAL_value V_z_EQUAL F_w_NOT_EQUAL_symbol E_y_NOT_EQUAL F_y_NOT_EQUAL_coder F_y_NOT_EQUAL_value V_z_NOT_EQUAL F_w_LESS_symbol E_y_LESS F_y_LESS_coder F_y_LESS_value V_z_LESS F_w_LESS_whenBefore F_w_LESS_whenEqual F_w_LESS_whenAfter F_v S_v H_v G_v hz hi (fun _ => rfl) (fun z => absurd q1 z) (fun z => absurd q1 z) (fun _ => rfl) (fun z => absurd q1 z)
    · exact own_law3 l Z a0 hw ws p1 p2 (1 : Int32) zc w_V clv w_EQUAL w_NOT_EQUAL w_LESS w_LESS_OR_EQUAL w_GREATER w_GREATER_OR_EQUAL y_EQUAL z_EQUAL k_EQUAL y_NOT_EQUAL z_NOT_EQUAL k_NOT_EQUAL y_LESS z_LESS k_LESS y_LESS_OR_EQUAL z_LESS_OR_EQUAL k_LESS_OR_EQUAL h0 n0 Z0 S_LESS_OR_EQUAL E_w_LESS_OR_EQUAL S_COMPACT_STRINGS S__VALUES R_w_V E_w_V F_w_EQUAL_symbol E_y_EQUAL F_y_EQUAL_coder F_y_EQUAL_value V_z_EQUAL F_w_NOT_EQUAL_symbol E_y_NOT_EQUAL F_y_NOT_EQUAL_coder F_y_NOT_EQUAL_value V_z_NOT_EQUAL F_w_LESS_symbol E_y_LESS F_y_LESS_coder F_y_LESS_value V_z_LESS F_w_LESS_OR_EQUAL_symbol E_y_LESS_OR_EQUAL F_y_LESS_OR_EQUAL_coder F_y_LESS_OR_EQUAL_value V_z_LESS_OR_EQUAL F_w_LESS_OR_EQUAL_whenBefore F_w_LESS_OR_EQUAL_whenEqual F_w_LESS_OR_EQUAL_whenAfter F_v S_v H_v G_v hz hi (fun _ => rfl) (fun z => absurd q1 z) (fun z => absurd q1 z) (fun z => absurd z q3) (fun _ => rfl)
    · exact own_law4 l Z a0 hw ws p1 p2 (0 : Int32) zc w_V clv w_EQUAL w_NOT_EQUAL w_LESS w_LESS_OR_EQUAL w_GREATER w_GREATER_OR_EQUAL y_EQUAL z_EQUAL k_EQUAL y_NOT_EQUAL z_NOT_EQUAL k_NOT_EQUAL y_LESS z_LESS k_LESS y_LESS_OR_EQUAL z_LESS_OR_EQUAL k_LESS_OR_EQUAL y_GREATER z_GREATER k_GREATER h0 n0 Z0 S_GREATER E_w_GREATER S_COMPACT_STRINGS S__VALUES R_w_V E_w_V F_w_EQUAL_symbol E_y_EQUAL F_y_EQUAL_coder F_y_EQUAL_value V_z_EQUAL F_w_NOT_EQUAL_symbol E_y_NOT_EQUAL F_y_NOT_EQUAL_coder F_y_NOT_EQUAL_value V_z_NOT_EQUAL F_w_LESS_symbol E_y_LESS F_y_LESS_coder F_y_LESS_value V_z_LESS F_w_LESS_OR_EQUAL_symbol E_y_LESS_OR_EQUAL F_y_LESS_OR_EQUAL_coder F_y_LESS_OR_EQUAL_value V_z_LESS_OR_EQUAL F_w_GREATER_symbol E_y_GREATER F_y_GREATER_coder F_y_GREATER_value V_z_GREATER F_w_GREATER_whenBefore F_w_GREATER_whenEqual F_w_GREATER_whenAfter F_v S_v H_v G_v hz hi (fun _ => rfl) (fun z => absurd q1 z) (fun z => absurd q1 z) (fun z => absurd z q3) (fun _ => rfl)
    · exact own_law5 l Z a0 hw ws p1 p2 (0 : Int32) zc w_V clv w_EQUAL w_NOT_EQUAL w_LESS w_LESS_OR_EQUAL w_GREATER w_GREATER_OR_EQUAL y_EQUAL z_EQUAL k_EQUAL y_NOT_EQUAL z_NOT_EQUAL k_NOT_EQUAL y_LESS z_LESS k_LESS y_LESS_OR_EQUAL z_LESS_OR_EQUAL k_LESS_OR_EQUAL y_GREATER z_GREATER k_GREATER y_GREATER_OR_EQUAL z_GREATER_OR_EQUAL k_GREATER_OR_EQUAL h0 n0 Z0 S_GREATER_OR_EQUAL E_w_GREATER_OR_EQUAL S_COMPACT_STRINGS S__VALUES R_w_V E_w_V F_w_EQUAL_symbol E_y_EQUAL F_y_EQUAL_coder F_y_EQUAL_value V_z_EQUAL F_w_NOT_EQUAL_symbol E_y_NOT_EQUAL F_y_NOT_EQUAL_coder F_y_NOT_EQUAL_value V_z_NOT_EQUAL F_w_LESS_symbol E_y_LESS F_y_LESS_coder F_y_LESS_value V_z_LESS F_w_LESS_OR_EQUAL_symbol E_y_LESS_OR_EQUAL F_y_LESS_OR_EQUAL_coder F_y_LESS_OR_EQUAL_value V_z_LESS_OR_EQUAL F_w_GREATER_symbol E_y_GREATER F_y_GREATER_coder F_y_GREATER_value V_z_GREATER F_w_GREATER_OR_EQUAL_symbol E_y_GREATER_OR_EQUAL F_y_GREATER_OR_EQUAL_coder F_y_GREATER_OR_EQUAL_value V_z_GREATER_OR_EQUAL F_w_GREATER_OR_EQUAL_whenBefore F_w_GREATER_OR_EQUAL_whenEqual F_w_GREATER_OR_EQUAL_whenAfter F_v S_v H_v G_v hz hi (fun _ => rfl) (fun z => absurd q1 z) (fun z => absurd q1 z) (fun _ => rfl) (fun z => absurd q1 z)
  · rcases own_mod p1 with hi | hi | hi | hi | hi | hi
    · exact own_law0 l Z a0 hw ws p1 p2 (1 : Int32) zc w_V clv w_EQUAL w_NOT_EQUAL w_LESS w_LESS_OR_EQUAL w_GREATER w_GREATER_OR_EQUAL y_EQUAL z_EQUAL k_EQUAL h0 n0 Z0 S_EQUAL E_w_EQUAL S_COMPACT_STRINGS S__VALUES R_w_V E_w_V F_w_EQUAL_symbol E_y_EQUAL F_y_EQUAL_coder F_y_EQUAL_value V_z_EQUAL F_w_EQUAL_whenBefore F_w_EQUAL_whenEqual F_w_EQUAL_whenAfter F_v S_v H_v G_v hz hi (fun z => absurd z q1) (fun _ _ => rfl) (fun _ z => absurd q2 z) (fun _ => rfl) (fun z => absurd q2 z)
    · exact own_law1 l Z a0 hw ws p1 p2 (0 : Int32) zc w_V clv w_EQUAL w_NOT_EQUAL w_LESS w_LESS_OR_EQUAL w_GREATER w_GREATER_OR_EQUAL y_EQUAL z_EQUAL k_EQUAL y_NOT_EQUAL z_NOT_EQUAL k_NOT_EQUAL h0 n0 Z0 S_NOT_EQUAL E_w_NOT_EQUAL S_COMPACT_STRINGS S__VALUES R_w_V E_w_V F_w_EQUAL_symbol E_y_EQUAL F_y_EQUAL_coder F_y_EQUAL_value V_z_EQUAL F_w_NOT_EQUAL_symbol E_y_NOT_EQUAL F_y_NOT_EQUAL_coder F_y_NOT_EQUAL_value V_z_NOT_EQUAL F_w_NOT_EQUAL_whenBefore F_w_NOT_EQUAL_whenEqual F_w_NOT_EQUAL_whenAfter F_v S_v H_v G_v hz hi (fun z => absurd z q1) (fun _ _ => rfl) (fun _ z => absurd q2 z) (fun _ => rfl) (fun z => absurd q2 z)
    · exact own_law2 l Z a0 hw ws p1 p2 (0 : Int32) zc w_V clv w_EQUAL w_NOT_EQUAL w_LESS w_LESS_OR_EQUAL w_GREATER w_GREATER_OR_EQUAL y_EQUAL z_EQUAL k_EQUAL y_NOT_EQUAL z_NOT_EQUAL k_NOT_EQUAL y_LESS z_LESS k_LESS h0 n0 Z0 S_LESS E_w_LESS S_COMPACT_STRINGS S__VALUES R_w_V E_w_V F_w_EQUAL_symbol E_y_EQUAL F_y_EQUAL_coder F_y_EQUAL_value V_z_EQUAL F_w_NOT_EQUAL_symbol E_y_NOT_EQUAL F_y_NOT_EQUAL_coder F_y_NOT_EQUAL_value V_z_NOT_EQUAL F_w_LESS_symbol E_y_LESS F_y_LESS_coder F_y_LESS_value V_z_LESS F_w_LESS_whenBefore F_w_LESS_whenEqual F_w_LESS_whenAfter F_v S_v H_v G_v hz hi (fun z => absurd z q1) (fun _ _ => rfl) (fun _ z => absurd q2 z) (fun z => absurd z q1) (fun _ => rfl)
    · exact own_law3 l Z a0 hw ws p1 p2 (1 : Int32) zc w_V clv w_EQUAL w_NOT_EQUAL w_LESS w_LESS_OR_EQUAL w_GREATER w_GREATER_OR_EQUAL y_EQUAL z_EQUAL k_EQUAL y_NOT_EQUAL z_NOT_EQUAL k_NOT_EQUAL y_LESS z_LESS k_LESS y_LESS_OR_EQUAL z_LESS_OR_EQUAL k_LESS_OR_EQUAL h0 n0 Z0 S_LESS_OR_EQUAL E_w_LESS_OR_EQUAL S_COMPACT_STRINGS S__VALUES R_w_V E_w_V F_w_EQUAL_symbol E_y_EQUAL F_y_EQUAL_coder F_y_EQUAL_value V_z_EQUAL F_w_NOT_EQUAL_symbol E_y_NOT_EQUAL F_y_NOT_EQUAL_coder F_y_NOT_EQUAL_value V_z_NOT_EQUAL F_w_LESS_symbol E_y_LESS F_y_LESS_coder F_y_LESS_value V_z_LESS F_w_LESS_OR_EQUAL_symbol E_y_LESS_OR_EQUAL F_y_LESS_OR_EQUAL_coder F_y_LESS_OR_EQUAL_value V_z_LESS_OR_EQUAL F_w_LESS_OR_EQUAL_whenBefore F_w_LESS_OR_EQUAL_whenEqual F_w_LESS_OR_EQUAL_whenAfter F_v S_v H_v G_v hz hi (fun z => absurd z q1) (fun _ _ => rfl) (fun _ z => absurd q2 z) (fun z => absurd z q3) (fun _ => rfl)
    · exact own_law4 l Z a0 hw ws p1 p2 (0 : Int32) zc w_V clv w_EQUAL w_NOT_EQUAL w_LESS w_LESS_OR_EQUAL w_GREATER w_GREATER_OR_EQUAL y_EQUAL z_EQUAL k_EQUAL y_NOT_EQUAL z_NOT_EQUAL k_NOT_EQUAL y_LESS z_LESS k_LESS y_LESS_OR_EQUAL z_LESS_OR_EQUAL k_LESS_OR_EQUAL y_GREATER z_GREATER k_GREATER h0 n0 Z0 S_GREATER E_w_GREATER S_COMPACT_STRINGS S__VALUES R_w_V E_w_V F_w_EQUAL_symbol E_y_EQUAL F_y_EQUAL_coder F_y_EQUAL_value V_z_EQUAL F_w_NOT_EQUAL_symbol E_y_NOT_EQUAL F_y_NOT_EQUAL_coder F_y_NOT_EQUAL_value V_z_NOT_EQUAL F_w_LESS_symbol E_y_LESS F_y_LESS_coder F_y_LESS_value V_z_LESS F_w_LESS_OR_EQUAL_symbol E_y_LESS_OR_EQUAL F_y_LESS_OR_EQUAL_coder F_y_LESS_OR_EQUAL_value V_z_LESS_OR_EQUAL F_w_GREATER_symbol E_y_GREATER F_y_GREATER_coder F_y_GREATER_value V_z_GREATER F_w_GREATER_whenBefore F_w_GREATER_whenEqual F_w_GREATER_whenAfter F_v S_v H_v G_v hz hi (fun z => absurd z q1) (fun _ _ => rfl) (fun _ z => absurd q2 z) (fun z => absurd z q3) (fun _ => rfl)
    · exact own_law5 l Z a0 hw ws p1 p2 (1 : Int32) zc w_V clv w_EQUAL w_NOT_EQUAL w_LESS w_LESS_OR_EQUAL w_GREATER w_GREATER_OR_EQUAL y_EQUAL z_EQUAL k_EQUAL y_NOT_EQUAL z_NOT_EQUAL k_NOT_EQUAL y_LESS z_LESS k_LESS y_LESS_OR_EQUAL z_LESS_OR_EQUAL k_LESS_OR_EQUAL y_GREATER z_GREATER k_GREATER y_GREATER_OR_EQUAL z_GREATER_OR_EQUAL k_GREATER_OR_EQUAL h0 n0 Z0 S_GREATER_OR_EQUAL E_w_GREATER_OR_EQUAL S_COMPACT_STRINGS S__VALUES R_w_V E_w_V F_w_EQUAL_symbol E_y_EQUAL F_y_EQUAL_coder F_y_EQUAL_value V_z_EQUAL F_w_NOT_EQUAL_symbol E_y_NOT_EQUAL F_y_NOT_EQUAL_coder F_y_NOT_EQUAL_value V_z_NOT_EQUAL F_w_LESS_symbol E_y_LESS F_y_LESS_coder F_y_LESS_value V_z_LESS F_w_LESS_OR_EQUAL_symbol E_y_LESS_OR_EQUAL F_y_LESS_OR_EQUAL_coder F_y_LESS_OR_EQUAL_value V_z_LESS_OR_EQUAL F_w_GREATER_symbol E_y_GREATER F_y_GREATER_coder F_y_GREATER_value V_z_GREATER F_w_GREATER_OR_EQUAL_symbol E_y_GREATER_OR_EQUAL F_y_GREATER_OR_EQUAL_coder F_y_GREATER_OR_EQUAL_value V_z_GREATER_OR_EQUAL F_w_GREATER_OR_EQUAL_whenBefore F_w_GREATER_OR_EQUAL_whenEqual F_w_GREATER_OR_EQUAL_whenAfter F_v S_v H_v G_v hz hi (fun z => absurd z q1) (fun _ _ => rfl) (fun _ z => absurd q2 z) (fun z => absurd z q1) (fun _ => rfl)
  · rcases own_mod p1 with hi | hi | hi | hi | hi | hi
    · exact own_law0 l Z a0 hw ws p1 p2 (0 : Int32) zc w_V clv w_EQUAL w_NOT_EQUAL w_LESS w_LESS_OR_EQUAL w_GREATER w_GREATER_OR_EQUAL y_EQUAL z_EQUAL k_EQUAL h0 n0 Z0 S_EQUAL E_w_EQUAL S_COMPACT_STRINGS S__VALUES R_w_V E_w_V F_w_EQUAL_symbol E_y_EQUAL F_y_EQUAL_coder F_y_EQUAL_value V_z_EQUAL F_w_EQUAL_whenBefore F_w_EQUAL_whenEqual F_w_EQUAL_whenAfter F_v S_v H_v G_v hz hi (fun z => absurd z q1) (fun _ z => absurd z q2) (fun _ _ => rfl) (fun z => absurd z q2) (fun _ => rfl)
    · exact own_law1 l Z a0 hw ws p1 p2 (1 : Int32) zc w_V clv w_EQUAL w_NOT_EQUAL w_LESS w_LESS_OR_EQUAL w_GREATER w_GREATER_OR_EQUAL y_EQUAL z_EQUAL k_EQUAL y_NOT_EQUAL z_NOT_EQUAL k_NOT_EQUAL h0 n0 Z0 S_NOT_EQUAL E_w_NOT_EQUAL S_COMPACT_STRINGS S__VALUES R_w_V E_w_V F_w_EQUAL_symbol E_y_EQUAL F_y_EQUAL_coder F_y_EQUAL_value V_z_EQUAL F_w_NOT_EQUAL_symbol E_y_NOT_EQUAL F_y_NOT_EQUAL_coder F_y_NOT_EQUAL_value V_z_NOT_EQUAL F_w_NOT_EQUAL_whenBefore F_w_NOT_EQUAL_whenEqual F_w_NOT_EQUAL_whenAfter F_v S_v H_v G_v hz hi (fun z => absurd z q1) (fun _ z => absurd z q2) (fun _ _ => rfl) (fun z => absurd z q2) (fun _ => rfl)
    · exact own_law2 l Z a0 hw ws p1 p2 (0 : Int32) zc w_V clv w_EQUAL w_NOT_EQUAL w_LESS w_LESS_OR_EQUAL w_GREATER w_GREATER_OR_EQUAL y_EQUAL z_EQUAL k_EQUAL y_NOT_EQUAL z_NOT_EQUAL k_NOT_EQUAL y_LESS z_LESS k_LESS h0 n0 Z0 S_LESS E_w_LESS S_COMPACT_STRINGS S__VALUES R_w_V E_w_V F_w_EQUAL_symbol E_y_EQUAL F_y_EQUAL_coder F_y_EQUAL_value V_z_EQUAL F_w_NOT_EQUAL_symbol E_y_NOT_EQUAL F_y_NOT_EQUAL_coder F_y_NOT_EQUAL_value V_z_NOT_EQUAL F_w_LESS_symbol E_y_LESS F_y_LESS_coder F_y_LESS_value V_z_LESS F_w_LESS_whenBefore F_w_LESS_whenEqual F_w_LESS_whenAfter F_v S_v H_v G_v hz hi (fun z => absurd z q1) (fun _ z => absurd z q2) (fun _ _ => rfl) (fun z => absurd z q1) (fun _ => rfl)
    · exact own_law3 l Z a0 hw ws p1 p2 (0 : Int32) zc w_V clv w_EQUAL w_NOT_EQUAL w_LESS w_LESS_OR_EQUAL w_GREATER w_GREATER_OR_EQUAL y_EQUAL z_EQUAL k_EQUAL y_NOT_EQUAL z_NOT_EQUAL k_NOT_EQUAL y_LESS z_LESS k_LESS y_LESS_OR_EQUAL z_LESS_OR_EQUAL k_LESS_OR_EQUAL h0 n0 Z0 S_LESS_OR_EQUAL E_w_LESS_OR_EQUAL S_COMPACT_STRINGS S__VALUES R_w_V E_w_V F_w_EQUAL_symbol E_y_EQUAL F_y_EQUAL_coder F_y_EQUAL_value V_z_EQUAL F_w_NOT_EQUAL_symbol E_y_NOT_EQUAL F_y_NOT_EQUAL_coder F_y_NOT_EQUAL_value V_z_NOT_EQUAL F_w_LESS_symbol E_y_LESS F_y_LESS_coder F_y_LESS_value V_z_LESS F_w_LESS_OR_EQUAL_symbol E_y_LESS_OR_EQUAL F_y_LESS_OR_EQUAL_coder F_y_LESS_OR_EQUAL_value V_z_LESS_OR_EQUAL F_w_LESS_OR_EQUAL_whenBefore F_w_LESS_OR_EQUAL_whenEqual F_w_LESS_OR_EQUAL_whenAfter F_v S_v H_v G_v hz hi (fun z => absurd z q1) (fun _ z => absurd z q2) (fun _ _ => rfl) (fun _ => rfl) (fun z => absurd q3 z)
    · exact own_law4 l Z a0 hw ws p1 p2 (1 : Int32) zc w_V clv w_EQUAL w_NOT_EQUAL w_LESS w_LESS_OR_EQUAL w_GREATER w_GREATER_OR_EQUAL y_EQUAL z_EQUAL k_EQUAL y_NOT_EQUAL z_NOT_EQUAL k_NOT_EQUAL y_LESS z_LESS k_LESS y_LESS_OR_EQUAL z_LESS_OR_EQUAL k_LESS_OR_EQUAL y_GREATER z_GREATER k_GREATER h0 n0 Z0 S_GREATER E_w_GREATER S_COMPACT_STRINGS S__VALUES R_w_V E_w_V F_w_EQUAL_symbol E_y_EQUAL F_y_EQUAL_coder F_y_EQUAL_value V_z_EQUAL F_w_NOT_EQUAL_symbol E_y_NOT_EQUAL F_y_NOT_EQUAL_coder F_y_NOT_EQUAL_value V_z_NOT_EQUAL F_w_LESS_symbol E_y_LESS F_y_LESS_coder F_y_LESS_value V_z_LESS F_w_LESS_OR_EQUAL_symbol E_y_LESS_OR_EQUAL F_y_LESS_OR_EQUAL_coder F_y_LESS_OR_EQUAL_value V_z_LESS_OR_EQUAL F_w_GREATER_symbol E_y_GREATER F_y_GREATER_coder F_y_GREATER_value V_z_GREATER F_w_GREATER_whenBefore F_w_GREATER_whenEqual F_w_GREATER_whenAfter F_v S_v H_v G_v hz hi (fun z => absurd z q1) (fun _ z => absurd z q2) (fun _ _ => rfl) (fun _ => rfl) (fun z => absurd q3 z)
    · exact own_law5 l Z a0 hw ws p1 p2 (1 : Int32) zc w_V clv w_EQUAL w_NOT_EQUAL w_LESS w_LESS_OR_EQUAL w_GREATER w_GREATER_OR_EQUAL y_EQUAL z_EQUAL k_EQUAL y_NOT_EQUAL z_NOT_EQUAL k_NOT_EQUAL y_LESS z_LESS k_LESS y_LESS_OR_EQUAL z_LESS_OR_EQUAL k_LESS_OR_EQUAL y_GREATER z_GREATER k_GREATER y_GREATER_OR_EQUAL z_GREATER_OR_EQUAL k_GREATER_OR_EQUAL h0 n0 Z0 S_GREATER_OR_EQUAL E_w_GREATER_OR_EQUAL S_COMPACT_STRINGS S__VALUES R_w_V E_w_V F_w_EQUAL_symbol E_y_EQUAL F_y_EQUAL_coder F_y_EQUAL_value V_z_EQUAL F_w_NOT_EQUAL_symbol E_y_NOT_EQUAL F_y_NOT_EQUAL_coder F_y_NOT_EQUAL_value V_z_NOT_EQUAL F_w_LESS_symbol E_y_LESS F_y_LESS_coder F_y_LESS_value V_z_LESS F_w_LESS_OR_EQUAL_symbol E_y_LESS_OR_EQUAL F_y_LESS_OR_EQUAL_coder F_y_LESS_OR_EQUAL_value V_z_LESS_OR_EQUAL F_w_GREATER_symbol E_y_GREATER F_y_GREATER_coder F_y_GREATER_value V_z_GREATER F_w_GREATER_OR_EQUAL_symbol E_y_GREATER_OR_EQUAL F_y_GREATER_OR_EQUAL_coder F_y_GREATER_OR_EQUAL_value V_z_GREATER_OR_EQUAL F_w_GREATER_OR_EQUAL_whenBefore F_w_GREATER_OR_EQUAL_whenEqual F_w_GREATER_OR_EQUAL_whenAfter F_v S_v H_v G_v hz hi (fun z => absurd z q1) (fun _ z => absurd z q2) (fun _ _ => rfl) (fun z => absurd z q1) (fun _ => rfl)
set_option maxRecDepth 65536 in
set_option maxHeartbeats 40000000 in
theorem comes_1 {Post : Tables → Env → Array Value → State → Outcome → State → Prop} (hpost : ∀ tb e args s v u, (limb_1_1.after args s (.returned v) u = true ∧ limb_1_2.after args s (.returned v) u = true ∧ True) → FrameEnd s (.returned v) u (Jvm.fieldLocs frame_1_writes args s ++ Jvm.arrayLocs frame_1_arrays args s ++ Jvm.staticLocs frame_1_statics s) 16 128 → Post tb e args s (.returned v) u) :
    ArmFor flags0 classFile x code maxLocals ret World_1 tables_1 room_1 Calls_1 rest_1 Pre_1 Post := by
  intro l hfl _ _ p e ha hc hk s m args below hf hA hF happ hP
  obtain ⟨hcalls, hrest, hpre⟩ := hP
  obtain ⟨-, -, -, hnamed, -, -, -, hat⟩ := (Spec.applies_iff hf).mp happ
  obtain ⟨hg, hn⟩ := and_e (Cond.before_iff.mp (show (Jvm.Cond.and given_1 narrow_1).before args s = true from hpre))
  obtain ⟨q1, q2⟩ := and_e hg
  obtain ⟨q3, q4⟩ := and_e q2
  obtain ⟨q5, q6⟩ := and_e hn
  obtain ⟨q7, q8⟩ := and_e q6
  obtain ⟨q9, q10⟩ := and_e q8
  obtain ⟨q11, q12⟩ := and_e q10
  obtain ⟨q13, q14⟩ := and_e q12
  obtain ⟨q15, q16⟩ := and_e q14
  obtain ⟨q17, q18⟩ := and_e q16
  obtain ⟨q19, q20⟩ := and_e q18
  obtain ⟨q21, q22⟩ := and_e q20
  obtain ⟨q23, q24⟩ := and_e q22
  obtain ⟨q25, q26⟩ := and_e q24
  obtain ⟨q27, q28⟩ := and_e q26
  obtain ⟨q29, q30⟩ := and_e q28
  obtain ⟨q31, q32⟩ := and_e q30
  obtain ⟨q33, q34⟩ := and_e q32
  obtain ⟨q35, q36⟩ := and_e q34
  obtain ⟨q37, q38⟩ := and_e q36
  obtain ⟨q39, q40⟩ := and_e q38
  obtain ⟨q41, q42⟩ := and_e q40
  obtain ⟨q43, q44⟩ := and_e q42
  obtain ⟨q45, q46⟩ := and_e q44
  obtain ⟨q47, q48⟩ := and_e q46
  obtain ⟨q49, q50⟩ := and_e q48
  obtain ⟨q51, q52⟩ := and_e q50
  obtain ⟨q53, q54⟩ := and_e q52
  obtain ⟨q55, q56⟩ := and_e q54
  obtain ⟨q57, q58⟩ := and_e q56
  obtain ⟨q59, q60⟩ := and_e q58
  obtain ⟨q61, q62⟩ := and_e q60
  obtain ⟨q63, q64⟩ := and_e q62
  obtain ⟨q65, q66⟩ := and_e q64
  obtain ⟨q67, q68⟩ := and_e q66
  obtain ⟨q69, q70⟩ := and_e q68
  obtain ⟨q71, q72⟩ := and_e q70
  obtain ⟨q73, q74⟩ := and_e q72
  obtain ⟨q75, q76⟩ := and_e q74
  obtain ⟨q77, q78⟩ := and_e q76
  obtain ⟨q79, q80⟩ := and_e q78
  obtain ⟨q81, q82⟩ := and_e q80
  obtain ⟨q83, q84⟩ := and_e q82
  obtain ⟨q85, q86⟩ := and_e q84
  obtain ⟨q87, q88⟩ := and_e q86
  obtain ⟨q89, q90⟩ := and_e q88
  obtain ⟨q91, q92⟩ := and_e q90
  obtain ⟨q93, q94⟩ := and_e q92
  obtain ⟨q95, q96⟩ := and_e q94
  obtain ⟨q97, q98⟩ := and_e q96
  obtain ⟨q99, q100⟩ := and_e q98
  obtain ⟨q101, q102⟩ := and_e q100
  obtain ⟨q103, q104⟩ := and_e q102
  obtain ⟨q105, q106⟩ := and_e q104
  obtain ⟨q107, q108⟩ := and_e q106
  obtain ⟨q109, q110⟩ := and_e q108
  obtain ⟨q111, q112⟩ := and_e q110
  obtain ⟨q113, q114⟩ := and_e q112
  obtain ⟨q115, q116⟩ := and_e q114
  obtain ⟨q117, q118⟩ := and_e q116
  obtain ⟨q119, q120⟩ := and_e q118
  obtain ⟨q121, q122⟩ := and_e q120
  obtain ⟨q123, q124⟩ := and_e q122
  obtain ⟨q125, q126⟩ := and_e q124
  obtain ⟨q127, q128⟩ := and_e q126
  obtain ⟨q129, q130⟩ := and_e q128
  obtain ⟨q131, q132⟩ := and_e q130
  obtain ⟨q133, q134⟩ := and_e q132
  obtain ⟨q135, q136⟩ := and_e q134
  obtain ⟨w0, w1, rfl⟩ : ∃ w0 w1 : Value, args = #[w0, w1] := by
    have hs : args.size = 2 := by simpa [Cond.value, given_1] using q1
    obtain ⟨L⟩ := args
    match L, hs with
    | [w0, w1], _ => exact ⟨w0, w1, rfl⟩
  have hw := fun d (hd : d ∈ tables_1) => atoms_spec (ws := Jvm.Cond.code x code maxLocals ret :: tables_1) hat d (List.mem_cons_of_mem _ hd)
  have hfit : Fit s := fun {y c} hc i hi => by
    obtain ⟨ha, rfl⟩ := Array.getElem?_eq_some_iff.mp hc
    have q := List.all_eq_true.mp ((Array.all_eq_true_iff_forall_mem.mp hF) _ (Array.getElem_mem ha)) i (List.mem_range.mpr hi)
    simpa [Array.getElem?_eq_getElem hi] using q
  obtain ⟨hsets, hown0⟩ := atoms_of _ (rest_1_c_eq ▸ (show rest_1_c.before _ s = true from hrest))
  have hr0 := Cond.before_iff.mp hown0
  obtain ⟨i0, ei0⟩ := is_v q3
  obtain rfl : w0 = (.int i0) := Option.some.inj ei0
  obtain ⟨i1, ei1⟩ := is_v q4
  obtain rfl : w1 = (.int i1) := Option.some.inj ei1
  obtain ⟨w_EQUAL, ev_EQUAL⟩ := exa_v q5
  have S_EQUAL : Sta s s.heap "com/example/polyphony/polyphony/policy/Operator" "EQUAL" "Lcom/example/polyphony/polyphony/policy/Operator;" (.ref w_EQUAL) := Sta.start ev_EQUAL (Or.inr ⟨(hw _ (List.mem_of_getElem? (i := 3) rfl)), (hw _ (List.mem_of_getElem? (i := 4) rfl))⟩)
  have E_w_EQUAL : Exa s s.heap w_EQUAL "com/example/polyphony/polyphony/policy/Operator" := Exa.start ev_EQUAL q5
  obtain ⟨w_NOT_EQUAL, ev_NOT_EQUAL⟩ := exa_v q15
  have S_NOT_EQUAL : Sta s s.heap "com/example/polyphony/polyphony/policy/Operator" "NOT_EQUAL" "Lcom/example/polyphony/polyphony/policy/Operator;" (.ref w_NOT_EQUAL) := Sta.start ev_NOT_EQUAL (Or.inr ⟨(hw _ (List.mem_of_getElem? (i := 3) rfl)), (hw _ (List.mem_of_getElem? (i := 49) rfl))⟩)
  have E_w_NOT_EQUAL : Exa s s.heap w_NOT_EQUAL "com/example/polyphony/polyphony/policy/Operator" := Exa.start ev_NOT_EQUAL q15
  obtain ⟨w_LESS, ev_LESS⟩ := exa_v q19
  have S_LESS : Sta s s.heap "com/example/polyphony/polyphony/policy/Operator" "LESS" "Lcom/example/polyphony/polyphony/policy/Operator;" (.ref w_LESS) := Sta.start ev_LESS (Or.inr ⟨(hw _ (List.mem_of_getElem? (i := 3) rfl)), (hw _ (List.mem_of_getElem? (i := 50) rfl))⟩)
  have E_w_LESS : Exa s s.heap w_LESS "com/example/polyphony/polyphony/policy/Operator" := Exa.start ev_LESS q19
  obtain ⟨w_LESS_OR_EQUAL, ev_LESS_OR_EQUAL⟩ := exa_v q23
  have S_LESS_OR_EQUAL : Sta s s.heap "com/example/polyphony/polyphony/policy/Operator" "LESS_OR_EQUAL" "Lcom/example/polyphony/polyphony/policy/Operator;" (.ref w_LESS_OR_EQUAL) := Sta.start ev_LESS_OR_EQUAL (Or.inr ⟨(hw _ (List.mem_of_getElem? (i := 3) rfl)), (hw _ (List.mem_of_getElem? (i := 51) rfl))⟩)
  have E_w_LESS_OR_EQUAL : Exa s s.heap w_LESS_OR_EQUAL "com/example/polyphony/polyphony/policy/Operator" := Exa.start ev_LESS_OR_EQUAL q23
  obtain ⟨w_GREATER, ev_GREATER⟩ := exa_v q27
  have S_GREATER : Sta s s.heap "com/example/polyphony/polyphony/policy/Operator" "GREATER" "Lcom/example/polyphony/polyphony/policy/Operator;" (.ref w_GREATER) := Sta.start ev_GREATER (Or.inr ⟨(hw _ (List.mem_of_getElem? (i := 3) rfl)), (hw _ (List.mem_of_getElem? (i := 52) rfl))⟩)
  have E_w_GREATER : Exa s s.heap w_GREATER "com/example/polyphony/polyphony/policy/Operator" := Exa.start ev_GREATER q27
  obtain ⟨w_GREATER_OR_EQUAL, ev_GREATER_OR_EQUAL⟩ := exa_v q31
  have S_GREATER_OR_EQUAL : Sta s s.heap "com/example/polyphony/polyphony/policy/Operator" "GREATER_OR_EQUAL" "Lcom/example/polyphony/polyphony/policy/Operator;" (.ref w_GREATER_OR_EQUAL) := Sta.start ev_GREATER_OR_EQUAL (Or.inr ⟨(hw _ (List.mem_of_getElem? (i := 3) rfl)), (hw _ (List.mem_of_getElem? (i := 53) rfl))⟩)
  have E_w_GREATER_OR_EQUAL : Exa s s.heap w_GREATER_OR_EQUAL "com/example/polyphony/polyphony/policy/Operator" := Exa.start ev_GREATER_OR_EQUAL q31
  obtain ⟨w_V, ev_V⟩ := arr_v q7
  have S__VALUES : Sta s s.heap "com/example/polyphony/polyphony/policy/Operator" "$VALUES" "[Lcom/example/polyphony/polyphony/policy/Operator;" (.ref w_V) := Sta.start ev_V (Or.inl (hw _ (List.mem_of_getElem? (i := 54) rfl)))
  obtain ⟨clv, R_w_V⟩ := Arr.start ev_V q7
  have E_w_V : Exa s s.heap w_V "[Lcom/example/polyphony/polyphony/policy/Operator;" := Exa.start ev_V q9
  obtain ⟨sz_V, ln_V⟩ := own_len ev_V R_w_V q11
  have el_V_0 := own_elemR ev_V ev_EQUAL R_w_V q13
  have el_V_1 := own_elemR ev_V ev_NOT_EQUAL R_w_V q17
  have el_V_2 := own_elemR ev_V ev_LESS R_w_V q21
  have el_V_3 := own_elemR ev_V ev_LESS_OR_EQUAL R_w_V q25
  have el_V_4 := own_elemR ev_V ev_GREATER R_w_V q29
  have el_V_5 := own_elemR ev_V ev_GREATER_OR_EQUAL R_w_V q33
  obtain ⟨y_EQUAL, evy_EQUAL⟩ := exa_v q35
  have F_w_EQUAL_symbol : Fld s s.heap w_EQUAL "com/example/polyphony/polyphony/policy/Operator" "symbol" "Ljava/lang/String;" (.ref y_EQUAL) := own_fldR ev_EQUAL evy_EQUAL
  have E_y_EQUAL : Exa s s.heap y_EQUAL "java/lang/String" := Exa.start evy_EQUAL q35
  have F_y_EQUAL_coder : Fld s s.heap y_EQUAL "java/lang/String" "coder" "B" (.int (0 : Int32)) := own_fldI evy_EQUAL q37
  obtain ⟨z_EQUAL, evz_EQUAL⟩ := arr_v q39
  have F_y_EQUAL_value : Fld s s.heap y_EQUAL "java/lang/String" "value" "[B" (.ref z_EQUAL) := own_fldR evy_EQUAL evz_EQUAL
  obtain ⟨cl_EQUAL, Ar_EQUAL⟩ := Arr.start evz_EQUAL q39
  obtain ⟨sz_EQUAL, ln_EQUAL⟩ := own_len evz_EQUAL Ar_EQUAL q41
  have el_EQUAL_0 := own_elemI evz_EQUAL Ar_EQUAL q43
  have el_EQUAL_1 := own_elemI evz_EQUAL Ar_EQUAL q45
  have F_w_EQUAL_whenAfter : Fld s s.heap w_EQUAL "com/example/polyphony/polyphony/policy/Operator" "whenAfter" "Z" (.int (0 : Int32)) := own_fldI ev_EQUAL q47
  obtain ⟨y_NOT_EQUAL, evy_NOT_EQUAL⟩ := exa_v q49
  have F_w_NOT_EQUAL_symbol : Fld s s.heap w_NOT_EQUAL "com/example/polyphony/polyphony/policy/Operator" "symbol" "Ljava/lang/String;" (.ref y_NOT_EQUAL) := own_fldR ev_NOT_EQUAL evy_NOT_EQUAL
  have E_y_NOT_EQUAL : Exa s s.heap y_NOT_EQUAL "java/lang/String" := Exa.start evy_NOT_EQUAL q49
  have F_y_NOT_EQUAL_coder : Fld s s.heap y_NOT_EQUAL "java/lang/String" "coder" "B" (.int (0 : Int32)) := own_fldI evy_NOT_EQUAL q51
  obtain ⟨z_NOT_EQUAL, evz_NOT_EQUAL⟩ := arr_v q53
  have F_y_NOT_EQUAL_value : Fld s s.heap y_NOT_EQUAL "java/lang/String" "value" "[B" (.ref z_NOT_EQUAL) := own_fldR evy_NOT_EQUAL evz_NOT_EQUAL
  obtain ⟨cl_NOT_EQUAL, Ar_NOT_EQUAL⟩ := Arr.start evz_NOT_EQUAL q53
  obtain ⟨sz_NOT_EQUAL, ln_NOT_EQUAL⟩ := own_len evz_NOT_EQUAL Ar_NOT_EQUAL q55
  obtain ⟨y_LESS, evy_LESS⟩ := exa_v q57
  have F_w_LESS_symbol : Fld s s.heap w_LESS "com/example/polyphony/polyphony/policy/Operator" "symbol" "Ljava/lang/String;" (.ref y_LESS) := own_fldR ev_LESS evy_LESS
  have E_y_LESS : Exa s s.heap y_LESS "java/lang/String" := Exa.start evy_LESS q57
  have F_y_LESS_coder : Fld s s.heap y_LESS "java/lang/String" "coder" "B" (.int (0 : Int32)) := own_fldI evy_LESS q59
  obtain ⟨z_LESS, evz_LESS⟩ := arr_v q61
  have F_y_LESS_value : Fld s s.heap y_LESS "java/lang/String" "value" "[B" (.ref z_LESS) := own_fldR evy_LESS evz_LESS
  obtain ⟨cl_LESS, Ar_LESS⟩ := Arr.start evz_LESS q61
  obtain ⟨sz_LESS, ln_LESS⟩ := own_len evz_LESS Ar_LESS q63
  have el_LESS_0 := own_elemI evz_LESS Ar_LESS q65
  have F_w_LESS_whenAfter : Fld s s.heap w_LESS "com/example/polyphony/polyphony/policy/Operator" "whenAfter" "Z" (.int (0 : Int32)) := own_fldI ev_LESS q67
  have F_w_LESS_whenBefore : Fld s s.heap w_LESS "com/example/polyphony/polyphony/policy/Operator" "whenBefore" "Z" (.int (1 : Int32)) := own_fldI ev_LESS q69
  obtain ⟨y_LESS_OR_EQUAL, evy_LESS_OR_EQUAL⟩ := exa_v q71
  have F_w_LESS_OR_EQUAL_symbol : Fld s s.heap w_LESS_OR_EQUAL "com/example/polyphony/polyphony/policy/Operator" "symbol" "Ljava/lang/String;" (.ref y_LESS_OR_EQUAL) := own_fldR ev_LESS_OR_EQUAL evy_LESS_OR_EQUAL
  have E_y_LESS_OR_EQUAL : Exa s s.heap y_LESS_OR_EQUAL "java/lang/String" := Exa.start evy_LESS_OR_EQUAL q71
  have F_y_LESS_OR_EQUAL_coder : Fld s s.heap y_LESS_OR_EQUAL "java/lang/String" "coder" "B" (.int (0 : Int32)) := own_fldI evy_LESS_OR_EQUAL q73
  obtain ⟨z_LESS_OR_EQUAL, evz_LESS_OR_EQUAL⟩ := arr_v q75
  have F_y_LESS_OR_EQUAL_value : Fld s s.heap y_LESS_OR_EQUAL "java/lang/String" "value" "[B" (.ref z_LESS_OR_EQUAL) := own_fldR evy_LESS_OR_EQUAL evz_LESS_OR_EQUAL
  obtain ⟨cl_LESS_OR_EQUAL, Ar_LESS_OR_EQUAL⟩ := Arr.start evz_LESS_OR_EQUAL q75
  obtain ⟨sz_LESS_OR_EQUAL, ln_LESS_OR_EQUAL⟩ := own_len evz_LESS_OR_EQUAL Ar_LESS_OR_EQUAL q77
  obtain ⟨y_GREATER, evy_GREATER⟩ := exa_v q79
  have F_w_GREATER_symbol : Fld s s.heap w_GREATER "com/example/polyphony/polyphony/policy/Operator" "symbol" "Ljava/lang/String;" (.ref y_GREATER) := own_fldR ev_GREATER evy_GREATER
  have E_y_GREATER : Exa s s.heap y_GREATER "java/lang/String" := Exa.start evy_GREATER q79
  have F_y_GREATER_coder : Fld s s.heap y_GREATER "java/lang/String" "coder" "B" (.int (0 : Int32)) := own_fldI evy_GREATER q81
  obtain ⟨z_GREATER, evz_GREATER⟩ := arr_v q83
  have F_y_GREATER_value : Fld s s.heap y_GREATER "java/lang/String" "value" "[B" (.ref z_GREATER) := own_fldR evy_GREATER evz_GREATER
  obtain ⟨cl_GREATER, Ar_GREATER⟩ := Arr.start evz_GREATER q83
  obtain ⟨sz_GREATER, ln_GREATER⟩ := own_len evz_GREATER Ar_GREATER q85
  have el_GREATER_0 := own_elemI evz_GREATER Ar_GREATER q87
  have F_w_GREATER_whenBefore : Fld s s.heap w_GREATER "com/example/polyphony/polyphony/policy/Operator" "whenBefore" "Z" (.int (0 : Int32)) := own_fldI ev_GREATER q89
  have el_NOT_EQUAL_0 := own_elemI evz_NOT_EQUAL Ar_NOT_EQUAL q91
  have el_NOT_EQUAL_1 := own_elemI evz_NOT_EQUAL Ar_NOT_EQUAL q93
  have F_w_NOT_EQUAL_whenAfter : Fld s s.heap w_NOT_EQUAL "com/example/polyphony/polyphony/policy/Operator" "whenAfter" "Z" (.int (1 : Int32)) := own_fldI ev_NOT_EQUAL q95
  have F_w_EQUAL_whenBefore : Fld s s.heap w_EQUAL "com/example/polyphony/polyphony/policy/Operator" "whenBefore" "Z" (.int (0 : Int32)) := own_fldI ev_EQUAL q97
  have el_LESS_OR_EQUAL_0 := own_elemI evz_LESS_OR_EQUAL Ar_LESS_OR_EQUAL q99
  obtain ⟨y_GREATER_OR_EQUAL, evy_GREATER_OR_EQUAL⟩ := exa_v q101
  have F_w_GREATER_OR_EQUAL_symbol : Fld s s.heap w_GREATER_OR_EQUAL "com/example/polyphony/polyphony/policy/Operator" "symbol" "Ljava/lang/String;" (.ref y_GREATER_OR_EQUAL) := own_fldR ev_GREATER_OR_EQUAL evy_GREATER_OR_EQUAL
  have E_y_GREATER_OR_EQUAL : Exa s s.heap y_GREATER_OR_EQUAL "java/lang/String" := Exa.start evy_GREATER_OR_EQUAL q101
  have F_y_GREATER_OR_EQUAL_coder : Fld s s.heap y_GREATER_OR_EQUAL "java/lang/String" "coder" "B" (.int (0 : Int32)) := own_fldI evy_GREATER_OR_EQUAL q103
  obtain ⟨z_GREATER_OR_EQUAL, evz_GREATER_OR_EQUAL⟩ := arr_v q105
  have F_y_GREATER_OR_EQUAL_value : Fld s s.heap y_GREATER_OR_EQUAL "java/lang/String" "value" "[B" (.ref z_GREATER_OR_EQUAL) := own_fldR evy_GREATER_OR_EQUAL evz_GREATER_OR_EQUAL
  obtain ⟨cl_GREATER_OR_EQUAL, Ar_GREATER_OR_EQUAL⟩ := Arr.start evz_GREATER_OR_EQUAL q105
  obtain ⟨sz_GREATER_OR_EQUAL, ln_GREATER_OR_EQUAL⟩ := own_len evz_GREATER_OR_EQUAL Ar_GREATER_OR_EQUAL q107
  have el_GREATER_OR_EQUAL_0 := own_elemI evz_GREATER_OR_EQUAL Ar_GREATER_OR_EQUAL q109
  have el_GREATER_OR_EQUAL_1 := own_elemI evz_GREATER_OR_EQUAL Ar_GREATER_OR_EQUAL q111
  have F_w_GREATER_OR_EQUAL_whenAfter : Fld s s.heap w_GREATER_OR_EQUAL "com/example/polyphony/polyphony/policy/Operator" "whenAfter" "Z" (.int (1 : Int32)) := own_fldI ev_GREATER_OR_EQUAL q113
  have el_LESS_OR_EQUAL_1 := own_elemI evz_LESS_OR_EQUAL Ar_LESS_OR_EQUAL q115
  have F_w_LESS_OR_EQUAL_whenAfter : Fld s s.heap w_LESS_OR_EQUAL "com/example/polyphony/polyphony/policy/Operator" "whenAfter" "Z" (.int (0 : Int32)) := own_fldI ev_LESS_OR_EQUAL q117
  have F_w_LESS_OR_EQUAL_whenBefore : Fld s s.heap w_LESS_OR_EQUAL "com/example/polyphony/polyphony/policy/Operator" "whenBefore" "Z" (.int (1 : Int32)) := own_fldI ev_LESS_OR_EQUAL q119
  have F_w_GREATER_whenAfter : Fld s s.heap w_GREATER "com/example/polyphony/polyphony/policy/Operator" "whenAfter" "Z" (.int (1 : Int32)) := own_fldI ev_GREATER q121
  have F_w_NOT_EQUAL_whenBefore : Fld s s.heap w_NOT_EQUAL "com/example/polyphony/polyphony/policy/Operator" "whenBefore" "Z" (.int (1 : Int32)) := own_fldI ev_NOT_EQUAL q123
  have F_w_GREATER_OR_EQUAL_whenBefore : Fld s s.heap w_GREATER_OR_EQUAL "com/example/polyphony/polyphony/policy/Operator" "whenBefore" "Z" (.int (0 : Int32)) := own_fldI ev_GREATER_OR_EQUAL q125
  have F_w_LESS_OR_EQUAL_whenEqual : Fld s s.heap w_LESS_OR_EQUAL "com/example/polyphony/polyphony/policy/Operator" "whenEqual" "Z" (.int (1 : Int32)) := own_fldI ev_LESS_OR_EQUAL q127
  have F_w_EQUAL_whenEqual : Fld s s.heap w_EQUAL "com/example/polyphony/polyphony/policy/Operator" "whenEqual" "Z" (.int (1 : Int32)) := own_fldI ev_EQUAL q129
  have F_w_LESS_whenEqual : Fld s s.heap w_LESS "com/example/polyphony/polyphony/policy/Operator" "whenEqual" "Z" (.int (0 : Int32)) := own_fldI ev_LESS q131
  have F_w_NOT_EQUAL_whenEqual : Fld s s.heap w_NOT_EQUAL "com/example/polyphony/polyphony/policy/Operator" "whenEqual" "Z" (.int (0 : Int32)) := own_fldI ev_NOT_EQUAL q133
  have F_w_GREATER_whenEqual : Fld s s.heap w_GREATER "com/example/polyphony/polyphony/policy/Operator" "whenEqual" "Z" (.int (0 : Int32)) := own_fldI ev_GREATER q135
  have F_w_GREATER_OR_EQUAL_whenEqual : Fld s s.heap w_GREATER_OR_EQUAL "com/example/polyphony/polyphony/policy/Operator" "whenEqual" "Z" (.int (1 : Int32)) := own_fldI ev_GREATER_OR_EQUAL q136
  have VV : Arv s s.heap w_V clv.cls (.object "com/example/polyphony/polyphony/policy/Operator") (6 : Int32) [(.ref w_EQUAL), (.ref w_NOT_EQUAL), (.ref w_LESS), (.ref w_LESS_OR_EQUAL), (.ref w_GREATER), (.ref w_GREATER_OR_EQUAL)] .null := Arv.start hfit R_w_V sz_V ln_V (by decide) rfl ⟨el_V_0, el_V_1, el_V_2, el_V_3, el_V_4, el_V_5, trivial⟩
  have F_v := FitC.start hfit R_w_V
  obtain ⟨clv', A_v, -, S_v, -, H_v, G_v⟩ := VV
  obtain rfl : clv' = clv := Option.some.inj (A_v.1.symm.trans R_w_V.1)
  have V_z_EQUAL : Arv s s.heap z_EQUAL cl_EQUAL.cls .byte (2 : Int32) [(.int (61 : Int32)), (.int (61 : Int32))] (.int (0 : Int32)) := Arv.start hfit Ar_EQUAL sz_EQUAL ln_EQUAL (by decide) rfl ⟨el_EQUAL_0, el_EQUAL_1, trivial⟩
  have V_z_NOT_EQUAL : Arv s s.heap z_NOT_EQUAL cl_NOT_EQUAL.cls .byte (2 : Int32) [(.int (33 : Int32)), (.int (61 : Int32))] (.int (0 : Int32)) := Arv.start hfit Ar_NOT_EQUAL sz_NOT_EQUAL ln_NOT_EQUAL (by decide) rfl ⟨el_NOT_EQUAL_0, el_NOT_EQUAL_1, trivial⟩
  have V_z_LESS : Arv s s.heap z_LESS cl_LESS.cls .byte (1 : Int32) [(.int (60 : Int32))] (.int (0 : Int32)) := Arv.start hfit Ar_LESS sz_LESS ln_LESS (by decide) rfl ⟨el_LESS_0, trivial⟩
  have V_z_LESS_OR_EQUAL : Arv s s.heap z_LESS_OR_EQUAL cl_LESS_OR_EQUAL.cls .byte (2 : Int32) [(.int (60 : Int32)), (.int (61 : Int32))] (.int (0 : Int32)) := Arv.start hfit Ar_LESS_OR_EQUAL sz_LESS_OR_EQUAL ln_LESS_OR_EQUAL (by decide) rfl ⟨el_LESS_OR_EQUAL_0, el_LESS_OR_EQUAL_1, trivial⟩
  have V_z_GREATER : Arv s s.heap z_GREATER cl_GREATER.cls .byte (1 : Int32) [(.int (62 : Int32))] (.int (0 : Int32)) := Arv.start hfit Ar_GREATER sz_GREATER ln_GREATER (by decide) rfl ⟨el_GREATER_0, trivial⟩
  have V_z_GREATER_OR_EQUAL : Arv s s.heap z_GREATER_OR_EQUAL cl_GREATER_OR_EQUAL.cls .byte (2 : Int32) [(.int (62 : Int32)), (.int (61 : Int32))] (.int (0 : Int32)) := Arv.start hfit Ar_GREATER_OR_EQUAL sz_GREATER_OR_EQUAL ln_GREATER_OR_EQUAL (by decide) rfl ⟨el_GREATER_OR_EQUAL_0, el_GREATER_OR_EQUAL_1, trivial⟩
  obtain ⟨zc, evc⟩ := is_v (Cond.before_iff.mp (hsets _ (List.mem_of_getElem? (i := 1) rfl)))
  have S_COMPACT_STRINGS : Sta s s.heap "java/lang/String" "COMPACT_STRINGS" "Z" (.int zc) := Sta.start evc (Or.inl (hsets _ (List.mem_of_getElem? (i := 0) rfl)))
  have hz : ¬ (zc = (0 : Int32)) := by
    have q := not_v (Cond.before_iff.mp (hsets _ (List.mem_of_getElem? (i := 2) rfl)))
    intro z
    subst z
    simp [Jvm.Cond.value, evc, Term.int_eval] at q
  obtain ⟨n, o, h1, h2, h3, _, L, rfl, ⟨rfl, N⟩, hq⟩ := own_law l s _ hw tables_1 i0 i1 zc w_V clv' w_EQUAL w_NOT_EQUAL w_LESS w_LESS_OR_EQUAL w_GREATER w_GREATER_OR_EQUAL y_EQUAL z_EQUAL cl_EQUAL.cls y_NOT_EQUAL z_NOT_EQUAL cl_NOT_EQUAL.cls y_LESS z_LESS cl_LESS.cls y_LESS_OR_EQUAL z_LESS_OR_EQUAL cl_LESS_OR_EQUAL.cls y_GREATER z_GREATER cl_GREATER.cls y_GREATER_OR_EQUAL z_GREATER_OR_EQUAL cl_GREATER_OR_EQUAL.cls s.heap s.heap.size (Nat.le_refl _) S_COMPACT_STRINGS S__VALUES R_w_V E_w_V S_EQUAL E_w_EQUAL F_w_EQUAL_symbol E_y_EQUAL F_y_EQUAL_coder F_y_EQUAL_value V_z_EQUAL F_w_EQUAL_whenBefore F_w_EQUAL_whenEqual F_w_EQUAL_whenAfter S_NOT_EQUAL E_w_NOT_EQUAL F_w_NOT_EQUAL_symbol E_y_NOT_EQUAL F_y_NOT_EQUAL_coder F_y_NOT_EQUAL_value V_z_NOT_EQUAL F_w_NOT_EQUAL_whenBefore F_w_NOT_EQUAL_whenEqual F_w_NOT_EQUAL_whenAfter S_LESS E_w_LESS F_w_LESS_symbol E_y_LESS F_y_LESS_coder F_y_LESS_value V_z_LESS F_w_LESS_whenBefore F_w_LESS_whenEqual F_w_LESS_whenAfter S_LESS_OR_EQUAL E_w_LESS_OR_EQUAL F_w_LESS_OR_EQUAL_symbol E_y_LESS_OR_EQUAL F_y_LESS_OR_EQUAL_coder F_y_LESS_OR_EQUAL_value V_z_LESS_OR_EQUAL F_w_LESS_OR_EQUAL_whenBefore F_w_LESS_OR_EQUAL_whenEqual F_w_LESS_OR_EQUAL_whenAfter S_GREATER E_w_GREATER F_w_GREATER_symbol E_y_GREATER F_y_GREATER_coder F_y_GREATER_value V_z_GREATER F_w_GREATER_whenBefore F_w_GREATER_whenEqual F_w_GREATER_whenAfter S_GREATER_OR_EQUAL E_w_GREATER_OR_EQUAL F_w_GREATER_OR_EQUAL_symbol E_y_GREATER_OR_EQUAL F_y_GREATER_OR_EQUAL_coder F_y_GREATER_OR_EQUAL_value V_z_GREATER_OR_EQUAL F_w_GREATER_OR_EQUAL_whenBefore F_w_GREATER_OR_EQUAL_whenEqual F_w_GREATER_OR_EQUAL_whenAfter F_v S_v H_v G_v hz p e ha hc hk s m _ below hf ((Spec.applies_iff_loose hf).mp happ).1 ⟨rfl, State.Warmed39.refl s, rfl⟩ trivial
  refine ⟨n, _, h1, h2, h3, hpost _ _ _ _ _ _ ⟨Cond.after_iff.mpr rfl, Cond.after_iff.mpr (eq_i res_at (Term.int_eval (1)) rfl), trivial⟩ ⟨hq.1, hq.2.1, (hq.2.2.sift fun y hy => Or.inr (N y hy)).mono (by decide) (by decide)⟩⟩
theorem main_1_1 : Claimed_1_1 := comes_1 fun _ _ _ _ _ _ h hF => ⟨h.1, hF⟩
theorem main_1_2 : Claimed_1_2 := comes_1 fun _ _ _ _ _ _ h hF => ⟨h.2.1, hF⟩
end Jvm.Pilot.@@N@@
namespace Jvm.Pilot.@@N@@
open Jvm Jvm.ClassFile Sem Op Lib Jvm.Free Jvm.Stand Jvm.Pilot.@@N@@.Jvm.D
/-! MADE BY PROGRAM (witnessworld.py) out of the Statement's table words and the real class files: 22 classes; the members and pool entries that the words name. The judged class is class 1, her method 1. -/
namespace start1
open Jvm.ClassFile
def u (s : String) : CpInfo := .utf8 (stringToUtf16 s)
/-- a pool by its gaps: so many unusable entries, then the entry; so many at the end -/
def gap : Nat → List CpInfo → List CpInfo
  | 0, r => r
  | n + 1, r => .unusable :: gap n r
def poolList (es : List (Nat × CpInfo)) (last : Nat) : List CpInfo := es.foldr (fun e r => gap e.1 (e.2 :: r)) (gap last [])
def pool (es : List (Nat × CpInfo)) (last : Nat) : Array CpInfo := ⟨poolList es last⟩
def fileOf (pool : Array CpInfo) (this : Nat) (attrs : Array Attribute := #[]) (ms : Array MethodInfo := #[]) (fl : Nat := 33) (sup : Nat := 0) (ifs : Array Nat := #[]) (fds : Array FieldInfo := #[]) : ClassFile where
  minorVersion := 0
  majorVersion := 65
  constantPool := pool
  accessFlags := fl
  thisClass := this
  superClass := sup
  interfaces := ifs
  fields := fds
  methods := ms
  attributes := attrs
def plain (name : String) (sup : Option ClassId) : Class where
  name := name
  kind := .ordinary
  loader := none
  accessFlags := 33
  super := sup
  interfaces := #[]
  cf := none
  fields := #[]
  methods := #[]
  instanceTypes := #[]
  staticTypes := #[]
  resolved := #[]
  callSites := []
  init := .initialized
  statics := none
  mirror := none

def pool0 : Array CpInfo := pool [(5, u "<init>"), (0, u "()V"), (1, .class_ 10), (1, u "java/lang/Object"), (85, u "clone"), (0, u "()Ljava/lang/Object;")] 26

def k0c0 : Code := { maxStack := 0, maxLocals := 1, code := object_method_1_code, exceptionTable := #[], attributes := #[] }
def k0m0 : Method := { name := "<init>", desc := "()V", sig := { parameters := [], returnType := none }, accessFlags := 1, code := some k0c0 }
def k0m1 : Method := { name := "clone", desc := "()Ljava/lang/Object;", sig := { parameters := [], returnType := some (.object "java/lang/Object") }, accessFlags := 260, code := none }
/-- java/lang/Object -/
def k0 : Class := { plain "java/lang/Object" none with
  accessFlags := 33
  interfaces := #[]
  cf := some (fileOf pool0 8 #[] #[{ accessFlags := 1, nameIndex := 5, descriptorIndex := 6, attributes := #[] }, { accessFlags := 260, nameIndex := 96, descriptorIndex := 97, attributes := #[] }] 33 0 #[] #[])
  fields := #[]
  methods := #[k0m0, k0m1]
  instanceTypes := #[]
  staticTypes := #[]
  resolved := Array.replicate 124 none
  statics := none }

def pool1 : Array CpInfo := pool [(2, .class_ 4), (1, u "java/lang/Object"), (0, u "<init>"), (0, u "()V"), (0, .integer 2147483647), (0, .fieldref 9 10), (0, .class_ 11), (0, .nameAndType 12 13), (0, u "com/example/polyphony/polyphony/policy/Operator"), (0, u "EQUAL"), (0, u "Lcom/example/polyphony/polyphony/policy/Operator;"), (0, .fieldref 9 15), (0, .nameAndType 16 13), (0, u "NOT_EQUAL"), (0, .fieldref 9 18), (0, .nameAndType 19 13), (0, u "LESS"), (0, .fieldref 9 21), (0, .nameAndType 22 13), (0, u "LESS_OR_EQUAL"), (0, .fieldref 9 24), (0, .nameAndType 25 13), (0, u "GREATER"), (0, .fieldref 9 27), (0, .nameAndType 28 13), (0, u "GREATER_OR_EQUAL"), (0, .class_ 30), (0, u "java/lang/String"), (0, .methodref 29 32), (0, .nameAndType 5 33), (0, u "([C)V"), (0, .methodref 9 35), (0, .nameAndType 36 37), (0, u "of"), (0, u "(Ljava/lang/String;)Lcom/example/polyphony/polyphony/policy/Operator;"), (0, .methodref 9 39), (0, .nameAndType 40 41), (0, u "symbol"), (0, u "()Ljava/lang/String;"), (0, .methodref 29 43), (0, .nameAndType 44 45), (0, u "equals"), (0, u "(Ljava/lang/Object;)Z"), (0, .methodref 9 47), (0, .nameAndType 48 49), (0, u "holds"), (0, u "(I)Z"), (0, .class_ 51), (0, u "com/example/polyphony/polyphony/policy/OperatorOfPinLaw"), (2, u "law"), (0, u "(II)Z")] 5

def k1m0 : Method := { name := "<init>", desc := "()V", sig := { parameters := [], returnType := none }, accessFlags := 1, code := none }
def k1c1 : Code := { maxStack := 4, maxLocals := 8, code := code, exceptionTable := #[], attributes := #[] }
def k1m1 : Method := { name := "law", desc := "(II)Z", sig := { parameters := [.int, .int], returnType := some .boolean }, accessFlags := 9, code := some k1c1 }
/-- com/example/polyphony/polyphony/policy/OperatorOfPinLaw -/
def k1 : Class := { plain "com/example/polyphony/polyphony/policy/OperatorOfPinLaw" (some 0) with
  accessFlags := 49
  interfaces := #[]
  cf := some (fileOf pool1 50 #[] #[{ accessFlags := 1, nameIndex := 5, descriptorIndex := 6, attributes := #[] }, { accessFlags := 9, nameIndex := 54, descriptorIndex := 55, attributes := #[] }] 49 2 #[] #[])
  fields := #[]
  methods := #[k1m0, k1m1]
  instanceTypes := #[]
  staticTypes := #[]
  resolved := Array.replicate 61 none
  statics := none }

def pool2 : Array CpInfo := pool [(1, .class_ 2), (0, u "java/lang/constant/Constable"), (0, .class_ 4), (0, u "java/lang/Object")] 6

/-- java/lang/constant/Constable -/
def k2 : Class := { plain "java/lang/constant/Constable" (some 0) with
  accessFlags := 1537
  interfaces := #[]
  cf := some (fileOf pool2 1 #[] #[] 1537 3 #[] #[])
  fields := #[]
  methods := #[]
  instanceTypes := #[]
  staticTypes := #[]
  resolved := Array.replicate 11 none
  statics := none }

def pool3 : Array CpInfo := pool [(1, .class_ 2), (0, u "java/lang/Comparable"), (0, .class_ 4), (0, u "java/lang/Object")] 7

/-- java/lang/Comparable -/
def k3 : Class := { plain "java/lang/Comparable" (some 0) with
  accessFlags := 1537
  interfaces := #[]
  cf := some (fileOf pool3 1 #[] #[] 1537 3 #[] #[])
  fields := #[]
  methods := #[]
  instanceTypes := #[]
  staticTypes := #[]
  resolved := Array.replicate 12 none
  statics := none }

def pool4 : Array CpInfo := pool [(1, .class_ 2), (0, u "java/io/Serializable"), (0, .class_ 4), (0, u "java/lang/Object")] 2

/-- java/io/Serializable -/
def k4 : Class := { plain "java/io/Serializable" (some 0) with
  accessFlags := 1537
  interfaces := #[]
  cf := some (fileOf pool4 1 #[] #[] 1537 3 #[] #[])
  fields := #[]
  methods := #[]
  instanceTypes := #[]
  staticTypes := #[]
  resolved := Array.replicate 7 none
  statics := none }

def pool5 : Array CpInfo := pool [(2, .class_ 4), (1, u "java/lang/Enum"), (0, u "name"), (0, u "Ljava/lang/String;"), (2, u "ordinal"), (0, u "I"), (1, .class_ 14), (1, u "java/lang/Object"), (4, u "hash"), (86, .class_ 108), (1, u "java/lang/Enum$EnumDesc"), (2, .class_ 112), (0, u "java/lang/constant/Constable"), (0, .class_ 114), (0, u "java/lang/Comparable"), (0, .class_ 116), (0, u "java/io/Serializable")] 87

/-- java/lang/Enum -/
def k5 : Class := { plain "java/lang/Enum" (some 0) with
  accessFlags := 1057
  interfaces := #[2, 3, 4]
  cf := some (fileOf pool5 2 #[.nestMembers #[106]] #[] 1057 12 #[111, 113, 115] #[{ accessFlags := 18, nameIndex := 5, descriptorIndex := 6, attributes := #[] }, { accessFlags := 18, nameIndex := 9, descriptorIndex := 10, attributes := #[] }, { accessFlags := 2, nameIndex := 19, descriptorIndex := 10, attributes := #[] }])
  fields := #[{ name := "name", type := (.object "java/lang/String"), accessFlags := 18, slot := 0, constantValue := 0 }, { name := "ordinal", type := .int, accessFlags := 18, slot := 1, constantValue := 0 }, { name := "hash", type := .int, accessFlags := 2, slot := 2, constantValue := 0 }]
  methods := #[]
  instanceTypes := #[(.object "java/lang/String"), .int, .int]
  staticTypes := #[]
  resolved := Array.replicate 204 none
  statics := none }

def pool6 : Array CpInfo := pool [(1, .class_ 2), (0, u "com/example/polyphony/polyphony/policy/Operator"), (2, u "EQUAL"), (0, u "Lcom/example/polyphony/polyphony/policy/Operator;"), (2, u "NOT_EQUAL"), (2, u "LESS"), (2, u "LESS_OR_EQUAL"), (2, u "GREATER"), (2, u "GREATER_OR_EQUAL"), (0, .fieldref 1 23), (0, .nameAndType 24 25), (0, u "$VALUES"), (0, u "[Lcom/example/polyphony/polyphony/policy/Operator;"), (0, .methodref 27 28), (0, .class_ 25), (0, .nameAndType 29 30), (0, u "clone"), (0, u "()Ljava/lang/Object;"), (1, .class_ 34), (1, u "java/lang/Enum"), (6, .fieldref 1 42), (0, .nameAndType 43 44), (0, u "symbol"), (0, u "Ljava/lang/String;"), (0, .fieldref 1 46), (0, .nameAndType 47 48), (0, u "whenBefore"), (0, u "Z"), (0, .fieldref 1 50), (0, .nameAndType 51 48), (0, u "whenEqual"), (0, .fieldref 1 53), (0, .nameAndType 54 48), (0, u "whenAfter"), (0, .methodref 1 56), (0, .nameAndType 57 58), (0, u "values"), (0, u "()[Lcom/example/polyphony/polyphony/policy/Operator;"), (0, .methodref 60 61), (0, .class_ 62), (0, .nameAndType 63 64), (0, u "java/lang/String"), (0, u "equals"), (0, u "(Ljava/lang/Object;)Z"), (35, u "(Ljava/lang/String;)Lcom/example/polyphony/polyphony/policy/Operator;"), (3, u "()Ljava/lang/String;"), (3, u "holds"), (0, u "(I)Z"), (0, u "of")] 20

def k6c0 : Code := { maxStack := 1, maxLocals := 0, code := prog_48_method_1_code, exceptionTable := #[], attributes := #[] }
def k6m0 : Method := { name := "values", desc := "()[Lcom/example/polyphony/polyphony/policy/Operator;", sig := { parameters := [], returnType := some (.array (.object "com/example/polyphony/polyphony/policy/Operator")) }, accessFlags := 9, code := some k6c0 }
def k6c1 : Code := { maxStack := 1, maxLocals := 1, code := prog_48_method_4_code, exceptionTable := #[], attributes := #[] }
def k6m1 : Method := { name := "symbol", desc := "()Ljava/lang/String;", sig := { parameters := [], returnType := some (.object "java/lang/String") }, accessFlags := 1, code := some k6c1 }
def k6c2 : Code := { maxStack := 1, maxLocals := 3, code := prog_48_method_6_code, exceptionTable := #[], attributes := #[] }
def k6m2 : Method := { name := "holds", desc := "(I)Z", sig := { parameters := [.int], returnType := some .boolean }, accessFlags := 1, code := some k6c2 }
def k6c3 : Code := { maxStack := 3, maxLocals := 5, code := prog_48_method_7_code, exceptionTable := #[], attributes := #[] }
def k6m3 : Method := { name := "of", desc := "(Ljava/lang/String;)Lcom/example/polyphony/polyphony/policy/Operator;", sig := { parameters := [(.object "java/lang/String")], returnType := some (.object "com/example/polyphony/polyphony/policy/Operator") }, accessFlags := 8, code := some k6c3 }
/-- com/example/polyphony/polyphony/policy/Operator -/
def k6 : Class := { plain "com/example/polyphony/polyphony/policy/Operator" (some 5) with
  accessFlags := 16433
  interfaces := #[]
  cf := some (fileOf pool6 1 #[] #[{ accessFlags := 9, nameIndex := 57, descriptorIndex := 58, attributes := #[] }, { accessFlags := 1, nameIndex := 43, descriptorIndex := 104, attributes := #[] }, { accessFlags := 1, nameIndex := 108, descriptorIndex := 109, attributes := #[] }, { accessFlags := 8, nameIndex := 110, descriptorIndex := 100, attributes := #[] }] 16433 32 #[] #[{ accessFlags := 16409, nameIndex := 5, descriptorIndex := 6, attributes := #[] }, { accessFlags := 16409, nameIndex := 9, descriptorIndex := 6, attributes := #[] }, { accessFlags := 16409, nameIndex := 12, descriptorIndex := 6, attributes := #[] }, { accessFlags := 16409, nameIndex := 15, descriptorIndex := 6, attributes := #[] }, { accessFlags := 16409, nameIndex := 18, descriptorIndex := 6, attributes := #[] }, { accessFlags := 16409, nameIndex := 21, descriptorIndex := 6, attributes := #[] }, { accessFlags := 18, nameIndex := 43, descriptorIndex := 44, attributes := #[] }, { accessFlags := 18, nameIndex := 47, descriptorIndex := 48, attributes := #[] }, { accessFlags := 18, nameIndex := 51, descriptorIndex := 48, attributes := #[] }, { accessFlags := 18, nameIndex := 54, descriptorIndex := 48, attributes := #[] }, { accessFlags := 4122, nameIndex := 24, descriptorIndex := 25, attributes := #[] }])
  fields := #[{ name := "EQUAL", type := (.object "com/example/polyphony/polyphony/policy/Operator"), accessFlags := 16409, slot := 0, constantValue := 0 }, { name := "NOT_EQUAL", type := (.object "com/example/polyphony/polyphony/policy/Operator"), accessFlags := 16409, slot := 1, constantValue := 0 }, { name := "LESS", type := (.object "com/example/polyphony/polyphony/policy/Operator"), accessFlags := 16409, slot := 2, constantValue := 0 }, { name := "LESS_OR_EQUAL", type := (.object "com/example/polyphony/polyphony/policy/Operator"), accessFlags := 16409, slot := 3, constantValue := 0 }, { name := "GREATER", type := (.object "com/example/polyphony/polyphony/policy/Operator"), accessFlags := 16409, slot := 4, constantValue := 0 }, { name := "GREATER_OR_EQUAL", type := (.object "com/example/polyphony/polyphony/policy/Operator"), accessFlags := 16409, slot := 5, constantValue := 0 }, { name := "symbol", type := (.object "java/lang/String"), accessFlags := 18, slot := 3, constantValue := 0 }, { name := "whenBefore", type := .boolean, accessFlags := 18, slot := 4, constantValue := 0 }, { name := "whenEqual", type := .boolean, accessFlags := 18, slot := 5, constantValue := 0 }, { name := "whenAfter", type := .boolean, accessFlags := 18, slot := 6, constantValue := 0 }, { name := "$VALUES", type := (.array (.object "com/example/polyphony/polyphony/policy/Operator")), accessFlags := 4122, slot := 6, constantValue := 0 }]
  methods := #[k6m0, k6m1, k6m2, k6m3]
  instanceTypes := #[(.object "java/lang/String"), .int, .int, (.object "java/lang/String"), .boolean, .boolean, .boolean]
  staticTypes := #[(.object "com/example/polyphony/polyphony/policy/Operator"), (.object "com/example/polyphony/polyphony/policy/Operator"), (.object "com/example/polyphony/polyphony/policy/Operator"), (.object "com/example/polyphony/polyphony/policy/Operator"), (.object "com/example/polyphony/polyphony/policy/Operator"), (.object "com/example/polyphony/polyphony/policy/Operator"), (.array (.object "com/example/polyphony/polyphony/policy/Operator"))]
  resolved := Array.replicate 131 none
  statics := some 0 }

def pool7 : Array CpInfo := pool [(2, .class_ 4), (1, u "java/lang/CharSequence"), (42, .class_ 48), (0, u "java/lang/CharSequence$1CodePointIterator"), (10, .class_ 60), (0, u "java/lang/CharSequence$1CharIterator"), (5, .class_ 67), (0, u "java/lang/Object")] 63

/-- java/lang/CharSequence -/
def k7 : Class := { plain "java/lang/CharSequence" (some 0) with
  accessFlags := 1537
  interfaces := #[]
  cf := some (fileOf pool7 2 #[.nestMembers #[47, 59]] #[] 1537 66 #[] #[])
  fields := #[]
  methods := #[]
  instanceTypes := #[]
  staticTypes := #[]
  resolved := Array.replicate 131 none
  statics := none }

def pool8 : Array CpInfo := pool [(1, .class_ 2), (0, u "java/lang/constant/ConstantDesc"), (0, .class_ 4), (0, u "java/lang/Object")] 32

/-- java/lang/constant/ConstantDesc -/
def k8 : Class := { plain "java/lang/constant/ConstantDesc" (some 0) with
  accessFlags := 1537
  interfaces := #[]
  cf := some (fileOf pool8 1 #[] #[] 1537 3 #[] #[])
  fields := #[]
  methods := #[]
  instanceTypes := #[]
  staticTypes := #[]
  resolved := Array.replicate 37 none
  statics := none }

def pool9 : Array CpInfo := pool [(1, .methodref 2 3), (0, .class_ 4), (0, .nameAndType 5 6), (0, u "java/lang/Object"), (0, u "<init>"), (0, u "()V"), (2, .fieldref 10 11), (0, .class_ 12), (0, .nameAndType 13 14), (0, u "java/lang/String"), (0, u "value"), (0, u "[B"), (0, .fieldref 10 16), (0, .nameAndType 17 18), (0, u "coder"), (0, u "B"), (2, u "hash"), (0, u "I"), (2, u "hashIsZero"), (0, u "Z"), (0, .methodref 10 28), (0, .nameAndType 5 29), (0, u "([CIILjava/lang/Void;)V"), (8, .fieldref 10 39), (0, .nameAndType 40 26), (0, u "COMPACT_STRINGS"), (1, .class_ 44), (1, u "java/lang/StringUTF16"), (0, u "compress"), (1, .methodref 42 48), (0, .nameAndType 49 50), (0, u "coderFromArrayLen"), (0, u "([BI)B"), (56, .class_ 109), (1, u "java/lang/StringLatin1"), (67, .methodref 42 178), (0, .nameAndType 45 179), (0, u "([CII)[B"), (361, .methodref 107 542), (0, .nameAndType 543 544), (0, u "equals"), (0, u "([B[B)Z"), (28, u "(Ljava/lang/Object;)Z"), (1, .class_ 576), (0, u "java/lang/CharSequence"), (22, u "CASE_INSENSITIVE_ORDER"), (0, u "Ljava/util/Comparator;"), (409, u "([C)V"), (90, u "serialPersistentFields"), (0, u "[Ljava/io/ObjectStreamField;"), (0, .class_ 1104), (0, u "java/lang/String$CaseInsensitiveComparator"), (1, .class_ 1107), (0, u "java/io/Serializable"), (0, .class_ 1109), (0, u "java/lang/Comparable"), (0, .class_ 1111), (0, u "java/lang/constant/Constable"), (0, .class_ 1113), (0, u "java/lang/constant/ConstantDesc"), (2, u "serialVersionUID"), (0, u "J"), (3, u "REPL"), (0, u "C"), (2, u "LATIN1"), (1, u "UTF16")] 323

def k9m0 : Method := { name := "<init>", desc := "()V", sig := { parameters := [], returnType := none }, accessFlags := 1, code := none }
def k9c1 : Code := { maxStack := 5, maxLocals := 2, code := jdk_42_method_3_code, exceptionTable := #[], attributes := #[] }
def k9m1 : Method := { name := "<init>", desc := "([C)V", sig := { parameters := [(.array .char)], returnType := none }, accessFlags := 1, code := some k9c1 }
def k9c2 : Code := { maxStack := 2, maxLocals := 3, code := jdk_42_method_66_code, exceptionTable := #[], attributes := #[] }
def k9m2 : Method := { name := "equals", desc := "(Ljava/lang/Object;)Z", sig := { parameters := [(.object "java/lang/Object")], returnType := some .boolean }, accessFlags := 1, code := some k9c2 }
def k9c3 : Code := { maxStack := 4, maxLocals := 6, code := jdk_42_method_149_code, exceptionTable := #[], attributes := #[] }
def k9m3 : Method := { name := "<init>", desc := "([CIILjava/lang/Void;)V", sig := { parameters := [(.array .char), .int, .int, (.object "java/lang/Void")], returnType := none }, accessFlags := 2, code := some k9c3 }
/-- java/lang/String -/
def k9 : Class := { plain "java/lang/String" (some 0) with
  accessFlags := 49
  interfaces := #[4, 3, 7, 2, 8]
  cf := some (fileOf pool9 10 #[.nestMembers #[1103]] #[{ accessFlags := 1, nameIndex := 5, descriptorIndex := 6, attributes := #[] }, { accessFlags := 1, nameIndex := 5, descriptorIndex := 1010, attributes := #[] }, { accessFlags := 1, nameIndex := 543, descriptorIndex := 573, attributes := #[] }, { accessFlags := 2, nameIndex := 5, descriptorIndex := 29, attributes := #[] }] 49 2 #[1106, 1108, 575, 1110, 1112] #[{ accessFlags := 18, nameIndex := 13, descriptorIndex := 14, attributes := #[] }, { accessFlags := 18, nameIndex := 17, descriptorIndex := 18, attributes := #[] }, { accessFlags := 2, nameIndex := 21, descriptorIndex := 22, attributes := #[] }, { accessFlags := 2, nameIndex := 25, descriptorIndex := 26, attributes := #[] }, { accessFlags := 26, nameIndex := 1116, descriptorIndex := 1117, attributes := #[] }, { accessFlags := 24, nameIndex := 40, descriptorIndex := 26, attributes := #[] }, { accessFlags := 26, nameIndex := 1101, descriptorIndex := 1102, attributes := #[] }, { accessFlags := 26, nameIndex := 1121, descriptorIndex := 1122, attributes := #[] }, { accessFlags := 25, nameIndex := 599, descriptorIndex := 600, attributes := #[] }, { accessFlags := 24, nameIndex := 1125, descriptorIndex := 18, attributes := #[] }, { accessFlags := 24, nameIndex := 1127, descriptorIndex := 18, attributes := #[] }])
  fields := #[{ name := "value", type := (.array .byte), accessFlags := 18, slot := 0, constantValue := 0 }, { name := "coder", type := .byte, accessFlags := 18, slot := 1, constantValue := 0 }, { name := "hash", type := .int, accessFlags := 2, slot := 2, constantValue := 0 }, { name := "hashIsZero", type := .boolean, accessFlags := 2, slot := 3, constantValue := 0 }, { name := "serialVersionUID", type := .long, accessFlags := 26, slot := 0, constantValue := 0 }, { name := "COMPACT_STRINGS", type := .boolean, accessFlags := 24, slot := 1, constantValue := 0 }, { name := "serialPersistentFields", type := (.array (.object "java/io/ObjectStreamField")), accessFlags := 26, slot := 2, constantValue := 0 }, { name := "REPL", type := .char, accessFlags := 26, slot := 3, constantValue := 0 }, { name := "CASE_INSENSITIVE_ORDER", type := (.object "java/util/Comparator"), accessFlags := 25, slot := 4, constantValue := 0 }, { name := "LATIN1", type := .byte, accessFlags := 24, slot := 5, constantValue := 0 }, { name := "UTF16", type := .byte, accessFlags := 24, slot := 6, constantValue := 0 }]
  methods := #[k9m0, k9m1, k9m2, k9m3]
  instanceTypes := #[(.array .byte), .byte, .int, .boolean]
  staticTypes := #[.long, .boolean, (.array (.object "java/io/ObjectStreamField")), .char, (.object "java/util/Comparator"), .byte, .byte]
  resolved := Array.replicate 1451 none
  statics := some 1 }

def pool10 : Array CpInfo := pool [(6, .class_ 8), (1, u "java/lang/Object"), (0, u "<init>"), (0, u "()V"), (1, .class_ 14), (1, u "java/lang/StringUTF16"), (31, u "$assertionsDisabled"), (0, u "Z"), (13, u "HI_BYTE_SHIFT"), (0, u "I"), (2, u "LO_BYTE_SHIFT"), (49, .methodref 12 116), (0, .nameAndType 117 118), (0, u "compress"), (0, u "([CI[BII)I"), (3, u "([CII)[B"), (138, u "coderFromArrayLen"), (0, u "([BI)B"), (106, .class_ 371), (1, u "java/lang/StringUTF16$LinesSpliterator"), (58, u "MAX_LENGTH"), (196, .class_ 628), (0, u "java/lang/StringUTF16$CodePointsSpliterator"), (0, .class_ 630), (0, u "java/lang/StringUTF16$CharsSpliterator")] 4

def k10m0 : Method := { name := "<init>", desc := "()V", sig := { parameters := [], returnType := none }, accessFlags := 0, code := none }
def k10c1 : Code := { maxStack := 2, maxLocals := 2, code := jdk_52_method_15_code, exceptionTable := #[], attributes := #[] }
def k10m1 : Method := { name := "coderFromArrayLen", desc := "([BI)B", sig := { parameters := [(.array .byte), .int], returnType := some .byte }, accessFlags := 8, code := some k10c1 }
def k10c2 : Code := { maxStack := 5, maxLocals := 6, code := jdk_52_method_16_code, exceptionTable := #[], attributes := #[] }
def k10m2 : Method := { name := "compress", desc := "([CII)[B", sig := { parameters := [(.array .char), .int, .int], returnType := some (.array .byte) }, accessFlags := 9, code := some k10c2 }
def k10c3 : Code := { maxStack := 3, maxLocals := 7, code := jdk_52_method_21_code, exceptionTable := #[], attributes := #[] }
def k10m3 : Method := { name := "compress", desc := "([CI[BII)I", sig := { parameters := [(.array .char), .int, (.array .byte), .int, .int], returnType := some .int }, accessFlags := 9, code := some k10c3 }
/-- java/lang/StringUTF16 -/
def k10 : Class := { plain "java/lang/StringUTF16" (some 0) with
  accessFlags := 48
  interfaces := #[]
  cf := some (fileOf pool10 12 #[.nestMembers #[627, 629, 369]] #[{ accessFlags := 0, nameIndex := 9, descriptorIndex := 10, attributes := #[] }, { accessFlags := 8, nameIndex := 261, descriptorIndex := 262, attributes := #[] }, { accessFlags := 9, nameIndex := 117, descriptorIndex := 122, attributes := #[] }, { accessFlags := 9, nameIndex := 117, descriptorIndex := 118, attributes := #[] }] 48 6 #[] #[{ accessFlags := 26, nameIndex := 61, descriptorIndex := 62, attributes := #[] }, { accessFlags := 26, nameIndex := 65, descriptorIndex := 62, attributes := #[] }, { accessFlags := 24, nameIndex := 430, descriptorIndex := 62, attributes := #[] }, { accessFlags := 4120, nameIndex := 46, descriptorIndex := 47, attributes := #[] }])
  fields := #[{ name := "HI_BYTE_SHIFT", type := .int, accessFlags := 26, slot := 0, constantValue := 0 }, { name := "LO_BYTE_SHIFT", type := .int, accessFlags := 26, slot := 1, constantValue := 0 }, { name := "MAX_LENGTH", type := .int, accessFlags := 24, slot := 2, constantValue := 0 }, { name := "$assertionsDisabled", type := .boolean, accessFlags := 4120, slot := 3, constantValue := 0 }]
  methods := #[k10m0, k10m1, k10m2, k10m3]
  instanceTypes := #[]
  staticTypes := #[.int, .int, .int, .boolean]
  resolved := Array.replicate 635 none
  statics := none }

def pool11 : Array CpInfo := pool [(1, .class_ 2), (0, u "java/lang/Cloneable"), (0, .class_ 4), (0, u "java/lang/Object")] 2

/-- java/lang/Cloneable -/
def k11 : Class := { plain "java/lang/Cloneable" (some 0) with
  accessFlags := 1537
  interfaces := #[]
  cf := some (fileOf pool11 1 #[] #[] 1537 3 #[] #[])
  fields := #[]
  methods := #[]
  instanceTypes := #[]
  staticTypes := #[]
  resolved := Array.replicate 7 none
  statics := none }

def pool12 : Array CpInfo := pool [(4, .class_ 6), (1, u "java/lang/Object"), (0, u "<init>"), (0, u "()V"), (5, .class_ 16), (1, u "java/lang/StringLatin1"), (104, u "$assertionsDisabled"), (0, u "Z"), (98, .class_ 223), (1, u "java/lang/StringLatin1$LinesSpliterator"), (57, u "equals"), (0, u "([B[B)Z"), (107, .class_ 391), (0, u "java/lang/StringLatin1$CharsSpliterator")] 3

def k12m0 : Method := { name := "<init>", desc := "()V", sig := { parameters := [], returnType := none }, accessFlags := 0, code := none }
def k12c1 : Code := { maxStack := 3, maxLocals := 3, code := jdk_43_method_13_code, exceptionTable := #[], attributes := #[] }
def k12m1 : Method := { name := "equals", desc := "([B[B)Z", sig := { parameters := [(.array .byte), (.array .byte)], returnType := some .boolean }, accessFlags := 9, code := some k12c1 }
/-- java/lang/StringLatin1 -/
def k12 : Class := { plain "java/lang/StringLatin1" (some 0) with
  accessFlags := 48
  interfaces := #[]
  cf := some (fileOf pool12 14 #[.nestMembers #[390, 221]] #[{ accessFlags := 0, nameIndex := 7, descriptorIndex := 8, attributes := #[] }, { accessFlags := 9, nameIndex := 281, descriptorIndex := 282, attributes := #[] }] 48 4 #[] #[{ accessFlags := 4120, nameIndex := 121, descriptorIndex := 122, attributes := #[] }])
  fields := #[{ name := "$assertionsDisabled", type := .boolean, accessFlags := 4120, slot := 0, constantValue := 0 }]
  methods := #[k12m0, k12m1]
  instanceTypes := #[]
  staticTypes := #[.boolean]
  resolved := Array.replicate 395 none
  statics := none }

def pool13 : Array CpInfo := pool [(2, .class_ 4), (1, u "java/lang/Object"), (0, u "<init>"), (0, u "()V"), (17, .class_ 26), (1, u "jdk/internal/util/Preconditions"), (28, .class_ 56), (0, u "jdk/internal/util/Preconditions$4"), (57, .class_ 115), (0, u "jdk/internal/util/Preconditions$1"), (7, u "SIOOBE_FORMATTER"), (0, u "Ljava/util/function/BiFunction;"), (0, .class_ 126), (0, u "jdk/internal/util/Preconditions$2"), (3, u "AIOOBE_FORMATTER"), (0, .class_ 132), (0, u "jdk/internal/util/Preconditions$3"), (3, u "IOOBE_FORMATTER")] 57

def k13m0 : Method := { name := "<init>", desc := "()V", sig := { parameters := [], returnType := none }, accessFlags := 1, code := none }
/-- jdk/internal/util/Preconditions -/
def k13 : Class := { plain "jdk/internal/util/Preconditions" (some 0) with
  accessFlags := 33
  interfaces := #[]
  cf := some (fileOf pool13 24 #[.nestMembers #[55, 131, 125, 114]] #[{ accessFlags := 1, nameIndex := 5, descriptorIndex := 6, attributes := #[] }] 33 2 #[] #[{ accessFlags := 25, nameIndex := 123, descriptorIndex := 124, attributes := #[] }, { accessFlags := 25, nameIndex := 130, descriptorIndex := 124, attributes := #[] }, { accessFlags := 25, nameIndex := 136, descriptorIndex := 124, attributes := #[] }])
  fields := #[{ name := "SIOOBE_FORMATTER", type := (.object "java/util/function/BiFunction"), accessFlags := 25, slot := 0, constantValue := 0 }, { name := "AIOOBE_FORMATTER", type := (.object "java/util/function/BiFunction"), accessFlags := 25, slot := 1, constantValue := 0 }, { name := "IOOBE_FORMATTER", type := (.object "java/util/function/BiFunction"), accessFlags := 25, slot := 2, constantValue := 0 }]
  methods := #[k13m0]
  instanceTypes := #[]
  staticTypes := #[(.object "java/util/function/BiFunction"), (.object "java/util/function/BiFunction"), (.object "java/util/function/BiFunction")]
  resolved := Array.replicate 194 none
  statics := some 2 }

def pool14 : Array CpInfo := pool [(9, u "<init>"), (6, .class_ 18), (1, u "java/lang/Object"), (0, u "()V"), (1, .class_ 23), (1, u "jdk/internal/util/ArraysSupport"), (0, u "LOG2_ARRAY_LONG_INDEX_SCALE"), (0, u "I"), (2, u "U"), (0, u "Ljdk/internal/misc/Unsafe;"), (8, u "BIG_ENDIAN"), (0, u "Z"), (8, u "LOG2_BYTE_BIT_SIZE"), (4, u "LOG2_ARRAY_INT_INDEX_SCALE"), (54, u "JLA"), (0, u "Ljdk/internal/access/JavaLangAccess;"), (11, u "LOG2_ARRAY_BOOLEAN_INDEX_SCALE"), (9, u "LOG2_ARRAY_BYTE_INDEX_SCALE"), (5, u "LOG2_ARRAY_CHAR_INDEX_SCALE"), (5, u "LOG2_ARRAY_SHORT_INDEX_SCALE"), (18, u "LOG2_ARRAY_FLOAT_INDEX_SCALE"), (24, u "LOG2_ARRAY_DOUBLE_INDEX_SCALE"), (89, u "T_BOOLEAN"), (2, u "T_CHAR"), (1, u "T_FLOAT"), (1, u "T_DOUBLE"), (1, u "T_BYTE"), (1, u "T_SHORT"), (1, u "T_INT"), (1, u "T_LONG"), (1, u "SOFT_MAX_ARRAY_LENGTH")] 83

def k14m0 : Method := { name := "<init>", desc := "()V", sig := { parameters := [], returnType := none }, accessFlags := 2, code := none }
/-- jdk/internal/util/ArraysSupport -/
def k14 : Class := { plain "jdk/internal/util/ArraysSupport" (some 0) with
  accessFlags := 33
  interfaces := #[]
  cf := some (fileOf pool14 21 #[] #[{ accessFlags := 2, nameIndex := 9, descriptorIndex := 19, attributes := #[] }] 33 16 #[] #[{ accessFlags := 24, nameIndex := 28, descriptorIndex := 29, attributes := #[] }, { accessFlags := 26, nameIndex := 38, descriptorIndex := 39, attributes := #[] }, { accessFlags := 25, nameIndex := 121, descriptorIndex := 25, attributes := #[] }, { accessFlags := 25, nameIndex := 131, descriptorIndex := 25, attributes := #[] }, { accessFlags := 25, nameIndex := 137, descriptorIndex := 25, attributes := #[] }, { accessFlags := 25, nameIndex := 143, descriptorIndex := 25, attributes := #[] }, { accessFlags := 25, nameIndex := 53, descriptorIndex := 25, attributes := #[] }, { accessFlags := 25, nameIndex := 24, descriptorIndex := 25, attributes := #[] }, { accessFlags := 25, nameIndex := 162, descriptorIndex := 25, attributes := #[] }, { accessFlags := 25, nameIndex := 187, descriptorIndex := 25, attributes := #[] }, { accessFlags := 26, nameIndex := 48, descriptorIndex := 25, attributes := #[] }, { accessFlags := 25, nameIndex := 277, descriptorIndex := 25, attributes := #[] }, { accessFlags := 25, nameIndex := 280, descriptorIndex := 25, attributes := #[] }, { accessFlags := 25, nameIndex := 282, descriptorIndex := 25, attributes := #[] }, { accessFlags := 25, nameIndex := 284, descriptorIndex := 25, attributes := #[] }, { accessFlags := 25, nameIndex := 286, descriptorIndex := 25, attributes := #[] }, { accessFlags := 25, nameIndex := 288, descriptorIndex := 25, attributes := #[] }, { accessFlags := 25, nameIndex := 290, descriptorIndex := 25, attributes := #[] }, { accessFlags := 25, nameIndex := 292, descriptorIndex := 25, attributes := #[] }, { accessFlags := 26, nameIndex := 108, descriptorIndex := 109, attributes := #[] }, { accessFlags := 25, nameIndex := 294, descriptorIndex := 25, attributes := #[] }])
  fields := #[{ name := "U", type := (.object "jdk/internal/misc/Unsafe"), accessFlags := 24, slot := 0, constantValue := 0 }, { name := "BIG_ENDIAN", type := .boolean, accessFlags := 26, slot := 1, constantValue := 0 }, { name := "LOG2_ARRAY_BOOLEAN_INDEX_SCALE", type := .int, accessFlags := 25, slot := 2, constantValue := 0 }, { name := "LOG2_ARRAY_BYTE_INDEX_SCALE", type := .int, accessFlags := 25, slot := 3, constantValue := 0 }, { name := "LOG2_ARRAY_CHAR_INDEX_SCALE", type := .int, accessFlags := 25, slot := 4, constantValue := 0 }, { name := "LOG2_ARRAY_SHORT_INDEX_SCALE", type := .int, accessFlags := 25, slot := 5, constantValue := 0 }, { name := "LOG2_ARRAY_INT_INDEX_SCALE", type := .int, accessFlags := 25, slot := 6, constantValue := 0 }, { name := "LOG2_ARRAY_LONG_INDEX_SCALE", type := .int, accessFlags := 25, slot := 7, constantValue := 0 }, { name := "LOG2_ARRAY_FLOAT_INDEX_SCALE", type := .int, accessFlags := 25, slot := 8, constantValue := 0 }, { name := "LOG2_ARRAY_DOUBLE_INDEX_SCALE", type := .int, accessFlags := 25, slot := 9, constantValue := 0 }, { name := "LOG2_BYTE_BIT_SIZE", type := .int, accessFlags := 26, slot := 10, constantValue := 0 }, { name := "T_BOOLEAN", type := .int, accessFlags := 25, slot := 11, constantValue := 0 }, { name := "T_CHAR", type := .int, accessFlags := 25, slot := 12, constantValue := 0 }, { name := "T_FLOAT", type := .int, accessFlags := 25, slot := 13, constantValue := 0 }, { name := "T_DOUBLE", type := .int, accessFlags := 25, slot := 14, constantValue := 0 }, { name := "T_BYTE", type := .int, accessFlags := 25, slot := 15, constantValue := 0 }, { name := "T_SHORT", type := .int, accessFlags := 25, slot := 16, constantValue := 0 }, { name := "T_INT", type := .int, accessFlags := 25, slot := 17, constantValue := 0 }, { name := "T_LONG", type := .int, accessFlags := 25, slot := 18, constantValue := 0 }, { name := "JLA", type := (.object "jdk/internal/access/JavaLangAccess"), accessFlags := 26, slot := 19, constantValue := 0 }, { name := "SOFT_MAX_ARRAY_LENGTH", type := .int, accessFlags := 25, slot := 20, constantValue := 0 }]
  methods := #[k14m0]
  instanceTypes := #[]
  staticTypes := #[(.object "jdk/internal/misc/Unsafe"), .boolean, .int, .int, .int, .int, .int, .int, .int, .int, .int, .int, .int, .int, .int, .int, .int, .int, .int, (.object "jdk/internal/access/JavaLangAccess"), .int]
  resolved := Array.replicate 378 none
  statics := none }

/-- the primitive byte -/
def k15 : Class := { plain "byte" none with kind := .primitive 'B', accessFlags := 0x411 }
/-- [B -/
def k16 : Class := { plain "[B" (some 0) with kind := .array 15 .byte, interfaces := #[11, 4], accessFlags := 1041 }

/-- the primitive char -/
def k17 : Class := { plain "char" none with kind := .primitive 'C', accessFlags := 0x411 }
/-- [C -/
def k18 : Class := { plain "[C" (some 0) with kind := .array 17 .char, interfaces := #[11, 4], accessFlags := 1041 }

/-- the primitive int -/
def k19 : Class := { plain "int" none with kind := .primitive 'I', accessFlags := 0x411 }
/-- [I -/
def k20 : Class := { plain "[I" (some 0) with kind := .array 19 .int, interfaces := #[11, 4], accessFlags := 1041 }

/-- [Lcom/example/polyphony/polyphony/policy/Operator; -/
def k21 : Class := { plain "[Lcom/example/polyphony/polyphony/policy/Operator;" (some 0) with kind := .array 6 (.object "com/example/polyphony/polyphony/policy/Operator"), interfaces := #[11, 4], accessFlags := 1041 }

def heap : Heap := #[{ cls := 6, slots := #[.ref 4, .ref 5, .ref 6, .ref 7, .ref 8, .ref 9, .ref 3], vm := .statics 6 },
  { cls := 9, slots := #[.long 0, .int 1, .null, .int 0, .null, .int 0, .int 0], vm := .statics 9 },
  { cls := 13, slots := #[.null, .null, .null], vm := .statics 13 },
  { cls := 21, slots := #[.ref 4, .ref 5, .ref 6, .ref 7, .ref 8, .ref 9], vm := .none },
  { cls := 6, slots := #[.null, .int 0, .int 0, .ref 10, .int 0, .int 1, .int 0], vm := .none },
  { cls := 6, slots := #[.null, .int 1, .int 0, .ref 11, .int 1, .int 0, .int 1], vm := .none },
  { cls := 6, slots := #[.null, .int 2, .int 0, .ref 12, .int 1, .int 0, .int 0], vm := .none },
  { cls := 6, slots := #[.null, .int 3, .int 0, .ref 13, .int 1, .int 1, .int 0], vm := .none },
  { cls := 6, slots := #[.null, .int 4, .int 0, .ref 14, .int 0, .int 0, .int 1], vm := .none },
  { cls := 6, slots := #[.null, .int 5, .int 0, .ref 15, .int 0, .int 1, .int 1], vm := .none },
  { cls := 9, slots := #[.ref 16, .int 0, .int 0, .int 0], vm := .none },
  { cls := 9, slots := #[.ref 17, .int 0, .int 0, .int 0], vm := .none },
  { cls := 9, slots := #[.ref 18, .int 0, .int 0, .int 0], vm := .none },
  { cls := 9, slots := #[.ref 19, .int 0, .int 0, .int 0], vm := .none },
  { cls := 9, slots := #[.ref 20, .int 0, .int 0, .int 0], vm := .none },
  { cls := 9, slots := #[.ref 21, .int 0, .int 0, .int 0], vm := .none },
  { cls := 16, slots := #[.int 61, .int 61], vm := .none },
  { cls := 16, slots := #[.int 33, .int 61], vm := .none },
  { cls := 16, slots := #[.int 60], vm := .none },
  { cls := 16, slots := #[.int 60, .int 61], vm := .none },
  { cls := 16, slots := #[.int 62], vm := .none },
  { cls := 16, slots := #[.int 62, .int 61], vm := .none }]
def classes : Array Class := #[k0, k1, k2, k3, k4, k5, k6, k7, k8, k9, k10, k11, k12, k13, k14, k15, k16, k17, k18, k19, k20, k21]
def interned : List (Array UInt16 × Addr) := []
def slotsUsed : Nat := 99
def theMethod : MethodId := ⟨1, 1⟩
def args0 : Array Value := #[.int 5, .int 7]
def aboutOver (below : List Frame) : State where
  vm := { classes := classes, interned := interned.toArray }
  heap := heap
  slotsUsed := slotsUsed
  threads := #[{ frames := .invoking theMethod args0 :: below }]
def below0 : List Frame := [.native { method := ⟨0, 0⟩, args := #[] }]
def about1 : State := aboutOver below0
def p0 : Program := .bare "" "" ""
def e0 : Env := launch0.env 0 0 0
theorem w_frames : about1.frames = Frame.invoking theMethod args0 :: below0 := rfl
set_option maxRecDepth 65536 in
theorem w_args : argsFit about1.vm theMethod args0 = true := by decide +kernel
set_option maxRecDepth 65536 in
theorem w_heap : heapFits about1 = true := by decide +kernel
set_option maxRecDepth 65536 in
theorem w_runnable : about1.curStatus? = some .runnable := by decide +kernel
set_option maxRecDepth 65536 in
theorem w_alone : about1.alone = true := by decide +kernel
set_option maxRecDepth 65536 in
theorem w_named : about1.methodNamed? x = some theMethod := by decide +kernel
set_option maxRecDepth 65536 in
theorem w_hears : about1.hears theMethod below0 = true := by decide +kernel
set_option maxRecDepth 65536 in
theorem w_ripe : about1.ripe theMethod args0 below0 = true := by decide +kernel
theorem w_running : about1.status = .running := rfl
set_option maxRecDepth 65536 in
theorem w_room : about1.hasRoom e0.platform room_1 = true :=
  launch0.hasRoom_least _ room_1 (by decide +kernel) (by decide +kernel) (by decide +kernel) (by decide +kernel) (by decide +kernel) (by decide +kernel)
theorem allAtoms_all (ts : List Jvm.Cond) (a : Array Jvm.Value) (st : Jvm.State) : (allAtoms ts).before a st = ts.all (fun c => c.before a st) := by
  induction ts with
  | nil => rfl
  | cons c t ih =>
    show (Jvm.Cond.and c (allAtoms t)).before a st = _
    rw [Jvm.Cond.before_and, ih, List.all_cons]
def words1 : List Jvm.Cond := Jvm.Cond.code x code maxLocals ret :: tables_1
/-- a 'code' word, met by the world's own term for the bytes: nothing is compared byte by byte -/
theorem code_word {y : MethodName} {bytes : ByteArray} {mx : Nat} {rt : Option FieldType} {a : Array Value} {s : State} {m : MethodId} {meth : Method} {c : Code} (h1 : s.methodNamed? y = some m) (h2 : s.vm.method? m = some meth) (h3 : meth.code = some c) (h4 : c.code = bytes)
    (h5 : (c.maxLocals == mx && c.exceptionTable.isEmpty && decide (c.maxStack ≤ mostOperands) && decide (meth.sig.returnType = rt) && !meth.locks && decide (parseMethodDescriptor y.desc = some meth.sig)) = true) : (Jvm.Cond.code y bytes mx rt).before a s = true := by
  simp only [Bool.and_eq_true, beq_iff_eq, Bool.not_eq_true', decide_eq_true_eq] at h5
  obtain ⟨⟨⟨⟨⟨g1, g2⟩, g3⟩, g4⟩, g5⟩, g6⟩ := h5
  simp [Cond.before, Cond.holds, Cond.value, h1, h2, h3, h4, g1, g2, g3, g4, g5, g6]
def isCode : Jvm.Cond → Bool
  | .code _ _ _ _ => true
  | _ => false
theorem all_split {L : List Jvm.Cond} {P : Jvm.Cond → Bool} (h1 : L.all (fun c => isCode c || P c) = true) (h2 : ∀ c ∈ L.filter isCode, P c = true) : L.all P = true := by
  refine List.all_eq_true.mpr fun c hc => ?_
  have h := List.all_eq_true.mp h1 c hc
  rcases Bool.eq_false_or_eq_true (isCode c) with hi | hi
  · exact h2 c (List.mem_filter.mpr ⟨hc, hi⟩)
  · simpa [hi] using h
set_option maxRecDepth 65536 in
theorem w_c0 : (Jvm.Cond.code x code maxLocals ret).before args0 about1 = true := code_word (m := ⟨1, 1⟩) (meth := k1m1) (c := k1c1) (by decide +kernel) rfl rfl rfl (by decide +kernel)
set_option maxRecDepth 65536 in
theorem w_c1 : (Jvm.Cond.code ({ cls := "java/lang/String", name := "<init>", desc := "([C)V" } : Jvm.MethodName) jdk_42_method_3_code (2 : Nat) (Option.none : Option Jvm.ClassFile.FieldType)).before args0 about1 = true := code_word (m := ⟨9, 1⟩) (meth := k9m1) (c := k9c1) (by decide +kernel) rfl rfl rfl (by decide +kernel)
set_option maxRecDepth 65536 in
theorem w_c2 : (Jvm.Cond.code ({ cls := "java/lang/String", name := "<init>", desc := "([CIILjava/lang/Void;)V" } : Jvm.MethodName) jdk_42_method_149_code (6 : Nat) (Option.none : Option Jvm.ClassFile.FieldType)).before args0 about1 = true := code_word (m := ⟨9, 3⟩) (meth := k9m3) (c := k9c3) (by decide +kernel) rfl rfl rfl (by decide +kernel)
set_option maxRecDepth 65536 in
theorem w_c3 : (Jvm.Cond.code ({ cls := "java/lang/Object", name := "<init>", desc := "()V" } : Jvm.MethodName) object_method_1_code (1 : Nat) (Option.none : Option Jvm.ClassFile.FieldType)).before args0 about1 = true := code_word (m := ⟨0, 0⟩) (meth := k0m0) (c := k0c0) (by decide +kernel) rfl rfl rfl (by decide +kernel)
set_option maxRecDepth 65536 in
theorem w_c4 : (Jvm.Cond.code ({ cls := "java/lang/StringUTF16", name := "compress", desc := "([CII)[B" } : Jvm.MethodName) jdk_52_method_16_code (6 : Nat) (Option.some (Jvm.ClassFile.FieldType.array Jvm.ClassFile.FieldType.byte))).before args0 about1 = true := code_word (m := ⟨10, 2⟩) (meth := k10m2) (c := k10c2) (by decide +kernel) rfl rfl rfl (by decide +kernel)
set_option maxRecDepth 65536 in
theorem w_c5 : (Jvm.Cond.code ({ cls := "java/lang/StringUTF16", name := "compress", desc := "([CI[BII)I" } : Jvm.MethodName) jdk_52_method_21_code (7 : Nat) (Option.some Jvm.ClassFile.FieldType.int)).before args0 about1 = true := code_word (m := ⟨10, 3⟩) (meth := k10m3) (c := k10c3) (by decide +kernel) rfl rfl rfl (by decide +kernel)
set_option maxRecDepth 65536 in
theorem w_c6 : (Jvm.Cond.code ({ cls := "java/lang/StringUTF16", name := "coderFromArrayLen", desc := "([BI)B" } : Jvm.MethodName) jdk_52_method_15_code (2 : Nat) (Option.some Jvm.ClassFile.FieldType.byte)).before args0 about1 = true := code_word (m := ⟨10, 1⟩) (meth := k10m1) (c := k10c1) (by decide +kernel) rfl rfl rfl (by decide +kernel)
set_option maxRecDepth 65536 in
theorem w_c7 : (Jvm.Cond.code ({ cls := "com/example/polyphony/polyphony/policy/Operator", name := "of", desc := "(Ljava/lang/String;)Lcom/example/polyphony/polyphony/policy/Operator;" } : Jvm.MethodName) prog_48_method_7_code (5 : Nat) (Option.some (Jvm.ClassFile.FieldType.object "com/example/polyphony/polyphony/policy/Operator"))).before args0 about1 = true := code_word (m := ⟨6, 3⟩) (meth := k6m3) (c := k6c3) (by decide +kernel) rfl rfl rfl (by decide +kernel)
set_option maxRecDepth 65536 in
theorem w_c8 : (Jvm.Cond.code ({ cls := "com/example/polyphony/polyphony/policy/Operator", name := "values", desc := "()[Lcom/example/polyphony/polyphony/policy/Operator;" } : Jvm.MethodName) prog_48_method_1_code (0 : Nat) (Option.some (Jvm.ClassFile.FieldType.array (Jvm.ClassFile.FieldType.object "com/example/polyphony/polyphony/policy/Operator")))).before args0 about1 = true := code_word (m := ⟨6, 0⟩) (meth := k6m0) (c := k6c0) (by decide +kernel) rfl rfl rfl (by decide +kernel)
set_option maxRecDepth 65536 in
theorem w_c9 : (Jvm.Cond.code ({ cls := "java/lang/String", name := "equals", desc := "(Ljava/lang/Object;)Z" } : Jvm.MethodName) jdk_42_method_66_code (3 : Nat) (Option.some Jvm.ClassFile.FieldType.boolean)).before args0 about1 = true := code_word (m := ⟨9, 2⟩) (meth := k9m2) (c := k9c2) (by decide +kernel) rfl rfl rfl (by decide +kernel)
set_option maxRecDepth 65536 in
theorem w_c10 : (Jvm.Cond.code ({ cls := "java/lang/StringLatin1", name := "equals", desc := "([B[B)Z" } : Jvm.MethodName) jdk_43_method_13_code (3 : Nat) (Option.some Jvm.ClassFile.FieldType.boolean)).before args0 about1 = true := code_word (m := ⟨12, 1⟩) (meth := k12m1) (c := k12c1) (by decide +kernel) rfl rfl rfl (by decide +kernel)
set_option maxRecDepth 65536 in
theorem w_c11 : (Jvm.Cond.code ({ cls := "com/example/polyphony/polyphony/policy/Operator", name := "symbol", desc := "()Ljava/lang/String;" } : Jvm.MethodName) prog_48_method_4_code (1 : Nat) (Option.some (Jvm.ClassFile.FieldType.object "java/lang/String"))).before args0 about1 = true := code_word (m := ⟨6, 1⟩) (meth := k6m1) (c := k6c1) (by decide +kernel) rfl rfl rfl (by decide +kernel)
set_option maxRecDepth 65536 in
theorem w_c12 : (Jvm.Cond.code ({ cls := "com/example/polyphony/polyphony/policy/Operator", name := "holds", desc := "(I)Z" } : Jvm.MethodName) prog_48_method_6_code (3 : Nat) (Option.some Jvm.ClassFile.FieldType.boolean)).before args0 about1 = true := code_word (m := ⟨6, 2⟩) (meth := k6m2) (c := k6c2) (by decide +kernel) rfl rfl rfl (by decide +kernel)
def codes1 : List Jvm.Cond := [Jvm.Cond.code x code maxLocals ret, Jvm.Cond.code ({ cls := "java/lang/String", name := "<init>", desc := "([C)V" } : Jvm.MethodName) jdk_42_method_3_code (2 : Nat) (Option.none : Option Jvm.ClassFile.FieldType), Jvm.Cond.code ({ cls := "java/lang/String", name := "<init>", desc := "([CIILjava/lang/Void;)V" } : Jvm.MethodName) jdk_42_method_149_code (6 : Nat) (Option.none : Option Jvm.ClassFile.FieldType), Jvm.Cond.code ({ cls := "java/lang/Object", name := "<init>", desc := "()V" } : Jvm.MethodName) object_method_1_code (1 : Nat) (Option.none : Option Jvm.ClassFile.FieldType), Jvm.Cond.code ({ cls := "java/lang/StringUTF16", name := "compress", desc := "([CII)[B" } : Jvm.MethodName) jdk_52_method_16_code (6 : Nat) (Option.some (Jvm.ClassFile.FieldType.array Jvm.ClassFile.FieldType.byte)), Jvm.Cond.code ({ cls := "java/lang/StringUTF16", name := "compress", desc := "([CI[BII)I" } : Jvm.MethodName) jdk_52_method_21_code (7 : Nat) (Option.some Jvm.ClassFile.FieldType.int), Jvm.Cond.code ({ cls := "java/lang/StringUTF16", name := "coderFromArrayLen", desc := "([BI)B" } : Jvm.MethodName) jdk_52_method_15_code (2 : Nat) (Option.some Jvm.ClassFile.FieldType.byte), Jvm.Cond.code ({ cls := "com/example/polyphony/polyphony/policy/Operator", name := "of", desc := "(Ljava/lang/String;)Lcom/example/polyphony/polyphony/policy/Operator;" } : Jvm.MethodName) prog_48_method_7_code (5 : Nat) (Option.some (Jvm.ClassFile.FieldType.object "com/example/polyphony/polyphony/policy/Operator")), Jvm.Cond.code ({ cls := "com/example/polyphony/polyphony/policy/Operator", name := "values", desc := "()[Lcom/example/polyphony/polyphony/policy/Operator;" } : Jvm.MethodName) prog_48_method_1_code (0 : Nat) (Option.some (Jvm.ClassFile.FieldType.array (Jvm.ClassFile.FieldType.object "com/example/polyphony/polyphony/policy/Operator"))), Jvm.Cond.code ({ cls := "java/lang/String", name := "equals", desc := "(Ljava/lang/Object;)Z" } : Jvm.MethodName) jdk_42_method_66_code (3 : Nat) (Option.some Jvm.ClassFile.FieldType.boolean), Jvm.Cond.code ({ cls := "java/lang/StringLatin1", name := "equals", desc := "([B[B)Z" } : Jvm.MethodName) jdk_43_method_13_code (3 : Nat) (Option.some Jvm.ClassFile.FieldType.boolean), Jvm.Cond.code ({ cls := "com/example/polyphony/polyphony/policy/Operator", name := "symbol", desc := "()Ljava/lang/String;" } : Jvm.MethodName) prog_48_method_4_code (1 : Nat) (Option.some (Jvm.ClassFile.FieldType.object "java/lang/String")), Jvm.Cond.code ({ cls := "com/example/polyphony/polyphony/policy/Operator", name := "holds", desc := "(I)Z" } : Jvm.MethodName) prog_48_method_6_code (3 : Nat) (Option.some Jvm.ClassFile.FieldType.boolean)]
set_option maxRecDepth 65536 in
theorem codes_eq : words1.filter isCode = codes1 := rfl
theorem w_codes : ∀ c ∈ words1.filter isCode, c.before args0 about1 = true := by
  rw [codes_eq]
  intro c hc
  simp only [codes1, List.mem_cons, List.not_mem_nil, or_false] at hc
  rcases hc with rfl | rfl | rfl | rfl | rfl | rfl | rfl | rfl | rfl | rfl | rfl | rfl | rfl
  · exact w_c0
  · exact w_c1
  · exact w_c2
  · exact w_c3
  · exact w_c4
  · exact w_c5
  · exact w_c6
  · exact w_c7
  · exact w_c8
  · exact w_c9
  · exact w_c10
  · exact w_c11
  · exact w_c12
set_option maxRecDepth 65536 in
theorem w_t1 : (words1.take 24).all (fun c => isCode c || c.before args0 about1) = true := by decide +kernel
set_option maxRecDepth 65536 in
theorem w_t2 : ((words1.drop 24).take 24).all (fun c => isCode c || c.before args0 about1) = true := by decide +kernel
set_option maxRecDepth 65536 in
theorem w_t3 : (((words1.drop 24).drop 24).take 24).all (fun c => isCode c || c.before args0 about1) = true := by decide +kernel
set_option maxRecDepth 65536 in
theorem w_t4 : (((words1.drop 24).drop 24).drop 24).all (fun c => isCode c || c.before args0 about1) = true := by decide +kernel
theorem w_tables : (allAtoms (Jvm.Cond.code x code maxLocals ret :: tables_1)).before args0 about1 = true := by
  rw [allAtoms_all]
  show words1.all (fun c => c.before args0 about1) = true
  refine all_split ?_ w_codes
  rw [← List.take_append_drop 24 words1, List.all_append, w_t1, ← List.take_append_drop 24 (words1.drop 24), List.all_append, w_t2, ← List.take_append_drop 24 ((words1.drop 24).drop 24), List.all_append, w_t3, w_t4]
  rfl
set_option maxRecDepth 65536 in
theorem w_rest : rest_1_c.before args0 about1 = true := by decide +kernel
set_option maxRecDepth 65536 in
theorem w_case : (Jvm.Cond.and given_1 narrow_1).before args0 about1 = true := by decide +kernel
theorem w_applies : (headSpec (Jvm.Cond.code x code maxLocals ret :: tables_1) room_1).applies x e0.platform about1 = true :=
  (Spec.applies_iff w_frames).mpr ⟨w_running, w_runnable, w_alone, w_named, w_hears, w_ripe, w_room, w_tables⟩
theorem atStart : AtStart classFile x code maxLocals ret World_1 tables_1 room_1 Calls_1 rest_1 Pre_1 launch0 p0 e0 about1 theMethod args0 below0 :=
  ⟨lists_1, trivial, launch0.admits_env _ _ _, launch0.least_env, fairChoices_fair.cas, fairChoices_fair.clock, w_frames, w_args, w_heap, w_applies, trivial, w_rest, w_case⟩
end start1
theorem witness_1 : WitnessClaimed_1 := ⟨start1.p0, start1.e0, start1.about1, start1.theMethod, start1.args0, start1.below0, start1.atStart⟩
end Jvm.Pilot.@@N@@
