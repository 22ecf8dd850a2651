import JvmDerived
import JvmDerived.Pilot.@@N@@Statement
import JvmDerived.Pilot.@@N@@Code
set_option linter.unusedVariables false
set_option linter.unusedSimpArgs false
namespace Jvm.Pilot.@@N@@
open Jvm Jvm.ClassFile Sem Op Lib Jvm.Free Jvm.Stand Jvm.LawKit Jvm.RoadKit Bundle Jvm.Pilot.@@N@@.Jvm.D
/-! own kit: a walk told forwards -/
section OwnKit
variable {p : Program} {l : Launch} {e : Env} {R : Room} {s : State} {m : MethodId} {args : Array Value} {below : List Frame} {meth : Method} {c : Code} {T : State} {locs : List Loc} {cells slots : Nat} {Z : State} {a0 : Array Value} {h : Heap}
/-- from here the run comes to an end of which K speaks -/
def own_Goes (p : Program) (e : Env) (below : List Frame) (K : Outcome → State → Prop) (T : State) (g : JFrame) : Prop :=
  ∃ s₂ o, Steps p.tables e below (T.setTop g) s₂ ∧ s₂.status = .running ∧ Ended s₂ below o ∧ K o s₂
theorem own_step {K : Outcome → State → Prop} {T' : State} {g g' : JFrame} (st : ∀ t, Steps p.tables e below (T'.setTop g') t → Steps p.tables e below (T.setTop g) t) (hg : own_Goes p e below K T' g') : own_Goes p e below K T g := by
  obtain ⟨s2, o, a, b⟩ := hg
  exact ⟨s2, o, st _ a, b⟩
theorem own_castG {K : Outcome → State → Prop} {g g' : JFrame} (q : g = g') (hg : own_Goes p e below K T g') : own_Goes p e below K T g := q ▸ hg
def own_K (s : State) (Q : Option Value → Heap → List Loc → Prop) (rc rs : Nat) : Outcome → State → Prop := fun o u => ∃ v L, o = .returned v ∧ Q v u.heap L ∧ FrameEnd s o u L rc rs
def own_Met (l : Launch) (Z : State) (y : MethodName) (bytes : ByteArray) (maxL : Nat) (ret : Option FieldType) (ws : List Jvm.Cond) (rm : Room) (as' : Array Value) (h0 : Heap) (Q : Option Value → Heap → List Loc → Prop) : Prop :=
  MetFree l y (head1 (Jvm.Cond.code y bytes maxL ret :: ws) rm) (fun a U => a = as' ∧ Z.Warmed39 U.vm ∧ U.heap = h0) (fun _ _ _ _ _ => True) (fun _ U o U' => ∃ v L, o = .returned v ∧ Q v U'.heap L ∧ FrameEnd U o U' L rm.cells rm.slots)
theorem own_body {y : MethodName} {bytes : ByteArray} {maxL : Nat} {ret : Option FieldType} {ws : List Jvm.Cond} {rm : Room} {as' : Array Value} {h0 : Heap} {Q : Option Value → Heap → List Loc → Prop} (hp : plainFor y = true)
    (body : ∀ (p : Program) (e : Env) (s : State) (m : MethodId) (below : List Frame) (meth : Method) (c : Code) (s₁ : State), p.tables.exec = Jvm.exec → c.code = bytes → c.maxLocals = maxL → meth.sig.returnType = ret → meth.locks = false → s.vm.findClass y.cls = some m.cls → meth.name = y.name → Z.Warmed39 s.vm →
      Stand p l e rm s m as' below meth c s₁ [] 0 0 → s₁.heap = h0 → own_Goes p e below (own_K s Q rm.cells rm.slots) s₁ (entryFrame m as' maxL)) : own_Met l Z y bytes maxL ret ws rm as' h0 Q := by
  refine MetFree.of_bodySF hp hisR ?_
  intro p e s m args below meth c s₁ Bd hml0 hP hK
  obtain ⟨rfl, hZ, hh⟩ := hP
  exact body p e s m below meth c s₁ Bd.exec Bd.bytes hml0 Bd.returns (BodyLoose.notSynchronized Bd) (findClass_of_methodNamed Bd.named) (name_of_methodNamed Bd.named Bd.method).1 hZ (Stand.of_body Bd) (by rw [← hh, Bd.state]; rfl)
theorem own_out (X : Stand p l e R s m args below meth c T locs cells slots) (hlk : meth.locks = false) {v : Option Value} (hv : meth.sig.returnType = none → v = none) {Q : Option Value → Heap → List Loc → Prop} {rc rs : Nat} {g : JFrame}
    (st : ∀ fs, (∀ (f : JFrame) (acts : List Action), f.method = m → f.locked = none → f.entered = [] → (doReturn e (T.setTop f) acts v).1 = T.setFrames fs) → Steps p.tables e below (T.setTop g) (T.setFrames fs))
    (hQ : Q v T.heap locs) (hc : cells ≤ rc) (hs : slots ≤ rs) : own_Goes p e below (own_K s Q rc rs) T g := by
  obtain ⟨fs, hr, hrun, hended, hW, hsame⟩ := X.leave (v := v) hv hlk
  exact ⟨_, _, st fs hr, hrun, hended, v, locs, rfl, hQ, ⟨_, rfl⟩, hW, hsame.mono hc hs⟩
theorem own_retN (X : Stand p l e R s m args below meth c T locs cells slots) (hx : p.tables.exec = Jvm.exec) (hlk : meth.locks = false) {pc : Nat} {Ls : Array Slot} {z : Int32} {t : FieldType} {rest : List Value} (hret : meth.sig.returnType = some t) (ht : t = .boolean ∨ t = .byte ∨ t = .char ∨ t = .short)
    (hd : decode c.code pc = .ok (.ireturn, 1)) {Q : Option Value → Heap → List Loc → Prop} {rc rs : Nat} (hQ : Q (some (.int (nar t z))) T.heap locs) (hc : cells ≤ rc) (hs : slots ≤ rs) : own_Goes p e below (own_K s Q rc rs) T (mkF m pc Ls (.int z :: rest)) :=
  own_out X hlk (fun q => by rw [hret] at q; cases q) (fun fs hr => retN X hx hret ht hd hr) hQ hc hs
theorem own_retI (X : Stand p l e R s m args below meth c T locs cells slots) (hx : p.tables.exec = Jvm.exec) (hlk : meth.locks = false) {pc : Nat} {Ls : Array Slot} {z : Int32} {rest : List Value} (hret : meth.sig.returnType = some .int)
    (hd : decode c.code pc = .ok (.ireturn, 1)) {Q : Option Value → Heap → List Loc → Prop} {rc rs : Nat} (hQ : Q (some (.int z)) T.heap locs) (hc : cells ≤ rc) (hs : slots ≤ rs) : own_Goes p e below (own_K s Q rc rs) T (mkF m pc Ls (.int z :: rest)) :=
  own_out X hlk (fun q => by rw [hret] at q; cases q) (fun fs hr => retOut X hx hret rfl (Or.inl ⟨rfl, Or.inl rfl, z, rfl⟩) hd hr) hQ hc hs
theorem own_retL (X : Stand p l e R s m args below meth c T locs cells slots) (hx : p.tables.exec = Jvm.exec) (hlk : meth.locks = false) {pc : Nat} {Ls : Array Slot} {z : Int64} {rest : List Value} (hret : meth.sig.returnType = some .long)
    (hd : decode c.code pc = .ok (.lreturn, 1)) {Q : Option Value → Heap → List Loc → Prop} {rc rs : Nat} (hQ : Q (some (.long z)) T.heap locs) (hc : cells ≤ rc) (hs : slots ≤ rs) : own_Goes p e below (own_K s Q rc rs) T (mkF m pc Ls (.long z :: rest)) :=
  own_out X hlk (fun q => by rw [hret] at q; cases q) (fun fs hr => retOut X hx hret rfl (Or.inr (Or.inl ⟨rfl, rfl, z, rfl⟩)) hd hr) hQ hc hs
theorem own_retA (X : Stand p l e R s m args below meth c T locs cells slots) (hx : p.tables.exec = Jvm.exec) (hlk : meth.locks = false) {pc : Nat} {Ls : Array Slot} {w : Value} {t : FieldType} {rest : List Value} (hret : meth.sig.returnType = some t) (hn : narrow t w = w) (ht : t.isReference = true) (hw : w.isRef = true)
    (hd : decode c.code pc = .ok (.areturn, 1)) {Q : Option Value → Heap → List Loc → Prop} {rc rs : Nat} (hQ : Q (some w) T.heap locs) (hc : cells ≤ rc) (hs : slots ≤ rs) : own_Goes p e below (own_K s Q rc rs) T (mkF m pc Ls (w :: rest)) :=
  own_out X hlk (fun q => by rw [hret] at q; cases q) (fun fs hr => retOut X hx hret hn (Or.inr (Or.inr (Or.inr (Or.inr ⟨rfl, ht, hw⟩)))) hd hr) hQ hc hs
theorem own_retV (X : Stand p l e R s m args below meth c T locs cells slots) (hx : p.tables.exec = Jvm.exec) (hlk : meth.locks = false) {pc : Nat} {Ls : Array Slot} (hret : meth.sig.returnType = none)
    (hd : decode c.code pc = .ok (.return_, 1)) {Q : Option Value → Heap → List Loc → Prop} {rc rs : Nat} (hQ : Q none T.heap locs) (hc : cells ≤ rc) (hs : slots ≤ rs) : own_Goes p e below (own_K s Q rc rs) T (mkF m pc Ls []) :=
  own_out X hlk (fun _ => rfl) (fun fs hr => X.returnOut hx hret hd hr) hQ hc hs
theorem own_callS (X : Stand p l e R s m args below meth c T locs cells slots) (hx : p.tables.exec = Jvm.exec) (hZ : Z.Warmed39 s.vm) {own : String} {index : Nat} {y : MethodName} {bytes : ByteArray} {maxL : Nat} {ret : Option FieldType} (hown : s.vm.findClass own = some m.cls)
    (w1 : (Jvm.Cond.methodLink own index y).before a0 Z = true) (w2 : (Jvm.Cond.static y).before a0 Z = true) (w3 : (Jvm.Cond.initialized y.cls).before a0 Z = true) (w4 : (Jvm.Cond.code y bytes maxL ret).before a0 Z = true) (hy : y.cls ≠ "java/lang/invoke/MethodHandle" ∧ y.cls ≠ "java/lang/invoke/VarHandle")
    {rm : Room} (W : Nat) (argsL rest : List Value) {Q : Option Value → Heap → List Loc → Prop} (hM : own_Met l Z y bytes maxL ret [] rm argsL.toArray h Q) (eT : T.heap = h)
    (hf : rm.frames + 1 ≤ R.frames) (hl : W + (maxL + 11) + rm.locals ≤ R.locals) (hc : cells + rm.cells ≤ R.cells) (hs : slots + rm.slots ≤ R.slots)
    {g : JFrame} (hg : g.method = m) (hsize : g.locals.size = c.maxLocals) {ps : List FieldType} {r : Option FieldType} (hpd : parseMethodDescriptor y.desc = some ⟨ps, r⟩) (hlen : argsL.length = ps.length)
    (hstack : g.stack = argsL.reverse ++ rest) (hW : 2 * g.monitorRoom + (rest.map fun v => v.category).sum ≤ W) (hd : decode c.code g.pc = .ok (.invokestatic index, 3))
    {K : Outcome → State → Prop} (go : ∀ T' v L, Stand p l e R s m args below meth c T' (locs ++ L) (cells + rm.cells) (slots + rm.slots) → Q v T'.heap L → own_Goes p e below K T' { g with pc := g.pc + 3, stack := v.toList ++ rest }) : own_Goes p e below K T g := by
  obtain ⟨v, _, ⟨T', L', k', n'⟩, -, X', ⟨Lc, hQ, l1, y1, z1⟩, st⟩ := Jvm.LawKit.callS X hx (y := y) hown (mvT hZ w1) (mvT hZ w2) (mvT hZ w3) (mvT hZ w4) hy (backOf (W := W) hM hZ w4 w3 hf hl) hg hsize (lenOf hpd hlen) hstack hW hd (fun _ _ => ⟨rfl, eT, hc, hs⟩)
  dsimp only [Pt.U, Pt.locs, Pt.cells, Pt.slots] at X' l1 y1 z1 st hQ
  subst l1 y1 z1
  exact own_step st (go _ _ _ X' hQ)
theorem own_callV (X : Stand p l e R s m args below meth c T locs cells slots) (hx : p.tables.exec = Jvm.exec) (hZ : Z.Warmed39 s.vm) {own C : String} {index : Nat} {y z : MethodName} {bytes : ByteArray} {maxL : Nat} {ret : Option FieldType} (hown : s.vm.findClass own = some m.cls)
    (w1 : (Jvm.Cond.methodLink own index y).before a0 Z = true) (w2 : (Jvm.Cond.declares y).before a0 Z = true) (nf : NotFace s y) (w3 : (Jvm.Cond.selects C y z).before a0 Z = true) (w4 : (Jvm.Cond.instanceMethod z).before a0 Z = true) (w5 : (Jvm.Cond.code z bytes maxL ret).before a0 Z = true) (w6 : (Jvm.Cond.initialized z.cls).before a0 Z = true)
    (hy : y.cls ≠ "java/lang/invoke/MethodHandle" ∧ y.cls ≠ "java/lang/invoke/VarHandle")
    {rm : Room} (W : Nat) {a : Addr} (E : Exa Z h a C) (argsL rest : List Value) {Q : Option Value → Heap → List Loc → Prop} (hM : own_Met l Z z bytes maxL ret [] rm (.ref a :: argsL).toArray h Q) (eT : T.heap = h)
    (hf : rm.frames + 1 ≤ R.frames) (hl : W + (maxL + 11) + rm.locals ≤ R.locals) (hc : cells + rm.cells ≤ R.cells) (hs : slots + rm.slots ≤ R.slots)
    {g : JFrame} (hg : g.method = m) (hsize : g.locals.size = c.maxLocals) {ps : List FieldType} {r : Option FieldType} (hpd : parseMethodDescriptor y.desc = some ⟨ps, r⟩) (hlen : argsL.length = ps.length)
    (hstack : g.stack = argsL.reverse ++ .ref a :: rest) (hW : 2 * g.monitorRoom + (rest.map fun v => v.category).sum ≤ W) (hd : decode c.code g.pc = .ok (.invokevirtual index, 3))
    {K : Outcome → State → Prop} (go : ∀ T' v L, Stand p l e R s m args below meth c T' (locs ++ L) (cells + rm.cells) (slots + rm.slots) → Q v T'.heap L → own_Goes p e below K T' { g with pc := g.pc + 3, stack := v.toList ++ rest }) : own_Goes p e below K T g := by
  obtain ⟨cq, kq, qa, qb, qc⟩ := isOf hZ eT E
  obtain ⟨v, _, ⟨T', L', k', n'⟩, -, X', ⟨Lc, hQ, l1, y1, z1⟩, st⟩ := X.virtualBack hx (y := y) (z := z) hown (mvT hZ w1) (mvT hZ w2) nf (mvT hZ w3) (mvT hZ w4) hy (backOf (W := W) hM hZ w5 w6 hf hl) qa qc hg hsize (Steps.refl _) (lenOf hpd hlen) hstack hW hd (fun _ _ => ⟨rfl, eT, hc, hs⟩)
  dsimp only [Pt.U, Pt.locs, Pt.cells, Pt.slots] at X' l1 y1 z1 st hQ
  subst l1 y1 z1
  exact own_step (fun t k => st.trans k) (go _ _ _ X' hQ)
theorem own_callC (X : Stand p l e R s m args below meth c T locs cells slots) (hx : p.tables.exec = Jvm.exec) (hZ : Z.Warmed39 s.vm) {own : String} {index : Nat} {y : MethodName} {bytes : ByteArray} {maxL : Nat} (hy1 : y.name = "<init>") (hown : s.vm.findClass own = some m.cls)
    (w1 : (Jvm.Cond.methodLink own index y).before a0 Z = true) (w2 : (Jvm.Cond.instanceMethod y).before a0 Z = true) (w3 : (Jvm.Cond.code y bytes maxL none).before a0 Z = true) (w4 : (Jvm.Cond.initialized y.cls).before a0 Z = true)
    (hy : y.cls ≠ "java/lang/invoke/MethodHandle" ∧ y.cls ≠ "java/lang/invoke/VarHandle")
    {rm : Room} (W : Nat) {a : Addr} (argsL rest : List Value) {Q : Option Value → Heap → List Loc → Prop} (hM : own_Met l Z y bytes maxL none [] rm (.ref a :: argsL).toArray h Q) (eT : T.heap = h)
    (hf : rm.frames + 1 ≤ R.frames) (hl : W + (maxL + 11) + rm.locals ≤ R.locals) (hc : cells + rm.cells ≤ R.cells) (hs : slots + rm.slots ≤ R.slots)
    {g : JFrame} (hg : g.method = m) (hsize : g.locals.size = c.maxLocals) {ps : List FieldType} {r : Option FieldType} (hpd : parseMethodDescriptor y.desc = some ⟨ps, r⟩) (hlen : argsL.length = ps.length)
    (hstack : g.stack = argsL.reverse ++ .ref a :: rest) (hW : 2 * g.monitorRoom + (rest.map fun v => v.category).sum ≤ W) (hd : decode c.code g.pc = .ok (.invokespecial index, 3))
    {K : Outcome → State → Prop} (go : ∀ T' v L, Stand p l e R s m args below meth c T' (locs ++ L) (cells + rm.cells) (slots + rm.slots) → Q v T'.heap L → own_Goes p e below K T' { g with pc := g.pc + 3, stack := v.toList ++ rest }) : own_Goes p e below K T g := by
  obtain ⟨v, _, ⟨T', L', k', n'⟩, -, X', ⟨Lc, hQ, l1, y1, z1⟩, st⟩ := X.specialBack hx (y := y) hy1 hown (mvT hZ w1) (mvT hZ w2) (mvT hZ w3) hy (backOf (W := W) hM hZ w3 w4 hf hl) hg hsize (Steps.refl _) (a := a) (lenOf hpd hlen) hstack hW hd (fun _ _ => ⟨rfl, eT, hc, hs⟩)
  dsimp only [Pt.U, Pt.locs, Pt.cells, Pt.slots] at X' l1 y1 z1 st hQ
  subst l1 y1 z1
  exact own_step (fun t k => st.trans k) (go _ _ _ X' hQ)
theorem own_fldI {t : Term} {C n d : String} {k : Int32} {a : Addr} (ev : t.eval args s none [] s = some (.ref a)) (hq : (Jvm.Cond.eq (.field t C n d) (.int k)).value args s none s [] = some true) : Fld s s.heap a C n d (.int k) := by
  have e1 := fld_at (C := C) (n := n) (dd := d) ev
  refine Fld.start ?_
  simp only [Jvm.Cond.value, e1, Term.int_eval] at hq
  cases hf : s.fieldOf? a C n d with
  | none => simp [hf] at hq
  | some v => cases v <;> simp [hf] at hq; rw [hq]
theorem own_callU (X : Stand p l e R s m args below meth c T locs cells slots) (hx : p.tables.exec = Jvm.exec) (hZ : Z.Warmed39 s.vm) {own C owner : String} {index : Nat} {y z : MethodName} {bytes : ByteArray} {maxL : Nat} {ret : Option FieldType} (hown : s.vm.findClass own = some m.cls)
    (w1 : (Jvm.Cond.methodLink own index y).before a0 Z = true) (w2 : (Jvm.Cond.sameMethod y.cls owner y.name y.desc).before a0 Z = true) (w2' : (Jvm.Cond.declares ⟨owner, y.name, y.desc⟩).before a0 Z = true) (w3 : (Jvm.Cond.selects C y z).before a0 Z = true) (w4 : (Jvm.Cond.instanceMethod z).before a0 Z = true) (w5 : (Jvm.Cond.code z bytes maxL ret).before a0 Z = true) (w6 : (Jvm.Cond.initialized z.cls).before a0 Z = true)
    (hy : owner ≠ "java/lang/invoke/MethodHandle" ∧ owner ≠ "java/lang/invoke/VarHandle")
    {rm : Room} (W : Nat) {a : Addr} (E : Exa Z h a C) (argsL rest : List Value) {Q : Option Value → Heap → List Loc → Prop} (hM : own_Met l Z z bytes maxL ret [] rm (.ref a :: argsL).toArray h Q) (eT : T.heap = h)
    (hf : rm.frames + 1 ≤ R.frames) (hl : W + (maxL + 11) + rm.locals ≤ R.locals) (hc : cells + rm.cells ≤ R.cells) (hs : slots + rm.slots ≤ R.slots)
    {g : JFrame} (hg : g.method = m) (hsize : g.locals.size = c.maxLocals) {ps : List FieldType} {r : Option FieldType} (hpd : parseMethodDescriptor y.desc = some ⟨ps, r⟩) (hlen : argsL.length = ps.length)
    (hstack : g.stack = argsL.reverse ++ .ref a :: rest) (hW : 2 * g.monitorRoom + (rest.map fun v => v.category).sum ≤ W) (hd : decode c.code g.pc = .ok (.invokevirtual index, 3))
    {K : Outcome → State → Prop} (go : ∀ T' v L, Stand p l e R s m args below meth c T' (locs ++ L) (cells + rm.cells) (slots + rm.slots) → Q v T'.heap L → own_Goes p e below K T' { g with pc := g.pc + 3, stack := v.toList ++ rest }) : own_Goes p e below K T g := by
  obtain ⟨cq, kq, qa, qb, qc⟩ := isOf hZ eT E
  obtain ⟨v, _, ⟨T', L', k', n'⟩, -, X', ⟨Lc, hQ, l1, y1, z1⟩, st⟩ := X.virtualBackUp hx (x := y) (y := z) hown (mvT hZ w1) (mvT hZ w2) (mvT hZ w2') hy (mvT hZ w3) (mvT hZ w4) (backOf (W := W) hM hZ w5 w6 hf hl) qa qc hg hsize (Steps.refl _) (lenOf hpd hlen) hstack hW hd (fun _ _ => ⟨rfl, eT, hc, hs⟩)
  dsimp only [Pt.U, Pt.locs, Pt.cells, Pt.slots] at X' l1 y1 z1 st hQ
  subst l1 y1 z1
  exact own_step (fun t k => st.trans k) (go _ _ _ X' hQ)
theorem own_aaload (X : Stand p l e R s m args below meth c T locs cells slots) (hx : p.tables.exec = Jvm.exec) (hZ : Z.Warmed39 s.vm) (eT : T.heap = h) {a : Addr} {k : ClassId} {ty : FieldType} {n : Int32} {vs : List Value} {dv : Value} (F : Arv Z h a k ty n vs dv) (hty : ty.isReference = true) {j : Int32} (v : Value) (hj : ¬ j < 0 ∧ j < n) (hv : vs.getD j.toNatClampNeg dv = v)
    {g : JFrame} (hg : g.method = m) {rest : List Value} (hs : g.stack = .int j :: .ref a :: rest) (hd : decode c.code g.pc = .ok (.aaload, 1)) : ∀ t, Steps p.tables e below (T.setTop { g with pc := g.pc + 1, stack := v :: rest }) t → Steps p.tables e below (T.setTop g) t := by
  obtain ⟨cl, A, q1, S, q3, H, G⟩ := F
  have hin := inb_of S hj
  exact fun t kk => X.aaload hx (by rw [eT]; exact A.1) (State.isArrayOf_alike hZ.alike A.2.1) hty A.2.2 hin (H.at hin hv) hg hs hd t kk
theorem own_aastore (X : Stand p l e R s m args below meth c T locs cells slots) (hx : p.tables.exec = Jvm.exec) (hZ : Z.Warmed39 s.vm) (eT : T.heap = h) {a : Addr} {k : ClassId} {C : String} {n : Int32} {vs : List Value} {dv : Value} (F : Arv Z h a k (.object C) n vs dv) (O : Ovr Z k C) {y : Addr} (I : Ins Z h y C true) {j : Int32} (hj : ¬ j < 0 ∧ j < n) (i : Nat) (hi : j.toNatClampNeg = i) (hl : i < vs.length)
    {g : JFrame} (hg : g.method = m) {rest : List Value} (hs : g.stack = .ref y :: .int j :: .ref a :: rest) (hd : decode c.code g.pc = .ok (.aastore, 1)) :
    ∃ T' h', Stand p l e R s m args below meth c T' (locs ++ [⟨a, j.toNatClampNeg⟩]) cells slots ∧ T'.heap = h' ∧ Wr h h' a j.toNatClampNeg (.ref y) ∧ Arv Z h' a k (.object C) n (vs.set i (.ref y)) dv ∧ ∀ target, Steps p.tables e below (T'.setTop { g with pc := g.pc + 1, stack := rest }) target → Steps p.tables e below (T.setTop g) target := by
  obtain ⟨cl, A, q1, S, q3, H, G⟩ := F
  obtain ⟨T', h', X', e', W', st⟩ := stR X hx hZ eT A (inb_of S hj) rfl (Sto.ofV A q1 O I) hg hs hd
  exact ⟨T', h', X', e', W', Arv.set A q1 S q3 H G rfl W' i hi hl, st⟩
theorem own_staKeep {C n d : String} {v : Value} {h' : Heap} {ws : List Addr} (F : Sta Z h C n d v) (K : Keep h h' ws) (q : ∀ x ∈ ws, ∀ cell : Cell, h[x]? = some cell → cell.vm.isStatics = false) : Sta Z h' C n d v := by
  obtain ⟨cf, i, k, f, st, cell, h1, h2, h3, h4, h5, h6, h7⟩ := F
  refine ⟨cf, i, k, f, st, cell, h1, h2, h3, h4, K.2.1 _ _ h5 (fun z => ?_), h6, h7⟩
  have := q _ z _ h5
  rw [h6] at this; cases this
end OwnKit
theorem own_ef0 (m : MethodId) (x0 : Int32) (x1 : Int32) : entryFrame m #[(.int x0), (.int x1)] 2 = mkF m 0 #[.val (.int x0), .val (.int x1)] [] := by first | (simp [entryFrame, mkF, argsToLocals, Value.category]; done) | rfl
theorem own_jdk_29_method_65_0 : decode jdk_29_method_65_code 0 = .ok (.iload_n 0, 1) := by decide +kernel
theorem own_jdk_29_method_65_1 : decode jdk_29_method_65_code 1 = .ok (.iload_n 1, 1) := by decide +kernel
theorem own_jdk_29_method_65_2 : decode jdk_29_method_65_code 2 = .ok (.if_icmp .lt 7, 3) := by decide +kernel
theorem own_jdk_29_method_65_9 : decode jdk_29_method_65_code 9 = .ok (.iload_n 1, 1) := by decide +kernel
theorem own_jdk_29_method_65_10 : decode jdk_29_method_65_code 10 = .ok (.ireturn, 1) := by decide +kernel
theorem own_jdk_29_method_65_5 : decode jdk_29_method_65_code 5 = .ok (.iload_n 0, 1) := by decide +kernel
theorem own_jdk_29_method_65_6 : decode jdk_29_method_65_code 6 = .ok (.goto 4, 3) := by decide +kernel
set_option maxRecDepth 65536 in
set_option maxHeartbeats 40000000 in
theorem own_max (l : Launch) (Z : State) (a0 : Array Value) (hw : ∀ d ∈ tables_1, d.before a0 Z = true) (ws : List Jvm.Cond) (pv : Int32) (qv : Int32) (r : Int32) (h0 : Heap) (n0 : Nat) (Z0 : n0 ≤ h0.size) (hr1 : pv < qv → r = qv) (hr2 : ¬ (pv < qv) → r = pv) :
    own_Met l Z (⟨"java/lang/Math", "max", "(II)I"⟩ : MethodName) jdk_29_method_65_code 2 (some .int) ws ({ frames := 0, cells := 0, slots := 0, locals := 0 } : Room) #[(.int pv), (.int qv)] h0 (fun v h L => v = some (.int r) ∧ Fr n0 L ∧ h = h0) := by
  refine own_body (Jvm.Free.JP.mathPlain rfl (by decide +kernel)) (fun p e s m below meth c s₁ hx hby hml0 hrt hlk hown0 hnm hZ X0 e0 => ?_)
  have N0 := Fr.nil n0
  have hown : s.vm.findClass "java/lang/Math" = some m.cls := hown0
  have hml : c.maxLocals = 2 := hml0
  refine own_castG (own_ef0 m pv qv) ?_
  show own_Goes _ _ _ _ s₁ (mkF m 0 #[.val (.int pv), .val (.int qv)] [])
  refine own_step (fun t k => XS.iloadN X0.here hx rfl (hb hby own_jdk_29_method_65_0) rfl k) ?_
  show own_Goes _ _ _ _ s₁ (mkF m 1 #[.val (.int pv), .val (.int qv)] [(.int pv)])
  refine own_step (fun t k => XS.iloadN X0.here hx rfl (hb hby own_jdk_29_method_65_1) rfl k) ?_
  show own_Goes _ _ _ _ s₁ (mkF m 2 #[.val (.int pv), .val (.int qv)] [(.int qv), (.int pv)])
  by_cases hc2_1 : pv < qv
  · refine own_step (fun t k => XS.icmpYes X0.here hx rfl (pc0 := 2) (pc' := 9) rfl (hb hby own_jdk_29_method_65_2) rfl (tlt (show pv < qv from hc2_1)).1 (by decide) (by decide) k) ?_
    show own_Goes _ _ _ _ s₁ (mkF m 9 #[.val (.int pv), .val (.int qv)] [])
    refine own_step (fun t k => XS.iloadN X0.here hx rfl (hb hby own_jdk_29_method_65_9) rfl k) ?_
    show own_Goes _ _ _ _ s₁ (mkF m 10 #[.val (.int pv), .val (.int qv)] [(.int qv)])
    exact own_retI X0 hx hlk hrt (hb hby own_jdk_29_method_65_10) ⟨by rw [hr1 hc2_1], N0, e0⟩ (by decide) (by decide)
  · refine own_step (fun t k => XS.icmpNo X0.here hx rfl (hb hby own_jdk_29_method_65_2) rfl (flt (show ¬ (pv < qv) from hc2_1)).1 k) ?_
    show own_Goes _ _ _ _ s₁ (mkF m 5 #[.val (.int pv), .val (.int qv)] [])
    refine own_step (fun t k => XS.iloadN X0.here hx rfl (hb hby own_jdk_29_method_65_5) rfl k) ?_
    show own_Goes _ _ _ _ s₁ (mkF m 6 #[.val (.int pv), .val (.int qv)] [(.int pv)])
    refine own_step (fun t k => XS.goto X0.here hx rfl (pc0 := 6) (pc' := 10) rfl (hb hby own_jdk_29_method_65_6) (by decide) (by decide) k) ?_
    show own_Goes _ _ _ _ s₁ (mkF m 10 #[.val (.int pv), .val (.int qv)] [(.int pv)])
    exact own_retI X0 hx hlk hrt (hb hby own_jdk_29_method_65_10) ⟨by rw [hr2 hc2_1], N0, e0⟩ (by decide) (by decide)
theorem own_pn_java_lang_Enum : plainName "java/lang/Enum" = true := by first | (simp [plainName, overriddenIn]; done) | decide +kernel
theorem own_ef1 (m : MethodId) (x0 : Addr) : entryFrame m #[(.ref x0)] 1 = mkF m 0 #[.val (.ref x0)] [] := by first | (simp [entryFrame, mkF, argsToLocals, Value.category]; done) | rfl
theorem own_jdk_37_method_2_0 : decode jdk_37_method_2_code 0 = .ok (.aload_n 0, 1) := by decide +kernel
theorem own_jdk_37_method_2_1 : decode jdk_37_method_2_code 1 = .ok (.getfield 7, 3) := by decide +kernel
theorem own_jdk_37_method_2_4 : decode jdk_37_method_2_code 4 = .ok (.ireturn, 1) := by decide +kernel
set_option maxRecDepth 65536 in
set_option maxHeartbeats 40000000 in
theorem own_ord0 (l : Launch) (Z : State) (a0 : Array Value) (hw : ∀ d ∈ tables_1, d.before a0 Z = true) (ws : List Jvm.Cond) (a : Addr) (h0 : Heap) (n0 : Nat) (Z0 : n0 ≤ h0.size) (F_a_ordinal : Fld Z h0 a "java/lang/Enum" "ordinal" "I" (.int (0 : Int32))) :
    own_Met l Z (⟨"java/lang/Enum", "ordinal", "()I"⟩ : MethodName) jdk_37_method_2_code 1 (some .int) ws ({ frames := 0, cells := 0, slots := 0, locals := 0 } : Room) #[(.ref a)] h0 (fun v h L => v = some (.int 0) ∧ Fr n0 L ∧ h = h0) := by
  refine own_body (plainFor_of_name own_pn_java_lang_Enum) (fun p e s m below meth c s₁ hx hby hml0 hrt hlk hown0 hnm hZ X0 e0 => ?_)
  have N0 := Fr.nil n0
  have hown : s.vm.findClass "java/lang/Enum" = some m.cls := hown0
  have hml : c.maxLocals = 1 := hml0
  refine own_castG (own_ef1 m a) ?_
  show own_Goes _ _ _ _ s₁ (mkF m 0 #[.val (.ref a)] [])
  refine own_step (fun t k => XS.aloadN X0.here hx rfl (hb hby own_jdk_37_method_2_0) rfl rfl k) ?_
  show own_Goes _ _ _ _ s₁ (mkF m 1 #[.val (.ref a)] [(.ref a)])
  obtain ⟨T1, X1, e1, st1⟩ := getF X0 hx hZ hown (host := "") (Or.inl (hw _ (List.mem_of_getElem? (i := 20) rfl))) Via.refl e0 F_a_ordinal (g := (mkF m 1 #[.val (.ref a)] [(.ref a)])) rfl rfl (hb hby own_jdk_37_method_2_1)
  refine own_step st1 ?_
  show own_Goes _ _ _ _ T1 (mkF m 4 #[.val (.ref a)] [(.int (0 : Int32))])
  exact own_retI X1 hx hlk hrt (hb hby own_jdk_37_method_2_4) ⟨rfl, N0, e1⟩ (by decide) (by decide)
set_option maxRecDepth 65536 in
set_option maxHeartbeats 40000000 in
theorem own_ord1 (l : Launch) (Z : State) (a0 : Array Value) (hw : ∀ d ∈ tables_1, d.before a0 Z = true) (ws : List Jvm.Cond) (a : Addr) (h0 : Heap) (n0 : Nat) (Z0 : n0 ≤ h0.size) (F_a_ordinal : Fld Z h0 a "java/lang/Enum" "ordinal" "I" (.int (1 : Int32))) :
    own_Met l Z (⟨"java/lang/Enum", "ordinal", "()I"⟩ : MethodName) jdk_37_method_2_code 1 (some .int) ws ({ frames := 0, cells := 0, slots := 0, locals := 0 } : Room) #[(.ref a)] h0 (fun v h L => v = some (.int 1) ∧ Fr n0 L ∧ h = h0) := by
  refine own_body (plainFor_of_name own_pn_java_lang_Enum) (fun p e s m below meth c s₁ hx hby hml0 hrt hlk hown0 hnm hZ X0 e0 => ?_)
  have N0 := Fr.nil n0
  have hown : s.vm.findClass "java/lang/Enum" = some m.cls := hown0
  have hml : c.maxLocals = 1 := hml0
  refine own_castG (own_ef1 m a) ?_
  show own_Goes _ _ _ _ s₁ (mkF m 0 #[.val (.ref a)] [])
  refine own_step (fun t k => XS.aloadN X0.here hx rfl (hb hby own_jdk_37_method_2_0) rfl rfl k) ?_
  show own_Goes _ _ _ _ s₁ (mkF m 1 #[.val (.ref a)] [(.ref a)])
  obtain ⟨T1, X1, e1, st1⟩ := getF X0 hx hZ hown (host := "") (Or.inl (hw _ (List.mem_of_getElem? (i := 20) rfl))) Via.refl e0 F_a_ordinal (g := (mkF m 1 #[.val (.ref a)] [(.ref a)])) rfl rfl (hb hby own_jdk_37_method_2_1)
  refine own_step st1 ?_
  show own_Goes _ _ _ _ T1 (mkF m 4 #[.val (.ref a)] [(.int (1 : Int32))])
  exact own_retI X1 hx hlk hrt (hb hby own_jdk_37_method_2_4) ⟨rfl, N0, e1⟩ (by decide) (by decide)
set_option maxRecDepth 65536 in
set_option maxHeartbeats 40000000 in
theorem own_ord2 (l : Launch) (Z : State) (a0 : Array Value) (hw : ∀ d ∈ tables_1, d.before a0 Z = true) (ws : List Jvm.Cond) (a : Addr) (h0 : Heap) (n0 : Nat) (Z0 : n0 ≤ h0.size) (F_a_ordinal : Fld Z h0 a "java/lang/Enum" "ordinal" "I" (.int (2 : Int32))) :
    own_Met l Z (⟨"java/lang/Enum", "ordinal", "()I"⟩ : MethodName) jdk_37_method_2_code 1 (some .int) ws ({ frames := 0, cells := 0, slots := 0, locals := 0 } : Room) #[(.ref a)] h0 (fun v h L => v = some (.int 2) ∧ Fr n0 L ∧ h = h0) := by
  refine own_body (plainFor_of_name own_pn_java_lang_Enum) (fun p e s m below meth c s₁ hx hby hml0 hrt hlk hown0 hnm hZ X0 e0 => ?_)
  have N0 := Fr.nil n0
  have hown : s.vm.findClass "java/lang/Enum" = some m.cls := hown0
  have hml : c.maxLocals = 1 := hml0
  refine own_castG (own_ef1 m a) ?_
  show own_Goes _ _ _ _ s₁ (mkF m 0 #[.val (.ref a)] [])
  refine own_step (fun t k => XS.aloadN X0.here hx rfl (hb hby own_jdk_37_method_2_0) rfl rfl k) ?_
  show own_Goes _ _ _ _ s₁ (mkF m 1 #[.val (.ref a)] [(.ref a)])
  obtain ⟨T1, X1, e1, st1⟩ := getF X0 hx hZ hown (host := "") (Or.inl (hw _ (List.mem_of_getElem? (i := 20) rfl))) Via.refl e0 F_a_ordinal (g := (mkF m 1 #[.val (.ref a)] [(.ref a)])) rfl rfl (hb hby own_jdk_37_method_2_1)
  refine own_step st1 ?_
  show own_Goes _ _ _ _ T1 (mkF m 4 #[.val (.ref a)] [(.int (2 : Int32))])
  exact own_retI X1 hx hlk hrt (hb hby own_jdk_37_method_2_4) ⟨rfl, N0, e1⟩ (by decide) (by decide)
theorem own_pn_com_example_ringshift_ringshift_data_Consistency : plainName "com/example/ringshift/ringshift/data/Consistency" = true := by first | (simp [plainName, overriddenIn]; done) | decide +kernel
theorem own_ef2 (m : MethodId) (x0 : Addr) (x1 : Int32) : entryFrame m #[(.ref x0), (.int x1)] 2 = mkF m 0 #[.val (.ref x0), .val (.int x1)] [] := by first | (simp [entryFrame, mkF, argsToLocals, Value.category]; done) | rfl
theorem own_prog_58_method_5_0 : decode prog_58_method_5_code 0 = .ok (.aload_n 0, 1) := by decide +kernel
theorem own_prog_58_method_5_1 : decode prog_58_method_5_code 1 = .ok (.invokevirtual 66, 3) := by decide +kernel
theorem own_pd0 : parseMethodDescriptor "()I" = some ⟨[], some .int⟩ := by decide +kernel
theorem own_prog_58_method_5_4 : decode prog_58_method_5_code 4 = .ok (.tableswitch 28 0 2 #[38, 42, 50], 28) := by decide +kernel
theorem own_prog_58_method_5_42 : decode prog_58_method_5_code 42 = .ok (.iconst 1, 1) := by decide +kernel
theorem own_prog_58_method_5_43 : decode prog_58_method_5_code 43 = .ok (.goto 12, 3) := by decide +kernel
theorem own_prog_58_method_5_55 : decode prog_58_method_5_code 55 = .ok (.ireturn, 1) := by decide +kernel
set_option maxRecDepth 65536 in
set_option maxHeartbeats 40000000 in
theorem own_req0 (l : Launch) (Z : State) (a0 : Array Value) (hw : ∀ d ∈ tables_1, d.before a0 Z = true) (ws : List Jvm.Cond) (a : Addr) (pv : Int32) (h0 : Heap) (n0 : Nat) (Z0 : n0 ≤ h0.size) (E_a : Exa Z h0 a "com/example/ringshift/ringshift/data/Consistency") (F_a_ordinal : Fld Z h0 a "java/lang/Enum" "ordinal" "I" (.int (0 : Int32))) :
    own_Met l Z (⟨"com/example/ringshift/ringshift/data/Consistency", "required", "(I)I"⟩ : MethodName) prog_58_method_5_code 2 (some .int) ws ({ frames := 1, cells := 0, slots := 0, locals := 12 } : Room) #[(.ref a), (.int pv)] h0 (fun v h L => v = some (.int (1 : Int32)) ∧ Fr n0 L ∧ h = h0) := by
  refine own_body (plainFor_of_name own_pn_com_example_ringshift_ringshift_data_Consistency) (fun p e s m below meth c s₁ hx hby hml0 hrt hlk hown0 hnm hZ X0 e0 => ?_)
  have N0 := Fr.nil n0
  have hown : s.vm.findClass "com/example/ringshift/ringshift/data/Consistency" = some m.cls := hown0
  have hml : c.maxLocals = 2 := hml0
  refine own_castG (own_ef2 m a pv) ?_
  show own_Goes _ _ _ _ s₁ (mkF m 0 #[.val (.ref a), .val (.int pv)] [])
  refine own_step (fun t k => XS.aloadN X0.here hx rfl (hb hby own_prog_58_method_5_0) rfl rfl k) ?_
  show own_Goes _ _ _ _ s₁ (mkF m 1 #[.val (.ref a), .val (.int pv)] [(.ref a)])
  refine own_callU X0 hx hZ (y := (⟨"com/example/ringshift/ringshift/data/Consistency", "ordinal", "()I"⟩ : MethodName)) (z := (⟨"java/lang/Enum", "ordinal", "()I"⟩ : MethodName)) (owner := "java/lang/Enum") hown (hw _ (List.mem_of_getElem? (i := 13) rfl)) (hw _ (List.mem_of_getElem? (i := 14) rfl)) (hw _ (List.mem_of_getElem? (i := 15) rfl)) (hw _ (List.mem_of_getElem? (i := 17) rfl)) (hw _ (List.mem_of_getElem? (i := 16) rfl)) (hw _ (List.mem_of_getElem? (i := 19) rfl)) (hw _ (List.mem_of_getElem? (i := 18) rfl)) (by decide) 0 E_a [] [] (own_ord0 l Z a0 hw [] a h0 n0 Z0 F_a_ordinal) e0 (by decide) (by decide) (by decide) (by decide) (g := (mkF m 1 #[.val (.ref a), .val (.int pv)] [(.ref a)])) rfl (by rw [hml]; rfl) own_pd0 rfl rfl (by show 2 * 0 + _ ≤ _; exact Nat.le_of_eq rfl) (hb hby own_prog_58_method_5_1) ?_
  intro T1 v1 L1 X1 hQ1
  obtain ⟨rfl, N1q, e1⟩ := hQ1
  have N1 := Fr.app N0 N1q
  show own_Goes _ _ _ _ T1 (mkF m 4 #[.val (.ref a), .val (.int pv)] [(.int (0 : Int32))])
  refine own_step (fun t k => XS.tswIn X1.here hx rfl (pc0 := 4) (pc' := 42) rfl (hb hby own_prog_58_method_5_4) rfl (by decide) (o := 38) (by decide) (by decide) (by decide) k) ?_
  show own_Goes _ _ _ _ T1 (mkF m 42 #[.val (.ref a), .val (.int pv)] [])
  refine own_step (fun t k => XS.iconst X1.here hx rfl (hb hby own_prog_58_method_5_42) k) ?_
  show own_Goes _ _ _ _ T1 (mkF m 43 #[.val (.ref a), .val (.int pv)] [(.int (1 : Int32))])
  refine own_step (fun t k => XS.goto X1.here hx rfl (pc0 := 43) (pc' := 55) rfl (hb hby own_prog_58_method_5_43) (by decide) (by decide) k) ?_
  show own_Goes _ _ _ _ T1 (mkF m 55 #[.val (.ref a), .val (.int pv)] [(.int (1 : Int32))])
  exact own_retI X1 hx hlk hrt (hb hby own_prog_58_method_5_55) ⟨rfl, N1, e1⟩ (by decide) (by decide)
theorem own_prog_58_method_5_46 : decode prog_58_method_5_code 46 = .ok (.iload_n 1, 1) := by decide +kernel
theorem own_prog_58_method_5_47 : decode prog_58_method_5_code 47 = .ok (.iconst 2, 1) := by decide +kernel
theorem own_prog_58_method_5_48 : decode prog_58_method_5_code 48 = .ok (.idiv, 1) := by decide +kernel
theorem own_prog_58_method_5_49 : decode prog_58_method_5_code 49 = .ok (.iconst 1, 1) := by decide +kernel
theorem own_prog_58_method_5_50 : decode prog_58_method_5_code 50 = .ok (.iadd, 1) := by decide +kernel
theorem own_prog_58_method_5_51 : decode prog_58_method_5_code 51 = .ok (.goto 4, 3) := by decide +kernel
set_option maxRecDepth 65536 in
set_option maxHeartbeats 40000000 in
theorem own_req1 (l : Launch) (Z : State) (a0 : Array Value) (hw : ∀ d ∈ tables_1, d.before a0 Z = true) (ws : List Jvm.Cond) (a : Addr) (pv : Int32) (h0 : Heap) (n0 : Nat) (Z0 : n0 ≤ h0.size) (E_a : Exa Z h0 a "com/example/ringshift/ringshift/data/Consistency") (F_a_ordinal : Fld Z h0 a "java/lang/Enum" "ordinal" "I" (.int (1 : Int32))) :
    own_Met l Z (⟨"com/example/ringshift/ringshift/data/Consistency", "required", "(I)I"⟩ : MethodName) prog_58_method_5_code 2 (some .int) ws ({ frames := 1, cells := 0, slots := 0, locals := 12 } : Room) #[(.ref a), (.int pv)] h0 (fun v h L => v = some (.int ((pv / (2 : Int32)) + (1 : Int32))) ∧ Fr n0 L ∧ h = h0) := by
  refine own_body (plainFor_of_name own_pn_com_example_ringshift_ringshift_data_Consistency) (fun p e s m below meth c s₁ hx hby hml0 hrt hlk hown0 hnm hZ X0 e0 => ?_)
  have N0 := Fr.nil n0
  have hown : s.vm.findClass "com/example/ringshift/ringshift/data/Consistency" = some m.cls := hown0
  have hml : c.maxLocals = 2 := hml0
  refine own_castG (own_ef2 m a pv) ?_
  show own_Goes _ _ _ _ s₁ (mkF m 0 #[.val (.ref a), .val (.int pv)] [])
  refine own_step (fun t k => XS.aloadN X0.here hx rfl (hb hby own_prog_58_method_5_0) rfl rfl k) ?_
  show own_Goes _ _ _ _ s₁ (mkF m 1 #[.val (.ref a), .val (.int pv)] [(.ref a)])
  refine own_callU X0 hx hZ (y := (⟨"com/example/ringshift/ringshift/data/Consistency", "ordinal", "()I"⟩ : MethodName)) (z := (⟨"java/lang/Enum", "ordinal", "()I"⟩ : MethodName)) (owner := "java/lang/Enum") hown (hw _ (List.mem_of_getElem? (i := 13) rfl)) (hw _ (List.mem_of_getElem? (i := 14) rfl)) (hw _ (List.mem_of_getElem? (i := 15) rfl)) (hw _ (List.mem_of_getElem? (i := 17) rfl)) (hw _ (List.mem_of_getElem? (i := 16) rfl)) (hw _ (List.mem_of_getElem? (i := 19) rfl)) (hw _ (List.mem_of_getElem? (i := 18) rfl)) (by decide) 0 E_a [] [] (own_ord1 l Z a0 hw [] a h0 n0 Z0 F_a_ordinal) e0 (by decide) (by decide) (by decide) (by decide) (g := (mkF m 1 #[.val (.ref a), .val (.int pv)] [(.ref a)])) rfl (by rw [hml]; rfl) own_pd0 rfl rfl (by show 2 * 0 + _ ≤ _; exact Nat.le_of_eq rfl) (hb hby own_prog_58_method_5_1) ?_
  intro T1 v1 L1 X1 hQ1
  obtain ⟨rfl, N1q, e1⟩ := hQ1
  have N1 := Fr.app N0 N1q
  show own_Goes _ _ _ _ T1 (mkF m 4 #[.val (.ref a), .val (.int pv)] [(.int (1 : Int32))])
  refine own_step (fun t k => XS.tswIn X1.here hx rfl (pc0 := 4) (pc' := 46) rfl (hb hby own_prog_58_method_5_4) rfl (by decide) (o := 42) (by decide) (by decide) (by decide) k) ?_
  show own_Goes _ _ _ _ T1 (mkF m 46 #[.val (.ref a), .val (.int pv)] [])
  refine own_step (fun t k => XS.iloadN X1.here hx rfl (hb hby own_prog_58_method_5_46) rfl k) ?_
  show own_Goes _ _ _ _ T1 (mkF m 47 #[.val (.ref a), .val (.int pv)] [(.int pv)])
  refine own_step (fun t k => XS.iconst X1.here hx rfl (hb hby own_prog_58_method_5_47) k) ?_
  show own_Goes _ _ _ _ T1 (mkF m 48 #[.val (.ref a), .val (.int pv)] [(.int (2 : Int32)), (.int pv)])
  refine own_step (fun t k => XS.idiv X1.here hx rfl (hb hby own_prog_58_method_5_48) rfl (by decide) k) ?_
  show own_Goes _ _ _ _ T1 (mkF m 49 #[.val (.ref a), .val (.int pv)] [(.int (pv / (2 : Int32)))])
  refine own_step (fun t k => XS.iconst X1.here hx rfl (hb hby own_prog_58_method_5_49) k) ?_
  show own_Goes _ _ _ _ T1 (mkF m 50 #[.val (.ref a), .val (.int pv)] [(.int (1 : Int32)), (.int (pv / (2 : Int32)))])
  refine own_step (fun t k => XS.iadd X1.here hx rfl (hb hby own_prog_58_method_5_50) rfl k) ?_
  show own_Goes _ _ _ _ T1 (mkF m 51 #[.val (.ref a), .val (.int pv)] [(.int ((pv / (2 : Int32)) + (1 : Int32)))])
  refine own_step (fun t k => XS.goto X1.here hx rfl (pc0 := 51) (pc' := 55) rfl (hb hby own_prog_58_method_5_51) (by decide) (by decide) k) ?_
  show own_Goes _ _ _ _ T1 (mkF m 55 #[.val (.ref a), .val (.int pv)] [(.int ((pv / (2 : Int32)) + (1 : Int32)))])
  exact own_retI X1 hx hlk hrt (hb hby own_prog_58_method_5_55) ⟨rfl, N1, e1⟩ (by decide) (by decide)
theorem own_prog_58_method_5_54 : decode prog_58_method_5_code 54 = .ok (.iload_n 1, 1) := by decide +kernel
set_option maxRecDepth 65536 in
set_option maxHeartbeats 40000000 in
theorem own_req2 (l : Launch) (Z : State) (a0 : Array Value) (hw : ∀ d ∈ tables_1, d.before a0 Z = true) (ws : List Jvm.Cond) (a : Addr) (pv : Int32) (h0 : Heap) (n0 : Nat) (Z0 : n0 ≤ h0.size) (E_a : Exa Z h0 a "com/example/ringshift/ringshift/data/Consistency") (F_a_ordinal : Fld Z h0 a "java/lang/Enum" "ordinal" "I" (.int (2 : Int32))) :
    own_Met l Z (⟨"com/example/ringshift/ringshift/data/Consistency", "required", "(I)I"⟩ : MethodName) prog_58_method_5_code 2 (some .int) ws ({ frames := 1, cells := 0, slots := 0, locals := 12 } : Room) #[(.ref a), (.int pv)] h0 (fun v h L => v = some (.int pv) ∧ Fr n0 L ∧ h = h0) := by
  refine own_body (plainFor_of_name own_pn_com_example_ringshift_ringshift_data_Consistency) (fun p e s m below meth c s₁ hx hby hml0 hrt hlk hown0 hnm hZ X0 e0 => ?_)
  have N0 := Fr.nil n0
  have hown : s.vm.findClass "com/example/ringshift/ringshift/data/Consistency" = some m.cls := hown0
  have hml : c.maxLocals = 2 := hml0
  refine own_castG (own_ef2 m a pv) ?_
  show own_Goes _ _ _ _ s₁ (mkF m 0 #[.val (.ref a), .val (.int pv)] [])
  refine own_step (fun t k => XS.aloadN X0.here hx rfl (hb hby own_prog_58_method_5_0) rfl rfl k) ?_
  show own_Goes _ _ _ _ s₁ (mkF m 1 #[.val (.ref a), .val (.int pv)] [(.ref a)])
  refine own_callU X0 hx hZ (y := (⟨"com/example/ringshift/ringshift/data/Consistency", "ordinal", "()I"⟩ : MethodName)) (z := (⟨"java/lang/Enum", "ordinal", "()I"⟩ : MethodName)) (owner := "java/lang/Enum") hown (hw _ (List.mem_of_getElem? (i := 13) rfl)) (hw _ (List.mem_of_getElem? (i := 14) rfl)) (hw _ (List.mem_of_getElem? (i := 15) rfl)) (hw _ (List.mem_of_getElem? (i := 17) rfl)) (hw _ (List.mem_of_getElem? (i := 16) rfl)) (hw _ (List.mem_of_getElem? (i := 19) rfl)) (hw _ (List.mem_of_getElem? (i := 18) rfl)) (by decide) 0 E_a [] [] (own_ord2 l Z a0 hw [] a h0 n0 Z0 F_a_ordinal) e0 (by decide) (by decide) (by decide) (by decide) (g := (mkF m 1 #[.val (.ref a), .val (.int pv)] [(.ref a)])) rfl (by rw [hml]; rfl) own_pd0 rfl rfl (by show 2 * 0 + _ ≤ _; exact Nat.le_of_eq rfl) (hb hby own_prog_58_method_5_1) ?_
  intro T1 v1 L1 X1 hQ1
  obtain ⟨rfl, N1q, e1⟩ := hQ1
  have N1 := Fr.app N0 N1q
  show own_Goes _ _ _ _ T1 (mkF m 4 #[.val (.ref a), .val (.int pv)] [(.int (2 : Int32))])
  refine own_step (fun t k => XS.tswIn X1.here hx rfl (pc0 := 4) (pc' := 54) rfl (hb hby own_prog_58_method_5_4) rfl (by decide) (o := 50) (by decide) (by decide) (by decide) k) ?_
  show own_Goes _ _ _ _ T1 (mkF m 54 #[.val (.ref a), .val (.int pv)] [])
  refine own_step (fun t k => XS.iloadN X1.here hx rfl (hb hby own_prog_58_method_5_54) rfl k) ?_
  show own_Goes _ _ _ _ T1 (mkF m 55 #[.val (.ref a), .val (.int pv)] [(.int pv)])
  exact own_retI X1 hx hlk hrt (hb hby own_prog_58_method_5_55) ⟨rfl, N1, e1⟩ (by decide) (by decide)
theorem own_pn_com_example_ringshift_ringshift_data_ConsistencyRequiredPinLaw : plainName "com/example/ringshift/ringshift/data/ConsistencyRequiredPinLaw" = true := by first | (simp [plainName, overriddenIn]; done) | decide +kernel
theorem own_ef3 (m : MethodId) (x0 : Int32) : entryFrame m #[(.int x0)] maxLocals = mkF m 0 #[.val (.int x0), .unset, .unset, .unset, .unset, .unset, .unset, .unset, .unset, .unset, .unset, .unset] [] := by first | (simp [entryFrame, mkF, argsToLocals, Value.category, maxLocals]; done) | rfl
theorem own_pd1 : parseMethodDescriptor "(II)I" = some ⟨[.int, .int], some .int⟩ := by decide +kernel
theorem own_pd2 : parseMethodDescriptor "(I)I" = some ⟨[.int], some .int⟩ := by decide +kernel
set_option maxRecDepth 65536 in
set_option maxHeartbeats 40000000 in
theorem own_law (l : Launch) (Z : State) (a0 : Array Value) (hw : ∀ d ∈ tables_1, d.before a0 Z = true) (ws : List Jvm.Cond) (p1 : Int32) (r : Int32) (w_ONE : Addr) (w_QUORUM : Addr) (w_ALL : Addr) (h0 : Heap) (n0 : Nat) (Z0 : n0 ≤ h0.size) (S_ONE : Sta Z h0 "com/example/ringshift/ringshift/data/Consistency" "ONE" "Lcom/example/ringshift/ringshift/data/Consistency;" (.ref w_ONE)) (E_w_ONE : Exa Z h0 w_ONE "com/example/ringshift/ringshift/data/Consistency") (F_w_ONE_ordinal : Fld Z h0 w_ONE "java/lang/Enum" "ordinal" "I" (.int (0 : Int32))) (S_QUORUM : Sta Z h0 "com/example/ringshift/ringshift/data/Consistency" "QUORUM" "Lcom/example/ringshift/ringshift/data/Consistency;" (.ref w_QUORUM)) (E_w_QUORUM : Exa Z h0 w_QUORUM "com/example/ringshift/ringshift/data/Consistency") (F_w_QUORUM_ordinal : Fld Z h0 w_QUORUM "java/lang/Enum" "ordinal" "I" (.int (1 : Int32))) (S_ALL : Sta Z h0 "com/example/ringshift/ringshift/data/Consistency" "ALL" "Lcom/example/ringshift/ringshift/data/Consistency;" (.ref w_ALL)) (E_w_ALL : Exa Z h0 w_ALL "com/example/ringshift/ringshift/data/Consistency") (F_w_ALL_ordinal : Fld Z h0 w_ALL "java/lang/Enum" "ordinal" "I" (.int (2 : Int32))) (hr1 : (1 : Int32) < (p1 &&& (2147483647 : Int32)) → r = (p1 &&& (2147483647 : Int32))) (hr2 : ¬ ((1 : Int32) < (p1 &&& (2147483647 : Int32))) → r = (1 : Int32)) (h51 : (0 : Int32) < (lcmpW ((2 : Int64) * (((r / (2 : Int32)) + (1 : Int32)).toInt64)) (r.toInt64))) (h72 : ¬ ((0 : Int32) < (lcmpW ((2 : Int64) * ((((r / (2 : Int32)) + (1 : Int32)).toInt64) - (1 : Int64))) (r.toInt64)))) (h84 : ¬ (((r / (2 : Int32)) + (1 : Int32)) < (1 : Int32))) (h89 : ¬ (r < ((r / (2 : Int32)) + (1 : Int32)))) :
    own_Met l Z x code maxLocals ret ws room_1 #[(.int p1)] h0 (fun v h L => v = some (.int 1) ∧ Fr n0 L) := by
  refine own_body (plainFor_of_name own_pn_com_example_ringshift_ringshift_data_ConsistencyRequiredPinLaw) (fun p e s m below meth c s₁ hx hby hml0 hrt hlk hown0 hnm hZ X0 e0 => ?_)
  have N0 := Fr.nil n0
  have hown : s.vm.findClass "com/example/ringshift/ringshift/data/ConsistencyRequiredPinLaw" = some m.cls := hown0
  have hml : c.maxLocals = 12 := hml0
  refine own_castG (own_ef3 m p1) ?_
  show own_Goes _ _ _ _ s₁ (mkF m 0 #[.val (.int p1), .unset, .unset, .unset, .unset, .unset, .unset, .unset, .unset, .unset, .unset, .unset] [])
  refine own_step (fun t k => XS.iconst X0.here hx rfl (hb hby at_0) k) ?_
  show own_Goes _ _ _ _ s₁ (mkF m 1 #[.val (.int p1), .unset, .unset, .unset, .unset, .unset, .unset, .unset, .unset, .unset, .unset, .unset] [(.int (1 : Int32))])
  refine own_step (fun t k => XS.iloadN X0.here hx rfl (hb hby at_1) rfl k) ?_
  show own_Goes _ _ _ _ s₁ (mkF m 2 #[.val (.int p1), .unset, .unset, .unset, .unset, .unset, .unset, .unset, .unset, .unset, .unset, .unset] [(.int p1), (.int (1 : Int32))])
  refine own_step (X0.ldcInt hx hown (mvT hZ (hw _ (List.mem_of_getElem? (i := 0) rfl))) (g := (mkF m 2 #[.val (.int p1), .unset, .unset, .unset, .unset, .unset, .unset, .unset, .unset, .unset, .unset, .unset] [(.int p1), (.int (1 : Int32))])) rfl (hb hby at_2)) ?_
  show own_Goes _ _ _ _ s₁ (mkF m 4 #[.val (.int p1), .unset, .unset, .unset, .unset, .unset, .unset, .unset, .unset, .unset, .unset, .unset] [(.int (2147483647 : Int32)), (.int p1), (.int (1 : Int32))])
  refine own_step (fun t k => XS.iand X0.here hx rfl (hb hby at_4) rfl k) ?_
  show own_Goes _ _ _ _ s₁ (mkF m 5 #[.val (.int p1), .unset, .unset, .unset, .unset, .unset, .unset, .unset, .unset, .unset, .unset, .unset] [(.int (p1 &&& (2147483647 : Int32))), (.int (1 : Int32))])
  refine own_callS X0 hx hZ (y := (⟨"java/lang/Math", "max", "(II)I"⟩ : MethodName)) hown (hw _ (List.mem_of_getElem? (i := 1) rfl)) (hw _ (List.mem_of_getElem? (i := 2) rfl)) (hw _ (List.mem_of_getElem? (i := 3) rfl)) (hw _ (List.mem_of_getElem? (i := 4) rfl)) (by decide) 0 [(.int (1 : Int32)), (.int (p1 &&& (2147483647 : Int32)))] [] (own_max l Z a0 hw [] (1 : Int32) (p1 &&& (2147483647 : Int32)) r h0 n0 Z0 hr1 hr2) e0 (by decide) (by decide) (by decide) (by decide) (g := (mkF m 5 #[.val (.int p1), .unset, .unset, .unset, .unset, .unset, .unset, .unset, .unset, .unset, .unset, .unset] [(.int (p1 &&& (2147483647 : Int32))), (.int (1 : Int32))])) rfl (by rw [hml]; rfl) own_pd1 rfl rfl (by show 2 * 0 + _ ≤ _; exact Nat.le_of_eq rfl) (hb hby at_5) ?_
  intro T1 v1 L1 X1 hQ1
  obtain ⟨rfl, N1q, e1⟩ := hQ1
  have N1 := Fr.app N0 N1q
  show own_Goes _ _ _ _ T1 (mkF m 8 #[.val (.int p1), .unset, .unset, .unset, .unset, .unset, .unset, .unset, .unset, .unset, .unset, .unset] [(.int r)])
  refine own_step (fun t k => XS.istoreN X1.here hx rfl (hb hby at_8) rfl (l' := #[.val (.int p1), .val (.int r), .unset, .unset, .unset, .unset, .unset, .unset, .unset, .unset, .unset, .unset]) rfl k) ?_
  show own_Goes _ _ _ _ T1 (mkF m 9 #[.val (.int p1), .val (.int r), .unset, .unset, .unset, .unset, .unset, .unset, .unset, .unset, .unset, .unset] [])
  obtain ⟨T2, X2, e2, st2⟩ := getS2 X1 hx hZ hown (host := "") (Or.inl (hw _ (List.mem_of_getElem? (i := 5) rfl))) Via.refl e1 S_ONE (g := (mkF m 9 #[.val (.int p1), .val (.int r), .unset, .unset, .unset, .unset, .unset, .unset, .unset, .unset, .unset, .unset] [])) rfl (hb hby at_9)
  refine own_step st2 ?_
  show own_Goes _ _ _ _ T2 (mkF m 12 #[.val (.int p1), .val (.int r), .unset, .unset, .unset, .unset, .unset, .unset, .unset, .unset, .unset, .unset] [(.ref w_ONE)])
  refine own_step (fun t k => XS.iloadN X2.here hx rfl (hb hby at_12) rfl k) ?_
  show own_Goes _ _ _ _ T2 (mkF m 13 #[.val (.int p1), .val (.int r), .unset, .unset, .unset, .unset, .unset, .unset, .unset, .unset, .unset, .unset] [(.int r), (.ref w_ONE)])
  refine own_callV X2 hx hZ (y := (⟨"com/example/ringshift/ringshift/data/Consistency", "required", "(I)I"⟩ : MethodName)) (z := (⟨"com/example/ringshift/ringshift/data/Consistency", "required", "(I)I"⟩ : MethodName)) hown (hw _ (List.mem_of_getElem? (i := 8) rfl)) (hw _ (List.mem_of_getElem? (i := 9) rfl)) (notFace_of_selects (args := #[]) (mvT hZ (hw _ (List.mem_of_getElem? (i := 11) rfl)))) (hw _ (List.mem_of_getElem? (i := 11) rfl)) (hw _ (List.mem_of_getElem? (i := 10) rfl)) (hw _ (List.mem_of_getElem? (i := 12) rfl)) (hw _ (List.mem_of_getElem? (i := 6) rfl)) (by decide) 0 E_w_ONE [(.int r)] [] (own_req0 l Z a0 hw [] w_ONE r h0 n0 Z0 E_w_ONE F_w_ONE_ordinal) e2 (by decide) (by decide) (by decide) (by decide) (g := (mkF m 13 #[.val (.int p1), .val (.int r), .unset, .unset, .unset, .unset, .unset, .unset, .unset, .unset, .unset, .unset] [(.int r), (.ref w_ONE)])) rfl (by rw [hml]; rfl) own_pd2 rfl rfl (by show 2 * 0 + _ ≤ _; exact Nat.le_of_eq rfl) (hb hby at_13) ?_
  intro T3 v3 L3 X3 hQ3
  obtain ⟨rfl, N3q, e3⟩ := hQ3
  have N3 := Fr.app N1 N3q
  show own_Goes _ _ _ _ T3 (mkF m 16 #[.val (.int p1), .val (.int r), .unset, .unset, .unset, .unset, .unset, .unset, .unset, .unset, .unset, .unset] [(.int (1 : Int32))])
  refine own_step (fun t k => XS.istoreN X3.here hx rfl (hb hby at_16) rfl (l' := #[.val (.int p1), .val (.int r), .val (.int (1 : Int32)), .unset, .unset, .unset, .unset, .unset, .unset, .unset, .unset, .unset]) rfl k) ?_
  show own_Goes _ _ _ _ T3 (mkF m 17 #[.val (.int p1), .val (.int r), .val (.int (1 : Int32)), .unset, .unset, .unset, .unset, .unset, .unset, .unset, .unset, .unset] [])
  obtain ⟨T4, X4, e4, st4⟩ := getS2 X3 hx hZ hown (host := "") (Or.inl (hw _ (List.mem_of_getElem? (i := 22) rfl))) Via.refl e3 S_QUORUM (g := (mkF m 17 #[.val (.int p1), .val (.int r), .val (.int (1 : Int32)), .unset, .unset, .unset, .unset, .unset, .unset, .unset, .unset, .unset] [])) rfl (hb hby at_17)
  refine own_step st4 ?_
  show own_Goes _ _ _ _ T4 (mkF m 20 #[.val (.int p1), .val (.int r), .val (.int (1 : Int32)), .unset, .unset, .unset, .unset, .unset, .unset, .unset, .unset, .unset] [(.ref w_QUORUM)])
  refine own_step (fun t k => XS.iloadN X4.here hx rfl (hb hby at_20) rfl k) ?_
  show own_Goes _ _ _ _ T4 (mkF m 21 #[.val (.int p1), .val (.int r), .val (.int (1 : Int32)), .unset, .unset, .unset, .unset, .unset, .unset, .unset, .unset, .unset] [(.int r), (.ref w_QUORUM)])
  refine own_callV X4 hx hZ (y := (⟨"com/example/ringshift/ringshift/data/Consistency", "required", "(I)I"⟩ : MethodName)) (z := (⟨"com/example/ringshift/ringshift/data/Consistency", "required", "(I)I"⟩ : MethodName)) hown (hw _ (List.mem_of_getElem? (i := 8) rfl)) (hw _ (List.mem_of_getElem? (i := 9) rfl)) (notFace_of_selects (args := #[]) (mvT hZ (hw _ (List.mem_of_getElem? (i := 11) rfl)))) (hw _ (List.mem_of_getElem? (i := 11) rfl)) (hw _ (List.mem_of_getElem? (i := 10) rfl)) (hw _ (List.mem_of_getElem? (i := 12) rfl)) (hw _ (List.mem_of_getElem? (i := 6) rfl)) (by decide) 0 E_w_QUORUM [(.int r)] [] (own_req1 l Z a0 hw [] w_QUORUM r h0 n0 Z0 E_w_QUORUM F_w_QUORUM_ordinal) e4 (by decide) (by decide) (by decide) (by decide) (g := (mkF m 21 #[.val (.int p1), .val (.int r), .val (.int (1 : Int32)), .unset, .unset, .unset, .unset, .unset, .unset, .unset, .unset, .unset] [(.int r), (.ref w_QUORUM)])) rfl (by rw [hml]; rfl) own_pd2 rfl rfl (by show 2 * 0 + _ ≤ _; exact Nat.le_of_eq rfl) (hb hby at_21) ?_
  intro T5 v5 L5 X5 hQ5
  obtain ⟨rfl, N5q, e5⟩ := hQ5
  have N5 := Fr.app N3 N5q
  show own_Goes _ _ _ _ T5 (mkF m 24 #[.val (.int p1), .val (.int r), .val (.int (1 : Int32)), .unset, .unset, .unset, .unset, .unset, .unset, .unset, .unset, .unset] [(.int ((r / (2 : Int32)) + (1 : Int32)))])
  refine own_step (fun t k => XS.istoreN X5.here hx rfl (hb hby at_24) rfl (l' := #[.val (.int p1), .val (.int r), .val (.int (1 : Int32)), .val (.int ((r / (2 : Int32)) + (1 : Int32))), .unset, .unset, .unset, .unset, .unset, .unset, .unset, .unset]) rfl k) ?_
  show own_Goes _ _ _ _ T5 (mkF m 25 #[.val (.int p1), .val (.int r), .val (.int (1 : Int32)), .val (.int ((r / (2 : Int32)) + (1 : Int32))), .unset, .unset, .unset, .unset, .unset, .unset, .unset, .unset] [])
  obtain ⟨T6, X6, e6, st6⟩ := getS2 X5 hx hZ hown (host := "") (Or.inl (hw _ (List.mem_of_getElem? (i := 24) rfl))) Via.refl e5 S_ALL (g := (mkF m 25 #[.val (.int p1), .val (.int r), .val (.int (1 : Int32)), .val (.int ((r / (2 : Int32)) + (1 : Int32))), .unset, .unset, .unset, .unset, .unset, .unset, .unset, .unset] [])) rfl (hb hby at_25)
  refine own_step st6 ?_
  show own_Goes _ _ _ _ T6 (mkF m 28 #[.val (.int p1), .val (.int r), .val (.int (1 : Int32)), .val (.int ((r / (2 : Int32)) + (1 : Int32))), .unset, .unset, .unset, .unset, .unset, .unset, .unset, .unset] [(.ref w_ALL)])
  refine own_step (fun t k => XS.iloadN X6.here hx rfl (hb hby at_28) rfl k) ?_
  show own_Goes _ _ _ _ T6 (mkF m 29 #[.val (.int p1), .val (.int r), .val (.int (1 : Int32)), .val (.int ((r / (2 : Int32)) + (1 : Int32))), .unset, .unset, .unset, .unset, .unset, .unset, .unset, .unset] [(.int r), (.ref w_ALL)])
  refine own_callV X6 hx hZ (y := (⟨"com/example/ringshift/ringshift/data/Consistency", "required", "(I)I"⟩ : MethodName)) (z := (⟨"com/example/ringshift/ringshift/data/Consistency", "required", "(I)I"⟩ : MethodName)) hown (hw _ (List.mem_of_getElem? (i := 8) rfl)) (hw _ (List.mem_of_getElem? (i := 9) rfl)) (notFace_of_selects (args := #[]) (mvT hZ (hw _ (List.mem_of_getElem? (i := 11) rfl)))) (hw _ (List.mem_of_getElem? (i := 11) rfl)) (hw _ (List.mem_of_getElem? (i := 10) rfl)) (hw _ (List.mem_of_getElem? (i := 12) rfl)) (hw _ (List.mem_of_getElem? (i := 6) rfl)) (by decide) 0 E_w_ALL [(.int r)] [] (own_req2 l Z a0 hw [] w_ALL r h0 n0 Z0 E_w_ALL F_w_ALL_ordinal) e6 (by decide) (by decide) (by decide) (by decide) (g := (mkF m 29 #[.val (.int p1), .val (.int r), .val (.int (1 : Int32)), .val (.int ((r / (2 : Int32)) + (1 : Int32))), .unset, .unset, .unset, .unset, .unset, .unset, .unset, .unset] [(.int r), (.ref w_ALL)])) rfl (by rw [hml]; rfl) own_pd2 rfl rfl (by show 2 * 0 + _ ≤ _; exact Nat.le_of_eq rfl) (hb hby at_29) ?_
  intro T7 v7 L7 X7 hQ7
  obtain ⟨rfl, N7q, e7⟩ := hQ7
  have N7 := Fr.app N5 N7q
  show own_Goes _ _ _ _ T7 (mkF m 32 #[.val (.int p1), .val (.int r), .val (.int (1 : Int32)), .val (.int ((r / (2 : Int32)) + (1 : Int32))), .unset, .unset, .unset, .unset, .unset, .unset, .unset, .unset] [(.int r)])
  refine own_step (fun t k => XS.istore X7.here hx rfl (hb hby at_32) rfl (l' := #[.val (.int p1), .val (.int r), .val (.int (1 : Int32)), .val (.int ((r / (2 : Int32)) + (1 : Int32))), .val (.int r), .unset, .unset, .unset, .unset, .unset, .unset, .unset]) rfl k) ?_
  show own_Goes _ _ _ _ T7 (mkF m 34 #[.val (.int p1), .val (.int r), .val (.int (1 : Int32)), .val (.int ((r / (2 : Int32)) + (1 : Int32))), .val (.int r), .unset, .unset, .unset, .unset, .unset, .unset, .unset] [])
  refine own_step (fun t k => XS.iloadN X7.here hx rfl (hb hby at_34) rfl k) ?_
  show own_Goes _ _ _ _ T7 (mkF m 35 #[.val (.int p1), .val (.int r), .val (.int (1 : Int32)), .val (.int ((r / (2 : Int32)) + (1 : Int32))), .val (.int r), .unset, .unset, .unset, .unset, .unset, .unset, .unset] [(.int ((r / (2 : Int32)) + (1 : Int32)))])
  refine own_step (fun t k => XS.i2l X7.here hx rfl (hb hby at_35) rfl k) ?_
  show own_Goes _ _ _ _ T7 (mkF m 36 #[.val (.int p1), .val (.int r), .val (.int (1 : Int32)), .val (.int ((r / (2 : Int32)) + (1 : Int32))), .val (.int r), .unset, .unset, .unset, .unset, .unset, .unset, .unset] [(.long (((r / (2 : Int32)) + (1 : Int32)).toInt64))])
  refine own_step (fun t k => XS.lstore X7.here hx rfl (hb hby at_36) rfl (l' := #[.val (.int p1), .val (.int r), .val (.int (1 : Int32)), .val (.int ((r / (2 : Int32)) + (1 : Int32))), .val (.int r), .val (.long (((r / (2 : Int32)) + (1 : Int32)).toInt64)), .second, .unset, .unset, .unset, .unset, .unset]) rfl k) ?_
  show own_Goes _ _ _ _ T7 (mkF m 38 #[.val (.int p1), .val (.int r), .val (.int (1 : Int32)), .val (.int ((r / (2 : Int32)) + (1 : Int32))), .val (.int r), .val (.long (((r / (2 : Int32)) + (1 : Int32)).toInt64)), .second, .unset, .unset, .unset, .unset, .unset] [])
  refine own_step (fun t k => XS.iloadN X7.here hx rfl (hb hby at_38) rfl k) ?_
  show own_Goes _ _ _ _ T7 (mkF m 39 #[.val (.int p1), .val (.int r), .val (.int (1 : Int32)), .val (.int ((r / (2 : Int32)) + (1 : Int32))), .val (.int r), .val (.long (((r / (2 : Int32)) + (1 : Int32)).toInt64)), .second, .unset, .unset, .unset, .unset, .unset] [(.int r)])
  refine own_step (fun t k => XS.i2l X7.here hx rfl (hb hby at_39) rfl k) ?_
  show own_Goes _ _ _ _ T7 (mkF m 40 #[.val (.int p1), .val (.int r), .val (.int (1 : Int32)), .val (.int ((r / (2 : Int32)) + (1 : Int32))), .val (.int r), .val (.long (((r / (2 : Int32)) + (1 : Int32)).toInt64)), .second, .unset, .unset, .unset, .unset, .unset] [(.long (r.toInt64))])
  refine own_step (fun t k => XS.lstore X7.here hx rfl (hb hby at_40) rfl (l' := #[.val (.int p1), .val (.int r), .val (.int (1 : Int32)), .val (.int ((r / (2 : Int32)) + (1 : Int32))), .val (.int r), .val (.long (((r / (2 : Int32)) + (1 : Int32)).toInt64)), .second, .val (.long (r.toInt64)), .second, .unset, .unset, .unset]) rfl k) ?_
  show own_Goes _ _ _ _ T7 (mkF m 42 #[.val (.int p1), .val (.int r), .val (.int (1 : Int32)), .val (.int ((r / (2 : Int32)) + (1 : Int32))), .val (.int r), .val (.long (((r / (2 : Int32)) + (1 : Int32)).toInt64)), .second, .val (.long (r.toInt64)), .second, .unset, .unset, .unset] [])
  refine own_step (X7.ldc2Long hx hown (mvT hZ (hw _ (List.mem_of_getElem? (i := 26) rfl))) (g := (mkF m 42 #[.val (.int p1), .val (.int r), .val (.int (1 : Int32)), .val (.int ((r / (2 : Int32)) + (1 : Int32))), .val (.int r), .val (.long (((r / (2 : Int32)) + (1 : Int32)).toInt64)), .second, .val (.long (r.toInt64)), .second, .unset, .unset, .unset] [])) rfl (hb hby at_42)) ?_
  show own_Goes _ _ _ _ T7 (mkF m 45 #[.val (.int p1), .val (.int r), .val (.int (1 : Int32)), .val (.int ((r / (2 : Int32)) + (1 : Int32))), .val (.int r), .val (.long (((r / (2 : Int32)) + (1 : Int32)).toInt64)), .second, .val (.long (r.toInt64)), .second, .unset, .unset, .unset] [(.long (2 : Int64))])
  refine own_step (fun t k => XS.lload X7.here hx rfl (hb hby at_45) rfl k) ?_
  show own_Goes _ _ _ _ T7 (mkF m 47 #[.val (.int p1), .val (.int r), .val (.int (1 : Int32)), .val (.int ((r / (2 : Int32)) + (1 : Int32))), .val (.int r), .val (.long (((r / (2 : Int32)) + (1 : Int32)).toInt64)), .second, .val (.long (r.toInt64)), .second, .unset, .unset, .unset] [(.long (((r / (2 : Int32)) + (1 : Int32)).toInt64)), (.long (2 : Int64))])
  refine own_step (fun t k => XS.lmul X7.here hx rfl (hb hby at_47) rfl k) ?_
  show own_Goes _ _ _ _ T7 (mkF m 48 #[.val (.int p1), .val (.int r), .val (.int (1 : Int32)), .val (.int ((r / (2 : Int32)) + (1 : Int32))), .val (.int r), .val (.long (((r / (2 : Int32)) + (1 : Int32)).toInt64)), .second, .val (.long (r.toInt64)), .second, .unset, .unset, .unset] [(.long ((2 : Int64) * (((r / (2 : Int32)) + (1 : Int32)).toInt64)))])
  refine own_step (fun t k => XS.lload X7.here hx rfl (hb hby at_48) rfl k) ?_
  show own_Goes _ _ _ _ T7 (mkF m 50 #[.val (.int p1), .val (.int r), .val (.int (1 : Int32)), .val (.int ((r / (2 : Int32)) + (1 : Int32))), .val (.int r), .val (.long (((r / (2 : Int32)) + (1 : Int32)).toInt64)), .second, .val (.long (r.toInt64)), .second, .unset, .unset, .unset] [(.long (r.toInt64)), (.long ((2 : Int64) * (((r / (2 : Int32)) + (1 : Int32)).toInt64)))])
  refine own_step (fun t k => XS.lcmp X7.here hx rfl (hb hby at_50) rfl k) ?_
  show own_Goes _ _ _ _ T7 (mkF m 51 #[.val (.int p1), .val (.int r), .val (.int (1 : Int32)), .val (.int ((r / (2 : Int32)) + (1 : Int32))), .val (.int r), .val (.long (((r / (2 : Int32)) + (1 : Int32)).toInt64)), .second, .val (.long (r.toInt64)), .second, .unset, .unset, .unset] [(.int (lcmpW ((2 : Int64) * (((r / (2 : Int32)) + (1 : Int32)).toInt64)) (r.toInt64)))])
  refine own_step (fun t k => XS.ifNo X7.here hx rfl (hb hby at_51) rfl ((if0 _ _).trans (tlt (show (0 : Int32) < (lcmpW ((2 : Int64) * (((r / (2 : Int32)) + (1 : Int32)).toInt64)) (r.toInt64)) from h51)).2.2.2) k) ?_
  show own_Goes _ _ _ _ T7 (mkF m 54 #[.val (.int p1), .val (.int r), .val (.int (1 : Int32)), .val (.int ((r / (2 : Int32)) + (1 : Int32))), .val (.int r), .val (.long (((r / (2 : Int32)) + (1 : Int32)).toInt64)), .second, .val (.long (r.toInt64)), .second, .unset, .unset, .unset] [])
  refine own_step (fun t k => XS.iconst X7.here hx rfl (hb hby at_54) k) ?_
  show own_Goes _ _ _ _ T7 (mkF m 55 #[.val (.int p1), .val (.int r), .val (.int (1 : Int32)), .val (.int ((r / (2 : Int32)) + (1 : Int32))), .val (.int r), .val (.long (((r / (2 : Int32)) + (1 : Int32)).toInt64)), .second, .val (.long (r.toInt64)), .second, .unset, .unset, .unset] [(.int (1 : Int32))])
  refine own_step (fun t k => XS.goto X7.here hx rfl (pc0 := 55) (pc' := 59) rfl (hb hby at_55) (by decide) (by decide) k) ?_
  show own_Goes _ _ _ _ T7 (mkF m 59 #[.val (.int p1), .val (.int r), .val (.int (1 : Int32)), .val (.int ((r / (2 : Int32)) + (1 : Int32))), .val (.int r), .val (.long (((r / (2 : Int32)) + (1 : Int32)).toInt64)), .second, .val (.long (r.toInt64)), .second, .unset, .unset, .unset] [(.int (1 : Int32))])
  refine own_step (fun t k => XS.istore X7.here hx rfl (hb hby at_59) rfl (l' := #[.val (.int p1), .val (.int r), .val (.int (1 : Int32)), .val (.int ((r / (2 : Int32)) + (1 : Int32))), .val (.int r), .val (.long (((r / (2 : Int32)) + (1 : Int32)).toInt64)), .second, .val (.long (r.toInt64)), .second, .val (.int (1 : Int32)), .unset, .unset]) rfl k) ?_
  show own_Goes _ _ _ _ T7 (mkF m 61 #[.val (.int p1), .val (.int r), .val (.int (1 : Int32)), .val (.int ((r / (2 : Int32)) + (1 : Int32))), .val (.int r), .val (.long (((r / (2 : Int32)) + (1 : Int32)).toInt64)), .second, .val (.long (r.toInt64)), .second, .val (.int (1 : Int32)), .unset, .unset] [])
  refine own_step (X7.ldc2Long hx hown (mvT hZ (hw _ (List.mem_of_getElem? (i := 26) rfl))) (g := (mkF m 61 #[.val (.int p1), .val (.int r), .val (.int (1 : Int32)), .val (.int ((r / (2 : Int32)) + (1 : Int32))), .val (.int r), .val (.long (((r / (2 : Int32)) + (1 : Int32)).toInt64)), .second, .val (.long (r.toInt64)), .second, .val (.int (1 : Int32)), .unset, .unset] [])) rfl (hb hby at_61)) ?_
  show own_Goes _ _ _ _ T7 (mkF m 64 #[.val (.int p1), .val (.int r), .val (.int (1 : Int32)), .val (.int ((r / (2 : Int32)) + (1 : Int32))), .val (.int r), .val (.long (((r / (2 : Int32)) + (1 : Int32)).toInt64)), .second, .val (.long (r.toInt64)), .second, .val (.int (1 : Int32)), .unset, .unset] [(.long (2 : Int64))])
  refine own_step (fun t k => XS.lload X7.here hx rfl (hb hby at_64) rfl k) ?_
  show own_Goes _ _ _ _ T7 (mkF m 66 #[.val (.int p1), .val (.int r), .val (.int (1 : Int32)), .val (.int ((r / (2 : Int32)) + (1 : Int32))), .val (.int r), .val (.long (((r / (2 : Int32)) + (1 : Int32)).toInt64)), .second, .val (.long (r.toInt64)), .second, .val (.int (1 : Int32)), .unset, .unset] [(.long (((r / (2 : Int32)) + (1 : Int32)).toInt64)), (.long (2 : Int64))])
  refine own_step (fun t k => XS.lconst X7.here hx rfl (hb hby at_66) k) ?_
  show own_Goes _ _ _ _ T7 (mkF m 67 #[.val (.int p1), .val (.int r), .val (.int (1 : Int32)), .val (.int ((r / (2 : Int32)) + (1 : Int32))), .val (.int r), .val (.long (((r / (2 : Int32)) + (1 : Int32)).toInt64)), .second, .val (.long (r.toInt64)), .second, .val (.int (1 : Int32)), .unset, .unset] [(.long (1 : Int64)), (.long (((r / (2 : Int32)) + (1 : Int32)).toInt64)), (.long (2 : Int64))])
  refine own_step (fun t k => XS.lsub X7.here hx rfl (hb hby at_67) rfl k) ?_
  show own_Goes _ _ _ _ T7 (mkF m 68 #[.val (.int p1), .val (.int r), .val (.int (1 : Int32)), .val (.int ((r / (2 : Int32)) + (1 : Int32))), .val (.int r), .val (.long (((r / (2 : Int32)) + (1 : Int32)).toInt64)), .second, .val (.long (r.toInt64)), .second, .val (.int (1 : Int32)), .unset, .unset] [(.long ((((r / (2 : Int32)) + (1 : Int32)).toInt64) - (1 : Int64))), (.long (2 : Int64))])
  refine own_step (fun t k => XS.lmul X7.here hx rfl (hb hby at_68) rfl k) ?_
  show own_Goes _ _ _ _ T7 (mkF m 69 #[.val (.int p1), .val (.int r), .val (.int (1 : Int32)), .val (.int ((r / (2 : Int32)) + (1 : Int32))), .val (.int r), .val (.long (((r / (2 : Int32)) + (1 : Int32)).toInt64)), .second, .val (.long (r.toInt64)), .second, .val (.int (1 : Int32)), .unset, .unset] [(.long ((2 : Int64) * ((((r / (2 : Int32)) + (1 : Int32)).toInt64) - (1 : Int64))))])
  refine own_step (fun t k => XS.lload X7.here hx rfl (hb hby at_69) rfl k) ?_
  show own_Goes _ _ _ _ T7 (mkF m 71 #[.val (.int p1), .val (.int r), .val (.int (1 : Int32)), .val (.int ((r / (2 : Int32)) + (1 : Int32))), .val (.int r), .val (.long (((r / (2 : Int32)) + (1 : Int32)).toInt64)), .second, .val (.long (r.toInt64)), .second, .val (.int (1 : Int32)), .unset, .unset] [(.long (r.toInt64)), (.long ((2 : Int64) * ((((r / (2 : Int32)) + (1 : Int32)).toInt64) - (1 : Int64))))])
  refine own_step (fun t k => XS.lcmp X7.here hx rfl (hb hby at_71) rfl k) ?_
  show own_Goes _ _ _ _ T7 (mkF m 72 #[.val (.int p1), .val (.int r), .val (.int (1 : Int32)), .val (.int ((r / (2 : Int32)) + (1 : Int32))), .val (.int r), .val (.long (((r / (2 : Int32)) + (1 : Int32)).toInt64)), .second, .val (.long (r.toInt64)), .second, .val (.int (1 : Int32)), .unset, .unset] [(.int (lcmpW ((2 : Int64) * ((((r / (2 : Int32)) + (1 : Int32)).toInt64) - (1 : Int64))) (r.toInt64)))])
  refine own_step (fun t k => XS.ifNo X7.here hx rfl (hb hby at_72) rfl ((if0 _ _).trans (flt (show ¬ ((0 : Int32) < (lcmpW ((2 : Int64) * ((((r / (2 : Int32)) + (1 : Int32)).toInt64) - (1 : Int64))) (r.toInt64))) from h72)).2.2.1) k) ?_
  show own_Goes _ _ _ _ T7 (mkF m 75 #[.val (.int p1), .val (.int r), .val (.int (1 : Int32)), .val (.int ((r / (2 : Int32)) + (1 : Int32))), .val (.int r), .val (.long (((r / (2 : Int32)) + (1 : Int32)).toInt64)), .second, .val (.long (r.toInt64)), .second, .val (.int (1 : Int32)), .unset, .unset] [])
  refine own_step (fun t k => XS.iconst X7.here hx rfl (hb hby at_75) k) ?_
  show own_Goes _ _ _ _ T7 (mkF m 76 #[.val (.int p1), .val (.int r), .val (.int (1 : Int32)), .val (.int ((r / (2 : Int32)) + (1 : Int32))), .val (.int r), .val (.long (((r / (2 : Int32)) + (1 : Int32)).toInt64)), .second, .val (.long (r.toInt64)), .second, .val (.int (1 : Int32)), .unset, .unset] [(.int (1 : Int32))])
  refine own_step (fun t k => XS.goto X7.here hx rfl (pc0 := 76) (pc' := 80) rfl (hb hby at_76) (by decide) (by decide) k) ?_
  show own_Goes _ _ _ _ T7 (mkF m 80 #[.val (.int p1), .val (.int r), .val (.int (1 : Int32)), .val (.int ((r / (2 : Int32)) + (1 : Int32))), .val (.int r), .val (.long (((r / (2 : Int32)) + (1 : Int32)).toInt64)), .second, .val (.long (r.toInt64)), .second, .val (.int (1 : Int32)), .unset, .unset] [(.int (1 : Int32))])
  refine own_step (fun t k => XS.istore X7.here hx rfl (hb hby at_80) rfl (l' := #[.val (.int p1), .val (.int r), .val (.int (1 : Int32)), .val (.int ((r / (2 : Int32)) + (1 : Int32))), .val (.int r), .val (.long (((r / (2 : Int32)) + (1 : Int32)).toInt64)), .second, .val (.long (r.toInt64)), .second, .val (.int (1 : Int32)), .val (.int (1 : Int32)), .unset]) rfl k) ?_
  show own_Goes _ _ _ _ T7 (mkF m 82 #[.val (.int p1), .val (.int r), .val (.int (1 : Int32)), .val (.int ((r / (2 : Int32)) + (1 : Int32))), .val (.int r), .val (.long (((r / (2 : Int32)) + (1 : Int32)).toInt64)), .second, .val (.long (r.toInt64)), .second, .val (.int (1 : Int32)), .val (.int (1 : Int32)), .unset] [])
  refine own_step (fun t k => XS.iconst X7.here hx rfl (hb hby at_82) k) ?_
  show own_Goes _ _ _ _ T7 (mkF m 83 #[.val (.int p1), .val (.int r), .val (.int (1 : Int32)), .val (.int ((r / (2 : Int32)) + (1 : Int32))), .val (.int r), .val (.long (((r / (2 : Int32)) + (1 : Int32)).toInt64)), .second, .val (.long (r.toInt64)), .second, .val (.int (1 : Int32)), .val (.int (1 : Int32)), .unset] [(.int (1 : Int32))])
  refine own_step (fun t k => XS.iloadN X7.here hx rfl (hb hby at_83) rfl k) ?_
  show own_Goes _ _ _ _ T7 (mkF m 84 #[.val (.int p1), .val (.int r), .val (.int (1 : Int32)), .val (.int ((r / (2 : Int32)) + (1 : Int32))), .val (.int r), .val (.long (((r / (2 : Int32)) + (1 : Int32)).toInt64)), .second, .val (.long (r.toInt64)), .second, .val (.int (1 : Int32)), .val (.int (1 : Int32)), .unset] [(.int ((r / (2 : Int32)) + (1 : Int32))), (.int (1 : Int32))])
  refine own_step (fun t k => XS.icmpNo X7.here hx rfl (hb hby at_84) rfl (flt (show ¬ (((r / (2 : Int32)) + (1 : Int32)) < (1 : Int32)) from h84)).2.2.1 k) ?_
  show own_Goes _ _ _ _ T7 (mkF m 87 #[.val (.int p1), .val (.int r), .val (.int (1 : Int32)), .val (.int ((r / (2 : Int32)) + (1 : Int32))), .val (.int r), .val (.long (((r / (2 : Int32)) + (1 : Int32)).toInt64)), .second, .val (.long (r.toInt64)), .second, .val (.int (1 : Int32)), .val (.int (1 : Int32)), .unset] [])
  refine own_step (fun t k => XS.iloadN X7.here hx rfl (hb hby at_87) rfl k) ?_
  show own_Goes _ _ _ _ T7 (mkF m 88 #[.val (.int p1), .val (.int r), .val (.int (1 : Int32)), .val (.int ((r / (2 : Int32)) + (1 : Int32))), .val (.int r), .val (.long (((r / (2 : Int32)) + (1 : Int32)).toInt64)), .second, .val (.long (r.toInt64)), .second, .val (.int (1 : Int32)), .val (.int (1 : Int32)), .unset] [(.int ((r / (2 : Int32)) + (1 : Int32)))])
  refine own_step (fun t k => XS.iloadN X7.here hx rfl (hb hby at_88) rfl k) ?_
  show own_Goes _ _ _ _ T7 (mkF m 89 #[.val (.int p1), .val (.int r), .val (.int (1 : Int32)), .val (.int ((r / (2 : Int32)) + (1 : Int32))), .val (.int r), .val (.long (((r / (2 : Int32)) + (1 : Int32)).toInt64)), .second, .val (.long (r.toInt64)), .second, .val (.int (1 : Int32)), .val (.int (1 : Int32)), .unset] [(.int r), (.int ((r / (2 : Int32)) + (1 : Int32)))])
  refine own_step (fun t k => XS.icmpNo X7.here hx rfl (hb hby at_89) rfl (flt (show ¬ (r < ((r / (2 : Int32)) + (1 : Int32))) from h89)).2.2.1 k) ?_
  show own_Goes _ _ _ _ T7 (mkF m 92 #[.val (.int p1), .val (.int r), .val (.int (1 : Int32)), .val (.int ((r / (2 : Int32)) + (1 : Int32))), .val (.int r), .val (.long (((r / (2 : Int32)) + (1 : Int32)).toInt64)), .second, .val (.long (r.toInt64)), .second, .val (.int (1 : Int32)), .val (.int (1 : Int32)), .unset] [])
  refine own_step (fun t k => XS.iconst X7.here hx rfl (hb hby at_92) k) ?_
  show own_Goes _ _ _ _ T7 (mkF m 93 #[.val (.int p1), .val (.int r), .val (.int (1 : Int32)), .val (.int ((r / (2 : Int32)) + (1 : Int32))), .val (.int r), .val (.long (((r / (2 : Int32)) + (1 : Int32)).toInt64)), .second, .val (.long (r.toInt64)), .second, .val (.int (1 : Int32)), .val (.int (1 : Int32)), .unset] [(.int (1 : Int32))])
  refine own_step (fun t k => XS.goto X7.here hx rfl (pc0 := 93) (pc' := 97) rfl (hb hby at_93) (by decide) (by decide) k) ?_
  show own_Goes _ _ _ _ T7 (mkF m 97 #[.val (.int p1), .val (.int r), .val (.int (1 : Int32)), .val (.int ((r / (2 : Int32)) + (1 : Int32))), .val (.int r), .val (.long (((r / (2 : Int32)) + (1 : Int32)).toInt64)), .second, .val (.long (r.toInt64)), .second, .val (.int (1 : Int32)), .val (.int (1 : Int32)), .unset] [(.int (1 : Int32))])
  refine own_step (fun t k => XS.istore X7.here hx rfl (hb hby at_97) rfl (l' := #[.val (.int p1), .val (.int r), .val (.int (1 : Int32)), .val (.int ((r / (2 : Int32)) + (1 : Int32))), .val (.int r), .val (.long (((r / (2 : Int32)) + (1 : Int32)).toInt64)), .second, .val (.long (r.toInt64)), .second, .val (.int (1 : Int32)), .val (.int (1 : Int32)), .val (.int (1 : Int32))]) rfl k) ?_
  show own_Goes _ _ _ _ T7 (mkF m 99 #[.val (.int p1), .val (.int r), .val (.int (1 : Int32)), .val (.int ((r / (2 : Int32)) + (1 : Int32))), .val (.int r), .val (.long (((r / (2 : Int32)) + (1 : Int32)).toInt64)), .second, .val (.long (r.toInt64)), .second, .val (.int (1 : Int32)), .val (.int (1 : Int32)), .val (.int (1 : Int32))] [])
  refine own_step (fun t k => XS.iloadN X7.here hx rfl (hb hby at_99) rfl k) ?_
  show own_Goes _ _ _ _ T7 (mkF m 100 #[.val (.int p1), .val (.int r), .val (.int (1 : Int32)), .val (.int ((r / (2 : Int32)) + (1 : Int32))), .val (.int r), .val (.long (((r / (2 : Int32)) + (1 : Int32)).toInt64)), .second, .val (.long (r.toInt64)), .second, .val (.int (1 : Int32)), .val (.int (1 : Int32)), .val (.int (1 : Int32))] [(.int (1 : Int32))])
  refine own_step (fun t k => XS.iconst X7.here hx rfl (hb hby at_100) k) ?_
  show own_Goes _ _ _ _ T7 (mkF m 101 #[.val (.int p1), .val (.int r), .val (.int (1 : Int32)), .val (.int ((r / (2 : Int32)) + (1 : Int32))), .val (.int r), .val (.long (((r / (2 : Int32)) + (1 : Int32)).toInt64)), .second, .val (.long (r.toInt64)), .second, .val (.int (1 : Int32)), .val (.int (1 : Int32)), .val (.int (1 : Int32))] [(.int (1 : Int32)), (.int (1 : Int32))])
  refine own_step (fun t k => XS.icmpNo X7.here hx rfl (hb hby at_101) rfl (teq (show (1 : Int32) = (1 : Int32) from (by decide))).2 k) ?_
  show own_Goes _ _ _ _ T7 (mkF m 104 #[.val (.int p1), .val (.int r), .val (.int (1 : Int32)), .val (.int ((r / (2 : Int32)) + (1 : Int32))), .val (.int r), .val (.long (((r / (2 : Int32)) + (1 : Int32)).toInt64)), .second, .val (.long (r.toInt64)), .second, .val (.int (1 : Int32)), .val (.int (1 : Int32)), .val (.int (1 : Int32))] [])
  refine own_step (fun t k => XS.iload X7.here hx rfl (hb hby at_104) rfl k) ?_
  show own_Goes _ _ _ _ T7 (mkF m 106 #[.val (.int p1), .val (.int r), .val (.int (1 : Int32)), .val (.int ((r / (2 : Int32)) + (1 : Int32))), .val (.int r), .val (.long (((r / (2 : Int32)) + (1 : Int32)).toInt64)), .second, .val (.long (r.toInt64)), .second, .val (.int (1 : Int32)), .val (.int (1 : Int32)), .val (.int (1 : Int32))] [(.int r)])
  refine own_step (fun t k => XS.iloadN X7.here hx rfl (hb hby at_106) rfl k) ?_
  show own_Goes _ _ _ _ T7 (mkF m 107 #[.val (.int p1), .val (.int r), .val (.int (1 : Int32)), .val (.int ((r / (2 : Int32)) + (1 : Int32))), .val (.int r), .val (.long (((r / (2 : Int32)) + (1 : Int32)).toInt64)), .second, .val (.long (r.toInt64)), .second, .val (.int (1 : Int32)), .val (.int (1 : Int32)), .val (.int (1 : Int32))] [(.int r), (.int r)])
  refine own_step (fun t k => XS.icmpNo X7.here hx rfl (hb hby at_107) rfl (teq (show r = r from rfl)).2 k) ?_
  show own_Goes _ _ _ _ T7 (mkF m 110 #[.val (.int p1), .val (.int r), .val (.int (1 : Int32)), .val (.int ((r / (2 : Int32)) + (1 : Int32))), .val (.int r), .val (.long (((r / (2 : Int32)) + (1 : Int32)).toInt64)), .second, .val (.long (r.toInt64)), .second, .val (.int (1 : Int32)), .val (.int (1 : Int32)), .val (.int (1 : Int32))] [])
  refine own_step (fun t k => XS.iload X7.here hx rfl (hb hby at_110) rfl k) ?_
  show own_Goes _ _ _ _ T7 (mkF m 112 #[.val (.int p1), .val (.int r), .val (.int (1 : Int32)), .val (.int ((r / (2 : Int32)) + (1 : Int32))), .val (.int r), .val (.long (((r / (2 : Int32)) + (1 : Int32)).toInt64)), .second, .val (.long (r.toInt64)), .second, .val (.int (1 : Int32)), .val (.int (1 : Int32)), .val (.int (1 : Int32))] [(.int (1 : Int32))])
  refine own_step (fun t k => XS.ifNo X7.here hx rfl (hb hby at_112) rfl ((if0 _ _).trans (feq (show ¬ ((1 : Int32) = (0 : Int32)) from (by decide))).1) k) ?_
  show own_Goes _ _ _ _ T7 (mkF m 115 #[.val (.int p1), .val (.int r), .val (.int (1 : Int32)), .val (.int ((r / (2 : Int32)) + (1 : Int32))), .val (.int r), .val (.long (((r / (2 : Int32)) + (1 : Int32)).toInt64)), .second, .val (.long (r.toInt64)), .second, .val (.int (1 : Int32)), .val (.int (1 : Int32)), .val (.int (1 : Int32))] [])
  refine own_step (fun t k => XS.iload X7.here hx rfl (hb hby at_115) rfl k) ?_
  show own_Goes _ _ _ _ T7 (mkF m 117 #[.val (.int p1), .val (.int r), .val (.int (1 : Int32)), .val (.int ((r / (2 : Int32)) + (1 : Int32))), .val (.int r), .val (.long (((r / (2 : Int32)) + (1 : Int32)).toInt64)), .second, .val (.long (r.toInt64)), .second, .val (.int (1 : Int32)), .val (.int (1 : Int32)), .val (.int (1 : Int32))] [(.int (1 : Int32))])
  refine own_step (fun t k => XS.ifNo X7.here hx rfl (hb hby at_117) rfl ((if0 _ _).trans (feq (show ¬ ((1 : Int32) = (0 : Int32)) from (by decide))).1) k) ?_
  show own_Goes _ _ _ _ T7 (mkF m 120 #[.val (.int p1), .val (.int r), .val (.int (1 : Int32)), .val (.int ((r / (2 : Int32)) + (1 : Int32))), .val (.int r), .val (.long (((r / (2 : Int32)) + (1 : Int32)).toInt64)), .second, .val (.long (r.toInt64)), .second, .val (.int (1 : Int32)), .val (.int (1 : Int32)), .val (.int (1 : Int32))] [])
  refine own_step (fun t k => XS.iload X7.here hx rfl (hb hby at_120) rfl k) ?_
  show own_Goes _ _ _ _ T7 (mkF m 122 #[.val (.int p1), .val (.int r), .val (.int (1 : Int32)), .val (.int ((r / (2 : Int32)) + (1 : Int32))), .val (.int r), .val (.long (((r / (2 : Int32)) + (1 : Int32)).toInt64)), .second, .val (.long (r.toInt64)), .second, .val (.int (1 : Int32)), .val (.int (1 : Int32)), .val (.int (1 : Int32))] [(.int (1 : Int32))])
  refine own_step (fun t k => XS.ifNo X7.here hx rfl (hb hby at_122) rfl ((if0 _ _).trans (feq (show ¬ ((1 : Int32) = (0 : Int32)) from (by decide))).1) k) ?_
  show own_Goes _ _ _ _ T7 (mkF m 125 #[.val (.int p1), .val (.int r), .val (.int (1 : Int32)), .val (.int ((r / (2 : Int32)) + (1 : Int32))), .val (.int r), .val (.long (((r / (2 : Int32)) + (1 : Int32)).toInt64)), .second, .val (.long (r.toInt64)), .second, .val (.int (1 : Int32)), .val (.int (1 : Int32)), .val (.int (1 : Int32))] [])
  refine own_step (fun t k => XS.iconst X7.here hx rfl (hb hby at_125) k) ?_
  show own_Goes _ _ _ _ T7 (mkF m 126 #[.val (.int p1), .val (.int r), .val (.int (1 : Int32)), .val (.int ((r / (2 : Int32)) + (1 : Int32))), .val (.int r), .val (.long (((r / (2 : Int32)) + (1 : Int32)).toInt64)), .second, .val (.long (r.toInt64)), .second, .val (.int (1 : Int32)), .val (.int (1 : Int32)), .val (.int (1 : Int32))] [(.int (1 : Int32))])
  refine own_step (fun t k => XS.goto X7.here hx rfl (pc0 := 126) (pc' := 130) rfl (hb hby at_126) (by decide) (by decide) k) ?_
  show own_Goes _ _ _ _ T7 (mkF m 130 #[.val (.int p1), .val (.int r), .val (.int (1 : Int32)), .val (.int ((r / (2 : Int32)) + (1 : Int32))), .val (.int r), .val (.long (((r / (2 : Int32)) + (1 : Int32)).toInt64)), .second, .val (.long (r.toInt64)), .second, .val (.int (1 : Int32)), .val (.int (1 : Int32)), .val (.int (1 : Int32))] [(.int (1 : Int32))])
  exact own_retN X7 hx hlk (t := .boolean) hrt (by simp) (hb hby at_130) ⟨rfl, N7⟩ (by decide) (by decide)
theorem own_ar (r : Int32) (hr : ¬ (r < (1 : Int32))) : ((0 : Int32) < (lcmpW ((2 : Int64) * (((r / (2 : Int32)) + (1 : Int32)).toInt64)) (r.toInt64))) ∧ (¬ ((0 : Int32) < (lcmpW ((2 : Int64) * ((((r / (2 : Int32)) + (1 : Int32)).toInt64) - (1 : Int64))) (r.toInt64)))) ∧ (¬ (((r / (2 : Int32)) + (1 : Int32)) < (1 : Int32))) ∧ (¬ (r < ((r / (2 : Int32)) + (1 : Int32)))) := by
  have e0 : (0 : Int32).toInt = 0 := by decide
  have e1 : (1 : Int32).toInt = 1 := by decide
  have e2 : (2 : Int32).toInt = 2 := by decide
  have f1 : (1 : Int64).toInt = 1 := by decide
  have f2 : (2 : Int64).toInt = 2 := by decide
  rw [Int32.lt_iff_toInt_lt, e1] at hr
  have R := rng32 r
  have d := (c_idiv r (2 : Int32) 2 e2 (by decide)).1 (by omega)
  have s := c_iadd (r / (2 : Int32)) (1 : Int32)
  rw [d, e1] at s
  have Q := rng32 ((r / (2 : Int32)) + (1 : Int32))
  generalize (r / (2 : Int32)) + (1 : Int32) = q at *
  have qv : q.toInt = r.toInt / 2 + 1 := by omega
  have l1 := c_i2l q
  have l2 := c_i2l r
  have m1 := c_lmul (2 : Int64) q.toInt64
  have m2 := rng64 ((2 : Int64) * q.toInt64)
  have s1 := c_lsub q.toInt64 (1 : Int64)
  have s2 := rng64 (q.toInt64 - (1 : Int64))
  have m3 := c_lmul (2 : Int64) (q.toInt64 - (1 : Int64))
  have m4 := rng64 ((2 : Int64) * (q.toInt64 - (1 : Int64)))
  rw [f2, l1] at m1
  rw [l1, f1] at s1
  rw [f2] at m3
  refine ⟨?_, ?_, ?_, ?_⟩
  · rw [lw_gt, Int64.lt_iff_toInt_lt]; omega
  · rw [lw_gt, Int64.lt_iff_toInt_lt]; omega
  · rw [Int32.lt_iff_toInt_lt]; omega
  · rw [Int32.lt_iff_toInt_lt]; omega
set_option maxRecDepth 65536 in
set_option maxHeartbeats 40000000 in
theorem comes_1 {Post : Tables → Env → Array Value → State → Outcome → State → Prop} (hpost : ∀ tb e args s v u, (limb_1_1.after args s (.returned v) u = true ∧ limb_1_2.after args s (.returned v) u = true ∧ True) → FrameEnd s (.returned v) u (Jvm.fieldLocs frame_1_writes args s ++ Jvm.arrayLocs frame_1_arrays args s ++ Jvm.staticLocs frame_1_statics s) 0 0 → Post tb e args s (.returned v) u) :
    ArmFor flags0 classFile x code maxLocals ret World_1 tables_1 room_1 Calls_1 rest_1 Pre_1 Post := by
  intro l hfl _ _ p e ha hc hk s m args below hf hA hF happ hP
  obtain ⟨hcalls, hrest, hpre⟩ := hP
  obtain ⟨-, -, -, hnamed, -, -, -, hat⟩ := (Spec.applies_iff hf).mp happ
  obtain ⟨hg, hn⟩ := and_e (Cond.before_iff.mp (show (Jvm.Cond.and given_1 narrow_1).before args s = true from hpre))
  obtain ⟨q1, q2⟩ := and_e hg
  obtain ⟨q3, q4⟩ := and_e hn
  obtain ⟨q5, q6⟩ := and_e q4
  obtain ⟨q7, q8⟩ := and_e q6
  obtain ⟨q9, q10⟩ := and_e q8
  obtain ⟨q11, q12⟩ := and_e q10
  obtain ⟨w0, rfl⟩ : ∃ w0 : Value, args = #[w0] := by
    have hs : args.size = 1 := by simpa [Cond.value, given_1] using q1
    obtain ⟨L⟩ := args
    match L, hs with
    | [w0], _ => exact ⟨w0, rfl⟩
  have hw := fun d (hd : d ∈ tables_1) => atoms_spec (ws := Jvm.Cond.code x code maxLocals ret :: tables_1) hat d (List.mem_cons_of_mem _ hd)
  have hfit : Fit s := fun {y c} hc i hi => by
    obtain ⟨ha, rfl⟩ := Array.getElem?_eq_some_iff.mp hc
    have q := List.all_eq_true.mp ((Array.all_eq_true_iff_forall_mem.mp hF) _ (Array.getElem_mem ha)) i (List.mem_range.mpr hi)
    simpa [Array.getElem?_eq_getElem hi] using q
  obtain ⟨i0, ei0⟩ := is_v q2
  obtain rfl : w0 = (.int i0) := Option.some.inj ei0
  obtain ⟨w_ONE, ev_ONE⟩ := exa_v q3
  have S_ONE : Sta s s.heap "com/example/ringshift/ringshift/data/Consistency" "ONE" "Lcom/example/ringshift/ringshift/data/Consistency;" (.ref w_ONE) := Sta.start ev_ONE (Or.inr ⟨(hw _ (List.mem_of_getElem? (i := 6) rfl)), (hw _ (List.mem_of_getElem? (i := 7) rfl))⟩)
  have E_w_ONE : Exa s s.heap w_ONE "com/example/ringshift/ringshift/data/Consistency" := Exa.start ev_ONE q3
  obtain ⟨w_QUORUM, ev_QUORUM⟩ := exa_v q7
  have S_QUORUM : Sta s s.heap "com/example/ringshift/ringshift/data/Consistency" "QUORUM" "Lcom/example/ringshift/ringshift/data/Consistency;" (.ref w_QUORUM) := Sta.start ev_QUORUM (Or.inr ⟨(hw _ (List.mem_of_getElem? (i := 6) rfl)), (hw _ (List.mem_of_getElem? (i := 23) rfl))⟩)
  have E_w_QUORUM : Exa s s.heap w_QUORUM "com/example/ringshift/ringshift/data/Consistency" := Exa.start ev_QUORUM q7
  obtain ⟨w_ALL, ev_ALL⟩ := exa_v q11
  have S_ALL : Sta s s.heap "com/example/ringshift/ringshift/data/Consistency" "ALL" "Lcom/example/ringshift/ringshift/data/Consistency;" (.ref w_ALL) := Sta.start ev_ALL (Or.inr ⟨(hw _ (List.mem_of_getElem? (i := 6) rfl)), (hw _ (List.mem_of_getElem? (i := 25) rfl))⟩)
  have E_w_ALL : Exa s s.heap w_ALL "com/example/ringshift/ringshift/data/Consistency" := Exa.start ev_ALL q11
  have F_w_ONE_ordinal : Fld s s.heap w_ONE "java/lang/Enum" "ordinal" "I" (.int (0 : Int32)) := own_fldI ev_ONE q5
  have F_w_QUORUM_ordinal : Fld s s.heap w_QUORUM "java/lang/Enum" "ordinal" "I" (.int (1 : Int32)) := own_fldI ev_QUORUM q9
  have F_w_ALL_ordinal : Fld s s.heap w_ALL "java/lang/Enum" "ordinal" "I" (.int (2 : Int32)) := own_fldI ev_ALL q12
  obtain ⟨r, hr1, hr2, hr3⟩ : ∃ r : Int32, ((1 : Int32) < (i0 &&& (2147483647 : Int32)) → r = (i0 &&& (2147483647 : Int32))) ∧ (¬ ((1 : Int32) < (i0 &&& (2147483647 : Int32))) → r = (1 : Int32)) ∧ ¬ (r < (1 : Int32)) := by
    by_cases q : (1 : Int32) < (i0 &&& (2147483647 : Int32))
    · exact ⟨_, fun _ => rfl, fun z => absurd q z, fun z => by rw [Int32.lt_iff_toInt_lt] at q z; omega⟩
    · exact ⟨_, fun z => absurd z q, fun _ => rfl, by decide⟩
  obtain ⟨h51, h72, h84, h89⟩ := own_ar r hr3
  obtain ⟨n, o, h1, h2, h3, _, L, rfl, ⟨rfl, N⟩, hq⟩ := own_law l s _ hw tables_1 i0 r w_ONE w_QUORUM w_ALL s.heap s.heap.size (Nat.le_refl _) S_ONE E_w_ONE F_w_ONE_ordinal S_QUORUM E_w_QUORUM F_w_QUORUM_ordinal S_ALL E_w_ALL F_w_ALL_ordinal hr1 hr2 h51 h72 h84 h89 p e ha hc hk s m _ below hf ((Spec.applies_iff_loose hf).mp happ).1 ⟨rfl, State.Warmed39.refl s, rfl⟩ trivial
  refine ⟨n, _, h1, h2, h3, hpost _ _ _ _ _ _ ⟨Cond.after_iff.mpr rfl, Cond.after_iff.mpr (eq_i res_at (Term.int_eval (1)) rfl), trivial⟩ ⟨hq.1, hq.2.1, (hq.2.2.sift fun y hy => Or.inr (N y hy)).mono (by decide) (by decide)⟩⟩
theorem main_1_1 : Claimed_1_1 := comes_1 fun _ _ _ _ _ _ h hF => ⟨h.1, hF⟩
theorem main_1_2 : Claimed_1_2 := comes_1 fun _ _ _ _ _ _ h hF => ⟨h.2.1, hF⟩
end Jvm.Pilot.@@N@@
namespace Jvm.Pilot.@@N@@
open Jvm Jvm.ClassFile Sem Op Lib Jvm.Free Jvm.Stand Jvm.Pilot.@@N@@.Jvm.D
/-! MADE BY PROGRAM (witnessworld.py) out of the Statement's table words and the real class files: 13 classes; the members and pool entries that the words name. The judged class is class 1, her method 1. -/
namespace start1
open Jvm.ClassFile
def u (s : String) : CpInfo := .utf8 (stringToUtf16 s)
/-- a pool by its gaps: so many unusable entries, then the entry; so many at the end -/
def gap : Nat → List CpInfo → List CpInfo
  | 0, r => r
  | n + 1, r => .unusable :: gap n r
def poolList (es : List (Nat × CpInfo)) (last : Nat) : List CpInfo := es.foldr (fun e r => gap e.1 (e.2 :: r)) (gap last [])
def pool (es : List (Nat × CpInfo)) (last : Nat) : Array CpInfo := ⟨poolList es last⟩
def fileOf (pool : Array CpInfo) (this : Nat) (attrs : Array Attribute := #[]) (ms : Array MethodInfo := #[]) (fl : Nat := 33) (sup : Nat := 0) (ifs : Array Nat := #[]) (fds : Array FieldInfo := #[]) : ClassFile where
  minorVersion := 0
  majorVersion := 65
  constantPool := pool
  accessFlags := fl
  thisClass := this
  superClass := sup
  interfaces := ifs
  fields := fds
  methods := ms
  attributes := attrs
def plain (name : String) (sup : Option ClassId) : Class where
  name := name
  kind := .ordinary
  loader := none
  accessFlags := 33
  super := sup
  interfaces := #[]
  cf := none
  fields := #[]
  methods := #[]
  instanceTypes := #[]
  staticTypes := #[]
  resolved := #[]
  callSites := []
  init := .initialized
  statics := none
  mirror := none

def pool0 : Array CpInfo := pool [(5, u "<init>"), (0, u "()V"), (1, .class_ 10), (1, u "java/lang/Object")] 113

def k0m0 : Method := { name := "<init>", desc := "()V", sig := { parameters := [], returnType := none }, accessFlags := 1, code := none }
/-- java/lang/Object -/
def k0 : Class := { plain "java/lang/Object" none with
  accessFlags := 33
  interfaces := #[]
  cf := some (fileOf pool0 8 #[] #[{ accessFlags := 1, nameIndex := 5, descriptorIndex := 6, attributes := #[] }] 33 0 #[] #[])
  fields := #[]
  methods := #[k0m0]
  instanceTypes := #[]
  staticTypes := #[]
  resolved := Array.replicate 124 none
  statics := none }

def pool1 : Array CpInfo := pool [(2, .class_ 4), (1, u "java/lang/Object"), (0, u "<init>"), (0, u "()V"), (0, .integer 2147483647), (0, .methodref 9 10), (0, .class_ 11), (0, .nameAndType 12 13), (0, u "java/lang/Math"), (0, u "max"), (0, u "(II)I"), (0, .fieldref 15 16), (0, .class_ 17), (0, .nameAndType 18 19), (0, u "com/example/ringshift/ringshift/data/Consistency"), (0, u "ONE"), (0, u "Lcom/example/ringshift/ringshift/data/Consistency;"), (0, .methodref 15 21), (0, .nameAndType 22 23), (0, u "required"), (0, u "(I)I"), (0, .fieldref 15 25), (0, .nameAndType 26 19), (0, u "QUORUM"), (0, .fieldref 15 28), (0, .nameAndType 29 19), (0, u "ALL"), (0, .long 2), (1, .class_ 33), (0, u "com/example/ringshift/ringshift/data/ConsistencyRequiredPinLaw"), (2, u "law"), (0, u "(I)Z")] 3

def k1m0 : Method := { name := "<init>", desc := "()V", sig := { parameters := [], returnType := none }, accessFlags := 2, code := none }
def k1c1 : Code := { maxStack := 6, maxLocals := 12, code := code, exceptionTable := #[], attributes := #[] }
def k1m1 : Method := { name := "law", desc := "(I)Z", sig := { parameters := [.int], returnType := some .boolean }, accessFlags := 9, code := some k1c1 }
/-- com/example/ringshift/ringshift/data/ConsistencyRequiredPinLaw -/
def k1 : Class := { plain "com/example/ringshift/ringshift/data/ConsistencyRequiredPinLaw" (some 0) with
  accessFlags := 49
  interfaces := #[]
  cf := some (fileOf pool1 32 #[] #[{ accessFlags := 2, nameIndex := 5, descriptorIndex := 6, attributes := #[] }, { accessFlags := 9, nameIndex := 36, descriptorIndex := 37, attributes := #[] }] 49 2 #[] #[])
  fields := #[]
  methods := #[k1m0, k1m1]
  instanceTypes := #[]
  staticTypes := #[]
  resolved := Array.replicate 41 none
  statics := none }

def pool2 : Array CpInfo := pool [(1, .class_ 2), (0, u "java/lang/Math"), (1, .class_ 6), (1, u "java/lang/Object"), (0, u "<init>"), (0, u "()V"), (89, .class_ 100), (1, u "java/lang/Math$RandomNumberGeneratorHolder"), (71, u "negativeZeroFloatBits"), (0, u "J"), (2, u "negativeZeroDoubleBits"), (21, u "max"), (46, u "$assertionsDisabled"), (0, u "Z"), (88, u "(II)I"), (2, u "twoToTheDoubleScaleDown"), (0, u "D"), (4, u "twoToTheDoubleScaleUp"), (9, u "E"), (3, u "PI"), (2, u "TAU"), (2, u "DEGREES_TO_RADIANS"), (0, u "RADIANS_TO_DEGREES")] 94

def k2m0 : Method := { name := "<init>", desc := "()V", sig := { parameters := [], returnType := none }, accessFlags := 2, code := none }
def k2c1 : Code := { maxStack := 2, maxLocals := 2, code := jdk_29_method_65_code, exceptionTable := #[], attributes := #[] }
def k2m1 : Method := { name := "max", desc := "(II)I", sig := { parameters := [.int, .int], returnType := some .int }, accessFlags := 9, code := some k2c1 }
/-- java/lang/Math -/
def k2 : Class := { plain "java/lang/Math" (some 0) with
  accessFlags := 49
  interfaces := #[]
  cf := some (fileOf pool2 1 #[.nestMembers #[98]] #[{ accessFlags := 2, nameIndex := 7, descriptorIndex := 8, attributes := #[] }, { accessFlags := 9, nameIndex := 198, descriptorIndex := 335, attributes := #[] }] 49 4 #[] #[{ accessFlags := 25, nameIndex := 354, descriptorIndex := 339, attributes := #[] }, { accessFlags := 25, nameIndex := 358, descriptorIndex := 339, attributes := #[] }, { accessFlags := 25, nameIndex := 361, descriptorIndex := 339, attributes := #[] }, { accessFlags := 26, nameIndex := 364, descriptorIndex := 339, attributes := #[] }, { accessFlags := 26, nameIndex := 365, descriptorIndex := 339, attributes := #[] }, { accessFlags := 26, nameIndex := 172, descriptorIndex := 173, attributes := #[] }, { accessFlags := 26, nameIndex := 176, descriptorIndex := 173, attributes := #[] }, { accessFlags := 8, nameIndex := 344, descriptorIndex := 339, attributes := #[] }, { accessFlags := 8, nameIndex := 338, descriptorIndex := 339, attributes := #[] }, { accessFlags := 4120, nameIndex := 245, descriptorIndex := 246, attributes := #[] }])
  fields := #[{ name := "E", type := .double, accessFlags := 25, slot := 0, constantValue := 0 }, { name := "PI", type := .double, accessFlags := 25, slot := 1, constantValue := 0 }, { name := "TAU", type := .double, accessFlags := 25, slot := 2, constantValue := 0 }, { name := "DEGREES_TO_RADIANS", type := .double, accessFlags := 26, slot := 3, constantValue := 0 }, { name := "RADIANS_TO_DEGREES", type := .double, accessFlags := 26, slot := 4, constantValue := 0 }, { name := "negativeZeroFloatBits", type := .long, accessFlags := 26, slot := 5, constantValue := 0 }, { name := "negativeZeroDoubleBits", type := .long, accessFlags := 26, slot := 6, constantValue := 0 }, { name := "twoToTheDoubleScaleUp", type := .double, accessFlags := 8, slot := 7, constantValue := 0 }, { name := "twoToTheDoubleScaleDown", type := .double, accessFlags := 8, slot := 8, constantValue := 0 }, { name := "$assertionsDisabled", type := .boolean, accessFlags := 4120, slot := 9, constantValue := 0 }]
  methods := #[k2m0, k2m1]
  instanceTypes := #[]
  staticTypes := #[.double, .double, .double, .double, .double, .long, .long, .double, .double, .boolean]
  resolved := Array.replicate 460 none
  statics := none }

def pool3 : Array CpInfo := pool [(1, .class_ 2), (0, u "java/lang/constant/Constable"), (0, .class_ 4), (0, u "java/lang/Object")] 6

/-- java/lang/constant/Constable -/
def k3 : Class := { plain "java/lang/constant/Constable" (some 0) with
  accessFlags := 1537
  interfaces := #[]
  cf := some (fileOf pool3 1 #[] #[] 1537 3 #[] #[])
  fields := #[]
  methods := #[]
  instanceTypes := #[]
  staticTypes := #[]
  resolved := Array.replicate 11 none
  statics := none }

def pool4 : Array CpInfo := pool [(1, .class_ 2), (0, u "java/lang/Comparable"), (0, .class_ 4), (0, u "java/lang/Object")] 7

/-- java/lang/Comparable -/
def k4 : Class := { plain "java/lang/Comparable" (some 0) with
  accessFlags := 1537
  interfaces := #[]
  cf := some (fileOf pool4 1 #[] #[] 1537 3 #[] #[])
  fields := #[]
  methods := #[]
  instanceTypes := #[]
  staticTypes := #[]
  resolved := Array.replicate 12 none
  statics := none }

def pool5 : Array CpInfo := pool [(1, .class_ 2), (0, u "java/io/Serializable"), (0, .class_ 4), (0, u "java/lang/Object")] 2

/-- java/io/Serializable -/
def k5 : Class := { plain "java/io/Serializable" (some 0) with
  accessFlags := 1537
  interfaces := #[]
  cf := some (fileOf pool5 1 #[] #[] 1537 3 #[] #[])
  fields := #[]
  methods := #[]
  instanceTypes := #[]
  staticTypes := #[]
  resolved := Array.replicate 7 none
  statics := none }

def pool6 : Array CpInfo := pool [(2, .class_ 4), (1, u "java/lang/Enum"), (0, u "name"), (0, u "Ljava/lang/String;"), (0, .fieldref 2 8), (0, .nameAndType 9 10), (0, u "ordinal"), (0, u "I"), (1, .class_ 14), (1, u "java/lang/Object"), (4, u "hash"), (86, .class_ 108), (1, u "java/lang/Enum$EnumDesc"), (2, .class_ 112), (0, u "java/lang/constant/Constable"), (0, .class_ 114), (0, u "java/lang/Comparable"), (0, .class_ 116), (0, u "java/io/Serializable"), (9, u "()I")] 77

def k6c0 : Code := { maxStack := 1, maxLocals := 1, code := jdk_37_method_2_code, exceptionTable := #[], attributes := #[] }
def k6m0 : Method := { name := "ordinal", desc := "()I", sig := { parameters := [], returnType := some .int }, accessFlags := 17, code := some k6c0 }
/-- java/lang/Enum -/
def k6 : Class := { plain "java/lang/Enum" (some 0) with
  accessFlags := 1057
  interfaces := #[3, 4, 5]
  cf := some (fileOf pool6 2 #[.nestMembers #[106]] #[{ accessFlags := 17, nameIndex := 9, descriptorIndex := 126, attributes := #[] }] 1057 12 #[111, 113, 115] #[{ accessFlags := 18, nameIndex := 5, descriptorIndex := 6, attributes := #[] }, { accessFlags := 18, nameIndex := 9, descriptorIndex := 10, attributes := #[] }, { accessFlags := 2, nameIndex := 19, descriptorIndex := 10, attributes := #[] }])
  fields := #[{ name := "name", type := (.object "java/lang/String"), accessFlags := 18, slot := 0, constantValue := 0 }, { name := "ordinal", type := .int, accessFlags := 18, slot := 1, constantValue := 0 }, { name := "hash", type := .int, accessFlags := 2, slot := 2, constantValue := 0 }]
  methods := #[k6m0]
  instanceTypes := #[(.object "java/lang/String"), .int, .int]
  staticTypes := #[]
  resolved := Array.replicate 204 none
  statics := none }

def pool7 : Array CpInfo := pool [(1, .class_ 2), (0, u "com/example/ringshift/ringshift/data/Consistency"), (2, u "ONE"), (0, u "Lcom/example/ringshift/ringshift/data/Consistency;"), (2, u "QUORUM"), (2, u "ALL"), (2, u "$VALUES"), (0, u "[Lcom/example/ringshift/ringshift/data/Consistency;"), (6, .class_ 25), (1, u "java/lang/Enum"), (40, .methodref 1 67), (0, .nameAndType 68 69), (0, u "ordinal"), (0, u "()I"), (71, u "required"), (0, u "(I)I")] 48

def k7c0 : Code := { maxStack := 4, maxLocals := 2, code := prog_58_method_5_code, exceptionTable := #[], attributes := #[] }
def k7m0 : Method := { name := "required", desc := "(I)I", sig := { parameters := [.int], returnType := some .int }, accessFlags := 1, code := some k7c0 }
/-- com/example/ringshift/ringshift/data/Consistency -/
def k7 : Class := { plain "com/example/ringshift/ringshift/data/Consistency" (some 6) with
  accessFlags := 16433
  interfaces := #[]
  cf := some (fileOf pool7 1 #[] #[{ accessFlags := 1, nameIndex := 141, descriptorIndex := 142, attributes := #[] }] 16433 23 #[] #[{ accessFlags := 16409, nameIndex := 5, descriptorIndex := 6, attributes := #[] }, { accessFlags := 16409, nameIndex := 9, descriptorIndex := 6, attributes := #[] }, { accessFlags := 16409, nameIndex := 12, descriptorIndex := 6, attributes := #[] }, { accessFlags := 4122, nameIndex := 15, descriptorIndex := 16, attributes := #[] }])
  fields := #[{ name := "ONE", type := (.object "com/example/ringshift/ringshift/data/Consistency"), accessFlags := 16409, slot := 0, constantValue := 0 }, { name := "QUORUM", type := (.object "com/example/ringshift/ringshift/data/Consistency"), accessFlags := 16409, slot := 1, constantValue := 0 }, { name := "ALL", type := (.object "com/example/ringshift/ringshift/data/Consistency"), accessFlags := 16409, slot := 2, constantValue := 0 }, { name := "$VALUES", type := (.array (.object "com/example/ringshift/ringshift/data/Consistency")), accessFlags := 4122, slot := 3, constantValue := 0 }]
  methods := #[k7m0]
  instanceTypes := #[(.object "java/lang/String"), .int, .int]
  staticTypes := #[(.object "com/example/ringshift/ringshift/data/Consistency"), (.object "com/example/ringshift/ringshift/data/Consistency"), (.object "com/example/ringshift/ringshift/data/Consistency"), (.array (.object "com/example/ringshift/ringshift/data/Consistency"))]
  resolved := Array.replicate 191 none
  statics := some 0 }

def pool8 : Array CpInfo := pool [(1, u "java/lang/Cloneable"), (0, .class_ 1), (0, u "java/lang/Object"), (0, .class_ 3)] 3

/-- java/lang/Cloneable -/
def k8 : Class := { plain "java/lang/Cloneable" (some 0) with
  accessFlags := 1537
  interfaces := #[]
  cf := some (fileOf pool8 2 #[] #[] 1537 4 #[] #[])
  fields := #[]
  methods := #[]
  instanceTypes := #[]
  staticTypes := #[]
  resolved := Array.replicate 8 none
  statics := none }

/-- the primitive byte -/
def k9 : Class := { plain "byte" none with kind := .primitive 'B', accessFlags := 0x411 }
/-- [B -/
def k10 : Class := { plain "[B" (some 0) with kind := .array 9 .byte, interfaces := #[8, 5], accessFlags := 1041 }

/-- the primitive int -/
def k11 : Class := { plain "int" none with kind := .primitive 'I', accessFlags := 0x411 }
/-- [I -/
def k12 : Class := { plain "[I" (some 0) with kind := .array 11 .int, interfaces := #[8, 5], accessFlags := 1041 }

def heap : Heap := #[{ cls := 7, slots := #[.ref 1, .ref 2, .ref 3, .null], vm := .statics 7 },
  { cls := 7, slots := #[.null, .int 0, .int 0], vm := .none },
  { cls := 7, slots := #[.null, .int 1, .int 0], vm := .none },
  { cls := 7, slots := #[.null, .int 2, .int 0], vm := .none }]
def classes : Array Class := #[k0, k1, k2, k3, k4, k5, k6, k7, k8, k9, k10, k11, k12]
def interned : List (Array UInt16 × Addr) := []
def slotsUsed : Nat := 13
def theMethod : MethodId := ⟨1, 1⟩
def args0 : Array Value := #[.int 5]
def aboutOver (below : List Frame) : State where
  vm := { classes := classes, interned := interned.toArray }
  heap := heap
  slotsUsed := slotsUsed
  threads := #[{ frames := .invoking theMethod args0 :: below }]
def below0 : List Frame := [.native { method := ⟨0, 0⟩, args := #[] }]
def about1 : State := aboutOver below0
def p0 : Program := .bare "" "" ""
def e0 : Env := launch0.env 0 0 0
theorem w_frames : about1.frames = Frame.invoking theMethod args0 :: below0 := rfl
set_option maxRecDepth 65536 in
theorem w_args : argsFit about1.vm theMethod args0 = true := by decide +kernel
set_option maxRecDepth 65536 in
theorem w_heap : heapFits about1 = true := by decide +kernel
set_option maxRecDepth 65536 in
theorem w_runnable : about1.curStatus? = some .runnable := by decide +kernel
set_option maxRecDepth 65536 in
theorem w_alone : about1.alone = true := by decide +kernel
set_option maxRecDepth 65536 in
theorem w_named : about1.methodNamed? x = some theMethod := by decide +kernel
set_option maxRecDepth 65536 in
theorem w_hears : about1.hears theMethod below0 = true := by decide +kernel
set_option maxRecDepth 65536 in
theorem w_ripe : about1.ripe theMethod args0 below0 = true := by decide +kernel
theorem w_running : about1.status = .running := rfl
set_option maxRecDepth 65536 in
theorem w_room : about1.hasRoom e0.platform room_1 = true :=
  launch0.hasRoom_least _ room_1 (by decide +kernel) (by decide +kernel) (by decide +kernel) (by decide +kernel) (by decide +kernel) (by decide +kernel)
theorem allAtoms_all (ts : List Jvm.Cond) (a : Array Jvm.Value) (st : Jvm.State) : (allAtoms ts).before a st = ts.all (fun c => c.before a st) := by
  induction ts with
  | nil => rfl
  | cons c t ih =>
    show (Jvm.Cond.and c (allAtoms t)).before a st = _
    rw [Jvm.Cond.before_and, ih, List.all_cons]
def words1 : List Jvm.Cond := Jvm.Cond.code x code maxLocals ret :: tables_1
/-- a 'code' word, met by the world's own term for the bytes: nothing is compared byte by byte -/
theorem code_word {y : MethodName} {bytes : ByteArray} {mx : Nat} {rt : Option FieldType} {a : Array Value} {s : State} {m : MethodId} {meth : Method} {c : Code} (h1 : s.methodNamed? y = some m) (h2 : s.vm.method? m = some meth) (h3 : meth.code = some c) (h4 : c.code = bytes)
    (h5 : (c.maxLocals == mx && c.exceptionTable.isEmpty && decide (c.maxStack ≤ mostOperands) && decide (meth.sig.returnType = rt) && !meth.locks && decide (parseMethodDescriptor y.desc = some meth.sig)) = true) : (Jvm.Cond.code y bytes mx rt).before a s = true := by
  simp only [Bool.and_eq_true, beq_iff_eq, Bool.not_eq_true', decide_eq_true_eq] at h5
  obtain ⟨⟨⟨⟨⟨g1, g2⟩, g3⟩, g4⟩, g5⟩, g6⟩ := h5
  simp [Cond.before, Cond.holds, Cond.value, h1, h2, h3, h4, g1, g2, g3, g4, g5, g6]
def isCode : Jvm.Cond → Bool
  | .code _ _ _ _ => true
  | _ => false
theorem all_split {L : List Jvm.Cond} {P : Jvm.Cond → Bool} (h1 : L.all (fun c => isCode c || P c) = true) (h2 : ∀ c ∈ L.filter isCode, P c = true) : L.all P = true := by
  refine List.all_eq_true.mpr fun c hc => ?_
  have h := List.all_eq_true.mp h1 c hc
  rcases Bool.eq_false_or_eq_true (isCode c) with hi | hi
  · exact h2 c (List.mem_filter.mpr ⟨hc, hi⟩)
  · simpa [hi] using h
set_option maxRecDepth 65536 in
theorem w_c0 : (Jvm.Cond.code x code maxLocals ret).before args0 about1 = true := code_word (m := ⟨1, 1⟩) (meth := k1m1) (c := k1c1) (by decide +kernel) rfl rfl rfl (by decide +kernel)
set_option maxRecDepth 65536 in
theorem w_c1 : (Jvm.Cond.code ({ cls := "java/lang/Math", name := "max", desc := "(II)I" } : Jvm.MethodName) jdk_29_method_65_code (2 : Nat) (Option.some Jvm.ClassFile.FieldType.int)).before args0 about1 = true := code_word (m := ⟨2, 1⟩) (meth := k2m1) (c := k2c1) (by decide +kernel) rfl rfl rfl (by decide +kernel)
set_option maxRecDepth 65536 in
theorem w_c2 : (Jvm.Cond.code ({ cls := "com/example/ringshift/ringshift/data/Consistency", name := "required", desc := "(I)I" } : Jvm.MethodName) prog_58_method_5_code (2 : Nat) (Option.some Jvm.ClassFile.FieldType.int)).before args0 about1 = true := code_word (m := ⟨7, 0⟩) (meth := k7m0) (c := k7c0) (by decide +kernel) rfl rfl rfl (by decide +kernel)
set_option maxRecDepth 65536 in
theorem w_c3 : (Jvm.Cond.code ({ cls := "java/lang/Enum", name := "ordinal", desc := "()I" } : Jvm.MethodName) jdk_37_method_2_code (1 : Nat) (Option.some Jvm.ClassFile.FieldType.int)).before args0 about1 = true := code_word (m := ⟨6, 0⟩) (meth := k6m0) (c := k6c0) (by decide +kernel) rfl rfl rfl (by decide +kernel)
def codes1 : List Jvm.Cond := [Jvm.Cond.code x code maxLocals ret, Jvm.Cond.code ({ cls := "java/lang/Math", name := "max", desc := "(II)I" } : Jvm.MethodName) jdk_29_method_65_code (2 : Nat) (Option.some Jvm.ClassFile.FieldType.int), Jvm.Cond.code ({ cls := "com/example/ringshift/ringshift/data/Consistency", name := "required", desc := "(I)I" } : Jvm.MethodName) prog_58_method_5_code (2 : Nat) (Option.some Jvm.ClassFile.FieldType.int), Jvm.Cond.code ({ cls := "java/lang/Enum", name := "ordinal", desc := "()I" } : Jvm.MethodName) jdk_37_method_2_code (1 : Nat) (Option.some Jvm.ClassFile.FieldType.int)]
set_option maxRecDepth 65536 in
theorem codes_eq : words1.filter isCode = codes1 := rfl
theorem w_codes : ∀ c ∈ words1.filter isCode, c.before args0 about1 = true := by
  rw [codes_eq]
  intro c hc
  simp only [codes1, List.mem_cons, List.not_mem_nil, or_false] at hc
  rcases hc with rfl | rfl | rfl | rfl
  · exact w_c0
  · exact w_c1
  · exact w_c2
  · exact w_c3
set_option maxRecDepth 65536 in
theorem w_t1 : (words1.take 24).all (fun c => isCode c || c.before args0 about1) = true := by decide +kernel
set_option maxRecDepth 65536 in
theorem w_t2 : (words1.drop 24).all (fun c => isCode c || c.before args0 about1) = true := by decide +kernel
theorem w_tables : (allAtoms (Jvm.Cond.code x code maxLocals ret :: tables_1)).before args0 about1 = true := by
  rw [allAtoms_all]
  show words1.all (fun c => c.before args0 about1) = true
  refine all_split ?_ w_codes
  rw [← List.take_append_drop 24 words1, List.all_append, w_t1, w_t2]
  rfl
set_option maxRecDepth 65536 in
theorem w_case : (Jvm.Cond.and given_1 narrow_1).before args0 about1 = true := by decide +kernel
theorem w_applies : (headSpec (Jvm.Cond.code x code maxLocals ret :: tables_1) room_1).applies x e0.platform about1 = true :=
  (Spec.applies_iff w_frames).mpr ⟨w_running, w_runnable, w_alone, w_named, w_hears, w_ripe, w_room, w_tables⟩
theorem atStart : AtStart classFile x code maxLocals ret World_1 tables_1 room_1 Calls_1 rest_1 Pre_1 launch0 p0 e0 about1 theMethod args0 below0 :=
  ⟨lists_1, trivial, launch0.admits_env _ _ _, launch0.least_env, fairChoices_fair.cas, fairChoices_fair.clock, w_frames, w_args, w_heap, w_applies, trivial, trivial, w_case⟩
end start1
theorem witness_1 : WitnessClaimed_1 := ⟨start1.p0, start1.e0, start1.about1, start1.theMethod, start1.args0, start1.below0, start1.atStart⟩
end Jvm.Pilot.@@N@@
