import JvmDerived
import JvmDerived.Pilot.@@N@@Statement
import JvmDerived.Pilot.@@N@@Code
set_option linter.unusedVariables false
set_option linter.unusedSimpArgs false
namespace Jvm.Pilot.@@N@@
open Jvm Jvm.ClassFile Sem Op Lib Jvm.Free Jvm.Stand Jvm.LawKit Jvm.RoadKit Bundle Jvm.Pilot.@@N@@.Jvm.D
/-! own kit: a walk told forwards -/
section OwnKit
variable {p : Program} {l : Launch} {e : Env} {R : Room} {s : State} {m : MethodId} {args : Array Value} {below : List Frame} {meth : Method} {c : Code} {T : State} {locs : List Loc} {cells slots : Nat} {Z : State} {a0 : Array Value} {h : Heap}
/-- from here the run comes to an end of which K speaks -/
def own_Goes (p : Program) (e : Env) (below : List Frame) (K : Outcome → State → Prop) (T : State) (g : JFrame) : Prop :=
  ∃ s₂ o, Steps p.tables e below (T.setTop g) s₂ ∧ s₂.status = .running ∧ Ended s₂ below o ∧ K o s₂
theorem own_step {K : Outcome → State → Prop} {T' : State} {g g' : JFrame} (st : ∀ t, Steps p.tables e below (T'.setTop g') t → Steps p.tables e below (T.setTop g) t) (hg : own_Goes p e below K T' g') : own_Goes p e below K T g := by
  obtain ⟨s2, o, a, b⟩ := hg
  exact ⟨s2, o, st _ a, b⟩
theorem own_castG {K : Outcome → State → Prop} {g g' : JFrame} (q : g = g') (hg : own_Goes p e below K T g') : own_Goes p e below K T g := q ▸ hg
def own_K (s : State) (Q : Option Value → Heap → List Loc → Prop) (rc rs : Nat) : Outcome → State → Prop := fun o u => ∃ v L, o = .returned v ∧ Q v u.heap L ∧ FrameEnd s o u L rc rs
def own_Met (l : Launch) (Z : State) (y : MethodName) (bytes : ByteArray) (maxL : Nat) (ret : Option FieldType) (ws : List Jvm.Cond) (rm : Room) (as' : Array Value) (h0 : Heap) (Q : Option Value → Heap → List Loc → Prop) : Prop :=
  MetFree l y (head1 (Jvm.Cond.code y bytes maxL ret :: ws) rm) (fun a U => a = as' ∧ Z.Warmed39 U.vm ∧ U.heap = h0) (fun _ _ _ _ _ => True) (fun _ U o U' => ∃ v L, o = .returned v ∧ Q v U'.heap L ∧ FrameEnd U o U' L rm.cells rm.slots)
theorem own_body {y : MethodName} {bytes : ByteArray} {maxL : Nat} {ret : Option FieldType} {ws : List Jvm.Cond} {rm : Room} {as' : Array Value} {h0 : Heap} {Q : Option Value → Heap → List Loc → Prop} (hp : plainFor y = true)
    (body : ∀ (p : Program) (e : Env) (s : State) (m : MethodId) (below : List Frame) (meth : Method) (c : Code) (s₁ : State), p.tables.exec = Jvm.exec → c.code = bytes → c.maxLocals = maxL → meth.sig.returnType = ret → meth.locks = false → s.vm.findClass y.cls = some m.cls → meth.name = y.name → Z.Warmed39 s.vm →
      Stand p l e rm s m as' below meth c s₁ [] 0 0 → s₁.heap = h0 → own_Goes p e below (own_K s Q rm.cells rm.slots) s₁ (entryFrame m as' maxL)) : own_Met l Z y bytes maxL ret ws rm as' h0 Q := by
  refine MetFree.of_bodySF hp hisR ?_
  intro p e s m args below meth c s₁ Bd hml0 hP hK
  obtain ⟨rfl, hZ, hh⟩ := hP
  exact body p e s m below meth c s₁ Bd.exec Bd.bytes hml0 Bd.returns (BodyLoose.notSynchronized Bd) (findClass_of_methodNamed Bd.named) (name_of_methodNamed Bd.named Bd.method).1 hZ (Stand.of_body Bd) (by rw [← hh, Bd.state]; rfl)
theorem own_out (X : Stand p l e R s m args below meth c T locs cells slots) (hlk : meth.locks = false) {v : Option Value} (hv : meth.sig.returnType = none → v = none) {Q : Option Value → Heap → List Loc → Prop} {rc rs : Nat} {g : JFrame}
    (st : ∀ fs, (∀ (f : JFrame) (acts : List Action), f.method = m → f.locked = none → f.entered = [] → (doReturn e (T.setTop f) acts v).1 = T.setFrames fs) → Steps p.tables e below (T.setTop g) (T.setFrames fs))
    (hQ : Q v T.heap locs) (hc : cells ≤ rc) (hs : slots ≤ rs) : own_Goes p e below (own_K s Q rc rs) T g := by
  obtain ⟨fs, hr, hrun, hended, hW, hsame⟩ := X.leave (v := v) hv hlk
  exact ⟨_, _, st fs hr, hrun, hended, v, locs, rfl, hQ, ⟨_, rfl⟩, hW, hsame.mono hc hs⟩
theorem own_retN (X : Stand p l e R s m args below meth c T locs cells slots) (hx : p.tables.exec = Jvm.exec) (hlk : meth.locks = false) {pc : Nat} {Ls : Array Slot} {z : Int32} {t : FieldType} {rest : List Value} (hret : meth.sig.returnType = some t) (ht : t = .boolean ∨ t = .byte ∨ t = .char ∨ t = .short)
    (hd : decode c.code pc = .ok (.ireturn, 1)) {Q : Option Value → Heap → List Loc → Prop} {rc rs : Nat} (hQ : Q (some (.int (nar t z))) T.heap locs) (hc : cells ≤ rc) (hs : slots ≤ rs) : own_Goes p e below (own_K s Q rc rs) T (mkF m pc Ls (.int z :: rest)) :=
  own_out X hlk (fun q => by rw [hret] at q; cases q) (fun fs hr => retN X hx hret ht hd hr) hQ hc hs
theorem own_retI (X : Stand p l e R s m args below meth c T locs cells slots) (hx : p.tables.exec = Jvm.exec) (hlk : meth.locks = false) {pc : Nat} {Ls : Array Slot} {z : Int32} {rest : List Value} (hret : meth.sig.returnType = some .int)
    (hd : decode c.code pc = .ok (.ireturn, 1)) {Q : Option Value → Heap → List Loc → Prop} {rc rs : Nat} (hQ : Q (some (.int z)) T.heap locs) (hc : cells ≤ rc) (hs : slots ≤ rs) : own_Goes p e below (own_K s Q rc rs) T (mkF m pc Ls (.int z :: rest)) :=
  own_out X hlk (fun q => by rw [hret] at q; cases q) (fun fs hr => retOut X hx hret rfl (Or.inl ⟨rfl, Or.inl rfl, z, rfl⟩) hd hr) hQ hc hs
theorem own_retL (X : Stand p l e R s m args below meth c T locs cells slots) (hx : p.tables.exec = Jvm.exec) (hlk : meth.locks = false) {pc : Nat} {Ls : Array Slot} {z : Int64} {rest : List Value} (hret : meth.sig.returnType = some .long)
    (hd : decode c.code pc = .ok (.lreturn, 1)) {Q : Option Value → Heap → List Loc → Prop} {rc rs : Nat} (hQ : Q (some (.long z)) T.heap locs) (hc : cells ≤ rc) (hs : slots ≤ rs) : own_Goes p e below (own_K s Q rc rs) T (mkF m pc Ls (.long z :: rest)) :=
  own_out X hlk (fun q => by rw [hret] at q; cases q) (fun fs hr => retOut X hx hret rfl (Or.inr (Or.inl ⟨rfl, rfl, z, rfl⟩)) hd hr) hQ hc hs
theorem own_retA (X : Stand p l e R s m args below meth c T locs cells slots) (hx : p.tables.exec = Jvm.exec) (hlk : meth.locks = false) {pc : Nat} {Ls : Array Slot} {w : Value} {t : FieldType} {rest : List Value} (hret : meth.sig.returnType = some t) (hn : narrow t w = w) (ht : t.isReference = true) (hw : w.isRef = true)
    (hd : decode c.code pc = .ok (.areturn, 1)) {Q : Option Value → Heap → List Loc → Prop} {rc rs : Nat} (hQ : Q (some w) T.heap locs) (hc : cells ≤ rc) (hs : slots ≤ rs) : own_Goes p e below (own_K s Q rc rs) T (mkF m pc Ls (w :: rest)) :=
  own_out X hlk (fun q => by rw [hret] at q; cases q) (fun fs hr => retOut X hx hret hn (Or.inr (Or.inr (Or.inr (Or.inr ⟨rfl, ht, hw⟩)))) hd hr) hQ hc hs
theorem own_retV (X : Stand p l e R s m args below meth c T locs cells slots) (hx : p.tables.exec = Jvm.exec) (hlk : meth.locks = false) {pc : Nat} {Ls : Array Slot} (hret : meth.sig.returnType = none)
    (hd : decode c.code pc = .ok (.return_, 1)) {Q : Option Value → Heap → List Loc → Prop} {rc rs : Nat} (hQ : Q none T.heap locs) (hc : cells ≤ rc) (hs : slots ≤ rs) : own_Goes p e below (own_K s Q rc rs) T (mkF m pc Ls []) :=
  own_out X hlk (fun _ => rfl) (fun fs hr => X.returnOut hx hret hd hr) hQ hc hs
theorem own_callS (X : Stand p l e R s m args below meth c T locs cells slots) (hx : p.tables.exec = Jvm.exec) (hZ : Z.Warmed39 s.vm) {own : String} {index : Nat} {y : MethodName} {bytes : ByteArray} {maxL : Nat} {ret : Option FieldType} (hown : s.vm.findClass own = some m.cls)
    (w1 : (Jvm.Cond.methodLink own index y).before a0 Z = true) (w2 : (Jvm.Cond.static y).before a0 Z = true) (w3 : (Jvm.Cond.initialized y.cls).before a0 Z = true) (w4 : (Jvm.Cond.code y bytes maxL ret).before a0 Z = true) (hy : y.cls ≠ "java/lang/invoke/MethodHandle" ∧ y.cls ≠ "java/lang/invoke/VarHandle")
    {rm : Room} (W : Nat) (argsL rest : List Value) {Q : Option Value → Heap → List Loc → Prop} (hM : own_Met l Z y bytes maxL ret [] rm argsL.toArray h Q) (eT : T.heap = h)
    (hf : rm.frames + 1 ≤ R.frames) (hl : W + (maxL + 11) + rm.locals ≤ R.locals) (hc : cells + rm.cells ≤ R.cells) (hs : slots + rm.slots ≤ R.slots)
    {g : JFrame} (hg : g.method = m) (hsize : g.locals.size = c.maxLocals) {ps : List FieldType} {r : Option FieldType} (hpd : parseMethodDescriptor y.desc = some ⟨ps, r⟩) (hlen : argsL.length = ps.length)
    (hstack : g.stack = argsL.reverse ++ rest) (hW : 2 * g.monitorRoom + (rest.map fun v => v.category).sum ≤ W) (hd : decode c.code g.pc = .ok (.invokestatic index, 3))
    {K : Outcome → State → Prop} (go : ∀ T' v L, Stand p l e R s m args below meth c T' (locs ++ L) (cells + rm.cells) (slots + rm.slots) → Q v T'.heap L → own_Goes p e below K T' { g with pc := g.pc + 3, stack := v.toList ++ rest }) : own_Goes p e below K T g := by
  obtain ⟨v, _, ⟨T', L', k', n'⟩, -, X', ⟨Lc, hQ, l1, y1, z1⟩, st⟩ := Jvm.LawKit.callS X hx (y := y) hown (mvT hZ w1) (mvT hZ w2) (mvT hZ w3) (mvT hZ w4) hy (backOf (W := W) hM hZ w4 w3 hf hl) hg hsize (lenOf hpd hlen) hstack hW hd (fun _ _ => ⟨rfl, eT, hc, hs⟩)
  dsimp only [Pt.U, Pt.locs, Pt.cells, Pt.slots] at X' l1 y1 z1 st hQ
  subst l1 y1 z1
  exact own_step st (go _ _ _ X' hQ)
theorem own_callV (X : Stand p l e R s m args below meth c T locs cells slots) (hx : p.tables.exec = Jvm.exec) (hZ : Z.Warmed39 s.vm) {own C : String} {index : Nat} {y z : MethodName} {bytes : ByteArray} {maxL : Nat} {ret : Option FieldType} (hown : s.vm.findClass own = some m.cls)
    (w1 : (Jvm.Cond.methodLink own index y).before a0 Z = true) (w2 : (Jvm.Cond.declares y).before a0 Z = true) (nf : NotFace s y) (w3 : (Jvm.Cond.selects C y z).before a0 Z = true) (w4 : (Jvm.Cond.instanceMethod z).before a0 Z = true) (w5 : (Jvm.Cond.code z bytes maxL ret).before a0 Z = true) (w6 : (Jvm.Cond.initialized z.cls).before a0 Z = true)
    (hy : y.cls ≠ "java/lang/invoke/MethodHandle" ∧ y.cls ≠ "java/lang/invoke/VarHandle")
    {rm : Room} (W : Nat) {a : Addr} (E : Exa Z h a C) (argsL rest : List Value) {Q : Option Value → Heap → List Loc → Prop} (hM : own_Met l Z z bytes maxL ret [] rm (.ref a :: argsL).toArray h Q) (eT : T.heap = h)
    (hf : rm.frames + 1 ≤ R.frames) (hl : W + (maxL + 11) + rm.locals ≤ R.locals) (hc : cells + rm.cells ≤ R.cells) (hs : slots + rm.slots ≤ R.slots)
    {g : JFrame} (hg : g.method = m) (hsize : g.locals.size = c.maxLocals) {ps : List FieldType} {r : Option FieldType} (hpd : parseMethodDescriptor y.desc = some ⟨ps, r⟩) (hlen : argsL.length = ps.length)
    (hstack : g.stack = argsL.reverse ++ .ref a :: rest) (hW : 2 * g.monitorRoom + (rest.map fun v => v.category).sum ≤ W) (hd : decode c.code g.pc = .ok (.invokevirtual index, 3))
    {K : Outcome → State → Prop} (go : ∀ T' v L, Stand p l e R s m args below meth c T' (locs ++ L) (cells + rm.cells) (slots + rm.slots) → Q v T'.heap L → own_Goes p e below K T' { g with pc := g.pc + 3, stack := v.toList ++ rest }) : own_Goes p e below K T g := by
  obtain ⟨cq, kq, qa, qb, qc⟩ := isOf hZ eT E
  obtain ⟨v, _, ⟨T', L', k', n'⟩, -, X', ⟨Lc, hQ, l1, y1, z1⟩, st⟩ := X.virtualBack hx (y := y) (z := z) hown (mvT hZ w1) (mvT hZ w2) nf (mvT hZ w3) (mvT hZ w4) hy (backOf (W := W) hM hZ w5 w6 hf hl) qa qc hg hsize (Steps.refl _) (lenOf hpd hlen) hstack hW hd (fun _ _ => ⟨rfl, eT, hc, hs⟩)
  dsimp only [Pt.U, Pt.locs, Pt.cells, Pt.slots] at X' l1 y1 z1 st hQ
  subst l1 y1 z1
  exact own_step (fun t k => st.trans k) (go _ _ _ X' hQ)
theorem own_callC (X : Stand p l e R s m args below meth c T locs cells slots) (hx : p.tables.exec = Jvm.exec) (hZ : Z.Warmed39 s.vm) {own : String} {index : Nat} {y : MethodName} {bytes : ByteArray} {maxL : Nat} (hy1 : y.name = "<init>") (hown : s.vm.findClass own = some m.cls)
    (w1 : (Jvm.Cond.methodLink own index y).before a0 Z = true) (w2 : (Jvm.Cond.instanceMethod y).before a0 Z = true) (w3 : (Jvm.Cond.code y bytes maxL none).before a0 Z = true) (w4 : (Jvm.Cond.initialized y.cls).before a0 Z = true)
    (hy : y.cls ≠ "java/lang/invoke/MethodHandle" ∧ y.cls ≠ "java/lang/invoke/VarHandle")
    {rm : Room} (W : Nat) {a : Addr} (argsL rest : List Value) {Q : Option Value → Heap → List Loc → Prop} (hM : own_Met l Z y bytes maxL none [] rm (.ref a :: argsL).toArray h Q) (eT : T.heap = h)
    (hf : rm.frames + 1 ≤ R.frames) (hl : W + (maxL + 11) + rm.locals ≤ R.locals) (hc : cells + rm.cells ≤ R.cells) (hs : slots + rm.slots ≤ R.slots)
    {g : JFrame} (hg : g.method = m) (hsize : g.locals.size = c.maxLocals) {ps : List FieldType} {r : Option FieldType} (hpd : parseMethodDescriptor y.desc = some ⟨ps, r⟩) (hlen : argsL.length = ps.length)
    (hstack : g.stack = argsL.reverse ++ .ref a :: rest) (hW : 2 * g.monitorRoom + (rest.map fun v => v.category).sum ≤ W) (hd : decode c.code g.pc = .ok (.invokespecial index, 3))
    {K : Outcome → State → Prop} (go : ∀ T' v L, Stand p l e R s m args below meth c T' (locs ++ L) (cells + rm.cells) (slots + rm.slots) → Q v T'.heap L → own_Goes p e below K T' { g with pc := g.pc + 3, stack := v.toList ++ rest }) : own_Goes p e below K T g := by
  obtain ⟨v, _, ⟨T', L', k', n'⟩, -, X', ⟨Lc, hQ, l1, y1, z1⟩, st⟩ := X.specialBack hx (y := y) hy1 hown (mvT hZ w1) (mvT hZ w2) (mvT hZ w3) hy (backOf (W := W) hM hZ w3 w4 hf hl) hg hsize (Steps.refl _) (a := a) (lenOf hpd hlen) hstack hW hd (fun _ _ => ⟨rfl, eT, hc, hs⟩)
  dsimp only [Pt.U, Pt.locs, Pt.cells, Pt.slots] at X' l1 y1 z1 st hQ
  subst l1 y1 z1
  exact own_step (fun t k => st.trans k) (go _ _ _ X' hQ)
theorem own_fldI {t : Term} {C n d : String} {k : Int32} {a : Addr} (ev : t.eval args s none [] s = some (.ref a)) (hq : (Jvm.Cond.eq (.field t C n d) (.int k)).value args s none s [] = some true) : Fld s s.heap a C n d (.int k) := by
  have e1 := fld_at (C := C) (n := n) (dd := d) ev
  refine Fld.start ?_
  simp only [Jvm.Cond.value, e1, Term.int_eval] at hq
  cases hf : s.fieldOf? a C n d with
  | none => simp [hf] at hq
  | some v => cases v <;> simp [hf] at hq; rw [hq]
theorem own_callU (X : Stand p l e R s m args below meth c T locs cells slots) (hx : p.tables.exec = Jvm.exec) (hZ : Z.Warmed39 s.vm) {own C owner : String} {index : Nat} {y z : MethodName} {bytes : ByteArray} {maxL : Nat} {ret : Option FieldType} (hown : s.vm.findClass own = some m.cls)
    (w1 : (Jvm.Cond.methodLink own index y).before a0 Z = true) (w2 : (Jvm.Cond.sameMethod y.cls owner y.name y.desc).before a0 Z = true) (w2' : (Jvm.Cond.declares ⟨owner, y.name, y.desc⟩).before a0 Z = true) (w3 : (Jvm.Cond.selects C y z).before a0 Z = true) (w4 : (Jvm.Cond.instanceMethod z).before a0 Z = true) (w5 : (Jvm.Cond.code z bytes maxL ret).before a0 Z = true) (w6 : (Jvm.Cond.initialized z.cls).before a0 Z = true)
    (hy : owner ≠ "java/lang/invoke/MethodHandle" ∧ owner ≠ "java/lang/invoke/VarHandle")
    {rm : Room} (W : Nat) {a : Addr} (E : Exa Z h a C) (argsL rest : List Value) {Q : Option Value → Heap → List Loc → Prop} (hM : own_Met l Z z bytes maxL ret [] rm (.ref a :: argsL).toArray h Q) (eT : T.heap = h)
    (hf : rm.frames + 1 ≤ R.frames) (hl : W + (maxL + 11) + rm.locals ≤ R.locals) (hc : cells + rm.cells ≤ R.cells) (hs : slots + rm.slots ≤ R.slots)
    {g : JFrame} (hg : g.method = m) (hsize : g.locals.size = c.maxLocals) {ps : List FieldType} {r : Option FieldType} (hpd : parseMethodDescriptor y.desc = some ⟨ps, r⟩) (hlen : argsL.length = ps.length)
    (hstack : g.stack = argsL.reverse ++ .ref a :: rest) (hW : 2 * g.monitorRoom + (rest.map fun v => v.category).sum ≤ W) (hd : decode c.code g.pc = .ok (.invokevirtual index, 3))
    {K : Outcome → State → Prop} (go : ∀ T' v L, Stand p l e R s m args below meth c T' (locs ++ L) (cells + rm.cells) (slots + rm.slots) → Q v T'.heap L → own_Goes p e below K T' { g with pc := g.pc + 3, stack := v.toList ++ rest }) : own_Goes p e below K T g := by
  obtain ⟨cq, kq, qa, qb, qc⟩ := isOf hZ eT E
  obtain ⟨v, _, ⟨T', L', k', n'⟩, -, X', ⟨Lc, hQ, l1, y1, z1⟩, st⟩ := X.virtualBackUp hx (x := y) (y := z) hown (mvT hZ w1) (mvT hZ w2) (mvT hZ w2') hy (mvT hZ w3) (mvT hZ w4) (backOf (W := W) hM hZ w5 w6 hf hl) qa qc hg hsize (Steps.refl _) (lenOf hpd hlen) hstack hW hd (fun _ _ => ⟨rfl, eT, hc, hs⟩)
  dsimp only [Pt.U, Pt.locs, Pt.cells, Pt.slots] at X' l1 y1 z1 st hQ
  subst l1 y1 z1
  exact own_step (fun t k => st.trans k) (go _ _ _ X' hQ)
theorem own_aaload (X : Stand p l e R s m args below meth c T locs cells slots) (hx : p.tables.exec = Jvm.exec) (hZ : Z.Warmed39 s.vm) (eT : T.heap = h) {a : Addr} {k : ClassId} {ty : FieldType} {n : Int32} {vs : List Value} {dv : Value} (F : Arv Z h a k ty n vs dv) (hty : ty.isReference = true) {j : Int32} (v : Value) (hj : ¬ j < 0 ∧ j < n) (hv : vs.getD j.toNatClampNeg dv = v)
    {g : JFrame} (hg : g.method = m) {rest : List Value} (hs : g.stack = .int j :: .ref a :: rest) (hd : decode c.code g.pc = .ok (.aaload, 1)) : ∀ t, Steps p.tables e below (T.setTop { g with pc := g.pc + 1, stack := v :: rest }) t → Steps p.tables e below (T.setTop g) t := by
  obtain ⟨cl, A, q1, S, q3, H, G⟩ := F
  have hin := inb_of S hj
  exact fun t kk => X.aaload hx (by rw [eT]; exact A.1) (State.isArrayOf_alike hZ.alike A.2.1) hty A.2.2 hin (H.at hin hv) hg hs hd t kk
theorem own_aastore (X : Stand p l e R s m args below meth c T locs cells slots) (hx : p.tables.exec = Jvm.exec) (hZ : Z.Warmed39 s.vm) (eT : T.heap = h) {a : Addr} {k : ClassId} {C : String} {n : Int32} {vs : List Value} {dv : Value} (F : Arv Z h a k (.object C) n vs dv) (O : Ovr Z k C) {y : Addr} (I : Ins Z h y C true) {j : Int32} (hj : ¬ j < 0 ∧ j < n) (i : Nat) (hi : j.toNatClampNeg = i) (hl : i < vs.length)
    {g : JFrame} (hg : g.method = m) {rest : List Value} (hs : g.stack = .ref y :: .int j :: .ref a :: rest) (hd : decode c.code g.pc = .ok (.aastore, 1)) :
    ∃ T' h', Stand p l e R s m args below meth c T' (locs ++ [⟨a, j.toNatClampNeg⟩]) cells slots ∧ T'.heap = h' ∧ Wr h h' a j.toNatClampNeg (.ref y) ∧ Arv Z h' a k (.object C) n (vs.set i (.ref y)) dv ∧ ∀ target, Steps p.tables e below (T'.setTop { g with pc := g.pc + 1, stack := rest }) target → Steps p.tables e below (T.setTop g) target := by
  obtain ⟨cl, A, q1, S, q3, H, G⟩ := F
  obtain ⟨T', h', X', e', W', st⟩ := stR X hx hZ eT A (inb_of S hj) rfl (Sto.ofV A q1 O I) hg hs hd
  exact ⟨T', h', X', e', W', Arv.set A q1 S q3 H G rfl W' i hi hl, st⟩
theorem own_staKeep {C n d : String} {v : Value} {h' : Heap} {ws : List Addr} (F : Sta Z h C n d v) (K : Keep h h' ws) (q : ∀ x ∈ ws, ∀ cell : Cell, h[x]? = some cell → cell.vm.isStatics = false) : Sta Z h' C n d v := by
  obtain ⟨cf, i, k, f, st, cell, h1, h2, h3, h4, h5, h6, h7⟩ := F
  refine ⟨cf, i, k, f, st, cell, h1, h2, h3, h4, K.2.1 _ _ h5 (fun z => ?_), h6, h7⟩
  have := q _ z _ h5
  rw [h6] at this; cases this
end OwnKit
theorem own_pn_com_example_weaverbird_weaverbird_automaton_Guard_Truth : plainName "com/example/weaverbird/weaverbird/automaton/Guard$Truth" = true := by first | (simp [plainName, overriddenIn]; done) | decide +kernel
theorem own_ef0 (m : MethodId) (x0 : Int32) : entryFrame m #[(.int x0)] 1 = mkF m 0 #[.val (.int x0)] [] := by first | (simp [entryFrame, mkF, argsToLocals, Value.category]; done) | rfl
theorem own_prog_14_method_4_0 : decode prog_14_method_4_code 0 = .ok (.iload_n 0, 1) := by decide +kernel
theorem own_prog_14_method_4_1 : decode prog_14_method_4_code 1 = .ok (.ifCond .eq 9, 3) := by decide +kernel
theorem own_prog_14_method_4_4 : decode prog_14_method_4_code 4 = .ok (.getstatic 7, 3) := by decide +kernel
theorem own_prog_14_method_4_7 : decode prog_14_method_4_code 7 = .ok (.goto 6, 3) := by decide +kernel
theorem own_prog_14_method_4_13 : decode prog_14_method_4_code 13 = .ok (.areturn, 1) := by decide +kernel
set_option maxRecDepth 65536 in
set_option maxHeartbeats 40000000 in
theorem own_of1 (l : Launch) (Z : State) (a0 : Array Value) (hw : ∀ d ∈ tables_1, d.before a0 Z = true) (ws : List Jvm.Cond) (w_TRUE : Addr) (h0 : Heap) (n0 : Nat) (Z0 : n0 ≤ h0.size) (S_TRUE : Sta Z h0 "com/example/weaverbird/weaverbird/automaton/Guard$Truth" "TRUE" "Lcom/example/weaverbird/weaverbird/automaton/Guard$Truth;" (.ref w_TRUE)) :
    own_Met l Z (⟨"com/example/weaverbird/weaverbird/automaton/Guard$Truth", "of", "(Z)Lcom/example/weaverbird/weaverbird/automaton/Guard$Truth;"⟩ : MethodName) prog_14_method_4_code 1 (some (.object "com/example/weaverbird/weaverbird/automaton/Guard$Truth")) ws ({ frames := 0, cells := 0, slots := 0, locals := 0 } : Room) #[(.int (1 : Int32))] h0 (fun v h L => v = some (.ref w_TRUE) ∧ Fr n0 L ∧ h = h0) := by
  refine own_body (plainFor_of_name own_pn_com_example_weaverbird_weaverbird_automaton_Guard_Truth) (fun p e s m below meth c s₁ hx hby hml0 hrt hlk hown0 hnm hZ X0 e0 => ?_)
  have N0 := Fr.nil n0
  have hown : s.vm.findClass "com/example/weaverbird/weaverbird/automaton/Guard$Truth" = some m.cls := hown0
  have hml : c.maxLocals = 1 := hml0
  refine own_castG (own_ef0 m (1 : Int32)) ?_
  show own_Goes _ _ _ _ s₁ (mkF m 0 #[.val (.int (1 : Int32))] [])
  refine own_step (fun t k => XS.iloadN X0.here hx rfl (hb hby own_prog_14_method_4_0) rfl k) ?_
  show own_Goes _ _ _ _ s₁ (mkF m 1 #[.val (.int (1 : Int32))] [(.int (1 : Int32))])
  refine own_step (fun t k => XS.ifNo X0.here hx rfl (hb hby own_prog_14_method_4_1) rfl ((if0 _ _).trans (feq (show ¬ ((1 : Int32) = (0 : Int32)) from (by decide))).1) k) ?_
  show own_Goes _ _ _ _ s₁ (mkF m 4 #[.val (.int (1 : Int32))] [])
  obtain ⟨T1, X1, e1, st1⟩ := getS2 X0 hx hZ hown (host := "") (Or.inl (hw _ (List.mem_of_getElem? (i := 10) rfl))) Via.refl e0 S_TRUE (g := (mkF m 4 #[.val (.int (1 : Int32))] [])) rfl (hb hby own_prog_14_method_4_4)
  refine own_step st1 ?_
  show own_Goes _ _ _ _ T1 (mkF m 7 #[.val (.int (1 : Int32))] [(.ref w_TRUE)])
  refine own_step (fun t k => XS.goto X1.here hx rfl (pc0 := 7) (pc' := 13) rfl (hb hby own_prog_14_method_4_7) (by decide) (by decide) k) ?_
  show own_Goes _ _ _ _ T1 (mkF m 13 #[.val (.int (1 : Int32))] [(.ref w_TRUE)])
  exact own_retA X1 hx hlk hrt rfl rfl rfl (hb hby own_prog_14_method_4_13) ⟨rfl, N0, e1⟩ (by decide) (by decide)
theorem own_prog_14_method_4_10 : decode prog_14_method_4_code 10 = .ok (.getstatic 3, 3) := by decide +kernel
set_option maxRecDepth 65536 in
set_option maxHeartbeats 40000000 in
theorem own_of0 (l : Launch) (Z : State) (a0 : Array Value) (hw : ∀ d ∈ tables_1, d.before a0 Z = true) (ws : List Jvm.Cond) (w_FALSE : Addr) (h0 : Heap) (n0 : Nat) (Z0 : n0 ≤ h0.size) (S_FALSE : Sta Z h0 "com/example/weaverbird/weaverbird/automaton/Guard$Truth" "FALSE" "Lcom/example/weaverbird/weaverbird/automaton/Guard$Truth;" (.ref w_FALSE)) :
    own_Met l Z (⟨"com/example/weaverbird/weaverbird/automaton/Guard$Truth", "of", "(Z)Lcom/example/weaverbird/weaverbird/automaton/Guard$Truth;"⟩ : MethodName) prog_14_method_4_code 1 (some (.object "com/example/weaverbird/weaverbird/automaton/Guard$Truth")) ws ({ frames := 0, cells := 0, slots := 0, locals := 0 } : Room) #[(.int (0 : Int32))] h0 (fun v h L => v = some (.ref w_FALSE) ∧ Fr n0 L ∧ h = h0) := by
  refine own_body (plainFor_of_name own_pn_com_example_weaverbird_weaverbird_automaton_Guard_Truth) (fun p e s m below meth c s₁ hx hby hml0 hrt hlk hown0 hnm hZ X0 e0 => ?_)
  have N0 := Fr.nil n0
  have hown : s.vm.findClass "com/example/weaverbird/weaverbird/automaton/Guard$Truth" = some m.cls := hown0
  have hml : c.maxLocals = 1 := hml0
  refine own_castG (own_ef0 m (0 : Int32)) ?_
  show own_Goes _ _ _ _ s₁ (mkF m 0 #[.val (.int (0 : Int32))] [])
  refine own_step (fun t k => XS.iloadN X0.here hx rfl (hb hby own_prog_14_method_4_0) rfl k) ?_
  show own_Goes _ _ _ _ s₁ (mkF m 1 #[.val (.int (0 : Int32))] [(.int (0 : Int32))])
  refine own_step (fun t k => XS.ifYes X0.here hx rfl (pc0 := 1) (pc' := 10) rfl (hb hby own_prog_14_method_4_1) rfl ((if0 _ _).trans (teq (show (0 : Int32) = (0 : Int32) from (by decide))).1) (by decide) (by decide) k) ?_
  show own_Goes _ _ _ _ s₁ (mkF m 10 #[.val (.int (0 : Int32))] [])
  obtain ⟨T1, X1, e1, st1⟩ := getS2 X0 hx hZ hown (host := "") (Or.inl (hw _ (List.mem_of_getElem? (i := 4) rfl))) Via.refl e0 S_FALSE (g := (mkF m 10 #[.val (.int (0 : Int32))] [])) rfl (hb hby own_prog_14_method_4_10)
  refine own_step st1 ?_
  show own_Goes _ _ _ _ T1 (mkF m 13 #[.val (.int (0 : Int32))] [(.ref w_FALSE)])
  exact own_retA X1 hx hlk hrt rfl rfl rfl (hb hby own_prog_14_method_4_13) ⟨rfl, N0, e1⟩ (by decide) (by decide)
theorem own_pn_com_example_weaverbird_weaverbird_automaton_TruthOfPinLaw : plainName "com/example/weaverbird/weaverbird/automaton/TruthOfPinLaw" = true := by first | (simp [plainName, overriddenIn]; done) | decide +kernel
theorem own_ef1 (m : MethodId) (x0 : Int32) : entryFrame m #[(.int x0)] maxLocals = mkF m 0 #[.val (.int x0), .unset, .unset, .unset] [] := by first | (simp [entryFrame, mkF, argsToLocals, Value.category, maxLocals]; done) | rfl
theorem own_pd0 : parseMethodDescriptor "(Z)Lcom/example/weaverbird/weaverbird/automaton/Guard$Truth;" = some ⟨[.boolean], some (.object "com/example/weaverbird/weaverbird/automaton/Guard$Truth")⟩ := by decide +kernel
set_option maxRecDepth 65536 in
set_option maxHeartbeats 40000000 in
theorem own_law (l : Launch) (Z : State) (a0 : Array Value) (hw : ∀ d ∈ tables_1, d.before a0 Z = true) (ws : List Jvm.Cond) (p1 : Int32) (w_TRUE : Addr) (w_FALSE : Addr) (w_OPEN : Addr) (h0 : Heap) (n0 : Nat) (Z0 : n0 ≤ h0.size) (S_TRUE : Sta Z h0 "com/example/weaverbird/weaverbird/automaton/Guard$Truth" "TRUE" "Lcom/example/weaverbird/weaverbird/automaton/Guard$Truth;" (.ref w_TRUE)) (S_FALSE : Sta Z h0 "com/example/weaverbird/weaverbird/automaton/Guard$Truth" "FALSE" "Lcom/example/weaverbird/weaverbird/automaton/Guard$Truth;" (.ref w_FALSE)) (S_OPEN : Sta Z h0 "com/example/weaverbird/weaverbird/automaton/Guard$Truth" "OPEN" "Lcom/example/weaverbird/weaverbird/automaton/Guard$Truth;" (.ref w_OPEN)) (ne_TRUE_OPEN : ¬ (w_TRUE = w_OPEN)) (ne_FALSE_OPEN : ¬ (w_FALSE = w_OPEN)) (ne_FALSE_TRUE : ¬ (w_FALSE = w_TRUE)) :
    own_Met l Z x code maxLocals ret ws room_1 #[(.int p1)] h0 (fun v h L => v = some (.int 1) ∧ Fr n0 L) := by
  refine own_body (plainFor_of_name own_pn_com_example_weaverbird_weaverbird_automaton_TruthOfPinLaw) (fun p e s m below meth c s₁ hx hby hml0 hrt hlk hown0 hnm hZ X0 e0 => ?_)
  have N0 := Fr.nil n0
  have hown : s.vm.findClass "com/example/weaverbird/weaverbird/automaton/TruthOfPinLaw" = some m.cls := hown0
  have hml : c.maxLocals = 4 := hml0
  refine own_castG (own_ef1 m p1) ?_
  show own_Goes _ _ _ _ s₁ (mkF m 0 #[.val (.int p1), .unset, .unset, .unset] [])
  refine own_step (fun t k => XS.iloadN X0.here hx rfl (hb hby at_0) rfl k) ?_
  show own_Goes _ _ _ _ s₁ (mkF m 1 #[.val (.int p1), .unset, .unset, .unset] [(.int p1)])
  refine own_step (fun t k => XS.iconst X0.here hx rfl (hb hby at_1) k) ?_
  show own_Goes _ _ _ _ s₁ (mkF m 2 #[.val (.int p1), .unset, .unset, .unset] [(.int (1 : Int32)), (.int p1)])
  refine own_step (fun t k => XS.iand X0.here hx rfl (hb hby at_2) rfl k) ?_
  show own_Goes _ _ _ _ s₁ (mkF m 3 #[.val (.int p1), .unset, .unset, .unset] [(.int (p1 &&& (1 : Int32)))])
  by_cases hc3_1 : (p1 &&& (1 : Int32)) = (0 : Int32)
  · refine own_step (fun t k => XS.ifYes X0.here hx rfl (pc0 := 3) (pc' := 10) rfl (hb hby at_3) rfl ((if0 _ _).trans (teq (show (p1 &&& (1 : Int32)) = (0 : Int32) from hc3_1)).1) (by decide) (by decide) k) ?_
    show own_Goes _ _ _ _ s₁ (mkF m 10 #[.val (.int p1), .unset, .unset, .unset] [])
    refine own_step (fun t k => XS.iconst X0.here hx rfl (hb hby at_10) k) ?_
    show own_Goes _ _ _ _ s₁ (mkF m 11 #[.val (.int p1), .unset, .unset, .unset] [(.int (0 : Int32))])
    refine own_step (fun t k => XS.istoreN X0.here hx rfl (hb hby at_11) rfl (l' := #[.val (.int p1), .val (.int (0 : Int32)), .unset, .unset]) rfl k) ?_
    show own_Goes _ _ _ _ s₁ (mkF m 12 #[.val (.int p1), .val (.int (0 : Int32)), .unset, .unset] [])
    refine own_step (fun t k => XS.iloadN X0.here hx rfl (hb hby at_12) rfl k) ?_
    show own_Goes _ _ _ _ s₁ (mkF m 13 #[.val (.int p1), .val (.int (0 : Int32)), .unset, .unset] [(.int (0 : Int32))])
    refine own_callS X0 hx hZ (y := (⟨"com/example/weaverbird/weaverbird/automaton/Guard$Truth", "of", "(Z)Lcom/example/weaverbird/weaverbird/automaton/Guard$Truth;"⟩ : MethodName)) hown (hw _ (List.mem_of_getElem? (i := 0) rfl)) (hw _ (List.mem_of_getElem? (i := 1) rfl)) (hw _ (List.mem_of_getElem? (i := 2) rfl)) (hw _ (List.mem_of_getElem? (i := 3) rfl)) (by decide) 0 [(.int (0 : Int32))] [] (own_of0 l Z a0 hw [] w_FALSE h0 n0 Z0 S_FALSE) e0 (by decide) (by decide) (by decide) (by decide) (g := (mkF m 13 #[.val (.int p1), .val (.int (0 : Int32)), .unset, .unset] [(.int (0 : Int32))])) rfl (by rw [hml]; rfl) own_pd0 rfl rfl (by show 2 * 0 + _ ≤ _; exact Nat.le_of_eq rfl) (hb hby at_13) ?_
    intro T2 v2 L2 X2 hQ2
    obtain ⟨rfl, N2q, e2⟩ := hQ2
    have N2 := Fr.app N0 N2q
    show own_Goes _ _ _ _ T2 (mkF m 16 #[.val (.int p1), .val (.int (0 : Int32)), .unset, .unset] [(.ref w_FALSE)])
    refine own_step (fun t k => XS.astoreN X2.here hx rfl (hb hby at_16) rfl rfl (l' := #[.val (.int p1), .val (.int (0 : Int32)), .val (.ref w_FALSE), .unset]) rfl k) ?_
    show own_Goes _ _ _ _ T2 (mkF m 17 #[.val (.int p1), .val (.int (0 : Int32)), .val (.ref w_FALSE), .unset] [])
    refine own_step (fun t k => XS.aloadN X2.here hx rfl (hb hby at_17) rfl rfl k) ?_
    show own_Goes _ _ _ _ T2 (mkF m 18 #[.val (.int p1), .val (.int (0 : Int32)), .val (.ref w_FALSE), .unset] [(.ref w_FALSE)])
    refine own_step (fun t k => XS.ifnonnullYes X2.here hx rfl (pc0 := 18) (pc' := 23) rfl (hb hby at_18) rfl (by decide) (by decide) k) ?_
    show own_Goes _ _ _ _ T2 (mkF m 23 #[.val (.int p1), .val (.int (0 : Int32)), .val (.ref w_FALSE), .unset] [])
    refine own_step (fun t k => XS.aloadN X2.here hx rfl (hb hby at_23) rfl rfl k) ?_
    show own_Goes _ _ _ _ T2 (mkF m 24 #[.val (.int p1), .val (.int (0 : Int32)), .val (.ref w_FALSE), .unset] [(.ref w_FALSE)])
    obtain ⟨T3, X3, e3, st3⟩ := getS2 X2 hx hZ hown (host := "") (Or.inl (hw _ (List.mem_of_getElem? (i := 6) rfl))) Via.refl e2 S_OPEN (g := (mkF m 24 #[.val (.int p1), .val (.int (0 : Int32)), .val (.ref w_FALSE), .unset] [(.ref w_FALSE)])) rfl (hb hby at_24)
    refine own_step st3 ?_
    show own_Goes _ _ _ _ T3 (mkF m 27 #[.val (.int p1), .val (.int (0 : Int32)), .val (.ref w_FALSE), .unset] [(.ref w_OPEN), (.ref w_FALSE)])
    refine own_step (fun t k => Jvm.RoadKit.acmp (g := (mkF m 27 #[.val (.int p1), .val (.int (0 : Int32)), .val (.ref w_FALSE), .unset] [(.ref w_OPEN), (.ref w_FALSE)])) X3 hx rfl rfl rfl (pc0 := 27) (pc' := 32) (same := false) rfl (hb hby at_27) rfl (decide_eq_false fun q => ne_FALSE_OPEN (Value.ref.inj q)) (by decide) (by decide) k) ?_
    show own_Goes _ _ _ _ T3 (mkF m 32 #[.val (.int p1), .val (.int (0 : Int32)), .val (.ref w_FALSE), .unset] [])
    refine own_step (fun t k => XS.aloadN X3.here hx rfl (hb hby at_32) rfl rfl k) ?_
    show own_Goes _ _ _ _ T3 (mkF m 33 #[.val (.int p1), .val (.int (0 : Int32)), .val (.ref w_FALSE), .unset] [(.ref w_FALSE)])
    obtain ⟨T4, X4, e4, st4⟩ := getS2 X3 hx hZ hown (host := "") (Or.inl (hw _ (List.mem_of_getElem? (i := 8) rfl))) Via.refl e3 S_TRUE (g := (mkF m 33 #[.val (.int p1), .val (.int (0 : Int32)), .val (.ref w_FALSE), .unset] [(.ref w_FALSE)])) rfl (hb hby at_33)
    refine own_step st4 ?_
    show own_Goes _ _ _ _ T4 (mkF m 36 #[.val (.int p1), .val (.int (0 : Int32)), .val (.ref w_FALSE), .unset] [(.ref w_TRUE), (.ref w_FALSE)])
    refine own_step (fun t k => Jvm.RoadKit.acmp (g := (mkF m 36 #[.val (.int p1), .val (.int (0 : Int32)), .val (.ref w_FALSE), .unset] [(.ref w_TRUE), (.ref w_FALSE)])) X4 hx rfl rfl rfl (pc0 := 36) (pc' := 43) (same := false) rfl (hb hby at_36) rfl (decide_eq_false fun q => ne_FALSE_TRUE (Value.ref.inj q)) (by decide) (by decide) k) ?_
    show own_Goes _ _ _ _ T4 (mkF m 43 #[.val (.int p1), .val (.int (0 : Int32)), .val (.ref w_FALSE), .unset] [])
    refine own_step (fun t k => XS.iconst X4.here hx rfl (hb hby at_43) k) ?_
    show own_Goes _ _ _ _ T4 (mkF m 44 #[.val (.int p1), .val (.int (0 : Int32)), .val (.ref w_FALSE), .unset] [(.int (0 : Int32))])
    refine own_step (fun t k => XS.istoreN X4.here hx rfl (hb hby at_44) rfl (l' := #[.val (.int p1), .val (.int (0 : Int32)), .val (.ref w_FALSE), .val (.int (0 : Int32))]) rfl k) ?_
    show own_Goes _ _ _ _ T4 (mkF m 45 #[.val (.int p1), .val (.int (0 : Int32)), .val (.ref w_FALSE), .val (.int (0 : Int32))] [])
    refine own_step (fun t k => XS.iloadN X4.here hx rfl (hb hby at_45) rfl k) ?_
    show own_Goes _ _ _ _ T4 (mkF m 46 #[.val (.int p1), .val (.int (0 : Int32)), .val (.ref w_FALSE), .val (.int (0 : Int32))] [(.int (0 : Int32))])
    refine own_step (fun t k => XS.iloadN X4.here hx rfl (hb hby at_46) rfl k) ?_
    show own_Goes _ _ _ _ T4 (mkF m 47 #[.val (.int p1), .val (.int (0 : Int32)), .val (.ref w_FALSE), .val (.int (0 : Int32))] [(.int (0 : Int32)), (.int (0 : Int32))])
    refine own_step (fun t k => XS.icmpNo X4.here hx rfl (hb hby at_47) rfl (teq (show (0 : Int32) = (0 : Int32) from (by decide))).2 k) ?_
    show own_Goes _ _ _ _ T4 (mkF m 50 #[.val (.int p1), .val (.int (0 : Int32)), .val (.ref w_FALSE), .val (.int (0 : Int32))] [])
    refine own_step (fun t k => XS.iconst X4.here hx rfl (hb hby at_50) k) ?_
    show own_Goes _ _ _ _ T4 (mkF m 51 #[.val (.int p1), .val (.int (0 : Int32)), .val (.ref w_FALSE), .val (.int (0 : Int32))] [(.int (1 : Int32))])
    refine own_step (fun t k => XS.goto X4.here hx rfl (pc0 := 51) (pc' := 55) rfl (hb hby at_51) (by decide) (by decide) k) ?_
    show own_Goes _ _ _ _ T4 (mkF m 55 #[.val (.int p1), .val (.int (0 : Int32)), .val (.ref w_FALSE), .val (.int (0 : Int32))] [(.int (1 : Int32))])
    exact own_retN X4 hx hlk (t := .boolean) hrt (by simp) (hb hby at_55) ⟨rfl, N2⟩ (by decide) (by decide)
  · refine own_step (fun t k => XS.ifNo X0.here hx rfl (hb hby at_3) rfl ((if0 _ _).trans (feq (show ¬ ((p1 &&& (1 : Int32)) = (0 : Int32)) from hc3_1)).1) k) ?_
    show own_Goes _ _ _ _ s₁ (mkF m 6 #[.val (.int p1), .unset, .unset, .unset] [])
    refine own_step (fun t k => XS.iconst X0.here hx rfl (hb hby at_6) k) ?_
    show own_Goes _ _ _ _ s₁ (mkF m 7 #[.val (.int p1), .unset, .unset, .unset] [(.int (1 : Int32))])
    refine own_step (fun t k => XS.goto X0.here hx rfl (pc0 := 7) (pc' := 11) rfl (hb hby at_7) (by decide) (by decide) k) ?_
    show own_Goes _ _ _ _ s₁ (mkF m 11 #[.val (.int p1), .unset, .unset, .unset] [(.int (1 : Int32))])
    refine own_step (fun t k => XS.istoreN X0.here hx rfl (hb hby at_11) rfl (l' := #[.val (.int p1), .val (.int (1 : Int32)), .unset, .unset]) rfl k) ?_
    show own_Goes _ _ _ _ s₁ (mkF m 12 #[.val (.int p1), .val (.int (1 : Int32)), .unset, .unset] [])
    refine own_step (fun t k => XS.iloadN X0.here hx rfl (hb hby at_12) rfl k) ?_
    show own_Goes _ _ _ _ s₁ (mkF m 13 #[.val (.int p1), .val (.int (1 : Int32)), .unset, .unset] [(.int (1 : Int32))])
    refine own_callS X0 hx hZ (y := (⟨"com/example/weaverbird/weaverbird/automaton/Guard$Truth", "of", "(Z)Lcom/example/weaverbird/weaverbird/automaton/Guard$Truth;"⟩ : MethodName)) hown (hw _ (List.mem_of_getElem? (i := 0) rfl)) (hw _ (List.mem_of_getElem? (i := 1) rfl)) (hw _ (List.mem_of_getElem? (i := 2) rfl)) (hw _ (List.mem_of_getElem? (i := 3) rfl)) (by decide) 0 [(.int (1 : Int32))] [] (own_of1 l Z a0 hw [] w_TRUE h0 n0 Z0 S_TRUE) e0 (by decide) (by decide) (by decide) (by decide) (g := (mkF m 13 #[.val (.int p1), .val (.int (1 : Int32)), .unset, .unset] [(.int (1 : Int32))])) rfl (by rw [hml]; rfl) own_pd0 rfl rfl (by show 2 * 0 + _ ≤ _; exact Nat.le_of_eq rfl) (hb hby at_13) ?_
    intro T5 v5 L5 X5 hQ5
    obtain ⟨rfl, N5q, e5⟩ := hQ5
    have N5 := Fr.app N0 N5q
    show own_Goes _ _ _ _ T5 (mkF m 16 #[.val (.int p1), .val (.int (1 : Int32)), .unset, .unset] [(.ref w_TRUE)])
    refine own_step (fun t k => XS.astoreN X5.here hx rfl (hb hby at_16) rfl rfl (l' := #[.val (.int p1), .val (.int (1 : Int32)), .val (.ref w_TRUE), .unset]) rfl k) ?_
    show own_Goes _ _ _ _ T5 (mkF m 17 #[.val (.int p1), .val (.int (1 : Int32)), .val (.ref w_TRUE), .unset] [])
    refine own_step (fun t k => XS.aloadN X5.here hx rfl (hb hby at_17) rfl rfl k) ?_
    show own_Goes _ _ _ _ T5 (mkF m 18 #[.val (.int p1), .val (.int (1 : Int32)), .val (.ref w_TRUE), .unset] [(.ref w_TRUE)])
    refine own_step (fun t k => XS.ifnonnullYes X5.here hx rfl (pc0 := 18) (pc' := 23) rfl (hb hby at_18) rfl (by decide) (by decide) k) ?_
    show own_Goes _ _ _ _ T5 (mkF m 23 #[.val (.int p1), .val (.int (1 : Int32)), .val (.ref w_TRUE), .unset] [])
    refine own_step (fun t k => XS.aloadN X5.here hx rfl (hb hby at_23) rfl rfl k) ?_
    show own_Goes _ _ _ _ T5 (mkF m 24 #[.val (.int p1), .val (.int (1 : Int32)), .val (.ref w_TRUE), .unset] [(.ref w_TRUE)])
    obtain ⟨T6, X6, e6, st6⟩ := getS2 X5 hx hZ hown (host := "") (Or.inl (hw _ (List.mem_of_getElem? (i := 6) rfl))) Via.refl e5 S_OPEN (g := (mkF m 24 #[.val (.int p1), .val (.int (1 : Int32)), .val (.ref w_TRUE), .unset] [(.ref w_TRUE)])) rfl (hb hby at_24)
    refine own_step st6 ?_
    show own_Goes _ _ _ _ T6 (mkF m 27 #[.val (.int p1), .val (.int (1 : Int32)), .val (.ref w_TRUE), .unset] [(.ref w_OPEN), (.ref w_TRUE)])
    refine own_step (fun t k => Jvm.RoadKit.acmp (g := (mkF m 27 #[.val (.int p1), .val (.int (1 : Int32)), .val (.ref w_TRUE), .unset] [(.ref w_OPEN), (.ref w_TRUE)])) X6 hx rfl rfl rfl (pc0 := 27) (pc' := 32) (same := false) rfl (hb hby at_27) rfl (decide_eq_false fun q => ne_TRUE_OPEN (Value.ref.inj q)) (by decide) (by decide) k) ?_
    show own_Goes _ _ _ _ T6 (mkF m 32 #[.val (.int p1), .val (.int (1 : Int32)), .val (.ref w_TRUE), .unset] [])
    refine own_step (fun t k => XS.aloadN X6.here hx rfl (hb hby at_32) rfl rfl k) ?_
    show own_Goes _ _ _ _ T6 (mkF m 33 #[.val (.int p1), .val (.int (1 : Int32)), .val (.ref w_TRUE), .unset] [(.ref w_TRUE)])
    obtain ⟨T7, X7, e7, st7⟩ := getS2 X6 hx hZ hown (host := "") (Or.inl (hw _ (List.mem_of_getElem? (i := 8) rfl))) Via.refl e6 S_TRUE (g := (mkF m 33 #[.val (.int p1), .val (.int (1 : Int32)), .val (.ref w_TRUE), .unset] [(.ref w_TRUE)])) rfl (hb hby at_33)
    refine own_step st7 ?_
    show own_Goes _ _ _ _ T7 (mkF m 36 #[.val (.int p1), .val (.int (1 : Int32)), .val (.ref w_TRUE), .unset] [(.ref w_TRUE), (.ref w_TRUE)])
    refine own_step (fun t k => Jvm.RoadKit.acmp (g := (mkF m 36 #[.val (.int p1), .val (.int (1 : Int32)), .val (.ref w_TRUE), .unset] [(.ref w_TRUE), (.ref w_TRUE)])) X7 hx rfl rfl rfl (pc0 := 36) (pc' := 39) (same := true) rfl (hb hby at_36) rfl (decide_eq_true rfl) (by decide) (by decide) k) ?_
    show own_Goes _ _ _ _ T7 (mkF m 39 #[.val (.int p1), .val (.int (1 : Int32)), .val (.ref w_TRUE), .unset] [])
    refine own_step (fun t k => XS.iconst X7.here hx rfl (hb hby at_39) k) ?_
    show own_Goes _ _ _ _ T7 (mkF m 40 #[.val (.int p1), .val (.int (1 : Int32)), .val (.ref w_TRUE), .unset] [(.int (1 : Int32))])
    refine own_step (fun t k => XS.goto X7.here hx rfl (pc0 := 40) (pc' := 44) rfl (hb hby at_40) (by decide) (by decide) k) ?_
    show own_Goes _ _ _ _ T7 (mkF m 44 #[.val (.int p1), .val (.int (1 : Int32)), .val (.ref w_TRUE), .unset] [(.int (1 : Int32))])
    refine own_step (fun t k => XS.istoreN X7.here hx rfl (hb hby at_44) rfl (l' := #[.val (.int p1), .val (.int (1 : Int32)), .val (.ref w_TRUE), .val (.int (1 : Int32))]) rfl k) ?_
    show own_Goes _ _ _ _ T7 (mkF m 45 #[.val (.int p1), .val (.int (1 : Int32)), .val (.ref w_TRUE), .val (.int (1 : Int32))] [])
    refine own_step (fun t k => XS.iloadN X7.here hx rfl (hb hby at_45) rfl k) ?_
    show own_Goes _ _ _ _ T7 (mkF m 46 #[.val (.int p1), .val (.int (1 : Int32)), .val (.ref w_TRUE), .val (.int (1 : Int32))] [(.int (1 : Int32))])
    refine own_step (fun t k => XS.iloadN X7.here hx rfl (hb hby at_46) rfl k) ?_
    show own_Goes _ _ _ _ T7 (mkF m 47 #[.val (.int p1), .val (.int (1 : Int32)), .val (.ref w_TRUE), .val (.int (1 : Int32))] [(.int (1 : Int32)), (.int (1 : Int32))])
    refine own_step (fun t k => XS.icmpNo X7.here hx rfl (hb hby at_47) rfl (teq (show (1 : Int32) = (1 : Int32) from (by decide))).2 k) ?_
    show own_Goes _ _ _ _ T7 (mkF m 50 #[.val (.int p1), .val (.int (1 : Int32)), .val (.ref w_TRUE), .val (.int (1 : Int32))] [])
    refine own_step (fun t k => XS.iconst X7.here hx rfl (hb hby at_50) k) ?_
    show own_Goes _ _ _ _ T7 (mkF m 51 #[.val (.int p1), .val (.int (1 : Int32)), .val (.ref w_TRUE), .val (.int (1 : Int32))] [(.int (1 : Int32))])
    refine own_step (fun t k => XS.goto X7.here hx rfl (pc0 := 51) (pc' := 55) rfl (hb hby at_51) (by decide) (by decide) k) ?_
    show own_Goes _ _ _ _ T7 (mkF m 55 #[.val (.int p1), .val (.int (1 : Int32)), .val (.ref w_TRUE), .val (.int (1 : Int32))] [(.int (1 : Int32))])
    exact own_retN X7 hx hlk (t := .boolean) hrt (by simp) (hb hby at_55) ⟨rfl, N5⟩ (by decide) (by decide)
set_option maxRecDepth 65536 in
set_option maxHeartbeats 40000000 in
theorem comes_1 {Post : Tables → Env → Array Value → State → Outcome → State → Prop} (hpost : ∀ tb e args s v u, (limb_1_1.after args s (.returned v) u = true ∧ limb_1_2.after args s (.returned v) u = true ∧ True) → FrameEnd s (.returned v) u (Jvm.fieldLocs frame_1_writes args s ++ Jvm.arrayLocs frame_1_arrays args s ++ Jvm.staticLocs frame_1_statics s) 0 0 → Post tb e args s (.returned v) u) :
    ArmFor flags0 classFile x code maxLocals ret World_1 tables_1 room_1 Calls_1 rest_1 Pre_1 Post := by
  intro l hfl _ _ p e ha hc hk s m args below hf hA hF happ hP
  obtain ⟨hcalls, hrest, hpre⟩ := hP
  obtain ⟨-, -, -, hnamed, -, -, -, hat⟩ := (Spec.applies_iff hf).mp happ
  obtain ⟨hg, hn⟩ := and_e (Cond.before_iff.mp (show (Jvm.Cond.and given_1 narrow_1).before args s = true from hpre))
  obtain ⟨q1, q2⟩ := and_e hg
  obtain ⟨q3, q4⟩ := and_e hn
  obtain ⟨q5, q6⟩ := and_e q4
  obtain ⟨q7, q8⟩ := and_e q6
  obtain ⟨q9, q10⟩ := and_e q8
  obtain ⟨q11, q12⟩ := and_e q10
  obtain ⟨w0, rfl⟩ : ∃ w0 : Value, args = #[w0] := by
    have hs : args.size = 1 := by simpa [Cond.value, given_1] using q1
    obtain ⟨L⟩ := args
    match L, hs with
    | [w0], _ => exact ⟨w0, rfl⟩
  have hw := fun d (hd : d ∈ tables_1) => atoms_spec (ws := Jvm.Cond.code x code maxLocals ret :: tables_1) hat d (List.mem_cons_of_mem _ hd)
  have hfit : Fit s := fun {y c} hc i hi => by
    obtain ⟨ha, rfl⟩ := Array.getElem?_eq_some_iff.mp hc
    have q := List.all_eq_true.mp ((Array.all_eq_true_iff_forall_mem.mp hF) _ (Array.getElem_mem ha)) i (List.mem_range.mpr hi)
    simpa [Array.getElem?_eq_getElem hi] using q
  obtain ⟨i0, ei0⟩ := is_v q2
  obtain rfl : w0 = (.int i0) := Option.some.inj ei0
  obtain ⟨w_FALSE, ev_FALSE⟩ := exa_v q3
  have S_FALSE : Sta s s.heap "com/example/weaverbird/weaverbird/automaton/Guard$Truth" "FALSE" "Lcom/example/weaverbird/weaverbird/automaton/Guard$Truth;" (.ref w_FALSE) := Sta.start ev_FALSE (Or.inr ⟨(hw _ (List.mem_of_getElem? (i := 2) rfl)), (hw _ (List.mem_of_getElem? (i := 5) rfl))⟩)
  have E_w_FALSE : Exa s s.heap w_FALSE "com/example/weaverbird/weaverbird/automaton/Guard$Truth" := Exa.start ev_FALSE q3
  obtain ⟨w_OPEN, ev_OPEN⟩ := exa_v q5
  have S_OPEN : Sta s s.heap "com/example/weaverbird/weaverbird/automaton/Guard$Truth" "OPEN" "Lcom/example/weaverbird/weaverbird/automaton/Guard$Truth;" (.ref w_OPEN) := Sta.start ev_OPEN (Or.inr ⟨(hw _ (List.mem_of_getElem? (i := 2) rfl)), (hw _ (List.mem_of_getElem? (i := 7) rfl))⟩)
  have E_w_OPEN : Exa s s.heap w_OPEN "com/example/weaverbird/weaverbird/automaton/Guard$Truth" := Exa.start ev_OPEN q5
  obtain ⟨w_TRUE, ev_TRUE⟩ := exa_v q11
  have S_TRUE : Sta s s.heap "com/example/weaverbird/weaverbird/automaton/Guard$Truth" "TRUE" "Lcom/example/weaverbird/weaverbird/automaton/Guard$Truth;" (.ref w_TRUE) := Sta.start ev_TRUE (Or.inr ⟨(hw _ (List.mem_of_getElem? (i := 2) rfl)), (hw _ (List.mem_of_getElem? (i := 9) rfl))⟩)
  have E_w_TRUE : Exa s s.heap w_TRUE "com/example/weaverbird/weaverbird/automaton/Guard$Truth" := Exa.start ev_TRUE q11
  have F_w_FALSE_ordinal : Fld s s.heap w_FALSE "java/lang/Enum" "ordinal" "I" (.int (0 : Int32)) := own_fldI ev_FALSE q7
  have F_w_OPEN_ordinal : Fld s s.heap w_OPEN "java/lang/Enum" "ordinal" "I" (.int (2 : Int32)) := own_fldI ev_OPEN q9
  have F_w_TRUE_ordinal : Fld s s.heap w_TRUE "java/lang/Enum" "ordinal" "I" (.int (1 : Int32)) := own_fldI ev_TRUE q12
  obtain ⟨n, o, h1, h2, h3, _, L, rfl, ⟨rfl, N⟩, hq⟩ := own_law l s _ hw tables_1 i0 w_TRUE w_FALSE w_OPEN s.heap s.heap.size (Nat.le_refl _) S_TRUE S_FALSE S_OPEN (F_w_TRUE_ordinal.ne F_w_OPEN_ordinal (by decide)) (F_w_FALSE_ordinal.ne F_w_OPEN_ordinal (by decide)) (F_w_FALSE_ordinal.ne F_w_TRUE_ordinal (by decide)) p e ha hc hk s m _ below hf ((Spec.applies_iff_loose hf).mp happ).1 ⟨rfl, State.Warmed39.refl s, rfl⟩ trivial
  refine ⟨n, _, h1, h2, h3, hpost _ _ _ _ _ _ ⟨Cond.after_iff.mpr rfl, Cond.after_iff.mpr (eq_i res_at (Term.int_eval (1)) rfl), trivial⟩ ⟨hq.1, hq.2.1, (hq.2.2.sift fun y hy => Or.inr (N y hy)).mono (by decide) (by decide)⟩⟩
theorem main_1_1 : Claimed_1_1 := comes_1 fun _ _ _ _ _ _ h hF => ⟨h.1, hF⟩
theorem main_1_2 : Claimed_1_2 := comes_1 fun _ _ _ _ _ _ h hF => ⟨h.2.1, hF⟩
end Jvm.Pilot.@@N@@
namespace Jvm.Pilot.@@N@@
open Jvm Jvm.ClassFile Sem Op Lib Jvm.Free Jvm.Stand Jvm.Pilot.@@N@@.Jvm.D
/-! MADE BY PROGRAM (witnessworld.py) out of the Statement's table words and the real class files: 10 classes; the members and pool entries that the words name. The judged class is class 1, her method 1. -/
namespace start1
open Jvm.ClassFile
def u (s : String) : CpInfo := .utf8 (stringToUtf16 s)
/-- a pool by its gaps: so many unusable entries, then the entry; so many at the end -/
def gap : Nat → List CpInfo → List CpInfo
  | 0, r => r
  | n + 1, r => .unusable :: gap n r
def poolList (es : List (Nat × CpInfo)) (last : Nat) : List CpInfo := es.foldr (fun e r => gap e.1 (e.2 :: r)) (gap last [])
def pool (es : List (Nat × CpInfo)) (last : Nat) : Array CpInfo := ⟨poolList es last⟩
def fileOf (pool : Array CpInfo) (this : Nat) (attrs : Array Attribute := #[]) (ms : Array MethodInfo := #[]) (fl : Nat := 33) (sup : Nat := 0) (ifs : Array Nat := #[]) (fds : Array FieldInfo := #[]) : ClassFile where
  minorVersion := 0
  majorVersion := 65
  constantPool := pool
  accessFlags := fl
  thisClass := this
  superClass := sup
  interfaces := ifs
  fields := fds
  methods := ms
  attributes := attrs
def plain (name : String) (sup : Option ClassId) : Class where
  name := name
  kind := .ordinary
  loader := none
  accessFlags := 33
  super := sup
  interfaces := #[]
  cf := none
  fields := #[]
  methods := #[]
  instanceTypes := #[]
  staticTypes := #[]
  resolved := #[]
  callSites := []
  init := .initialized
  statics := none
  mirror := none

def pool0 : Array CpInfo := pool [(5, u "<init>"), (0, u "()V"), (1, .class_ 10), (1, u "java/lang/Object")] 113

def k0m0 : Method := { name := "<init>", desc := "()V", sig := { parameters := [], returnType := none }, accessFlags := 1, code := none }
/-- java/lang/Object -/
def k0 : Class := { plain "java/lang/Object" none with
  accessFlags := 33
  interfaces := #[]
  cf := some (fileOf pool0 8 #[] #[{ accessFlags := 1, nameIndex := 5, descriptorIndex := 6, attributes := #[] }] 33 0 #[] #[])
  fields := #[]
  methods := #[k0m0]
  instanceTypes := #[]
  staticTypes := #[]
  resolved := Array.replicate 124 none
  statics := none }

def pool1 : Array CpInfo := pool [(2, .class_ 4), (1, u "java/lang/Object"), (0, u "<init>"), (0, u "()V"), (0, .methodref 8 9), (0, .class_ 10), (0, .nameAndType 11 12), (0, u "com/example/weaverbird/weaverbird/automaton/Guard$Truth"), (0, u "of"), (0, u "(Z)Lcom/example/weaverbird/weaverbird/automaton/Guard$Truth;"), (0, .fieldref 8 14), (0, .nameAndType 15 16), (0, u "OPEN"), (0, u "Lcom/example/weaverbird/weaverbird/automaton/Guard$Truth;"), (0, .fieldref 8 18), (0, .nameAndType 19 16), (0, u "TRUE"), (0, .class_ 21), (0, u "com/example/weaverbird/weaverbird/automaton/TruthOfPinLaw"), (2, u "law"), (0, u "(I)Z")] 7

def k1m0 : Method := { name := "<init>", desc := "()V", sig := { parameters := [], returnType := none }, accessFlags := 1, code := none }
def k1c1 : Code := { maxStack := 2, maxLocals := 4, code := code, exceptionTable := #[], attributes := #[] }
def k1m1 : Method := { name := "law", desc := "(I)Z", sig := { parameters := [.int], returnType := some .boolean }, accessFlags := 9, code := some k1c1 }
/-- com/example/weaverbird/weaverbird/automaton/TruthOfPinLaw -/
def k1 : Class := { plain "com/example/weaverbird/weaverbird/automaton/TruthOfPinLaw" (some 0) with
  accessFlags := 49
  interfaces := #[]
  cf := some (fileOf pool1 20 #[] #[{ accessFlags := 1, nameIndex := 5, descriptorIndex := 6, attributes := #[] }, { accessFlags := 9, nameIndex := 24, descriptorIndex := 25, attributes := #[] }] 49 2 #[] #[])
  fields := #[]
  methods := #[k1m0, k1m1]
  instanceTypes := #[]
  staticTypes := #[]
  resolved := Array.replicate 33 none
  statics := none }

def pool2 : Array CpInfo := pool [(1, .class_ 2), (0, u "java/lang/constant/Constable"), (0, .class_ 4), (0, u "java/lang/Object")] 6

/-- java/lang/constant/Constable -/
def k2 : Class := { plain "java/lang/constant/Constable" (some 0) with
  accessFlags := 1537
  interfaces := #[]
  cf := some (fileOf pool2 1 #[] #[] 1537 3 #[] #[])
  fields := #[]
  methods := #[]
  instanceTypes := #[]
  staticTypes := #[]
  resolved := Array.replicate 11 none
  statics := none }

def pool3 : Array CpInfo := pool [(1, .class_ 2), (0, u "java/lang/Comparable"), (0, .class_ 4), (0, u "java/lang/Object")] 7

/-- java/lang/Comparable -/
def k3 : Class := { plain "java/lang/Comparable" (some 0) with
  accessFlags := 1537
  interfaces := #[]
  cf := some (fileOf pool3 1 #[] #[] 1537 3 #[] #[])
  fields := #[]
  methods := #[]
  instanceTypes := #[]
  staticTypes := #[]
  resolved := Array.replicate 12 none
  statics := none }

def pool4 : Array CpInfo := pool [(1, .class_ 2), (0, u "java/io/Serializable"), (0, .class_ 4), (0, u "java/lang/Object")] 2

/-- java/io/Serializable -/
def k4 : Class := { plain "java/io/Serializable" (some 0) with
  accessFlags := 1537
  interfaces := #[]
  cf := some (fileOf pool4 1 #[] #[] 1537 3 #[] #[])
  fields := #[]
  methods := #[]
  instanceTypes := #[]
  staticTypes := #[]
  resolved := Array.replicate 7 none
  statics := none }

def pool5 : Array CpInfo := pool [(2, .class_ 4), (1, u "java/lang/Enum"), (0, u "name"), (0, u "Ljava/lang/String;"), (2, u "ordinal"), (0, u "I"), (1, .class_ 14), (1, u "java/lang/Object"), (4, u "hash"), (86, .class_ 108), (1, u "java/lang/Enum$EnumDesc"), (2, .class_ 112), (0, u "java/lang/constant/Constable"), (0, .class_ 114), (0, u "java/lang/Comparable"), (0, .class_ 116), (0, u "java/io/Serializable")] 87

/-- java/lang/Enum -/
def k5 : Class := { plain "java/lang/Enum" (some 0) with
  accessFlags := 1057
  interfaces := #[2, 3, 4]
  cf := some (fileOf pool5 2 #[.nestMembers #[106]] #[] 1057 12 #[111, 113, 115] #[{ accessFlags := 18, nameIndex := 5, descriptorIndex := 6, attributes := #[] }, { accessFlags := 18, nameIndex := 9, descriptorIndex := 10, attributes := #[] }, { accessFlags := 2, nameIndex := 19, descriptorIndex := 10, attributes := #[] }])
  fields := #[{ name := "name", type := (.object "java/lang/String"), accessFlags := 18, slot := 0, constantValue := 0 }, { name := "ordinal", type := .int, accessFlags := 18, slot := 1, constantValue := 0 }, { name := "hash", type := .int, accessFlags := 2, slot := 2, constantValue := 0 }]
  methods := #[]
  instanceTypes := #[(.object "java/lang/String"), .int, .int]
  staticTypes := #[]
  resolved := Array.replicate 204 none
  statics := none }

def pool6 : Array CpInfo := pool [(1, .class_ 2), (0, u "com/example/weaverbird/weaverbird/automaton/Guard$Truth"), (0, .fieldref 1 4), (0, .nameAndType 5 6), (0, u "FALSE"), (0, u "Lcom/example/weaverbird/weaverbird/automaton/Guard$Truth;"), (0, .fieldref 1 8), (0, .nameAndType 9 6), (0, u "TRUE"), (2, u "OPEN"), (2, u "$VALUES"), (0, u "[Lcom/example/weaverbird/weaverbird/automaton/Guard$Truth;"), (6, .class_ 25), (1, u "java/lang/Enum"), (21, u "of"), (0, u "(Z)Lcom/example/weaverbird/weaverbird/automaton/Guard$Truth;"), (6, .class_ 56), (0, u "com/example/weaverbird/weaverbird/automaton/Guard")] 2

def k6c0 : Code := { maxStack := 1, maxLocals := 1, code := prog_14_method_4_code, exceptionTable := #[], attributes := #[] }
def k6m0 : Method := { name := "of", desc := "(Z)Lcom/example/weaverbird/weaverbird/automaton/Guard$Truth;", sig := { parameters := [.boolean], returnType := some (.object "com/example/weaverbird/weaverbird/automaton/Guard$Truth") }, accessFlags := 8, code := some k6c0 }
/-- com/example/weaverbird/weaverbird/automaton/Guard$Truth -/
def k6 : Class := { plain "com/example/weaverbird/weaverbird/automaton/Guard$Truth" (some 5) with
  accessFlags := 16433
  interfaces := #[]
  cf := some (fileOf pool6 1 #[.nestHost 55] #[{ accessFlags := 8, nameIndex := 47, descriptorIndex := 48, attributes := #[] }] 16433 23 #[] #[{ accessFlags := 16409, nameIndex := 5, descriptorIndex := 6, attributes := #[] }, { accessFlags := 16409, nameIndex := 9, descriptorIndex := 6, attributes := #[] }, { accessFlags := 16409, nameIndex := 12, descriptorIndex := 6, attributes := #[] }, { accessFlags := 4122, nameIndex := 15, descriptorIndex := 16, attributes := #[] }])
  fields := #[{ name := "FALSE", type := (.object "com/example/weaverbird/weaverbird/automaton/Guard$Truth"), accessFlags := 16409, slot := 0, constantValue := 0 }, { name := "TRUE", type := (.object "com/example/weaverbird/weaverbird/automaton/Guard$Truth"), accessFlags := 16409, slot := 1, constantValue := 0 }, { name := "OPEN", type := (.object "com/example/weaverbird/weaverbird/automaton/Guard$Truth"), accessFlags := 16409, slot := 2, constantValue := 0 }, { name := "$VALUES", type := (.array (.object "com/example/weaverbird/weaverbird/automaton/Guard$Truth")), accessFlags := 4122, slot := 3, constantValue := 0 }]
  methods := #[k6m0]
  instanceTypes := #[(.object "java/lang/String"), .int, .int]
  staticTypes := #[(.object "com/example/weaverbird/weaverbird/automaton/Guard$Truth"), (.object "com/example/weaverbird/weaverbird/automaton/Guard$Truth"), (.object "com/example/weaverbird/weaverbird/automaton/Guard$Truth"), (.array (.object "com/example/weaverbird/weaverbird/automaton/Guard$Truth"))]
  resolved := Array.replicate 59 none
  statics := some 0 }

def pool7 : Array CpInfo := pool [(1, u "java/lang/Cloneable"), (0, .class_ 1), (0, u "java/lang/Object"), (0, .class_ 3)] 3

/-- java/lang/Cloneable -/
def k7 : Class := { plain "java/lang/Cloneable" (some 0) with
  accessFlags := 1537
  interfaces := #[]
  cf := some (fileOf pool7 2 #[] #[] 1537 4 #[] #[])
  fields := #[]
  methods := #[]
  instanceTypes := #[]
  staticTypes := #[]
  resolved := Array.replicate 8 none
  statics := none }

/-- the primitive byte -/
def k8 : Class := { plain "byte" none with kind := .primitive 'B', accessFlags := 0x411 }
/-- [B -/
def k9 : Class := { plain "[B" (some 0) with kind := .array 8 .byte, interfaces := #[7, 4], accessFlags := 1041 }

def heap : Heap := #[{ cls := 6, slots := #[.ref 1, .ref 2, .ref 3, .null], vm := .statics 6 },
  { cls := 6, slots := #[.null, .int 0, .int 0], vm := .none },
  { cls := 6, slots := #[.null, .int 1, .int 0], vm := .none },
  { cls := 6, slots := #[.null, .int 2, .int 0], vm := .none }]
def classes : Array Class := #[k0, k1, k2, k3, k4, k5, k6, k7, k8, k9]
def interned : List (Array UInt16 × Addr) := []
def slotsUsed : Nat := 13
def theMethod : MethodId := ⟨1, 1⟩
def args0 : Array Value := #[.int 5]
def aboutOver (below : List Frame) : State where
  vm := { classes := classes, interned := interned.toArray }
  heap := heap
  slotsUsed := slotsUsed
  threads := #[{ frames := .invoking theMethod args0 :: below }]
def below0 : List Frame := [.native { method := ⟨0, 0⟩, args := #[] }]
def about1 : State := aboutOver below0
def p0 : Program := .bare "" "" ""
def e0 : Env := launch0.env 0 0 0
theorem w_frames : about1.frames = Frame.invoking theMethod args0 :: below0 := rfl
set_option maxRecDepth 65536 in
theorem w_args : argsFit about1.vm theMethod args0 = true := by decide +kernel
set_option maxRecDepth 65536 in
theorem w_heap : heapFits about1 = true := by decide +kernel
set_option maxRecDepth 65536 in
theorem w_runnable : about1.curStatus? = some .runnable := by decide +kernel
set_option maxRecDepth 65536 in
theorem w_alone : about1.alone = true := by decide +kernel
set_option maxRecDepth 65536 in
theorem w_named : about1.methodNamed? x = some theMethod := by decide +kernel
set_option maxRecDepth 65536 in
theorem w_hears : about1.hears theMethod below0 = true := by decide +kernel
set_option maxRecDepth 65536 in
theorem w_ripe : about1.ripe theMethod args0 below0 = true := by decide +kernel
theorem w_running : about1.status = .running := rfl
set_option maxRecDepth 65536 in
theorem w_room : about1.hasRoom e0.platform room_1 = true :=
  launch0.hasRoom_least _ room_1 (by decide +kernel) (by decide +kernel) (by decide +kernel) (by decide +kernel) (by decide +kernel) (by decide +kernel)
theorem allAtoms_all (ts : List Jvm.Cond) (a : Array Jvm.Value) (st : Jvm.State) : (allAtoms ts).before a st = ts.all (fun c => c.before a st) := by
  induction ts with
  | nil => rfl
  | cons c t ih =>
    show (Jvm.Cond.and c (allAtoms t)).before a st = _
    rw [Jvm.Cond.before_and, ih, List.all_cons]
def words1 : List Jvm.Cond := Jvm.Cond.code x code maxLocals ret :: tables_1
/-- a 'code' word, met by the world's own term for the bytes: nothing is compared byte by byte -/
theorem code_word {y : MethodName} {bytes : ByteArray} {mx : Nat} {rt : Option FieldType} {a : Array Value} {s : State} {m : MethodId} {meth : Method} {c : Code} (h1 : s.methodNamed? y = some m) (h2 : s.vm.method? m = some meth) (h3 : meth.code = some c) (h4 : c.code = bytes)
    (h5 : (c.maxLocals == mx && c.exceptionTable.isEmpty && decide (c.maxStack ≤ mostOperands) && decide (meth.sig.returnType = rt) && !meth.locks && decide (parseMethodDescriptor y.desc = some meth.sig)) = true) : (Jvm.Cond.code y bytes mx rt).before a s = true := by
  simp only [Bool.and_eq_true, beq_iff_eq, Bool.not_eq_true', decide_eq_true_eq] at h5
  obtain ⟨⟨⟨⟨⟨g1, g2⟩, g3⟩, g4⟩, g5⟩, g6⟩ := h5
  simp [Cond.before, Cond.holds, Cond.value, h1, h2, h3, h4, g1, g2, g3, g4, g5, g6]
def isCode : Jvm.Cond → Bool
  | .code _ _ _ _ => true
  | _ => false
theorem all_split {L : List Jvm.Cond} {P : Jvm.Cond → Bool} (h1 : L.all (fun c => isCode c || P c) = true) (h2 : ∀ c ∈ L.filter isCode, P c = true) : L.all P = true := by
  refine List.all_eq_true.mpr fun c hc => ?_
  have h := List.all_eq_true.mp h1 c hc
  rcases Bool.eq_false_or_eq_true (isCode c) with hi | hi
  · exact h2 c (List.mem_filter.mpr ⟨hc, hi⟩)
  · simpa [hi] using h
set_option maxRecDepth 65536 in
theorem w_c0 : (Jvm.Cond.code x code maxLocals ret).before args0 about1 = true := code_word (m := ⟨1, 1⟩) (meth := k1m1) (c := k1c1) (by decide +kernel) rfl rfl rfl (by decide +kernel)
set_option maxRecDepth 65536 in
theorem w_c1 : (Jvm.Cond.code ({ cls := "com/example/weaverbird/weaverbird/automaton/Guard$Truth", name := "of", desc := "(Z)Lcom/example/weaverbird/weaverbird/automaton/Guard$Truth;" } : Jvm.MethodName) prog_14_method_4_code (1 : Nat) (Option.some (Jvm.ClassFile.FieldType.object "com/example/weaverbird/weaverbird/automaton/Guard$Truth"))).before args0 about1 = true := code_word (m := ⟨6, 0⟩) (meth := k6m0) (c := k6c0) (by decide +kernel) rfl rfl rfl (by decide +kernel)
def codes1 : List Jvm.Cond := [Jvm.Cond.code x code maxLocals ret, Jvm.Cond.code ({ cls := "com/example/weaverbird/weaverbird/automaton/Guard$Truth", name := "of", desc := "(Z)Lcom/example/weaverbird/weaverbird/automaton/Guard$Truth;" } : Jvm.MethodName) prog_14_method_4_code (1 : Nat) (Option.some (Jvm.ClassFile.FieldType.object "com/example/weaverbird/weaverbird/automaton/Guard$Truth"))]
set_option maxRecDepth 65536 in
theorem codes_eq : words1.filter isCode = codes1 := rfl
theorem w_codes : ∀ c ∈ words1.filter isCode, c.before args0 about1 = true := by
  rw [codes_eq]
  intro c hc
  simp only [codes1, List.mem_cons, List.not_mem_nil, or_false] at hc
  rcases hc with rfl | rfl
  · exact w_c0
  · exact w_c1
set_option maxRecDepth 65536 in
theorem w_t1 : words1.all (fun c => isCode c || c.before args0 about1) = true := by decide +kernel
theorem w_tables : (allAtoms (Jvm.Cond.code x code maxLocals ret :: tables_1)).before args0 about1 = true := by
  rw [allAtoms_all]
  show words1.all (fun c => c.before args0 about1) = true
  refine all_split ?_ w_codes
  rw [w_t1]
set_option maxRecDepth 65536 in
theorem w_case : (Jvm.Cond.and given_1 narrow_1).before args0 about1 = true := by decide +kernel
theorem w_applies : (headSpec (Jvm.Cond.code x code maxLocals ret :: tables_1) room_1).applies x e0.platform about1 = true :=
  (Spec.applies_iff w_frames).mpr ⟨w_running, w_runnable, w_alone, w_named, w_hears, w_ripe, w_room, w_tables⟩
theorem atStart : AtStart classFile x code maxLocals ret World_1 tables_1 room_1 Calls_1 rest_1 Pre_1 launch0 p0 e0 about1 theMethod args0 below0 :=
  ⟨lists_1, trivial, launch0.admits_env _ _ _, launch0.least_env, fairChoices_fair.cas, fairChoices_fair.clock, w_frames, w_args, w_heap, w_applies, trivial, trivial, w_case⟩
end start1
theorem witness_1 : WitnessClaimed_1 := ⟨start1.p0, start1.e0, start1.about1, start1.theMethod, start1.args0, start1.below0, start1.atStart⟩
end Jvm.Pilot.@@N@@
