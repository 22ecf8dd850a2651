import JvmDerived
import JvmDerived.Pilot.@@N@@Statement
import JvmDerived.Pilot.@@N@@Code
set_option linter.unusedVariables false
set_option linter.unusedSimpArgs false
namespace Jvm.Pilot.@@N@@
open Jvm Jvm.ClassFile Sem Op Lib Jvm.Free Jvm.Stand Jvm.LawKit Jvm.RoadKit Bundle Jvm.Pilot.@@N@@.Jvm.D
abbrev oy0 : MethodName := (⟨"com/example/ringshift/ringshift/data/BuilderClearPinLaw", "utf8", "(C)I"⟩ : MethodName)
abbrev oy1 : MethodName := (⟨"com/example/ringshift/ringshift/data/Row", "<init>", "(Ljava/lang/String;[Lcom/example/ringshift/ringshift/data/Cell;J)V"⟩ : MethodName)
abbrev oy2 : MethodName := (⟨"com/example/ringshift/ringshift/data/Row", "<init>", "(Ljava/lang/String;[Lcom/example/ringshift/ringshift/data/Cell;JLcom/example/ringshift/ringshift/data/MovedFrom;)V"⟩ : MethodName)
abbrev oy3 : MethodName := (⟨"com/example/ringshift/ringshift/data/Row", "writeAfterKeyTo", "(Lcom/example/ringshift/ringshift/io/BinaryWriter;)V"⟩ : MethodName)
abbrev oy4 : MethodName := (⟨"com/example/ringshift/ringshift/data/Row", "writeTo", "(Lcom/example/ringshift/ringshift/io/BinaryWriter;)V"⟩ : MethodName)
abbrev oy5 : MethodName := (⟨"com/example/ringshift/ringshift/data/RowBatch$Builder", "<init>", "()V"⟩ : MethodName)
abbrev oy6 : MethodName := (⟨"com/example/ringshift/ringshift/data/RowBatch$Builder", "add", "(Lcom/example/ringshift/ringshift/data/Row;)Lcom/example/ringshift/ringshift/data/RowBatch$Builder;"⟩ : MethodName)
abbrev oy7 : MethodName := (⟨"com/example/ringshift/ringshift/data/RowBatch$Builder", "bytes", "()I"⟩ : MethodName)
abbrev oy8 : MethodName := (⟨"com/example/ringshift/ringshift/data/RowBatch$Builder", "clear", "()Lcom/example/ringshift/ringshift/data/RowBatch$Builder;"⟩ : MethodName)
abbrev oy9 : MethodName := (⟨"com/example/ringshift/ringshift/data/RowBatch$Builder", "count", "()I"⟩ : MethodName)
abbrev oy10 : MethodName := (⟨"com/example/ringshift/ringshift/io/BinaryWriter", "<init>", "()V"⟩ : MethodName)
abbrev oy11 : MethodName := (⟨"com/example/ringshift/ringshift/io/BinaryWriter", "<init>", "(I)V"⟩ : MethodName)
abbrev oy12 : MethodName := (⟨"com/example/ringshift/ringshift/io/BinaryWriter", "clear", "()Lcom/example/ringshift/ringshift/io/BinaryWriter;"⟩ : MethodName)
abbrev oy13 : MethodName := (⟨"com/example/ringshift/ringshift/io/BinaryWriter", "room", "(I)V"⟩ : MethodName)
abbrev oy14 : MethodName := (⟨"com/example/ringshift/ringshift/io/BinaryWriter", "size", "()I"⟩ : MethodName)
abbrev oy15 : MethodName := (⟨"com/example/ringshift/ringshift/io/BinaryWriter", "writeEncoded", "(Ljava/lang/String;)Lcom/example/ringshift/ringshift/io/BinaryWriter;"⟩ : MethodName)
abbrev oy16 : MethodName := (⟨"com/example/ringshift/ringshift/io/BinaryWriter", "writeInt", "(I)Lcom/example/ringshift/ringshift/io/BinaryWriter;"⟩ : MethodName)
abbrev oy17 : MethodName := (⟨"com/example/ringshift/ringshift/io/BinaryWriter", "writeLong", "(J)Lcom/example/ringshift/ringshift/io/BinaryWriter;"⟩ : MethodName)
abbrev oy18 : MethodName := (⟨"com/example/ringshift/ringshift/io/BinaryWriter", "writeNullableString", "(Ljava/lang/String;)Lcom/example/ringshift/ringshift/io/BinaryWriter;"⟩ : MethodName)
abbrev oy19 : MethodName := (⟨"com/example/ringshift/ringshift/io/BinaryWriter", "writeString", "(Ljava/lang/String;)Lcom/example/ringshift/ringshift/io/BinaryWriter;"⟩ : MethodName)
abbrev oy20 : MethodName := (⟨"java/lang/Math", "max", "(JJ)J"⟩ : MethodName)
abbrev oy21 : MethodName := (⟨"java/lang/Math", "min", "(II)I"⟩ : MethodName)
abbrev oy22 : MethodName := (⟨"java/lang/Math", "min", "(JJ)J"⟩ : MethodName)
abbrev oy23 : MethodName := (⟨"java/lang/Record", "<init>", "()V"⟩ : MethodName)
abbrev oy24 : MethodName := (⟨"java/lang/String", "<init>", "([C)V"⟩ : MethodName)
abbrev oy25 : MethodName := (⟨"java/lang/String", "<init>", "([CIILjava/lang/Void;)V"⟩ : MethodName)
abbrev oy26 : MethodName := (⟨"java/lang/String", "charAt", "(I)C"⟩ : MethodName)
abbrev oy27 : MethodName := (⟨"java/lang/String", "checkIndex", "(II)V"⟩ : MethodName)
abbrev oy28 : MethodName := (⟨"java/lang/String", "coder", "()B"⟩ : MethodName)
abbrev oy29 : MethodName := (⟨"java/lang/String", "encode", "(Ljava/nio/charset/Charset;B[B)[B"⟩ : MethodName)
abbrev oy30 : MethodName := (⟨"java/lang/String", "encodeUTF8", "(B[BZ)[B"⟩ : MethodName)
abbrev oy31 : MethodName := (⟨"java/lang/String", "getBytes", "(Ljava/nio/charset/Charset;)[B"⟩ : MethodName)
abbrev oy32 : MethodName := (⟨"java/lang/String", "isLatin1", "()Z"⟩ : MethodName)
abbrev oy33 : MethodName := (⟨"java/lang/String", "length", "()I"⟩ : MethodName)
abbrev oy34 : MethodName := (⟨"java/lang/StringCoding", "countPositives", "([BII)I"⟩ : MethodName)
abbrev oy35 : MethodName := (⟨"java/lang/StringCoding", "hasNegatives", "([BII)Z"⟩ : MethodName)
abbrev oy36 : MethodName := (⟨"java/lang/StringLatin1", "charAt", "([BI)C"⟩ : MethodName)
abbrev oy37 : MethodName := (⟨"java/lang/StringUTF16", "coderFromArrayLen", "([BI)B"⟩ : MethodName)
abbrev oy38 : MethodName := (⟨"java/lang/StringUTF16", "compress", "([CII)[B"⟩ : MethodName)
abbrev oy39 : MethodName := (⟨"java/lang/StringUTF16", "compress", "([CI[BII)I"⟩ : MethodName)
abbrev oy40 : MethodName := (⟨"java/lang/StringUTF16", "newBytesFor", "(I)[B"⟩ : MethodName)
abbrev oy41 : MethodName := (⟨"java/lang/StringUTF16", "newBytesLength", "(I)I"⟩ : MethodName)
abbrev oy42 : MethodName := (⟨"java/util/Arrays", "copyOf", "([BI)[B"⟩ : MethodName)
abbrev oy43 : MethodName := (⟨"jdk/internal/util/Preconditions", "checkIndex", "(IILjava/util/function/BiFunction;)I"⟩ : MethodName)
abbrev oL (p1 p2 p3 p4 : Int32) (q5 : Int64) (p6 : Int32) (b1 b4 b8 b10 b19 : Addr) (x y z w : Slot) : Array Slot := #[.val (.int p1), .val (.int p2), .val (.int p3), .val (.int p4), .val (.long q5), .second, .val (.int p6), .val (.int (p2 &&& 255)), .val (.int (p3 &&& 255)), .val (.ref b1), .val (.ref b4), .val (.int (p4 &&& 3)), .val (.ref b8), .val (.ref b10), .val (.ref b19), x, y, z, w]
abbrev oI (x : Int32) : Slot := .val (.int x)
abbrev oR (a : Addr) : Slot := .val (.ref a)
theorem oB {n k : Nat} (h : Nat.ble n k = true) : n ≤ k := Nat.le_of_ble_eq_true h
theorem oW {a0 : Array Value} {Z : State} (h : ∀ d ∈ tables_1, d.before a0 Z = true) (i : Nat) {d : Jvm.Cond} (q : tables_1[i]? = some d) : d.before a0 Z = true := h _ (List.mem_of_getElem? q)
/-! own kit: a walk told forwards -/
section OwnKit
variable {p : Program} {l : Launch} {e : Env} {R : Room} {s : State} {m : MethodId} {args : Array Value} {below : List Frame} {meth : Method} {c : Code} {T : State} {locs : List Loc} {cells slots : Nat} {Z : State} {a0 : Array Value} {h : Heap}
/-- from here the run comes to an end of which K speaks -/
def oG (p : Program) (e : Env) (below : List Frame) (K : Outcome → State → Prop) (T : State) (g : JFrame) : Prop :=
 ∃ s₂ o, Steps p.tables e below (T.setTop g) s₂ ∧ s₂.status = .running ∧ Ended s₂ below o ∧ K o s₂
theorem oS {K : Outcome → State → Prop} {T' : State} {g g' : JFrame} (st : ∀ t, Steps p.tables e below (T'.setTop g') t → Steps p.tables e below (T.setTop g) t) (hg : oG p e below K T' g') : oG p e below K T g := by
 obtain ⟨s2, o, a, b⟩ := hg
 exact ⟨s2, o, st _ a, b⟩
theorem own_castG {K : Outcome → State → Prop} {g g' : JFrame} (q : g = g') (hg : oG p e below K T g') : oG p e below K T g := q ▸ hg
def own_K (s : State) (Q : Option Value → Heap → List Loc → Prop) (rc rs : Nat) : Outcome → State → Prop := fun o u => ∃ v L, o = .returned v ∧ Q v u.heap L ∧ FrameEnd s o u L rc rs
def own_Met (l : Launch) (Z : State) (y : MethodName) (bytes : ByteArray) (maxL : Nat) (ret : Option FieldType) (ws : List Jvm.Cond) (rm : Room) (as' : Array Value) (h0 : Heap) (Q : Option Value → Heap → List Loc → Prop) : Prop :=
 MetFree l y (head1 (Jvm.Cond.code y bytes maxL ret :: ws) rm) (fun a U => a = as' ∧ Z.Warmed39 U.vm ∧ U.heap = h0) (fun _ _ _ _ _ => True) (fun _ U o U' => ∃ v L, o = .returned v ∧ Q v U'.heap L ∧ FrameEnd U o U' L rm.cells rm.slots)
theorem own_body {y : MethodName} {bytes : ByteArray} {maxL : Nat} {ret : Option FieldType} {ws : List Jvm.Cond} {rm : Room} {as' : Array Value} {h0 : Heap} {Q : Option Value → Heap → List Loc → Prop} (hp : plainFor y = true)
   (body : ∀ (p : Program) (e : Env) (s : State) (m : MethodId) (below : List Frame) (meth : Method) (c : Code) (s₁ : State), p.tables.exec = Jvm.exec → c.code = bytes → c.maxLocals = maxL → meth.sig.returnType = ret → meth.locks = false → s.vm.findClass y.cls = some m.cls → meth.name = y.name → Z.Warmed39 s.vm →
     Stand p l e rm s m as' below meth c s₁ [] 0 0 → s₁.heap = h0 → oG p e below (own_K s Q rm.cells rm.slots) s₁ (entryFrame m as' maxL)) : own_Met l Z y bytes maxL ret ws rm as' h0 Q := by
 refine MetFree.of_bodySF hp hisR ?_
 intro p e s m args below meth c s₁ Bd hml0 hP hK
 obtain ⟨rfl, hZ, hh⟩ := hP
 exact body p e s m below meth c s₁ Bd.exec Bd.bytes hml0 Bd.returns (BodyLoose.notSynchronized Bd) (findClass_of_methodNamed Bd.named) (name_of_methodNamed Bd.named Bd.method).1 hZ (Stand.of_body Bd) (by rw [← hh, Bd.state]; rfl)
theorem own_out (X : Stand p l e R s m args below meth c T locs cells slots) (hlk : meth.locks = false) {v : Option Value} (hv : meth.sig.returnType = none → v = none) {Q : Option Value → Heap → List Loc → Prop} {rc rs : Nat} {g : JFrame}
   (st : ∀ fs, (∀ (f : JFrame) (acts : List Action), f.method = m → f.locked = none → f.entered = [] → (doReturn e (T.setTop f) acts v).1 = T.setFrames fs) → Steps p.tables e below (T.setTop g) (T.setFrames fs))
   (hQ : Q v T.heap locs) (hc : cells ≤ rc) (hs : slots ≤ rs) : oG p e below (own_K s Q rc rs) T g := by
 obtain ⟨fs, hr, hrun, hended, hW, hsame⟩ := X.leave (v := v) hv hlk
 exact ⟨_, _, st fs hr, hrun, hended, v, locs, rfl, hQ, ⟨_, rfl⟩, hW, hsame.mono hc hs⟩
theorem own_retN (X : Stand p l e R s m args below meth c T locs cells slots) (hx : p.tables.exec = Jvm.exec) (hlk : meth.locks = false) {pc : Nat} {Ls : Array Slot} {z : Int32} {t : FieldType} {rest : List Value} (hret : meth.sig.returnType = some t) (ht : t = .boolean ∨ t = .byte ∨ t = .char ∨ t = .short)
   (hd : decode c.code pc = .ok (.ireturn, 1)) {Q : Option Value → Heap → List Loc → Prop} {rc rs : Nat} (hQ : Q (some (.int (nar t z))) T.heap locs) (hc : cells ≤ rc) (hs : slots ≤ rs) : oG p e below (own_K s Q rc rs) T (mkF m pc Ls (.int z :: rest)) :=
 own_out X hlk (fun q => by rw [hret] at q; cases q) (fun fs hr => retN X hx hret ht hd hr) hQ hc hs
theorem own_retI (X : Stand p l e R s m args below meth c T locs cells slots) (hx : p.tables.exec = Jvm.exec) (hlk : meth.locks = false) {pc : Nat} {Ls : Array Slot} {z : Int32} {rest : List Value} (hret : meth.sig.returnType = some .int)
   (hd : decode c.code pc = .ok (.ireturn, 1)) {Q : Option Value → Heap → List Loc → Prop} {rc rs : Nat} (hQ : Q (some (.int z)) T.heap locs) (hc : cells ≤ rc) (hs : slots ≤ rs) : oG p e below (own_K s Q rc rs) T (mkF m pc Ls (.int z :: rest)) :=
 own_out X hlk (fun q => by rw [hret] at q; cases q) (fun fs hr => retOut X hx hret rfl (Or.inl ⟨rfl, Or.inl rfl, z, rfl⟩) hd hr) hQ hc hs
theorem own_retL (X : Stand p l e R s m args below meth c T locs cells slots) (hx : p.tables.exec = Jvm.exec) (hlk : meth.locks = false) {pc : Nat} {Ls : Array Slot} {z : Int64} {rest : List Value} (hret : meth.sig.returnType = some .long)
   (hd : decode c.code pc = .ok (.lreturn, 1)) {Q : Option Value → Heap → List Loc → Prop} {rc rs : Nat} (hQ : Q (some (.long z)) T.heap locs) (hc : cells ≤ rc) (hs : slots ≤ rs) : oG p e below (own_K s Q rc rs) T (mkF m pc Ls (.long z :: rest)) :=
 own_out X hlk (fun q => by rw [hret] at q; cases q) (fun fs hr => retOut X hx hret rfl (Or.inr (Or.inl ⟨rfl, rfl, z, rfl⟩)) hd hr) hQ hc hs
theorem own_retA (X : Stand p l e R s m args below meth c T locs cells slots) (hx : p.tables.exec = Jvm.exec) (hlk : meth.locks = false) {pc : Nat} {Ls : Array Slot} {w : Value} {t : FieldType} {rest : List Value} (hret : meth.sig.returnType = some t) (hn : narrow t w = w) (ht : t.isReference = true) (hw : w.isRef = true)
   (hd : decode c.code pc = .ok (.areturn, 1)) {Q : Option Value → Heap → List Loc → Prop} {rc rs : Nat} (hQ : Q (some w) T.heap locs) (hc : cells ≤ rc) (hs : slots ≤ rs) : oG p e below (own_K s Q rc rs) T (mkF m pc Ls (w :: rest)) :=
 own_out X hlk (fun q => by rw [hret] at q; cases q) (fun fs hr => retOut X hx hret hn (Or.inr (Or.inr (Or.inr (Or.inr ⟨rfl, ht, hw⟩)))) hd hr) hQ hc hs
theorem own_retV (X : Stand p l e R s m args below meth c T locs cells slots) (hx : p.tables.exec = Jvm.exec) (hlk : meth.locks = false) {pc : Nat} {Ls : Array Slot} (hret : meth.sig.returnType = none)
   (hd : decode c.code pc = .ok (.return_, 1)) {Q : Option Value → Heap → List Loc → Prop} {rc rs : Nat} (hQ : Q none T.heap locs) (hc : cells ≤ rc) (hs : slots ≤ rs) : oG p e below (own_K s Q rc rs) T (mkF m pc Ls []) :=
 own_out X hlk (fun _ => rfl) (fun fs hr => X.returnOut hx hret hd hr) hQ hc hs
theorem own_callS (X : Stand p l e R s m args below meth c T locs cells slots) (hx : p.tables.exec = Jvm.exec) (hZ : Z.Warmed39 s.vm) {own : String} {index : Nat} {y : MethodName} {bytes : ByteArray} {maxL : Nat} {ret : Option FieldType} (hown : s.vm.findClass own = some m.cls)
   (w1 : (Jvm.Cond.methodLink own index y).before a0 Z = true) (w2 : (Jvm.Cond.static y).before a0 Z = true) (w3 : (Jvm.Cond.initialized y.cls).before a0 Z = true) (w4 : (Jvm.Cond.code y bytes maxL ret).before a0 Z = true) (hy : y.cls ≠ "java/lang/invoke/MethodHandle" ∧ y.cls ≠ "java/lang/invoke/VarHandle")
   {rm : Room} (W : Nat) (argsL rest : List Value) {Q : Option Value → Heap → List Loc → Prop} (hM : own_Met l Z y bytes maxL ret [] rm argsL.toArray h Q) (eT : T.heap = h)
   (hf : rm.frames + 1 ≤ R.frames) (hl : W + (maxL + 11) + rm.locals ≤ R.locals) (hc : cells + rm.cells ≤ R.cells) (hs : slots + rm.slots ≤ R.slots)
   {g : JFrame} (hg : g.method = m) (hsize : g.locals.size = c.maxLocals) {ps : List FieldType} {r : Option FieldType} (hpd : parseMethodDescriptor y.desc = some ⟨ps, r⟩) (hlen : argsL.length = ps.length)
   (hstack : g.stack = argsL.reverse ++ rest) (hW : 2 * g.monitorRoom + (rest.map fun v => v.category).sum ≤ W) (hd : decode c.code g.pc = .ok (.invokestatic index, 3))
   {K : Outcome → State → Prop} (go : ∀ T' v L, Stand p l e R s m args below meth c T' (locs ++ L) (cells + rm.cells) (slots + rm.slots) → Q v T'.heap L → oG p e below K T' { g with pc := g.pc + 3, stack := v.toList ++ rest }) : oG p e below K T g := by
 obtain ⟨v, _, ⟨T', L', k', n'⟩, -, X', ⟨Lc, hQ, l1, y1, z1⟩, st⟩ := Jvm.LawKit.callS X hx (y := y) hown (mvT hZ w1) (mvT hZ w2) (mvT hZ w3) (mvT hZ w4) hy (backOf (W := W) hM hZ w4 w3 hf hl) hg hsize (lenOf hpd hlen) hstack hW hd (fun _ _ => ⟨rfl, eT, hc, hs⟩)
 dsimp only [Pt.U, Pt.locs, Pt.cells, Pt.slots] at X' l1 y1 z1 st hQ
 subst l1 y1 z1
 exact oS st (go _ _ _ X' hQ)
theorem own_callV (X : Stand p l e R s m args below meth c T locs cells slots) (hx : p.tables.exec = Jvm.exec) (hZ : Z.Warmed39 s.vm) {own C : String} {index : Nat} {y z : MethodName} {bytes : ByteArray} {maxL : Nat} {ret : Option FieldType} (hown : s.vm.findClass own = some m.cls)
   (w1 : (Jvm.Cond.methodLink own index y).before a0 Z = true) (w2 : (Jvm.Cond.declares y).before a0 Z = true) (nf : NotFace s y) (w3 : (Jvm.Cond.selects C y z).before a0 Z = true) (w4 : (Jvm.Cond.instanceMethod z).before a0 Z = true) (w5 : (Jvm.Cond.code z bytes maxL ret).before a0 Z = true) (w6 : (Jvm.Cond.initialized z.cls).before a0 Z = true)
   (hy : y.cls ≠ "java/lang/invoke/MethodHandle" ∧ y.cls ≠ "java/lang/invoke/VarHandle")
   {rm : Room} (W : Nat) {a : Addr} (E : Exa Z h a C) (argsL rest : List Value) {Q : Option Value → Heap → List Loc → Prop} (hM : own_Met l Z z bytes maxL ret [] rm (.ref a :: argsL).toArray h Q) (eT : T.heap = h)
   (hf : rm.frames + 1 ≤ R.frames) (hl : W + (maxL + 11) + rm.locals ≤ R.locals) (hc : cells + rm.cells ≤ R.cells) (hs : slots + rm.slots ≤ R.slots)
   {g : JFrame} (hg : g.method = m) (hsize : g.locals.size = c.maxLocals) {ps : List FieldType} {r : Option FieldType} (hpd : parseMethodDescriptor y.desc = some ⟨ps, r⟩) (hlen : argsL.length = ps.length)
   (hstack : g.stack = argsL.reverse ++ .ref a :: rest) (hW : 2 * g.monitorRoom + (rest.map fun v => v.category).sum ≤ W) (hd : decode c.code g.pc = .ok (.invokevirtual index, 3))
   {K : Outcome → State → Prop} (go : ∀ T' v L, Stand p l e R s m args below meth c T' (locs ++ L) (cells + rm.cells) (slots + rm.slots) → Q v T'.heap L → oG p e below K T' { g with pc := g.pc + 3, stack := v.toList ++ rest }) : oG p e below K T g := by
 obtain ⟨cq, kq, qa, qb, qc⟩ := isOf hZ eT E
 obtain ⟨v, _, ⟨T', L', k', n'⟩, -, X', ⟨Lc, hQ, l1, y1, z1⟩, st⟩ := X.virtualBack hx (y := y) (z := z) hown (mvT hZ w1) (mvT hZ w2) nf (mvT hZ w3) (mvT hZ w4) hy (backOf (W := W) hM hZ w5 w6 hf hl) qa qc hg hsize (Steps.refl _) (lenOf hpd hlen) hstack hW hd (fun _ _ => ⟨rfl, eT, hc, hs⟩)
 dsimp only [Pt.U, Pt.locs, Pt.cells, Pt.slots] at X' l1 y1 z1 st hQ
 subst l1 y1 z1
 exact oS (fun t k => st.trans k) (go _ _ _ X' hQ)
theorem own_callC (X : Stand p l e R s m args below meth c T locs cells slots) (hx : p.tables.exec = Jvm.exec) (hZ : Z.Warmed39 s.vm) {own : String} {index : Nat} {y : MethodName} {bytes : ByteArray} {maxL : Nat} (hy1 : y.name = "<init>") (hown : s.vm.findClass own = some m.cls)
   (w1 : (Jvm.Cond.methodLink own index y).before a0 Z = true) (w2 : (Jvm.Cond.instanceMethod y).before a0 Z = true) (w3 : (Jvm.Cond.code y bytes maxL none).before a0 Z = true) (w4 : (Jvm.Cond.initialized y.cls).before a0 Z = true)
   (hy : y.cls ≠ "java/lang/invoke/MethodHandle" ∧ y.cls ≠ "java/lang/invoke/VarHandle")
   {rm : Room} (W : Nat) {a : Addr} (argsL rest : List Value) {Q : Option Value → Heap → List Loc → Prop} (hM : own_Met l Z y bytes maxL none [] rm (.ref a :: argsL).toArray h Q) (eT : T.heap = h)
   (hf : rm.frames + 1 ≤ R.frames) (hl : W + (maxL + 11) + rm.locals ≤ R.locals) (hc : cells + rm.cells ≤ R.cells) (hs : slots + rm.slots ≤ R.slots)
   {g : JFrame} (hg : g.method = m) (hsize : g.locals.size = c.maxLocals) {ps : List FieldType} {r : Option FieldType} (hpd : parseMethodDescriptor y.desc = some ⟨ps, r⟩) (hlen : argsL.length = ps.length)
   (hstack : g.stack = argsL.reverse ++ .ref a :: rest) (hW : 2 * g.monitorRoom + (rest.map fun v => v.category).sum ≤ W) (hd : decode c.code g.pc = .ok (.invokespecial index, 3))
   {K : Outcome → State → Prop} (go : ∀ T' v L, Stand p l e R s m args below meth c T' (locs ++ L) (cells + rm.cells) (slots + rm.slots) → Q v T'.heap L → oG p e below K T' { g with pc := g.pc + 3, stack := v.toList ++ rest }) : oG p e below K T g := by
 obtain ⟨v, _, ⟨T', L', k', n'⟩, -, X', ⟨Lc, hQ, l1, y1, z1⟩, st⟩ := X.specialBack hx (y := y) hy1 hown (mvT hZ w1) (mvT hZ w2) (mvT hZ w3) hy (backOf (W := W) hM hZ w3 w4 hf hl) hg hsize (Steps.refl _) (a := a) (lenOf hpd hlen) hstack hW hd (fun _ _ => ⟨rfl, eT, hc, hs⟩)
 dsimp only [Pt.U, Pt.locs, Pt.cells, Pt.slots] at X' l1 y1 z1 st hQ
 subst l1 y1 z1
 exact oS (fun t k => st.trans k) (go _ _ _ X' hQ)
theorem own_fldI {t : Term} {C n d : String} {k : Int32} {a : Addr} (ev : t.eval args s none [] s = some (.ref a)) (hq : (Jvm.Cond.eq (.field t C n d) (.int k)).value args s none s [] = some true) : Fld s s.heap a C n d (.int k) := by
 have e1 := fld_at (C := C) (n := n) (dd := d) ev
 refine Fld.start ?_
 simp only [Jvm.Cond.value, e1, Term.int_eval] at hq
 cases hf : s.fieldOf? a C n d with
 | none => simp [hf] at hq
 | some v => cases v <;> simp [hf] at hq; rw [hq]
theorem own_callU (X : Stand p l e R s m args below meth c T locs cells slots) (hx : p.tables.exec = Jvm.exec) (hZ : Z.Warmed39 s.vm) {own C owner : String} {index : Nat} {y z : MethodName} {bytes : ByteArray} {maxL : Nat} {ret : Option FieldType} (hown : s.vm.findClass own = some m.cls)
   (w1 : (Jvm.Cond.methodLink own index y).before a0 Z = true) (w2 : (Jvm.Cond.sameMethod y.cls owner y.name y.desc).before a0 Z = true) (w2' : (Jvm.Cond.declares ⟨owner, y.name, y.desc⟩).before a0 Z = true) (w3 : (Jvm.Cond.selects C y z).before a0 Z = true) (w4 : (Jvm.Cond.instanceMethod z).before a0 Z = true) (w5 : (Jvm.Cond.code z bytes maxL ret).before a0 Z = true) (w6 : (Jvm.Cond.initialized z.cls).before a0 Z = true)
   (hy : owner ≠ "java/lang/invoke/MethodHandle" ∧ owner ≠ "java/lang/invoke/VarHandle")
   {rm : Room} (W : Nat) {a : Addr} (E : Exa Z h a C) (argsL rest : List Value) {Q : Option Value → Heap → List Loc → Prop} (hM : own_Met l Z z bytes maxL ret [] rm (.ref a :: argsL).toArray h Q) (eT : T.heap = h)
   (hf : rm.frames + 1 ≤ R.frames) (hl : W + (maxL + 11) + rm.locals ≤ R.locals) (hc : cells + rm.cells ≤ R.cells) (hs : slots + rm.slots ≤ R.slots)
   {g : JFrame} (hg : g.method = m) (hsize : g.locals.size = c.maxLocals) {ps : List FieldType} {r : Option FieldType} (hpd : parseMethodDescriptor y.desc = some ⟨ps, r⟩) (hlen : argsL.length = ps.length)
   (hstack : g.stack = argsL.reverse ++ .ref a :: rest) (hW : 2 * g.monitorRoom + (rest.map fun v => v.category).sum ≤ W) (hd : decode c.code g.pc = .ok (.invokevirtual index, 3))
   {K : Outcome → State → Prop} (go : ∀ T' v L, Stand p l e R s m args below meth c T' (locs ++ L) (cells + rm.cells) (slots + rm.slots) → Q v T'.heap L → oG p e below K T' { g with pc := g.pc + 3, stack := v.toList ++ rest }) : oG p e below K T g := by
 obtain ⟨cq, kq, qa, qb, qc⟩ := isOf hZ eT E
 obtain ⟨v, _, ⟨T', L', k', n'⟩, -, X', ⟨Lc, hQ, l1, y1, z1⟩, st⟩ := X.virtualBackUp hx (x := y) (y := z) hown (mvT hZ w1) (mvT hZ w2) (mvT hZ w2') hy (mvT hZ w3) (mvT hZ w4) (backOf (W := W) hM hZ w5 w6 hf hl) qa qc hg hsize (Steps.refl _) (lenOf hpd hlen) hstack hW hd (fun _ _ => ⟨rfl, eT, hc, hs⟩)
 dsimp only [Pt.U, Pt.locs, Pt.cells, Pt.slots] at X' l1 y1 z1 st hQ
 subst l1 y1 z1
 exact oS (fun t k => st.trans k) (go _ _ _ X' hQ)
theorem own_aaload (X : Stand p l e R s m args below meth c T locs cells slots) (hx : p.tables.exec = Jvm.exec) (hZ : Z.Warmed39 s.vm) (eT : T.heap = h) {a : Addr} {k : ClassId} {ty : FieldType} {n : Int32} {vs : List Value} {dv : Value} (F : Arv Z h a k ty n vs dv) (hty : ty.isReference = true) {j : Int32} (v : Value) (hj : ¬ j < 0 ∧ j < n) (hv : vs.getD j.toNatClampNeg dv = v)
   {g : JFrame} (hg : g.method = m) {rest : List Value} (hs : g.stack = .int j :: .ref a :: rest) (hd : decode c.code g.pc = .ok (.aaload, 1)) : ∀ t, Steps p.tables e below (T.setTop { g with pc := g.pc + 1, stack := v :: rest }) t → Steps p.tables e below (T.setTop g) t := by
 obtain ⟨cl, A, q1, S, q3, H, G⟩ := F
 have hin := inb_of S hj
 exact fun t kk => X.aaload hx (by rw [eT]; exact A.1) (State.isArrayOf_alike hZ.alike A.2.1) hty A.2.2 hin (H.at hin hv) hg hs hd t kk
theorem own_aastore (X : Stand p l e R s m args below meth c T locs cells slots) (hx : p.tables.exec = Jvm.exec) (hZ : Z.Warmed39 s.vm) (eT : T.heap = h) {a : Addr} {k : ClassId} {C : String} {n : Int32} {vs : List Value} {dv : Value} (F : Arv Z h a k (.object C) n vs dv) (O : Ovr Z k C) {y : Addr} (I : Ins Z h y C true) {j : Int32} (hj : ¬ j < 0 ∧ j < n) (i : Nat) (hi : j.toNatClampNeg = i) (hl : i < vs.length)
   {g : JFrame} (hg : g.method = m) {rest : List Value} (hs : g.stack = .ref y :: .int j :: .ref a :: rest) (hd : decode c.code g.pc = .ok (.aastore, 1)) :
   ∃ T' h', Stand p l e R s m args below meth c T' (locs ++ [⟨a, j.toNatClampNeg⟩]) cells slots ∧ T'.heap = h' ∧ Wr h h' a j.toNatClampNeg (.ref y) ∧ Arv Z h' a k (.object C) n (vs.set i (.ref y)) dv ∧ ∀ target, Steps p.tables e below (T'.setTop { g with pc := g.pc + 1, stack := rest }) target → Steps p.tables e below (T.setTop g) target := by
 obtain ⟨cl, A, q1, S, q3, H, G⟩ := F
 obtain ⟨T', h', X', e', W', st⟩ := stR X hx hZ eT A (inb_of S hj) rfl (Sto.ofV A q1 O I) hg hs hd
 exact ⟨T', h', X', e', W', Arv.set A q1 S q3 H G rfl W' i hi hl, st⟩
theorem own_staKeep {C n d : String} {v : Value} {h' : Heap} {ws : List Addr} (F : Sta Z h C n d v) (K : Keep h h' ws) (q : ∀ x ∈ ws, ∀ cell : Cell, h[x]? = some cell → cell.vm.isStatics = false) : Sta Z h' C n d v := by
 obtain ⟨cf, i, k, f, st, cell, h1, h2, h3, h4, h5, h6, h7⟩ := F
 refine ⟨cf, i, k, f, st, cell, h1, h2, h3, h4, K.2.1 _ _ h5 (fun z => ?_), h6, h7⟩
 have := q _ z _ h5
 rw [h6] at this; cases this
theorem own_caload (X : Stand p l e R s m args below meth c T locs cells slots) (hx : p.tables.exec = Jvm.exec) (hZ : Z.Warmed39 s.vm) (eT : T.heap = h) {a : Addr} {k : ClassId} {n : Int32} {vs : List Value} {dv : Value} (F : Arv Z h a k .char n vs dv) {j : Int32} (v : Value) (hj : ¬ j < 0 ∧ j < n) (hv : vs.getD j.toNatClampNeg dv = v)
   {g : JFrame} (hg : g.method = m) {rest : List Value} (hs : g.stack = .int j :: .ref a :: rest) (hd : decode c.code g.pc = .ok (.caload, 1)) : ∀ t, Steps p.tables e below (T.setTop { g with pc := g.pc + 1, stack := v :: rest }) t → Steps p.tables e below (T.setTop g) t := by
 obtain ⟨cl, A, q1, S, q3, H, G⟩ := F
 have hin := inb_of S hj
 exact fun t kk => X.caload hx (by rw [eT]; exact A.1) (State.isArrayOf_alike hZ.alike A.2.1) A.2.2 hin (H.at hin hv) hg hs hd t kk
theorem own_baload (X : Stand p l e R s m args below meth c T locs cells slots) (hx : p.tables.exec = Jvm.exec) (hZ : Z.Warmed39 s.vm) (eT : T.heap = h) {a : Addr} {k : ClassId} {n : Int32} {vs : List Value} {dv : Value} (F : Arv Z h a k .byte n vs dv) {j : Int32} (v : Value) (hj : ¬ j < 0 ∧ j < n) (hv : vs.getD j.toNatClampNeg dv = v)
   {g : JFrame} (hg : g.method = m) {rest : List Value} (hs : g.stack = .int j :: .ref a :: rest) (hd : decode c.code g.pc = .ok (.baload, 1)) : ∀ t, Steps p.tables e below (T.setTop { g with pc := g.pc + 1, stack := v :: rest }) t → Steps p.tables e below (T.setTop g) t := by
 obtain ⟨cl, A, q1, S, q3, H, G⟩ := F
 have hin := inb_of S hj
 exact fun t kk => X.baloadBytes hx (by rw [eT]; exact A.1) (State.isArrayOf_alike hZ.alike A.2.1) A.2.2 hin (H.at hin hv) hg hs hd t kk
theorem own_alen (X : Stand p l e R s m args below meth c T locs cells slots) (hx : p.tables.exec = Jvm.exec) (hZ : Z.Warmed39 s.vm) (eT : T.heap = h) {a : Addr} {k : ClassId} {ty : FieldType} {n : Int32} {vs : List Value} {dv : Value} (F : Arv Z h a k ty n vs dv)
   {g : JFrame} (hg : g.method = m) {rest : List Value} (hs : g.stack = .ref a :: rest) (hd : decode c.code g.pc = .ok (.arraylength, 1)) : ∀ t, Steps p.tables e below (T.setTop { g with pc := g.pc + 1, stack := .int n :: rest }) t → Steps p.tables e below (T.setTop g) t := by
 obtain ⟨cl, A, q1, S, q3, H, G⟩ := F
 intro t kk
 refine X.arraylength hx (by rw [eT]; exact A.1) (State.isArrayOf_alike hZ.alike A.2.1) hg hs hd t ?_
 rw [len_of S q3]
 exact kk
theorem own_castore (X : Stand p l e R s m args below meth c T locs cells slots) (hx : p.tables.exec = Jvm.exec) (hZ : Z.Warmed39 s.vm) (eT : T.heap = h) {a : Addr} {k : ClassId} {n : Int32} {vs : List Value} {dv : Value} (F : Arv Z h a k .char n vs dv) {x : Int32} (x' : Int32) (hx' : nar .char x = x') {j : Int32} (hj : ¬ j < 0 ∧ j < n) (i : Nat) (hi : j.toNatClampNeg = i) (hl : i < vs.length)
   {g : JFrame} (hg : g.method = m) {rest : List Value} (hs : g.stack = .int x :: .int j :: .ref a :: rest) (hd : decode c.code g.pc = .ok (.castore, 1)) :
   ∃ T' h', Stand p l e R s m args below meth c T' (locs ++ [⟨a, j.toNatClampNeg⟩]) cells slots ∧ T'.heap = h' ∧ Wr h h' a j.toNatClampNeg (.int x') ∧ Arv Z h' a k .char n (vs.set i (.int x')) dv ∧ ∀ target, Steps p.tables e below (T'.setTop { g with pc := g.pc + 1, stack := rest }) target → Steps p.tables e below (T.setTop g) target := by
 subst hx'
 obtain ⟨cl, A, q1, S, q3, H, G⟩ := F
 obtain ⟨T', h', X', e', W', st⟩ := stC X hx hZ eT A (inb_of S hj) hg hs hd
 exact ⟨T', h', X', e', W', Arv.set A q1 S q3 H G (fits_nar_char _) W' i hi hl, st⟩
theorem own_bastore (X : Stand p l e R s m args below meth c T locs cells slots) (hx : p.tables.exec = Jvm.exec) (hZ : Z.Warmed39 s.vm) (eT : T.heap = h) {a : Addr} {k : ClassId} {n : Int32} {vs : List Value} {dv : Value} (F : Arv Z h a k .byte n vs dv) {x : Int32} (x' : Int32) (hx' : nar .byte x = x') {j : Int32} (hj : ¬ j < 0 ∧ j < n) (i : Nat) (hi : j.toNatClampNeg = i) (hl : i < vs.length)
   {g : JFrame} (hg : g.method = m) {rest : List Value} (hs : g.stack = .int x :: .int j :: .ref a :: rest) (hd : decode c.code g.pc = .ok (.bastore, 1)) :
   ∃ T' h', Stand p l e R s m args below meth c T' (locs ++ [⟨a, j.toNatClampNeg⟩]) cells slots ∧ T'.heap = h' ∧ Wr h h' a j.toNatClampNeg (.int x') ∧ Arv Z h' a k .byte n (vs.set i (.int x')) dv ∧ ∀ target, Steps p.tables e below (T'.setTop { g with pc := g.pc + 1, stack := rest }) target → Steps p.tables e below (T.setTop g) target := by
 subst hx'
 obtain ⟨cl, A, q1, S, q3, H, G⟩ := F
 obtain ⟨T', h', X', e', W', st⟩ := stB X hx hZ eT A (inb_of S hj) hg hs hd
 exact ⟨T', h', X', e', W', Arv.set A q1 S q3 H G (fits_nar_byte _) W' i hi hl, st⟩
theorem own_b8 (x : Int32) : nar .byte (x.toInt8.toInt32) = x.toInt8.toInt32 := by
 show x.toInt8.toInt32.toInt8.toInt32 = x.toInt8.toInt32
 simp
theorem own_narc {x : Int32} (h0 : ¬ x < (0 : Int32)) (h1 : ¬ (255 : Int32) < x) : nar .char x = x := by
 have e0 : (0 : Int32).toInt = 0 := by decide
 have e1 : (255 : Int32).toInt = 255 := by decide
 rw [Int32.lt_iff_toInt_lt] at h0 h1
 have q := c_i2c x
 rw [← Int32.toInt_inj]
 show x.toUInt32.toUInt16.toUInt32.toInt32.toInt = x.toInt
 omega
theorem own_b8inj {x y : Int32} (h0 : ¬ x < (0 : Int32)) (h1 : ¬ (255 : Int32) < x) (g0 : ¬ y < (0 : Int32)) (g1 : ¬ (255 : Int32) < y) (q : x.toInt8.toInt32 = y.toInt8.toInt32) : x = y := by
 have e0 : (0 : Int32).toInt = 0 := by decide
 have e1 : (255 : Int32).toInt = 255 := by decide
 rw [Int32.lt_iff_toInt_lt] at h0 h1 g0 g1
 have a := c_i2b x
 have b := c_i2b y
 rw [q] at a
 rw [← Int32.toInt_inj]
 omega
theorem own_m255 (x : Int32) : ¬ (x &&& (255 : Int32)) < (0 : Int32) ∧ ¬ (255 : Int32) < (x &&& (255 : Int32)) := by
 have h1 := c_mask x (255 : Int32) 8 (by decide) (by decide)
 have e0 : (0 : Int32).toInt = 0 := by decide
 have e1 : (255 : Int32).toInt = 255 := by decide
 rw [Int32.lt_iff_toInt_lt, Int32.lt_iff_toInt_lt, h1]
 omega
theorem own_i2c (x : Int32) : ((x &&& (255 : Int32)).toUInt32.toUInt16.toUInt32.toInt32) = (x &&& (255 : Int32)) := i2c_mask x
theorem own_plainE {a : Addr} {C : String} (E : Exa Z h a C) : ∀ cell : Cell, h[a]? = some cell → cell.vm.isStatics = false := fun cell hc => by
 obtain ⟨c1, k, h1, -, -, h4, -⟩ := E
 cases h1.symm.trans hc
 exact h4
theorem own_plainA {a : Addr} {k : ClassId} {ty : FieldType} {n : Int32} {vs : List Value} {dv : Value} (F : Arv Z h a k ty n vs dv) : ∀ cell : Cell, h[a]? = some cell → cell.vm.isStatics = false := fun cell hc => by
 obtain ⟨c1, A, -⟩ := F
 cases A.1.symm.trans hc
 exact A.plain
theorem own_arrKeep {a : Addr} {cl : Cell} {ty : FieldType} {h' : Heap} {ws : List Addr} (A : Arr Z h a cl ty) (K : Keep h h' ws) (q : a ∉ ws) : Arr Z h' a cl ty := ⟨K.2.1 a cl A.1 q, A.2⟩
theorem own_fldR {t : Term} {C n d : String} {a y : Addr} (ev : t.eval args s none [] s = some (.ref a)) (hq : (Term.field t C n d).eval args s none [] s = some (.ref y)) : Fld s s.heap a C n d (.ref y) := by
 rw [fld_at ev] at hq
 exact Fld.start hq
theorem own_len {t : Term} {a : Addr} {cl : Cell} {ty : FieldType} {n : Int32} (ev : t.eval args s none [] s = some (.ref a)) (A : Arr s s.heap a cl ty) (hq : (Jvm.Cond.eq (.length t) (.int n)).value args s none s [] = some true) : cl.slots.size < 2 ^ 31 ∧ cl.slots.size.toInt32 = n := by
 have ha : s.arrayAt? a = some cl := A.fin (Vm.Alike.refl _)
 by_cases q : cl.slots.size < 2 ^ 31
 · have := len_f (args := args) (first := s) (o := none) (idx := []) ev ha q
   simp only [Jvm.Cond.value, this, Term.int_eval] at hq
   exact ⟨q, by simpa using hq⟩
 · simp [Jvm.Cond.value, Term.eval, ev, ha, q] at hq
theorem own_elemI {t : Term} {a : Addr} {cl : Cell} {ty : FieldType} {j v : Int32} (ev : t.eval args s none [] s = some (.ref a)) (A : Arr s s.heap a cl ty) (hq : (Jvm.Cond.eq (.elem t (.int j)) (.int v)).value args s none s [] = some true) : cl.slots[j.toNatClampNeg]? = some (.int v) := by
 obtain ⟨x, y, e1, e2, -, -⟩ := cmp_v (Or.inl hq)
 have e3 := (elem_in e1 ev (Term.int_eval j) A.1).2
 simp only [Jvm.Cond.value, e1, Term.int_eval] at hq
 cases x <;> simp at hq
 rw [e3, hq]
theorem own_elemR {t u : Term} {a w : Addr} {cl : Cell} {ty : FieldType} {j : Int32} (ev : t.eval args s none [] s = some (.ref a)) (eu : u.eval args s none [] s = some (.ref w)) (A : Arr s s.heap a cl ty) (hq : (Jvm.Cond.eq (.elem t (.int j)) u).value args s none s [] = some true) : cl.slots[j.toNatClampNeg]? = some (.ref w) := by
 obtain ⟨x, y, e1, e2, -, -⟩ := cmp_v (Or.inl hq)
 have e3 := (elem_in e1 ev (Term.int_eval j) A.1).2
 simp only [Jvm.Cond.value, e1, eu] at hq
 cases x <;> simp at hq
 rw [e3, hq]
end OwnKit
/-! own kit, exact bookings: a contract also says how many cells and slots were made -/
section OwnKitX
variable {p : Program} {l : Launch} {e : Env} {R : Room} {s : State} {m : MethodId} {args : Array Value} {below : List Frame} {meth : Method} {c : Code} {T : State} {locs : List Loc} {cells slots : Nat} {Z : State} {a0 : Array Value} {h : Heap}
def own_KX (s : State) (Q : Option Value → Heap → List Loc → Nat → Nat → Prop) : Outcome → State → Prop := fun o u => ∃ v L k n, o = .returned v ∧ Q v u.heap L k n ∧ FrameEnd s o u L k n
def own_MetX (l : Launch) (Z : State) (y : MethodName) (bytes : ByteArray) (maxL : Nat) (ret : Option FieldType) (ws : List Jvm.Cond) (rm : Room) (as' : Array Value) (h0 : Heap) (Q : Option Value → Heap → List Loc → Nat → Nat → Prop) : Prop :=
 MetFree l y (head1 (Jvm.Cond.code y bytes maxL ret :: ws) rm) (fun a U => a = as' ∧ Z.Warmed39 U.vm ∧ U.heap = h0) (fun _ _ _ _ _ => True) (fun _ U o U' => ∃ v L k n, o = .returned v ∧ Q v U'.heap L k n ∧ FrameEnd U o U' L k n)
theorem own_bodyX {y : MethodName} {bytes : ByteArray} {maxL : Nat} {ret : Option FieldType} {ws : List Jvm.Cond} {rm : Room} {as' : Array Value} {h0 : Heap} {Q : Option Value → Heap → List Loc → Nat → Nat → Prop} (hp : plainFor y = true)
   (body : ∀ (p : Program) (e : Env) (s : State) (m : MethodId) (below : List Frame) (meth : Method) (c : Code) (s₁ : State), p.tables.exec = Jvm.exec → c.code = bytes → c.maxLocals = maxL → meth.sig.returnType = ret → meth.locks = false → s.vm.findClass y.cls = some m.cls → meth.name = y.name → Z.Warmed39 s.vm →
     Stand p l e rm s m as' below meth c s₁ [] 0 0 → s₁.heap = h0 → oG p e below (own_KX s Q) s₁ (entryFrame m as' maxL)) : own_MetX l Z y bytes maxL ret ws rm as' h0 Q := by
 refine MetFree.of_bodySF hp hisR ?_
 intro p e s m args below meth c s₁ Bd hml0 hP hK
 obtain ⟨rfl, hZ, hh⟩ := hP
 exact body p e s m below meth c s₁ Bd.exec Bd.bytes hml0 Bd.returns (BodyLoose.notSynchronized Bd) (findClass_of_methodNamed Bd.named) (name_of_methodNamed Bd.named Bd.method).1 hZ (Stand.of_body Bd) (by rw [← hh, Bd.state]; rfl)
theorem own_outX (X : Stand p l e R s m args below meth c T locs cells slots) (hlk : meth.locks = false) {v : Option Value} (hv : meth.sig.returnType = none → v = none) {Q : Option Value → Heap → List Loc → Nat → Nat → Prop} {g : JFrame}
   (st : ∀ fs, (∀ (f : JFrame) (acts : List Action), f.method = m → f.locked = none → f.entered = [] → (doReturn e (T.setTop f) acts v).1 = T.setFrames fs) → Steps p.tables e below (T.setTop g) (T.setFrames fs))
   (hQ : Q v T.heap locs cells slots) : oG p e below (own_KX s Q) T g := by
 obtain ⟨fs, hr, hrun, hended, hW, hsame⟩ := X.leave (v := v) hv hlk
 exact ⟨_, _, st fs hr, hrun, hended, v, locs, cells, slots, rfl, hQ, ⟨_, rfl⟩, hW, hsame⟩
theorem own_backX {y : MethodName} {bytes : ByteArray} {maxL : Nat} {ret : Option FieldType} {rm : Room} {len W : Nat} {as' : Array Value} {Q : Option Value → Heap → List Loc → Nat → Nat → Prop} (hM : own_MetX l Z y bytes maxL ret [] rm as' h Q)
   (hZ : Z.Warmed39 s.vm) (wc : (Jvm.Cond.code y bytes maxL ret).before a0 Z = true) (wz : (Jvm.Cond.initialized y.cls).before a0 Z = true) (hf : rm.frames + 1 ≤ R.frames) (hl : W + (maxL + 11) + rm.locals ≤ R.locals) :
   Back l R p e below s args y len W (fun A a => a = as' ∧ A.U.heap = h ∧ A.cells + rm.cells ≤ R.cells ∧ A.slots + rm.slots ≤ R.slots)
     (fun A _ v B => ∃ L k n, Q v B.U.heap L k n ∧ B.locs = A.locs ++ L ∧ B.cells = A.cells + k ∧ B.slots = A.slots + n) :=
 Back.of_free (bytes := bytes) (maxL := maxL) (ret := ret) (E := fun _ _ o t L k n => ∃ v, o = .returned v ∧ Q v t.heap L k n) hM hf hl
   (fun m meth c A a Y hp => have hU : Z.Warmed39 A.U.vm := wtrans hZ Y.warmed
     ⟨by show (Jvm.Cond.and _ .tt).before a A.U = true; rw [Cond.before_and, mv hU wc]; rfl, mv hU wc, mv hU wz, hp.2.2.1, hp.2.2.2⟩)
   (fun m meth c A a g mk Y hp => ⟨hp.1, wtrans hZ Y.warmed, hp.2.1⟩) (fun _ _ _ _ _ _ _ _ _ => trivial)
   (fun _ _ _ _ ⟨v, L, k, n, h1, h2, h3⟩ => ⟨L, k, n, h3, v, h1, h2⟩)
   (fun m meth c A a g mk v t L k n Y hp _ _ ⟨v', e3, e4⟩ => by cases e3; exact ⟨L, k, n, e4, rfl, rfl, rfl⟩)
theorem own_callVX (X : Stand p l e R s m args below meth c T locs cells slots) (hx : p.tables.exec = Jvm.exec) (hZ : Z.Warmed39 s.vm) {own C : String} {index : Nat} {y z : MethodName} {bytes : ByteArray} {maxL : Nat} {ret : Option FieldType} (hown : s.vm.findClass own = some m.cls)
   (w1 : (Jvm.Cond.methodLink own index y).before a0 Z = true) (w2 : (Jvm.Cond.declares y).before a0 Z = true) (nf : NotFace s y) (w3 : (Jvm.Cond.selects C y z).before a0 Z = true) (w4 : (Jvm.Cond.instanceMethod z).before a0 Z = true) (w5 : (Jvm.Cond.code z bytes maxL ret).before a0 Z = true) (w6 : (Jvm.Cond.initialized z.cls).before a0 Z = true)
   (hy : y.cls ≠ "java/lang/invoke/MethodHandle" ∧ y.cls ≠ "java/lang/invoke/VarHandle")
   {rm : Room} (W : Nat) {a : Addr} (E : Exa Z h a C) (argsL rest : List Value) {Q : Option Value → Heap → List Loc → Nat → Nat → Prop} (hM : own_MetX l Z z bytes maxL ret [] rm (.ref a :: argsL).toArray h Q) (eT : T.heap = h)
   (hf : rm.frames + 1 ≤ R.frames) (hl : W + (maxL + 11) + rm.locals ≤ R.locals) (hc : cells + rm.cells ≤ R.cells) (hs : slots + rm.slots ≤ R.slots)
   {g : JFrame} (hg : g.method = m) (hsize : g.locals.size = c.maxLocals) {ps : List FieldType} {r : Option FieldType} (hpd : parseMethodDescriptor y.desc = some ⟨ps, r⟩) (hlen : argsL.length = ps.length)
   (hstack : g.stack = argsL.reverse ++ .ref a :: rest) (hW : 2 * g.monitorRoom + (rest.map fun v => v.category).sum ≤ W) (hd : decode c.code g.pc = .ok (.invokevirtual index, 3))
   {K : Outcome → State → Prop} (go : ∀ T' v L k n, Stand p l e R s m args below meth c T' (locs ++ L) (cells + k) (slots + n) → Q v T'.heap L k n → oG p e below K T' { g with pc := g.pc + 3, stack := v.toList ++ rest }) : oG p e below K T g := by
 obtain ⟨cq, kq, qa, qb, qc⟩ := isOf hZ eT E
 obtain ⟨v, _, ⟨T', L', k', n'⟩, -, X', ⟨Lc, kk, nn, hQ, l1, y1, z1⟩, st⟩ := X.virtualBack hx (y := y) (z := z) hown (mvT hZ w1) (mvT hZ w2) nf (mvT hZ w3) (mvT hZ w4) hy (own_backX (W := W) hM hZ w5 w6 hf hl) qa qc hg hsize (Steps.refl _) (lenOf hpd hlen) hstack hW hd (fun _ _ => ⟨rfl, eT, hc, hs⟩)
 dsimp only [Pt.U, Pt.locs, Pt.cells, Pt.slots] at X' l1 y1 z1 st hQ
 subst l1 y1 z1
 exact oS (fun t k => st.trans k) (go _ _ _ _ _ X' hQ)
/-- a private method's 'selects' word, by the model's own choice -/
theorem own_selPriv {y : MethodName} {n : Nat} (hZ : Z.Warmed39 s.vm) (w2 : (Jvm.Cond.instanceMethod y).before a0 Z = true) (w3 : (Jvm.Cond.privateMethod y).before a0 Z = true) (wi : (Jvm.Cond.instantiable y.cls n).before a0 Z = true) (hy : y.cls ≠ "java/lang/invoke/MethodHandle" ∧ y.cls ≠ "java/lang/invoke/VarHandle") : (Jvm.Cond.selects y.cls y y).before args s = true := by
 have w2' : (Jvm.Cond.instanceMethod y).before args s = true := mvT hZ w2
 have w3' : (Jvm.Cond.privateMethod y).before args s = true := mvT hZ w3
 have wi' : (Jvm.Cond.instantiable y.cls n).before args s = true := mvT hZ wi
 obtain ⟨c2, k2, i1, i2, i3, i4⟩ := Cond.instantiable_spec wi'
 exact selects_self_of_private i1 i2 (Bool.or_eq_false_iff.mp i4.1).1 (Cond.privateMethod_at w3') w2' hy
theorem own_callPX (X : Stand p l e R s m args below meth c T locs cells slots) (hx : p.tables.exec = Jvm.exec) (hZ : Z.Warmed39 s.vm) {own : String} {index ni : Nat} {y : MethodName} {bytes : ByteArray} {maxL : Nat} {ret : Option FieldType} (hown : s.vm.findClass own = some m.cls)
   (w1 : (Jvm.Cond.methodLink own index y).before a0 Z = true) (w2 : (Jvm.Cond.instanceMethod y).before a0 Z = true) (w3 : (Jvm.Cond.privateMethod y).before a0 Z = true) (wi : (Jvm.Cond.instantiable y.cls ni).before a0 Z = true) (w5 : (Jvm.Cond.code y bytes maxL ret).before a0 Z = true) (w6 : (Jvm.Cond.initialized y.cls).before a0 Z = true)
   (hy : y.cls ≠ "java/lang/invoke/MethodHandle" ∧ y.cls ≠ "java/lang/invoke/VarHandle")
   {rm : Room} (W : Nat) {a : Addr} {C : String} (E : Exa Z h a C) (argsL rest : List Value) {Q : Option Value → Heap → List Loc → Nat → Nat → Prop} (hM : own_MetX l Z y bytes maxL ret [] rm (.ref a :: argsL).toArray h Q) (eT : T.heap = h)
   (hf : rm.frames + 1 ≤ R.frames) (hl : W + (maxL + 11) + rm.locals ≤ R.locals) (hc : cells + rm.cells ≤ R.cells) (hs : slots + rm.slots ≤ R.slots)
   {g : JFrame} (hg : g.method = m) (hsize : g.locals.size = c.maxLocals) {ps : List FieldType} {r : Option FieldType} (hpd : parseMethodDescriptor y.desc = some ⟨ps, r⟩) (hlen : argsL.length = ps.length)
   (hstack : g.stack = argsL.reverse ++ .ref a :: rest) (hW : 2 * g.monitorRoom + (rest.map fun v => v.category).sum ≤ W) (hd : decode c.code g.pc = .ok (.invokevirtual index, 3))
   {K : Outcome → State → Prop} (go : ∀ T' v L k n, Stand p l e R s m args below meth c T' (locs ++ L) (cells + k) (slots + n) → Q v T'.heap L k n → oG p e below K T' { g with pc := g.pc + 3, stack := v.toList ++ rest }) : oG p e below K T g := by
 obtain ⟨cell, kc, e1, e2, e3, e4, -⟩ := E
 obtain ⟨v, _, ⟨T', L', k', n'⟩, -, X', ⟨Lc, kk, nn, hQ, l1, y1, z1⟩, st⟩ := X.privateBack hx (y := y) hown (mvT hZ w1) (mvT hZ w2) (own_selPriv hZ w2 w3 wi hy) (Cond.privateMethod_at (args := #[]) (mvT hZ w3)) (mvT hZ w5) hy (own_backX (W := W) hM hZ w5 w6 hf hl) hg hsize (Steps.refl _) (a := a) (cell := cell) (by rw [eT]; exact e1) (fun q z => by rw [z] at e4; cases e4) (lenOf hpd hlen) hstack hW hd (fun _ _ => ⟨rfl, eT, hc, hs⟩)
 dsimp only [Pt.U, Pt.locs, Pt.cells, Pt.slots] at X' l1 y1 z1 st hQ
 subst l1 y1 z1
 exact oS (fun t k => st.trans k) (go _ _ _ _ _ X' hQ)
/-- a byte[] of that length, whatever it holds -/
def own_Buf (Z : State) (h : Heap) (b : Addr) (k : ClassId) (n : Int32) : Prop := ∃ vs : List Value, vs.length = n.toNatClampNeg ∧ Arv Z h b k .byte n vs (.int 0)
theorem own_Buf.ext {b : Addr} {k : ClassId} {n : Int32} {h' : Heap} (F : own_Buf Z h b k n) (E : Ext h h') : own_Buf Z h' b k n := by obtain ⟨vs, q, A⟩ := F; exact ⟨vs, q, A.ext E⟩
theorem own_Buf.other {b a : Addr} {k : ClassId} {n : Int32} {h' : Heap} {sl : Nat} {v : Value} (F : own_Buf Z h b k n) (W : Wr h h' a sl v) (q : b ≠ a) : own_Buf Z h' b k n := by obtain ⟨vs, r, A⟩ := F; exact ⟨vs, r, A.other W q⟩
theorem own_Buf.keep {b : Addr} {k : ClassId} {n : Int32} {h' : Heap} {ws : List Addr} (F : own_Buf Z h b k n) (K : Keep h h' ws) (q : b ∉ ws) : own_Buf Z h' b k n := by obtain ⟨vs, r, A⟩ := F; exact ⟨vs, r, A.keep K q⟩
theorem own_Buf.lt {b : Addr} {k : ClassId} {n : Int32} (F : own_Buf Z h b k n) : b < h.size := by obtain ⟨vs, r, A⟩ := F; exact A.lt
theorem own_bufNew {b : Addr} {k : ClassId} {n : Int32} (A : Arr Z h b (newA k .byte n) .byte) (q : ¬ n < 0) : own_Buf Z h b k n := ⟨[] ++ List.replicate n.toNatClampNeg (.int 0), by simp, (Arv.new A q).pad (pad_rep [] (.int 0) n.toNatClampNeg)⟩
theorem own_bufLen (X : Stand p l e R s m args below meth c T locs cells slots) (hx : p.tables.exec = Jvm.exec) (hZ : Z.Warmed39 s.vm) (eT : T.heap = h) {a : Addr} {k : ClassId} {n : Int32} (F : own_Buf Z h a k n)
   {g : JFrame} (hg : g.method = m) {rest : List Value} (hs : g.stack = .ref a :: rest) (hd : decode c.code g.pc = .ok (.arraylength, 1)) : ∀ t, Steps p.tables e below (T.setTop { g with pc := g.pc + 1, stack := .int n :: rest }) t → Steps p.tables e below (T.setTop g) t := by
 obtain ⟨vs, r, A⟩ := F; exact own_alen X hx hZ eT A hg hs hd
theorem own_bufStore (X : Stand p l e R s m args below meth c T locs cells slots) (hx : p.tables.exec = Jvm.exec) (hZ : Z.Warmed39 s.vm) (eT : T.heap = h) {a : Addr} {k : ClassId} {n : Int32} (F : own_Buf Z h a k n) {x j : Int32} (hj : ¬ j < 0 ∧ j < n)
   {g : JFrame} (hg : g.method = m) {rest : List Value} (hs : g.stack = .int x :: .int j :: .ref a :: rest) (hd : decode c.code g.pc = .ok (.bastore, 1)) :
   ∃ T' h', Stand p l e R s m args below meth c T' (locs ++ [⟨a, j.toNatClampNeg⟩]) cells slots ∧ T'.heap = h' ∧ Wr h h' a j.toNatClampNeg (.int (nar .byte x)) ∧ own_Buf Z h' a k n ∧ ∀ target, Steps p.tables e below (T'.setTop { g with pc := g.pc + 1, stack := rest }) target → Steps p.tables e below (T.setTop g) target := by
 obtain ⟨vs, r, A⟩ := F
 have hlt : j.toNatClampNeg < vs.length := by
   rw [r]; obtain ⟨q1, q2⟩ := hj
   rw [Int32.lt_iff_toInt_lt] at q1 q2
   have z0 : (0 : Int32).toInt = 0 := rfl
   simp only [Int32.toNatClampNeg]; omega
 obtain ⟨T', h', X', e', W', V', st⟩ := own_bastore X hx hZ eT A (x := x) _ rfl hj _ rfl hlt hg hs hd
 exact ⟨T', h', X', e', W', ⟨_, by simp [r], V'⟩, st⟩
theorem own_plainB {a : Addr} {k : ClassId} {n : Int32} (F : own_Buf Z h a k n) : ∀ cell : Cell, h[a]? = some cell → cell.vm.isStatics = false := by obtain ⟨vs, r, A⟩ := F; exact own_plainA A
theorem own_bufCopy (X : Stand p l e R s m args below meth c T locs cells slots) (hx : p.tables.exec = Jvm.exec) (hZ : Z.Warmed39 s.vm) {own : String} {index : Nat} (hown : s.vm.findClass own = some m.cls)
   (w1 : (Jvm.Cond.methodLink own index Jvm.Stand.acN).before a0 Z = true) (w2 : (Jvm.Cond.native Jvm.Stand.acN).before a0 Z = true) (w3 : (Jvm.Cond.static Jvm.Stand.acN).before a0 Z = true) (w4 : (Jvm.Cond.initialized "java/lang/System").before a0 Z = true) (eT : T.heap = h)
   {a b : Addr} {k k' : ClassId} {z z' sp dp nn : Int32} (A : own_Buf Z h a k z) (B : own_Buf Z h b k' z') (h1 : ¬ sp < 0) (h2 : ¬ dp < 0) (h3 : ¬ nn < 0) (h4 : sp.toNatClampNeg + nn.toNatClampNeg ≤ z.toNatClampNeg) (h5 : dp.toNatClampNeg + nn.toNatClampNeg ≤ z'.toNatClampNeg)
   {n0 : Nat} (N : Fr n0 locs) (ge : n0 ≤ b) {g : JFrame} (hg : g.method = m) (hsize : g.locals.size = c.maxLocals) {rest : List Value} (hs : g.stack = .int nn :: .int dp :: .ref b :: .int sp :: .ref a :: rest) (hd : decode c.code g.pc = .ok (.invokestatic index, 3))
   (hf : 1 ≤ R.frames) {W : Nat} (hW : 2 * g.monitorRoom + (rest.map fun v => v.category).sum ≤ W) (hlo : W + (nativeFrameWords "java/lang/System" "arraycopy" 5 + 11) ≤ R.locals) :
   ∃ T' h' L, Stand p l e R s m args below meth c T' L cells slots ∧ T'.heap = h' ∧ Fr n0 L ∧ Keep h h' [b] ∧ own_Buf Z h' b k' z' ∧ ∀ target, Steps p.tables e below (T'.setTop { g with pc := g.pc + 3, stack := rest }) target → Steps p.tables e below (T.setTop g) target := by
 obtain ⟨vs, r, A⟩ := A
 obtain ⟨vd, r', B⟩ := B
 obtain ⟨T', h', L, X', e', N', K', V', st⟩ := cpA X hx hZ hown w1 w2 w3 w4 eT A B (Or.inl ⟨rfl, rfl⟩) h1 h2 h3 h4 h5 rfl (by rw [r']; exact h5) N ge hg hsize hs hd hf hW hlo
 refine ⟨T', h', L, X', e', N', K', ⟨_, ?_, V'⟩, st⟩
 simp only [List.length_append, List.length_take, List.length_drop, List.length_map, List.length_range]
 omega
end OwnKitX
/-! own kit: the writer's numbers (how much was written, how large the array is, what growth may still cost) -/
section OwnKitY
variable {p : Program} {l : Launch} {e : Env} {R : Room} {s : State} {m : MethodId} {args : Array Value} {below : List Frame} {meth : Method} {c : Code} {T : State} {locs : List Loc} {cells slots : Nat} {Z : State} {a0 : Array Value} {h : Heap}
theorem own_retVX (X : Stand p l e R s m args below meth c T locs cells slots) (hx : p.tables.exec = Jvm.exec) (hlk : meth.locks = false) {pc : Nat} {Ls : Array Slot} (hret : meth.sig.returnType = none)
   (hd : decode c.code pc = .ok (.return_, 1)) {Q : Option Value → Heap → List Loc → Nat → Nat → Prop} (hQ : Q none T.heap locs cells slots) : oG p e below (own_KX s Q) T (mkF m pc Ls []) :=
 own_outX X hlk (fun _ => rfl) (fun fs hr => X.returnOut hx hret hd hr) hQ
theorem own_retAX (X : Stand p l e R s m args below meth c T locs cells slots) (hx : p.tables.exec = Jvm.exec) (hlk : meth.locks = false) {pc : Nat} {Ls : Array Slot} {w : Value} {t : FieldType} {rest : List Value} (hret : meth.sig.returnType = some t) (hn : narrow t w = w) (ht : t.isReference = true) (hw : w.isRef = true)
   (hd : decode c.code pc = .ok (.areturn, 1)) {Q : Option Value → Heap → List Loc → Nat → Nat → Prop} (hQ : Q (some w) T.heap locs cells slots) : oG p e below (own_KX s Q) T (mkF m pc Ls (w :: rest)) :=
 own_outX X hlk (fun q => by rw [hret] at q; cases q) (fun fs hr => retOut X hx hret hn (Or.inr (Or.inr (Or.inr (Or.inr ⟨rfl, ht, hw⟩)))) hd hr) hQ
/-- what growth may still cost: cells, slots -/
def own_gc (c : Int32) : Nat := if c = 64 then 1 else 0
def own_gs (c : Int32) : Nat := if c = 64 then 128 else 0
def own_St (cap sz : Int32) (N : Int) : Prop := (cap = 64 ∨ cap = 128) ∧ sz.toInt = N ∧ 0 ≤ N ∧ N ≤ cap.toInt
theorem own_St.cast {cap sz : Int32} {N M : Int} (h : own_St cap sz N) (q : N = M) : own_St cap sz M := q ▸ h
theorem own_acc {x k u C g g' G : Nat} (I : x + g ≤ u + G) (h : k + g' ≤ C + g) : (x + k) + g' ≤ (u + C) + G := by omega
theorem own_accL {x u g G : Nat} (k : Nat) (I : x + g ≤ u + G) : (x + k) + g ≤ (u + k) + G := by omega
theorem own_need {x u g G C D : Nat} (I : x + g ≤ u + G) (h : u + C ≤ D) : x + (C + g) ≤ D + G := by omega
theorem own_needL {x u g G k D : Nat} (I : x + g ≤ u + G) (h : u + k ≤ D) : x + k ≤ D + G := by omega
theorem own_fin {x u g G D : Nat} (I : x + g ≤ u + G) (h : u ≤ D) : x + g ≤ D + G := by omega
theorem own_needR {x u g G C D : Nat} (I : x + g ≤ u + G) (h : u + C + G ≤ D) : x + (C + g) ≤ D := by omega
theorem own_needRL {x u g G k D : Nat} (I : x + g ≤ u + G) (h : u + k + G ≤ D) : x + k ≤ D := by omega
theorem own_finR {x u g G D : Nat} (I : x + g ≤ u + G) (h : u + G ≤ D) : x ≤ D := by omega
theorem own_ne2 {x b b' : Addr} {s : Nat} (q : x ≠ b) (lt : x < s) (z : b' = b ∨ s ≤ b') : x ≠ b' := by
 rcases z with rfl | z
 · exact q
 · exact Nat.ne_of_lt (Nat.lt_of_lt_of_le lt z)
theorem own_bz {b b1 b2 : Addr} {s t : Nat} (z : b2 = b1 ∨ t ≤ b2) (y : b1 = b ∨ s ≤ b1) (k : s ≤ t) : b2 = b ∨ s ≤ b2 := by
 rcases z with rfl | z
 · exact y
 · exact Or.inr (Nat.le_trans k z)
theorem own_sz2 {b1 b2 : Addr} {s t : Nat} (z : b2 = b1 ∨ t ≤ b2) (y : s ≤ b1) (k : s ≤ t) : s ≤ b2 := by
 rcases z with rfl | z
 · exact y
 · exact Nat.le_trans k z
theorem own_wz {b b2 : Addr} {ws : List Addr} {s : Nat} (z : b2 = b ∨ s ≤ b2) (q : b ∈ ws) : b2 ∈ ws ∨ s ≤ b2 := by
 rcases z with rfl | z
 · exact Or.inl q
 · exact Or.inr z
theorem own_addT {x y : Int32} {n j : Int} (h : x.toInt = n) (k : y.toInt = j) (h0 : 0 ≤ n + j) (h1 : n + j ≤ 1000) : (x + y).toInt = n + j := by
 have q := c_iadd x y
 have a := rng32 (x + y)
 omega
theorem own_subT {x y : Int32} {n j : Int} (h : x.toInt = n) (k : y.toInt = j) (h0 : 0 ≤ n - j) (h1 : n - j ≤ 1000) : (x - y).toInt = n - j := by
 have q := c_isub x y
 have a := rng32 (x - y)
 omega
theorem own_bd {x cap : Int32} {n : Int} (h : x.toInt = n) (h0 : 0 ≤ n) (h1 : n < cap.toInt) : ¬ x < 0 ∧ x < cap := by
 have e0 : (0 : Int32).toInt = 0 := by decide
 rw [Int32.lt_iff_toInt_lt, Int32.lt_iff_toInt_lt, e0]
 omega
theorem own_cpz {x : Int32} {n : Int} (h : x.toInt = n) (h0 : 0 ≤ n) : ¬ x < 0 := by
 have e0 : (0 : Int32).toInt = 0 := by decide
 rw [Int32.lt_iff_toInt_lt, e0]; omega
theorem own_cpl {x y z : Int32} {n j : Int} (h : x.toInt = n) (h0 : 0 ≤ n) (k : y.toInt = j) (k0 : 0 ≤ j) (q : n + j ≤ z.toInt) : x.toNatClampNeg + y.toNatClampNeg ≤ z.toNatClampNeg := by
 simp only [Int32.toNatClampNeg]; omega
theorem own_capT {cap : Int32} (h : cap = 64 ∨ cap = 128) : cap.toInt = 64 ∨ cap.toInt = 128 := by
 rcases h with rfl | rfl
 · exact Or.inl (by decide)
 · exact Or.inr (by decide)
theorem own_roomNo {cap sz kk : Int32} {N j : Int} (S : own_St cap sz N) (hk : kk.toInt = j) (q : ¬ ((cap - sz) < kk)) : N + j ≤ cap.toInt := by
 obtain ⟨c1, c2, c3, c4⟩ := S
 rw [Int32.lt_iff_toInt_lt] at q
 have a := c_isub cap sz
 have b := rng32 (cap - sz)
 rcases own_capT c1 with z | z <;> omega
theorem own_roomYes {cap sz kk : Int32} {N j : Int} (S : own_St cap sz N) (hk : kk.toInt = j) (hN : N + j ≤ 128) (q : (cap - sz) < kk) : cap = 64 := by
 obtain ⟨c1, c2, c3, c4⟩ := S
 rw [Int32.lt_iff_toInt_lt] at q
 have a := c_isub cap sz
 have b := rng32 (cap - sz)
 have c5 := own_capT c1
 rcases c1 with z | z
 · exact z
 · exfalso; have z' : cap.toInt = 128 := by rw [z]; decide
   omega
theorem own_roomMax {sz kk : Int32} {N j : Int} (hs : sz.toInt = N) (h0 : 0 ≤ N) (hk : kk.toInt = j) (hN : N + j ≤ 128) : ¬ (((2147483639 : Int32) - sz) < kk) := by
 rw [Int32.lt_iff_toInt_lt]
 have e : (2147483639 : Int32).toInt = 2147483639 := by decide
 have a := c_isub (2147483639 : Int32) sz
 have b := rng32 ((2147483639 : Int32) - sz)
 omega
theorem own_roomL {sz kk : Int32} {N j : Int} (hs : sz.toInt = N) (h0 : 0 ≤ N) (hk : kk.toInt = j) (k0 : 0 ≤ j) (hN : N + j ≤ 128) : ¬ ((lcmpW (128 : Int64) ((sz.toInt64) + (kk.toInt64))) < (0 : Int32)) := by
 rw [lw_lt, Int64.lt_iff_toInt_lt]
 have e : (128 : Int64).toInt = 128 := by decide
 have a := c_ladd sz.toInt64 kk.toInt64
 have b := rng64 (sz.toInt64 + kk.toInt64)
 have c := c_i2l sz
 have d := c_i2l kk
 omega
/-- the bytes that a char up to 255 takes in UTF-8; a row's mark of deletion -/
def own_u (c : Int32) : Int := if c < 128 then 1 else 2
def own_d (x : Int64) : Int := if x = 0 then 0 else 12
theorem own_u1 {c : Int32} (h : c < 128) : own_u c = 1 := if_pos h
theorem own_u2 {c : Int32} (h : ¬ (c < 128)) : own_u c = 2 := if_neg h
theorem own_ur (c : Int32) : 1 ≤ own_u c ∧ own_u c ≤ 2 := by
 by_cases h : c < 128
 · rw [own_u1 h]; omega
 · rw [own_u2 h]; omega
theorem own_d0 {x : Int64} (h : (lcmpW x (0 : Int64)) = (0 : Int32)) : own_d x = 0 := if_pos ((lw_eq x 0).mp h)
theorem own_d1 {x : Int64} (h : ¬ ((lcmpW x (0 : Int64)) = (0 : Int32))) : own_d x = 12 := if_neg (fun q => h ((lw_eq x 0).mpr q))
theorem own_dr (x : Int64) : 0 ≤ own_d x ∧ own_d x ≤ 12 := by
 by_cases h : x = 0
 · have q : own_d x = 0 := if_pos h
   omega
 · have q : own_d x = 12 := if_neg h
   omega
theorem own_sgP {c : Int32} (h0 : ¬ (c < (0 : Int32))) (h : c < 128) : ¬ ((c.toInt8.toInt32) < (0 : Int32)) := by
 have e0 : (0 : Int32).toInt = 0 := by decide
 have e1 : (128 : Int32).toInt = 128 := by decide
 rw [Int32.lt_iff_toInt_lt] at *
 have a := c_i2b c
 omega
theorem own_sgN {c : Int32} (h1 : ¬ ((255 : Int32) < c)) (h : ¬ (c < 128)) : (c.toInt8.toInt32) < (0 : Int32) := by
 have e0 : (0 : Int32).toInt = 0 := by decide
 have e1 : (128 : Int32).toInt = 128 := by decide
 have e2 : (255 : Int32).toInt = 255 := by decide
 rw [Int32.lt_iff_toInt_lt] at *
 have a := c_i2b c
 omega
theorem own_neEB {x b : Addr} {C : String} {k : ClassId} {z : Int32} {n : Nat} (E : Exa Z h x C) (F : own_Buf Z h b k z) (w : (Jvm.Cond.instantiable C n).before a0 Z = true) : x ≠ b := by obtain ⟨vs, r, A⟩ := F; exact E.neArv A w
theorem own_n3 (x : Int32) : ¬ (x &&& (3 : Int32)) < (0 : Int32) ∧ (x &&& (3 : Int32)).toNatClampNeg ≤ 3 ∧ ((x &&& (3 : Int32)) = (0 : Int32) ∨ (x &&& (3 : Int32)) = (1 : Int32) ∨ (x &&& (3 : Int32)) = (2 : Int32) ∨ (x &&& (3 : Int32)) = (3 : Int32)) ∧ 0 ≤ (x &&& (3 : Int32)).toInt ∧ (x &&& (3 : Int32)).toInt ≤ 3 := by
 have h1 := c_mask x (3 : Int32) 2 (by decide) (by decide)
 generalize (x &&& (3 : Int32)) = t at *
 have h3 : 0 ≤ t.toInt ∧ t.toInt ≤ 3 := by omega
 have key : ∀ n : Int32, t.toInt = n.toInt → t = n := fun n h => Int32.toInt_inj.mp h
 have e0 : (0 : Int32).toInt = 0 := by decide
 have e1 : (1 : Int32).toInt = 1 := by decide
 have e2 : (2 : Int32).toInt = 2 := by decide
 have e3 : (3 : Int32).toInt = 3 := by decide
 refine ⟨by rw [Int32.lt_iff_toInt_lt]; omega, by simp only [Int32.toNatClampNeg]; omega, ?_, h3⟩
 have q : t.toInt = (0 : Int32).toInt ∨ t.toInt = (1 : Int32).toInt ∨ t.toInt = (2 : Int32).toInt ∨ t.toInt = (3 : Int32).toInt := by omega
 exact q.imp (key _) (Or.imp (key _) (Or.imp (key _) (key _)))
end OwnKitY
theorem own_mathp {n d : String} (h : plainFor ⟨"java/lang/Math", n, d⟩ = true) : plainFor ⟨"java/lang/Math", n, d⟩ = true := h
theorem own_pn_java_lang_String : plainName "java/lang/String" = true := by first | (simp [plainName, overriddenIn]; done) | decide +kernel
theorem own_ef0 (m : MethodId) (x0 : Addr) : entryFrame m #[.ref x0] 1 = mkF m 0 #[.val (.ref x0)] [] := by first | (simp [entryFrame, mkF, argsToLocals, Value.category]; done) | rfl
theorem oj42_152_0 : decode jdk_42_method_152_code 0 = .ok (.getstatic 38, 3) := by decide +kernel
theorem oj42_152_3 : decode jdk_42_method_152_code 3 = .ok (.ifCond .eq 10, 3) := by decide +kernel
theorem oj42_152_6 : decode jdk_42_method_152_code 6 = .ok (.aload_n 0, 1) := by decide +kernel
theorem oj42_152_7 : decode jdk_42_method_152_code 7 = .ok (.getfield 15, 3) := by decide +kernel
theorem oj42_152_10 : decode jdk_42_method_152_code 10 = .ok (.goto 4, 3) := by decide +kernel
theorem oj42_152_14 : decode jdk_42_method_152_code 14 = .ok (.ireturn, 1) := by decide +kernel
set_option maxRecDepth 65536 in
set_option maxHeartbeats 40000000 in
theorem own_cod (l : Launch) (Z : State) (a0 : Array Value) (hw : ∀ d ∈ tables_1, d.before a0 Z = true) (ws : List Jvm.Cond) (a : Addr) (zc : Int32) (h0 : Heap) (n0 : Nat) (Z0 : n0 ≤ h0.size) (S_C : Sta Z h0 "java/lang/String" "COMPACT_STRINGS" "Z" (.int zc)) (F_a_coder : Fld Z h0 a "java/lang/String" "coder" "B" (.int 0)) (hz : ¬ (zc = (0 : Int32))) :
   own_Met l Z oy28 jdk_42_method_152_code 1 (some .byte) ws ({ frames := 0, cells := 0, slots := 0, locals := 0 } : Room) #[.ref a] h0 (fun v h L => v = some (.int 0) ∧ Fr n0 L ∧ h = h0) := by
 refine own_body (plainFor_of_name own_pn_java_lang_String) (fun p e s m below meth c s₁ hx hby hml0 hrt hlk hown0 hnm hZ X0 e0 => ?_)
 have N0 := Fr.nil n0
 have hown : s.vm.findClass "java/lang/String" = some m.cls := hown0
 have hml : c.maxLocals = 1 := hml0
 refine own_castG (own_ef0 m a) ?_
 show oG _ _ _ _ s₁ (mkF m 0 #[oR a] [])
 obtain ⟨T1, X1, e1, st1⟩ := getS2 X0 hx hZ hown (host := "") (Or.inl (oW hw 14 rfl)) Via.refl e0 S_C (g := (mkF m 0 #[oR a] [])) rfl (hb hby oj42_152_0)
 refine oS st1 ?_
 show oG _ _ _ _ T1 (mkF m 3 #[oR a] [.int zc])
 refine oS (fun t k => XS.ifNo X1.here hx rfl (hb hby oj42_152_3) rfl ((if0 _ _).trans (feq (show ¬ (zc = (0 : Int32)) from hz)).1) k) ?_
 refine oS (fun t k => XS.aloadN X1.here hx rfl (hb hby oj42_152_6) rfl rfl k) ?_
 show oG _ _ _ _ T1 (mkF m 7 #[oR a] [.ref a])
 obtain ⟨T2, X2, e2, st2⟩ := getF X1 hx hZ hown (host := "") (Or.inl (oW hw 26 rfl)) Via.refl e1 F_a_coder (g := (mkF m 7 #[oR a] [.ref a])) rfl rfl (hb hby oj42_152_7)
 refine oS st2 ?_
 refine oS (fun t k => XS.goto X2.here hx rfl (pc0 := 10) (pc' := 14) rfl (hb hby oj42_152_10) (by decide) (by decide) k) ?_
 show oG _ _ _ _ T2 (mkF m 14 #[oR a] [.int 0])
 exact own_retN X2 hx hlk (t := .byte) hrt (by simp) (hb hby oj42_152_14) ⟨rfl, N0, e2⟩ (by decide) (by decide)
theorem own_ef1 (m : MethodId) (x0 : Addr) : entryFrame m #[.ref x0] 1 = mkF m 0 #[.val (.ref x0)] [] := by first | (simp [entryFrame, mkF, argsToLocals, Value.category]; done) | rfl
theorem oj42_54_0 : decode jdk_42_method_54_code 0 = .ok (.aload_n 0, 1) := by decide +kernel
theorem oj42_54_1 : decode jdk_42_method_54_code 1 = .ok (.getfield 9, 3) := by decide +kernel
theorem oj42_54_4 : decode jdk_42_method_54_code 4 = .ok (.arraylength, 1) := by decide +kernel
theorem oj42_54_5 : decode jdk_42_method_54_code 5 = .ok (.aload_n 0, 1) := by decide +kernel
theorem oj42_54_6 : decode jdk_42_method_54_code 6 = .ok (.invokevirtual 335, 3) := by decide +kernel
theorem own_pd0 : parseMethodDescriptor "()B" = some ⟨[], some .byte⟩ := by decide +kernel
theorem oj42_54_9 : decode jdk_42_method_54_code 9 = .ok (.ishr, 1) := by decide +kernel
theorem oj42_54_10 : decode jdk_42_method_54_code 10 = .ok (.ireturn, 1) := by decide +kernel
set_option maxRecDepth 65536 in
set_option maxHeartbeats 40000000 in
theorem own_len2 (l : Launch) (Z : State) (a0 : Array Value) (hw : ∀ d ∈ tables_1, d.before a0 Z = true) (ws : List Jvm.Cond) (a : Addr) (zc : Int32) (va : Addr) (ka : ClassId) (x0 : Int32) (x1 : Int32) (h0 : Heap) (n0 : Nat) (Z0 : n0 ≤ h0.size) (S_C : Sta Z h0 "java/lang/String" "COMPACT_STRINGS" "Z" (.int zc)) (E_a : Exa Z h0 a "java/lang/String") (F_a_coder : Fld Z h0 a "java/lang/String" "coder" "B" (.int 0)) (F_a_value : Fld Z h0 a "java/lang/String" "value" "[B" (.ref va)) (V_va : Arv Z h0 va ka .byte (2 : Int32) [.int x0, .int x1] (.int 0)) (hz : ¬ (zc = (0 : Int32))) :
   own_Met l Z oy33 jdk_42_method_54_code 1 (some .int) ws ({ frames := 1, cells := 0, slots := 0, locals := 13 } : Room) #[.ref a] h0 (fun v h L => v = some (.int 2) ∧ Fr n0 L ∧ h = h0) := by
 refine own_body (plainFor_of_name own_pn_java_lang_String) (fun p e s m below meth c s₁ hx hby hml0 hrt hlk hown0 hnm hZ X0 e0 => ?_)
 have N0 := Fr.nil n0
 have hown : s.vm.findClass "java/lang/String" = some m.cls := hown0
 have hml : c.maxLocals = 1 := hml0
 refine own_castG (own_ef1 m a) ?_
 refine oS (fun t k => XS.aloadN X0.here hx rfl (hb hby oj42_54_0) rfl rfl k) ?_
 show oG _ _ _ _ s₁ (mkF m 1 #[oR a] [.ref a])
 obtain ⟨T1, X1, e1, st1⟩ := getF X0 hx hZ hown (host := "") (Or.inl (oW hw 28 rfl)) Via.refl e0 F_a_value (g := (mkF m 1 #[oR a] [.ref a])) rfl rfl (hb hby oj42_54_1)
 refine oS st1 ?_
 show oG _ _ _ _ T1 (mkF m 4 #[oR a] [.ref va])
 refine oS (own_alen X1 hx hZ e1 V_va (g := (mkF m 4 #[oR a] [.ref va])) rfl rfl (hb hby oj42_54_4)) ?_
 refine oS (fun t k => XS.aloadN X1.here hx rfl (hb hby oj42_54_5) rfl rfl k) ?_
 show oG _ _ _ _ T1 (mkF m 6 #[oR a] [.ref a, .int 2])
 refine own_callV X1 hx hZ (y := oy28) (z := oy28) hown (oW hw 125 rfl) (oW hw 126 rfl) (notFace_of_selects (args := #[]) (mvT hZ (oW hw 128 rfl))) (oW hw 128 rfl) (oW hw 127 rfl) (oW hw 129 rfl) (oW hw 3 rfl) (by decide) 1 E_a [] [.int 2] (own_cod l Z a0 hw [] a zc h0 n0 Z0 S_C F_a_coder hz) e1  (by decide) (by decide) (by decide) (by decide) (g := (mkF m 6 #[oR a] [.ref a, .int 2])) rfl (by rw [hml]; rfl) own_pd0 rfl rfl (by show 2 * 0 + _ ≤ _; exact Nat.le_of_eq rfl) (hb hby oj42_54_6) ?_
 intro T2 v2 L2 X2 hQ2
 obtain ⟨rfl, N2q, e2⟩ := hQ2
 have N2 := Fr.app N0 N2q
 refine oS (fun t k => XS.ishr X2.here hx rfl (hb hby oj42_54_9) rfl k) ?_
 show oG _ _ _ _ T2 (mkF m 10 #[oR a] [.int 2])
 exact own_retI X2 hx hlk hrt (hb hby oj42_54_10) ⟨rfl, N2, e2⟩ (by decide) (by decide)
theorem own_ef2 (m : MethodId) (x0 : Addr) : entryFrame m #[.ref x0] 1 = mkF m 0 #[.val (.ref x0)] [] := by first | (simp [entryFrame, mkF, argsToLocals, Value.category]; done) | rfl
theorem oj42_154_0 : decode jdk_42_method_154_code 0 = .ok (.getstatic 38, 3) := by decide +kernel
theorem oj42_154_3 : decode jdk_42_method_154_code 3 = .ok (.ifCond .eq 14, 3) := by decide +kernel
theorem oj42_154_6 : decode jdk_42_method_154_code 6 = .ok (.aload_n 0, 1) := by decide +kernel
theorem oj42_154_7 : decode jdk_42_method_154_code 7 = .ok (.getfield 15, 3) := by decide +kernel
theorem oj42_154_10 : decode jdk_42_method_154_code 10 = .ok (.ifCond .ne 7, 3) := by decide +kernel
theorem oj42_154_13 : decode jdk_42_method_154_code 13 = .ok (.iconst 1, 1) := by decide +kernel
theorem oj42_154_14 : decode jdk_42_method_154_code 14 = .ok (.goto 4, 3) := by decide +kernel
theorem oj42_154_18 : decode jdk_42_method_154_code 18 = .ok (.ireturn, 1) := by decide +kernel
set_option maxRecDepth 65536 in
set_option maxHeartbeats 40000000 in
theorem own_isl (l : Launch) (Z : State) (a0 : Array Value) (hw : ∀ d ∈ tables_1, d.before a0 Z = true) (ws : List Jvm.Cond) (a : Addr) (zc : Int32) (h0 : Heap) (n0 : Nat) (Z0 : n0 ≤ h0.size) (S_C : Sta Z h0 "java/lang/String" "COMPACT_STRINGS" "Z" (.int zc)) (F_a_coder : Fld Z h0 a "java/lang/String" "coder" "B" (.int 0)) (hz : ¬ (zc = (0 : Int32))) :
   own_Met l Z oy32 jdk_42_method_154_code 1 (some .boolean) ws ({ frames := 0, cells := 0, slots := 0, locals := 0 } : Room) #[.ref a] h0 (fun v h L => v = some (.int 1) ∧ Fr n0 L ∧ h = h0) := by
 refine own_body (plainFor_of_name own_pn_java_lang_String) (fun p e s m below meth c s₁ hx hby hml0 hrt hlk hown0 hnm hZ X0 e0 => ?_)
 have N0 := Fr.nil n0
 have hown : s.vm.findClass "java/lang/String" = some m.cls := hown0
 have hml : c.maxLocals = 1 := hml0
 refine own_castG (own_ef2 m a) ?_
 show oG _ _ _ _ s₁ (mkF m 0 #[oR a] [])
 obtain ⟨T1, X1, e1, st1⟩ := getS2 X0 hx hZ hown (host := "") (Or.inl (oW hw 14 rfl)) Via.refl e0 S_C (g := (mkF m 0 #[oR a] [])) rfl (hb hby oj42_154_0)
 refine oS st1 ?_
 show oG _ _ _ _ T1 (mkF m 3 #[oR a] [.int zc])
 refine oS (fun t k => XS.ifNo X1.here hx rfl (hb hby oj42_154_3) rfl ((if0 _ _).trans (feq (show ¬ (zc = (0 : Int32)) from hz)).1) k) ?_
 refine oS (fun t k => XS.aloadN X1.here hx rfl (hb hby oj42_154_6) rfl rfl k) ?_
 show oG _ _ _ _ T1 (mkF m 7 #[oR a] [.ref a])
 obtain ⟨T2, X2, e2, st2⟩ := getF X1 hx hZ hown (host := "") (Or.inl (oW hw 26 rfl)) Via.refl e1 F_a_coder (g := (mkF m 7 #[oR a] [.ref a])) rfl rfl (hb hby oj42_154_7)
 refine oS st2 ?_
 show oG _ _ _ _ T2 (mkF m 10 #[oR a] [.int 0])
 refine oS (fun t k => XS.ifNo X2.here hx rfl (hb hby oj42_154_10) rfl ((if0 _ _).trans (teq (show (0 : Int32) = (0 : Int32) from (by decide))).2) k) ?_
 refine oS (fun t k => XS.iconst X2.here hx rfl (hb hby oj42_154_13) k) ?_
 refine oS (fun t k => XS.goto X2.here hx rfl (pc0 := 14) (pc' := 18) rfl (hb hby oj42_154_14) (by decide) (by decide) k) ?_
 show oG _ _ _ _ T2 (mkF m 18 #[oR a] [.int 1])
 exact own_retN X2 hx hlk (t := .boolean) hrt (by simp) (hb hby oj42_154_18) ⟨rfl, N0, e2⟩ (by decide) (by decide)
theorem own_pn_jdk_internal_util_Preconditions : plainName "jdk/internal/util/Preconditions" = true := by first | (simp [plainName, overriddenIn]; done) | decide +kernel
theorem own_ef3 (m : MethodId) (x0 : Int32) (x1 : Int32) (x2 : Value) (hv2 : x2.isRef = true) : entryFrame m #[.int x0, .int x1, x2] 3 = mkF m 0 #[.val (.int x0), .val (.int x1), .val x2] [] := by rcases ref_cases hv2 with rfl | ⟨z2, rfl⟩ <;> first | (simp [entryFrame, mkF, argsToLocals, Value.category]; done) | rfl
theorem oj41_11_0 : decode jdk_41_method_11_code 0 = .ok (.iload_n 0, 1) := by decide +kernel
theorem oj41_11_1 : decode jdk_41_method_11_code 1 = .ok (.ifCond .lt 8, 3) := by decide +kernel
theorem oj41_11_4 : decode jdk_41_method_11_code 4 = .ok (.iload_n 0, 1) := by decide +kernel
theorem oj41_11_5 : decode jdk_41_method_11_code 5 = .ok (.iload_n 1, 1) := by decide +kernel
theorem oj41_11_6 : decode jdk_41_method_11_code 6 = .ok (.if_icmp .lt 10, 3) := by decide +kernel
theorem oj41_11_16 : decode jdk_41_method_11_code 16 = .ok (.iload_n 0, 1) := by decide +kernel
theorem oj41_11_17 : decode jdk_41_method_11_code 17 = .ok (.ireturn, 1) := by decide +kernel
set_option maxRecDepth 65536 in
set_option maxHeartbeats 40000000 in
theorem own_pci (l : Launch) (Z : State) (a0 : Array Value) (hw : ∀ d ∈ tables_1, d.before a0 Z = true) (ws : List Jvm.Cond) (pv : Int32) (qv : Int32) (fm : Value) (h0 : Heap) (n0 : Nat) (Z0 : n0 ≤ h0.size) (q1 : ¬ (pv < (0 : Int32))) (q2 : pv < qv) (rG : fm.isRef = true) :
   own_Met l Z oy43 jdk_41_method_11_code 3 (some .int) ws ({ frames := 0, cells := 0, slots := 0, locals := 0 } : Room) #[.int pv, .int qv, fm] h0 (fun v h L => v = some (.int pv) ∧ Fr n0 L ∧ h = h0) := by
 refine own_body (plainFor_of_name own_pn_jdk_internal_util_Preconditions) (fun p e s m below meth c s₁ hx hby hml0 hrt hlk hown0 hnm hZ X0 e0 => ?_)
 have N0 := Fr.nil n0
 have hown : s.vm.findClass "jdk/internal/util/Preconditions" = some m.cls := hown0
 have hml : c.maxLocals = 3 := hml0
 refine own_castG (own_ef3 m pv qv fm rG) ?_
 refine oS (fun t k => XS.iloadN X0.here hx rfl (hb hby oj41_11_0) rfl k) ?_
 show oG _ _ _ _ s₁ (mkF m 1 #[oI pv, oI qv, .val fm] [.int pv])
 refine oS (fun t k => XS.ifNo X0.here hx rfl (hb hby oj41_11_1) rfl ((if0 _ _).trans (flt (show ¬ (pv < (0 : Int32)) from q1)).1) k) ?_
 refine oS (fun t k => XS.iloadN X0.here hx rfl (hb hby oj41_11_4) rfl k) ?_
 refine oS (fun t k => XS.iloadN X0.here hx rfl (hb hby oj41_11_5) rfl k) ?_
 show oG _ _ _ _ s₁ (mkF m 6 #[oI pv, oI qv, .val fm] [.int qv, .int pv])
 refine oS (fun t k => XS.icmpYes X0.here hx rfl (pc0 := 6) (pc' := 16) rfl (hb hby oj41_11_6) rfl (tlt (show pv < qv from q2)).1 (by decide) (by decide) k) ?_
 refine oS (fun t k => XS.iloadN X0.here hx rfl (hb hby oj41_11_16) rfl k) ?_
 show oG _ _ _ _ s₁ (mkF m 17 #[oI pv, oI qv, .val fm] [.int pv])
 exact own_retI X0 hx hlk hrt (hb hby oj41_11_17) ⟨rfl, N0, e0⟩ (by decide) (by decide)
theorem own_ef4 (m : MethodId) (x0 : Int32) (x1 : Int32) : entryFrame m #[.int x0, .int x1] 2 = mkF m 0 #[.val (.int x0), .val (.int x1)] [] := by first | (simp [entryFrame, mkF, argsToLocals, Value.category]; done) | rfl
theorem oj42_155_0 : decode jdk_42_method_155_code 0 = .ok (.iload_n 0, 1) := by decide +kernel
theorem oj42_155_1 : decode jdk_42_method_155_code 1 = .ok (.iload_n 1, 1) := by decide +kernel
theorem oj42_155_2 : decode jdk_42_method_155_code 2 = .ok (.getstatic 1053, 3) := by decide +kernel
theorem oj42_155_5 : decode jdk_42_method_155_code 5 = .ok (.invokestatic 1059, 3) := by decide +kernel
theorem own_pd1 : parseMethodDescriptor "(IILjava/util/function/BiFunction;)I" = some ⟨[.int, .int, (.object "java/util/function/BiFunction")], some .int⟩ := by decide +kernel
theorem oj42_155_8 : decode jdk_42_method_155_code 8 = .ok (.pop, 1) := by decide +kernel
theorem oj42_155_9 : decode jdk_42_method_155_code 9 = .ok (.return_, 1) := by decide +kernel
set_option maxRecDepth 65536 in
set_option maxHeartbeats 40000000 in
theorem own_sci (l : Launch) (Z : State) (a0 : Array Value) (hw : ∀ d ∈ tables_1, d.before a0 Z = true) (ws : List Jvm.Cond) (pv : Int32) (qv : Int32) (fm : Value) (h0 : Heap) (n0 : Nat) (Z0 : n0 ≤ h0.size) (S_F : Sta Z h0 "jdk/internal/util/Preconditions" "SIOOBE_FORMATTER" "Ljava/util/function/BiFunction;" fm) (q1 : ¬ (pv < (0 : Int32))) (q2 : pv < qv) (rG : fm.isRef = true) :
   own_Met l Z oy27 jdk_42_method_155_code 2 none ws ({ frames := 1, cells := 0, slots := 0, locals := 14 } : Room) #[.int pv, .int qv] h0 (fun v h L => v = none ∧ Fr n0 L ∧ h = h0) := by
 refine own_body (plainFor_of_name own_pn_java_lang_String) (fun p e s m below meth c s₁ hx hby hml0 hrt hlk hown0 hnm hZ X0 e0 => ?_)
 have N0 := Fr.nil n0
 have hown : s.vm.findClass "java/lang/String" = some m.cls := hown0
 have hml : c.maxLocals = 2 := hml0
 refine own_castG (own_ef4 m pv qv) ?_
 refine oS (fun t k => XS.iloadN X0.here hx rfl (hb hby oj42_155_0) rfl k) ?_
 refine oS (fun t k => XS.iloadN X0.here hx rfl (hb hby oj42_155_1) rfl k) ?_
 show oG _ _ _ _ s₁ (mkF m 2 #[oI pv, oI qv] [.int qv, .int pv])
 obtain ⟨T1, X1, e1, st1⟩ := getS2 X0 hx hZ hown (host := "") (Or.inl (oW hw 156 rfl)) Via.refl e0 S_F (g := (mkF m 2 #[oI pv, oI qv] [.int qv, .int pv])) rfl (hb hby oj42_155_2)
 refine oS st1 ?_
 show oG _ _ _ _ T1 (mkF m 5 #[oI pv, oI qv] [fm, .int qv, .int pv])
 refine own_callS X1 hx hZ (y := oy43) hown (oW hw 158 rfl) (oW hw 159 rfl) (oW hw 157 rfl) (oW hw 160 rfl) (by decide) 0 [.int pv, .int qv, fm] [] (own_pci l Z a0 hw [] pv qv fm h0 n0 Z0 q1 q2 rG) e1  (by decide) (by decide) (by decide) (by decide) (g := (mkF m 5 #[oI pv, oI qv] [fm, .int qv, .int pv])) rfl (by rw [hml]; rfl) own_pd1 rfl rfl (by show 2 * 0 + _ ≤ _; exact Nat.le_of_eq rfl) (hb hby oj42_155_5) ?_
 intro T2 v2 L2 X2 hQ2
 obtain ⟨rfl, N2q, e2⟩ := hQ2
 have N2 := Fr.app N0 N2q
 refine oS (fun t k => XS.pop X2.here hx rfl (hb hby oj42_155_8) rfl rfl k) ?_
 show oG _ _ _ _ T2 (mkF m 9 #[oI pv, oI qv] [])
 exact own_retV X2 hx hlk hrt (hb hby oj42_155_9) ⟨rfl, N2, e2⟩ (by decide) (by decide)
theorem own_cb {x : Int32} (h0 : ¬ (x < (0 : Int32))) (h1 : ¬ ((255 : Int32) < x)) : nar .char (((x.toInt8.toInt32) &&& (255 : Int32)).toUInt32.toUInt16.toUInt32.toInt32) = x := by
 rw [own_i2c]
 have q : (x.toInt8.toInt32) &&& (255 : Int32) = x := by
   have e0 : (0 : Int32).toInt = 0 := by decide
   have e1 : (255 : Int32).toInt = 255 := by decide
   rw [Int32.lt_iff_toInt_lt] at h0 h1
   have a := c_i2b x
   have b := c_mask (x.toInt8.toInt32) (255 : Int32) 8 (by decide) (by decide)
   rw [← Int32.toInt_inj, b]
   omega
 rw [q]; exact own_narc h0 h1
theorem own_pn_java_lang_StringLatin1 : plainName "java/lang/StringLatin1" = true := by first | (simp [plainName, overriddenIn]; done) | decide +kernel
theorem own_ef5 (m : MethodId) (x0 : Addr) (x1 : Int32) : entryFrame m #[.ref x0, .int x1] 2 = mkF m 0 #[.val (.ref x0), .val (.int x1)] [] := by first | (simp [entryFrame, mkF, argsToLocals, Value.category]; done) | rfl
theorem oj43_2_0 : decode jdk_43_method_2_code 0 = .ok (.iload_n 1, 1) := by decide +kernel
theorem oj43_2_1 : decode jdk_43_method_2_code 1 = .ok (.aload_n 0, 1) := by decide +kernel
theorem oj43_2_2 : decode jdk_43_method_2_code 2 = .ok (.arraylength, 1) := by decide +kernel
theorem oj43_2_3 : decode jdk_43_method_2_code 3 = .ok (.invokestatic 9, 3) := by decide +kernel
theorem own_pd2 : parseMethodDescriptor "(II)V" = some ⟨[.int, .int], none⟩ := by decide +kernel
theorem oj43_2_6 : decode jdk_43_method_2_code 6 = .ok (.aload_n 0, 1) := by decide +kernel
theorem oj43_2_7 : decode jdk_43_method_2_code 7 = .ok (.iload_n 1, 1) := by decide +kernel
theorem oj43_2_8 : decode jdk_43_method_2_code 8 = .ok (.baload, 1) := by decide +kernel
theorem oj43_2_9 : decode jdk_43_method_2_code 9 = .ok (.sipush 255, 3) := by decide +kernel
theorem oj43_2_12 : decode jdk_43_method_2_code 12 = .ok (.iand, 1) := by decide +kernel
theorem oj43_2_13 : decode jdk_43_method_2_code 13 = .ok (.i2c, 1) := by decide +kernel
theorem oj43_2_14 : decode jdk_43_method_2_code 14 = .ok (.ireturn, 1) := by decide +kernel
set_option maxRecDepth 65536 in
set_option maxHeartbeats 40000000 in
theorem own_lch0 (l : Launch) (Z : State) (a0 : Array Value) (hw : ∀ d ∈ tables_1, d.before a0 Z = true) (ws : List Jvm.Cond) (va : Addr) (ka : ClassId) (c0 : Int32) (c1 : Int32) (fm : Value) (h0 : Heap) (n0 : Nat) (Z0 : n0 ≤ h0.size) (V_va : Arv Z h0 va ka .byte (2 : Int32) [(.int (c0.toInt8.toInt32)), (.int (c1.toInt8.toInt32))] (.int 0)) (S_F : Sta Z h0 "jdk/internal/util/Preconditions" "SIOOBE_FORMATTER" "Ljava/util/function/BiFunction;" fm) (hc0a : ¬ (c0 < (0 : Int32))) (hc0b : ¬ ((255 : Int32) < c0)) (hc1a : ¬ (c1 < (0 : Int32))) (hc1b : ¬ ((255 : Int32) < c1)) (rG : fm.isRef = true) :
   own_Met l Z oy36 jdk_43_method_2_code 2 (some .char) ws ({ frames := 2, cells := 0, slots := 0, locals := 27 } : Room) #[.ref va, .int 0] h0 (fun v h L => v = some (.int c0) ∧ Fr n0 L ∧ h = h0) := by
 refine own_body (plainFor_of_name own_pn_java_lang_StringLatin1) (fun p e s m below meth c s₁ hx hby hml0 hrt hlk hown0 hnm hZ X0 e0 => ?_)
 have N0 := Fr.nil n0
 have hown : s.vm.findClass "java/lang/StringLatin1" = some m.cls := hown0
 have hml : c.maxLocals = 2 := hml0
 refine own_castG (own_ef5 m va (0 : Int32)) ?_
 refine oS (fun t k => XS.iloadN X0.here hx rfl (hb hby oj43_2_0) rfl k) ?_
 refine oS (fun t k => XS.aloadN X0.here hx rfl (hb hby oj43_2_1) rfl rfl k) ?_
 show oG _ _ _ _ s₁ (mkF m 2 #[oR va, oI 0] [.ref va, .int 0])
 refine oS (own_alen X0 hx hZ e0 V_va (g := (mkF m 2 #[oR va, oI 0] [.ref va, .int 0])) rfl rfl (hb hby oj43_2_2)) ?_
 show oG _ _ _ _ s₁ (mkF m 3 #[oR va, oI 0] [.int 2, .int 0])
 refine own_callS X0 hx hZ (y := oy27) hown (oW hw 153 rfl) (oW hw 154 rfl) (oW hw 3 rfl) (oW hw 155 rfl) (by decide) 0 [.int 0, .int 2] [] (own_sci l Z a0 hw [] 0 2 fm h0 n0 Z0 S_F (by decide) (by decide) rG) e0  (by decide) (by decide) (by decide) (by decide) (g := (mkF m 3 #[oR va, oI 0] [.int 2, .int 0])) rfl (by rw [hml]; rfl) own_pd2 rfl rfl (by show 2 * 0 + _ ≤ _; exact Nat.le_of_eq rfl) (hb hby oj43_2_3) ?_
 intro T1 v1 L1 X1 hQ1
 obtain ⟨rfl, N1q, e1⟩ := hQ1
 have N1 := Fr.app N0 N1q
 refine oS (fun t k => XS.aloadN X1.here hx rfl (hb hby oj43_2_6) rfl rfl k) ?_
 refine oS (fun t k => XS.iloadN X1.here hx rfl (hb hby oj43_2_7) rfl k) ?_
 show oG _ _ _ _ T1 (mkF m 8 #[oR va, oI 0] [.int 0, .ref va])
 refine oS (own_baload X1 hx hZ e1 V_va (.int (c0.toInt8.toInt32)) ⟨by decide, by decide⟩ rfl (g := (mkF m 8 #[oR va, oI 0] [.int 0, .ref va])) rfl rfl (hb hby oj43_2_8)) ?_
 refine oS (fun t k => XS.sipush X1.here hx rfl (hb hby oj43_2_9) k) ?_
 refine oS (fun t k => XS.iand X1.here hx rfl (hb hby oj43_2_12) rfl k) ?_
 refine oS (fun t k => XS.i2c X1.here hx rfl (hb hby oj43_2_13) rfl k) ?_
 show oG _ _ _ _ T1 (mkF m 14 #[oR va, oI 0] [(.int (((c0.toInt8.toInt32) &&& (255 : Int32)).toUInt32.toUInt16.toUInt32.toInt32))])
 exact own_retN X1 hx hlk (t := .char) hrt (by simp) (hb hby oj43_2_14) ⟨congrArg (fun z => some (Value.int z)) (own_cb hc0a hc0b), N1, e1⟩ (by decide) (by decide)
set_option maxRecDepth 65536 in
set_option maxHeartbeats 40000000 in
theorem own_lch1 (l : Launch) (Z : State) (a0 : Array Value) (hw : ∀ d ∈ tables_1, d.before a0 Z = true) (ws : List Jvm.Cond) (va : Addr) (ka : ClassId) (c0 : Int32) (c1 : Int32) (fm : Value) (h0 : Heap) (n0 : Nat) (Z0 : n0 ≤ h0.size) (V_va : Arv Z h0 va ka .byte (2 : Int32) [(.int (c0.toInt8.toInt32)), (.int (c1.toInt8.toInt32))] (.int 0)) (S_F : Sta Z h0 "jdk/internal/util/Preconditions" "SIOOBE_FORMATTER" "Ljava/util/function/BiFunction;" fm) (hc0a : ¬ (c0 < (0 : Int32))) (hc0b : ¬ ((255 : Int32) < c0)) (hc1a : ¬ (c1 < (0 : Int32))) (hc1b : ¬ ((255 : Int32) < c1)) (rG : fm.isRef = true) :
   own_Met l Z oy36 jdk_43_method_2_code 2 (some .char) ws ({ frames := 2, cells := 0, slots := 0, locals := 27 } : Room) #[.ref va, .int 1] h0 (fun v h L => v = some (.int c1) ∧ Fr n0 L ∧ h = h0) := by
 refine own_body (plainFor_of_name own_pn_java_lang_StringLatin1) (fun p e s m below meth c s₁ hx hby hml0 hrt hlk hown0 hnm hZ X0 e0 => ?_)
 have N0 := Fr.nil n0
 have hown : s.vm.findClass "java/lang/StringLatin1" = some m.cls := hown0
 have hml : c.maxLocals = 2 := hml0
 refine own_castG (own_ef5 m va (1 : Int32)) ?_
 refine oS (fun t k => XS.iloadN X0.here hx rfl (hb hby oj43_2_0) rfl k) ?_
 refine oS (fun t k => XS.aloadN X0.here hx rfl (hb hby oj43_2_1) rfl rfl k) ?_
 show oG _ _ _ _ s₁ (mkF m 2 #[oR va, oI 1] [.ref va, .int 1])
 refine oS (own_alen X0 hx hZ e0 V_va (g := (mkF m 2 #[oR va, oI 1] [.ref va, .int 1])) rfl rfl (hb hby oj43_2_2)) ?_
 show oG _ _ _ _ s₁ (mkF m 3 #[oR va, oI 1] [.int 2, .int 1])
 refine own_callS X0 hx hZ (y := oy27) hown (oW hw 153 rfl) (oW hw 154 rfl) (oW hw 3 rfl) (oW hw 155 rfl) (by decide) 0 [.int 1, .int 2] [] (own_sci l Z a0 hw [] 1 2 fm h0 n0 Z0 S_F (by decide) (by decide) rG) e0  (by decide) (by decide) (by decide) (by decide) (g := (mkF m 3 #[oR va, oI 1] [.int 2, .int 1])) rfl (by rw [hml]; rfl) own_pd2 rfl rfl (by show 2 * 0 + _ ≤ _; exact Nat.le_of_eq rfl) (hb hby oj43_2_3) ?_
 intro T1 v1 L1 X1 hQ1
 obtain ⟨rfl, N1q, e1⟩ := hQ1
 have N1 := Fr.app N0 N1q
 refine oS (fun t k => XS.aloadN X1.here hx rfl (hb hby oj43_2_6) rfl rfl k) ?_
 refine oS (fun t k => XS.iloadN X1.here hx rfl (hb hby oj43_2_7) rfl k) ?_
 show oG _ _ _ _ T1 (mkF m 8 #[oR va, oI 1] [.int 1, .ref va])
 refine oS (own_baload X1 hx hZ e1 V_va (.int (c1.toInt8.toInt32)) ⟨by decide, by decide⟩ rfl (g := (mkF m 8 #[oR va, oI 1] [.int 1, .ref va])) rfl rfl (hb hby oj43_2_8)) ?_
 refine oS (fun t k => XS.sipush X1.here hx rfl (hb hby oj43_2_9) k) ?_
 refine oS (fun t k => XS.iand X1.here hx rfl (hb hby oj43_2_12) rfl k) ?_
 refine oS (fun t k => XS.i2c X1.here hx rfl (hb hby oj43_2_13) rfl k) ?_
 show oG _ _ _ _ T1 (mkF m 14 #[oR va, oI 1] [(.int (((c1.toInt8.toInt32) &&& (255 : Int32)).toUInt32.toUInt16.toUInt32.toInt32))])
 exact own_retN X1 hx hlk (t := .char) hrt (by simp) (hb hby oj43_2_14) ⟨congrArg (fun z => some (Value.int z)) (own_cb hc1a hc1b), N1, e1⟩ (by decide) (by decide)
theorem own_ef6 (m : MethodId) (x0 : Addr) (x1 : Int32) : entryFrame m #[.ref x0, .int x1] 2 = mkF m 0 #[.val (.ref x0), .val (.int x1)] [] := by first | (simp [entryFrame, mkF, argsToLocals, Value.category]; done) | rfl
theorem oj42_56_0 : decode jdk_42_method_56_code 0 = .ok (.aload_n 0, 1) := by decide +kernel
theorem oj42_56_1 : decode jdk_42_method_56_code 1 = .ok (.invokevirtual 492, 3) := by decide +kernel
theorem own_pd3 : parseMethodDescriptor "()Z" = some ⟨[], some .boolean⟩ := by decide +kernel
theorem oj42_56_4 : decode jdk_42_method_56_code 4 = .ok (.ifCond .eq 12, 3) := by decide +kernel
theorem oj42_56_7 : decode jdk_42_method_56_code 7 = .ok (.aload_n 0, 1) := by decide +kernel
theorem oj42_56_8 : decode jdk_42_method_56_code 8 = .ok (.getfield 9, 3) := by decide +kernel
theorem oj42_56_11 : decode jdk_42_method_56_code 11 = .ok (.iload_n 1, 1) := by decide +kernel
theorem oj42_56_12 : decode jdk_42_method_56_code 12 = .ok (.invokestatic 495, 3) := by decide +kernel
theorem own_pd4 : parseMethodDescriptor "([BI)C" = some ⟨[(.array .byte), .int], some .char⟩ := by decide +kernel
theorem oj42_56_15 : decode jdk_42_method_56_code 15 = .ok (.ireturn, 1) := by decide +kernel
set_option maxRecDepth 65536 in
set_option maxHeartbeats 40000000 in
theorem own_cha0 (l : Launch) (Z : State) (a0 : Array Value) (hw : ∀ d ∈ tables_1, d.before a0 Z = true) (ws : List Jvm.Cond) (a : Addr) (va : Addr) (ka : ClassId) (c0 : Int32) (c1 : Int32) (zc : Int32) (fm : Value) (h0 : Heap) (n0 : Nat) (Z0 : n0 ≤ h0.size) (E_a : Exa Z h0 a "java/lang/String") (F_a_coder : Fld Z h0 a "java/lang/String" "coder" "B" (.int 0)) (F_a_value : Fld Z h0 a "java/lang/String" "value" "[B" (.ref va)) (V_va : Arv Z h0 va ka .byte (2 : Int32) [(.int (c0.toInt8.toInt32)), (.int (c1.toInt8.toInt32))] (.int 0)) (S_C : Sta Z h0 "java/lang/String" "COMPACT_STRINGS" "Z" (.int zc)) (S_F : Sta Z h0 "jdk/internal/util/Preconditions" "SIOOBE_FORMATTER" "Ljava/util/function/BiFunction;" fm) (hc0a : ¬ (c0 < (0 : Int32))) (hc0b : ¬ ((255 : Int32) < c0)) (hc1a : ¬ (c1 < (0 : Int32))) (hc1b : ¬ ((255 : Int32) < c1)) (hz : ¬ (zc = (0 : Int32))) (rG : fm.isRef = true) :
   own_Met l Z oy26 jdk_42_method_56_code 2 (some .char) ws ({ frames := 3, cells := 0, slots := 0, locals := 40 } : Room) #[.ref a, .int 0] h0 (fun v h L => v = some (.int c0) ∧ Fr n0 L ∧ h = h0) := by
 refine own_body (plainFor_of_name own_pn_java_lang_String) (fun p e s m below meth c s₁ hx hby hml0 hrt hlk hown0 hnm hZ X0 e0 => ?_)
 have N0 := Fr.nil n0
 have hown : s.vm.findClass "java/lang/String" = some m.cls := hown0
 have hml : c.maxLocals = 2 := hml0
 refine own_castG (own_ef6 m a (0 : Int32)) ?_
 refine oS (fun t k => XS.aloadN X0.here hx rfl (hb hby oj42_56_0) rfl rfl k) ?_
 show oG _ _ _ _ s₁ (mkF m 1 #[oR a, oI 0] [.ref a])
 refine own_callV X0 hx hZ (y := oy32) (z := oy32) hown (oW hw 144 rfl) (oW hw 145 rfl) (notFace_of_selects (args := #[]) (mvT hZ (oW hw 147 rfl))) (oW hw 147 rfl) (oW hw 146 rfl) (oW hw 148 rfl) (oW hw 3 rfl) (by decide) 0 E_a [] [] (own_isl l Z a0 hw [] a zc h0 n0 Z0 S_C F_a_coder hz) e0  (by decide) (by decide) (by decide) (by decide) (g := (mkF m 1 #[oR a, oI 0] [.ref a])) rfl (by rw [hml]; rfl) own_pd3 rfl rfl (by show 2 * 0 + _ ≤ _; exact Nat.le_of_eq rfl) (hb hby oj42_56_1) ?_
 intro T1 v1 L1 X1 hQ1
 obtain ⟨rfl, N1q, e1⟩ := hQ1
 have N1 := Fr.app N0 N1q
 show oG _ _ _ _ T1 (mkF m 4 #[oR a, oI 0] [.int 1])
 refine oS (fun t k => XS.ifNo X1.here hx rfl (hb hby oj42_56_4) rfl ((if0 _ _).trans (feq (show ¬ ((1 : Int32) = (0 : Int32)) from (by decide))).1) k) ?_
 refine oS (fun t k => XS.aloadN X1.here hx rfl (hb hby oj42_56_7) rfl rfl k) ?_
 show oG _ _ _ _ T1 (mkF m 8 #[oR a, oI 0] [.ref a])
 obtain ⟨T2, X2, e2, st2⟩ := getF X1 hx hZ hown (host := "") (Or.inl (oW hw 28 rfl)) Via.refl e1 F_a_value (g := (mkF m 8 #[oR a, oI 0] [.ref a])) rfl rfl (hb hby oj42_56_8)
 refine oS st2 ?_
 refine oS (fun t k => XS.iloadN X2.here hx rfl (hb hby oj42_56_11) rfl k) ?_
 show oG _ _ _ _ T2 (mkF m 12 #[oR a, oI 0] [.int 0, .ref va])
 refine own_callS X2 hx hZ (y := oy36) hown (oW hw 149 rfl) (oW hw 150 rfl) (oW hw 151 rfl) (oW hw 152 rfl) (by decide) 0 [.ref va, .int 0] [] (own_lch0 l Z a0 hw [] va ka c0 c1 fm h0 n0 Z0 V_va S_F hc0a hc0b hc1a hc1b rG) e2  (by decide) (by decide) (by decide) (by decide) (g := (mkF m 12 #[oR a, oI 0] [.int 0, .ref va])) rfl (by rw [hml]; rfl) own_pd4 rfl rfl (by show 2 * 0 + _ ≤ _; exact Nat.le_of_eq rfl) (hb hby oj42_56_12) ?_
 intro T3 v3 L3 X3 hQ3
 obtain ⟨rfl, N3q, e3⟩ := hQ3
 have N3 := Fr.app N1 N3q
 show oG _ _ _ _ T3 (mkF m 15 #[oR a, oI 0] [.int c0])
 exact own_retN X3 hx hlk (t := .char) hrt (by simp) (hb hby oj42_56_15) ⟨congrArg (fun z => some (Value.int z)) (own_narc hc0a hc0b), N3, e3⟩ (by decide) (by decide)
set_option maxRecDepth 65536 in
set_option maxHeartbeats 40000000 in
theorem own_cha1 (l : Launch) (Z : State) (a0 : Array Value) (hw : ∀ d ∈ tables_1, d.before a0 Z = true) (ws : List Jvm.Cond) (a : Addr) (va : Addr) (ka : ClassId) (c0 : Int32) (c1 : Int32) (zc : Int32) (fm : Value) (h0 : Heap) (n0 : Nat) (Z0 : n0 ≤ h0.size) (E_a : Exa Z h0 a "java/lang/String") (F_a_coder : Fld Z h0 a "java/lang/String" "coder" "B" (.int 0)) (F_a_value : Fld Z h0 a "java/lang/String" "value" "[B" (.ref va)) (V_va : Arv Z h0 va ka .byte (2 : Int32) [(.int (c0.toInt8.toInt32)), (.int (c1.toInt8.toInt32))] (.int 0)) (S_C : Sta Z h0 "java/lang/String" "COMPACT_STRINGS" "Z" (.int zc)) (S_F : Sta Z h0 "jdk/internal/util/Preconditions" "SIOOBE_FORMATTER" "Ljava/util/function/BiFunction;" fm) (hc0a : ¬ (c0 < (0 : Int32))) (hc0b : ¬ ((255 : Int32) < c0)) (hc1a : ¬ (c1 < (0 : Int32))) (hc1b : ¬ ((255 : Int32) < c1)) (hz : ¬ (zc = (0 : Int32))) (rG : fm.isRef = true) :
   own_Met l Z oy26 jdk_42_method_56_code 2 (some .char) ws ({ frames := 3, cells := 0, slots := 0, locals := 40 } : Room) #[.ref a, .int 1] h0 (fun v h L => v = some (.int c1) ∧ Fr n0 L ∧ h = h0) := by
 refine own_body (plainFor_of_name own_pn_java_lang_String) (fun p e s m below meth c s₁ hx hby hml0 hrt hlk hown0 hnm hZ X0 e0 => ?_)
 have N0 := Fr.nil n0
 have hown : s.vm.findClass "java/lang/String" = some m.cls := hown0
 have hml : c.maxLocals = 2 := hml0
 refine own_castG (own_ef6 m a (1 : Int32)) ?_
 refine oS (fun t k => XS.aloadN X0.here hx rfl (hb hby oj42_56_0) rfl rfl k) ?_
 show oG _ _ _ _ s₁ (mkF m 1 #[oR a, oI 1] [.ref a])
 refine own_callV X0 hx hZ (y := oy32) (z := oy32) hown (oW hw 144 rfl) (oW hw 145 rfl) (notFace_of_selects (args := #[]) (mvT hZ (oW hw 147 rfl))) (oW hw 147 rfl) (oW hw 146 rfl) (oW hw 148 rfl) (oW hw 3 rfl) (by decide) 0 E_a [] [] (own_isl l Z a0 hw [] a zc h0 n0 Z0 S_C F_a_coder hz) e0  (by decide) (by decide) (by decide) (by decide) (g := (mkF m 1 #[oR a, oI 1] [.ref a])) rfl (by rw [hml]; rfl) own_pd3 rfl rfl (by show 2 * 0 + _ ≤ _; exact Nat.le_of_eq rfl) (hb hby oj42_56_1) ?_
 intro T1 v1 L1 X1 hQ1
 obtain ⟨rfl, N1q, e1⟩ := hQ1
 have N1 := Fr.app N0 N1q
 show oG _ _ _ _ T1 (mkF m 4 #[oR a, oI 1] [.int 1])
 refine oS (fun t k => XS.ifNo X1.here hx rfl (hb hby oj42_56_4) rfl ((if0 _ _).trans (feq (show ¬ ((1 : Int32) = (0 : Int32)) from (by decide))).1) k) ?_
 refine oS (fun t k => XS.aloadN X1.here hx rfl (hb hby oj42_56_7) rfl rfl k) ?_
 show oG _ _ _ _ T1 (mkF m 8 #[oR a, oI 1] [.ref a])
 obtain ⟨T2, X2, e2, st2⟩ := getF X1 hx hZ hown (host := "") (Or.inl (oW hw 28 rfl)) Via.refl e1 F_a_value (g := (mkF m 8 #[oR a, oI 1] [.ref a])) rfl rfl (hb hby oj42_56_8)
 refine oS st2 ?_
 refine oS (fun t k => XS.iloadN X2.here hx rfl (hb hby oj42_56_11) rfl k) ?_
 show oG _ _ _ _ T2 (mkF m 12 #[oR a, oI 1] [.int 1, .ref va])
 refine own_callS X2 hx hZ (y := oy36) hown (oW hw 149 rfl) (oW hw 150 rfl) (oW hw 151 rfl) (oW hw 152 rfl) (by decide) 0 [.ref va, .int 1] [] (own_lch1 l Z a0 hw [] va ka c0 c1 fm h0 n0 Z0 V_va S_F hc0a hc0b hc1a hc1b rG) e2  (by decide) (by decide) (by decide) (by decide) (g := (mkF m 12 #[oR a, oI 1] [.int 1, .ref va])) rfl (by rw [hml]; rfl) own_pd4 rfl rfl (by show 2 * 0 + _ ≤ _; exact Nat.le_of_eq rfl) (hb hby oj42_56_12) ?_
 intro T3 v3 L3 X3 hQ3
 obtain ⟨rfl, N3q, e3⟩ := hQ3
 have N3 := Fr.app N1 N3q
 show oG _ _ _ _ T3 (mkF m 15 #[oR a, oI 1] [.int c1])
 exact own_retN X3 hx hlk (t := .char) hrt (by simp) (hb hby oj42_56_15) ⟨congrArg (fun z => some (Value.int z)) (own_narc hc1a hc1b), N3, e3⟩ (by decide) (by decide)
theorem own_pn_java_lang_StringUTF16 : plainName "java/lang/StringUTF16" = true := by first | (simp [plainName, overriddenIn]; done) | decide +kernel
theorem own_ef7 (m : MethodId) (x0 : Int32) : entryFrame m #[.int x0] 1 = mkF m 0 #[.val (.int x0)] [] := by first | (simp [entryFrame, mkF, argsToLocals, Value.category]; done) | rfl
theorem oj52_3_0 : decode jdk_52_method_3_code 0 = .ok (.iload_n 0, 1) := by decide +kernel
theorem oj52_3_1 : decode jdk_52_method_3_code 1 = .ok (.ifCond .ge 11, 3) := by decide +kernel
theorem oj52_3_12 : decode jdk_52_method_3_code 12 = .ok (.iload_n 0, 1) := by decide +kernel
theorem oj52_3_13 : decode jdk_52_method_3_code 13 = .ok (.ldc 20, 2) := by decide +kernel
theorem oj52_3_15 : decode jdk_52_method_3_code 15 = .ok (.if_icmp .lt 40, 3) := by decide +kernel
theorem oj52_3_55 : decode jdk_52_method_3_code 55 = .ok (.iload_n 0, 1) := by decide +kernel
theorem oj52_3_56 : decode jdk_52_method_3_code 56 = .ok (.iconst 1, 1) := by decide +kernel
theorem oj52_3_57 : decode jdk_52_method_3_code 57 = .ok (.ishl, 1) := by decide +kernel
theorem oj52_3_58 : decode jdk_52_method_3_code 58 = .ok (.ireturn, 1) := by decide +kernel
set_option maxRecDepth 65536 in
set_option maxHeartbeats 40000000 in
theorem own_nbl (l : Launch) (Z : State) (a0 : Array Value) (hw : ∀ d ∈ tables_1, d.before a0 Z = true) (ws : List Jvm.Cond) (h0 : Heap) (n0 : Nat) (Z0 : n0 ≤ h0.size) :
   own_Met l Z oy41 jdk_52_method_3_code 1 (some .int) ws ({ frames := 0, cells := 0, slots := 0, locals := 0 } : Room) #[.int 2] h0 (fun v h L => v = some (.int 4) ∧ Fr n0 L ∧ h = h0) := by
 refine own_body (plainFor_of_name own_pn_java_lang_StringUTF16) (fun p e s m below meth c s₁ hx hby hml0 hrt hlk hown0 hnm hZ X0 e0 => ?_)
 have N0 := Fr.nil n0
 have hown : s.vm.findClass "java/lang/StringUTF16" = some m.cls := hown0
 have hml : c.maxLocals = 1 := hml0
 refine own_castG (own_ef7 m (2 : Int32)) ?_
 refine oS (fun t k => XS.iloadN X0.here hx rfl (hb hby oj52_3_0) rfl k) ?_
 show oG _ _ _ _ s₁ (mkF m 1 #[oI 2] [.int 2])
 refine oS (fun t k => XS.ifYes X0.here hx rfl (pc0 := 1) (pc' := 12) rfl (hb hby oj52_3_1) rfl ((if0 _ _).trans (flt (show ¬ ((2 : Int32) < (0 : Int32)) from (by decide))).2.1) (by decide) (by decide) k) ?_
 refine oS (fun t k => XS.iloadN X0.here hx rfl (hb hby oj52_3_12) rfl k) ?_
 show oG _ _ _ _ s₁ (mkF m 13 #[oI 2] [.int 2])
 refine oS (X0.ldcInt hx hown (mvT hZ (oW hw 234 rfl)) (g := (mkF m 13 #[oI 2] [.int 2])) rfl (hb hby oj52_3_13)) ?_
 show oG _ _ _ _ s₁ (mkF m 15 #[oI 2] [.int 1073741823, .int 2])
 refine oS (fun t k => XS.icmpYes X0.here hx rfl (pc0 := 15) (pc' := 55) rfl (hb hby oj52_3_15) rfl (tlt (show (2 : Int32) < (1073741823 : Int32) from (by decide))).1 (by decide) (by decide) k) ?_
 refine oS (fun t k => XS.iloadN X0.here hx rfl (hb hby oj52_3_55) rfl k) ?_
 refine oS (fun t k => XS.iconst X0.here hx rfl (hb hby oj52_3_56) k) ?_
 refine oS (fun t k => XS.ishl X0.here hx rfl (hb hby oj52_3_57) rfl k) ?_
 show oG _ _ _ _ s₁ (mkF m 58 #[oI 2] [.int 4])
 exact own_retI X0 hx hlk hrt (hb hby oj52_3_58) ⟨rfl, N0, e0⟩ (by decide) (by decide)
theorem own_ef8 (m : MethodId) (x0 : Int32) : entryFrame m #[.int x0] 1 = mkF m 0 #[.val (.int x0)] [] := by first | (simp [entryFrame, mkF, argsToLocals, Value.category]; done) | rfl
theorem oj52_2_0 : decode jdk_52_method_2_code 0 = .ok (.iload_n 0, 1) := by decide +kernel
theorem oj52_2_1 : decode jdk_52_method_2_code 1 = .ok (.invokestatic 11, 3) := by decide +kernel
theorem own_pd5 : parseMethodDescriptor "(I)I" = some ⟨[.int], some .int⟩ := by decide +kernel
theorem oj52_2_4 : decode jdk_52_method_2_code 4 = .ok (.newarray .byte, 2) := by decide +kernel
theorem oj52_2_6 : decode jdk_52_method_2_code 6 = .ok (.areturn, 1) := by decide +kernel
set_option maxRecDepth 65536 in
set_option maxHeartbeats 40000000 in
theorem own_nbf (l : Launch) (Z : State) (a0 : Array Value) (hw : ∀ d ∈ tables_1, d.before a0 Z = true) (ws : List Jvm.Cond) (h0 : Heap) (n0 : Nat) (Z0 : n0 ≤ h0.size) :
   own_Met l Z oy40 jdk_52_method_2_code 1 (some (.array .byte)) ws ({ frames := 1, cells := 1, slots := 4, locals := 12 } : Room) #[.int 2] h0 (fun v h L => ∃ r : Addr, ∃ kr : ClassId, v = some (.ref r) ∧ Fr n0 L ∧ Keep h0 h [] ∧ h0.size ≤ r ∧ own_Buf Z h r kr (4 : Int32)) := by
 refine own_body (plainFor_of_name own_pn_java_lang_StringUTF16) (fun p e s m below meth c s₁ hx hby hml0 hrt hlk hown0 hnm hZ X0 e0 => ?_)
 have N0 := Fr.nil n0
 have hown : s.vm.findClass "java/lang/StringUTF16" = some m.cls := hown0
 have hml : c.maxLocals = 1 := hml0
 refine own_castG (own_ef8 m (2 : Int32)) ?_
 refine oS (fun t k => XS.iloadN X0.here hx rfl (hb hby oj52_2_0) rfl k) ?_
 show oG _ _ _ _ s₁ (mkF m 1 #[oI 2] [.int 2])
 refine own_callS X0 hx hZ (y := oy41) hown (oW hw 231 rfl) (oW hw 232 rfl) (oW hw 17 rfl) (oW hw 233 rfl) (by decide) 0 [.int 2] [] (own_nbl l Z a0 hw []  h0 n0 Z0 ) e0  (by decide) (by decide) (by decide) (by decide) (g := (mkF m 1 #[oI 2] [.int 2])) rfl (by rw [hml]; rfl) own_pd5 rfl rfl (by show 2 * 0 + _ ≤ _; exact Nat.le_of_eq rfl) (hb hby oj52_2_1) ?_
 intro T1 v1 L1 X1 hQ1
 obtain ⟨rfl, N1q, e1⟩ := hQ1
 have N1 := Fr.app N0 N1q
 show oG _ _ _ _ T1 (mkF m 4 #[oI 2] [.int 4])
 obtain ⟨T2, h2, k2, X2, e2, E2, A2, st2⟩ := newP X1 hx hZ (oW hw 19 rfl) e1 (g := (mkF m 4 #[oI 2] [.int 4])) rfl (hb hby oj52_2_4) rfl (by decide) (cap := 4) (by decide) (by decide) (by decide) (by decide)
 obtain ⟨b2, g2⟩ : ∃ z, z = h0.size := ⟨_, rfl⟩
 rw [← g2] at A2 st2
 refine oS st2 ?_
 have g_b2 : n0 ≤ b2 := Nat.le_trans Z0 (Nat.le_of_eq g2.symm)
 have sz_b2 : h0.size ≤ b2 := Nat.le_trans (Keep.refl h0 []).1 (Nat.le_of_eq g2.symm)
 have K2 := (Keep.refl h0 []).ext E2
 have V_b2 : own_Buf Z h2 b2 k2 (4 : Int32) := own_bufNew A2 (by decide)
 show oG _ _ _ _ T2 (mkF m 6 #[oI 2] [.ref b2])
 exact own_retA X2 hx hlk hrt rfl rfl rfl (hb hby oj52_2_6) (by rw [e2]; exact ⟨b2, k2, rfl, N1, K2, sz_b2, V_b2⟩) (by decide) (by decide)
theorem own_pn_java_lang_StringCoding : plainName "java/lang/StringCoding" = true := by first | (simp [plainName, overriddenIn]; done) | decide +kernel
theorem own_ef9 (m : MethodId) (x0 : Addr) (x1 : Int32) (x2 : Int32) : entryFrame m #[.ref x0, .int x1, .int x2] 5 = mkF m 0 #[.val (.ref x0), .val (.int x1), .val (.int x2), .unset, .unset] [] := by first | (simp [entryFrame, mkF, argsToLocals, Value.category]; done) | rfl
theorem oj123_3_0 : decode jdk_123_method_3_code 0 = .ok (.iload_n 1, 1) := by decide +kernel
theorem oj123_3_1 : decode jdk_123_method_3_code 1 = .ok (.iload_n 2, 1) := by decide +kernel
theorem oj123_3_2 : decode jdk_123_method_3_code 2 = .ok (.iadd, 1) := by decide +kernel
theorem oj123_3_3 : decode jdk_123_method_3_code 3 = .ok (.istore_n 3, 1) := by decide +kernel
theorem oj123_3_4 : decode jdk_123_method_3_code 4 = .ok (.iload_n 1, 1) := by decide +kernel
theorem oj123_3_5 : decode jdk_123_method_3_code 5 = .ok (.istore 4, 2) := by decide +kernel
theorem oj123_3_7 : decode jdk_123_method_3_code 7 = .ok (.iload 4, 2) := by decide +kernel
theorem oj123_3_9 : decode jdk_123_method_3_code 9 = .ok (.iload_n 3, 1) := by decide +kernel
theorem oj123_3_10 : decode jdk_123_method_3_code 10 = .ok (.if_icmp .ge 21, 3) := by decide +kernel
theorem oj123_3_13 : decode jdk_123_method_3_code 13 = .ok (.aload_n 0, 1) := by decide +kernel
theorem oj123_3_14 : decode jdk_123_method_3_code 14 = .ok (.iload 4, 2) := by decide +kernel
theorem oj123_3_16 : decode jdk_123_method_3_code 16 = .ok (.baload, 1) := by decide +kernel
theorem oj123_3_17 : decode jdk_123_method_3_code 17 = .ok (.ifCond .ge 8, 3) := by decide +kernel
theorem oj123_3_25 : decode jdk_123_method_3_code 25 = .ok (.iinc 4 1, 3) := by decide +kernel
theorem oj123_3_28 : decode jdk_123_method_3_code 28 = .ok (.goto (-21), 3) := by decide +kernel
theorem oj123_3_20 : decode jdk_123_method_3_code 20 = .ok (.iload 4, 2) := by decide +kernel
theorem oj123_3_22 : decode jdk_123_method_3_code 22 = .ok (.iload_n 1, 1) := by decide +kernel
theorem oj123_3_23 : decode jdk_123_method_3_code 23 = .ok (.isub, 1) := by decide +kernel
theorem oj123_3_24 : decode jdk_123_method_3_code 24 = .ok (.ireturn, 1) := by decide +kernel
set_option maxRecDepth 65536 in
set_option maxHeartbeats 40000000 in
theorem own_cp_AN (l : Launch) (Z : State) (a0 : Array Value) (hw : ∀ d ∈ tables_1, d.before a0 Z = true) (ws : List Jvm.Cond) (va : Addr) (ka : ClassId) (x0 : Int32) (x1 : Int32) (h0 : Heap) (n0 : Nat) (Z0 : n0 ≤ h0.size) (V_va : Arv Z h0 va ka .byte (2 : Int32) [.int x0, .int x1] (.int 0)) (hs0 : ¬ (x0 < (0 : Int32))) (hs1 : x1 < (0 : Int32)) :
   own_Met l Z oy34 jdk_123_method_3_code 5 (some .int) ws ({ frames := 0, cells := 0, slots := 0, locals := 0 } : Room) #[.ref va, .int 0, .int 2] h0 (fun v h L => v = some (.int 1) ∧ Fr n0 L ∧ h = h0) := by
 refine own_body (plainFor_of_name own_pn_java_lang_StringCoding) (fun p e s m below meth c s₁ hx hby hml0 hrt hlk hown0 hnm hZ X0 e0 => ?_)
 have N0 := Fr.nil n0
 have hown : s.vm.findClass "java/lang/StringCoding" = some m.cls := hown0
 have hml : c.maxLocals = 5 := hml0
 refine own_castG (own_ef9 m va (0 : Int32) (2 : Int32)) ?_
 refine oS (fun t k => XS.iloadN X0.here hx rfl (hb hby oj123_3_0) rfl k) ?_
 refine oS (fun t k => XS.iloadN X0.here hx rfl (hb hby oj123_3_1) rfl k) ?_
 refine oS (fun t k => XS.iadd X0.here hx rfl (hb hby oj123_3_2) rfl k) ?_
 refine oS (fun t k => XS.istoreN X0.here hx rfl (hb hby oj123_3_3) rfl (l' := #[oR va, oI 0, oI 2, oI 2, .unset]) rfl k) ?_
 refine oS (fun t k => XS.iloadN X0.here hx rfl (hb hby oj123_3_4) rfl k) ?_
 refine oS (fun t k => XS.istore X0.here hx rfl (hb hby oj123_3_5) rfl (l' := #[oR va, oI 0, oI 2, oI 2, oI 0]) rfl k) ?_
 refine oS (fun t k => XS.iload X0.here hx rfl (hb hby oj123_3_7) rfl k) ?_
 refine oS (fun t k => XS.iloadN X0.here hx rfl (hb hby oj123_3_9) rfl k) ?_
 show oG _ _ _ _ s₁ (mkF m 10 #[oR va, oI 0, oI 2, oI 2, oI 0] [.int 2, .int 0])
 refine oS (fun t k => XS.icmpNo X0.here hx rfl (hb hby oj123_3_10) rfl (tlt (show (0 : Int32) < (2 : Int32) from (by decide))).2.1 k) ?_
 refine oS (fun t k => XS.aloadN X0.here hx rfl (hb hby oj123_3_13) rfl rfl k) ?_
 refine oS (fun t k => XS.iload X0.here hx rfl (hb hby oj123_3_14) rfl k) ?_
 show oG _ _ _ _ s₁ (mkF m 16 #[oR va, oI 0, oI 2, oI 2, oI 0] [.int 0, .ref va])
 refine oS (own_baload X0 hx hZ e0 V_va (.int x0) ⟨by decide, by decide⟩ rfl (g := (mkF m 16 #[oR va, oI 0, oI 2, oI 2, oI 0] [.int 0, .ref va])) rfl rfl (hb hby oj123_3_16)) ?_
 show oG _ _ _ _ s₁ (mkF m 17 #[oR va, oI 0, oI 2, oI 2, oI 0] [.int x0])
 refine oS (fun t k => XS.ifYes X0.here hx rfl (pc0 := 17) (pc' := 25) rfl (hb hby oj123_3_17) rfl ((if0 _ _).trans (flt (show ¬ (x0 < (0 : Int32)) from hs0)).2.1) (by decide) (by decide) k) ?_
 show oG _ _ _ _ s₁ (mkF m 25 #[oR va, oI 0, oI 2, oI 2, oI 0] [])
 refine oS (fun t k => XS.iinc X0.here hx rfl (hb hby oj123_3_25) rfl (l' := #[oR va, oI 0, oI 2, oI 2, oI 1]) rfl k) ?_
 refine oS (fun t k => XS.goto X0.here hx rfl (pc0 := 28) (pc' := 7) rfl (hb hby oj123_3_28) (by decide) (by decide) k) ?_
 refine oS (fun t k => XS.iload X0.here hx rfl (hb hby oj123_3_7) rfl k) ?_
 refine oS (fun t k => XS.iloadN X0.here hx rfl (hb hby oj123_3_9) rfl k) ?_
 show oG _ _ _ _ s₁ (mkF m 10 #[oR va, oI 0, oI 2, oI 2, oI 1] [.int 2, .int 1])
 refine oS (fun t k => XS.icmpNo X0.here hx rfl (hb hby oj123_3_10) rfl (tlt (show (1 : Int32) < (2 : Int32) from (by decide))).2.1 k) ?_
 refine oS (fun t k => XS.aloadN X0.here hx rfl (hb hby oj123_3_13) rfl rfl k) ?_
 refine oS (fun t k => XS.iload X0.here hx rfl (hb hby oj123_3_14) rfl k) ?_
 show oG _ _ _ _ s₁ (mkF m 16 #[oR va, oI 0, oI 2, oI 2, oI 1] [.int 1, .ref va])
 refine oS (own_baload X0 hx hZ e0 V_va (.int x1) ⟨by decide, by decide⟩ rfl (g := (mkF m 16 #[oR va, oI 0, oI 2, oI 2, oI 1] [.int 1, .ref va])) rfl rfl (hb hby oj123_3_16)) ?_
 show oG _ _ _ _ s₁ (mkF m 17 #[oR va, oI 0, oI 2, oI 2, oI 1] [.int x1])
 refine oS (fun t k => XS.ifNo X0.here hx rfl (hb hby oj123_3_17) rfl ((if0 _ _).trans (tlt (show x1 < (0 : Int32) from hs1)).2.1) k) ?_
 refine oS (fun t k => XS.iload X0.here hx rfl (hb hby oj123_3_20) rfl k) ?_
 refine oS (fun t k => XS.iloadN X0.here hx rfl (hb hby oj123_3_22) rfl k) ?_
 refine oS (fun t k => XS.isub X0.here hx rfl (hb hby oj123_3_23) rfl k) ?_
 show oG _ _ _ _ s₁ (mkF m 24 #[oR va, oI 0, oI 2, oI 2, oI 1] [.int 1])
 exact own_retI X0 hx hlk hrt (hb hby oj123_3_24) ⟨rfl, N0, e0⟩ (by decide) (by decide)
theorem own_ef10 (m : MethodId) (x0 : Addr) (x1 : Int32) (x2 : Int32) : entryFrame m #[.ref x0, .int x1, .int x2] 3 = mkF m 0 #[.val (.ref x0), .val (.int x1), .val (.int x2)] [] := by first | (simp [entryFrame, mkF, argsToLocals, Value.category]; done) | rfl
theorem oj123_2_0 : decode jdk_123_method_2_code 0 = .ok (.aload_n 0, 1) := by decide +kernel
theorem oj123_2_1 : decode jdk_123_method_2_code 1 = .ok (.iload_n 1, 1) := by decide +kernel
theorem oj123_2_2 : decode jdk_123_method_2_code 2 = .ok (.iload_n 2, 1) := by decide +kernel
theorem oj123_2_3 : decode jdk_123_method_2_code 3 = .ok (.invokestatic 7, 3) := by decide +kernel
theorem own_pd6 : parseMethodDescriptor "([BII)I" = some ⟨[(.array .byte), .int, .int], some .int⟩ := by decide +kernel
theorem oj123_2_6 : decode jdk_123_method_2_code 6 = .ok (.iload_n 2, 1) := by decide +kernel
theorem oj123_2_7 : decode jdk_123_method_2_code 7 = .ok (.if_icmp .eq 7, 3) := by decide +kernel
theorem oj123_2_10 : decode jdk_123_method_2_code 10 = .ok (.iconst 1, 1) := by decide +kernel
theorem oj123_2_11 : decode jdk_123_method_2_code 11 = .ok (.goto 4, 3) := by decide +kernel
theorem oj123_2_15 : decode jdk_123_method_2_code 15 = .ok (.ireturn, 1) := by decide +kernel
set_option maxRecDepth 65536 in
set_option maxHeartbeats 40000000 in
theorem own_hn_AN (l : Launch) (Z : State) (a0 : Array Value) (hw : ∀ d ∈ tables_1, d.before a0 Z = true) (ws : List Jvm.Cond) (va : Addr) (ka : ClassId) (x0 : Int32) (x1 : Int32) (h0 : Heap) (n0 : Nat) (Z0 : n0 ≤ h0.size) (V_va : Arv Z h0 va ka .byte (2 : Int32) [.int x0, .int x1] (.int 0)) (hs0 : ¬ (x0 < (0 : Int32))) (hs1 : x1 < (0 : Int32)) :
   own_Met l Z oy35 jdk_123_method_2_code 3 (some .boolean) ws ({ frames := 1, cells := 0, slots := 0, locals := 16 } : Room) #[.ref va, .int 0, .int 2] h0 (fun v h L => v = some (.int 1) ∧ Fr n0 L ∧ h = h0) := by
 refine own_body (plainFor_of_name own_pn_java_lang_StringCoding) (fun p e s m below meth c s₁ hx hby hml0 hrt hlk hown0 hnm hZ X0 e0 => ?_)
 have N0 := Fr.nil n0
 have hown : s.vm.findClass "java/lang/StringCoding" = some m.cls := hown0
 have hml : c.maxLocals = 3 := hml0
 refine own_castG (own_ef10 m va (0 : Int32) (2 : Int32)) ?_
 refine oS (fun t k => XS.aloadN X0.here hx rfl (hb hby oj123_2_0) rfl rfl k) ?_
 refine oS (fun t k => XS.iloadN X0.here hx rfl (hb hby oj123_2_1) rfl k) ?_
 refine oS (fun t k => XS.iloadN X0.here hx rfl (hb hby oj123_2_2) rfl k) ?_
 show oG _ _ _ _ s₁ (mkF m 3 #[oR va, oI 0, oI 2] [.int 2, .int 0, .ref va])
 refine own_callS X0 hx hZ (y := oy34) hown (oW hw 225 rfl) (oW hw 226 rfl) (oW hw 223 rfl) (oW hw 227 rfl) (by decide) 0 [.ref va, .int 0, .int 2] [] (own_cp_AN l Z a0 hw [] va ka x0 x1 h0 n0 Z0 V_va hs0 hs1) e0  (by decide) (by decide) (by decide) (by decide) (g := (mkF m 3 #[oR va, oI 0, oI 2] [.int 2, .int 0, .ref va])) rfl (by rw [hml]; rfl) own_pd6 rfl rfl (by show 2 * 0 + _ ≤ _; exact Nat.le_of_eq rfl) (hb hby oj123_2_3) ?_
 intro T1 v1 L1 X1 hQ1
 obtain ⟨rfl, N1q, e1⟩ := hQ1
 have N1 := Fr.app N0 N1q
 refine oS (fun t k => XS.iloadN X1.here hx rfl (hb hby oj123_2_6) rfl k) ?_
 show oG _ _ _ _ T1 (mkF m 7 #[oR va, oI 0, oI 2] [.int 2, .int 1])
 refine oS (fun t k => XS.icmpNo X1.here hx rfl (hb hby oj123_2_7) rfl (feq (show ¬ ((1 : Int32) = (2 : Int32)) from (by decide))).1 k) ?_
 refine oS (fun t k => XS.iconst X1.here hx rfl (hb hby oj123_2_10) k) ?_
 refine oS (fun t k => XS.goto X1.here hx rfl (pc0 := 11) (pc' := 15) rfl (hb hby oj123_2_11) (by decide) (by decide) k) ?_
 show oG _ _ _ _ T1 (mkF m 15 #[oR va, oI 0, oI 2] [.int 1])
 exact own_retN X1 hx hlk (t := .boolean) hrt (by simp) (hb hby oj123_2_15) ⟨rfl, N1, e1⟩ (by decide) (by decide)
theorem own_ef11 (m : MethodId) (x0 : Int32) (x1 : Int32) : entryFrame m #[.int x0, .int x1] 2 = mkF m 0 #[.val (.int x0), .val (.int x1)] [] := by first | (simp [entryFrame, mkF, argsToLocals, Value.category]; done) | rfl
theorem oj29_69_0 : decode jdk_29_method_69_code 0 = .ok (.iload_n 0, 1) := by decide +kernel
theorem oj29_69_1 : decode jdk_29_method_69_code 1 = .ok (.iload_n 1, 1) := by decide +kernel
theorem oj29_69_2 : decode jdk_29_method_69_code 2 = .ok (.if_icmp .gt 7, 3) := by decide +kernel
theorem oj29_69_9 : decode jdk_29_method_69_code 9 = .ok (.iload_n 1, 1) := by decide +kernel
theorem oj29_69_10 : decode jdk_29_method_69_code 10 = .ok (.ireturn, 1) := by decide +kernel
set_option maxRecDepth 65536 in
set_option maxHeartbeats 40000000 in
theorem own_min_4_3 (l : Launch) (Z : State) (a0 : Array Value) (hw : ∀ d ∈ tables_1, d.before a0 Z = true) (ws : List Jvm.Cond) (h0 : Heap) (n0 : Nat) (Z0 : n0 ≤ h0.size) :
   own_Met l Z oy21 jdk_29_method_69_code 2 (some .int) ws ({ frames := 0, cells := 0, slots := 0, locals := 0 } : Room) #[.int 4, .int 3] h0 (fun v h L => v = some (.int 3) ∧ Fr n0 L ∧ h = h0) := by
 refine own_body (Jvm.Free.JP.mathPlain rfl (by decide +kernel)) (fun p e s m below meth c s₁ hx hby hml0 hrt hlk hown0 hnm hZ X0 e0 => ?_)
 have N0 := Fr.nil n0
 have hown : s.vm.findClass "java/lang/Math" = some m.cls := hown0
 have hml : c.maxLocals = 2 := hml0
 refine own_castG (own_ef11 m (4 : Int32) (3 : Int32)) ?_
 refine oS (fun t k => XS.iloadN X0.here hx rfl (hb hby oj29_69_0) rfl k) ?_
 refine oS (fun t k => XS.iloadN X0.here hx rfl (hb hby oj29_69_1) rfl k) ?_
 show oG _ _ _ _ s₁ (mkF m 2 #[oI 4, oI 3] [.int 3, .int 4])
 refine oS (fun t k => XS.icmpYes X0.here hx rfl (pc0 := 2) (pc' := 9) rfl (hb hby oj29_69_2) rfl (tlt (show (3 : Int32) < (4 : Int32) from (by decide))).2.2.1 (by decide) (by decide) k) ?_
 refine oS (fun t k => XS.iloadN X0.here hx rfl (hb hby oj29_69_9) rfl k) ?_
 show oG _ _ _ _ s₁ (mkF m 10 #[oI 4, oI 3] [.int 3])
 exact own_retI X0 hx hlk hrt (hb hby oj29_69_10) ⟨rfl, N0, e0⟩ (by decide) (by decide)
theorem own_pn_java_util_Arrays : plainName "java/util/Arrays" = true := by first | (simp [plainName, overriddenIn]; done) | decide +kernel
theorem own_ef12 (m : MethodId) (x0 : Addr) (x1 : Int32) : entryFrame m #[.ref x0, .int x1] 3 = mkF m 0 #[.val (.ref x0), .val (.int x1), .unset] [] := by first | (simp [entryFrame, mkF, argsToLocals, Value.category]; done) | rfl
theorem oj65_121_0 : decode jdk_65_method_121_code 0 = .ok (.iload_n 1, 1) := by decide +kernel
theorem oj65_121_1 : decode jdk_65_method_121_code 1 = .ok (.aload_n 0, 1) := by decide +kernel
theorem oj65_121_2 : decode jdk_65_method_121_code 2 = .ok (.arraylength, 1) := by decide +kernel
theorem oj65_121_3 : decode jdk_65_method_121_code 3 = .ok (.if_icmp .ne 11, 3) := by decide +kernel
theorem oj65_121_14 : decode jdk_65_method_121_code 14 = .ok (.iload_n 1, 1) := by decide +kernel
theorem oj65_121_15 : decode jdk_65_method_121_code 15 = .ok (.newarray .byte, 2) := by decide +kernel
theorem oj65_121_17 : decode jdk_65_method_121_code 17 = .ok (.astore_n 2, 1) := by decide +kernel
theorem oj65_121_18 : decode jdk_65_method_121_code 18 = .ok (.aload_n 0, 1) := by decide +kernel
theorem oj65_121_19 : decode jdk_65_method_121_code 19 = .ok (.iconst 0, 1) := by decide +kernel
theorem oj65_121_20 : decode jdk_65_method_121_code 20 = .ok (.aload_n 2, 1) := by decide +kernel
theorem oj65_121_21 : decode jdk_65_method_121_code 21 = .ok (.iconst 0, 1) := by decide +kernel
theorem oj65_121_22 : decode jdk_65_method_121_code 22 = .ok (.aload_n 0, 1) := by decide +kernel
theorem oj65_121_23 : decode jdk_65_method_121_code 23 = .ok (.arraylength, 1) := by decide +kernel
theorem oj65_121_24 : decode jdk_65_method_121_code 24 = .ok (.iload_n 1, 1) := by decide +kernel
theorem oj65_121_25 : decode jdk_65_method_121_code 25 = .ok (.invokestatic 304, 3) := by decide +kernel
theorem own_pd7 : parseMethodDescriptor "(II)I" = some ⟨[.int, .int], some .int⟩ := by decide +kernel
theorem oj65_121_28 : decode jdk_65_method_121_code 28 = .ok (.invokestatic 150, 3) := by decide +kernel
theorem oj65_121_31 : decode jdk_65_method_121_code 31 = .ok (.aload_n 2, 1) := by decide +kernel
theorem oj65_121_32 : decode jdk_65_method_121_code 32 = .ok (.areturn, 1) := by decide +kernel
set_option maxRecDepth 65536 in
set_option maxHeartbeats 40000000 in
theorem own_cpo_4_3 (l : Launch) (Z : State) (a0 : Array Value) (hw : ∀ d ∈ tables_1, d.before a0 Z = true) (ws : List Jvm.Cond) (a : Addr) (ka : ClassId) (h0 : Heap) (n0 : Nat) (Z0 : n0 ≤ h0.size) (V_a : own_Buf Z h0 a ka (4 : Int32)) :
   own_Met l Z oy42 jdk_65_method_121_code 3 (some (.array .byte)) ws ({ frames := 1, cells := 1, slots := 3, locals := 64 } : Room) #[.ref a, .int 3] h0 (fun v h L => ∃ r : Addr, ∃ kr : ClassId, v = some (.ref r) ∧ Fr n0 L ∧ Keep h0 h [] ∧ h0.size ≤ r ∧ own_Buf Z h r kr (3 : Int32)) := by
 refine own_body (plainFor_of_name own_pn_java_util_Arrays) (fun p e s m below meth c s₁ hx hby hml0 hrt hlk hown0 hnm hZ X0 e0 => ?_)
 have N0 := Fr.nil n0
 have hown : s.vm.findClass "java/util/Arrays" = some m.cls := hown0
 have hml : c.maxLocals = 3 := hml0
 refine own_castG (own_ef12 m a (3 : Int32)) ?_
 refine oS (fun t k => XS.iloadN X0.here hx rfl (hb hby oj65_121_0) rfl k) ?_
 refine oS (fun t k => XS.aloadN X0.here hx rfl (hb hby oj65_121_1) rfl rfl k) ?_
 show oG _ _ _ _ s₁ (mkF m 2 #[oR a, oI 3, .unset] [.ref a, .int 3])
 refine oS (own_bufLen X0 hx hZ e0 V_a (g := (mkF m 2 #[oR a, oI 3, .unset] [.ref a, .int 3])) rfl rfl (hb hby oj65_121_2)) ?_
 show oG _ _ _ _ s₁ (mkF m 3 #[oR a, oI 3, .unset] [.int 4, .int 3])
 refine oS (fun t k => XS.icmpYes X0.here hx rfl (pc0 := 3) (pc' := 14) rfl (hb hby oj65_121_3) rfl (feq (show ¬ ((3 : Int32) = (4 : Int32)) from (by decide))).2 (by decide) (by decide) k) ?_
 refine oS (fun t k => XS.iloadN X0.here hx rfl (hb hby oj65_121_14) rfl k) ?_
 show oG _ _ _ _ s₁ (mkF m 15 #[oR a, oI 3, .unset] [.int 3])
 obtain ⟨T1, h1, k1, X1, e1, E1, A1, st1⟩ := newP X0 hx hZ (oW hw 19 rfl) e0 (g := (mkF m 15 #[oR a, oI 3, .unset] [.int 3])) rfl (hb hby oj65_121_15) rfl (by decide) (cap := 3) (by decide) (by decide) (by decide) (by decide)
 obtain ⟨b1, g1⟩ : ∃ z, z = h0.size := ⟨_, rfl⟩
 rw [← g1] at A1 st1
 refine oS st1 ?_
 have g_b1 : n0 ≤ b1 := Nat.le_trans Z0 (Nat.le_of_eq g1.symm)
 have sz_b1 : h0.size ≤ b1 := Nat.le_trans (Keep.refl h0 []).1 (Nat.le_of_eq g1.symm)
 have ne_a_b1 : a ≠ b1 := Nat.ne_of_lt (Nat.lt_of_lt_of_le V_a.lt (Nat.le_of_eq g1.symm))
 have K1 := (Keep.refl h0 []).ext E1
 have V_b1 : own_Buf Z h1 b1 k1 (3 : Int32) := own_bufNew A1 (by decide)
 refine oS (fun t k => XS.astoreN X1.here hx rfl (hb hby oj65_121_17) rfl rfl (l' := #[oR a, oI 3, oR b1]) rfl k) ?_
 refine oS (fun t k => XS.aloadN X1.here hx rfl (hb hby oj65_121_18) rfl rfl k) ?_
 refine oS (fun t k => XS.iconst X1.here hx rfl (hb hby oj65_121_19) k) ?_
 refine oS (fun t k => XS.aloadN X1.here hx rfl (hb hby oj65_121_20) rfl rfl k) ?_
 refine oS (fun t k => XS.iconst X1.here hx rfl (hb hby oj65_121_21) k) ?_
 refine oS (fun t k => XS.aloadN X1.here hx rfl (hb hby oj65_121_22) rfl rfl k) ?_
 show oG _ _ _ _ T1 (mkF m 23 #[oR a, oI 3, oR b1] [.ref a, .int 0, .ref b1, .int 0, .ref a])
 have V_a_v2 := (V_a.ext E1)
 refine oS (own_bufLen X1 hx hZ e1 V_a_v2 (g := (mkF m 23 #[oR a, oI 3, oR b1] [.ref a, .int 0, .ref b1, .int 0, .ref a])) rfl rfl (hb hby oj65_121_23)) ?_
 refine oS (fun t k => XS.iloadN X1.here hx rfl (hb hby oj65_121_24) rfl k) ?_
 show oG _ _ _ _ T1 (mkF m 25 #[oR a, oI 3, oR b1] [.int 3, .int 4, .int 0, .ref b1, .int 0, .ref a])
 refine own_callS X1 hx hZ (y := oy21) hown (oW hw 195 rfl) (oW hw 196 rfl) (oW hw 186 rfl) (oW hw 197 rfl) (by decide) 4 [.int 4, .int 3] [.int 0, .ref b1, .int 0, .ref a] (own_min_4_3 l Z a0 hw []  h1 n0 (Nat.le_trans Z0 K1.1) ) e1  (by decide) (by decide) (by decide) (by decide) (g := (mkF m 25 #[oR a, oI 3, oR b1] [.int 3, .int 4, .int 0, .ref b1, .int 0, .ref a])) rfl (by rw [hml]; rfl) own_pd7 rfl rfl (by show 2 * 0 + _ ≤ _; exact Nat.le_of_eq rfl) (hb hby oj65_121_25) ?_
 intro T3 v3 L3 X3 hQ3
 obtain ⟨rfl, N3q, e3⟩ := hQ3
 have N3 := Fr.app N0 N3q
 show oG _ _ _ _ T3 (mkF m 28 #[oR a, oI 3, oR b1] [.int 3, .int 0, .ref b1, .int 0, .ref a])
 obtain ⟨T4, h4, L4, X4, e4, N4, Kq4, V4, st4⟩ := own_bufCopy X3 hx hZ hown (oW hw 198 rfl) (oW hw 201 rfl) (oW hw 199 rfl) (oW hw 200 rfl) e3 V_a_v2 V_b1 (by decide) (by decide) (by decide) (by decide) (by decide) N3 g_b1 (g := (mkF m 28 #[oR a, oI 3, oR b1] [.int 3, .int 0, .ref b1, .int 0, .ref a])) rfl (by rw [hml]; rfl) rfl (hb hby oj65_121_28) (by decide) (W := 0) (by show 2 * 0 + _ ≤ _; exact Nat.le_of_eq rfl) (by decide)
 refine oS st4 ?_
 have K4 := K1.trans Kq4 (allS (Or.inr sz_b1) all0)
 refine oS (fun t k => XS.aloadN X4.here hx rfl (hb hby oj65_121_31) rfl rfl k) ?_
 show oG _ _ _ _ T4 (mkF m 32 #[oR a, oI 3, oR b1] [.ref b1])
 exact own_retA X4 hx hlk hrt rfl rfl rfl (hb hby oj65_121_32) (by rw [e4]; exact ⟨b1, k1, rfl, N4, K4, sz_b1, V4⟩) (by decide) (by decide)
theorem own_ef13 (m : MethodId) (x0 : Int32) (x1 : Addr) (x2 : Int32) : entryFrame m #[.int x0, .ref x1, .int x2] 9 = mkF m 0 #[.val (.int x0), .val (.ref x1), .val (.int x2), .unset, .unset, .unset, .unset, .unset, .unset] [] := by first | (simp [entryFrame, mkF, argsToLocals, Value.category]; done) | rfl
theorem oj42_46_0 : decode jdk_42_method_46_code 0 = .ok (.iload_n 0, 1) := by decide +kernel
theorem oj42_46_1 : decode jdk_42_method_46_code 1 = .ok (.iconst 1, 1) := by decide +kernel
theorem oj42_46_2 : decode jdk_42_method_46_code 2 = .ok (.if_icmp .ne 9, 3) := by decide +kernel
theorem oj42_46_11 : decode jdk_42_method_46_code 11 = .ok (.aload_n 1, 1) := by decide +kernel
theorem oj42_46_12 : decode jdk_42_method_46_code 12 = .ok (.iconst 0, 1) := by decide +kernel
theorem oj42_46_13 : decode jdk_42_method_46_code 13 = .ok (.aload_n 1, 1) := by decide +kernel
theorem oj42_46_14 : decode jdk_42_method_46_code 14 = .ok (.arraylength, 1) := by decide +kernel
theorem oj42_46_15 : decode jdk_42_method_46_code 15 = .ok (.invokestatic 128, 3) := by decide +kernel
theorem own_pd8 : parseMethodDescriptor "([BII)Z" = some ⟨[(.array .byte), .int, .int], some .boolean⟩ := by decide +kernel
theorem oj42_46_18 : decode jdk_42_method_46_code 18 = .ok (.ifCond .ne 11, 3) := by decide +kernel
theorem oj42_46_29 : decode jdk_42_method_46_code 29 = .ok (.iconst 0, 1) := by decide +kernel
theorem oj42_46_30 : decode jdk_42_method_46_code 30 = .ok (.istore_n 3, 1) := by decide +kernel
theorem oj42_46_31 : decode jdk_42_method_46_code 31 = .ok (.aload_n 1, 1) := by decide +kernel
theorem oj42_46_32 : decode jdk_42_method_46_code 32 = .ok (.arraylength, 1) := by decide +kernel
theorem oj42_46_33 : decode jdk_42_method_46_code 33 = .ok (.invokestatic 60, 3) := by decide +kernel
theorem own_pd9 : parseMethodDescriptor "(I)[B" = some ⟨[.int], some (.array .byte)⟩ := by decide +kernel
theorem oj42_46_36 : decode jdk_42_method_46_code 36 = .ok (.astore 4, 2) := by decide +kernel
theorem oj42_46_38 : decode jdk_42_method_46_code 38 = .ok (.aload_n 1, 1) := by decide +kernel
theorem oj42_46_39 : decode jdk_42_method_46_code 39 = .ok (.astore 5, 2) := by decide +kernel
theorem oj42_46_41 : decode jdk_42_method_46_code 41 = .ok (.aload 5, 2) := by decide +kernel
theorem oj42_46_43 : decode jdk_42_method_46_code 43 = .ok (.arraylength, 1) := by decide +kernel
theorem oj42_46_44 : decode jdk_42_method_46_code 44 = .ok (.istore 6, 2) := by decide +kernel
theorem oj42_46_46 : decode jdk_42_method_46_code 46 = .ok (.iconst 0, 1) := by decide +kernel
theorem oj42_46_47 : decode jdk_42_method_46_code 47 = .ok (.istore 7, 2) := by decide +kernel
theorem oj42_46_49 : decode jdk_42_method_46_code 49 = .ok (.iload 7, 2) := by decide +kernel
theorem oj42_46_51 : decode jdk_42_method_46_code 51 = .ok (.iload 6, 2) := by decide +kernel
theorem oj42_46_53 : decode jdk_42_method_46_code 53 = .ok (.if_icmp .ge 71, 3) := by decide +kernel
theorem oj42_46_56 : decode jdk_42_method_46_code 56 = .ok (.aload 5, 2) := by decide +kernel
theorem oj42_46_58 : decode jdk_42_method_46_code 58 = .ok (.iload 7, 2) := by decide +kernel
theorem oj42_46_60 : decode jdk_42_method_46_code 60 = .ok (.baload, 1) := by decide +kernel
theorem oj42_46_61 : decode jdk_42_method_46_code 61 = .ok (.istore 8, 2) := by decide +kernel
theorem oj42_46_63 : decode jdk_42_method_46_code 63 = .ok (.iload 8, 2) := by decide +kernel
theorem oj42_46_65 : decode jdk_42_method_46_code 65 = .ok (.ifCond .ge 44, 3) := by decide +kernel
theorem oj42_46_109 : decode jdk_42_method_46_code 109 = .ok (.aload 4, 2) := by decide +kernel
theorem oj42_46_111 : decode jdk_42_method_46_code 111 = .ok (.iload_n 3, 1) := by decide +kernel
theorem oj42_46_112 : decode jdk_42_method_46_code 112 = .ok (.iinc 3 1, 3) := by decide +kernel
theorem oj42_46_115 : decode jdk_42_method_46_code 115 = .ok (.iload 8, 2) := by decide +kernel
theorem oj42_46_117 : decode jdk_42_method_46_code 117 = .ok (.bastore, 1) := by decide +kernel
theorem oj42_46_118 : decode jdk_42_method_46_code 118 = .ok (.iinc 7 1, 3) := by decide +kernel
theorem oj42_46_121 : decode jdk_42_method_46_code 121 = .ok (.goto (-72), 3) := by decide +kernel
theorem oj42_46_68 : decode jdk_42_method_46_code 68 = .ok (.aload 4, 2) := by decide +kernel
theorem oj42_46_70 : decode jdk_42_method_46_code 70 = .ok (.iload_n 3, 1) := by decide +kernel
theorem oj42_46_71 : decode jdk_42_method_46_code 71 = .ok (.iinc 3 1, 3) := by decide +kernel
theorem oj42_46_74 : decode jdk_42_method_46_code 74 = .ok (.sipush 192, 3) := by decide +kernel
theorem oj42_46_77 : decode jdk_42_method_46_code 77 = .ok (.iload 8, 2) := by decide +kernel
theorem oj42_46_79 : decode jdk_42_method_46_code 79 = .ok (.sipush 255, 3) := by decide +kernel
theorem oj42_46_82 : decode jdk_42_method_46_code 82 = .ok (.iand, 1) := by decide +kernel
theorem oj42_46_83 : decode jdk_42_method_46_code 83 = .ok (.bipush 6, 2) := by decide +kernel
theorem oj42_46_85 : decode jdk_42_method_46_code 85 = .ok (.ishr, 1) := by decide +kernel
theorem oj42_46_86 : decode jdk_42_method_46_code 86 = .ok (.ior, 1) := by decide +kernel
theorem oj42_46_87 : decode jdk_42_method_46_code 87 = .ok (.i2b, 1) := by decide +kernel
theorem oj42_46_88 : decode jdk_42_method_46_code 88 = .ok (.bastore, 1) := by decide +kernel
theorem oj42_46_89 : decode jdk_42_method_46_code 89 = .ok (.aload 4, 2) := by decide +kernel
theorem oj42_46_91 : decode jdk_42_method_46_code 91 = .ok (.iload_n 3, 1) := by decide +kernel
theorem oj42_46_92 : decode jdk_42_method_46_code 92 = .ok (.iinc 3 1, 3) := by decide +kernel
theorem oj42_46_95 : decode jdk_42_method_46_code 95 = .ok (.sipush 128, 3) := by decide +kernel
theorem oj42_46_98 : decode jdk_42_method_46_code 98 = .ok (.iload 8, 2) := by decide +kernel
theorem oj42_46_100 : decode jdk_42_method_46_code 100 = .ok (.bipush 63, 2) := by decide +kernel
theorem oj42_46_102 : decode jdk_42_method_46_code 102 = .ok (.iand, 1) := by decide +kernel
theorem oj42_46_103 : decode jdk_42_method_46_code 103 = .ok (.ior, 1) := by decide +kernel
theorem oj42_46_104 : decode jdk_42_method_46_code 104 = .ok (.i2b, 1) := by decide +kernel
theorem oj42_46_105 : decode jdk_42_method_46_code 105 = .ok (.bastore, 1) := by decide +kernel
theorem oj42_46_106 : decode jdk_42_method_46_code 106 = .ok (.goto 12, 3) := by decide +kernel
theorem oj42_46_124 : decode jdk_42_method_46_code 124 = .ok (.iload_n 3, 1) := by decide +kernel
theorem oj42_46_125 : decode jdk_42_method_46_code 125 = .ok (.aload 4, 2) := by decide +kernel
theorem oj42_46_127 : decode jdk_42_method_46_code 127 = .ok (.arraylength, 1) := by decide +kernel
theorem oj42_46_128 : decode jdk_42_method_46_code 128 = .ok (.if_icmp .ne 6, 3) := by decide +kernel
theorem oj42_46_134 : decode jdk_42_method_46_code 134 = .ok (.aload 4, 2) := by decide +kernel
theorem oj42_46_136 : decode jdk_42_method_46_code 136 = .ok (.iload_n 3, 1) := by decide +kernel
theorem oj42_46_137 : decode jdk_42_method_46_code 137 = .ok (.invokestatic 102, 3) := by decide +kernel
theorem own_pd10 : parseMethodDescriptor "([BI)[B" = some ⟨[(.array .byte), .int], some (.array .byte)⟩ := by decide +kernel
theorem oj42_46_140 : decode jdk_42_method_46_code 140 = .ok (.areturn, 1) := by decide +kernel
set_option maxRecDepth 65536 in
set_option maxHeartbeats 40000000 in
theorem own_eu_AN (l : Launch) (Z : State) (a0 : Array Value) (hw : ∀ d ∈ tables_1, d.before a0 Z = true) (ws : List Jvm.Cond) (va : Addr) (ka : ClassId) (x0 : Int32) (x1 : Int32) (h0 : Heap) (n0 : Nat) (Z0 : n0 ≤ h0.size) (V_va : Arv Z h0 va ka .byte (2 : Int32) [.int x0, .int x1] (.int 0)) (hs0 : ¬ (x0 < (0 : Int32))) (hs1 : x1 < (0 : Int32)) :
   own_Met l Z oy30 jdk_42_method_46_code 9 (some (.array .byte)) ws ({ frames := 2, cells := 2, slots := 7, locals := 78 } : Room) #[.int 0, .ref va, .int 1] h0 (fun v h L => ∃ r : Addr, ∃ kr : ClassId, v = some (.ref r) ∧ Fr n0 L ∧ Keep h0 h [] ∧ h0.size ≤ r ∧ own_Buf Z h r kr (3 : Int32)) := by
 refine own_body (plainFor_of_name own_pn_java_lang_String) (fun p e s m below meth c s₁ hx hby hml0 hrt hlk hown0 hnm hZ X0 e0 => ?_)
 have N0 := Fr.nil n0
 have hown : s.vm.findClass "java/lang/String" = some m.cls := hown0
 have hml : c.maxLocals = 9 := hml0
 refine own_castG (own_ef13 m (0 : Int32) va (1 : Int32)) ?_
 refine oS (fun t k => XS.iloadN X0.here hx rfl (hb hby oj42_46_0) rfl k) ?_
 refine oS (fun t k => XS.iconst X0.here hx rfl (hb hby oj42_46_1) k) ?_
 show oG _ _ _ _ s₁ (mkF m 2 #[oI 0, oR va, oI 1, .unset, .unset, .unset, .unset, .unset, .unset] [.int 1, .int 0])
 refine oS (fun t k => XS.icmpYes X0.here hx rfl (pc0 := 2) (pc' := 11) rfl (hb hby oj42_46_2) rfl (feq (show ¬ ((0 : Int32) = (1 : Int32)) from (by decide))).2 (by decide) (by decide) k) ?_
 refine oS (fun t k => XS.aloadN X0.here hx rfl (hb hby oj42_46_11) rfl rfl k) ?_
 refine oS (fun t k => XS.iconst X0.here hx rfl (hb hby oj42_46_12) k) ?_
 refine oS (fun t k => XS.aloadN X0.here hx rfl (hb hby oj42_46_13) rfl rfl k) ?_
 show oG _ _ _ _ s₁ (mkF m 14 #[oI 0, oR va, oI 1, .unset, .unset, .unset, .unset, .unset, .unset] [.ref va, .int 0, .ref va])
 refine oS (own_alen X0 hx hZ e0 V_va (g := (mkF m 14 #[oI 0, oR va, oI 1, .unset, .unset, .unset, .unset, .unset, .unset] [.ref va, .int 0, .ref va])) rfl rfl (hb hby oj42_46_14)) ?_
 show oG _ _ _ _ s₁ (mkF m 15 #[oI 0, oR va, oI 1, .unset, .unset, .unset, .unset, .unset, .unset] [.int 2, .int 0, .ref va])
 refine own_callS X0 hx hZ (y := oy35) hown (oW hw 221 rfl) (oW hw 222 rfl) (oW hw 223 rfl) (oW hw 224 rfl) (by decide) 0 [.ref va, .int 0, .int 2] [] (own_hn_AN l Z a0 hw [] va ka x0 x1 h0 n0 Z0 V_va hs0 hs1) e0  (by decide) (by decide) (by decide) (by decide) (g := (mkF m 15 #[oI 0, oR va, oI 1, .unset, .unset, .unset, .unset, .unset, .unset] [.int 2, .int 0, .ref va])) rfl (by rw [hml]; rfl) own_pd8 rfl rfl (by show 2 * 0 + _ ≤ _; exact Nat.le_of_eq rfl) (hb hby oj42_46_15) ?_
 intro T1 v1 L1 X1 hQ1
 obtain ⟨rfl, N1q, e1⟩ := hQ1
 have N1 := Fr.app N0 N1q
 show oG _ _ _ _ T1 (mkF m 18 #[oI 0, oR va, oI 1, .unset, .unset, .unset, .unset, .unset, .unset] [.int 1])
 refine oS (fun t k => XS.ifYes X1.here hx rfl (pc0 := 18) (pc' := 29) rfl (hb hby oj42_46_18) rfl ((if0 _ _).trans (feq (show ¬ ((1 : Int32) = (0 : Int32)) from (by decide))).2) (by decide) (by decide) k) ?_
 refine oS (fun t k => XS.iconst X1.here hx rfl (hb hby oj42_46_29) k) ?_
 refine oS (fun t k => XS.istoreN X1.here hx rfl (hb hby oj42_46_30) rfl (l' := #[oI 0, oR va, oI 1, oI 0, .unset, .unset, .unset, .unset, .unset]) rfl k) ?_
 refine oS (fun t k => XS.aloadN X1.here hx rfl (hb hby oj42_46_31) rfl rfl k) ?_
 show oG _ _ _ _ T1 (mkF m 32 #[oI 0, oR va, oI 1, oI 0, .unset, .unset, .unset, .unset, .unset] [.ref va])
 refine oS (own_alen X1 hx hZ e1 V_va (g := (mkF m 32 #[oI 0, oR va, oI 1, oI 0, .unset, .unset, .unset, .unset, .unset] [.ref va])) rfl rfl (hb hby oj42_46_32)) ?_
 show oG _ _ _ _ T1 (mkF m 33 #[oI 0, oR va, oI 1, oI 0, .unset, .unset, .unset, .unset, .unset] [.int 2])
 refine own_callS X1 hx hZ (y := oy40) hown (oW hw 228 rfl) (oW hw 229 rfl) (oW hw 17 rfl) (oW hw 230 rfl) (by decide) 0 [.int 2] [] (own_nbf l Z a0 hw []  h0 n0 Z0 ) e1  (by decide) (by decide) (by decide) (by decide) (g := (mkF m 33 #[oI 0, oR va, oI 1, oI 0, .unset, .unset, .unset, .unset, .unset] [.int 2])) rfl (by rw [hml]; rfl) own_pd9 rfl rfl (by show 2 * 0 + _ ≤ _; exact Nat.le_of_eq rfl) (hb hby oj42_46_33) ?_
 intro T2 v2 L2 X2 hQ2
 obtain ⟨b2_0, k2_0, rfl, N2q, Kq2, zq2_0, q2_0⟩ := hQ2
 have N2 := Fr.app N1 N2q
 have K2 := (Keep.refl h0 []).trans Kq2 all0
 have g_b2_0 : n0 ≤ b2_0 := Nat.le_trans Z0 zq2_0
 have sz_b2_0 : h0.size ≤ b2_0 := Nat.le_trans (Keep.refl h0 []).1 zq2_0
 have ne_va_b2_0 : va ≠ b2_0 := Nat.ne_of_lt (Nat.lt_of_lt_of_le V_va.lt zq2_0)
 have q2_0' : own_Buf Z T2.heap b2_0 k2_0 (4 : Int32) := q2_0
 refine oS (fun t k => XS.astore X2.here hx rfl (hb hby oj42_46_36) rfl rfl (l' := #[oI 0, oR va, oI 1, oI 0, oR b2_0, .unset, .unset, .unset, .unset]) rfl k) ?_
 refine oS (fun t k => XS.aloadN X2.here hx rfl (hb hby oj42_46_38) rfl rfl k) ?_
 refine oS (fun t k => XS.astore X2.here hx rfl (hb hby oj42_46_39) rfl rfl (l' := #[oI 0, oR va, oI 1, oI 0, oR b2_0, oR va, .unset, .unset, .unset]) rfl k) ?_
 refine oS (fun t k => XS.aload X2.here hx rfl (hb hby oj42_46_41) rfl rfl k) ?_
 show oG _ _ _ _ T2 (mkF m 43 #[oI 0, oR va, oI 1, oI 0, oR b2_0, oR va, .unset, .unset, .unset] [.ref va])
 have V_va_v3 := (V_va.keep Kq2 nin0)
 refine oS (own_alen X2 hx hZ rfl V_va_v3 (g := (mkF m 43 #[oI 0, oR va, oI 1, oI 0, oR b2_0, oR va, .unset, .unset, .unset] [.ref va])) rfl rfl (hb hby oj42_46_43)) ?_
 refine oS (fun t k => XS.istore X2.here hx rfl (hb hby oj42_46_44) rfl (l' := #[oI 0, oR va, oI 1, oI 0, oR b2_0, oR va, oI 2, .unset, .unset]) rfl k) ?_
 refine oS (fun t k => XS.iconst X2.here hx rfl (hb hby oj42_46_46) k) ?_
 refine oS (fun t k => XS.istore X2.here hx rfl (hb hby oj42_46_47) rfl (l' := #[oI 0, oR va, oI 1, oI 0, oR b2_0, oR va, oI 2, oI 0, .unset]) rfl k) ?_
 refine oS (fun t k => XS.iload X2.here hx rfl (hb hby oj42_46_49) rfl k) ?_
 refine oS (fun t k => XS.iload X2.here hx rfl (hb hby oj42_46_51) rfl k) ?_
 show oG _ _ _ _ T2 (mkF m 53 #[oI 0, oR va, oI 1, oI 0, oR b2_0, oR va, oI 2, oI 0, .unset] [.int 2, .int 0])
 refine oS (fun t k => XS.icmpNo X2.here hx rfl (hb hby oj42_46_53) rfl (tlt (show (0 : Int32) < (2 : Int32) from (by decide))).2.1 k) ?_
 refine oS (fun t k => XS.aload X2.here hx rfl (hb hby oj42_46_56) rfl rfl k) ?_
 refine oS (fun t k => XS.iload X2.here hx rfl (hb hby oj42_46_58) rfl k) ?_
 show oG _ _ _ _ T2 (mkF m 60 #[oI 0, oR va, oI 1, oI 0, oR b2_0, oR va, oI 2, oI 0, .unset] [.int 0, .ref va])
 refine oS (own_baload X2 hx hZ rfl V_va_v3 (.int x0) ⟨by decide, by decide⟩ rfl (g := (mkF m 60 #[oI 0, oR va, oI 1, oI 0, oR b2_0, oR va, oI 2, oI 0, .unset] [.int 0, .ref va])) rfl rfl (hb hby oj42_46_60)) ?_
 refine oS (fun t k => XS.istore X2.here hx rfl (hb hby oj42_46_61) rfl (l' := #[oI 0, oR va, oI 1, oI 0, oR b2_0, oR va, oI 2, oI 0, oI x0]) rfl k) ?_
 refine oS (fun t k => XS.iload X2.here hx rfl (hb hby oj42_46_63) rfl k) ?_
 show oG _ _ _ _ T2 (mkF m 65 #[oI 0, oR va, oI 1, oI 0, oR b2_0, oR va, oI 2, oI 0, oI x0] [.int x0])
 refine oS (fun t k => XS.ifYes X2.here hx rfl (pc0 := 65) (pc' := 109) rfl (hb hby oj42_46_65) rfl ((if0 _ _).trans (flt (show ¬ (x0 < (0 : Int32)) from hs0)).2.1) (by decide) (by decide) k) ?_
 refine oS (fun t k => XS.aload X2.here hx rfl (hb hby oj42_46_109) rfl rfl k) ?_
 refine oS (fun t k => XS.iloadN X2.here hx rfl (hb hby oj42_46_111) rfl k) ?_
 show oG _ _ _ _ T2 (mkF m 112 #[oI 0, oR va, oI 1, oI 0, oR b2_0, oR va, oI 2, oI 0, oI x0] [.int 0, .ref b2_0])
 refine oS (fun t k => XS.iinc X2.here hx rfl (hb hby oj42_46_112) rfl (l' := #[oI 0, oR va, oI 1, oI 1, oR b2_0, oR va, oI 2, oI 0, oI x0]) rfl k) ?_
 refine oS (fun t k => XS.iload X2.here hx rfl (hb hby oj42_46_115) rfl k) ?_
 show oG _ _ _ _ T2 (mkF m 117 #[oI 0, oR va, oI 1, oI 1, oR b2_0, oR va, oI 2, oI 0, oI x0] [.int x0, .int 0, .ref b2_0])
 obtain ⟨T4, h4, X4, e4, W4, V4, st4⟩ := own_bufStore X2 hx hZ rfl q2_0' (x := x0) (j := (0 : Int32)) ⟨by decide, by decide⟩ (g := (mkF m 117 #[oI 0, oR va, oI 1, oI 1, oR b2_0, oR va, oI 2, oI 0, oI x0] [.int x0, .int 0, .ref b2_0])) rfl rfl (hb hby oj42_46_117)
 refine oS st4 ?_
 have K4 := K2.wr W4 (Or.inr sz_b2_0)
 have N4 := Fr.snoc X4 N2 g_b2_0
 show oG _ _ _ _ T4 (mkF m 118 #[oI 0, oR va, oI 1, oI 1, oR b2_0, oR va, oI 2, oI 0, oI x0] [])
 refine oS (fun t k => XS.iinc X4.here hx rfl (hb hby oj42_46_118) rfl (l' := #[oI 0, oR va, oI 1, oI 1, oR b2_0, oR va, oI 2, oI 1, oI x0]) rfl k) ?_
 refine oS (fun t k => XS.goto X4.here hx rfl (pc0 := 121) (pc' := 49) rfl (hb hby oj42_46_121) (by decide) (by decide) k) ?_
 refine oS (fun t k => XS.iload X4.here hx rfl (hb hby oj42_46_49) rfl k) ?_
 refine oS (fun t k => XS.iload X4.here hx rfl (hb hby oj42_46_51) rfl k) ?_
 show oG _ _ _ _ T4 (mkF m 53 #[oI 0, oR va, oI 1, oI 1, oR b2_0, oR va, oI 2, oI 1, oI x0] [.int 2, .int 1])
 refine oS (fun t k => XS.icmpNo X4.here hx rfl (hb hby oj42_46_53) rfl (tlt (show (1 : Int32) < (2 : Int32) from (by decide))).2.1 k) ?_
 refine oS (fun t k => XS.aload X4.here hx rfl (hb hby oj42_46_56) rfl rfl k) ?_
 refine oS (fun t k => XS.iload X4.here hx rfl (hb hby oj42_46_58) rfl k) ?_
 show oG _ _ _ _ T4 (mkF m 60 #[oI 0, oR va, oI 1, oI 1, oR b2_0, oR va, oI 2, oI 1, oI x0] [.int 1, .ref va])
 have V_va_v5 := (V_va_v3.other W4 ne_va_b2_0)
 refine oS (own_baload X4 hx hZ e4 V_va_v5 (.int x1) ⟨by decide, by decide⟩ rfl (g := (mkF m 60 #[oI 0, oR va, oI 1, oI 1, oR b2_0, oR va, oI 2, oI 1, oI x0] [.int 1, .ref va])) rfl rfl (hb hby oj42_46_60)) ?_
 refine oS (fun t k => XS.istore X4.here hx rfl (hb hby oj42_46_61) rfl (l' := #[oI 0, oR va, oI 1, oI 1, oR b2_0, oR va, oI 2, oI 1, oI x1]) rfl k) ?_
 refine oS (fun t k => XS.iload X4.here hx rfl (hb hby oj42_46_63) rfl k) ?_
 show oG _ _ _ _ T4 (mkF m 65 #[oI 0, oR va, oI 1, oI 1, oR b2_0, oR va, oI 2, oI 1, oI x1] [.int x1])
 refine oS (fun t k => XS.ifNo X4.here hx rfl (hb hby oj42_46_65) rfl ((if0 _ _).trans (tlt (show x1 < (0 : Int32) from hs1)).2.1) k) ?_
 refine oS (fun t k => XS.aload X4.here hx rfl (hb hby oj42_46_68) rfl rfl k) ?_
 refine oS (fun t k => XS.iloadN X4.here hx rfl (hb hby oj42_46_70) rfl k) ?_
 show oG _ _ _ _ T4 (mkF m 71 #[oI 0, oR va, oI 1, oI 1, oR b2_0, oR va, oI 2, oI 1, oI x1] [.int 1, .ref b2_0])
 refine oS (fun t k => XS.iinc X4.here hx rfl (hb hby oj42_46_71) rfl (l' := #[oI 0, oR va, oI 1, oI 2, oR b2_0, oR va, oI 2, oI 1, oI x1]) rfl k) ?_
 refine oS (fun t k => XS.sipush X4.here hx rfl (hb hby oj42_46_74) k) ?_
 refine oS (fun t k => XS.iload X4.here hx rfl (hb hby oj42_46_77) rfl k) ?_
 refine oS (fun t k => XS.sipush X4.here hx rfl (hb hby oj42_46_79) k) ?_
 refine oS (fun t k => XS.iand X4.here hx rfl (hb hby oj42_46_82) rfl k) ?_
 refine oS (fun t k => XS.bipush X4.here hx rfl (hb hby oj42_46_83) k) ?_
 refine oS (fun t k => XS.ishr X4.here hx rfl (hb hby oj42_46_85) rfl k) ?_
 refine oS (fun t k => XS.ior X4.here hx rfl (hb hby oj42_46_86) rfl k) ?_
 refine oS (fun t k => XS.i2b X4.here hx rfl (hb hby oj42_46_87) rfl k) ?_
 show oG _ _ _ _ T4 (mkF m 88 #[oI 0, oR va, oI 1, oI 2, oR b2_0, oR va, oI 2, oI 1, oI x1] [(.int (((192 : Int32) ||| ((x1 &&& (255 : Int32)) >>> ((6 : Int32) &&& 31))).toInt8.toInt32)), .int 1, .ref b2_0])
 obtain ⟨T6, h6, X6, e6, W6, V6, st6⟩ := own_bufStore X4 hx hZ e4 V4 (x := (((192 : Int32) ||| ((x1 &&& (255 : Int32)) >>> ((6 : Int32) &&& 31))).toInt8.toInt32)) (j := (1 : Int32)) ⟨by decide, by decide⟩ (g := (mkF m 88 #[oI 0, oR va, oI 1, oI 2, oR b2_0, oR va, oI 2, oI 1, oI x1] [(.int (((192 : Int32) ||| ((x1 &&& (255 : Int32)) >>> ((6 : Int32) &&& 31))).toInt8.toInt32)), .int 1, .ref b2_0])) rfl rfl (hb hby oj42_46_88)
 refine oS st6 ?_
 have K6 := K4.wr W6 (Or.inr sz_b2_0)
 have N6 := Fr.snoc X6 N4 g_b2_0
 refine oS (fun t k => XS.aload X6.here hx rfl (hb hby oj42_46_89) rfl rfl k) ?_
 refine oS (fun t k => XS.iloadN X6.here hx rfl (hb hby oj42_46_91) rfl k) ?_
 show oG _ _ _ _ T6 (mkF m 92 #[oI 0, oR va, oI 1, oI 2, oR b2_0, oR va, oI 2, oI 1, oI x1] [.int 2, .ref b2_0])
 refine oS (fun t k => XS.iinc X6.here hx rfl (hb hby oj42_46_92) rfl (l' := #[oI 0, oR va, oI 1, oI 3, oR b2_0, oR va, oI 2, oI 1, oI x1]) rfl k) ?_
 refine oS (fun t k => XS.sipush X6.here hx rfl (hb hby oj42_46_95) k) ?_
 refine oS (fun t k => XS.iload X6.here hx rfl (hb hby oj42_46_98) rfl k) ?_
 refine oS (fun t k => XS.bipush X6.here hx rfl (hb hby oj42_46_100) k) ?_
 refine oS (fun t k => XS.iand X6.here hx rfl (hb hby oj42_46_102) rfl k) ?_
 refine oS (fun t k => XS.ior X6.here hx rfl (hb hby oj42_46_103) rfl k) ?_
 refine oS (fun t k => XS.i2b X6.here hx rfl (hb hby oj42_46_104) rfl k) ?_
 show oG _ _ _ _ T6 (mkF m 105 #[oI 0, oR va, oI 1, oI 3, oR b2_0, oR va, oI 2, oI 1, oI x1] [(.int (((128 : Int32) ||| (x1 &&& (63 : Int32))).toInt8.toInt32)), .int 2, .ref b2_0])
 obtain ⟨T7, h7, X7, e7, W7, V7, st7⟩ := own_bufStore X6 hx hZ e6 V6 (x := (((128 : Int32) ||| (x1 &&& (63 : Int32))).toInt8.toInt32)) (j := (2 : Int32)) ⟨by decide, by decide⟩ (g := (mkF m 105 #[oI 0, oR va, oI 1, oI 3, oR b2_0, oR va, oI 2, oI 1, oI x1] [(.int (((128 : Int32) ||| (x1 &&& (63 : Int32))).toInt8.toInt32)), .int 2, .ref b2_0])) rfl rfl (hb hby oj42_46_105)
 refine oS st7 ?_
 have K7 := K6.wr W7 (Or.inr sz_b2_0)
 have N7 := Fr.snoc X7 N6 g_b2_0
 refine oS (fun t k => XS.goto X7.here hx rfl (pc0 := 106) (pc' := 118) rfl (hb hby oj42_46_106) (by decide) (by decide) k) ?_
 show oG _ _ _ _ T7 (mkF m 118 #[oI 0, oR va, oI 1, oI 3, oR b2_0, oR va, oI 2, oI 1, oI x1] [])
 refine oS (fun t k => XS.iinc X7.here hx rfl (hb hby oj42_46_118) rfl (l' := #[oI 0, oR va, oI 1, oI 3, oR b2_0, oR va, oI 2, oI 2, oI x1]) rfl k) ?_
 refine oS (fun t k => XS.goto X7.here hx rfl (pc0 := 121) (pc' := 49) rfl (hb hby oj42_46_121) (by decide) (by decide) k) ?_
 refine oS (fun t k => XS.iload X7.here hx rfl (hb hby oj42_46_49) rfl k) ?_
 refine oS (fun t k => XS.iload X7.here hx rfl (hb hby oj42_46_51) rfl k) ?_
 show oG _ _ _ _ T7 (mkF m 53 #[oI 0, oR va, oI 1, oI 3, oR b2_0, oR va, oI 2, oI 2, oI x1] [.int 2, .int 2])
 refine oS (fun t k => XS.icmpYes X7.here hx rfl (pc0 := 53) (pc' := 124) rfl (hb hby oj42_46_53) rfl (flt (show ¬ ((2 : Int32) < (2 : Int32)) from (by decide))).2.1 (by decide) (by decide) k) ?_
 refine oS (fun t k => XS.iloadN X7.here hx rfl (hb hby oj42_46_124) rfl k) ?_
 refine oS (fun t k => XS.aload X7.here hx rfl (hb hby oj42_46_125) rfl rfl k) ?_
 show oG _ _ _ _ T7 (mkF m 127 #[oI 0, oR va, oI 1, oI 3, oR b2_0, oR va, oI 2, oI 2, oI x1] [.ref b2_0, .int 3])
 refine oS (own_bufLen X7 hx hZ e7 V7 (g := (mkF m 127 #[oI 0, oR va, oI 1, oI 3, oR b2_0, oR va, oI 2, oI 2, oI x1] [.ref b2_0, .int 3])) rfl rfl (hb hby oj42_46_127)) ?_
 show oG _ _ _ _ T7 (mkF m 128 #[oI 0, oR va, oI 1, oI 3, oR b2_0, oR va, oI 2, oI 2, oI x1] [.int 4, .int 3])
 refine oS (fun t k => XS.icmpYes X7.here hx rfl (pc0 := 128) (pc' := 134) rfl (hb hby oj42_46_128) rfl (feq (show ¬ ((3 : Int32) = (4 : Int32)) from (by decide))).2 (by decide) (by decide) k) ?_
 refine oS (fun t k => XS.aload X7.here hx rfl (hb hby oj42_46_134) rfl rfl k) ?_
 refine oS (fun t k => XS.iloadN X7.here hx rfl (hb hby oj42_46_136) rfl k) ?_
 show oG _ _ _ _ T7 (mkF m 137 #[oI 0, oR va, oI 1, oI 3, oR b2_0, oR va, oI 2, oI 2, oI x1] [.int 3, .ref b2_0])
 refine own_callS X7 hx hZ (y := oy42) hown (oW hw 235 rfl) (oW hw 192 rfl) (oW hw 193 rfl) (oW hw 194 rfl) (by decide) 0 [.ref b2_0, .int 3] [] (own_cpo_4_3 l Z a0 hw [] b2_0 k2_0 h7 n0 (Nat.le_trans Z0 K7.1) V7) e7  (by decide) (by decide) (by decide) (by decide) (g := (mkF m 137 #[oI 0, oR va, oI 1, oI 3, oR b2_0, oR va, oI 2, oI 2, oI x1] [.int 3, .ref b2_0])) rfl (by rw [hml]; rfl) own_pd10 rfl rfl (by show 2 * 0 + _ ≤ _; exact Nat.le_of_eq rfl) (hb hby oj42_46_137) ?_
 intro T8 v8 L8 X8 hQ8
 have V_va_v9 := ((V_va_v5.other W6 ne_va_b2_0).other W7 ne_va_b2_0)
 obtain ⟨b8_0, k8_0, rfl, N8q, Kq8, zq8_0, q8_0⟩ := hQ8
 have N8 := Fr.app N7 N8q
 have K8 := K7.trans Kq8 all0
 have g_b8_0 : n0 ≤ b8_0 := Nat.le_trans (Nat.le_trans Z0 K7.1) zq8_0
 have sz_b8_0 : h0.size ≤ b8_0 := Nat.le_trans K7.1 zq8_0
 have ne_va_b8_0 : va ≠ b8_0 := Nat.ne_of_lt (Nat.lt_of_lt_of_le V_va_v9.lt zq8_0)
 have ne_b2_0_b8_0 : b2_0 ≠ b8_0 := Nat.ne_of_lt (Nat.lt_of_lt_of_le V7.lt zq8_0)
 have q8_0' : own_Buf Z T8.heap b8_0 k8_0 (3 : Int32) := q8_0
 show oG _ _ _ _ T8 (mkF m 140 #[oI 0, oR va, oI 1, oI 3, oR b2_0, oR va, oI 2, oI 2, oI x1] [.ref b8_0])
 exact own_retA X8 hx hlk hrt rfl rfl rfl (hb hby oj42_46_140) (by exact ⟨b8_0, k8_0, rfl, N8, K8, sz_b8_0, q8_0'⟩) (by decide) (by decide)
theorem own_ef14 (m : MethodId) (x0 : Addr) (x1 : Int32) (x2 : Addr) : entryFrame m #[.ref x0, .int x1, .ref x2] 3 = mkF m 0 #[.val (.ref x0), .val (.int x1), .val (.ref x2)] [] := by first | (simp [entryFrame, mkF, argsToLocals, Value.category]; done) | rfl
theorem oj42_18_0 : decode jdk_42_method_18_code 0 = .ok (.aload_n 0, 1) := by decide +kernel
theorem oj42_18_1 : decode jdk_42_method_18_code 1 = .ok (.getstatic 86, 3) := by decide +kernel
theorem oj42_18_4 : decode jdk_42_method_18_code 4 = .ok (.if_acmp .ne 10, 3) := by decide +kernel
theorem oj42_18_7 : decode jdk_42_method_18_code 7 = .ok (.iload_n 1, 1) := by decide +kernel
theorem oj42_18_8 : decode jdk_42_method_18_code 8 = .ok (.aload_n 2, 1) := by decide +kernel
theorem oj42_18_9 : decode jdk_42_method_18_code 9 = .ok (.iconst 1, 1) := by decide +kernel
theorem oj42_18_10 : decode jdk_42_method_18_code 10 = .ok (.invokestatic 252, 3) := by decide +kernel
theorem own_pd11 : parseMethodDescriptor "(B[BZ)[B" = some ⟨[.byte, (.array .byte), .boolean], some (.array .byte)⟩ := by decide +kernel
theorem oj42_18_13 : decode jdk_42_method_18_code 13 = .ok (.areturn, 1) := by decide +kernel
set_option maxRecDepth 65536 in
set_option maxHeartbeats 40000000 in
theorem own_en_AN (l : Launch) (Z : State) (a0 : Array Value) (hw : ∀ d ∈ tables_1, d.before a0 Z = true) (ws : List Jvm.Cond) (u8 : Addr) (va : Addr) (ka : ClassId) (x0 : Int32) (x1 : Int32) (h0 : Heap) (n0 : Nat) (Z0 : n0 ≤ h0.size) (V_va : Arv Z h0 va ka .byte (2 : Int32) [.int x0, .int x1] (.int 0)) (S_I : Sta Z h0 "sun/nio/cs/UTF_8" "INSTANCE" "Lsun/nio/cs/UTF_8;" (.ref u8)) (hs0 : ¬ (x0 < (0 : Int32))) (hs1 : x1 < (0 : Int32)) :
   own_Met l Z oy29 jdk_42_method_18_code 3 (some (.array .byte)) ws ({ frames := 3, cells := 2, slots := 7, locals := 98 } : Room) #[.ref u8, .int 0, .ref va] h0 (fun v h L => ∃ r : Addr, ∃ kr : ClassId, v = some (.ref r) ∧ Fr n0 L ∧ Keep h0 h [] ∧ h0.size ≤ r ∧ own_Buf Z h r kr (3 : Int32)) := by
 refine own_body (plainFor_of_name own_pn_java_lang_String) (fun p e s m below meth c s₁ hx hby hml0 hrt hlk hown0 hnm hZ X0 e0 => ?_)
 have N0 := Fr.nil n0
 have hown : s.vm.findClass "java/lang/String" = some m.cls := hown0
 have hml : c.maxLocals = 3 := hml0
 refine own_castG (own_ef14 m u8 (0 : Int32) va) ?_
 refine oS (fun t k => XS.aloadN X0.here hx rfl (hb hby oj42_18_0) rfl rfl k) ?_
 show oG _ _ _ _ s₁ (mkF m 1 #[oR u8, oI 0, oR va] [.ref u8])
 obtain ⟨T1, X1, e1, st1⟩ := getS2 X0 hx hZ hown (host := "") (Or.inl (oW hw 216 rfl)) Via.refl e0 S_I (g := (mkF m 1 #[oR u8, oI 0, oR va] [.ref u8])) rfl (hb hby oj42_18_1)
 refine oS st1 ?_
 show oG _ _ _ _ T1 (mkF m 4 #[oR u8, oI 0, oR va] [.ref u8, .ref u8])
 refine oS (fun t k => Jvm.RoadKit.acmp (g := (mkF m 4 #[oR u8, oI 0, oR va] [.ref u8, .ref u8])) X1 hx rfl rfl rfl (pc0 := 4) (pc' := 7) (same := true) rfl (hb hby oj42_18_4) rfl (decide_eq_true rfl) (by decide) (by decide) k) ?_
 refine oS (fun t k => XS.iloadN X1.here hx rfl (hb hby oj42_18_7) rfl k) ?_
 refine oS (fun t k => XS.aloadN X1.here hx rfl (hb hby oj42_18_8) rfl rfl k) ?_
 refine oS (fun t k => XS.iconst X1.here hx rfl (hb hby oj42_18_9) k) ?_
 show oG _ _ _ _ T1 (mkF m 10 #[oR u8, oI 0, oR va] [.int 1, .ref va, .int 0])
 refine own_callS X1 hx hZ (y := oy30) hown (oW hw 218 rfl) (oW hw 219 rfl) (oW hw 3 rfl) (oW hw 220 rfl) (by decide) 0 [.int 0, .ref va, .int 1] [] (own_eu_AN l Z a0 hw [] va ka x0 x1 h0 n0 Z0 V_va hs0 hs1) e1  (by decide) (by decide) (by decide) (by decide) (g := (mkF m 10 #[oR u8, oI 0, oR va] [.int 1, .ref va, .int 0])) rfl (by rw [hml]; rfl) own_pd11 rfl rfl (by show 2 * 0 + _ ≤ _; exact Nat.le_of_eq rfl) (hb hby oj42_18_10) ?_
 intro T2 v2 L2 X2 hQ2
 obtain ⟨b2_0, k2_0, rfl, N2q, Kq2, zq2_0, q2_0⟩ := hQ2
 have N2 := Fr.app N0 N2q
 have K2 := (Keep.refl h0 []).trans Kq2 all0
 have g_b2_0 : n0 ≤ b2_0 := Nat.le_trans Z0 zq2_0
 have sz_b2_0 : h0.size ≤ b2_0 := Nat.le_trans (Keep.refl h0 []).1 zq2_0
 have ne_va_b2_0 : va ≠ b2_0 := Nat.ne_of_lt (Nat.lt_of_lt_of_le V_va.lt zq2_0)
 have q2_0' : own_Buf Z T2.heap b2_0 k2_0 (3 : Int32) := q2_0
 show oG _ _ _ _ T2 (mkF m 13 #[oR u8, oI 0, oR va] [.ref b2_0])
 exact own_retA X2 hx hlk hrt rfl rfl rfl (hb hby oj42_18_13) (by exact ⟨b2_0, k2_0, rfl, N2, K2, sz_b2_0, q2_0'⟩) (by decide) (by decide)
theorem own_ef15 (m : MethodId) (x0 : Addr) (x1 : Addr) : entryFrame m #[.ref x0, .ref x1] 2 = mkF m 0 #[.val (.ref x0), .val (.ref x1)] [] := by first | (simp [entryFrame, mkF, argsToLocals, Value.category]; done) | rfl
theorem oj42_64_0 : decode jdk_42_method_64_code 0 = .ok (.aload_n 1, 1) := by decide +kernel
theorem oj42_64_1 : decode jdk_42_method_64_code 1 = .ok (.ifnonnull 11, 3) := by decide +kernel
theorem oj42_64_12 : decode jdk_42_method_64_code 12 = .ok (.aload_n 1, 1) := by decide +kernel
theorem oj42_64_13 : decode jdk_42_method_64_code 13 = .ok (.aload_n 0, 1) := by decide +kernel
theorem oj42_64_14 : decode jdk_42_method_64_code 14 = .ok (.invokevirtual 335, 3) := by decide +kernel
theorem oj42_64_17 : decode jdk_42_method_64_code 17 = .ok (.aload_n 0, 1) := by decide +kernel
theorem oj42_64_18 : decode jdk_42_method_64_code 18 = .ok (.getfield 9, 3) := by decide +kernel
theorem oj42_64_21 : decode jdk_42_method_64_code 21 = .ok (.invokestatic 535, 3) := by decide +kernel
theorem own_pd12 : parseMethodDescriptor "(Ljava/nio/charset/Charset;B[B)[B" = some ⟨[(.object "java/nio/charset/Charset"), .byte, (.array .byte)], some (.array .byte)⟩ := by decide +kernel
theorem oj42_64_24 : decode jdk_42_method_64_code 24 = .ok (.areturn, 1) := by decide +kernel
set_option maxRecDepth 65536 in
set_option maxHeartbeats 40000000 in
theorem own_gb_AN (l : Launch) (Z : State) (a0 : Array Value) (hw : ∀ d ∈ tables_1, d.before a0 Z = true) (ws : List Jvm.Cond) (a : Addr) (u8 : Addr) (va : Addr) (ka : ClassId) (x0 : Int32) (x1 : Int32) (zc : Int32) (h0 : Heap) (n0 : Nat) (Z0 : n0 ≤ h0.size) (E_a : Exa Z h0 a "java/lang/String") (F_a_coder : Fld Z h0 a "java/lang/String" "coder" "B" (.int 0)) (F_a_value : Fld Z h0 a "java/lang/String" "value" "[B" (.ref va)) (V_va : Arv Z h0 va ka .byte (2 : Int32) [.int x0, .int x1] (.int 0)) (S_I : Sta Z h0 "sun/nio/cs/UTF_8" "INSTANCE" "Lsun/nio/cs/UTF_8;" (.ref u8)) (S_C : Sta Z h0 "java/lang/String" "COMPACT_STRINGS" "Z" (.int zc)) (hs0 : ¬ (x0 < (0 : Int32))) (hs1 : x1 < (0 : Int32)) (hz : ¬ (zc = (0 : Int32))) :
   own_Met l Z oy31 jdk_42_method_64_code 2 (some (.array .byte)) ws ({ frames := 4, cells := 2, slots := 7, locals := 112 } : Room) #[.ref a, .ref u8] h0 (fun v h L => ∃ r : Addr, ∃ kr : ClassId, v = some (.ref r) ∧ Fr n0 L ∧ Keep h0 h [] ∧ h0.size ≤ r ∧ own_Buf Z h r kr (3 : Int32)) := by
 refine own_body (plainFor_of_name own_pn_java_lang_String) (fun p e s m below meth c s₁ hx hby hml0 hrt hlk hown0 hnm hZ X0 e0 => ?_)
 have N0 := Fr.nil n0
 have hown : s.vm.findClass "java/lang/String" = some m.cls := hown0
 have hml : c.maxLocals = 2 := hml0
 refine own_castG (own_ef15 m a u8) ?_
 refine oS (fun t k => XS.aloadN X0.here hx rfl (hb hby oj42_64_0) rfl rfl k) ?_
 show oG _ _ _ _ s₁ (mkF m 1 #[oR a, oR u8] [.ref u8])
 refine oS (fun t k => XS.ifnonnullYes X0.here hx rfl (pc0 := 1) (pc' := 12) rfl (hb hby oj42_64_1) rfl (by decide) (by decide) k) ?_
 refine oS (fun t k => XS.aloadN X0.here hx rfl (hb hby oj42_64_12) rfl rfl k) ?_
 refine oS (fun t k => XS.aloadN X0.here hx rfl (hb hby oj42_64_13) rfl rfl k) ?_
 show oG _ _ _ _ s₁ (mkF m 14 #[oR a, oR u8] [.ref a, .ref u8])
 refine own_callV X0 hx hZ (y := oy28) (z := oy28) hown (oW hw 125 rfl) (oW hw 126 rfl) (notFace_of_selects (args := #[]) (mvT hZ (oW hw 128 rfl))) (oW hw 128 rfl) (oW hw 127 rfl) (oW hw 129 rfl) (oW hw 3 rfl) (by decide) 1 E_a [] [.ref u8] (own_cod l Z a0 hw [] a zc h0 n0 Z0 S_C F_a_coder hz) e0  (by decide) (by decide) (by decide) (by decide) (g := (mkF m 14 #[oR a, oR u8] [.ref a, .ref u8])) rfl (by rw [hml]; rfl) own_pd0 rfl rfl (by show 2 * 0 + _ ≤ _; exact Nat.le_of_eq rfl) (hb hby oj42_64_14) ?_
 intro T1 v1 L1 X1 hQ1
 obtain ⟨rfl, N1q, e1⟩ := hQ1
 have N1 := Fr.app N0 N1q
 refine oS (fun t k => XS.aloadN X1.here hx rfl (hb hby oj42_64_17) rfl rfl k) ?_
 show oG _ _ _ _ T1 (mkF m 18 #[oR a, oR u8] [.ref a, .int 0, .ref u8])
 obtain ⟨T2, X2, e2, st2⟩ := getF X1 hx hZ hown (host := "") (Or.inl (oW hw 28 rfl)) Via.refl e1 F_a_value (g := (mkF m 18 #[oR a, oR u8] [.ref a, .int 0, .ref u8])) rfl rfl (hb hby oj42_64_18)
 refine oS st2 ?_
 show oG _ _ _ _ T2 (mkF m 21 #[oR a, oR u8] [.ref va, .int 0, .ref u8])
 refine own_callS X2 hx hZ (y := oy29) hown (oW hw 213 rfl) (oW hw 214 rfl) (oW hw 3 rfl) (oW hw 215 rfl) (by decide) 0 [.ref u8, .int 0, .ref va] [] (own_en_AN l Z a0 hw [] u8 va ka x0 x1 h0 n0 Z0 V_va S_I hs0 hs1) e2  (by decide) (by decide) (by decide) (by decide) (g := (mkF m 21 #[oR a, oR u8] [.ref va, .int 0, .ref u8])) rfl (by rw [hml]; rfl) own_pd12 rfl rfl (by show 2 * 0 + _ ≤ _; exact Nat.le_of_eq rfl) (hb hby oj42_64_21) ?_
 intro T3 v3 L3 X3 hQ3
 obtain ⟨b3_0, k3_0, rfl, N3q, Kq3, zq3_0, q3_0⟩ := hQ3
 have N3 := Fr.app N1 N3q
 have K3 := (Keep.refl h0 []).trans Kq3 all0
 have g_b3_0 : n0 ≤ b3_0 := Nat.le_trans Z0 zq3_0
 have sz_b3_0 : h0.size ≤ b3_0 := Nat.le_trans (Keep.refl h0 []).1 zq3_0
 have ne_a_b3_0 : a ≠ b3_0 := Nat.ne_of_lt (Nat.lt_of_lt_of_le E_a.lt zq3_0)
 have ne_va_b3_0 : va ≠ b3_0 := Nat.ne_of_lt (Nat.lt_of_lt_of_le V_va.lt zq3_0)
 have q3_0' : own_Buf Z T3.heap b3_0 k3_0 (3 : Int32) := q3_0
 show oG _ _ _ _ T3 (mkF m 24 #[oR a, oR u8] [.ref b3_0])
 exact own_retA X3 hx hlk hrt rfl rfl rfl (hb hby oj42_64_24) (by exact ⟨b3_0, k3_0, rfl, N3, K3, sz_b3_0, q3_0'⟩) (by decide) (by decide)
set_option maxRecDepth 65536 in
set_option maxHeartbeats 40000000 in
theorem own_cp_NA (l : Launch) (Z : State) (a0 : Array Value) (hw : ∀ d ∈ tables_1, d.before a0 Z = true) (ws : List Jvm.Cond) (va : Addr) (ka : ClassId) (x0 : Int32) (x1 : Int32) (h0 : Heap) (n0 : Nat) (Z0 : n0 ≤ h0.size) (V_va : Arv Z h0 va ka .byte (2 : Int32) [.int x0, .int x1] (.int 0)) (hs0 : x0 < (0 : Int32)) (hs1 : ¬ (x1 < (0 : Int32))) :
   own_Met l Z oy34 jdk_123_method_3_code 5 (some .int) ws ({ frames := 0, cells := 0, slots := 0, locals := 0 } : Room) #[.ref va, .int 0, .int 2] h0 (fun v h L => v = some (.int 0) ∧ Fr n0 L ∧ h = h0) := by
 refine own_body (plainFor_of_name own_pn_java_lang_StringCoding) (fun p e s m below meth c s₁ hx hby hml0 hrt hlk hown0 hnm hZ X0 e0 => ?_)
 have N0 := Fr.nil n0
 have hown : s.vm.findClass "java/lang/StringCoding" = some m.cls := hown0
 have hml : c.maxLocals = 5 := hml0
 refine own_castG (own_ef9 m va (0 : Int32) (2 : Int32)) ?_
 refine oS (fun t k => XS.iloadN X0.here hx rfl (hb hby oj123_3_0) rfl k) ?_
 refine oS (fun t k => XS.iloadN X0.here hx rfl (hb hby oj123_3_1) rfl k) ?_
 refine oS (fun t k => XS.iadd X0.here hx rfl (hb hby oj123_3_2) rfl k) ?_
 refine oS (fun t k => XS.istoreN X0.here hx rfl (hb hby oj123_3_3) rfl (l' := #[oR va, oI 0, oI 2, oI 2, .unset]) rfl k) ?_
 refine oS (fun t k => XS.iloadN X0.here hx rfl (hb hby oj123_3_4) rfl k) ?_
 refine oS (fun t k => XS.istore X0.here hx rfl (hb hby oj123_3_5) rfl (l' := #[oR va, oI 0, oI 2, oI 2, oI 0]) rfl k) ?_
 refine oS (fun t k => XS.iload X0.here hx rfl (hb hby oj123_3_7) rfl k) ?_
 refine oS (fun t k => XS.iloadN X0.here hx rfl (hb hby oj123_3_9) rfl k) ?_
 show oG _ _ _ _ s₁ (mkF m 10 #[oR va, oI 0, oI 2, oI 2, oI 0] [.int 2, .int 0])
 refine oS (fun t k => XS.icmpNo X0.here hx rfl (hb hby oj123_3_10) rfl (tlt (show (0 : Int32) < (2 : Int32) from (by decide))).2.1 k) ?_
 refine oS (fun t k => XS.aloadN X0.here hx rfl (hb hby oj123_3_13) rfl rfl k) ?_
 refine oS (fun t k => XS.iload X0.here hx rfl (hb hby oj123_3_14) rfl k) ?_
 show oG _ _ _ _ s₁ (mkF m 16 #[oR va, oI 0, oI 2, oI 2, oI 0] [.int 0, .ref va])
 refine oS (own_baload X0 hx hZ e0 V_va (.int x0) ⟨by decide, by decide⟩ rfl (g := (mkF m 16 #[oR va, oI 0, oI 2, oI 2, oI 0] [.int 0, .ref va])) rfl rfl (hb hby oj123_3_16)) ?_
 show oG _ _ _ _ s₁ (mkF m 17 #[oR va, oI 0, oI 2, oI 2, oI 0] [.int x0])
 refine oS (fun t k => XS.ifNo X0.here hx rfl (hb hby oj123_3_17) rfl ((if0 _ _).trans (tlt (show x0 < (0 : Int32) from hs0)).2.1) k) ?_
 refine oS (fun t k => XS.iload X0.here hx rfl (hb hby oj123_3_20) rfl k) ?_
 refine oS (fun t k => XS.iloadN X0.here hx rfl (hb hby oj123_3_22) rfl k) ?_
 refine oS (fun t k => XS.isub X0.here hx rfl (hb hby oj123_3_23) rfl k) ?_
 show oG _ _ _ _ s₁ (mkF m 24 #[oR va, oI 0, oI 2, oI 2, oI 0] [.int 0])
 exact own_retI X0 hx hlk hrt (hb hby oj123_3_24) ⟨rfl, N0, e0⟩ (by decide) (by decide)
set_option maxRecDepth 65536 in
set_option maxHeartbeats 40000000 in
theorem own_hn_NA (l : Launch) (Z : State) (a0 : Array Value) (hw : ∀ d ∈ tables_1, d.before a0 Z = true) (ws : List Jvm.Cond) (va : Addr) (ka : ClassId) (x0 : Int32) (x1 : Int32) (h0 : Heap) (n0 : Nat) (Z0 : n0 ≤ h0.size) (V_va : Arv Z h0 va ka .byte (2 : Int32) [.int x0, .int x1] (.int 0)) (hs0 : x0 < (0 : Int32)) (hs1 : ¬ (x1 < (0 : Int32))) :
   own_Met l Z oy35 jdk_123_method_2_code 3 (some .boolean) ws ({ frames := 1, cells := 0, slots := 0, locals := 16 } : Room) #[.ref va, .int 0, .int 2] h0 (fun v h L => v = some (.int 1) ∧ Fr n0 L ∧ h = h0) := by
 refine own_body (plainFor_of_name own_pn_java_lang_StringCoding) (fun p e s m below meth c s₁ hx hby hml0 hrt hlk hown0 hnm hZ X0 e0 => ?_)
 have N0 := Fr.nil n0
 have hown : s.vm.findClass "java/lang/StringCoding" = some m.cls := hown0
 have hml : c.maxLocals = 3 := hml0
 refine own_castG (own_ef10 m va (0 : Int32) (2 : Int32)) ?_
 refine oS (fun t k => XS.aloadN X0.here hx rfl (hb hby oj123_2_0) rfl rfl k) ?_
 refine oS (fun t k => XS.iloadN X0.here hx rfl (hb hby oj123_2_1) rfl k) ?_
 refine oS (fun t k => XS.iloadN X0.here hx rfl (hb hby oj123_2_2) rfl k) ?_
 show oG _ _ _ _ s₁ (mkF m 3 #[oR va, oI 0, oI 2] [.int 2, .int 0, .ref va])
 refine own_callS X0 hx hZ (y := oy34) hown (oW hw 225 rfl) (oW hw 226 rfl) (oW hw 223 rfl) (oW hw 227 rfl) (by decide) 0 [.ref va, .int 0, .int 2] [] (own_cp_NA l Z a0 hw [] va ka x0 x1 h0 n0 Z0 V_va hs0 hs1) e0  (by decide) (by decide) (by decide) (by decide) (g := (mkF m 3 #[oR va, oI 0, oI 2] [.int 2, .int 0, .ref va])) rfl (by rw [hml]; rfl) own_pd6 rfl rfl (by show 2 * 0 + _ ≤ _; exact Nat.le_of_eq rfl) (hb hby oj123_2_3) ?_
 intro T1 v1 L1 X1 hQ1
 obtain ⟨rfl, N1q, e1⟩ := hQ1
 have N1 := Fr.app N0 N1q
 refine oS (fun t k => XS.iloadN X1.here hx rfl (hb hby oj123_2_6) rfl k) ?_
 show oG _ _ _ _ T1 (mkF m 7 #[oR va, oI 0, oI 2] [.int 2, .int 0])
 refine oS (fun t k => XS.icmpNo X1.here hx rfl (hb hby oj123_2_7) rfl (feq (show ¬ ((0 : Int32) = (2 : Int32)) from (by decide))).1 k) ?_
 refine oS (fun t k => XS.iconst X1.here hx rfl (hb hby oj123_2_10) k) ?_
 refine oS (fun t k => XS.goto X1.here hx rfl (pc0 := 11) (pc' := 15) rfl (hb hby oj123_2_11) (by decide) (by decide) k) ?_
 show oG _ _ _ _ T1 (mkF m 15 #[oR va, oI 0, oI 2] [.int 1])
 exact own_retN X1 hx hlk (t := .boolean) hrt (by simp) (hb hby oj123_2_15) ⟨rfl, N1, e1⟩ (by decide) (by decide)
set_option maxRecDepth 65536 in
set_option maxHeartbeats 40000000 in
theorem own_eu_NA (l : Launch) (Z : State) (a0 : Array Value) (hw : ∀ d ∈ tables_1, d.before a0 Z = true) (ws : List Jvm.Cond) (va : Addr) (ka : ClassId) (x0 : Int32) (x1 : Int32) (h0 : Heap) (n0 : Nat) (Z0 : n0 ≤ h0.size) (V_va : Arv Z h0 va ka .byte (2 : Int32) [.int x0, .int x1] (.int 0)) (hs0 : x0 < (0 : Int32)) (hs1 : ¬ (x1 < (0 : Int32))) :
   own_Met l Z oy30 jdk_42_method_46_code 9 (some (.array .byte)) ws ({ frames := 2, cells := 2, slots := 7, locals := 78 } : Room) #[.int 0, .ref va, .int 1] h0 (fun v h L => ∃ r : Addr, ∃ kr : ClassId, v = some (.ref r) ∧ Fr n0 L ∧ Keep h0 h [] ∧ h0.size ≤ r ∧ own_Buf Z h r kr (3 : Int32)) := by
 refine own_body (plainFor_of_name own_pn_java_lang_String) (fun p e s m below meth c s₁ hx hby hml0 hrt hlk hown0 hnm hZ X0 e0 => ?_)
 have N0 := Fr.nil n0
 have hown : s.vm.findClass "java/lang/String" = some m.cls := hown0
 have hml : c.maxLocals = 9 := hml0
 refine own_castG (own_ef13 m (0 : Int32) va (1 : Int32)) ?_
 refine oS (fun t k => XS.iloadN X0.here hx rfl (hb hby oj42_46_0) rfl k) ?_
 refine oS (fun t k => XS.iconst X0.here hx rfl (hb hby oj42_46_1) k) ?_
 show oG _ _ _ _ s₁ (mkF m 2 #[oI 0, oR va, oI 1, .unset, .unset, .unset, .unset, .unset, .unset] [.int 1, .int 0])
 refine oS (fun t k => XS.icmpYes X0.here hx rfl (pc0 := 2) (pc' := 11) rfl (hb hby oj42_46_2) rfl (feq (show ¬ ((0 : Int32) = (1 : Int32)) from (by decide))).2 (by decide) (by decide) k) ?_
 refine oS (fun t k => XS.aloadN X0.here hx rfl (hb hby oj42_46_11) rfl rfl k) ?_
 refine oS (fun t k => XS.iconst X0.here hx rfl (hb hby oj42_46_12) k) ?_
 refine oS (fun t k => XS.aloadN X0.here hx rfl (hb hby oj42_46_13) rfl rfl k) ?_
 show oG _ _ _ _ s₁ (mkF m 14 #[oI 0, oR va, oI 1, .unset, .unset, .unset, .unset, .unset, .unset] [.ref va, .int 0, .ref va])
 refine oS (own_alen X0 hx hZ e0 V_va (g := (mkF m 14 #[oI 0, oR va, oI 1, .unset, .unset, .unset, .unset, .unset, .unset] [.ref va, .int 0, .ref va])) rfl rfl (hb hby oj42_46_14)) ?_
 show oG _ _ _ _ s₁ (mkF m 15 #[oI 0, oR va, oI 1, .unset, .unset, .unset, .unset, .unset, .unset] [.int 2, .int 0, .ref va])
 refine own_callS X0 hx hZ (y := oy35) hown (oW hw 221 rfl) (oW hw 222 rfl) (oW hw 223 rfl) (oW hw 224 rfl) (by decide) 0 [.ref va, .int 0, .int 2] [] (own_hn_NA l Z a0 hw [] va ka x0 x1 h0 n0 Z0 V_va hs0 hs1) e0  (by decide) (by decide) (by decide) (by decide) (g := (mkF m 15 #[oI 0, oR va, oI 1, .unset, .unset, .unset, .unset, .unset, .unset] [.int 2, .int 0, .ref va])) rfl (by rw [hml]; rfl) own_pd8 rfl rfl (by show 2 * 0 + _ ≤ _; exact Nat.le_of_eq rfl) (hb hby oj42_46_15) ?_
 intro T1 v1 L1 X1 hQ1
 obtain ⟨rfl, N1q, e1⟩ := hQ1
 have N1 := Fr.app N0 N1q
 show oG _ _ _ _ T1 (mkF m 18 #[oI 0, oR va, oI 1, .unset, .unset, .unset, .unset, .unset, .unset] [.int 1])
 refine oS (fun t k => XS.ifYes X1.here hx rfl (pc0 := 18) (pc' := 29) rfl (hb hby oj42_46_18) rfl ((if0 _ _).trans (feq (show ¬ ((1 : Int32) = (0 : Int32)) from (by decide))).2) (by decide) (by decide) k) ?_
 refine oS (fun t k => XS.iconst X1.here hx rfl (hb hby oj42_46_29) k) ?_
 refine oS (fun t k => XS.istoreN X1.here hx rfl (hb hby oj42_46_30) rfl (l' := #[oI 0, oR va, oI 1, oI 0, .unset, .unset, .unset, .unset, .unset]) rfl k) ?_
 refine oS (fun t k => XS.aloadN X1.here hx rfl (hb hby oj42_46_31) rfl rfl k) ?_
 show oG _ _ _ _ T1 (mkF m 32 #[oI 0, oR va, oI 1, oI 0, .unset, .unset, .unset, .unset, .unset] [.ref va])
 refine oS (own_alen X1 hx hZ e1 V_va (g := (mkF m 32 #[oI 0, oR va, oI 1, oI 0, .unset, .unset, .unset, .unset, .unset] [.ref va])) rfl rfl (hb hby oj42_46_32)) ?_
 show oG _ _ _ _ T1 (mkF m 33 #[oI 0, oR va, oI 1, oI 0, .unset, .unset, .unset, .unset, .unset] [.int 2])
 refine own_callS X1 hx hZ (y := oy40) hown (oW hw 228 rfl) (oW hw 229 rfl) (oW hw 17 rfl) (oW hw 230 rfl) (by decide) 0 [.int 2] [] (own_nbf l Z a0 hw []  h0 n0 Z0 ) e1  (by decide) (by decide) (by decide) (by decide) (g := (mkF m 33 #[oI 0, oR va, oI 1, oI 0, .unset, .unset, .unset, .unset, .unset] [.int 2])) rfl (by rw [hml]; rfl) own_pd9 rfl rfl (by show 2 * 0 + _ ≤ _; exact Nat.le_of_eq rfl) (hb hby oj42_46_33) ?_
 intro T2 v2 L2 X2 hQ2
 obtain ⟨b2_0, k2_0, rfl, N2q, Kq2, zq2_0, q2_0⟩ := hQ2
 have N2 := Fr.app N1 N2q
 have K2 := (Keep.refl h0 []).trans Kq2 all0
 have g_b2_0 : n0 ≤ b2_0 := Nat.le_trans Z0 zq2_0
 have sz_b2_0 : h0.size ≤ b2_0 := Nat.le_trans (Keep.refl h0 []).1 zq2_0
 have ne_va_b2_0 : va ≠ b2_0 := Nat.ne_of_lt (Nat.lt_of_lt_of_le V_va.lt zq2_0)
 have q2_0' : own_Buf Z T2.heap b2_0 k2_0 (4 : Int32) := q2_0
 refine oS (fun t k => XS.astore X2.here hx rfl (hb hby oj42_46_36) rfl rfl (l' := #[oI 0, oR va, oI 1, oI 0, oR b2_0, .unset, .unset, .unset, .unset]) rfl k) ?_
 refine oS (fun t k => XS.aloadN X2.here hx rfl (hb hby oj42_46_38) rfl rfl k) ?_
 refine oS (fun t k => XS.astore X2.here hx rfl (hb hby oj42_46_39) rfl rfl (l' := #[oI 0, oR va, oI 1, oI 0, oR b2_0, oR va, .unset, .unset, .unset]) rfl k) ?_
 refine oS (fun t k => XS.aload X2.here hx rfl (hb hby oj42_46_41) rfl rfl k) ?_
 show oG _ _ _ _ T2 (mkF m 43 #[oI 0, oR va, oI 1, oI 0, oR b2_0, oR va, .unset, .unset, .unset] [.ref va])
 have V_va_v3 := (V_va.keep Kq2 nin0)
 refine oS (own_alen X2 hx hZ rfl V_va_v3 (g := (mkF m 43 #[oI 0, oR va, oI 1, oI 0, oR b2_0, oR va, .unset, .unset, .unset] [.ref va])) rfl rfl (hb hby oj42_46_43)) ?_
 refine oS (fun t k => XS.istore X2.here hx rfl (hb hby oj42_46_44) rfl (l' := #[oI 0, oR va, oI 1, oI 0, oR b2_0, oR va, oI 2, .unset, .unset]) rfl k) ?_
 refine oS (fun t k => XS.iconst X2.here hx rfl (hb hby oj42_46_46) k) ?_
 refine oS (fun t k => XS.istore X2.here hx rfl (hb hby oj42_46_47) rfl (l' := #[oI 0, oR va, oI 1, oI 0, oR b2_0, oR va, oI 2, oI 0, .unset]) rfl k) ?_
 refine oS (fun t k => XS.iload X2.here hx rfl (hb hby oj42_46_49) rfl k) ?_
 refine oS (fun t k => XS.iload X2.here hx rfl (hb hby oj42_46_51) rfl k) ?_
 show oG _ _ _ _ T2 (mkF m 53 #[oI 0, oR va, oI 1, oI 0, oR b2_0, oR va, oI 2, oI 0, .unset] [.int 2, .int 0])
 refine oS (fun t k => XS.icmpNo X2.here hx rfl (hb hby oj42_46_53) rfl (tlt (show (0 : Int32) < (2 : Int32) from (by decide))).2.1 k) ?_
 refine oS (fun t k => XS.aload X2.here hx rfl (hb hby oj42_46_56) rfl rfl k) ?_
 refine oS (fun t k => XS.iload X2.here hx rfl (hb hby oj42_46_58) rfl k) ?_
 show oG _ _ _ _ T2 (mkF m 60 #[oI 0, oR va, oI 1, oI 0, oR b2_0, oR va, oI 2, oI 0, .unset] [.int 0, .ref va])
 refine oS (own_baload X2 hx hZ rfl V_va_v3 (.int x0) ⟨by decide, by decide⟩ rfl (g := (mkF m 60 #[oI 0, oR va, oI 1, oI 0, oR b2_0, oR va, oI 2, oI 0, .unset] [.int 0, .ref va])) rfl rfl (hb hby oj42_46_60)) ?_
 refine oS (fun t k => XS.istore X2.here hx rfl (hb hby oj42_46_61) rfl (l' := #[oI 0, oR va, oI 1, oI 0, oR b2_0, oR va, oI 2, oI 0, oI x0]) rfl k) ?_
 refine oS (fun t k => XS.iload X2.here hx rfl (hb hby oj42_46_63) rfl k) ?_
 show oG _ _ _ _ T2 (mkF m 65 #[oI 0, oR va, oI 1, oI 0, oR b2_0, oR va, oI 2, oI 0, oI x0] [.int x0])
 refine oS (fun t k => XS.ifNo X2.here hx rfl (hb hby oj42_46_65) rfl ((if0 _ _).trans (tlt (show x0 < (0 : Int32) from hs0)).2.1) k) ?_
 refine oS (fun t k => XS.aload X2.here hx rfl (hb hby oj42_46_68) rfl rfl k) ?_
 refine oS (fun t k => XS.iloadN X2.here hx rfl (hb hby oj42_46_70) rfl k) ?_
 show oG _ _ _ _ T2 (mkF m 71 #[oI 0, oR va, oI 1, oI 0, oR b2_0, oR va, oI 2, oI 0, oI x0] [.int 0, .ref b2_0])
 refine oS (fun t k => XS.iinc X2.here hx rfl (hb hby oj42_46_71) rfl (l' := #[oI 0, oR va, oI 1, oI 1, oR b2_0, oR va, oI 2, oI 0, oI x0]) rfl k) ?_
 refine oS (fun t k => XS.sipush X2.here hx rfl (hb hby oj42_46_74) k) ?_
 refine oS (fun t k => XS.iload X2.here hx rfl (hb hby oj42_46_77) rfl k) ?_
 refine oS (fun t k => XS.sipush X2.here hx rfl (hb hby oj42_46_79) k) ?_
 refine oS (fun t k => XS.iand X2.here hx rfl (hb hby oj42_46_82) rfl k) ?_
 refine oS (fun t k => XS.bipush X2.here hx rfl (hb hby oj42_46_83) k) ?_
 refine oS (fun t k => XS.ishr X2.here hx rfl (hb hby oj42_46_85) rfl k) ?_
 refine oS (fun t k => XS.ior X2.here hx rfl (hb hby oj42_46_86) rfl k) ?_
 refine oS (fun t k => XS.i2b X2.here hx rfl (hb hby oj42_46_87) rfl k) ?_
 show oG _ _ _ _ T2 (mkF m 88 #[oI 0, oR va, oI 1, oI 1, oR b2_0, oR va, oI 2, oI 0, oI x0] [(.int (((192 : Int32) ||| ((x0 &&& (255 : Int32)) >>> ((6 : Int32) &&& 31))).toInt8.toInt32)), .int 0, .ref b2_0])
 obtain ⟨T4, h4, X4, e4, W4, V4, st4⟩ := own_bufStore X2 hx hZ rfl q2_0' (x := (((192 : Int32) ||| ((x0 &&& (255 : Int32)) >>> ((6 : Int32) &&& 31))).toInt8.toInt32)) (j := (0 : Int32)) ⟨by decide, by decide⟩ (g := (mkF m 88 #[oI 0, oR va, oI 1, oI 1, oR b2_0, oR va, oI 2, oI 0, oI x0] [(.int (((192 : Int32) ||| ((x0 &&& (255 : Int32)) >>> ((6 : Int32) &&& 31))).toInt8.toInt32)), .int 0, .ref b2_0])) rfl rfl (hb hby oj42_46_88)
 refine oS st4 ?_
 have K4 := K2.wr W4 (Or.inr sz_b2_0)
 have N4 := Fr.snoc X4 N2 g_b2_0
 refine oS (fun t k => XS.aload X4.here hx rfl (hb hby oj42_46_89) rfl rfl k) ?_
 refine oS (fun t k => XS.iloadN X4.here hx rfl (hb hby oj42_46_91) rfl k) ?_
 show oG _ _ _ _ T4 (mkF m 92 #[oI 0, oR va, oI 1, oI 1, oR b2_0, oR va, oI 2, oI 0, oI x0] [.int 1, .ref b2_0])
 refine oS (fun t k => XS.iinc X4.here hx rfl (hb hby oj42_46_92) rfl (l' := #[oI 0, oR va, oI 1, oI 2, oR b2_0, oR va, oI 2, oI 0, oI x0]) rfl k) ?_
 refine oS (fun t k => XS.sipush X4.here hx rfl (hb hby oj42_46_95) k) ?_
 refine oS (fun t k => XS.iload X4.here hx rfl (hb hby oj42_46_98) rfl k) ?_
 refine oS (fun t k => XS.bipush X4.here hx rfl (hb hby oj42_46_100) k) ?_
 refine oS (fun t k => XS.iand X4.here hx rfl (hb hby oj42_46_102) rfl k) ?_
 refine oS (fun t k => XS.ior X4.here hx rfl (hb hby oj42_46_103) rfl k) ?_
 refine oS (fun t k => XS.i2b X4.here hx rfl (hb hby oj42_46_104) rfl k) ?_
 show oG _ _ _ _ T4 (mkF m 105 #[oI 0, oR va, oI 1, oI 2, oR b2_0, oR va, oI 2, oI 0, oI x0] [(.int (((128 : Int32) ||| (x0 &&& (63 : Int32))).toInt8.toInt32)), .int 1, .ref b2_0])
 obtain ⟨T5, h5, X5, e5, W5, V5, st5⟩ := own_bufStore X4 hx hZ e4 V4 (x := (((128 : Int32) ||| (x0 &&& (63 : Int32))).toInt8.toInt32)) (j := (1 : Int32)) ⟨by decide, by decide⟩ (g := (mkF m 105 #[oI 0, oR va, oI 1, oI 2, oR b2_0, oR va, oI 2, oI 0, oI x0] [(.int (((128 : Int32) ||| (x0 &&& (63 : Int32))).toInt8.toInt32)), .int 1, .ref b2_0])) rfl rfl (hb hby oj42_46_105)
 refine oS st5 ?_
 have K5 := K4.wr W5 (Or.inr sz_b2_0)
 have N5 := Fr.snoc X5 N4 g_b2_0
 refine oS (fun t k => XS.goto X5.here hx rfl (pc0 := 106) (pc' := 118) rfl (hb hby oj42_46_106) (by decide) (by decide) k) ?_
 show oG _ _ _ _ T5 (mkF m 118 #[oI 0, oR va, oI 1, oI 2, oR b2_0, oR va, oI 2, oI 0, oI x0] [])
 refine oS (fun t k => XS.iinc X5.here hx rfl (hb hby oj42_46_118) rfl (l' := #[oI 0, oR va, oI 1, oI 2, oR b2_0, oR va, oI 2, oI 1, oI x0]) rfl k) ?_
 refine oS (fun t k => XS.goto X5.here hx rfl (pc0 := 121) (pc' := 49) rfl (hb hby oj42_46_121) (by decide) (by decide) k) ?_
 refine oS (fun t k => XS.iload X5.here hx rfl (hb hby oj42_46_49) rfl k) ?_
 refine oS (fun t k => XS.iload X5.here hx rfl (hb hby oj42_46_51) rfl k) ?_
 show oG _ _ _ _ T5 (mkF m 53 #[oI 0, oR va, oI 1, oI 2, oR b2_0, oR va, oI 2, oI 1, oI x0] [.int 2, .int 1])
 refine oS (fun t k => XS.icmpNo X5.here hx rfl (hb hby oj42_46_53) rfl (tlt (show (1 : Int32) < (2 : Int32) from (by decide))).2.1 k) ?_
 refine oS (fun t k => XS.aload X5.here hx rfl (hb hby oj42_46_56) rfl rfl k) ?_
 refine oS (fun t k => XS.iload X5.here hx rfl (hb hby oj42_46_58) rfl k) ?_
 show oG _ _ _ _ T5 (mkF m 60 #[oI 0, oR va, oI 1, oI 2, oR b2_0, oR va, oI 2, oI 1, oI x0] [.int 1, .ref va])
 have V_va_v6 := ((V_va_v3.other W4 ne_va_b2_0).other W5 ne_va_b2_0)
 refine oS (own_baload X5 hx hZ e5 V_va_v6 (.int x1) ⟨by decide, by decide⟩ rfl (g := (mkF m 60 #[oI 0, oR va, oI 1, oI 2, oR b2_0, oR va, oI 2, oI 1, oI x0] [.int 1, .ref va])) rfl rfl (hb hby oj42_46_60)) ?_
 refine oS (fun t k => XS.istore X5.here hx rfl (hb hby oj42_46_61) rfl (l' := #[oI 0, oR va, oI 1, oI 2, oR b2_0, oR va, oI 2, oI 1, oI x1]) rfl k) ?_
 refine oS (fun t k => XS.iload X5.here hx rfl (hb hby oj42_46_63) rfl k) ?_
 show oG _ _ _ _ T5 (mkF m 65 #[oI 0, oR va, oI 1, oI 2, oR b2_0, oR va, oI 2, oI 1, oI x1] [.int x1])
 refine oS (fun t k => XS.ifYes X5.here hx rfl (pc0 := 65) (pc' := 109) rfl (hb hby oj42_46_65) rfl ((if0 _ _).trans (flt (show ¬ (x1 < (0 : Int32)) from hs1)).2.1) (by decide) (by decide) k) ?_
 refine oS (fun t k => XS.aload X5.here hx rfl (hb hby oj42_46_109) rfl rfl k) ?_
 refine oS (fun t k => XS.iloadN X5.here hx rfl (hb hby oj42_46_111) rfl k) ?_
 show oG _ _ _ _ T5 (mkF m 112 #[oI 0, oR va, oI 1, oI 2, oR b2_0, oR va, oI 2, oI 1, oI x1] [.int 2, .ref b2_0])
 refine oS (fun t k => XS.iinc X5.here hx rfl (hb hby oj42_46_112) rfl (l' := #[oI 0, oR va, oI 1, oI 3, oR b2_0, oR va, oI 2, oI 1, oI x1]) rfl k) ?_
 refine oS (fun t k => XS.iload X5.here hx rfl (hb hby oj42_46_115) rfl k) ?_
 show oG _ _ _ _ T5 (mkF m 117 #[oI 0, oR va, oI 1, oI 3, oR b2_0, oR va, oI 2, oI 1, oI x1] [.int x1, .int 2, .ref b2_0])
 obtain ⟨T7, h7, X7, e7, W7, V7, st7⟩ := own_bufStore X5 hx hZ e5 V5 (x := x1) (j := (2 : Int32)) ⟨by decide, by decide⟩ (g := (mkF m 117 #[oI 0, oR va, oI 1, oI 3, oR b2_0, oR va, oI 2, oI 1, oI x1] [.int x1, .int 2, .ref b2_0])) rfl rfl (hb hby oj42_46_117)
 refine oS st7 ?_
 have K7 := K5.wr W7 (Or.inr sz_b2_0)
 have N7 := Fr.snoc X7 N5 g_b2_0
 show oG _ _ _ _ T7 (mkF m 118 #[oI 0, oR va, oI 1, oI 3, oR b2_0, oR va, oI 2, oI 1, oI x1] [])
 refine oS (fun t k => XS.iinc X7.here hx rfl (hb hby oj42_46_118) rfl (l' := #[oI 0, oR va, oI 1, oI 3, oR b2_0, oR va, oI 2, oI 2, oI x1]) rfl k) ?_
 refine oS (fun t k => XS.goto X7.here hx rfl (pc0 := 121) (pc' := 49) rfl (hb hby oj42_46_121) (by decide) (by decide) k) ?_
 refine oS (fun t k => XS.iload X7.here hx rfl (hb hby oj42_46_49) rfl k) ?_
 refine oS (fun t k => XS.iload X7.here hx rfl (hb hby oj42_46_51) rfl k) ?_
 show oG _ _ _ _ T7 (mkF m 53 #[oI 0, oR va, oI 1, oI 3, oR b2_0, oR va, oI 2, oI 2, oI x1] [.int 2, .int 2])
 refine oS (fun t k => XS.icmpYes X7.here hx rfl (pc0 := 53) (pc' := 124) rfl (hb hby oj42_46_53) rfl (flt (show ¬ ((2 : Int32) < (2 : Int32)) from (by decide))).2.1 (by decide) (by decide) k) ?_
 refine oS (fun t k => XS.iloadN X7.here hx rfl (hb hby oj42_46_124) rfl k) ?_
 refine oS (fun t k => XS.aload X7.here hx rfl (hb hby oj42_46_125) rfl rfl k) ?_
 show oG _ _ _ _ T7 (mkF m 127 #[oI 0, oR va, oI 1, oI 3, oR b2_0, oR va, oI 2, oI 2, oI x1] [.ref b2_0, .int 3])
 refine oS (own_bufLen X7 hx hZ e7 V7 (g := (mkF m 127 #[oI 0, oR va, oI 1, oI 3, oR b2_0, oR va, oI 2, oI 2, oI x1] [.ref b2_0, .int 3])) rfl rfl (hb hby oj42_46_127)) ?_
 show oG _ _ _ _ T7 (mkF m 128 #[oI 0, oR va, oI 1, oI 3, oR b2_0, oR va, oI 2, oI 2, oI x1] [.int 4, .int 3])
 refine oS (fun t k => XS.icmpYes X7.here hx rfl (pc0 := 128) (pc' := 134) rfl (hb hby oj42_46_128) rfl (feq (show ¬ ((3 : Int32) = (4 : Int32)) from (by decide))).2 (by decide) (by decide) k) ?_
 refine oS (fun t k => XS.aload X7.here hx rfl (hb hby oj42_46_134) rfl rfl k) ?_
 refine oS (fun t k => XS.iloadN X7.here hx rfl (hb hby oj42_46_136) rfl k) ?_
 show oG _ _ _ _ T7 (mkF m 137 #[oI 0, oR va, oI 1, oI 3, oR b2_0, oR va, oI 2, oI 2, oI x1] [.int 3, .ref b2_0])
 refine own_callS X7 hx hZ (y := oy42) hown (oW hw 235 rfl) (oW hw 192 rfl) (oW hw 193 rfl) (oW hw 194 rfl) (by decide) 0 [.ref b2_0, .int 3] [] (own_cpo_4_3 l Z a0 hw [] b2_0 k2_0 h7 n0 (Nat.le_trans Z0 K7.1) V7) e7  (by decide) (by decide) (by decide) (by decide) (g := (mkF m 137 #[oI 0, oR va, oI 1, oI 3, oR b2_0, oR va, oI 2, oI 2, oI x1] [.int 3, .ref b2_0])) rfl (by rw [hml]; rfl) own_pd10 rfl rfl (by show 2 * 0 + _ ≤ _; exact Nat.le_of_eq rfl) (hb hby oj42_46_137) ?_
 intro T8 v8 L8 X8 hQ8
 have V_va_v9 := (V_va_v6.other W7 ne_va_b2_0)
 obtain ⟨b8_0, k8_0, rfl, N8q, Kq8, zq8_0, q8_0⟩ := hQ8
 have N8 := Fr.app N7 N8q
 have K8 := K7.trans Kq8 all0
 have g_b8_0 : n0 ≤ b8_0 := Nat.le_trans (Nat.le_trans Z0 K7.1) zq8_0
 have sz_b8_0 : h0.size ≤ b8_0 := Nat.le_trans K7.1 zq8_0
 have ne_va_b8_0 : va ≠ b8_0 := Nat.ne_of_lt (Nat.lt_of_lt_of_le V_va_v9.lt zq8_0)
 have ne_b2_0_b8_0 : b2_0 ≠ b8_0 := Nat.ne_of_lt (Nat.lt_of_lt_of_le V7.lt zq8_0)
 have q8_0' : own_Buf Z T8.heap b8_0 k8_0 (3 : Int32) := q8_0
 show oG _ _ _ _ T8 (mkF m 140 #[oI 0, oR va, oI 1, oI 3, oR b2_0, oR va, oI 2, oI 2, oI x1] [.ref b8_0])
 exact own_retA X8 hx hlk hrt rfl rfl rfl (hb hby oj42_46_140) (by exact ⟨b8_0, k8_0, rfl, N8, K8, sz_b8_0, q8_0'⟩) (by decide) (by decide)
set_option maxRecDepth 65536 in
set_option maxHeartbeats 40000000 in
theorem own_en_NA (l : Launch) (Z : State) (a0 : Array Value) (hw : ∀ d ∈ tables_1, d.before a0 Z = true) (ws : List Jvm.Cond) (u8 : Addr) (va : Addr) (ka : ClassId) (x0 : Int32) (x1 : Int32) (h0 : Heap) (n0 : Nat) (Z0 : n0 ≤ h0.size) (V_va : Arv Z h0 va ka .byte (2 : Int32) [.int x0, .int x1] (.int 0)) (S_I : Sta Z h0 "sun/nio/cs/UTF_8" "INSTANCE" "Lsun/nio/cs/UTF_8;" (.ref u8)) (hs0 : x0 < (0 : Int32)) (hs1 : ¬ (x1 < (0 : Int32))) :
   own_Met l Z oy29 jdk_42_method_18_code 3 (some (.array .byte)) ws ({ frames := 3, cells := 2, slots := 7, locals := 98 } : Room) #[.ref u8, .int 0, .ref va] h0 (fun v h L => ∃ r : Addr, ∃ kr : ClassId, v = some (.ref r) ∧ Fr n0 L ∧ Keep h0 h [] ∧ h0.size ≤ r ∧ own_Buf Z h r kr (3 : Int32)) := by
 refine own_body (plainFor_of_name own_pn_java_lang_String) (fun p e s m below meth c s₁ hx hby hml0 hrt hlk hown0 hnm hZ X0 e0 => ?_)
 have N0 := Fr.nil n0
 have hown : s.vm.findClass "java/lang/String" = some m.cls := hown0
 have hml : c.maxLocals = 3 := hml0
 refine own_castG (own_ef14 m u8 (0 : Int32) va) ?_
 refine oS (fun t k => XS.aloadN X0.here hx rfl (hb hby oj42_18_0) rfl rfl k) ?_
 show oG _ _ _ _ s₁ (mkF m 1 #[oR u8, oI 0, oR va] [.ref u8])
 obtain ⟨T1, X1, e1, st1⟩ := getS2 X0 hx hZ hown (host := "") (Or.inl (oW hw 216 rfl)) Via.refl e0 S_I (g := (mkF m 1 #[oR u8, oI 0, oR va] [.ref u8])) rfl (hb hby oj42_18_1)
 refine oS st1 ?_
 show oG _ _ _ _ T1 (mkF m 4 #[oR u8, oI 0, oR va] [.ref u8, .ref u8])
 refine oS (fun t k => Jvm.RoadKit.acmp (g := (mkF m 4 #[oR u8, oI 0, oR va] [.ref u8, .ref u8])) X1 hx rfl rfl rfl (pc0 := 4) (pc' := 7) (same := true) rfl (hb hby oj42_18_4) rfl (decide_eq_true rfl) (by decide) (by decide) k) ?_
 refine oS (fun t k => XS.iloadN X1.here hx rfl (hb hby oj42_18_7) rfl k) ?_
 refine oS (fun t k => XS.aloadN X1.here hx rfl (hb hby oj42_18_8) rfl rfl k) ?_
 refine oS (fun t k => XS.iconst X1.here hx rfl (hb hby oj42_18_9) k) ?_
 show oG _ _ _ _ T1 (mkF m 10 #[oR u8, oI 0, oR va] [.int 1, .ref va, .int 0])
 refine own_callS X1 hx hZ (y := oy30) hown (oW hw 218 rfl) (oW hw 219 rfl) (oW hw 3 rfl) (oW hw 220 rfl) (by decide) 0 [.int 0, .ref va, .int 1] [] (own_eu_NA l Z a0 hw [] va ka x0 x1 h0 n0 Z0 V_va hs0 hs1) e1  (by decide) (by decide) (by decide) (by decide) (g := (mkF m 10 #[oR u8, oI 0, oR va] [.int 1, .ref va, .int 0])) rfl (by rw [hml]; rfl) own_pd11 rfl rfl (by show 2 * 0 + _ ≤ _; exact Nat.le_of_eq rfl) (hb hby oj42_18_10) ?_
 intro T2 v2 L2 X2 hQ2
 obtain ⟨b2_0, k2_0, rfl, N2q, Kq2, zq2_0, q2_0⟩ := hQ2
 have N2 := Fr.app N0 N2q
 have K2 := (Keep.refl h0 []).trans Kq2 all0
 have g_b2_0 : n0 ≤ b2_0 := Nat.le_trans Z0 zq2_0
 have sz_b2_0 : h0.size ≤ b2_0 := Nat.le_trans (Keep.refl h0 []).1 zq2_0
 have ne_va_b2_0 : va ≠ b2_0 := Nat.ne_of_lt (Nat.lt_of_lt_of_le V_va.lt zq2_0)
 have q2_0' : own_Buf Z T2.heap b2_0 k2_0 (3 : Int32) := q2_0
 show oG _ _ _ _ T2 (mkF m 13 #[oR u8, oI 0, oR va] [.ref b2_0])
 exact own_retA X2 hx hlk hrt rfl rfl rfl (hb hby oj42_18_13) (by exact ⟨b2_0, k2_0, rfl, N2, K2, sz_b2_0, q2_0'⟩) (by decide) (by decide)
set_option maxRecDepth 65536 in
set_option maxHeartbeats 40000000 in
theorem own_gb_NA (l : Launch) (Z : State) (a0 : Array Value) (hw : ∀ d ∈ tables_1, d.before a0 Z = true) (ws : List Jvm.Cond) (a : Addr) (u8 : Addr) (va : Addr) (ka : ClassId) (x0 : Int32) (x1 : Int32) (zc : Int32) (h0 : Heap) (n0 : Nat) (Z0 : n0 ≤ h0.size) (E_a : Exa Z h0 a "java/lang/String") (F_a_coder : Fld Z h0 a "java/lang/String" "coder" "B" (.int 0)) (F_a_value : Fld Z h0 a "java/lang/String" "value" "[B" (.ref va)) (V_va : Arv Z h0 va ka .byte (2 : Int32) [.int x0, .int x1] (.int 0)) (S_I : Sta Z h0 "sun/nio/cs/UTF_8" "INSTANCE" "Lsun/nio/cs/UTF_8;" (.ref u8)) (S_C : Sta Z h0 "java/lang/String" "COMPACT_STRINGS" "Z" (.int zc)) (hs0 : x0 < (0 : Int32)) (hs1 : ¬ (x1 < (0 : Int32))) (hz : ¬ (zc = (0 : Int32))) :
   own_Met l Z oy31 jdk_42_method_64_code 2 (some (.array .byte)) ws ({ frames := 4, cells := 2, slots := 7, locals := 112 } : Room) #[.ref a, .ref u8] h0 (fun v h L => ∃ r : Addr, ∃ kr : ClassId, v = some (.ref r) ∧ Fr n0 L ∧ Keep h0 h [] ∧ h0.size ≤ r ∧ own_Buf Z h r kr (3 : Int32)) := by
 refine own_body (plainFor_of_name own_pn_java_lang_String) (fun p e s m below meth c s₁ hx hby hml0 hrt hlk hown0 hnm hZ X0 e0 => ?_)
 have N0 := Fr.nil n0
 have hown : s.vm.findClass "java/lang/String" = some m.cls := hown0
 have hml : c.maxLocals = 2 := hml0
 refine own_castG (own_ef15 m a u8) ?_
 refine oS (fun t k => XS.aloadN X0.here hx rfl (hb hby oj42_64_0) rfl rfl k) ?_
 show oG _ _ _ _ s₁ (mkF m 1 #[oR a, oR u8] [.ref u8])
 refine oS (fun t k => XS.ifnonnullYes X0.here hx rfl (pc0 := 1) (pc' := 12) rfl (hb hby oj42_64_1) rfl (by decide) (by decide) k) ?_
 refine oS (fun t k => XS.aloadN X0.here hx rfl (hb hby oj42_64_12) rfl rfl k) ?_
 refine oS (fun t k => XS.aloadN X0.here hx rfl (hb hby oj42_64_13) rfl rfl k) ?_
 show oG _ _ _ _ s₁ (mkF m 14 #[oR a, oR u8] [.ref a, .ref u8])
 refine own_callV X0 hx hZ (y := oy28) (z := oy28) hown (oW hw 125 rfl) (oW hw 126 rfl) (notFace_of_selects (args := #[]) (mvT hZ (oW hw 128 rfl))) (oW hw 128 rfl) (oW hw 127 rfl) (oW hw 129 rfl) (oW hw 3 rfl) (by decide) 1 E_a [] [.ref u8] (own_cod l Z a0 hw [] a zc h0 n0 Z0 S_C F_a_coder hz) e0  (by decide) (by decide) (by decide) (by decide) (g := (mkF m 14 #[oR a, oR u8] [.ref a, .ref u8])) rfl (by rw [hml]; rfl) own_pd0 rfl rfl (by show 2 * 0 + _ ≤ _; exact Nat.le_of_eq rfl) (hb hby oj42_64_14) ?_
 intro T1 v1 L1 X1 hQ1
 obtain ⟨rfl, N1q, e1⟩ := hQ1
 have N1 := Fr.app N0 N1q
 refine oS (fun t k => XS.aloadN X1.here hx rfl (hb hby oj42_64_17) rfl rfl k) ?_
 show oG _ _ _ _ T1 (mkF m 18 #[oR a, oR u8] [.ref a, .int 0, .ref u8])
 obtain ⟨T2, X2, e2, st2⟩ := getF X1 hx hZ hown (host := "") (Or.inl (oW hw 28 rfl)) Via.refl e1 F_a_value (g := (mkF m 18 #[oR a, oR u8] [.ref a, .int 0, .ref u8])) rfl rfl (hb hby oj42_64_18)
 refine oS st2 ?_
 show oG _ _ _ _ T2 (mkF m 21 #[oR a, oR u8] [.ref va, .int 0, .ref u8])
 refine own_callS X2 hx hZ (y := oy29) hown (oW hw 213 rfl) (oW hw 214 rfl) (oW hw 3 rfl) (oW hw 215 rfl) (by decide) 0 [.ref u8, .int 0, .ref va] [] (own_en_NA l Z a0 hw [] u8 va ka x0 x1 h0 n0 Z0 V_va S_I hs0 hs1) e2  (by decide) (by decide) (by decide) (by decide) (g := (mkF m 21 #[oR a, oR u8] [.ref va, .int 0, .ref u8])) rfl (by rw [hml]; rfl) own_pd12 rfl rfl (by show 2 * 0 + _ ≤ _; exact Nat.le_of_eq rfl) (hb hby oj42_64_21) ?_
 intro T3 v3 L3 X3 hQ3
 obtain ⟨b3_0, k3_0, rfl, N3q, Kq3, zq3_0, q3_0⟩ := hQ3
 have N3 := Fr.app N1 N3q
 have K3 := (Keep.refl h0 []).trans Kq3 all0
 have g_b3_0 : n0 ≤ b3_0 := Nat.le_trans Z0 zq3_0
 have sz_b3_0 : h0.size ≤ b3_0 := Nat.le_trans (Keep.refl h0 []).1 zq3_0
 have ne_a_b3_0 : a ≠ b3_0 := Nat.ne_of_lt (Nat.lt_of_lt_of_le E_a.lt zq3_0)
 have ne_va_b3_0 : va ≠ b3_0 := Nat.ne_of_lt (Nat.lt_of_lt_of_le V_va.lt zq3_0)
 have q3_0' : own_Buf Z T3.heap b3_0 k3_0 (3 : Int32) := q3_0
 show oG _ _ _ _ T3 (mkF m 24 #[oR a, oR u8] [.ref b3_0])
 exact own_retA X3 hx hlk hrt rfl rfl rfl (hb hby oj42_64_24) (by exact ⟨b3_0, k3_0, rfl, N3, K3, sz_b3_0, q3_0'⟩) (by decide) (by decide)
set_option maxRecDepth 65536 in
set_option maxHeartbeats 40000000 in
theorem own_cp_NN (l : Launch) (Z : State) (a0 : Array Value) (hw : ∀ d ∈ tables_1, d.before a0 Z = true) (ws : List Jvm.Cond) (va : Addr) (ka : ClassId) (x0 : Int32) (x1 : Int32) (h0 : Heap) (n0 : Nat) (Z0 : n0 ≤ h0.size) (V_va : Arv Z h0 va ka .byte (2 : Int32) [.int x0, .int x1] (.int 0)) (hs0 : x0 < (0 : Int32)) (hs1 : x1 < (0 : Int32)) :
   own_Met l Z oy34 jdk_123_method_3_code 5 (some .int) ws ({ frames := 0, cells := 0, slots := 0, locals := 0 } : Room) #[.ref va, .int 0, .int 2] h0 (fun v h L => v = some (.int 0) ∧ Fr n0 L ∧ h = h0) := by
 refine own_body (plainFor_of_name own_pn_java_lang_StringCoding) (fun p e s m below meth c s₁ hx hby hml0 hrt hlk hown0 hnm hZ X0 e0 => ?_)
 have N0 := Fr.nil n0
 have hown : s.vm.findClass "java/lang/StringCoding" = some m.cls := hown0
 have hml : c.maxLocals = 5 := hml0
 refine own_castG (own_ef9 m va (0 : Int32) (2 : Int32)) ?_
 refine oS (fun t k => XS.iloadN X0.here hx rfl (hb hby oj123_3_0) rfl k) ?_
 refine oS (fun t k => XS.iloadN X0.here hx rfl (hb hby oj123_3_1) rfl k) ?_
 refine oS (fun t k => XS.iadd X0.here hx rfl (hb hby oj123_3_2) rfl k) ?_
 refine oS (fun t k => XS.istoreN X0.here hx rfl (hb hby oj123_3_3) rfl (l' := #[oR va, oI 0, oI 2, oI 2, .unset]) rfl k) ?_
 refine oS (fun t k => XS.iloadN X0.here hx rfl (hb hby oj123_3_4) rfl k) ?_
 refine oS (fun t k => XS.istore X0.here hx rfl (hb hby oj123_3_5) rfl (l' := #[oR va, oI 0, oI 2, oI 2, oI 0]) rfl k) ?_
 refine oS (fun t k => XS.iload X0.here hx rfl (hb hby oj123_3_7) rfl k) ?_
 refine oS (fun t k => XS.iloadN X0.here hx rfl (hb hby oj123_3_9) rfl k) ?_
 show oG _ _ _ _ s₁ (mkF m 10 #[oR va, oI 0, oI 2, oI 2, oI 0] [.int 2, .int 0])
 refine oS (fun t k => XS.icmpNo X0.here hx rfl (hb hby oj123_3_10) rfl (tlt (show (0 : Int32) < (2 : Int32) from (by decide))).2.1 k) ?_
 refine oS (fun t k => XS.aloadN X0.here hx rfl (hb hby oj123_3_13) rfl rfl k) ?_
 refine oS (fun t k => XS.iload X0.here hx rfl (hb hby oj123_3_14) rfl k) ?_
 show oG _ _ _ _ s₁ (mkF m 16 #[oR va, oI 0, oI 2, oI 2, oI 0] [.int 0, .ref va])
 refine oS (own_baload X0 hx hZ e0 V_va (.int x0) ⟨by decide, by decide⟩ rfl (g := (mkF m 16 #[oR va, oI 0, oI 2, oI 2, oI 0] [.int 0, .ref va])) rfl rfl (hb hby oj123_3_16)) ?_
 show oG _ _ _ _ s₁ (mkF m 17 #[oR va, oI 0, oI 2, oI 2, oI 0] [.int x0])
 refine oS (fun t k => XS.ifNo X0.here hx rfl (hb hby oj123_3_17) rfl ((if0 _ _).trans (tlt (show x0 < (0 : Int32) from hs0)).2.1) k) ?_
 refine oS (fun t k => XS.iload X0.here hx rfl (hb hby oj123_3_20) rfl k) ?_
 refine oS (fun t k => XS.iloadN X0.here hx rfl (hb hby oj123_3_22) rfl k) ?_
 refine oS (fun t k => XS.isub X0.here hx rfl (hb hby oj123_3_23) rfl k) ?_
 show oG _ _ _ _ s₁ (mkF m 24 #[oR va, oI 0, oI 2, oI 2, oI 0] [.int 0])
 exact own_retI X0 hx hlk hrt (hb hby oj123_3_24) ⟨rfl, N0, e0⟩ (by decide) (by decide)
set_option maxRecDepth 65536 in
set_option maxHeartbeats 40000000 in
theorem own_hn_NN (l : Launch) (Z : State) (a0 : Array Value) (hw : ∀ d ∈ tables_1, d.before a0 Z = true) (ws : List Jvm.Cond) (va : Addr) (ka : ClassId) (x0 : Int32) (x1 : Int32) (h0 : Heap) (n0 : Nat) (Z0 : n0 ≤ h0.size) (V_va : Arv Z h0 va ka .byte (2 : Int32) [.int x0, .int x1] (.int 0)) (hs0 : x0 < (0 : Int32)) (hs1 : x1 < (0 : Int32)) :
   own_Met l Z oy35 jdk_123_method_2_code 3 (some .boolean) ws ({ frames := 1, cells := 0, slots := 0, locals := 16 } : Room) #[.ref va, .int 0, .int 2] h0 (fun v h L => v = some (.int 1) ∧ Fr n0 L ∧ h = h0) := by
 refine own_body (plainFor_of_name own_pn_java_lang_StringCoding) (fun p e s m below meth c s₁ hx hby hml0 hrt hlk hown0 hnm hZ X0 e0 => ?_)
 have N0 := Fr.nil n0
 have hown : s.vm.findClass "java/lang/StringCoding" = some m.cls := hown0
 have hml : c.maxLocals = 3 := hml0
 refine own_castG (own_ef10 m va (0 : Int32) (2 : Int32)) ?_
 refine oS (fun t k => XS.aloadN X0.here hx rfl (hb hby oj123_2_0) rfl rfl k) ?_
 refine oS (fun t k => XS.iloadN X0.here hx rfl (hb hby oj123_2_1) rfl k) ?_
 refine oS (fun t k => XS.iloadN X0.here hx rfl (hb hby oj123_2_2) rfl k) ?_
 show oG _ _ _ _ s₁ (mkF m 3 #[oR va, oI 0, oI 2] [.int 2, .int 0, .ref va])
 refine own_callS X0 hx hZ (y := oy34) hown (oW hw 225 rfl) (oW hw 226 rfl) (oW hw 223 rfl) (oW hw 227 rfl) (by decide) 0 [.ref va, .int 0, .int 2] [] (own_cp_NN l Z a0 hw [] va ka x0 x1 h0 n0 Z0 V_va hs0 hs1) e0  (by decide) (by decide) (by decide) (by decide) (g := (mkF m 3 #[oR va, oI 0, oI 2] [.int 2, .int 0, .ref va])) rfl (by rw [hml]; rfl) own_pd6 rfl rfl (by show 2 * 0 + _ ≤ _; exact Nat.le_of_eq rfl) (hb hby oj123_2_3) ?_
 intro T1 v1 L1 X1 hQ1
 obtain ⟨rfl, N1q, e1⟩ := hQ1
 have N1 := Fr.app N0 N1q
 refine oS (fun t k => XS.iloadN X1.here hx rfl (hb hby oj123_2_6) rfl k) ?_
 show oG _ _ _ _ T1 (mkF m 7 #[oR va, oI 0, oI 2] [.int 2, .int 0])
 refine oS (fun t k => XS.icmpNo X1.here hx rfl (hb hby oj123_2_7) rfl (feq (show ¬ ((0 : Int32) = (2 : Int32)) from (by decide))).1 k) ?_
 refine oS (fun t k => XS.iconst X1.here hx rfl (hb hby oj123_2_10) k) ?_
 refine oS (fun t k => XS.goto X1.here hx rfl (pc0 := 11) (pc' := 15) rfl (hb hby oj123_2_11) (by decide) (by decide) k) ?_
 show oG _ _ _ _ T1 (mkF m 15 #[oR va, oI 0, oI 2] [.int 1])
 exact own_retN X1 hx hlk (t := .boolean) hrt (by simp) (hb hby oj123_2_15) ⟨rfl, N1, e1⟩ (by decide) (by decide)
theorem oj42_46_131 : decode jdk_42_method_46_code 131 = .ok (.aload 4, 2) := by decide +kernel
theorem oj42_46_133 : decode jdk_42_method_46_code 133 = .ok (.areturn, 1) := by decide +kernel
set_option maxRecDepth 65536 in
set_option maxHeartbeats 40000000 in
theorem own_eu_NN (l : Launch) (Z : State) (a0 : Array Value) (hw : ∀ d ∈ tables_1, d.before a0 Z = true) (ws : List Jvm.Cond) (va : Addr) (ka : ClassId) (x0 : Int32) (x1 : Int32) (h0 : Heap) (n0 : Nat) (Z0 : n0 ≤ h0.size) (V_va : Arv Z h0 va ka .byte (2 : Int32) [.int x0, .int x1] (.int 0)) (hs0 : x0 < (0 : Int32)) (hs1 : x1 < (0 : Int32)) :
   own_Met l Z oy30 jdk_42_method_46_code 9 (some (.array .byte)) ws ({ frames := 2, cells := 1, slots := 4, locals := 30 } : Room) #[.int 0, .ref va, .int 1] h0 (fun v h L => ∃ r : Addr, ∃ kr : ClassId, v = some (.ref r) ∧ Fr n0 L ∧ Keep h0 h [] ∧ h0.size ≤ r ∧ own_Buf Z h r kr (4 : Int32)) := by
 refine own_body (plainFor_of_name own_pn_java_lang_String) (fun p e s m below meth c s₁ hx hby hml0 hrt hlk hown0 hnm hZ X0 e0 => ?_)
 have N0 := Fr.nil n0
 have hown : s.vm.findClass "java/lang/String" = some m.cls := hown0
 have hml : c.maxLocals = 9 := hml0
 refine own_castG (own_ef13 m (0 : Int32) va (1 : Int32)) ?_
 refine oS (fun t k => XS.iloadN X0.here hx rfl (hb hby oj42_46_0) rfl k) ?_
 refine oS (fun t k => XS.iconst X0.here hx rfl (hb hby oj42_46_1) k) ?_
 show oG _ _ _ _ s₁ (mkF m 2 #[oI 0, oR va, oI 1, .unset, .unset, .unset, .unset, .unset, .unset] [.int 1, .int 0])
 refine oS (fun t k => XS.icmpYes X0.here hx rfl (pc0 := 2) (pc' := 11) rfl (hb hby oj42_46_2) rfl (feq (show ¬ ((0 : Int32) = (1 : Int32)) from (by decide))).2 (by decide) (by decide) k) ?_
 refine oS (fun t k => XS.aloadN X0.here hx rfl (hb hby oj42_46_11) rfl rfl k) ?_
 refine oS (fun t k => XS.iconst X0.here hx rfl (hb hby oj42_46_12) k) ?_
 refine oS (fun t k => XS.aloadN X0.here hx rfl (hb hby oj42_46_13) rfl rfl k) ?_
 show oG _ _ _ _ s₁ (mkF m 14 #[oI 0, oR va, oI 1, .unset, .unset, .unset, .unset, .unset, .unset] [.ref va, .int 0, .ref va])
 refine oS (own_alen X0 hx hZ e0 V_va (g := (mkF m 14 #[oI 0, oR va, oI 1, .unset, .unset, .unset, .unset, .unset, .unset] [.ref va, .int 0, .ref va])) rfl rfl (hb hby oj42_46_14)) ?_
 show oG _ _ _ _ s₁ (mkF m 15 #[oI 0, oR va, oI 1, .unset, .unset, .unset, .unset, .unset, .unset] [.int 2, .int 0, .ref va])
 refine own_callS X0 hx hZ (y := oy35) hown (oW hw 221 rfl) (oW hw 222 rfl) (oW hw 223 rfl) (oW hw 224 rfl) (by decide) 0 [.ref va, .int 0, .int 2] [] (own_hn_NN l Z a0 hw [] va ka x0 x1 h0 n0 Z0 V_va hs0 hs1) e0  (by decide) (by decide) (by decide) (by decide) (g := (mkF m 15 #[oI 0, oR va, oI 1, .unset, .unset, .unset, .unset, .unset, .unset] [.int 2, .int 0, .ref va])) rfl (by rw [hml]; rfl) own_pd8 rfl rfl (by show 2 * 0 + _ ≤ _; exact Nat.le_of_eq rfl) (hb hby oj42_46_15) ?_
 intro T1 v1 L1 X1 hQ1
 obtain ⟨rfl, N1q, e1⟩ := hQ1
 have N1 := Fr.app N0 N1q
 show oG _ _ _ _ T1 (mkF m 18 #[oI 0, oR va, oI 1, .unset, .unset, .unset, .unset, .unset, .unset] [.int 1])
 refine oS (fun t k => XS.ifYes X1.here hx rfl (pc0 := 18) (pc' := 29) rfl (hb hby oj42_46_18) rfl ((if0 _ _).trans (feq (show ¬ ((1 : Int32) = (0 : Int32)) from (by decide))).2) (by decide) (by decide) k) ?_
 refine oS (fun t k => XS.iconst X1.here hx rfl (hb hby oj42_46_29) k) ?_
 refine oS (fun t k => XS.istoreN X1.here hx rfl (hb hby oj42_46_30) rfl (l' := #[oI 0, oR va, oI 1, oI 0, .unset, .unset, .unset, .unset, .unset]) rfl k) ?_
 refine oS (fun t k => XS.aloadN X1.here hx rfl (hb hby oj42_46_31) rfl rfl k) ?_
 show oG _ _ _ _ T1 (mkF m 32 #[oI 0, oR va, oI 1, oI 0, .unset, .unset, .unset, .unset, .unset] [.ref va])
 refine oS (own_alen X1 hx hZ e1 V_va (g := (mkF m 32 #[oI 0, oR va, oI 1, oI 0, .unset, .unset, .unset, .unset, .unset] [.ref va])) rfl rfl (hb hby oj42_46_32)) ?_
 show oG _ _ _ _ T1 (mkF m 33 #[oI 0, oR va, oI 1, oI 0, .unset, .unset, .unset, .unset, .unset] [.int 2])
 refine own_callS X1 hx hZ (y := oy40) hown (oW hw 228 rfl) (oW hw 229 rfl) (oW hw 17 rfl) (oW hw 230 rfl) (by decide) 0 [.int 2] [] (own_nbf l Z a0 hw []  h0 n0 Z0 ) e1  (by decide) (by decide) (by decide) (by decide) (g := (mkF m 33 #[oI 0, oR va, oI 1, oI 0, .unset, .unset, .unset, .unset, .unset] [.int 2])) rfl (by rw [hml]; rfl) own_pd9 rfl rfl (by show 2 * 0 + _ ≤ _; exact Nat.le_of_eq rfl) (hb hby oj42_46_33) ?_
 intro T2 v2 L2 X2 hQ2
 obtain ⟨b2_0, k2_0, rfl, N2q, Kq2, zq2_0, q2_0⟩ := hQ2
 have N2 := Fr.app N1 N2q
 have K2 := (Keep.refl h0 []).trans Kq2 all0
 have g_b2_0 : n0 ≤ b2_0 := Nat.le_trans Z0 zq2_0
 have sz_b2_0 : h0.size ≤ b2_0 := Nat.le_trans (Keep.refl h0 []).1 zq2_0
 have ne_va_b2_0 : va ≠ b2_0 := Nat.ne_of_lt (Nat.lt_of_lt_of_le V_va.lt zq2_0)
 have q2_0' : own_Buf Z T2.heap b2_0 k2_0 (4 : Int32) := q2_0
 refine oS (fun t k => XS.astore X2.here hx rfl (hb hby oj42_46_36) rfl rfl (l' := #[oI 0, oR va, oI 1, oI 0, oR b2_0, .unset, .unset, .unset, .unset]) rfl k) ?_
 refine oS (fun t k => XS.aloadN X2.here hx rfl (hb hby oj42_46_38) rfl rfl k) ?_
 refine oS (fun t k => XS.astore X2.here hx rfl (hb hby oj42_46_39) rfl rfl (l' := #[oI 0, oR va, oI 1, oI 0, oR b2_0, oR va, .unset, .unset, .unset]) rfl k) ?_
 refine oS (fun t k => XS.aload X2.here hx rfl (hb hby oj42_46_41) rfl rfl k) ?_
 show oG _ _ _ _ T2 (mkF m 43 #[oI 0, oR va, oI 1, oI 0, oR b2_0, oR va, .unset, .unset, .unset] [.ref va])
 have V_va_v3 := (V_va.keep Kq2 nin0)
 refine oS (own_alen X2 hx hZ rfl V_va_v3 (g := (mkF m 43 #[oI 0, oR va, oI 1, oI 0, oR b2_0, oR va, .unset, .unset, .unset] [.ref va])) rfl rfl (hb hby oj42_46_43)) ?_
 refine oS (fun t k => XS.istore X2.here hx rfl (hb hby oj42_46_44) rfl (l' := #[oI 0, oR va, oI 1, oI 0, oR b2_0, oR va, oI 2, .unset, .unset]) rfl k) ?_
 refine oS (fun t k => XS.iconst X2.here hx rfl (hb hby oj42_46_46) k) ?_
 refine oS (fun t k => XS.istore X2.here hx rfl (hb hby oj42_46_47) rfl (l' := #[oI 0, oR va, oI 1, oI 0, oR b2_0, oR va, oI 2, oI 0, .unset]) rfl k) ?_
 refine oS (fun t k => XS.iload X2.here hx rfl (hb hby oj42_46_49) rfl k) ?_
 refine oS (fun t k => XS.iload X2.here hx rfl (hb hby oj42_46_51) rfl k) ?_
 show oG _ _ _ _ T2 (mkF m 53 #[oI 0, oR va, oI 1, oI 0, oR b2_0, oR va, oI 2, oI 0, .unset] [.int 2, .int 0])
 refine oS (fun t k => XS.icmpNo X2.here hx rfl (hb hby oj42_46_53) rfl (tlt (show (0 : Int32) < (2 : Int32) from (by decide))).2.1 k) ?_
 refine oS (fun t k => XS.aload X2.here hx rfl (hb hby oj42_46_56) rfl rfl k) ?_
 refine oS (fun t k => XS.iload X2.here hx rfl (hb hby oj42_46_58) rfl k) ?_
 show oG _ _ _ _ T2 (mkF m 60 #[oI 0, oR va, oI 1, oI 0, oR b2_0, oR va, oI 2, oI 0, .unset] [.int 0, .ref va])
 refine oS (own_baload X2 hx hZ rfl V_va_v3 (.int x0) ⟨by decide, by decide⟩ rfl (g := (mkF m 60 #[oI 0, oR va, oI 1, oI 0, oR b2_0, oR va, oI 2, oI 0, .unset] [.int 0, .ref va])) rfl rfl (hb hby oj42_46_60)) ?_
 refine oS (fun t k => XS.istore X2.here hx rfl (hb hby oj42_46_61) rfl (l' := #[oI 0, oR va, oI 1, oI 0, oR b2_0, oR va, oI 2, oI 0, oI x0]) rfl k) ?_
 refine oS (fun t k => XS.iload X2.here hx rfl (hb hby oj42_46_63) rfl k) ?_
 show oG _ _ _ _ T2 (mkF m 65 #[oI 0, oR va, oI 1, oI 0, oR b2_0, oR va, oI 2, oI 0, oI x0] [.int x0])
 refine oS (fun t k => XS.ifNo X2.here hx rfl (hb hby oj42_46_65) rfl ((if0 _ _).trans (tlt (show x0 < (0 : Int32) from hs0)).2.1) k) ?_
 refine oS (fun t k => XS.aload X2.here hx rfl (hb hby oj42_46_68) rfl rfl k) ?_
 refine oS (fun t k => XS.iloadN X2.here hx rfl (hb hby oj42_46_70) rfl k) ?_
 show oG _ _ _ _ T2 (mkF m 71 #[oI 0, oR va, oI 1, oI 0, oR b2_0, oR va, oI 2, oI 0, oI x0] [.int 0, .ref b2_0])
 refine oS (fun t k => XS.iinc X2.here hx rfl (hb hby oj42_46_71) rfl (l' := #[oI 0, oR va, oI 1, oI 1, oR b2_0, oR va, oI 2, oI 0, oI x0]) rfl k) ?_
 refine oS (fun t k => XS.sipush X2.here hx rfl (hb hby oj42_46_74) k) ?_
 refine oS (fun t k => XS.iload X2.here hx rfl (hb hby oj42_46_77) rfl k) ?_
 refine oS (fun t k => XS.sipush X2.here hx rfl (hb hby oj42_46_79) k) ?_
 refine oS (fun t k => XS.iand X2.here hx rfl (hb hby oj42_46_82) rfl k) ?_
 refine oS (fun t k => XS.bipush X2.here hx rfl (hb hby oj42_46_83) k) ?_
 refine oS (fun t k => XS.ishr X2.here hx rfl (hb hby oj42_46_85) rfl k) ?_
 refine oS (fun t k => XS.ior X2.here hx rfl (hb hby oj42_46_86) rfl k) ?_
 refine oS (fun t k => XS.i2b X2.here hx rfl (hb hby oj42_46_87) rfl k) ?_
 show oG _ _ _ _ T2 (mkF m 88 #[oI 0, oR va, oI 1, oI 1, oR b2_0, oR va, oI 2, oI 0, oI x0] [(.int (((192 : Int32) ||| ((x0 &&& (255 : Int32)) >>> ((6 : Int32) &&& 31))).toInt8.toInt32)), .int 0, .ref b2_0])
 obtain ⟨T4, h4, X4, e4, W4, V4, st4⟩ := own_bufStore X2 hx hZ rfl q2_0' (x := (((192 : Int32) ||| ((x0 &&& (255 : Int32)) >>> ((6 : Int32) &&& 31))).toInt8.toInt32)) (j := (0 : Int32)) ⟨by decide, by decide⟩ (g := (mkF m 88 #[oI 0, oR va, oI 1, oI 1, oR b2_0, oR va, oI 2, oI 0, oI x0] [(.int (((192 : Int32) ||| ((x0 &&& (255 : Int32)) >>> ((6 : Int32) &&& 31))).toInt8.toInt32)), .int 0, .ref b2_0])) rfl rfl (hb hby oj42_46_88)
 refine oS st4 ?_
 have K4 := K2.wr W4 (Or.inr sz_b2_0)
 have N4 := Fr.snoc X4 N2 g_b2_0
 refine oS (fun t k => XS.aload X4.here hx rfl (hb hby oj42_46_89) rfl rfl k) ?_
 refine oS (fun t k => XS.iloadN X4.here hx rfl (hb hby oj42_46_91) rfl k) ?_
 show oG _ _ _ _ T4 (mkF m 92 #[oI 0, oR va, oI 1, oI 1, oR b2_0, oR va, oI 2, oI 0, oI x0] [.int 1, .ref b2_0])
 refine oS (fun t k => XS.iinc X4.here hx rfl (hb hby oj42_46_92) rfl (l' := #[oI 0, oR va, oI 1, oI 2, oR b2_0, oR va, oI 2, oI 0, oI x0]) rfl k) ?_
 refine oS (fun t k => XS.sipush X4.here hx rfl (hb hby oj42_46_95) k) ?_
 refine oS (fun t k => XS.iload X4.here hx rfl (hb hby oj42_46_98) rfl k) ?_
 refine oS (fun t k => XS.bipush X4.here hx rfl (hb hby oj42_46_100) k) ?_
 refine oS (fun t k => XS.iand X4.here hx rfl (hb hby oj42_46_102) rfl k) ?_
 refine oS (fun t k => XS.ior X4.here hx rfl (hb hby oj42_46_103) rfl k) ?_
 refine oS (fun t k => XS.i2b X4.here hx rfl (hb hby oj42_46_104) rfl k) ?_
 show oG _ _ _ _ T4 (mkF m 105 #[oI 0, oR va, oI 1, oI 2, oR b2_0, oR va, oI 2, oI 0, oI x0] [(.int (((128 : Int32) ||| (x0 &&& (63 : Int32))).toInt8.toInt32)), .int 1, .ref b2_0])
 obtain ⟨T5, h5, X5, e5, W5, V5, st5⟩ := own_bufStore X4 hx hZ e4 V4 (x := (((128 : Int32) ||| (x0 &&& (63 : Int32))).toInt8.toInt32)) (j := (1 : Int32)) ⟨by decide, by decide⟩ (g := (mkF m 105 #[oI 0, oR va, oI 1, oI 2, oR b2_0, oR va, oI 2, oI 0, oI x0] [(.int (((128 : Int32) ||| (x0 &&& (63 : Int32))).toInt8.toInt32)), .int 1, .ref b2_0])) rfl rfl (hb hby oj42_46_105)
 refine oS st5 ?_
 have K5 := K4.wr W5 (Or.inr sz_b2_0)
 have N5 := Fr.snoc X5 N4 g_b2_0
 refine oS (fun t k => XS.goto X5.here hx rfl (pc0 := 106) (pc' := 118) rfl (hb hby oj42_46_106) (by decide) (by decide) k) ?_
 show oG _ _ _ _ T5 (mkF m 118 #[oI 0, oR va, oI 1, oI 2, oR b2_0, oR va, oI 2, oI 0, oI x0] [])
 refine oS (fun t k => XS.iinc X5.here hx rfl (hb hby oj42_46_118) rfl (l' := #[oI 0, oR va, oI 1, oI 2, oR b2_0, oR va, oI 2, oI 1, oI x0]) rfl k) ?_
 refine oS (fun t k => XS.goto X5.here hx rfl (pc0 := 121) (pc' := 49) rfl (hb hby oj42_46_121) (by decide) (by decide) k) ?_
 refine oS (fun t k => XS.iload X5.here hx rfl (hb hby oj42_46_49) rfl k) ?_
 refine oS (fun t k => XS.iload X5.here hx rfl (hb hby oj42_46_51) rfl k) ?_
 show oG _ _ _ _ T5 (mkF m 53 #[oI 0, oR va, oI 1, oI 2, oR b2_0, oR va, oI 2, oI 1, oI x0] [.int 2, .int 1])
 refine oS (fun t k => XS.icmpNo X5.here hx rfl (hb hby oj42_46_53) rfl (tlt (show (1 : Int32) < (2 : Int32) from (by decide))).2.1 k) ?_
 refine oS (fun t k => XS.aload X5.here hx rfl (hb hby oj42_46_56) rfl rfl k) ?_
 refine oS (fun t k => XS.iload X5.here hx rfl (hb hby oj42_46_58) rfl k) ?_
 show oG _ _ _ _ T5 (mkF m 60 #[oI 0, oR va, oI 1, oI 2, oR b2_0, oR va, oI 2, oI 1, oI x0] [.int 1, .ref va])
 have V_va_v6 := ((V_va_v3.other W4 ne_va_b2_0).other W5 ne_va_b2_0)
 refine oS (own_baload X5 hx hZ e5 V_va_v6 (.int x1) ⟨by decide, by decide⟩ rfl (g := (mkF m 60 #[oI 0, oR va, oI 1, oI 2, oR b2_0, oR va, oI 2, oI 1, oI x0] [.int 1, .ref va])) rfl rfl (hb hby oj42_46_60)) ?_
 refine oS (fun t k => XS.istore X5.here hx rfl (hb hby oj42_46_61) rfl (l' := #[oI 0, oR va, oI 1, oI 2, oR b2_0, oR va, oI 2, oI 1, oI x1]) rfl k) ?_
 refine oS (fun t k => XS.iload X5.here hx rfl (hb hby oj42_46_63) rfl k) ?_
 show oG _ _ _ _ T5 (mkF m 65 #[oI 0, oR va, oI 1, oI 2, oR b2_0, oR va, oI 2, oI 1, oI x1] [.int x1])
 refine oS (fun t k => XS.ifNo X5.here hx rfl (hb hby oj42_46_65) rfl ((if0 _ _).trans (tlt (show x1 < (0 : Int32) from hs1)).2.1) k) ?_
 refine oS (fun t k => XS.aload X5.here hx rfl (hb hby oj42_46_68) rfl rfl k) ?_
 refine oS (fun t k => XS.iloadN X5.here hx rfl (hb hby oj42_46_70) rfl k) ?_
 show oG _ _ _ _ T5 (mkF m 71 #[oI 0, oR va, oI 1, oI 2, oR b2_0, oR va, oI 2, oI 1, oI x1] [.int 2, .ref b2_0])
 refine oS (fun t k => XS.iinc X5.here hx rfl (hb hby oj42_46_71) rfl (l' := #[oI 0, oR va, oI 1, oI 3, oR b2_0, oR va, oI 2, oI 1, oI x1]) rfl k) ?_
 refine oS (fun t k => XS.sipush X5.here hx rfl (hb hby oj42_46_74) k) ?_
 refine oS (fun t k => XS.iload X5.here hx rfl (hb hby oj42_46_77) rfl k) ?_
 refine oS (fun t k => XS.sipush X5.here hx rfl (hb hby oj42_46_79) k) ?_
 refine oS (fun t k => XS.iand X5.here hx rfl (hb hby oj42_46_82) rfl k) ?_
 refine oS (fun t k => XS.bipush X5.here hx rfl (hb hby oj42_46_83) k) ?_
 refine oS (fun t k => XS.ishr X5.here hx rfl (hb hby oj42_46_85) rfl k) ?_
 refine oS (fun t k => XS.ior X5.here hx rfl (hb hby oj42_46_86) rfl k) ?_
 refine oS (fun t k => XS.i2b X5.here hx rfl (hb hby oj42_46_87) rfl k) ?_
 show oG _ _ _ _ T5 (mkF m 88 #[oI 0, oR va, oI 1, oI 3, oR b2_0, oR va, oI 2, oI 1, oI x1] [(.int (((192 : Int32) ||| ((x1 &&& (255 : Int32)) >>> ((6 : Int32) &&& 31))).toInt8.toInt32)), .int 2, .ref b2_0])
 obtain ⟨T7, h7, X7, e7, W7, V7, st7⟩ := own_bufStore X5 hx hZ e5 V5 (x := (((192 : Int32) ||| ((x1 &&& (255 : Int32)) >>> ((6 : Int32) &&& 31))).toInt8.toInt32)) (j := (2 : Int32)) ⟨by decide, by decide⟩ (g := (mkF m 88 #[oI 0, oR va, oI 1, oI 3, oR b2_0, oR va, oI 2, oI 1, oI x1] [(.int (((192 : Int32) ||| ((x1 &&& (255 : Int32)) >>> ((6 : Int32) &&& 31))).toInt8.toInt32)), .int 2, .ref b2_0])) rfl rfl (hb hby oj42_46_88)
 refine oS st7 ?_
 have K7 := K5.wr W7 (Or.inr sz_b2_0)
 have N7 := Fr.snoc X7 N5 g_b2_0
 refine oS (fun t k => XS.aload X7.here hx rfl (hb hby oj42_46_89) rfl rfl k) ?_
 refine oS (fun t k => XS.iloadN X7.here hx rfl (hb hby oj42_46_91) rfl k) ?_
 show oG _ _ _ _ T7 (mkF m 92 #[oI 0, oR va, oI 1, oI 3, oR b2_0, oR va, oI 2, oI 1, oI x1] [.int 3, .ref b2_0])
 refine oS (fun t k => XS.iinc X7.here hx rfl (hb hby oj42_46_92) rfl (l' := #[oI 0, oR va, oI 1, oI 4, oR b2_0, oR va, oI 2, oI 1, oI x1]) rfl k) ?_
 refine oS (fun t k => XS.sipush X7.here hx rfl (hb hby oj42_46_95) k) ?_
 refine oS (fun t k => XS.iload X7.here hx rfl (hb hby oj42_46_98) rfl k) ?_
 refine oS (fun t k => XS.bipush X7.here hx rfl (hb hby oj42_46_100) k) ?_
 refine oS (fun t k => XS.iand X7.here hx rfl (hb hby oj42_46_102) rfl k) ?_
 refine oS (fun t k => XS.ior X7.here hx rfl (hb hby oj42_46_103) rfl k) ?_
 refine oS (fun t k => XS.i2b X7.here hx rfl (hb hby oj42_46_104) rfl k) ?_
 show oG _ _ _ _ T7 (mkF m 105 #[oI 0, oR va, oI 1, oI 4, oR b2_0, oR va, oI 2, oI 1, oI x1] [(.int (((128 : Int32) ||| (x1 &&& (63 : Int32))).toInt8.toInt32)), .int 3, .ref b2_0])
 obtain ⟨T8, h8, X8, e8, W8, V8, st8⟩ := own_bufStore X7 hx hZ e7 V7 (x := (((128 : Int32) ||| (x1 &&& (63 : Int32))).toInt8.toInt32)) (j := (3 : Int32)) ⟨by decide, by decide⟩ (g := (mkF m 105 #[oI 0, oR va, oI 1, oI 4, oR b2_0, oR va, oI 2, oI 1, oI x1] [(.int (((128 : Int32) ||| (x1 &&& (63 : Int32))).toInt8.toInt32)), .int 3, .ref b2_0])) rfl rfl (hb hby oj42_46_105)
 refine oS st8 ?_
 have K8 := K7.wr W8 (Or.inr sz_b2_0)
 have N8 := Fr.snoc X8 N7 g_b2_0
 refine oS (fun t k => XS.goto X8.here hx rfl (pc0 := 106) (pc' := 118) rfl (hb hby oj42_46_106) (by decide) (by decide) k) ?_
 show oG _ _ _ _ T8 (mkF m 118 #[oI 0, oR va, oI 1, oI 4, oR b2_0, oR va, oI 2, oI 1, oI x1] [])
 refine oS (fun t k => XS.iinc X8.here hx rfl (hb hby oj42_46_118) rfl (l' := #[oI 0, oR va, oI 1, oI 4, oR b2_0, oR va, oI 2, oI 2, oI x1]) rfl k) ?_
 refine oS (fun t k => XS.goto X8.here hx rfl (pc0 := 121) (pc' := 49) rfl (hb hby oj42_46_121) (by decide) (by decide) k) ?_
 refine oS (fun t k => XS.iload X8.here hx rfl (hb hby oj42_46_49) rfl k) ?_
 refine oS (fun t k => XS.iload X8.here hx rfl (hb hby oj42_46_51) rfl k) ?_
 show oG _ _ _ _ T8 (mkF m 53 #[oI 0, oR va, oI 1, oI 4, oR b2_0, oR va, oI 2, oI 2, oI x1] [.int 2, .int 2])
 refine oS (fun t k => XS.icmpYes X8.here hx rfl (pc0 := 53) (pc' := 124) rfl (hb hby oj42_46_53) rfl (flt (show ¬ ((2 : Int32) < (2 : Int32)) from (by decide))).2.1 (by decide) (by decide) k) ?_
 refine oS (fun t k => XS.iloadN X8.here hx rfl (hb hby oj42_46_124) rfl k) ?_
 refine oS (fun t k => XS.aload X8.here hx rfl (hb hby oj42_46_125) rfl rfl k) ?_
 show oG _ _ _ _ T8 (mkF m 127 #[oI 0, oR va, oI 1, oI 4, oR b2_0, oR va, oI 2, oI 2, oI x1] [.ref b2_0, .int 4])
 refine oS (own_bufLen X8 hx hZ e8 V8 (g := (mkF m 127 #[oI 0, oR va, oI 1, oI 4, oR b2_0, oR va, oI 2, oI 2, oI x1] [.ref b2_0, .int 4])) rfl rfl (hb hby oj42_46_127)) ?_
 show oG _ _ _ _ T8 (mkF m 128 #[oI 0, oR va, oI 1, oI 4, oR b2_0, oR va, oI 2, oI 2, oI x1] [.int 4, .int 4])
 refine oS (fun t k => XS.icmpNo X8.here hx rfl (hb hby oj42_46_128) rfl (teq (show (4 : Int32) = (4 : Int32) from (by decide))).2 k) ?_
 refine oS (fun t k => XS.aload X8.here hx rfl (hb hby oj42_46_131) rfl rfl k) ?_
 show oG _ _ _ _ T8 (mkF m 133 #[oI 0, oR va, oI 1, oI 4, oR b2_0, oR va, oI 2, oI 2, oI x1] [.ref b2_0])
 exact own_retA X8 hx hlk hrt rfl rfl rfl (hb hby oj42_46_133) (by rw [e8]; exact ⟨b2_0, k2_0, rfl, N8, K8, sz_b2_0, V8⟩) (by decide) (by decide)
set_option maxRecDepth 65536 in
set_option maxHeartbeats 40000000 in
theorem own_en_NN (l : Launch) (Z : State) (a0 : Array Value) (hw : ∀ d ∈ tables_1, d.before a0 Z = true) (ws : List Jvm.Cond) (u8 : Addr) (va : Addr) (ka : ClassId) (x0 : Int32) (x1 : Int32) (h0 : Heap) (n0 : Nat) (Z0 : n0 ≤ h0.size) (V_va : Arv Z h0 va ka .byte (2 : Int32) [.int x0, .int x1] (.int 0)) (S_I : Sta Z h0 "sun/nio/cs/UTF_8" "INSTANCE" "Lsun/nio/cs/UTF_8;" (.ref u8)) (hs0 : x0 < (0 : Int32)) (hs1 : x1 < (0 : Int32)) :
   own_Met l Z oy29 jdk_42_method_18_code 3 (some (.array .byte)) ws ({ frames := 3, cells := 1, slots := 4, locals := 50 } : Room) #[.ref u8, .int 0, .ref va] h0 (fun v h L => ∃ r : Addr, ∃ kr : ClassId, v = some (.ref r) ∧ Fr n0 L ∧ Keep h0 h [] ∧ h0.size ≤ r ∧ own_Buf Z h r kr (4 : Int32)) := by
 refine own_body (plainFor_of_name own_pn_java_lang_String) (fun p e s m below meth c s₁ hx hby hml0 hrt hlk hown0 hnm hZ X0 e0 => ?_)
 have N0 := Fr.nil n0
 have hown : s.vm.findClass "java/lang/String" = some m.cls := hown0
 have hml : c.maxLocals = 3 := hml0
 refine own_castG (own_ef14 m u8 (0 : Int32) va) ?_
 refine oS (fun t k => XS.aloadN X0.here hx rfl (hb hby oj42_18_0) rfl rfl k) ?_
 show oG _ _ _ _ s₁ (mkF m 1 #[oR u8, oI 0, oR va] [.ref u8])
 obtain ⟨T1, X1, e1, st1⟩ := getS2 X0 hx hZ hown (host := "") (Or.inl (oW hw 216 rfl)) Via.refl e0 S_I (g := (mkF m 1 #[oR u8, oI 0, oR va] [.ref u8])) rfl (hb hby oj42_18_1)
 refine oS st1 ?_
 show oG _ _ _ _ T1 (mkF m 4 #[oR u8, oI 0, oR va] [.ref u8, .ref u8])
 refine oS (fun t k => Jvm.RoadKit.acmp (g := (mkF m 4 #[oR u8, oI 0, oR va] [.ref u8, .ref u8])) X1 hx rfl rfl rfl (pc0 := 4) (pc' := 7) (same := true) rfl (hb hby oj42_18_4) rfl (decide_eq_true rfl) (by decide) (by decide) k) ?_
 refine oS (fun t k => XS.iloadN X1.here hx rfl (hb hby oj42_18_7) rfl k) ?_
 refine oS (fun t k => XS.aloadN X1.here hx rfl (hb hby oj42_18_8) rfl rfl k) ?_
 refine oS (fun t k => XS.iconst X1.here hx rfl (hb hby oj42_18_9) k) ?_
 show oG _ _ _ _ T1 (mkF m 10 #[oR u8, oI 0, oR va] [.int 1, .ref va, .int 0])
 refine own_callS X1 hx hZ (y := oy30) hown (oW hw 218 rfl) (oW hw 219 rfl) (oW hw 3 rfl) (oW hw 220 rfl) (by decide) 0 [.int 0, .ref va, .int 1] [] (own_eu_NN l Z a0 hw [] va ka x0 x1 h0 n0 Z0 V_va hs0 hs1) e1  (by decide) (by decide) (by decide) (by decide) (g := (mkF m 10 #[oR u8, oI 0, oR va] [.int 1, .ref va, .int 0])) rfl (by rw [hml]; rfl) own_pd11 rfl rfl (by show 2 * 0 + _ ≤ _; exact Nat.le_of_eq rfl) (hb hby oj42_18_10) ?_
 intro T2 v2 L2 X2 hQ2
 obtain ⟨b2_0, k2_0, rfl, N2q, Kq2, zq2_0, q2_0⟩ := hQ2
 have N2 := Fr.app N0 N2q
 have K2 := (Keep.refl h0 []).trans Kq2 all0
 have g_b2_0 : n0 ≤ b2_0 := Nat.le_trans Z0 zq2_0
 have sz_b2_0 : h0.size ≤ b2_0 := Nat.le_trans (Keep.refl h0 []).1 zq2_0
 have ne_va_b2_0 : va ≠ b2_0 := Nat.ne_of_lt (Nat.lt_of_lt_of_le V_va.lt zq2_0)
 have q2_0' : own_Buf Z T2.heap b2_0 k2_0 (4 : Int32) := q2_0
 show oG _ _ _ _ T2 (mkF m 13 #[oR u8, oI 0, oR va] [.ref b2_0])
 exact own_retA X2 hx hlk hrt rfl rfl rfl (hb hby oj42_18_13) (by exact ⟨b2_0, k2_0, rfl, N2, K2, sz_b2_0, q2_0'⟩) (by decide) (by decide)
set_option maxRecDepth 65536 in
set_option maxHeartbeats 40000000 in
theorem own_gb_NN (l : Launch) (Z : State) (a0 : Array Value) (hw : ∀ d ∈ tables_1, d.before a0 Z = true) (ws : List Jvm.Cond) (a : Addr) (u8 : Addr) (va : Addr) (ka : ClassId) (x0 : Int32) (x1 : Int32) (zc : Int32) (h0 : Heap) (n0 : Nat) (Z0 : n0 ≤ h0.size) (E_a : Exa Z h0 a "java/lang/String") (F_a_coder : Fld Z h0 a "java/lang/String" "coder" "B" (.int 0)) (F_a_value : Fld Z h0 a "java/lang/String" "value" "[B" (.ref va)) (V_va : Arv Z h0 va ka .byte (2 : Int32) [.int x0, .int x1] (.int 0)) (S_I : Sta Z h0 "sun/nio/cs/UTF_8" "INSTANCE" "Lsun/nio/cs/UTF_8;" (.ref u8)) (S_C : Sta Z h0 "java/lang/String" "COMPACT_STRINGS" "Z" (.int zc)) (hs0 : x0 < (0 : Int32)) (hs1 : x1 < (0 : Int32)) (hz : ¬ (zc = (0 : Int32))) :
   own_Met l Z oy31 jdk_42_method_64_code 2 (some (.array .byte)) ws ({ frames := 4, cells := 1, slots := 4, locals := 64 } : Room) #[.ref a, .ref u8] h0 (fun v h L => ∃ r : Addr, ∃ kr : ClassId, v = some (.ref r) ∧ Fr n0 L ∧ Keep h0 h [] ∧ h0.size ≤ r ∧ own_Buf Z h r kr (4 : Int32)) := by
 refine own_body (plainFor_of_name own_pn_java_lang_String) (fun p e s m below meth c s₁ hx hby hml0 hrt hlk hown0 hnm hZ X0 e0 => ?_)
 have N0 := Fr.nil n0
 have hown : s.vm.findClass "java/lang/String" = some m.cls := hown0
 have hml : c.maxLocals = 2 := hml0
 refine own_castG (own_ef15 m a u8) ?_
 refine oS (fun t k => XS.aloadN X0.here hx rfl (hb hby oj42_64_0) rfl rfl k) ?_
 show oG _ _ _ _ s₁ (mkF m 1 #[oR a, oR u8] [.ref u8])
 refine oS (fun t k => XS.ifnonnullYes X0.here hx rfl (pc0 := 1) (pc' := 12) rfl (hb hby oj42_64_1) rfl (by decide) (by decide) k) ?_
 refine oS (fun t k => XS.aloadN X0.here hx rfl (hb hby oj42_64_12) rfl rfl k) ?_
 refine oS (fun t k => XS.aloadN X0.here hx rfl (hb hby oj42_64_13) rfl rfl k) ?_
 show oG _ _ _ _ s₁ (mkF m 14 #[oR a, oR u8] [.ref a, .ref u8])
 refine own_callV X0 hx hZ (y := oy28) (z := oy28) hown (oW hw 125 rfl) (oW hw 126 rfl) (notFace_of_selects (args := #[]) (mvT hZ (oW hw 128 rfl))) (oW hw 128 rfl) (oW hw 127 rfl) (oW hw 129 rfl) (oW hw 3 rfl) (by decide) 1 E_a [] [.ref u8] (own_cod l Z a0 hw [] a zc h0 n0 Z0 S_C F_a_coder hz) e0  (by decide) (by decide) (by decide) (by decide) (g := (mkF m 14 #[oR a, oR u8] [.ref a, .ref u8])) rfl (by rw [hml]; rfl) own_pd0 rfl rfl (by show 2 * 0 + _ ≤ _; exact Nat.le_of_eq rfl) (hb hby oj42_64_14) ?_
 intro T1 v1 L1 X1 hQ1
 obtain ⟨rfl, N1q, e1⟩ := hQ1
 have N1 := Fr.app N0 N1q
 refine oS (fun t k => XS.aloadN X1.here hx rfl (hb hby oj42_64_17) rfl rfl k) ?_
 show oG _ _ _ _ T1 (mkF m 18 #[oR a, oR u8] [.ref a, .int 0, .ref u8])
 obtain ⟨T2, X2, e2, st2⟩ := getF X1 hx hZ hown (host := "") (Or.inl (oW hw 28 rfl)) Via.refl e1 F_a_value (g := (mkF m 18 #[oR a, oR u8] [.ref a, .int 0, .ref u8])) rfl rfl (hb hby oj42_64_18)
 refine oS st2 ?_
 show oG _ _ _ _ T2 (mkF m 21 #[oR a, oR u8] [.ref va, .int 0, .ref u8])
 refine own_callS X2 hx hZ (y := oy29) hown (oW hw 213 rfl) (oW hw 214 rfl) (oW hw 3 rfl) (oW hw 215 rfl) (by decide) 0 [.ref u8, .int 0, .ref va] [] (own_en_NN l Z a0 hw [] u8 va ka x0 x1 h0 n0 Z0 V_va S_I hs0 hs1) e2  (by decide) (by decide) (by decide) (by decide) (g := (mkF m 21 #[oR a, oR u8] [.ref va, .int 0, .ref u8])) rfl (by rw [hml]; rfl) own_pd12 rfl rfl (by show 2 * 0 + _ ≤ _; exact Nat.le_of_eq rfl) (hb hby oj42_64_21) ?_
 intro T3 v3 L3 X3 hQ3
 obtain ⟨b3_0, k3_0, rfl, N3q, Kq3, zq3_0, q3_0⟩ := hQ3
 have N3 := Fr.app N1 N3q
 have K3 := (Keep.refl h0 []).trans Kq3 all0
 have g_b3_0 : n0 ≤ b3_0 := Nat.le_trans Z0 zq3_0
 have sz_b3_0 : h0.size ≤ b3_0 := Nat.le_trans (Keep.refl h0 []).1 zq3_0
 have ne_a_b3_0 : a ≠ b3_0 := Nat.ne_of_lt (Nat.lt_of_lt_of_le E_a.lt zq3_0)
 have ne_va_b3_0 : va ≠ b3_0 := Nat.ne_of_lt (Nat.lt_of_lt_of_le V_va.lt zq3_0)
 have q3_0' : own_Buf Z T3.heap b3_0 k3_0 (4 : Int32) := q3_0
 show oG _ _ _ _ T3 (mkF m 24 #[oR a, oR u8] [.ref b3_0])
 exact own_retA X3 hx hlk hrt rfl rfl rfl (hb hby oj42_64_24) (by exact ⟨b3_0, k3_0, rfl, N3, K3, sz_b3_0, q3_0'⟩) (by decide) (by decide)
theorem own_ef16 (m : MethodId) (x0 : Int64) (x1 : Int64) : entryFrame m #[(.long x0), (.long x1)] 4 = mkF m 0 #[.val (.long x0), .second, .val (.long x1), .second] [] := by first | (simp [entryFrame, mkF, argsToLocals, Value.category]; done) | rfl
theorem oj29_66_0 : decode jdk_29_method_66_code 0 = .ok (.lload_n 0, 1) := by decide +kernel
theorem oj29_66_1 : decode jdk_29_method_66_code 1 = .ok (.lload_n 2, 1) := by decide +kernel
theorem oj29_66_2 : decode jdk_29_method_66_code 2 = .ok (.lcmp, 1) := by decide +kernel
theorem oj29_66_3 : decode jdk_29_method_66_code 3 = .ok (.ifCond .lt 7, 3) := by decide +kernel
theorem oj29_66_6 : decode jdk_29_method_66_code 6 = .ok (.lload_n 0, 1) := by decide +kernel
theorem oj29_66_7 : decode jdk_29_method_66_code 7 = .ok (.goto 4, 3) := by decide +kernel
theorem oj29_66_11 : decode jdk_29_method_66_code 11 = .ok (.lreturn, 1) := by decide +kernel
set_option maxRecDepth 65536 in
set_option maxHeartbeats 40000000 in
theorem own_maxJ (l : Launch) (Z : State) (a0 : Array Value) (hw : ∀ d ∈ tables_1, d.before a0 Z = true) (ws : List Jvm.Cond) (pv : Int64) (qv : Int64) (h0 : Heap) (n0 : Nat) (Z0 : n0 ≤ h0.size) (hl : ¬ ((lcmpW pv qv) < (0 : Int32))) :
   own_Met l Z oy20 jdk_29_method_66_code 4 (some .long) ws ({ frames := 0, cells := 0, slots := 0, locals := 0 } : Room) #[(.long pv), (.long qv)] h0 (fun v h L => v = some (.long pv) ∧ Fr n0 L ∧ h = h0) := by
 refine own_body (Jvm.Free.JP.mathPlain rfl (by decide +kernel)) (fun p e s m below meth c s₁ hx hby hml0 hrt hlk hown0 hnm hZ X0 e0 => ?_)
 have N0 := Fr.nil n0
 have hown : s.vm.findClass "java/lang/Math" = some m.cls := hown0
 have hml : c.maxLocals = 4 := hml0
 refine own_castG (own_ef16 m pv qv) ?_
 refine oS (fun t k => XS.lloadN X0.here hx rfl (hb hby oj29_66_0) rfl k) ?_
 refine oS (fun t k => XS.lloadN X0.here hx rfl (hb hby oj29_66_1) rfl k) ?_
 show oG _ _ _ _ s₁ (mkF m 2 #[.val (.long pv), .second, .val (.long qv), .second] [(.long qv), (.long pv)])
 refine oS (fun t k => XS.lcmp X0.here hx rfl (hb hby oj29_66_2) rfl k) ?_
 show oG _ _ _ _ s₁ (mkF m 3 #[.val (.long pv), .second, .val (.long qv), .second] [(.int (lcmpW pv qv))])
 refine oS (fun t k => XS.ifNo X0.here hx rfl (hb hby oj29_66_3) rfl ((if0 _ _).trans (flt (show ¬ ((lcmpW pv qv) < (0 : Int32)) from hl)).1) k) ?_
 refine oS (fun t k => XS.lloadN X0.here hx rfl (hb hby oj29_66_6) rfl k) ?_
 refine oS (fun t k => XS.goto X0.here hx rfl (pc0 := 7) (pc' := 11) rfl (hb hby oj29_66_7) (by decide) (by decide) k) ?_
 show oG _ _ _ _ s₁ (mkF m 11 #[.val (.long pv), .second, .val (.long qv), .second] [(.long pv)])
 exact own_retL X0 hx hlk hrt (hb hby oj29_66_11) ⟨rfl, N0, e0⟩ (by decide) (by decide)
theorem own_ef17 (m : MethodId) (x0 : Int64) (x1 : Int64) : entryFrame m #[(.long x0), (.long x1)] 4 = mkF m 0 #[.val (.long x0), .second, .val (.long x1), .second] [] := by first | (simp [entryFrame, mkF, argsToLocals, Value.category]; done) | rfl
theorem oj29_70_0 : decode jdk_29_method_70_code 0 = .ok (.lload_n 0, 1) := by decide +kernel
theorem oj29_70_1 : decode jdk_29_method_70_code 1 = .ok (.lload_n 2, 1) := by decide +kernel
theorem oj29_70_2 : decode jdk_29_method_70_code 2 = .ok (.lcmp, 1) := by decide +kernel
theorem oj29_70_3 : decode jdk_29_method_70_code 3 = .ok (.ifCond .gt 7, 3) := by decide +kernel
theorem oj29_70_10 : decode jdk_29_method_70_code 10 = .ok (.lload_n 2, 1) := by decide +kernel
theorem oj29_70_11 : decode jdk_29_method_70_code 11 = .ok (.lreturn, 1) := by decide +kernel
set_option maxRecDepth 65536 in
set_option maxHeartbeats 40000000 in
theorem own_minJ (l : Launch) (Z : State) (a0 : Array Value) (hw : ∀ d ∈ tables_1, d.before a0 Z = true) (ws : List Jvm.Cond) (h0 : Heap) (n0 : Nat) (Z0 : n0 ≤ h0.size) :
   own_Met l Z oy22 jdk_29_method_70_code 4 (some .long) ws ({ frames := 0, cells := 0, slots := 0, locals := 0 } : Room) #[(.long (2147483639 : Int64)), (.long (128 : Int64))] h0 (fun v h L => v = some (.long (128 : Int64)) ∧ Fr n0 L ∧ h = h0) := by
 refine own_body (Jvm.Free.JP.mathPlain rfl (by decide +kernel)) (fun p e s m below meth c s₁ hx hby hml0 hrt hlk hown0 hnm hZ X0 e0 => ?_)
 have N0 := Fr.nil n0
 have hown : s.vm.findClass "java/lang/Math" = some m.cls := hown0
 have hml : c.maxLocals = 4 := hml0
 refine own_castG (own_ef17 m (2147483639 : Int64) (128 : Int64)) ?_
 refine oS (fun t k => XS.lloadN X0.here hx rfl (hb hby oj29_70_0) rfl k) ?_
 refine oS (fun t k => XS.lloadN X0.here hx rfl (hb hby oj29_70_1) rfl k) ?_
 show oG _ _ _ _ s₁ (mkF m 2 #[.val (.long (2147483639 : Int64)), .second, .val (.long (128 : Int64)), .second] [(.long (128 : Int64)), (.long (2147483639 : Int64))])
 refine oS (fun t k => XS.lcmp X0.here hx rfl (hb hby oj29_70_2) rfl k) ?_
 show oG _ _ _ _ s₁ (mkF m 3 #[.val (.long (2147483639 : Int64)), .second, .val (.long (128 : Int64)), .second] [(.int (lcmpW (2147483639 : Int64) (128 : Int64)))])
 refine oS (fun t k => XS.ifYes X0.here hx rfl (pc0 := 3) (pc' := 10) rfl (hb hby oj29_70_3) rfl ((if0 _ _).trans (tlt (show (0 : Int32) < (lcmpW (2147483639 : Int64) (128 : Int64)) from (by decide))).2.2.1) (by decide) (by decide) k) ?_
 refine oS (fun t k => XS.lloadN X0.here hx rfl (hb hby oj29_70_10) rfl k) ?_
 show oG _ _ _ _ s₁ (mkF m 11 #[.val (.long (2147483639 : Int64)), .second, .val (.long (128 : Int64)), .second] [(.long (128 : Int64))])
 exact own_retL X0 hx hlk hrt (hb hby oj29_70_11) ⟨rfl, N0, e0⟩ (by decide) (by decide)
theorem oj29_69_5 : decode jdk_29_method_69_code 5 = .ok (.iload_n 0, 1) := by decide +kernel
theorem oj29_69_6 : decode jdk_29_method_69_code 6 = .ok (.goto 4, 3) := by decide +kernel
set_option maxRecDepth 65536 in
set_option maxHeartbeats 40000000 in
theorem own_min_64_128 (l : Launch) (Z : State) (a0 : Array Value) (hw : ∀ d ∈ tables_1, d.before a0 Z = true) (ws : List Jvm.Cond) (h0 : Heap) (n0 : Nat) (Z0 : n0 ≤ h0.size) :
   own_Met l Z oy21 jdk_29_method_69_code 2 (some .int) ws ({ frames := 0, cells := 0, slots := 0, locals := 0 } : Room) #[.int 64, .int 128] h0 (fun v h L => v = some (.int 64) ∧ Fr n0 L ∧ h = h0) := by
 refine own_body (Jvm.Free.JP.mathPlain rfl (by decide +kernel)) (fun p e s m below meth c s₁ hx hby hml0 hrt hlk hown0 hnm hZ X0 e0 => ?_)
 have N0 := Fr.nil n0
 have hown : s.vm.findClass "java/lang/Math" = some m.cls := hown0
 have hml : c.maxLocals = 2 := hml0
 refine own_castG (own_ef11 m (64 : Int32) (128 : Int32)) ?_
 refine oS (fun t k => XS.iloadN X0.here hx rfl (hb hby oj29_69_0) rfl k) ?_
 refine oS (fun t k => XS.iloadN X0.here hx rfl (hb hby oj29_69_1) rfl k) ?_
 show oG _ _ _ _ s₁ (mkF m 2 #[oI 64, oI 128] [.int 128, .int 64])
 refine oS (fun t k => XS.icmpNo X0.here hx rfl (hb hby oj29_69_2) rfl (flt (show ¬ ((128 : Int32) < (64 : Int32)) from (by decide))).2.2.1 k) ?_
 refine oS (fun t k => XS.iloadN X0.here hx rfl (hb hby oj29_69_5) rfl k) ?_
 refine oS (fun t k => XS.goto X0.here hx rfl (pc0 := 6) (pc' := 10) rfl (hb hby oj29_69_6) (by decide) (by decide) k) ?_
 show oG _ _ _ _ s₁ (mkF m 10 #[oI 64, oI 128] [.int 64])
 exact own_retI X0 hx hlk hrt (hb hby oj29_69_10) ⟨rfl, N0, e0⟩ (by decide) (by decide)
set_option maxRecDepth 65536 in
set_option maxHeartbeats 40000000 in
theorem own_cpo_64_128 (l : Launch) (Z : State) (a0 : Array Value) (hw : ∀ d ∈ tables_1, d.before a0 Z = true) (ws : List Jvm.Cond) (a : Addr) (ka : ClassId) (h0 : Heap) (n0 : Nat) (Z0 : n0 ≤ h0.size) (V_a : own_Buf Z h0 a ka (64 : Int32)) :
   own_Met l Z oy42 jdk_65_method_121_code 3 (some (.array .byte)) ws ({ frames := 1, cells := 1, slots := 128, locals := 64 } : Room) #[.ref a, .int 128] h0 (fun v h L => ∃ r : Addr, ∃ kr : ClassId, v = some (.ref r) ∧ Fr n0 L ∧ Keep h0 h [] ∧ h0.size ≤ r ∧ own_Buf Z h r kr (128 : Int32)) := by
 refine own_body (plainFor_of_name own_pn_java_util_Arrays) (fun p e s m below meth c s₁ hx hby hml0 hrt hlk hown0 hnm hZ X0 e0 => ?_)
 have N0 := Fr.nil n0
 have hown : s.vm.findClass "java/util/Arrays" = some m.cls := hown0
 have hml : c.maxLocals = 3 := hml0
 refine own_castG (own_ef12 m a (128 : Int32)) ?_
 refine oS (fun t k => XS.iloadN X0.here hx rfl (hb hby oj65_121_0) rfl k) ?_
 refine oS (fun t k => XS.aloadN X0.here hx rfl (hb hby oj65_121_1) rfl rfl k) ?_
 show oG _ _ _ _ s₁ (mkF m 2 #[oR a, oI 128, .unset] [.ref a, .int 128])
 refine oS (own_bufLen X0 hx hZ e0 V_a (g := (mkF m 2 #[oR a, oI 128, .unset] [.ref a, .int 128])) rfl rfl (hb hby oj65_121_2)) ?_
 show oG _ _ _ _ s₁ (mkF m 3 #[oR a, oI 128, .unset] [.int 64, .int 128])
 refine oS (fun t k => XS.icmpYes X0.here hx rfl (pc0 := 3) (pc' := 14) rfl (hb hby oj65_121_3) rfl (feq (show ¬ ((128 : Int32) = (64 : Int32)) from (by decide))).2 (by decide) (by decide) k) ?_
 refine oS (fun t k => XS.iloadN X0.here hx rfl (hb hby oj65_121_14) rfl k) ?_
 show oG _ _ _ _ s₁ (mkF m 15 #[oR a, oI 128, .unset] [.int 128])
 obtain ⟨T1, h1, k1, X1, e1, E1, A1, st1⟩ := newP X0 hx hZ (oW hw 19 rfl) e0 (g := (mkF m 15 #[oR a, oI 128, .unset] [.int 128])) rfl (hb hby oj65_121_15) rfl (by decide) (cap := 128) (by decide) (by decide) (by decide) (by decide)
 obtain ⟨b1, g1⟩ : ∃ z, z = h0.size := ⟨_, rfl⟩
 rw [← g1] at A1 st1
 refine oS st1 ?_
 have g_b1 : n0 ≤ b1 := Nat.le_trans Z0 (Nat.le_of_eq g1.symm)
 have sz_b1 : h0.size ≤ b1 := Nat.le_trans (Keep.refl h0 []).1 (Nat.le_of_eq g1.symm)
 have ne_a_b1 : a ≠ b1 := Nat.ne_of_lt (Nat.lt_of_lt_of_le V_a.lt (Nat.le_of_eq g1.symm))
 have K1 := (Keep.refl h0 []).ext E1
 have V_b1 : own_Buf Z h1 b1 k1 (128 : Int32) := own_bufNew A1 (by decide)
 refine oS (fun t k => XS.astoreN X1.here hx rfl (hb hby oj65_121_17) rfl rfl (l' := #[oR a, oI 128, oR b1]) rfl k) ?_
 refine oS (fun t k => XS.aloadN X1.here hx rfl (hb hby oj65_121_18) rfl rfl k) ?_
 refine oS (fun t k => XS.iconst X1.here hx rfl (hb hby oj65_121_19) k) ?_
 refine oS (fun t k => XS.aloadN X1.here hx rfl (hb hby oj65_121_20) rfl rfl k) ?_
 refine oS (fun t k => XS.iconst X1.here hx rfl (hb hby oj65_121_21) k) ?_
 refine oS (fun t k => XS.aloadN X1.here hx rfl (hb hby oj65_121_22) rfl rfl k) ?_
 show oG _ _ _ _ T1 (mkF m 23 #[oR a, oI 128, oR b1] [.ref a, .int 0, .ref b1, .int 0, .ref a])
 have V_a_v2 := (V_a.ext E1)
 refine oS (own_bufLen X1 hx hZ e1 V_a_v2 (g := (mkF m 23 #[oR a, oI 128, oR b1] [.ref a, .int 0, .ref b1, .int 0, .ref a])) rfl rfl (hb hby oj65_121_23)) ?_
 refine oS (fun t k => XS.iloadN X1.here hx rfl (hb hby oj65_121_24) rfl k) ?_
 show oG _ _ _ _ T1 (mkF m 25 #[oR a, oI 128, oR b1] [.int 128, .int 64, .int 0, .ref b1, .int 0, .ref a])
 refine own_callS X1 hx hZ (y := oy21) hown (oW hw 195 rfl) (oW hw 196 rfl) (oW hw 186 rfl) (oW hw 197 rfl) (by decide) 4 [.int 64, .int 128] [.int 0, .ref b1, .int 0, .ref a] (own_min_64_128 l Z a0 hw []  h1 n0 (Nat.le_trans Z0 K1.1) ) e1  (by decide) (by decide) (by decide) (by decide) (g := (mkF m 25 #[oR a, oI 128, oR b1] [.int 128, .int 64, .int 0, .ref b1, .int 0, .ref a])) rfl (by rw [hml]; rfl) own_pd7 rfl rfl (by show 2 * 0 + _ ≤ _; exact Nat.le_of_eq rfl) (hb hby oj65_121_25) ?_
 intro T3 v3 L3 X3 hQ3
 obtain ⟨rfl, N3q, e3⟩ := hQ3
 have N3 := Fr.app N0 N3q
 show oG _ _ _ _ T3 (mkF m 28 #[oR a, oI 128, oR b1] [.int 64, .int 0, .ref b1, .int 0, .ref a])
 obtain ⟨T4, h4, L4, X4, e4, N4, Kq4, V4, st4⟩ := own_bufCopy X3 hx hZ hown (oW hw 198 rfl) (oW hw 201 rfl) (oW hw 199 rfl) (oW hw 200 rfl) e3 V_a_v2 V_b1 (by decide) (by decide) (by decide) (by decide) (by decide) N3 g_b1 (g := (mkF m 28 #[oR a, oI 128, oR b1] [.int 64, .int 0, .ref b1, .int 0, .ref a])) rfl (by rw [hml]; rfl) rfl (hb hby oj65_121_28) (by decide) (W := 0) (by show 2 * 0 + _ ≤ _; exact Nat.le_of_eq rfl) (by decide)
 refine oS st4 ?_
 have K4 := K1.trans Kq4 (allS (Or.inr sz_b1) all0)
 refine oS (fun t k => XS.aloadN X4.here hx rfl (hb hby oj65_121_31) rfl rfl k) ?_
 show oG _ _ _ _ T4 (mkF m 32 #[oR a, oI 128, oR b1] [.ref b1])
 exact own_retA X4 hx hlk hrt rfl rfl rfl (hb hby oj65_121_32) (by rw [e4]; exact ⟨b1, k1, rfl, N4, K4, sz_b1, V4⟩) (by decide) (by decide)
theorem own_pn_com_example_ringshift_ringshift_io_BinaryWriter : plainName "com/example/ringshift/ringshift/io/BinaryWriter" = true := by first | (simp [plainName, overriddenIn]; done) | decide +kernel
theorem own_ef18 (m : MethodId) (x0 : Addr) (x1 : Int32) : entryFrame m #[.ref x0, .int x1] 3 = mkF m 0 #[.val (.ref x0), .val (.int x1), .unset] [] := by first | (simp [entryFrame, mkF, argsToLocals, Value.category]; done) | rfl
theorem op81_19_0 : decode prog_81_method_19_code 0 = .ok (.iload_n 1, 1) := by decide +kernel
theorem op81_19_1 : decode prog_81_method_19_code 1 = .ok (.aload_n 0, 1) := by decide +kernel
theorem op81_19_2 : decode prog_81_method_19_code 2 = .ok (.getfield 14, 3) := by decide +kernel
theorem op81_19_5 : decode prog_81_method_19_code 5 = .ok (.arraylength, 1) := by decide +kernel
theorem op81_19_6 : decode prog_81_method_19_code 6 = .ok (.aload_n 0, 1) := by decide +kernel
theorem op81_19_7 : decode prog_81_method_19_code 7 = .ok (.getfield 21, 3) := by decide +kernel
theorem op81_19_10 : decode prog_81_method_19_code 10 = .ok (.isub, 1) := by decide +kernel
theorem op81_19_11 : decode prog_81_method_19_code 11 = .ok (.if_icmp .gt 4, 3) := by decide +kernel
theorem op81_19_15 : decode prog_81_method_19_code 15 = .ok (.iload_n 1, 1) := by decide +kernel
theorem op81_19_16 : decode prog_81_method_19_code 16 = .ok (.ldc 126, 2) := by decide +kernel
theorem op81_19_18 : decode prog_81_method_19_code 18 = .ok (.aload_n 0, 1) := by decide +kernel
theorem op81_19_19 : decode prog_81_method_19_code 19 = .ok (.getfield 21, 3) := by decide +kernel
theorem op81_19_22 : decode prog_81_method_19_code 22 = .ok (.isub, 1) := by decide +kernel
theorem op81_19_23 : decode prog_81_method_19_code 23 = .ok (.if_icmp .le 13, 3) := by decide +kernel
theorem op81_19_36 : decode prog_81_method_19_code 36 = .ok (.ldc2_w 134, 3) := by decide +kernel
theorem op81_19_39 : decode prog_81_method_19_code 39 = .ok (.ldc2_w 50, 3) := by decide +kernel
theorem op81_19_42 : decode prog_81_method_19_code 42 = .ok (.aload_n 0, 1) := by decide +kernel
theorem op81_19_43 : decode prog_81_method_19_code 43 = .ok (.getfield 14, 3) := by decide +kernel
theorem op81_19_46 : decode prog_81_method_19_code 46 = .ok (.arraylength, 1) := by decide +kernel
theorem op81_19_47 : decode prog_81_method_19_code 47 = .ok (.i2l, 1) := by decide +kernel
theorem op81_19_48 : decode prog_81_method_19_code 48 = .ok (.lmul, 1) := by decide +kernel
theorem op81_19_49 : decode prog_81_method_19_code 49 = .ok (.aload_n 0, 1) := by decide +kernel
theorem op81_19_50 : decode prog_81_method_19_code 50 = .ok (.getfield 21, 3) := by decide +kernel
theorem op81_19_53 : decode prog_81_method_19_code 53 = .ok (.i2l, 1) := by decide +kernel
theorem op81_19_54 : decode prog_81_method_19_code 54 = .ok (.iload_n 1, 1) := by decide +kernel
theorem op81_19_55 : decode prog_81_method_19_code 55 = .ok (.i2l, 1) := by decide +kernel
theorem op81_19_56 : decode prog_81_method_19_code 56 = .ok (.ladd, 1) := by decide +kernel
theorem op81_19_57 : decode prog_81_method_19_code 57 = .ok (.invokestatic 136, 3) := by decide +kernel
theorem own_pd13 : parseMethodDescriptor "(JJ)J" = some ⟨[.long, .long], some .long⟩ := by decide +kernel
theorem op81_19_60 : decode prog_81_method_19_code 60 = .ok (.invokestatic 142, 3) := by decide +kernel
theorem op81_19_63 : decode prog_81_method_19_code 63 = .ok (.l2i, 1) := by decide +kernel
theorem op81_19_64 : decode prog_81_method_19_code 64 = .ok (.istore_n 2, 1) := by decide +kernel
theorem op81_19_65 : decode prog_81_method_19_code 65 = .ok (.aload_n 0, 1) := by decide +kernel
theorem op81_19_66 : decode prog_81_method_19_code 66 = .ok (.aload_n 0, 1) := by decide +kernel
theorem op81_19_67 : decode prog_81_method_19_code 67 = .ok (.getfield 14, 3) := by decide +kernel
theorem op81_19_70 : decode prog_81_method_19_code 70 = .ok (.iload_n 2, 1) := by decide +kernel
theorem op81_19_71 : decode prog_81_method_19_code 71 = .ok (.invokestatic 100, 3) := by decide +kernel
theorem op81_19_74 : decode prog_81_method_19_code 74 = .ok (.putfield 14, 3) := by decide +kernel
theorem op81_19_77 : decode prog_81_method_19_code 77 = .ok (.return_, 1) := by decide +kernel
theorem op81_19_14 : decode prog_81_method_19_code 14 = .ok (.return_, 1) := by decide +kernel
set_option maxRecDepth 65536 in
set_option maxHeartbeats 40000000 in
theorem own_room (l : Launch) (Z : State) (a0 : Array Value) (hw : ∀ d ∈ tables_1, d.before a0 Z = true) (ws : List Jvm.Cond) (w : Addr) (b : Addr) (kb : ClassId) (cap : Int32) (sz : Int32) (N : Int) (kk : Int32) (j : Int) (h0 : Heap) (n0 : Nat) (Z0 : n0 ≤ h0.size) (E_w : Exa Z h0 w "com/example/ringshift/ringshift/io/BinaryWriter") (F_w_size : Fld Z h0 w "com/example/ringshift/ringshift/io/BinaryWriter" "size" "I" (.int sz)) (F_w_bytes : Fld Z h0 w "com/example/ringshift/ringshift/io/BinaryWriter" "bytes" "[B" (.ref b)) (V_b : own_Buf Z h0 b kb cap) (hS : own_St cap sz N) (hN : N + j ≤ 128) (g_w : n0 ≤ w) (g_b : n0 ≤ b) (nwb : ¬ (w = b)) (hk : kk.toInt = j) (hj : 0 ≤ j) :
   own_MetX l Z oy13 prog_81_method_19_code 3 none ws ({ frames := 2, cells := 0 + own_gc cap, slots := 0 + own_gs cap, locals := 79 } : Room) #[.ref w, .int kk] h0 (fun v h L k n => ∃ (b2 : Addr) (k2 : ClassId) (cap2 sz2 : Int32), v = none ∧ Fr n0 L ∧ Keep h0 h [w] ∧ (b2 = b ∨ h0.size ≤ b2) ∧ own_St cap2 sz2 (N) ∧ k + own_gc cap2 ≤ 0 + own_gc cap ∧ n + own_gs cap2 ≤ 0 + own_gs cap ∧ Fld Z h w "com/example/ringshift/ringshift/io/BinaryWriter" "size" "I" (.int sz2) ∧ Fld Z h w "com/example/ringshift/ringshift/io/BinaryWriter" "bytes" "[B" (.ref b2) ∧ own_Buf Z h b2 k2 cap2 ∧ N + j ≤ cap2.toInt) := by
 refine own_bodyX (plainFor_of_name own_pn_com_example_ringshift_ringshift_io_BinaryWriter) (fun p e s m below meth c s₁ hx hby hml0 hrt hlk hown0 hnm hZ X0 e0 => ?_)
 have N0 := Fr.nil n0
 have hown : s.vm.findClass "com/example/ringshift/ringshift/io/BinaryWriter" = some m.cls := hown0
 have hml : c.maxLocals = 3 := hml0
 refine own_castG (own_ef18 m w kk) ?_
 have IC0 : 0 + own_gc cap ≤ 0 + own_gc cap := Nat.le_refl _
 have IS0 : 0 + own_gs cap ≤ 0 + own_gs cap := Nat.le_refl _
 have hS0 := hS
 obtain ⟨sc0, sq0, sl0, su0⟩ := hS0
 have bz_b : b = b ∨ h0.size ≤ b := Or.inl rfl
 refine oS (fun t k => XS.iloadN X0.here hx rfl (hb hby op81_19_0) rfl k) ?_
 refine oS (fun t k => XS.aloadN X0.here hx rfl (hb hby op81_19_1) rfl rfl k) ?_
 show oG _ _ _ _ s₁ (mkF m 2 #[oR w, oI kk, .unset] [.ref w, .int kk])
 obtain ⟨T1, X1, e1, st1⟩ := getF X0 hx hZ hown (host := "") (Or.inl (oW hw 72 rfl)) Via.refl e0 F_w_bytes (g := (mkF m 2 #[oR w, oI kk, .unset] [.ref w, .int kk])) rfl rfl (hb hby op81_19_2)
 refine oS st1 ?_
 show oG _ _ _ _ T1 (mkF m 5 #[oR w, oI kk, .unset] [.ref b, .int kk])
 refine oS (own_bufLen X1 hx hZ e1 V_b (g := (mkF m 5 #[oR w, oI kk, .unset] [.ref b, .int kk])) rfl rfl (hb hby op81_19_5)) ?_
 refine oS (fun t k => XS.aloadN X1.here hx rfl (hb hby op81_19_6) rfl rfl k) ?_
 show oG _ _ _ _ T1 (mkF m 7 #[oR w, oI kk, .unset] [.ref w, .int cap, .int kk])
 obtain ⟨T2, X2, e2, st2⟩ := getF X1 hx hZ hown (host := "") (Or.inl (oW hw 86 rfl)) Via.refl e1 F_w_size (g := (mkF m 7 #[oR w, oI kk, .unset] [.ref w, .int cap, .int kk])) rfl rfl (hb hby op81_19_7)
 refine oS st2 ?_
 refine oS (fun t k => XS.isub X2.here hx rfl (hb hby op81_19_10) rfl k) ?_
 show oG _ _ _ _ T2 (mkF m 11 #[oR w, oI kk, .unset] [(.int (cap - sz)), .int kk])
 by_cases hc11_3 : (cap - sz) < kk
 · refine oS (fun t k => XS.icmpYes X2.here hx rfl (pc0 := 11) (pc' := 15) rfl (hb hby op81_19_11) rfl (tlt (show (cap - sz) < kk from hc11_3)).2.2.1 (by decide) (by decide) k) ?_
   show oG _ _ _ _ T2 (mkF m 15 #[oR w, oI kk, .unset] [])
   obtain rfl := own_roomYes hS hk hN hc11_3
   refine oS (fun t k => XS.iloadN X2.here hx rfl (hb hby op81_19_15) rfl k) ?_
   show oG _ _ _ _ T2 (mkF m 16 #[oR w, oI kk, .unset] [.int kk])
   refine oS (X2.ldcInt hx hown (mvT hZ (oW hw 181 rfl)) (g := (mkF m 16 #[oR w, oI kk, .unset] [.int kk])) rfl (hb hby op81_19_16)) ?_
   refine oS (fun t k => XS.aloadN X2.here hx rfl (hb hby op81_19_18) rfl rfl k) ?_
   show oG _ _ _ _ T2 (mkF m 19 #[oR w, oI kk, .unset] [.ref w, .int 2147483639, .int kk])
   obtain ⟨T4, X4, e4, st4⟩ := getF X2 hx hZ hown (host := "") (Or.inl (oW hw 86 rfl)) Via.refl e2 F_w_size (g := (mkF m 19 #[oR w, oI kk, .unset] [.ref w, .int 2147483639, .int kk])) rfl rfl (hb hby op81_19_19)
   refine oS st4 ?_
   refine oS (fun t k => XS.isub X4.here hx rfl (hb hby op81_19_22) rfl k) ?_
   show oG _ _ _ _ T4 (mkF m 23 #[oR w, oI kk, .unset] [(.int ((2147483639 : Int32) - sz)), .int kk])
   refine oS (fun t k => XS.icmpYes X4.here hx rfl (pc0 := 23) (pc' := 36) rfl (hb hby op81_19_23) rfl (flt (show ¬ (((2147483639 : Int32) - sz) < kk) from (own_roomMax sq0 sl0 hk hN))).2.2.2 (by decide) (by decide) k) ?_
   show oG _ _ _ _ T4 (mkF m 36 #[oR w, oI kk, .unset] [])
   refine oS (X4.ldc2Long hx hown (mvT hZ (oW hw 182 rfl)) (g := (mkF m 36 #[oR w, oI kk, .unset] [])) rfl (hb hby op81_19_36)) ?_
   show oG _ _ _ _ T4 (mkF m 39 #[oR w, oI kk, .unset] [(.long (2147483639 : Int64))])
   refine oS (X4.ldc2Long hx hown (mvT hZ (oW hw 183 rfl)) (g := (mkF m 39 #[oR w, oI kk, .unset] [(.long (2147483639 : Int64))])) rfl (hb hby op81_19_39)) ?_
   refine oS (fun t k => XS.aloadN X4.here hx rfl (hb hby op81_19_42) rfl rfl k) ?_
   show oG _ _ _ _ T4 (mkF m 43 #[oR w, oI kk, .unset] [.ref w, (.long (2 : Int64)), (.long (2147483639 : Int64))])
   obtain ⟨T5, X5, e5, st5⟩ := getF X4 hx hZ hown (host := "") (Or.inl (oW hw 72 rfl)) Via.refl e4 F_w_bytes (g := (mkF m 43 #[oR w, oI kk, .unset] [.ref w, (.long (2 : Int64)), (.long (2147483639 : Int64))])) rfl rfl (hb hby op81_19_43)
   refine oS st5 ?_
   show oG _ _ _ _ T5 (mkF m 46 #[oR w, oI kk, .unset] [.ref b, (.long (2 : Int64)), (.long (2147483639 : Int64))])
   refine oS (own_bufLen X5 hx hZ e5 V_b (g := (mkF m 46 #[oR w, oI kk, .unset] [.ref b, (.long (2 : Int64)), (.long (2147483639 : Int64))])) rfl rfl (hb hby op81_19_46)) ?_
   refine oS (fun t k => XS.i2l X5.here hx rfl (hb hby op81_19_47) rfl k) ?_
   show oG _ _ _ _ T5 (mkF m 48 #[oR w, oI kk, .unset] [(.long (64 : Int64)), (.long (2 : Int64)), (.long (2147483639 : Int64))])
   refine oS (fun t k => XS.lmul X5.here hx rfl (hb hby op81_19_48) rfl k) ?_
   refine oS (fun t k => XS.aloadN X5.here hx rfl (hb hby op81_19_49) rfl rfl k) ?_
   show oG _ _ _ _ T5 (mkF m 50 #[oR w, oI kk, .unset] [.ref w, (.long (128 : Int64)), (.long (2147483639 : Int64))])
   obtain ⟨T6, X6, e6, st6⟩ := getF X5 hx hZ hown (host := "") (Or.inl (oW hw 86 rfl)) Via.refl e5 F_w_size (g := (mkF m 50 #[oR w, oI kk, .unset] [.ref w, (.long (128 : Int64)), (.long (2147483639 : Int64))])) rfl rfl (hb hby op81_19_50)
   refine oS st6 ?_
   refine oS (fun t k => XS.i2l X6.here hx rfl (hb hby op81_19_53) rfl k) ?_
   refine oS (fun t k => XS.iloadN X6.here hx rfl (hb hby op81_19_54) rfl k) ?_
   refine oS (fun t k => XS.i2l X6.here hx rfl (hb hby op81_19_55) rfl k) ?_
   refine oS (fun t k => XS.ladd X6.here hx rfl (hb hby op81_19_56) rfl k) ?_
   show oG _ _ _ _ T6 (mkF m 57 #[oR w, oI kk, .unset] [(.long ((sz.toInt64) + (kk.toInt64))), (.long (128 : Int64)), (.long (2147483639 : Int64))])
   refine own_callS X6 hx hZ (y := oy20) hown (oW hw 184 rfl) (oW hw 185 rfl) (oW hw 186 rfl) (oW hw 187 rfl) (by decide) 2 [(.long (128 : Int64)), (.long ((sz.toInt64) + (kk.toInt64)))] [(.long (2147483639 : Int64))] (own_maxJ l Z a0 hw [] (128 : Int64) ((sz.toInt64) + (kk.toInt64)) h0 n0 Z0 (own_roomL sq0 sl0 hk hj hN)) e6  (oB rfl) (oB rfl) (oB rfl) (oB rfl) (g := (mkF m 57 #[oR w, oI kk, .unset] [(.long ((sz.toInt64) + (kk.toInt64))), (.long (128 : Int64)), (.long (2147483639 : Int64))])) rfl (by rw [hml]; rfl) own_pd13 rfl rfl (by show 2 * 0 + _ ≤ _; exact Nat.le_of_eq rfl) (hb hby op81_19_57) ?_
   intro T7 v7 L7 X7 hQ7
   obtain ⟨rfl, N7q, e7⟩ := hQ7
   have N7 := Fr.app N0 N7q
   have IC7 := own_accL 0 IC0
   have IS7 := own_accL 0 IS0
   show oG _ _ _ _ T7 (mkF m 60 #[oR w, oI kk, .unset] [(.long (128 : Int64)), (.long (2147483639 : Int64))])
   refine own_callS X7 hx hZ (y := oy22) hown (oW hw 188 rfl) (oW hw 189 rfl) (oW hw 186 rfl) (oW hw 190 rfl) (by decide) 0 [(.long (2147483639 : Int64)), (.long (128 : Int64))] [] (own_minJ l Z a0 hw []  h0 n0 Z0 ) e7  (oB rfl) (oB rfl) (oB rfl) (oB rfl) (g := (mkF m 60 #[oR w, oI kk, .unset] [(.long (128 : Int64)), (.long (2147483639 : Int64))])) rfl (by rw [hml]; rfl) own_pd13 rfl rfl (by show 2 * 0 + _ ≤ _; exact Nat.le_of_eq rfl) (hb hby op81_19_60) ?_
   intro T8 v8 L8 X8 hQ8
   obtain ⟨rfl, N8q, e8⟩ := hQ8
   have N8 := Fr.app N7 N8q
   have IC8 := own_accL 0 IC7
   have IS8 := own_accL 0 IS7
   show oG _ _ _ _ T8 (mkF m 63 #[oR w, oI kk, .unset] [(.long (128 : Int64))])
   refine oS (fun t k => XS.l2i X8.here hx rfl (hb hby op81_19_63) rfl k) ?_
   refine oS (fun t k => XS.istoreN X8.here hx rfl (hb hby op81_19_64) rfl (l' := #[oR w, oI kk, oI 128]) rfl k) ?_
   refine oS (fun t k => XS.aloadN X8.here hx rfl (hb hby op81_19_65) rfl rfl k) ?_
   refine oS (fun t k => XS.aloadN X8.here hx rfl (hb hby op81_19_66) rfl rfl k) ?_
   show oG _ _ _ _ T8 (mkF m 67 #[oR w, oI kk, oI 128] [.ref w, .ref w])
   obtain ⟨T9, X9, e9, st9⟩ := getF X8 hx hZ hown (host := "") (Or.inl (oW hw 72 rfl)) Via.refl e8 F_w_bytes (g := (mkF m 67 #[oR w, oI kk, oI 128] [.ref w, .ref w])) rfl rfl (hb hby op81_19_67)
   refine oS st9 ?_
   refine oS (fun t k => XS.iloadN X9.here hx rfl (hb hby op81_19_70) rfl k) ?_
   show oG _ _ _ _ T9 (mkF m 71 #[oR w, oI kk, oI 128] [.int 128, .ref b, .ref w])
   refine own_callS X9 hx hZ (y := oy42) hown (oW hw 191 rfl) (oW hw 192 rfl) (oW hw 193 rfl) (oW hw 194 rfl) (by decide) 1 [.ref b, .int 128] [.ref w] (own_cpo_64_128 l Z a0 hw [] b kb h0 n0 Z0 V_b) e9  (oB rfl) (oB rfl) (oB rfl) (oB rfl) (g := (mkF m 71 #[oR w, oI kk, oI 128] [.int 128, .ref b, .ref w])) rfl (by rw [hml]; rfl) own_pd10 rfl rfl (by show 2 * 0 + _ ≤ _; exact Nat.le_of_eq rfl) (hb hby op81_19_71) ?_
   intro T10 v10 L10 X10 hQ10
   obtain ⟨b10_0, k10_0, rfl, N10q, Kq10, zq10_0, q10_0⟩ := hQ10
   have N10 := Fr.app N8 N10q
   have K10 := (Keep.refl h0 [w]).trans Kq10 all0
   have g_b10_0 : n0 ≤ b10_0 := Nat.le_trans Z0 zq10_0
   have sz_b10_0 : h0.size ≤ b10_0 := Nat.le_trans (Keep.refl h0 [w]).1 zq10_0
   have ne_w_b10_0 : w ≠ b10_0 := Nat.ne_of_lt (Nat.lt_of_lt_of_le E_w.lt zq10_0)
   have ne_b_b10_0 : b ≠ b10_0 := Nat.ne_of_lt (Nat.lt_of_lt_of_le V_b.lt zq10_0)
   have q10_0' : own_Buf Z T10.heap b10_0 k10_0 (128 : Int32) := q10_0
   have IC10 := own_accL 1 IC8
   have IS10 := own_accL 128 IS8
   show oG _ _ _ _ T10 (mkF m 74 #[oR w, oI kk, oI 128] [.ref b10_0, .ref w])
   have E_w_v12 := (E_w.keep Kq10)
   have F_w_bytes_v13 := (F_w_bytes.keep Kq10 nin0)
   obtain ⟨T11, h11, X11, e11, W11, st11⟩ := putF X10 hx hZ hown (host := "") (Or.inl (oW hw 72 rfl)) Via.refl rfl F_w_bytes_v13 E_w_v12 (Or.inl (oW hw 73 rfl)) (oW hw 63 rfl) (ty := (.array .byte)) (by decide) rfl rfl (g := (mkF m 74 #[oR w, oI kk, oI 128] [.ref b10_0, .ref w])) rfl rfl (hb hby op81_19_74)
   refine oS st11 ?_
   have F11 := F_w_bytes_v13.same W11
   have K11 := K10.wr W11 (Or.inl (List.mem_of_getElem? (i := 0) rfl))
   have N11 := Fr.snoc X11 N10 g_w
   show oG _ _ _ _ T11 (mkF m 77 #[oR w, oI kk, oI 128] [])
   have t128 : (128 : Int32).toInt = 128 := by decide
   have hSf : own_St (128 : Int32) sz (N) := ⟨(Or.inr rfl), by omega, by omega, by omega⟩
   have F_w_size_v14 := ((F_w_size.keep Kq10 nin0).other W11 (Or.inr (slot_ne (Or.inl (oW hw 87 rfl)) (Or.inl (oW hw 73 rfl)) (by decide) (t := .int) (t' := (.array .byte)) (by decide) (by decide))))
   have q10_0'_v15 := (q10_0'.other W11 (Ne.symm ne_w_b10_0))
   exact own_retVX X11 hx hlk hrt (hb hby op81_19_77) (by rw [e11]; exact ⟨b10_0, k10_0, (128 : Int32), sz, rfl, N11, K11, (Or.inr sz_b10_0), hSf, (by decide), (by decide), F_w_size_v14, F11, q10_0'_v15, (by omega)⟩)
 · refine oS (fun t k => XS.icmpNo X2.here hx rfl (hb hby op81_19_11) rfl (flt (show ¬ ((cap - sz) < kk) from hc11_3)).2.2.1 k) ?_
   show oG _ _ _ _ T2 (mkF m 14 #[oR w, oI kk, .unset] [])
   have rn := own_roomNo hS hk hc11_3
   have hSf : own_St cap sz (N) := ⟨sc0, by omega, by omega, by omega⟩
   exact own_retVX X2 hx hlk hrt (hb hby op81_19_14) (by rw [e2]; exact ⟨b, kb, cap, sz, rfl, N0, (Keep.refl h0 [w]), bz_b, hSf, (own_fin IC0 (oB rfl)), (own_fin IS0 (oB rfl)), F_w_size, F_w_bytes, V_b, (by omega)⟩)
theorem own_ef19 (m : MethodId) (x0 : Addr) (x1 : Int32) : entryFrame m #[.ref x0, .int x1] 3 = mkF m 0 #[.val (.ref x0), .val (.int x1), .unset] [] := by first | (simp [entryFrame, mkF, argsToLocals, Value.category]; done) | rfl
theorem op81_5_0 : decode prog_81_method_5_code 0 = .ok (.aload_n 0, 1) := by decide +kernel
theorem op81_5_1 : decode prog_81_method_5_code 1 = .ok (.iconst 4, 1) := by decide +kernel
theorem op81_5_2 : decode prog_81_method_5_code 2 = .ok (.invokevirtual 18, 3) := by decide +kernel
theorem own_pd14 : parseMethodDescriptor "(I)V" = some ⟨[.int], none⟩ := by decide +kernel
theorem op81_5_5 : decode prog_81_method_5_code 5 = .ok (.bipush 24, 2) := by decide +kernel
theorem op81_5_7 : decode prog_81_method_5_code 7 = .ok (.istore_n 2, 1) := by decide +kernel
theorem op81_5_8 : decode prog_81_method_5_code 8 = .ok (.iload_n 2, 1) := by decide +kernel
theorem op81_5_9 : decode prog_81_method_5_code 9 = .ok (.ifCond .lt 29, 3) := by decide +kernel
theorem op81_5_12 : decode prog_81_method_5_code 12 = .ok (.aload_n 0, 1) := by decide +kernel
theorem op81_5_13 : decode prog_81_method_5_code 13 = .ok (.getfield 14, 3) := by decide +kernel
theorem op81_5_16 : decode prog_81_method_5_code 16 = .ok (.aload_n 0, 1) := by decide +kernel
theorem op81_5_17 : decode prog_81_method_5_code 17 = .ok (.dup, 1) := by decide +kernel
theorem op81_5_18 : decode prog_81_method_5_code 18 = .ok (.getfield 21, 3) := by decide +kernel
theorem op81_5_21 : decode prog_81_method_5_code 21 = .ok (.dup_x1, 1) := by decide +kernel
theorem op81_5_22 : decode prog_81_method_5_code 22 = .ok (.iconst 1, 1) := by decide +kernel
theorem op81_5_23 : decode prog_81_method_5_code 23 = .ok (.iadd, 1) := by decide +kernel
theorem op81_5_24 : decode prog_81_method_5_code 24 = .ok (.putfield 21, 3) := by decide +kernel
theorem op81_5_27 : decode prog_81_method_5_code 27 = .ok (.iload_n 1, 1) := by decide +kernel
theorem op81_5_28 : decode prog_81_method_5_code 28 = .ok (.iload_n 2, 1) := by decide +kernel
theorem op81_5_29 : decode prog_81_method_5_code 29 = .ok (.iushr, 1) := by decide +kernel
theorem op81_5_30 : decode prog_81_method_5_code 30 = .ok (.i2b, 1) := by decide +kernel
theorem op81_5_31 : decode prog_81_method_5_code 31 = .ok (.bastore, 1) := by decide +kernel
theorem op81_5_32 : decode prog_81_method_5_code 32 = .ok (.iinc 2 (-8), 3) := by decide +kernel
theorem op81_5_35 : decode prog_81_method_5_code 35 = .ok (.goto (-27), 3) := by decide +kernel
theorem op81_5_38 : decode prog_81_method_5_code 38 = .ok (.aload_n 0, 1) := by decide +kernel
theorem op81_5_39 : decode prog_81_method_5_code 39 = .ok (.areturn, 1) := by decide +kernel
set_option maxRecDepth 65536 in
set_option maxHeartbeats 40000000 in
theorem own_wi (l : Launch) (Z : State) (a0 : Array Value) (hw : ∀ d ∈ tables_1, d.before a0 Z = true) (ws : List Jvm.Cond) (w : Addr) (b : Addr) (kb : ClassId) (cap : Int32) (sz : Int32) (N : Int) (xv : Int32) (h0 : Heap) (n0 : Nat) (Z0 : n0 ≤ h0.size) (E_w : Exa Z h0 w "com/example/ringshift/ringshift/io/BinaryWriter") (F_w_size : Fld Z h0 w "com/example/ringshift/ringshift/io/BinaryWriter" "size" "I" (.int sz)) (F_w_bytes : Fld Z h0 w "com/example/ringshift/ringshift/io/BinaryWriter" "bytes" "[B" (.ref b)) (V_b : own_Buf Z h0 b kb cap) (hS : own_St cap sz N) (hN : N + 4 ≤ 128) (g_w : n0 ≤ w) (g_b : n0 ≤ b) (nwb : ¬ (w = b)) :
   own_MetX l Z oy16 prog_81_method_5_code 3 (some (.object "com/example/ringshift/ringshift/io/BinaryWriter")) ws ({ frames := 3, cells := 0 + own_gc cap, slots := 0 + own_gs cap, locals := 93 } : Room) #[.ref w, .int xv] h0 (fun v h L k n => ∃ (b2 : Addr) (k2 : ClassId) (cap2 sz2 : Int32), v = some (.ref w) ∧ Fr n0 L ∧ Keep h0 h [w, b] ∧ (b2 = b ∨ h0.size ≤ b2) ∧ own_St cap2 sz2 (N + 4) ∧ k + own_gc cap2 ≤ 0 + own_gc cap ∧ n + own_gs cap2 ≤ 0 + own_gs cap ∧ Fld Z h w "com/example/ringshift/ringshift/io/BinaryWriter" "size" "I" (.int sz2) ∧ Fld Z h w "com/example/ringshift/ringshift/io/BinaryWriter" "bytes" "[B" (.ref b2) ∧ own_Buf Z h b2 k2 cap2) := by
 refine own_bodyX (plainFor_of_name own_pn_com_example_ringshift_ringshift_io_BinaryWriter) (fun p e s m below meth c s₁ hx hby hml0 hrt hlk hown0 hnm hZ X0 e0 => ?_)
 have N0 := Fr.nil n0
 have hown : s.vm.findClass "com/example/ringshift/ringshift/io/BinaryWriter" = some m.cls := hown0
 have hml : c.maxLocals = 3 := hml0
 refine own_castG (own_ef19 m w xv) ?_
 have IC0 : 0 + own_gc cap ≤ 0 + own_gc cap := Nat.le_refl _
 have IS0 : 0 + own_gs cap ≤ 0 + own_gs cap := Nat.le_refl _
 have hS0 := hS
 obtain ⟨sc0, sq0, sl0, su0⟩ := hS0
 have bz_b : b = b ∨ h0.size ≤ b := Or.inl rfl
 refine oS (fun t k => XS.aloadN X0.here hx rfl (hb hby op81_5_0) rfl rfl k) ?_
 refine oS (fun t k => XS.iconst X0.here hx rfl (hb hby op81_5_1) k) ?_
 show oG _ _ _ _ s₁ (mkF m 2 #[oR w, oI xv, .unset] [.int 4, .ref w])
 have hS1 : own_St cap sz N := ⟨sc0, sq0, by omega, by omega⟩
 have hN1 : N + 4 ≤ 128 := by omega
 refine own_callPX X0 hx hZ (y := oy13) hown (oW hw 135 rfl) (oW hw 136 rfl) (oW hw 137 rfl) (oW hw 63 rfl) (oW hw 138 rfl) (oW hw 64 rfl) (by decide) 0 E_w [.int 4] [] (own_room l Z a0 hw [] w b kb cap sz N 4 4 h0 n0 Z0 E_w F_w_size F_w_bytes V_b hS1 hN1 g_w g_b nwb (by decide) (by decide)) e0  (oB rfl) (oB rfl) (own_need IC0 (oB rfl)) (own_need IS0 (oB rfl)) (g := (mkF m 2 #[oR w, oI xv, .unset] [.int 4, .ref w])) rfl (by rw [hml]; rfl) own_pd14 rfl rfl (by show 2 * 0 + _ ≤ _; exact Nat.le_of_eq rfl) (hb hby op81_5_2) ?_
 intro T2 v2 L2 xc2 xs2 X2 hQ2
 obtain ⟨b2_0, k2_0, cp2, z2, rfl, N2q, Kq2, zq2, hT2, hkC2, hkS2, q2_0, q2_1, q2_2, y2_0⟩ := hQ2
 obtain ⟨sc2, sq2, sl2, su2⟩ := hT2
 have N2 := Fr.app N0 N2q
 have K2 := (Keep.refl h0 [w, b]).trans Kq2 (allS (Or.inl (List.mem_of_getElem? (i := 0) rfl)) all0)
 have g_b2_0 : n0 ≤ b2_0 := own_sz2 zq2 g_b Z0
 have bz_b2_0 : b2_0 = b ∨ h0.size ≤ b2_0 := own_bz zq2 bz_b (Keep.refl h0 [w, b]).1
 have ne_w_b2_0 : w ≠ b2_0 := own_ne2 nwb E_w.lt zq2
 have IC2 := own_acc IC0 hkC2
 have IS2 := own_acc IS0 hkS2
 refine oS (fun t k => XS.bipush X2.here hx rfl (hb hby op81_5_5) k) ?_
 refine oS (fun t k => XS.istoreN X2.here hx rfl (hb hby op81_5_7) rfl (l' := #[oR w, oI xv, oI 24]) rfl k) ?_
 refine oS (fun t k => XS.iloadN X2.here hx rfl (hb hby op81_5_8) rfl k) ?_
 show oG _ _ _ _ T2 (mkF m 9 #[oR w, oI xv, oI 24] [.int 24])
 refine oS (fun t k => XS.ifNo X2.here hx rfl (hb hby op81_5_9) rfl ((if0 _ _).trans (flt (show ¬ ((24 : Int32) < (0 : Int32)) from (by decide))).1) k) ?_
 refine oS (fun t k => XS.aloadN X2.here hx rfl (hb hby op81_5_12) rfl rfl k) ?_
 show oG _ _ _ _ T2 (mkF m 13 #[oR w, oI xv, oI 24] [.ref w])
 obtain ⟨T3, X3, e3, st3⟩ := getF X2 hx hZ hown (host := "") (Or.inl (oW hw 72 rfl)) Via.refl rfl q2_1 (g := (mkF m 13 #[oR w, oI xv, oI 24] [.ref w])) rfl rfl (hb hby op81_5_13)
 refine oS st3 ?_
 refine oS (fun t k => XS.aloadN X3.here hx rfl (hb hby op81_5_16) rfl rfl k) ?_
 refine oS (fun t k => XS.dup X3.here hx rfl (hb hby op81_5_17) rfl rfl k) ?_
 show oG _ _ _ _ T3 (mkF m 18 #[oR w, oI xv, oI 24] [.ref w, .ref w, .ref b2_0])
 obtain ⟨T4, X4, e4, st4⟩ := getF X3 hx hZ hown (host := "") (Or.inl (oW hw 86 rfl)) Via.refl e3 q2_0 (g := (mkF m 18 #[oR w, oI xv, oI 24] [.ref w, .ref w, .ref b2_0])) rfl rfl (hb hby op81_5_18)
 refine oS st4 ?_
 show oG _ _ _ _ T4 (mkF m 21 #[oR w, oI xv, oI 24] [.int z2, .ref w, .ref b2_0])
 refine oS (fun t k => XS.dupX1 X4.here hx rfl (hb hby op81_5_21) rfl rfl rfl k) ?_
 refine oS (fun t k => XS.iconst X4.here hx rfl (hb hby op81_5_22) k) ?_
 refine oS (fun t k => XS.iadd X4.here hx rfl (hb hby op81_5_23) rfl k) ?_
 show oG _ _ _ _ T4 (mkF m 24 #[oR w, oI xv, oI 24] [(.int (z2 + (1 : Int32))), .ref w, .int z2, .ref b2_0])
 have E_w_v6 := (E_w.keep Kq2)
 obtain ⟨T5, h5, X5, e5, W5, st5⟩ := putF X4 hx hZ hown (host := "") (Or.inl (oW hw 86 rfl)) Via.refl e4 q2_0 E_w_v6 (Or.inl (oW hw 87 rfl)) (oW hw 63 rfl) (ty := .int) (by decide) rfl rfl (g := (mkF m 24 #[oR w, oI xv, oI 24] [(.int (z2 + (1 : Int32))), .ref w, .int z2, .ref b2_0])) rfl rfl (hb hby op81_5_24)
 refine oS st5 ?_
 have F5 := q2_0.same W5
 have K5 := K2.wr W5 (Or.inl (List.mem_of_getElem? (i := 0) rfl))
 have N5 := Fr.snoc X5 N2 g_w
 have ti7 : (z2 + (1 : Int32)).toInt = (N + 1) := own_addT sq2 (by decide) (by omega) (by omega)
 refine oS (fun t k => XS.iloadN X5.here hx rfl (hb hby op81_5_27) rfl k) ?_
 refine oS (fun t k => XS.iloadN X5.here hx rfl (hb hby op81_5_28) rfl k) ?_
 refine oS (fun t k => XS.iushr X5.here hx rfl (hb hby op81_5_29) rfl k) ?_
 refine oS (fun t k => XS.i2b X5.here hx rfl (hb hby op81_5_30) rfl k) ?_
 show oG _ _ _ _ T5 (mkF m 31 #[oR w, oI xv, oI 24] [(.int (((xv.toUInt32 >>> ((24 : Int32) &&& 31).toUInt32).toInt32).toInt8.toInt32)), .int z2, .ref b2_0])
 have q2_2_v9 := (q2_2.other W5 (Ne.symm ne_w_b2_0))
 obtain ⟨T8, h8, X8, e8, W8, V8, st8⟩ := own_bufStore X5 hx hZ e5 q2_2_v9 (x := (((xv.toUInt32 >>> ((24 : Int32) &&& 31).toUInt32).toInt32).toInt8.toInt32)) (j := z2) (own_bd sq2 (by omega) (by omega)) (g := (mkF m 31 #[oR w, oI xv, oI 24] [(.int (((xv.toUInt32 >>> ((24 : Int32) &&& 31).toUInt32).toInt32).toInt8.toInt32)), .int z2, .ref b2_0])) rfl rfl (hb hby op81_5_31)
 refine oS st8 ?_
 have K8 := K5.wr W8 (own_wz bz_b2_0 (List.mem_of_getElem? (i := 1) rfl))
 have N8 := Fr.snoc X8 N5 g_b2_0
 show oG _ _ _ _ T8 (mkF m 32 #[oR w, oI xv, oI 24] [])
 refine oS (fun t k => XS.iinc X8.here hx rfl (hb hby op81_5_32) rfl (l' := #[oR w, oI xv, oI 16]) rfl k) ?_
 refine oS (fun t k => XS.goto X8.here hx rfl (pc0 := 35) (pc' := 8) rfl (hb hby op81_5_35) (by decide) (by decide) k) ?_
 refine oS (fun t k => XS.iloadN X8.here hx rfl (hb hby op81_5_8) rfl k) ?_
 show oG _ _ _ _ T8 (mkF m 9 #[oR w, oI xv, oI 16] [.int 16])
 refine oS (fun t k => XS.ifNo X8.here hx rfl (hb hby op81_5_9) rfl ((if0 _ _).trans (flt (show ¬ ((16 : Int32) < (0 : Int32)) from (by decide))).1) k) ?_
 refine oS (fun t k => XS.aloadN X8.here hx rfl (hb hby op81_5_12) rfl rfl k) ?_
 show oG _ _ _ _ T8 (mkF m 13 #[oR w, oI xv, oI 16] [.ref w])
 have q2_1_v11 := ((q2_1.other W5 (Or.inr (slot_ne (Or.inl (oW hw 73 rfl)) (Or.inl (oW hw 87 rfl)) (by decide) (t := (.array .byte)) (t' := .int) (by decide) (by decide)))).other W8 (Or.inl ne_w_b2_0))
 obtain ⟨T10, X10, e10, st10⟩ := getF X8 hx hZ hown (host := "") (Or.inl (oW hw 72 rfl)) Via.refl e8 q2_1_v11 (g := (mkF m 13 #[oR w, oI xv, oI 16] [.ref w])) rfl rfl (hb hby op81_5_13)
 refine oS st10 ?_
 refine oS (fun t k => XS.aloadN X10.here hx rfl (hb hby op81_5_16) rfl rfl k) ?_
 refine oS (fun t k => XS.dup X10.here hx rfl (hb hby op81_5_17) rfl rfl k) ?_
 show oG _ _ _ _ T10 (mkF m 18 #[oR w, oI xv, oI 16] [.ref w, .ref w, .ref b2_0])
 have F5_v13 := (F5.other W8 (Or.inl ne_w_b2_0))
 obtain ⟨T12, X12, e12, st12⟩ := getF X10 hx hZ hown (host := "") (Or.inl (oW hw 86 rfl)) Via.refl e10 F5_v13 (g := (mkF m 18 #[oR w, oI xv, oI 16] [.ref w, .ref w, .ref b2_0])) rfl rfl (hb hby op81_5_18)
 refine oS st12 ?_
 show oG _ _ _ _ T12 (mkF m 21 #[oR w, oI xv, oI 16] [(.int (z2 + (1 : Int32))), .ref w, .ref b2_0])
 refine oS (fun t k => XS.dupX1 X12.here hx rfl (hb hby op81_5_21) rfl rfl rfl k) ?_
 refine oS (fun t k => XS.iconst X12.here hx rfl (hb hby op81_5_22) k) ?_
 refine oS (fun t k => XS.iadd X12.here hx rfl (hb hby op81_5_23) rfl k) ?_
 show oG _ _ _ _ T12 (mkF m 24 #[oR w, oI xv, oI 16] [(.int ((z2 + (1 : Int32)) + (1 : Int32))), .ref w, (.int (z2 + (1 : Int32))), .ref b2_0])
 have E_w_v15 := ((E_w_v6.wr W5).wr W8)
 obtain ⟨T14, h14, X14, e14, W14, st14⟩ := putF X12 hx hZ hown (host := "") (Or.inl (oW hw 86 rfl)) Via.refl e12 F5_v13 E_w_v15 (Or.inl (oW hw 87 rfl)) (oW hw 63 rfl) (ty := .int) (by decide) rfl rfl (g := (mkF m 24 #[oR w, oI xv, oI 16] [(.int ((z2 + (1 : Int32)) + (1 : Int32))), .ref w, (.int (z2 + (1 : Int32))), .ref b2_0])) rfl rfl (hb hby op81_5_24)
 refine oS st14 ?_
 have F14 := F5_v13.same W14
 have K14 := K8.wr W14 (Or.inl (List.mem_of_getElem? (i := 0) rfl))
 have N14 := Fr.snoc X14 N8 g_w
 have ti16 : ((z2 + (1 : Int32)) + (1 : Int32)).toInt = ((N + 1) + 1) := own_addT ti7 (by decide) (by omega) (by omega)
 refine oS (fun t k => XS.iloadN X14.here hx rfl (hb hby op81_5_27) rfl k) ?_
 refine oS (fun t k => XS.iloadN X14.here hx rfl (hb hby op81_5_28) rfl k) ?_
 refine oS (fun t k => XS.iushr X14.here hx rfl (hb hby op81_5_29) rfl k) ?_
 refine oS (fun t k => XS.i2b X14.here hx rfl (hb hby op81_5_30) rfl k) ?_
 show oG _ _ _ _ T14 (mkF m 31 #[oR w, oI xv, oI 16] [(.int (((xv.toUInt32 >>> ((16 : Int32) &&& 31).toUInt32).toInt32).toInt8.toInt32)), (.int (z2 + (1 : Int32))), .ref b2_0])
 have V8_v18 := (V8.other W14 (Ne.symm ne_w_b2_0))
 obtain ⟨T17, h17, X17, e17, W17, V17, st17⟩ := own_bufStore X14 hx hZ e14 V8_v18 (x := (((xv.toUInt32 >>> ((16 : Int32) &&& 31).toUInt32).toInt32).toInt8.toInt32)) (j := (z2 + (1 : Int32))) (own_bd ti7 (by omega) (by omega)) (g := (mkF m 31 #[oR w, oI xv, oI 16] [(.int (((xv.toUInt32 >>> ((16 : Int32) &&& 31).toUInt32).toInt32).toInt8.toInt32)), (.int (z2 + (1 : Int32))), .ref b2_0])) rfl rfl (hb hby op81_5_31)
 refine oS st17 ?_
 have K17 := K14.wr W17 (own_wz bz_b2_0 (List.mem_of_getElem? (i := 1) rfl))
 have N17 := Fr.snoc X17 N14 g_b2_0
 show oG _ _ _ _ T17 (mkF m 32 #[oR w, oI xv, oI 16] [])
 refine oS (fun t k => XS.iinc X17.here hx rfl (hb hby op81_5_32) rfl (l' := #[oR w, oI xv, oI 8]) rfl k) ?_
 refine oS (fun t k => XS.goto X17.here hx rfl (pc0 := 35) (pc' := 8) rfl (hb hby op81_5_35) (by decide) (by decide) k) ?_
 refine oS (fun t k => XS.iloadN X17.here hx rfl (hb hby op81_5_8) rfl k) ?_
 show oG _ _ _ _ T17 (mkF m 9 #[oR w, oI xv, oI 8] [.int 8])
 refine oS (fun t k => XS.ifNo X17.here hx rfl (hb hby op81_5_9) rfl ((if0 _ _).trans (flt (show ¬ ((8 : Int32) < (0 : Int32)) from (by decide))).1) k) ?_
 refine oS (fun t k => XS.aloadN X17.here hx rfl (hb hby op81_5_12) rfl rfl k) ?_
 show oG _ _ _ _ T17 (mkF m 13 #[oR w, oI xv, oI 8] [.ref w])
 have q2_1_v20 := ((q2_1_v11.other W14 (Or.inr (slot_ne (Or.inl (oW hw 73 rfl)) (Or.inl (oW hw 87 rfl)) (by decide) (t := (.array .byte)) (t' := .int) (by decide) (by decide)))).other W17 (Or.inl ne_w_b2_0))
 obtain ⟨T19, X19, e19, st19⟩ := getF X17 hx hZ hown (host := "") (Or.inl (oW hw 72 rfl)) Via.refl e17 q2_1_v20 (g := (mkF m 13 #[oR w, oI xv, oI 8] [.ref w])) rfl rfl (hb hby op81_5_13)
 refine oS st19 ?_
 refine oS (fun t k => XS.aloadN X19.here hx rfl (hb hby op81_5_16) rfl rfl k) ?_
 refine oS (fun t k => XS.dup X19.here hx rfl (hb hby op81_5_17) rfl rfl k) ?_
 show oG _ _ _ _ T19 (mkF m 18 #[oR w, oI xv, oI 8] [.ref w, .ref w, .ref b2_0])
 have F14_v22 := (F14.other W17 (Or.inl ne_w_b2_0))
 obtain ⟨T21, X21, e21, st21⟩ := getF X19 hx hZ hown (host := "") (Or.inl (oW hw 86 rfl)) Via.refl e19 F14_v22 (g := (mkF m 18 #[oR w, oI xv, oI 8] [.ref w, .ref w, .ref b2_0])) rfl rfl (hb hby op81_5_18)
 refine oS st21 ?_
 show oG _ _ _ _ T21 (mkF m 21 #[oR w, oI xv, oI 8] [(.int ((z2 + (1 : Int32)) + (1 : Int32))), .ref w, .ref b2_0])
 refine oS (fun t k => XS.dupX1 X21.here hx rfl (hb hby op81_5_21) rfl rfl rfl k) ?_
 refine oS (fun t k => XS.iconst X21.here hx rfl (hb hby op81_5_22) k) ?_
 refine oS (fun t k => XS.iadd X21.here hx rfl (hb hby op81_5_23) rfl k) ?_
 show oG _ _ _ _ T21 (mkF m 24 #[oR w, oI xv, oI 8] [(.int (((z2 + (1 : Int32)) + (1 : Int32)) + (1 : Int32))), .ref w, (.int ((z2 + (1 : Int32)) + (1 : Int32))), .ref b2_0])
 have E_w_v24 := ((E_w_v15.wr W14).wr W17)
 obtain ⟨T23, h23, X23, e23, W23, st23⟩ := putF X21 hx hZ hown (host := "") (Or.inl (oW hw 86 rfl)) Via.refl e21 F14_v22 E_w_v24 (Or.inl (oW hw 87 rfl)) (oW hw 63 rfl) (ty := .int) (by decide) rfl rfl (g := (mkF m 24 #[oR w, oI xv, oI 8] [(.int (((z2 + (1 : Int32)) + (1 : Int32)) + (1 : Int32))), .ref w, (.int ((z2 + (1 : Int32)) + (1 : Int32))), .ref b2_0])) rfl rfl (hb hby op81_5_24)
 refine oS st23 ?_
 have F23 := F14_v22.same W23
 have K23 := K17.wr W23 (Or.inl (List.mem_of_getElem? (i := 0) rfl))
 have N23 := Fr.snoc X23 N17 g_w
 have ti25 : (((z2 + (1 : Int32)) + (1 : Int32)) + (1 : Int32)).toInt = (((N + 1) + 1) + 1) := own_addT ti16 (by decide) (by omega) (by omega)
 refine oS (fun t k => XS.iloadN X23.here hx rfl (hb hby op81_5_27) rfl k) ?_
 refine oS (fun t k => XS.iloadN X23.here hx rfl (hb hby op81_5_28) rfl k) ?_
 refine oS (fun t k => XS.iushr X23.here hx rfl (hb hby op81_5_29) rfl k) ?_
 refine oS (fun t k => XS.i2b X23.here hx rfl (hb hby op81_5_30) rfl k) ?_
 show oG _ _ _ _ T23 (mkF m 31 #[oR w, oI xv, oI 8] [(.int (((xv.toUInt32 >>> ((8 : Int32) &&& 31).toUInt32).toInt32).toInt8.toInt32)), (.int ((z2 + (1 : Int32)) + (1 : Int32))), .ref b2_0])
 have V17_v27 := (V17.other W23 (Ne.symm ne_w_b2_0))
 obtain ⟨T26, h26, X26, e26, W26, V26, st26⟩ := own_bufStore X23 hx hZ e23 V17_v27 (x := (((xv.toUInt32 >>> ((8 : Int32) &&& 31).toUInt32).toInt32).toInt8.toInt32)) (j := ((z2 + (1 : Int32)) + (1 : Int32))) (own_bd ti16 (by omega) (by omega)) (g := (mkF m 31 #[oR w, oI xv, oI 8] [(.int (((xv.toUInt32 >>> ((8 : Int32) &&& 31).toUInt32).toInt32).toInt8.toInt32)), (.int ((z2 + (1 : Int32)) + (1 : Int32))), .ref b2_0])) rfl rfl (hb hby op81_5_31)
 refine oS st26 ?_
 have K26 := K23.wr W26 (own_wz bz_b2_0 (List.mem_of_getElem? (i := 1) rfl))
 have N26 := Fr.snoc X26 N23 g_b2_0
 show oG _ _ _ _ T26 (mkF m 32 #[oR w, oI xv, oI 8] [])
 refine oS (fun t k => XS.iinc X26.here hx rfl (hb hby op81_5_32) rfl (l' := #[oR w, oI xv, oI 0]) rfl k) ?_
 refine oS (fun t k => XS.goto X26.here hx rfl (pc0 := 35) (pc' := 8) rfl (hb hby op81_5_35) (by decide) (by decide) k) ?_
 refine oS (fun t k => XS.iloadN X26.here hx rfl (hb hby op81_5_8) rfl k) ?_
 show oG _ _ _ _ T26 (mkF m 9 #[oR w, oI xv, oI 0] [.int 0])
 refine oS (fun t k => XS.ifNo X26.here hx rfl (hb hby op81_5_9) rfl ((if0 _ _).trans (flt (show ¬ ((0 : Int32) < (0 : Int32)) from (by decide))).1) k) ?_
 refine oS (fun t k => XS.aloadN X26.here hx rfl (hb hby op81_5_12) rfl rfl k) ?_
 show oG _ _ _ _ T26 (mkF m 13 #[oR w, oI xv, oI 0] [.ref w])
 have q2_1_v29 := ((q2_1_v20.other W23 (Or.inr (slot_ne (Or.inl (oW hw 73 rfl)) (Or.inl (oW hw 87 rfl)) (by decide) (t := (.array .byte)) (t' := .int) (by decide) (by decide)))).other W26 (Or.inl ne_w_b2_0))
 obtain ⟨T28, X28, e28, st28⟩ := getF X26 hx hZ hown (host := "") (Or.inl (oW hw 72 rfl)) Via.refl e26 q2_1_v29 (g := (mkF m 13 #[oR w, oI xv, oI 0] [.ref w])) rfl rfl (hb hby op81_5_13)
 refine oS st28 ?_
 refine oS (fun t k => XS.aloadN X28.here hx rfl (hb hby op81_5_16) rfl rfl k) ?_
 refine oS (fun t k => XS.dup X28.here hx rfl (hb hby op81_5_17) rfl rfl k) ?_
 show oG _ _ _ _ T28 (mkF m 18 #[oR w, oI xv, oI 0] [.ref w, .ref w, .ref b2_0])
 have F23_v31 := (F23.other W26 (Or.inl ne_w_b2_0))
 obtain ⟨T30, X30, e30, st30⟩ := getF X28 hx hZ hown (host := "") (Or.inl (oW hw 86 rfl)) Via.refl e28 F23_v31 (g := (mkF m 18 #[oR w, oI xv, oI 0] [.ref w, .ref w, .ref b2_0])) rfl rfl (hb hby op81_5_18)
 refine oS st30 ?_
 show oG _ _ _ _ T30 (mkF m 21 #[oR w, oI xv, oI 0] [(.int (((z2 + (1 : Int32)) + (1 : Int32)) + (1 : Int32))), .ref w, .ref b2_0])
 refine oS (fun t k => XS.dupX1 X30.here hx rfl (hb hby op81_5_21) rfl rfl rfl k) ?_
 refine oS (fun t k => XS.iconst X30.here hx rfl (hb hby op81_5_22) k) ?_
 refine oS (fun t k => XS.iadd X30.here hx rfl (hb hby op81_5_23) rfl k) ?_
 show oG _ _ _ _ T30 (mkF m 24 #[oR w, oI xv, oI 0] [(.int ((((z2 + (1 : Int32)) + (1 : Int32)) + (1 : Int32)) + (1 : Int32))), .ref w, (.int (((z2 + (1 : Int32)) + (1 : Int32)) + (1 : Int32))), .ref b2_0])
 have E_w_v33 := ((E_w_v24.wr W23).wr W26)
 obtain ⟨T32, h32, X32, e32, W32, st32⟩ := putF X30 hx hZ hown (host := "") (Or.inl (oW hw 86 rfl)) Via.refl e30 F23_v31 E_w_v33 (Or.inl (oW hw 87 rfl)) (oW hw 63 rfl) (ty := .int) (by decide) rfl rfl (g := (mkF m 24 #[oR w, oI xv, oI 0] [(.int ((((z2 + (1 : Int32)) + (1 : Int32)) + (1 : Int32)) + (1 : Int32))), .ref w, (.int (((z2 + (1 : Int32)) + (1 : Int32)) + (1 : Int32))), .ref b2_0])) rfl rfl (hb hby op81_5_24)
 refine oS st32 ?_
 have F32 := F23_v31.same W32
 have K32 := K26.wr W32 (Or.inl (List.mem_of_getElem? (i := 0) rfl))
 have N32 := Fr.snoc X32 N26 g_w
 have ti34 : ((((z2 + (1 : Int32)) + (1 : Int32)) + (1 : Int32)) + (1 : Int32)).toInt = ((((N + 1) + 1) + 1) + 1) := own_addT ti25 (by decide) (by omega) (by omega)
 refine oS (fun t k => XS.iloadN X32.here hx rfl (hb hby op81_5_27) rfl k) ?_
 refine oS (fun t k => XS.iloadN X32.here hx rfl (hb hby op81_5_28) rfl k) ?_
 refine oS (fun t k => XS.iushr X32.here hx rfl (hb hby op81_5_29) rfl k) ?_
 refine oS (fun t k => XS.i2b X32.here hx rfl (hb hby op81_5_30) rfl k) ?_
 show oG _ _ _ _ T32 (mkF m 31 #[oR w, oI xv, oI 0] [(.int (((xv.toUInt32 >>> ((0 : Int32) &&& 31).toUInt32).toInt32).toInt8.toInt32)), (.int (((z2 + (1 : Int32)) + (1 : Int32)) + (1 : Int32))), .ref b2_0])
 have V26_v36 := (V26.other W32 (Ne.symm ne_w_b2_0))
 obtain ⟨T35, h35, X35, e35, W35, V35, st35⟩ := own_bufStore X32 hx hZ e32 V26_v36 (x := (((xv.toUInt32 >>> ((0 : Int32) &&& 31).toUInt32).toInt32).toInt8.toInt32)) (j := (((z2 + (1 : Int32)) + (1 : Int32)) + (1 : Int32))) (own_bd ti25 (by omega) (by omega)) (g := (mkF m 31 #[oR w, oI xv, oI 0] [(.int (((xv.toUInt32 >>> ((0 : Int32) &&& 31).toUInt32).toInt32).toInt8.toInt32)), (.int (((z2 + (1 : Int32)) + (1 : Int32)) + (1 : Int32))), .ref b2_0])) rfl rfl (hb hby op81_5_31)
 refine oS st35 ?_
 have K35 := K32.wr W35 (own_wz bz_b2_0 (List.mem_of_getElem? (i := 1) rfl))
 have N35 := Fr.snoc X35 N32 g_b2_0
 show oG _ _ _ _ T35 (mkF m 32 #[oR w, oI xv, oI 0] [])
 refine oS (fun t k => XS.iinc X35.here hx rfl (hb hby op81_5_32) rfl (l' := #[oR w, oI xv, oI (-8 : Int32)]) rfl k) ?_
 refine oS (fun t k => XS.goto X35.here hx rfl (pc0 := 35) (pc' := 8) rfl (hb hby op81_5_35) (by decide) (by decide) k) ?_
 refine oS (fun t k => XS.iloadN X35.here hx rfl (hb hby op81_5_8) rfl k) ?_
 show oG _ _ _ _ T35 (mkF m 9 #[oR w, oI xv, oI (-8 : Int32)] [(.int (-8 : Int32))])
 refine oS (fun t k => XS.ifYes X35.here hx rfl (pc0 := 9) (pc' := 38) rfl (hb hby op81_5_9) rfl ((if0 _ _).trans (tlt (show (-8 : Int32) < (0 : Int32) from (by decide))).1) (by decide) (by decide) k) ?_
 refine oS (fun t k => XS.aloadN X35.here hx rfl (hb hby op81_5_38) rfl rfl k) ?_
 show oG _ _ _ _ T35 (mkF m 39 #[oR w, oI xv, oI (-8 : Int32)] [.ref w])
 have hSf : own_St cp2 ((((z2 + (1 : Int32)) + (1 : Int32)) + (1 : Int32)) + (1 : Int32)) (N + 4) := ⟨sc2, by omega, by omega, by omega⟩
 have F32_v37 := (F32.other W35 (Or.inl ne_w_b2_0))
 have q2_1_v38 := ((q2_1_v29.other W32 (Or.inr (slot_ne (Or.inl (oW hw 73 rfl)) (Or.inl (oW hw 87 rfl)) (by decide) (t := (.array .byte)) (t' := .int) (by decide) (by decide)))).other W35 (Or.inl ne_w_b2_0))
 exact own_retAX X35 hx hlk hrt rfl rfl rfl (hb hby op81_5_39) (by rw [e35]; exact ⟨b2_0, k2_0, cp2, ((((z2 + (1 : Int32)) + (1 : Int32)) + (1 : Int32)) + (1 : Int32)), rfl, N35, K35, bz_b2_0, hSf, (own_fin IC2 (oB rfl)), (own_fin IS2 (oB rfl)), F32_v37, q2_1_v38, V35⟩)
theorem own_ef20 (m : MethodId) (x0 : Addr) (x1 : Int64) : entryFrame m #[.ref x0, (.long x1)] 4 = mkF m 0 #[.val (.ref x0), .val (.long x1), .second, .unset] [] := by first | (simp [entryFrame, mkF, argsToLocals, Value.category]; done) | rfl
theorem op81_6_0 : decode prog_81_method_6_code 0 = .ok (.aload_n 0, 1) := by decide +kernel
theorem op81_6_1 : decode prog_81_method_6_code 1 = .ok (.bipush 8, 2) := by decide +kernel
theorem op81_6_3 : decode prog_81_method_6_code 3 = .ok (.invokevirtual 18, 3) := by decide +kernel
theorem op81_6_6 : decode prog_81_method_6_code 6 = .ok (.bipush 56, 2) := by decide +kernel
theorem op81_6_8 : decode prog_81_method_6_code 8 = .ok (.istore_n 3, 1) := by decide +kernel
theorem op81_6_9 : decode prog_81_method_6_code 9 = .ok (.iload_n 3, 1) := by decide +kernel
theorem op81_6_10 : decode prog_81_method_6_code 10 = .ok (.ifCond .lt 30, 3) := by decide +kernel
theorem op81_6_13 : decode prog_81_method_6_code 13 = .ok (.aload_n 0, 1) := by decide +kernel
theorem op81_6_14 : decode prog_81_method_6_code 14 = .ok (.getfield 14, 3) := by decide +kernel
theorem op81_6_17 : decode prog_81_method_6_code 17 = .ok (.aload_n 0, 1) := by decide +kernel
theorem op81_6_18 : decode prog_81_method_6_code 18 = .ok (.dup, 1) := by decide +kernel
theorem op81_6_19 : decode prog_81_method_6_code 19 = .ok (.getfield 21, 3) := by decide +kernel
theorem op81_6_22 : decode prog_81_method_6_code 22 = .ok (.dup_x1, 1) := by decide +kernel
theorem op81_6_23 : decode prog_81_method_6_code 23 = .ok (.iconst 1, 1) := by decide +kernel
theorem op81_6_24 : decode prog_81_method_6_code 24 = .ok (.iadd, 1) := by decide +kernel
theorem op81_6_25 : decode prog_81_method_6_code 25 = .ok (.putfield 21, 3) := by decide +kernel
theorem op81_6_28 : decode prog_81_method_6_code 28 = .ok (.lload_n 1, 1) := by decide +kernel
theorem op81_6_29 : decode prog_81_method_6_code 29 = .ok (.iload_n 3, 1) := by decide +kernel
theorem op81_6_30 : decode prog_81_method_6_code 30 = .ok (.lushr, 1) := by decide +kernel
theorem op81_6_31 : decode prog_81_method_6_code 31 = .ok (.l2i, 1) := by decide +kernel
theorem op81_6_32 : decode prog_81_method_6_code 32 = .ok (.i2b, 1) := by decide +kernel
theorem op81_6_33 : decode prog_81_method_6_code 33 = .ok (.bastore, 1) := by decide +kernel
theorem op81_6_34 : decode prog_81_method_6_code 34 = .ok (.iinc 3 (-8), 3) := by decide +kernel
theorem op81_6_37 : decode prog_81_method_6_code 37 = .ok (.goto (-28), 3) := by decide +kernel
theorem op81_6_40 : decode prog_81_method_6_code 40 = .ok (.aload_n 0, 1) := by decide +kernel
theorem op81_6_41 : decode prog_81_method_6_code 41 = .ok (.areturn, 1) := by decide +kernel
set_option maxRecDepth 65536 in
set_option maxHeartbeats 40000000 in
theorem own_wl (l : Launch) (Z : State) (a0 : Array Value) (hw : ∀ d ∈ tables_1, d.before a0 Z = true) (ws : List Jvm.Cond) (w : Addr) (b : Addr) (kb : ClassId) (cap : Int32) (sz : Int32) (N : Int) (xl : Int64) (h0 : Heap) (n0 : Nat) (Z0 : n0 ≤ h0.size) (E_w : Exa Z h0 w "com/example/ringshift/ringshift/io/BinaryWriter") (F_w_size : Fld Z h0 w "com/example/ringshift/ringshift/io/BinaryWriter" "size" "I" (.int sz)) (F_w_bytes : Fld Z h0 w "com/example/ringshift/ringshift/io/BinaryWriter" "bytes" "[B" (.ref b)) (V_b : own_Buf Z h0 b kb cap) (hS : own_St cap sz N) (hN : N + 8 ≤ 128) (g_w : n0 ≤ w) (g_b : n0 ≤ b) (nwb : ¬ (w = b)) :
   own_MetX l Z oy17 prog_81_method_6_code 4 (some (.object "com/example/ringshift/ringshift/io/BinaryWriter")) ws ({ frames := 3, cells := 0 + own_gc cap, slots := 0 + own_gs cap, locals := 93 } : Room) #[.ref w, (.long xl)] h0 (fun v h L k n => ∃ (b2 : Addr) (k2 : ClassId) (cap2 sz2 : Int32), v = some (.ref w) ∧ Fr n0 L ∧ Keep h0 h [w, b] ∧ (b2 = b ∨ h0.size ≤ b2) ∧ own_St cap2 sz2 (N + 8) ∧ k + own_gc cap2 ≤ 0 + own_gc cap ∧ n + own_gs cap2 ≤ 0 + own_gs cap ∧ Fld Z h w "com/example/ringshift/ringshift/io/BinaryWriter" "size" "I" (.int sz2) ∧ Fld Z h w "com/example/ringshift/ringshift/io/BinaryWriter" "bytes" "[B" (.ref b2) ∧ own_Buf Z h b2 k2 cap2) := by
 refine own_bodyX (plainFor_of_name own_pn_com_example_ringshift_ringshift_io_BinaryWriter) (fun p e s m below meth c s₁ hx hby hml0 hrt hlk hown0 hnm hZ X0 e0 => ?_)
 have N0 := Fr.nil n0
 have hown : s.vm.findClass "com/example/ringshift/ringshift/io/BinaryWriter" = some m.cls := hown0
 have hml : c.maxLocals = 4 := hml0
 refine own_castG (own_ef20 m w xl) ?_
 have IC0 : 0 + own_gc cap ≤ 0 + own_gc cap := Nat.le_refl _
 have IS0 : 0 + own_gs cap ≤ 0 + own_gs cap := Nat.le_refl _
 have hS0 := hS
 obtain ⟨sc0, sq0, sl0, su0⟩ := hS0
 have bz_b : b = b ∨ h0.size ≤ b := Or.inl rfl
 refine oS (fun t k => XS.aloadN X0.here hx rfl (hb hby op81_6_0) rfl rfl k) ?_
 refine oS (fun t k => XS.bipush X0.here hx rfl (hb hby op81_6_1) k) ?_
 show oG _ _ _ _ s₁ (mkF m 3 #[oR w, .val (.long xl), .second, .unset] [.int 8, .ref w])
 have hS1 : own_St cap sz N := ⟨sc0, sq0, by omega, by omega⟩
 have hN1 : N + 8 ≤ 128 := by omega
 refine own_callPX X0 hx hZ (y := oy13) hown (oW hw 135 rfl) (oW hw 136 rfl) (oW hw 137 rfl) (oW hw 63 rfl) (oW hw 138 rfl) (oW hw 64 rfl) (by decide) 0 E_w [.int 8] [] (own_room l Z a0 hw [] w b kb cap sz N 8 8 h0 n0 Z0 E_w F_w_size F_w_bytes V_b hS1 hN1 g_w g_b nwb (by decide) (by decide)) e0  (oB rfl) (oB rfl) (own_need IC0 (oB rfl)) (own_need IS0 (oB rfl)) (g := (mkF m 3 #[oR w, .val (.long xl), .second, .unset] [.int 8, .ref w])) rfl (by rw [hml]; rfl) own_pd14 rfl rfl (by show 2 * 0 + _ ≤ _; exact Nat.le_of_eq rfl) (hb hby op81_6_3) ?_
 intro T2 v2 L2 xc2 xs2 X2 hQ2
 obtain ⟨b2_0, k2_0, cp2, z2, rfl, N2q, Kq2, zq2, hT2, hkC2, hkS2, q2_0, q2_1, q2_2, y2_0⟩ := hQ2
 obtain ⟨sc2, sq2, sl2, su2⟩ := hT2
 have N2 := Fr.app N0 N2q
 have K2 := (Keep.refl h0 [w, b]).trans Kq2 (allS (Or.inl (List.mem_of_getElem? (i := 0) rfl)) all0)
 have g_b2_0 : n0 ≤ b2_0 := own_sz2 zq2 g_b Z0
 have bz_b2_0 : b2_0 = b ∨ h0.size ≤ b2_0 := own_bz zq2 bz_b (Keep.refl h0 [w, b]).1
 have ne_w_b2_0 : w ≠ b2_0 := own_ne2 nwb E_w.lt zq2
 have IC2 := own_acc IC0 hkC2
 have IS2 := own_acc IS0 hkS2
 refine oS (fun t k => XS.bipush X2.here hx rfl (hb hby op81_6_6) k) ?_
 refine oS (fun t k => XS.istoreN X2.here hx rfl (hb hby op81_6_8) rfl (l' := #[oR w, .val (.long xl), .second, oI 56]) rfl k) ?_
 refine oS (fun t k => XS.iloadN X2.here hx rfl (hb hby op81_6_9) rfl k) ?_
 show oG _ _ _ _ T2 (mkF m 10 #[oR w, .val (.long xl), .second, oI 56] [.int 56])
 refine oS (fun t k => XS.ifNo X2.here hx rfl (hb hby op81_6_10) rfl ((if0 _ _).trans (flt (show ¬ ((56 : Int32) < (0 : Int32)) from (by decide))).1) k) ?_
 refine oS (fun t k => XS.aloadN X2.here hx rfl (hb hby op81_6_13) rfl rfl k) ?_
 show oG _ _ _ _ T2 (mkF m 14 #[oR w, .val (.long xl), .second, oI 56] [.ref w])
 obtain ⟨T3, X3, e3, st3⟩ := getF X2 hx hZ hown (host := "") (Or.inl (oW hw 72 rfl)) Via.refl rfl q2_1 (g := (mkF m 14 #[oR w, .val (.long xl), .second, oI 56] [.ref w])) rfl rfl (hb hby op81_6_14)
 refine oS st3 ?_
 refine oS (fun t k => XS.aloadN X3.here hx rfl (hb hby op81_6_17) rfl rfl k) ?_
 refine oS (fun t k => XS.dup X3.here hx rfl (hb hby op81_6_18) rfl rfl k) ?_
 show oG _ _ _ _ T3 (mkF m 19 #[oR w, .val (.long xl), .second, oI 56] [.ref w, .ref w, .ref b2_0])
 obtain ⟨T4, X4, e4, st4⟩ := getF X3 hx hZ hown (host := "") (Or.inl (oW hw 86 rfl)) Via.refl e3 q2_0 (g := (mkF m 19 #[oR w, .val (.long xl), .second, oI 56] [.ref w, .ref w, .ref b2_0])) rfl rfl (hb hby op81_6_19)
 refine oS st4 ?_
 show oG _ _ _ _ T4 (mkF m 22 #[oR w, .val (.long xl), .second, oI 56] [.int z2, .ref w, .ref b2_0])
 refine oS (fun t k => XS.dupX1 X4.here hx rfl (hb hby op81_6_22) rfl rfl rfl k) ?_
 refine oS (fun t k => XS.iconst X4.here hx rfl (hb hby op81_6_23) k) ?_
 refine oS (fun t k => XS.iadd X4.here hx rfl (hb hby op81_6_24) rfl k) ?_
 show oG _ _ _ _ T4 (mkF m 25 #[oR w, .val (.long xl), .second, oI 56] [(.int (z2 + (1 : Int32))), .ref w, .int z2, .ref b2_0])
 have E_w_v6 := (E_w.keep Kq2)
 obtain ⟨T5, h5, X5, e5, W5, st5⟩ := putF X4 hx hZ hown (host := "") (Or.inl (oW hw 86 rfl)) Via.refl e4 q2_0 E_w_v6 (Or.inl (oW hw 87 rfl)) (oW hw 63 rfl) (ty := .int) (by decide) rfl rfl (g := (mkF m 25 #[oR w, .val (.long xl), .second, oI 56] [(.int (z2 + (1 : Int32))), .ref w, .int z2, .ref b2_0])) rfl rfl (hb hby op81_6_25)
 refine oS st5 ?_
 have F5 := q2_0.same W5
 have K5 := K2.wr W5 (Or.inl (List.mem_of_getElem? (i := 0) rfl))
 have N5 := Fr.snoc X5 N2 g_w
 have ti7 : (z2 + (1 : Int32)).toInt = (N + 1) := own_addT sq2 (by decide) (by omega) (by omega)
 refine oS (fun t k => XS.lloadN X5.here hx rfl (hb hby op81_6_28) rfl k) ?_
 refine oS (fun t k => XS.iloadN X5.here hx rfl (hb hby op81_6_29) rfl k) ?_
 show oG _ _ _ _ T5 (mkF m 30 #[oR w, .val (.long xl), .second, oI 56] [.int 56, (.long xl), .int z2, .ref b2_0])
 refine oS (fun t k => XS.lushr X5.here hx rfl (hb hby op81_6_30) rfl k) ?_
 show oG _ _ _ _ T5 (mkF m 31 #[oR w, .val (.long xl), .second, oI 56] [(.long ((xl.toUInt64 >>> ((56 : Int32) &&& 0x3f).toInt64.toUInt64).toInt64)), .int z2, .ref b2_0])
 refine oS (fun t k => XS.l2i X5.here hx rfl (hb hby op81_6_31) rfl k) ?_
 refine oS (fun t k => XS.i2b X5.here hx rfl (hb hby op81_6_32) rfl k) ?_
 show oG _ _ _ _ T5 (mkF m 33 #[oR w, .val (.long xl), .second, oI 56] [(.int ((((xl.toUInt64 >>> ((56 : Int32) &&& 0x3f).toInt64.toUInt64).toInt64).toInt32).toInt8.toInt32)), .int z2, .ref b2_0])
 have q2_2_v9 := (q2_2.other W5 (Ne.symm ne_w_b2_0))
 obtain ⟨T8, h8, X8, e8, W8, V8, st8⟩ := own_bufStore X5 hx hZ e5 q2_2_v9 (x := ((((xl.toUInt64 >>> ((56 : Int32) &&& 0x3f).toInt64.toUInt64).toInt64).toInt32).toInt8.toInt32)) (j := z2) (own_bd sq2 (by omega) (by omega)) (g := (mkF m 33 #[oR w, .val (.long xl), .second, oI 56] [(.int ((((xl.toUInt64 >>> ((56 : Int32) &&& 0x3f).toInt64.toUInt64).toInt64).toInt32).toInt8.toInt32)), .int z2, .ref b2_0])) rfl rfl (hb hby op81_6_33)
 refine oS st8 ?_
 have K8 := K5.wr W8 (own_wz bz_b2_0 (List.mem_of_getElem? (i := 1) rfl))
 have N8 := Fr.snoc X8 N5 g_b2_0
 show oG _ _ _ _ T8 (mkF m 34 #[oR w, .val (.long xl), .second, oI 56] [])
 refine oS (fun t k => XS.iinc X8.here hx rfl (hb hby op81_6_34) rfl (l' := #[oR w, .val (.long xl), .second, oI 48]) rfl k) ?_
 refine oS (fun t k => XS.goto X8.here hx rfl (pc0 := 37) (pc' := 9) rfl (hb hby op81_6_37) (by decide) (by decide) k) ?_
 refine oS (fun t k => XS.iloadN X8.here hx rfl (hb hby op81_6_9) rfl k) ?_
 show oG _ _ _ _ T8 (mkF m 10 #[oR w, .val (.long xl), .second, oI 48] [.int 48])
 refine oS (fun t k => XS.ifNo X8.here hx rfl (hb hby op81_6_10) rfl ((if0 _ _).trans (flt (show ¬ ((48 : Int32) < (0 : Int32)) from (by decide))).1) k) ?_
 refine oS (fun t k => XS.aloadN X8.here hx rfl (hb hby op81_6_13) rfl rfl k) ?_
 show oG _ _ _ _ T8 (mkF m 14 #[oR w, .val (.long xl), .second, oI 48] [.ref w])
 have q2_1_v11 := ((q2_1.other W5 (Or.inr (slot_ne (Or.inl (oW hw 73 rfl)) (Or.inl (oW hw 87 rfl)) (by decide) (t := (.array .byte)) (t' := .int) (by decide) (by decide)))).other W8 (Or.inl ne_w_b2_0))
 obtain ⟨T10, X10, e10, st10⟩ := getF X8 hx hZ hown (host := "") (Or.inl (oW hw 72 rfl)) Via.refl e8 q2_1_v11 (g := (mkF m 14 #[oR w, .val (.long xl), .second, oI 48] [.ref w])) rfl rfl (hb hby op81_6_14)
 refine oS st10 ?_
 refine oS (fun t k => XS.aloadN X10.here hx rfl (hb hby op81_6_17) rfl rfl k) ?_
 refine oS (fun t k => XS.dup X10.here hx rfl (hb hby op81_6_18) rfl rfl k) ?_
 show oG _ _ _ _ T10 (mkF m 19 #[oR w, .val (.long xl), .second, oI 48] [.ref w, .ref w, .ref b2_0])
 have F5_v13 := (F5.other W8 (Or.inl ne_w_b2_0))
 obtain ⟨T12, X12, e12, st12⟩ := getF X10 hx hZ hown (host := "") (Or.inl (oW hw 86 rfl)) Via.refl e10 F5_v13 (g := (mkF m 19 #[oR w, .val (.long xl), .second, oI 48] [.ref w, .ref w, .ref b2_0])) rfl rfl (hb hby op81_6_19)
 refine oS st12 ?_
 show oG _ _ _ _ T12 (mkF m 22 #[oR w, .val (.long xl), .second, oI 48] [(.int (z2 + (1 : Int32))), .ref w, .ref b2_0])
 refine oS (fun t k => XS.dupX1 X12.here hx rfl (hb hby op81_6_22) rfl rfl rfl k) ?_
 refine oS (fun t k => XS.iconst X12.here hx rfl (hb hby op81_6_23) k) ?_
 refine oS (fun t k => XS.iadd X12.here hx rfl (hb hby op81_6_24) rfl k) ?_
 show oG _ _ _ _ T12 (mkF m 25 #[oR w, .val (.long xl), .second, oI 48] [(.int ((z2 + (1 : Int32)) + (1 : Int32))), .ref w, (.int (z2 + (1 : Int32))), .ref b2_0])
 have E_w_v15 := ((E_w_v6.wr W5).wr W8)
 obtain ⟨T14, h14, X14, e14, W14, st14⟩ := putF X12 hx hZ hown (host := "") (Or.inl (oW hw 86 rfl)) Via.refl e12 F5_v13 E_w_v15 (Or.inl (oW hw 87 rfl)) (oW hw 63 rfl) (ty := .int) (by decide) rfl rfl (g := (mkF m 25 #[oR w, .val (.long xl), .second, oI 48] [(.int ((z2 + (1 : Int32)) + (1 : Int32))), .ref w, (.int (z2 + (1 : Int32))), .ref b2_0])) rfl rfl (hb hby op81_6_25)
 refine oS st14 ?_
 have F14 := F5_v13.same W14
 have K14 := K8.wr W14 (Or.inl (List.mem_of_getElem? (i := 0) rfl))
 have N14 := Fr.snoc X14 N8 g_w
 have ti16 : ((z2 + (1 : Int32)) + (1 : Int32)).toInt = ((N + 1) + 1) := own_addT ti7 (by decide) (by omega) (by omega)
 refine oS (fun t k => XS.lloadN X14.here hx rfl (hb hby op81_6_28) rfl k) ?_
 refine oS (fun t k => XS.iloadN X14.here hx rfl (hb hby op81_6_29) rfl k) ?_
 show oG _ _ _ _ T14 (mkF m 30 #[oR w, .val (.long xl), .second, oI 48] [.int 48, (.long xl), (.int (z2 + (1 : Int32))), .ref b2_0])
 refine oS (fun t k => XS.lushr X14.here hx rfl (hb hby op81_6_30) rfl k) ?_
 show oG _ _ _ _ T14 (mkF m 31 #[oR w, .val (.long xl), .second, oI 48] [(.long ((xl.toUInt64 >>> ((48 : Int32) &&& 0x3f).toInt64.toUInt64).toInt64)), (.int (z2 + (1 : Int32))), .ref b2_0])
 refine oS (fun t k => XS.l2i X14.here hx rfl (hb hby op81_6_31) rfl k) ?_
 refine oS (fun t k => XS.i2b X14.here hx rfl (hb hby op81_6_32) rfl k) ?_
 show oG _ _ _ _ T14 (mkF m 33 #[oR w, .val (.long xl), .second, oI 48] [(.int ((((xl.toUInt64 >>> ((48 : Int32) &&& 0x3f).toInt64.toUInt64).toInt64).toInt32).toInt8.toInt32)), (.int (z2 + (1 : Int32))), .ref b2_0])
 have V8_v18 := (V8.other W14 (Ne.symm ne_w_b2_0))
 obtain ⟨T17, h17, X17, e17, W17, V17, st17⟩ := own_bufStore X14 hx hZ e14 V8_v18 (x := ((((xl.toUInt64 >>> ((48 : Int32) &&& 0x3f).toInt64.toUInt64).toInt64).toInt32).toInt8.toInt32)) (j := (z2 + (1 : Int32))) (own_bd ti7 (by omega) (by omega)) (g := (mkF m 33 #[oR w, .val (.long xl), .second, oI 48] [(.int ((((xl.toUInt64 >>> ((48 : Int32) &&& 0x3f).toInt64.toUInt64).toInt64).toInt32).toInt8.toInt32)), (.int (z2 + (1 : Int32))), .ref b2_0])) rfl rfl (hb hby op81_6_33)
 refine oS st17 ?_
 have K17 := K14.wr W17 (own_wz bz_b2_0 (List.mem_of_getElem? (i := 1) rfl))
 have N17 := Fr.snoc X17 N14 g_b2_0
 show oG _ _ _ _ T17 (mkF m 34 #[oR w, .val (.long xl), .second, oI 48] [])
 refine oS (fun t k => XS.iinc X17.here hx rfl (hb hby op81_6_34) rfl (l' := #[oR w, .val (.long xl), .second, oI 40]) rfl k) ?_
 refine oS (fun t k => XS.goto X17.here hx rfl (pc0 := 37) (pc' := 9) rfl (hb hby op81_6_37) (by decide) (by decide) k) ?_
 refine oS (fun t k => XS.iloadN X17.here hx rfl (hb hby op81_6_9) rfl k) ?_
 show oG _ _ _ _ T17 (mkF m 10 #[oR w, .val (.long xl), .second, oI 40] [.int 40])
 refine oS (fun t k => XS.ifNo X17.here hx rfl (hb hby op81_6_10) rfl ((if0 _ _).trans (flt (show ¬ ((40 : Int32) < (0 : Int32)) from (by decide))).1) k) ?_
 refine oS (fun t k => XS.aloadN X17.here hx rfl (hb hby op81_6_13) rfl rfl k) ?_
 show oG _ _ _ _ T17 (mkF m 14 #[oR w, .val (.long xl), .second, oI 40] [.ref w])
 have q2_1_v20 := ((q2_1_v11.other W14 (Or.inr (slot_ne (Or.inl (oW hw 73 rfl)) (Or.inl (oW hw 87 rfl)) (by decide) (t := (.array .byte)) (t' := .int) (by decide) (by decide)))).other W17 (Or.inl ne_w_b2_0))
 obtain ⟨T19, X19, e19, st19⟩ := getF X17 hx hZ hown (host := "") (Or.inl (oW hw 72 rfl)) Via.refl e17 q2_1_v20 (g := (mkF m 14 #[oR w, .val (.long xl), .second, oI 40] [.ref w])) rfl rfl (hb hby op81_6_14)
 refine oS st19 ?_
 refine oS (fun t k => XS.aloadN X19.here hx rfl (hb hby op81_6_17) rfl rfl k) ?_
 refine oS (fun t k => XS.dup X19.here hx rfl (hb hby op81_6_18) rfl rfl k) ?_
 show oG _ _ _ _ T19 (mkF m 19 #[oR w, .val (.long xl), .second, oI 40] [.ref w, .ref w, .ref b2_0])
 have F14_v22 := (F14.other W17 (Or.inl ne_w_b2_0))
 obtain ⟨T21, X21, e21, st21⟩ := getF X19 hx hZ hown (host := "") (Or.inl (oW hw 86 rfl)) Via.refl e19 F14_v22 (g := (mkF m 19 #[oR w, .val (.long xl), .second, oI 40] [.ref w, .ref w, .ref b2_0])) rfl rfl (hb hby op81_6_19)
 refine oS st21 ?_
 show oG _ _ _ _ T21 (mkF m 22 #[oR w, .val (.long xl), .second, oI 40] [(.int ((z2 + (1 : Int32)) + (1 : Int32))), .ref w, .ref b2_0])
 refine oS (fun t k => XS.dupX1 X21.here hx rfl (hb hby op81_6_22) rfl rfl rfl k) ?_
 refine oS (fun t k => XS.iconst X21.here hx rfl (hb hby op81_6_23) k) ?_
 refine oS (fun t k => XS.iadd X21.here hx rfl (hb hby op81_6_24) rfl k) ?_
 show oG _ _ _ _ T21 (mkF m 25 #[oR w, .val (.long xl), .second, oI 40] [(.int (((z2 + (1 : Int32)) + (1 : Int32)) + (1 : Int32))), .ref w, (.int ((z2 + (1 : Int32)) + (1 : Int32))), .ref b2_0])
 have E_w_v24 := ((E_w_v15.wr W14).wr W17)
 obtain ⟨T23, h23, X23, e23, W23, st23⟩ := putF X21 hx hZ hown (host := "") (Or.inl (oW hw 86 rfl)) Via.refl e21 F14_v22 E_w_v24 (Or.inl (oW hw 87 rfl)) (oW hw 63 rfl) (ty := .int) (by decide) rfl rfl (g := (mkF m 25 #[oR w, .val (.long xl), .second, oI 40] [(.int (((z2 + (1 : Int32)) + (1 : Int32)) + (1 : Int32))), .ref w, (.int ((z2 + (1 : Int32)) + (1 : Int32))), .ref b2_0])) rfl rfl (hb hby op81_6_25)
 refine oS st23 ?_
 have F23 := F14_v22.same W23
 have K23 := K17.wr W23 (Or.inl (List.mem_of_getElem? (i := 0) rfl))
 have N23 := Fr.snoc X23 N17 g_w
 have ti25 : (((z2 + (1 : Int32)) + (1 : Int32)) + (1 : Int32)).toInt = (((N + 1) + 1) + 1) := own_addT ti16 (by decide) (by omega) (by omega)
 refine oS (fun t k => XS.lloadN X23.here hx rfl (hb hby op81_6_28) rfl k) ?_
 refine oS (fun t k => XS.iloadN X23.here hx rfl (hb hby op81_6_29) rfl k) ?_
 show oG _ _ _ _ T23 (mkF m 30 #[oR w, .val (.long xl), .second, oI 40] [.int 40, (.long xl), (.int ((z2 + (1 : Int32)) + (1 : Int32))), .ref b2_0])
 refine oS (fun t k => XS.lushr X23.here hx rfl (hb hby op81_6_30) rfl k) ?_
 show oG _ _ _ _ T23 (mkF m 31 #[oR w, .val (.long xl), .second, oI 40] [(.long ((xl.toUInt64 >>> ((40 : Int32) &&& 0x3f).toInt64.toUInt64).toInt64)), (.int ((z2 + (1 : Int32)) + (1 : Int32))), .ref b2_0])
 refine oS (fun t k => XS.l2i X23.here hx rfl (hb hby op81_6_31) rfl k) ?_
 refine oS (fun t k => XS.i2b X23.here hx rfl (hb hby op81_6_32) rfl k) ?_
 show oG _ _ _ _ T23 (mkF m 33 #[oR w, .val (.long xl), .second, oI 40] [(.int ((((xl.toUInt64 >>> ((40 : Int32) &&& 0x3f).toInt64.toUInt64).toInt64).toInt32).toInt8.toInt32)), (.int ((z2 + (1 : Int32)) + (1 : Int32))), .ref b2_0])
 have V17_v27 := (V17.other W23 (Ne.symm ne_w_b2_0))
 obtain ⟨T26, h26, X26, e26, W26, V26, st26⟩ := own_bufStore X23 hx hZ e23 V17_v27 (x := ((((xl.toUInt64 >>> ((40 : Int32) &&& 0x3f).toInt64.toUInt64).toInt64).toInt32).toInt8.toInt32)) (j := ((z2 + (1 : Int32)) + (1 : Int32))) (own_bd ti16 (by omega) (by omega)) (g := (mkF m 33 #[oR w, .val (.long xl), .second, oI 40] [(.int ((((xl.toUInt64 >>> ((40 : Int32) &&& 0x3f).toInt64.toUInt64).toInt64).toInt32).toInt8.toInt32)), (.int ((z2 + (1 : Int32)) + (1 : Int32))), .ref b2_0])) rfl rfl (hb hby op81_6_33)
 refine oS st26 ?_
 have K26 := K23.wr W26 (own_wz bz_b2_0 (List.mem_of_getElem? (i := 1) rfl))
 have N26 := Fr.snoc X26 N23 g_b2_0
 show oG _ _ _ _ T26 (mkF m 34 #[oR w, .val (.long xl), .second, oI 40] [])
 refine oS (fun t k => XS.iinc X26.here hx rfl (hb hby op81_6_34) rfl (l' := #[oR w, .val (.long xl), .second, oI 32]) rfl k) ?_
 refine oS (fun t k => XS.goto X26.here hx rfl (pc0 := 37) (pc' := 9) rfl (hb hby op81_6_37) (by decide) (by decide) k) ?_
 refine oS (fun t k => XS.iloadN X26.here hx rfl (hb hby op81_6_9) rfl k) ?_
 show oG _ _ _ _ T26 (mkF m 10 #[oR w, .val (.long xl), .second, oI 32] [.int 32])
 refine oS (fun t k => XS.ifNo X26.here hx rfl (hb hby op81_6_10) rfl ((if0 _ _).trans (flt (show ¬ ((32 : Int32) < (0 : Int32)) from (by decide))).1) k) ?_
 refine oS (fun t k => XS.aloadN X26.here hx rfl (hb hby op81_6_13) rfl rfl k) ?_
 show oG _ _ _ _ T26 (mkF m 14 #[oR w, .val (.long xl), .second, oI 32] [.ref w])
 have q2_1_v29 := ((q2_1_v20.other W23 (Or.inr (slot_ne (Or.inl (oW hw 73 rfl)) (Or.inl (oW hw 87 rfl)) (by decide) (t := (.array .byte)) (t' := .int) (by decide) (by decide)))).other W26 (Or.inl ne_w_b2_0))
 obtain ⟨T28, X28, e28, st28⟩ := getF X26 hx hZ hown (host := "") (Or.inl (oW hw 72 rfl)) Via.refl e26 q2_1_v29 (g := (mkF m 14 #[oR w, .val (.long xl), .second, oI 32] [.ref w])) rfl rfl (hb hby op81_6_14)
 refine oS st28 ?_
 refine oS (fun t k => XS.aloadN X28.here hx rfl (hb hby op81_6_17) rfl rfl k) ?_
 refine oS (fun t k => XS.dup X28.here hx rfl (hb hby op81_6_18) rfl rfl k) ?_
 show oG _ _ _ _ T28 (mkF m 19 #[oR w, .val (.long xl), .second, oI 32] [.ref w, .ref w, .ref b2_0])
 have F23_v31 := (F23.other W26 (Or.inl ne_w_b2_0))
 obtain ⟨T30, X30, e30, st30⟩ := getF X28 hx hZ hown (host := "") (Or.inl (oW hw 86 rfl)) Via.refl e28 F23_v31 (g := (mkF m 19 #[oR w, .val (.long xl), .second, oI 32] [.ref w, .ref w, .ref b2_0])) rfl rfl (hb hby op81_6_19)
 refine oS st30 ?_
 show oG _ _ _ _ T30 (mkF m 22 #[oR w, .val (.long xl), .second, oI 32] [(.int (((z2 + (1 : Int32)) + (1 : Int32)) + (1 : Int32))), .ref w, .ref b2_0])
 refine oS (fun t k => XS.dupX1 X30.here hx rfl (hb hby op81_6_22) rfl rfl rfl k) ?_
 refine oS (fun t k => XS.iconst X30.here hx rfl (hb hby op81_6_23) k) ?_
 refine oS (fun t k => XS.iadd X30.here hx rfl (hb hby op81_6_24) rfl k) ?_
 show oG _ _ _ _ T30 (mkF m 25 #[oR w, .val (.long xl), .second, oI 32] [(.int ((((z2 + (1 : Int32)) + (1 : Int32)) + (1 : Int32)) + (1 : Int32))), .ref w, (.int (((z2 + (1 : Int32)) + (1 : Int32)) + (1 : Int32))), .ref b2_0])
 have E_w_v33 := ((E_w_v24.wr W23).wr W26)
 obtain ⟨T32, h32, X32, e32, W32, st32⟩ := putF X30 hx hZ hown (host := "") (Or.inl (oW hw 86 rfl)) Via.refl e30 F23_v31 E_w_v33 (Or.inl (oW hw 87 rfl)) (oW hw 63 rfl) (ty := .int) (by decide) rfl rfl (g := (mkF m 25 #[oR w, .val (.long xl), .second, oI 32] [(.int ((((z2 + (1 : Int32)) + (1 : Int32)) + (1 : Int32)) + (1 : Int32))), .ref w, (.int (((z2 + (1 : Int32)) + (1 : Int32)) + (1 : Int32))), .ref b2_0])) rfl rfl (hb hby op81_6_25)
 refine oS st32 ?_
 have F32 := F23_v31.same W32
 have K32 := K26.wr W32 (Or.inl (List.mem_of_getElem? (i := 0) rfl))
 have N32 := Fr.snoc X32 N26 g_w
 have ti34 : ((((z2 + (1 : Int32)) + (1 : Int32)) + (1 : Int32)) + (1 : Int32)).toInt = ((((N + 1) + 1) + 1) + 1) := own_addT ti25 (by decide) (by omega) (by omega)
 refine oS (fun t k => XS.lloadN X32.here hx rfl (hb hby op81_6_28) rfl k) ?_
 refine oS (fun t k => XS.iloadN X32.here hx rfl (hb hby op81_6_29) rfl k) ?_
 show oG _ _ _ _ T32 (mkF m 30 #[oR w, .val (.long xl), .second, oI 32] [.int 32, (.long xl), (.int (((z2 + (1 : Int32)) + (1 : Int32)) + (1 : Int32))), .ref b2_0])
 refine oS (fun t k => XS.lushr X32.here hx rfl (hb hby op81_6_30) rfl k) ?_
 show oG _ _ _ _ T32 (mkF m 31 #[oR w, .val (.long xl), .second, oI 32] [(.long ((xl.toUInt64 >>> ((32 : Int32) &&& 0x3f).toInt64.toUInt64).toInt64)), (.int (((z2 + (1 : Int32)) + (1 : Int32)) + (1 : Int32))), .ref b2_0])
 refine oS (fun t k => XS.l2i X32.here hx rfl (hb hby op81_6_31) rfl k) ?_
 refine oS (fun t k => XS.i2b X32.here hx rfl (hb hby op81_6_32) rfl k) ?_
 show oG _ _ _ _ T32 (mkF m 33 #[oR w, .val (.long xl), .second, oI 32] [(.int ((((xl.toUInt64 >>> ((32 : Int32) &&& 0x3f).toInt64.toUInt64).toInt64).toInt32).toInt8.toInt32)), (.int (((z2 + (1 : Int32)) + (1 : Int32)) + (1 : Int32))), .ref b2_0])
 have V26_v36 := (V26.other W32 (Ne.symm ne_w_b2_0))
 obtain ⟨T35, h35, X35, e35, W35, V35, st35⟩ := own_bufStore X32 hx hZ e32 V26_v36 (x := ((((xl.toUInt64 >>> ((32 : Int32) &&& 0x3f).toInt64.toUInt64).toInt64).toInt32).toInt8.toInt32)) (j := (((z2 + (1 : Int32)) + (1 : Int32)) + (1 : Int32))) (own_bd ti25 (by omega) (by omega)) (g := (mkF m 33 #[oR w, .val (.long xl), .second, oI 32] [(.int ((((xl.toUInt64 >>> ((32 : Int32) &&& 0x3f).toInt64.toUInt64).toInt64).toInt32).toInt8.toInt32)), (.int (((z2 + (1 : Int32)) + (1 : Int32)) + (1 : Int32))), .ref b2_0])) rfl rfl (hb hby op81_6_33)
 refine oS st35 ?_
 have K35 := K32.wr W35 (own_wz bz_b2_0 (List.mem_of_getElem? (i := 1) rfl))
 have N35 := Fr.snoc X35 N32 g_b2_0
 show oG _ _ _ _ T35 (mkF m 34 #[oR w, .val (.long xl), .second, oI 32] [])
 refine oS (fun t k => XS.iinc X35.here hx rfl (hb hby op81_6_34) rfl (l' := #[oR w, .val (.long xl), .second, oI 24]) rfl k) ?_
 refine oS (fun t k => XS.goto X35.here hx rfl (pc0 := 37) (pc' := 9) rfl (hb hby op81_6_37) (by decide) (by decide) k) ?_
 refine oS (fun t k => XS.iloadN X35.here hx rfl (hb hby op81_6_9) rfl k) ?_
 show oG _ _ _ _ T35 (mkF m 10 #[oR w, .val (.long xl), .second, oI 24] [.int 24])
 refine oS (fun t k => XS.ifNo X35.here hx rfl (hb hby op81_6_10) rfl ((if0 _ _).trans (flt (show ¬ ((24 : Int32) < (0 : Int32)) from (by decide))).1) k) ?_
 refine oS (fun t k => XS.aloadN X35.here hx rfl (hb hby op81_6_13) rfl rfl k) ?_
 show oG _ _ _ _ T35 (mkF m 14 #[oR w, .val (.long xl), .second, oI 24] [.ref w])
 have q2_1_v38 := ((q2_1_v29.other W32 (Or.inr (slot_ne (Or.inl (oW hw 73 rfl)) (Or.inl (oW hw 87 rfl)) (by decide) (t := (.array .byte)) (t' := .int) (by decide) (by decide)))).other W35 (Or.inl ne_w_b2_0))
 obtain ⟨T37, X37, e37, st37⟩ := getF X35 hx hZ hown (host := "") (Or.inl (oW hw 72 rfl)) Via.refl e35 q2_1_v38 (g := (mkF m 14 #[oR w, .val (.long xl), .second, oI 24] [.ref w])) rfl rfl (hb hby op81_6_14)
 refine oS st37 ?_
 refine oS (fun t k => XS.aloadN X37.here hx rfl (hb hby op81_6_17) rfl rfl k) ?_
 refine oS (fun t k => XS.dup X37.here hx rfl (hb hby op81_6_18) rfl rfl k) ?_
 show oG _ _ _ _ T37 (mkF m 19 #[oR w, .val (.long xl), .second, oI 24] [.ref w, .ref w, .ref b2_0])
 have F32_v40 := (F32.other W35 (Or.inl ne_w_b2_0))
 obtain ⟨T39, X39, e39, st39⟩ := getF X37 hx hZ hown (host := "") (Or.inl (oW hw 86 rfl)) Via.refl e37 F32_v40 (g := (mkF m 19 #[oR w, .val (.long xl), .second, oI 24] [.ref w, .ref w, .ref b2_0])) rfl rfl (hb hby op81_6_19)
 refine oS st39 ?_
 show oG _ _ _ _ T39 (mkF m 22 #[oR w, .val (.long xl), .second, oI 24] [(.int ((((z2 + (1 : Int32)) + (1 : Int32)) + (1 : Int32)) + (1 : Int32))), .ref w, .ref b2_0])
 refine oS (fun t k => XS.dupX1 X39.here hx rfl (hb hby op81_6_22) rfl rfl rfl k) ?_
 refine oS (fun t k => XS.iconst X39.here hx rfl (hb hby op81_6_23) k) ?_
 refine oS (fun t k => XS.iadd X39.here hx rfl (hb hby op81_6_24) rfl k) ?_
 show oG _ _ _ _ T39 (mkF m 25 #[oR w, .val (.long xl), .second, oI 24] [(.int (((((z2 + (1 : Int32)) + (1 : Int32)) + (1 : Int32)) + (1 : Int32)) + (1 : Int32))), .ref w, (.int ((((z2 + (1 : Int32)) + (1 : Int32)) + (1 : Int32)) + (1 : Int32))), .ref b2_0])
 have E_w_v42 := ((E_w_v33.wr W32).wr W35)
 obtain ⟨T41, h41, X41, e41, W41, st41⟩ := putF X39 hx hZ hown (host := "") (Or.inl (oW hw 86 rfl)) Via.refl e39 F32_v40 E_w_v42 (Or.inl (oW hw 87 rfl)) (oW hw 63 rfl) (ty := .int) (by decide) rfl rfl (g := (mkF m 25 #[oR w, .val (.long xl), .second, oI 24] [(.int (((((z2 + (1 : Int32)) + (1 : Int32)) + (1 : Int32)) + (1 : Int32)) + (1 : Int32))), .ref w, (.int ((((z2 + (1 : Int32)) + (1 : Int32)) + (1 : Int32)) + (1 : Int32))), .ref b2_0])) rfl rfl (hb hby op81_6_25)
 refine oS st41 ?_
 have F41 := F32_v40.same W41
 have K41 := K35.wr W41 (Or.inl (List.mem_of_getElem? (i := 0) rfl))
 have N41 := Fr.snoc X41 N35 g_w
 have ti43 : (((((z2 + (1 : Int32)) + (1 : Int32)) + (1 : Int32)) + (1 : Int32)) + (1 : Int32)).toInt = (((((N + 1) + 1) + 1) + 1) + 1) := own_addT ti34 (by decide) (by omega) (by omega)
 refine oS (fun t k => XS.lloadN X41.here hx rfl (hb hby op81_6_28) rfl k) ?_
 refine oS (fun t k => XS.iloadN X41.here hx rfl (hb hby op81_6_29) rfl k) ?_
 show oG _ _ _ _ T41 (mkF m 30 #[oR w, .val (.long xl), .second, oI 24] [.int 24, (.long xl), (.int ((((z2 + (1 : Int32)) + (1 : Int32)) + (1 : Int32)) + (1 : Int32))), .ref b2_0])
 refine oS (fun t k => XS.lushr X41.here hx rfl (hb hby op81_6_30) rfl k) ?_
 show oG _ _ _ _ T41 (mkF m 31 #[oR w, .val (.long xl), .second, oI 24] [(.long ((xl.toUInt64 >>> ((24 : Int32) &&& 0x3f).toInt64.toUInt64).toInt64)), (.int ((((z2 + (1 : Int32)) + (1 : Int32)) + (1 : Int32)) + (1 : Int32))), .ref b2_0])
 refine oS (fun t k => XS.l2i X41.here hx rfl (hb hby op81_6_31) rfl k) ?_
 refine oS (fun t k => XS.i2b X41.here hx rfl (hb hby op81_6_32) rfl k) ?_
 show oG _ _ _ _ T41 (mkF m 33 #[oR w, .val (.long xl), .second, oI 24] [(.int ((((xl.toUInt64 >>> ((24 : Int32) &&& 0x3f).toInt64.toUInt64).toInt64).toInt32).toInt8.toInt32)), (.int ((((z2 + (1 : Int32)) + (1 : Int32)) + (1 : Int32)) + (1 : Int32))), .ref b2_0])
 have V35_v45 := (V35.other W41 (Ne.symm ne_w_b2_0))
 obtain ⟨T44, h44, X44, e44, W44, V44, st44⟩ := own_bufStore X41 hx hZ e41 V35_v45 (x := ((((xl.toUInt64 >>> ((24 : Int32) &&& 0x3f).toInt64.toUInt64).toInt64).toInt32).toInt8.toInt32)) (j := ((((z2 + (1 : Int32)) + (1 : Int32)) + (1 : Int32)) + (1 : Int32))) (own_bd ti34 (by omega) (by omega)) (g := (mkF m 33 #[oR w, .val (.long xl), .second, oI 24] [(.int ((((xl.toUInt64 >>> ((24 : Int32) &&& 0x3f).toInt64.toUInt64).toInt64).toInt32).toInt8.toInt32)), (.int ((((z2 + (1 : Int32)) + (1 : Int32)) + (1 : Int32)) + (1 : Int32))), .ref b2_0])) rfl rfl (hb hby op81_6_33)
 refine oS st44 ?_
 have K44 := K41.wr W44 (own_wz bz_b2_0 (List.mem_of_getElem? (i := 1) rfl))
 have N44 := Fr.snoc X44 N41 g_b2_0
 show oG _ _ _ _ T44 (mkF m 34 #[oR w, .val (.long xl), .second, oI 24] [])
 refine oS (fun t k => XS.iinc X44.here hx rfl (hb hby op81_6_34) rfl (l' := #[oR w, .val (.long xl), .second, oI 16]) rfl k) ?_
 refine oS (fun t k => XS.goto X44.here hx rfl (pc0 := 37) (pc' := 9) rfl (hb hby op81_6_37) (by decide) (by decide) k) ?_
 refine oS (fun t k => XS.iloadN X44.here hx rfl (hb hby op81_6_9) rfl k) ?_
 show oG _ _ _ _ T44 (mkF m 10 #[oR w, .val (.long xl), .second, oI 16] [.int 16])
 refine oS (fun t k => XS.ifNo X44.here hx rfl (hb hby op81_6_10) rfl ((if0 _ _).trans (flt (show ¬ ((16 : Int32) < (0 : Int32)) from (by decide))).1) k) ?_
 refine oS (fun t k => XS.aloadN X44.here hx rfl (hb hby op81_6_13) rfl rfl k) ?_
 show oG _ _ _ _ T44 (mkF m 14 #[oR w, .val (.long xl), .second, oI 16] [.ref w])
 have q2_1_v47 := ((q2_1_v38.other W41 (Or.inr (slot_ne (Or.inl (oW hw 73 rfl)) (Or.inl (oW hw 87 rfl)) (by decide) (t := (.array .byte)) (t' := .int) (by decide) (by decide)))).other W44 (Or.inl ne_w_b2_0))
 obtain ⟨T46, X46, e46, st46⟩ := getF X44 hx hZ hown (host := "") (Or.inl (oW hw 72 rfl)) Via.refl e44 q2_1_v47 (g := (mkF m 14 #[oR w, .val (.long xl), .second, oI 16] [.ref w])) rfl rfl (hb hby op81_6_14)
 refine oS st46 ?_
 refine oS (fun t k => XS.aloadN X46.here hx rfl (hb hby op81_6_17) rfl rfl k) ?_
 refine oS (fun t k => XS.dup X46.here hx rfl (hb hby op81_6_18) rfl rfl k) ?_
 show oG _ _ _ _ T46 (mkF m 19 #[oR w, .val (.long xl), .second, oI 16] [.ref w, .ref w, .ref b2_0])
 have F41_v49 := (F41.other W44 (Or.inl ne_w_b2_0))
 obtain ⟨T48, X48, e48, st48⟩ := getF X46 hx hZ hown (host := "") (Or.inl (oW hw 86 rfl)) Via.refl e46 F41_v49 (g := (mkF m 19 #[oR w, .val (.long xl), .second, oI 16] [.ref w, .ref w, .ref b2_0])) rfl rfl (hb hby op81_6_19)
 refine oS st48 ?_
 show oG _ _ _ _ T48 (mkF m 22 #[oR w, .val (.long xl), .second, oI 16] [(.int (((((z2 + (1 : Int32)) + (1 : Int32)) + (1 : Int32)) + (1 : Int32)) + (1 : Int32))), .ref w, .ref b2_0])
 refine oS (fun t k => XS.dupX1 X48.here hx rfl (hb hby op81_6_22) rfl rfl rfl k) ?_
 refine oS (fun t k => XS.iconst X48.here hx rfl (hb hby op81_6_23) k) ?_
 refine oS (fun t k => XS.iadd X48.here hx rfl (hb hby op81_6_24) rfl k) ?_
 show oG _ _ _ _ T48 (mkF m 25 #[oR w, .val (.long xl), .second, oI 16] [(.int ((((((z2 + (1 : Int32)) + (1 : Int32)) + (1 : Int32)) + (1 : Int32)) + (1 : Int32)) + (1 : Int32))), .ref w, (.int (((((z2 + (1 : Int32)) + (1 : Int32)) + (1 : Int32)) + (1 : Int32)) + (1 : Int32))), .ref b2_0])
 have E_w_v51 := ((E_w_v42.wr W41).wr W44)
 obtain ⟨T50, h50, X50, e50, W50, st50⟩ := putF X48 hx hZ hown (host := "") (Or.inl (oW hw 86 rfl)) Via.refl e48 F41_v49 E_w_v51 (Or.inl (oW hw 87 rfl)) (oW hw 63 rfl) (ty := .int) (by decide) rfl rfl (g := (mkF m 25 #[oR w, .val (.long xl), .second, oI 16] [(.int ((((((z2 + (1 : Int32)) + (1 : Int32)) + (1 : Int32)) + (1 : Int32)) + (1 : Int32)) + (1 : Int32))), .ref w, (.int (((((z2 + (1 : Int32)) + (1 : Int32)) + (1 : Int32)) + (1 : Int32)) + (1 : Int32))), .ref b2_0])) rfl rfl (hb hby op81_6_25)
 refine oS st50 ?_
 have F50 := F41_v49.same W50
 have K50 := K44.wr W50 (Or.inl (List.mem_of_getElem? (i := 0) rfl))
 have N50 := Fr.snoc X50 N44 g_w
 have ti52 : ((((((z2 + (1 : Int32)) + (1 : Int32)) + (1 : Int32)) + (1 : Int32)) + (1 : Int32)) + (1 : Int32)).toInt = ((((((N + 1) + 1) + 1) + 1) + 1) + 1) := own_addT ti43 (by decide) (by omega) (by omega)
 refine oS (fun t k => XS.lloadN X50.here hx rfl (hb hby op81_6_28) rfl k) ?_
 refine oS (fun t k => XS.iloadN X50.here hx rfl (hb hby op81_6_29) rfl k) ?_
 show oG _ _ _ _ T50 (mkF m 30 #[oR w, .val (.long xl), .second, oI 16] [.int 16, (.long xl), (.int (((((z2 + (1 : Int32)) + (1 : Int32)) + (1 : Int32)) + (1 : Int32)) + (1 : Int32))), .ref b2_0])
 refine oS (fun t k => XS.lushr X50.here hx rfl (hb hby op81_6_30) rfl k) ?_
 show oG _ _ _ _ T50 (mkF m 31 #[oR w, .val (.long xl), .second, oI 16] [(.long ((xl.toUInt64 >>> ((16 : Int32) &&& 0x3f).toInt64.toUInt64).toInt64)), (.int (((((z2 + (1 : Int32)) + (1 : Int32)) + (1 : Int32)) + (1 : Int32)) + (1 : Int32))), .ref b2_0])
 refine oS (fun t k => XS.l2i X50.here hx rfl (hb hby op81_6_31) rfl k) ?_
 refine oS (fun t k => XS.i2b X50.here hx rfl (hb hby op81_6_32) rfl k) ?_
 show oG _ _ _ _ T50 (mkF m 33 #[oR w, .val (.long xl), .second, oI 16] [(.int ((((xl.toUInt64 >>> ((16 : Int32) &&& 0x3f).toInt64.toUInt64).toInt64).toInt32).toInt8.toInt32)), (.int (((((z2 + (1 : Int32)) + (1 : Int32)) + (1 : Int32)) + (1 : Int32)) + (1 : Int32))), .ref b2_0])
 have V44_v54 := (V44.other W50 (Ne.symm ne_w_b2_0))
 obtain ⟨T53, h53, X53, e53, W53, V53, st53⟩ := own_bufStore X50 hx hZ e50 V44_v54 (x := ((((xl.toUInt64 >>> ((16 : Int32) &&& 0x3f).toInt64.toUInt64).toInt64).toInt32).toInt8.toInt32)) (j := (((((z2 + (1 : Int32)) + (1 : Int32)) + (1 : Int32)) + (1 : Int32)) + (1 : Int32))) (own_bd ti43 (by omega) (by omega)) (g := (mkF m 33 #[oR w, .val (.long xl), .second, oI 16] [(.int ((((xl.toUInt64 >>> ((16 : Int32) &&& 0x3f).toInt64.toUInt64).toInt64).toInt32).toInt8.toInt32)), (.int (((((z2 + (1 : Int32)) + (1 : Int32)) + (1 : Int32)) + (1 : Int32)) + (1 : Int32))), .ref b2_0])) rfl rfl (hb hby op81_6_33)
 refine oS st53 ?_
 have K53 := K50.wr W53 (own_wz bz_b2_0 (List.mem_of_getElem? (i := 1) rfl))
 have N53 := Fr.snoc X53 N50 g_b2_0
 show oG _ _ _ _ T53 (mkF m 34 #[oR w, .val (.long xl), .second, oI 16] [])
 refine oS (fun t k => XS.iinc X53.here hx rfl (hb hby op81_6_34) rfl (l' := #[oR w, .val (.long xl), .second, oI 8]) rfl k) ?_
 refine oS (fun t k => XS.goto X53.here hx rfl (pc0 := 37) (pc' := 9) rfl (hb hby op81_6_37) (by decide) (by decide) k) ?_
 refine oS (fun t k => XS.iloadN X53.here hx rfl (hb hby op81_6_9) rfl k) ?_
 show oG _ _ _ _ T53 (mkF m 10 #[oR w, .val (.long xl), .second, oI 8] [.int 8])
 refine oS (fun t k => XS.ifNo X53.here hx rfl (hb hby op81_6_10) rfl ((if0 _ _).trans (flt (show ¬ ((8 : Int32) < (0 : Int32)) from (by decide))).1) k) ?_
 refine oS (fun t k => XS.aloadN X53.here hx rfl (hb hby op81_6_13) rfl rfl k) ?_
 show oG _ _ _ _ T53 (mkF m 14 #[oR w, .val (.long xl), .second, oI 8] [.ref w])
 have q2_1_v56 := ((q2_1_v47.other W50 (Or.inr (slot_ne (Or.inl (oW hw 73 rfl)) (Or.inl (oW hw 87 rfl)) (by decide) (t := (.array .byte)) (t' := .int) (by decide) (by decide)))).other W53 (Or.inl ne_w_b2_0))
 obtain ⟨T55, X55, e55, st55⟩ := getF X53 hx hZ hown (host := "") (Or.inl (oW hw 72 rfl)) Via.refl e53 q2_1_v56 (g := (mkF m 14 #[oR w, .val (.long xl), .second, oI 8] [.ref w])) rfl rfl (hb hby op81_6_14)
 refine oS st55 ?_
 refine oS (fun t k => XS.aloadN X55.here hx rfl (hb hby op81_6_17) rfl rfl k) ?_
 refine oS (fun t k => XS.dup X55.here hx rfl (hb hby op81_6_18) rfl rfl k) ?_
 show oG _ _ _ _ T55 (mkF m 19 #[oR w, .val (.long xl), .second, oI 8] [.ref w, .ref w, .ref b2_0])
 have F50_v58 := (F50.other W53 (Or.inl ne_w_b2_0))
 obtain ⟨T57, X57, e57, st57⟩ := getF X55 hx hZ hown (host := "") (Or.inl (oW hw 86 rfl)) Via.refl e55 F50_v58 (g := (mkF m 19 #[oR w, .val (.long xl), .second, oI 8] [.ref w, .ref w, .ref b2_0])) rfl rfl (hb hby op81_6_19)
 refine oS st57 ?_
 show oG _ _ _ _ T57 (mkF m 22 #[oR w, .val (.long xl), .second, oI 8] [(.int ((((((z2 + (1 : Int32)) + (1 : Int32)) + (1 : Int32)) + (1 : Int32)) + (1 : Int32)) + (1 : Int32))), .ref w, .ref b2_0])
 refine oS (fun t k => XS.dupX1 X57.here hx rfl (hb hby op81_6_22) rfl rfl rfl k) ?_
 refine oS (fun t k => XS.iconst X57.here hx rfl (hb hby op81_6_23) k) ?_
 refine oS (fun t k => XS.iadd X57.here hx rfl (hb hby op81_6_24) rfl k) ?_
 show oG _ _ _ _ T57 (mkF m 25 #[oR w, .val (.long xl), .second, oI 8] [(.int (((((((z2 + (1 : Int32)) + (1 : Int32)) + (1 : Int32)) + (1 : Int32)) + (1 : Int32)) + (1 : Int32)) + (1 : Int32))), .ref w, (.int ((((((z2 + (1 : Int32)) + (1 : Int32)) + (1 : Int32)) + (1 : Int32)) + (1 : Int32)) + (1 : Int32))), .ref b2_0])
 have E_w_v60 := ((E_w_v51.wr W50).wr W53)
 obtain ⟨T59, h59, X59, e59, W59, st59⟩ := putF X57 hx hZ hown (host := "") (Or.inl (oW hw 86 rfl)) Via.refl e57 F50_v58 E_w_v60 (Or.inl (oW hw 87 rfl)) (oW hw 63 rfl) (ty := .int) (by decide) rfl rfl (g := (mkF m 25 #[oR w, .val (.long xl), .second, oI 8] [(.int (((((((z2 + (1 : Int32)) + (1 : Int32)) + (1 : Int32)) + (1 : Int32)) + (1 : Int32)) + (1 : Int32)) + (1 : Int32))), .ref w, (.int ((((((z2 + (1 : Int32)) + (1 : Int32)) + (1 : Int32)) + (1 : Int32)) + (1 : Int32)) + (1 : Int32))), .ref b2_0])) rfl rfl (hb hby op81_6_25)
 refine oS st59 ?_
 have F59 := F50_v58.same W59
 have K59 := K53.wr W59 (Or.inl (List.mem_of_getElem? (i := 0) rfl))
 have N59 := Fr.snoc X59 N53 g_w
 have ti61 : (((((((z2 + (1 : Int32)) + (1 : Int32)) + (1 : Int32)) + (1 : Int32)) + (1 : Int32)) + (1 : Int32)) + (1 : Int32)).toInt = (((((((N + 1) + 1) + 1) + 1) + 1) + 1) + 1) := own_addT ti52 (by decide) (by omega) (by omega)
 refine oS (fun t k => XS.lloadN X59.here hx rfl (hb hby op81_6_28) rfl k) ?_
 refine oS (fun t k => XS.iloadN X59.here hx rfl (hb hby op81_6_29) rfl k) ?_
 show oG _ _ _ _ T59 (mkF m 30 #[oR w, .val (.long xl), .second, oI 8] [.int 8, (.long xl), (.int ((((((z2 + (1 : Int32)) + (1 : Int32)) + (1 : Int32)) + (1 : Int32)) + (1 : Int32)) + (1 : Int32))), .ref b2_0])
 refine oS (fun t k => XS.lushr X59.here hx rfl (hb hby op81_6_30) rfl k) ?_
 show oG _ _ _ _ T59 (mkF m 31 #[oR w, .val (.long xl), .second, oI 8] [(.long ((xl.toUInt64 >>> ((8 : Int32) &&& 0x3f).toInt64.toUInt64).toInt64)), (.int ((((((z2 + (1 : Int32)) + (1 : Int32)) + (1 : Int32)) + (1 : Int32)) + (1 : Int32)) + (1 : Int32))), .ref b2_0])
 refine oS (fun t k => XS.l2i X59.here hx rfl (hb hby op81_6_31) rfl k) ?_
 refine oS (fun t k => XS.i2b X59.here hx rfl (hb hby op81_6_32) rfl k) ?_
 show oG _ _ _ _ T59 (mkF m 33 #[oR w, .val (.long xl), .second, oI 8] [(.int ((((xl.toUInt64 >>> ((8 : Int32) &&& 0x3f).toInt64.toUInt64).toInt64).toInt32).toInt8.toInt32)), (.int ((((((z2 + (1 : Int32)) + (1 : Int32)) + (1 : Int32)) + (1 : Int32)) + (1 : Int32)) + (1 : Int32))), .ref b2_0])
 have V53_v63 := (V53.other W59 (Ne.symm ne_w_b2_0))
 obtain ⟨T62, h62, X62, e62, W62, V62, st62⟩ := own_bufStore X59 hx hZ e59 V53_v63 (x := ((((xl.toUInt64 >>> ((8 : Int32) &&& 0x3f).toInt64.toUInt64).toInt64).toInt32).toInt8.toInt32)) (j := ((((((z2 + (1 : Int32)) + (1 : Int32)) + (1 : Int32)) + (1 : Int32)) + (1 : Int32)) + (1 : Int32))) (own_bd ti52 (by omega) (by omega)) (g := (mkF m 33 #[oR w, .val (.long xl), .second, oI 8] [(.int ((((xl.toUInt64 >>> ((8 : Int32) &&& 0x3f).toInt64.toUInt64).toInt64).toInt32).toInt8.toInt32)), (.int ((((((z2 + (1 : Int32)) + (1 : Int32)) + (1 : Int32)) + (1 : Int32)) + (1 : Int32)) + (1 : Int32))), .ref b2_0])) rfl rfl (hb hby op81_6_33)
 refine oS st62 ?_
 have K62 := K59.wr W62 (own_wz bz_b2_0 (List.mem_of_getElem? (i := 1) rfl))
 have N62 := Fr.snoc X62 N59 g_b2_0
 show oG _ _ _ _ T62 (mkF m 34 #[oR w, .val (.long xl), .second, oI 8] [])
 refine oS (fun t k => XS.iinc X62.here hx rfl (hb hby op81_6_34) rfl (l' := #[oR w, .val (.long xl), .second, oI 0]) rfl k) ?_
 refine oS (fun t k => XS.goto X62.here hx rfl (pc0 := 37) (pc' := 9) rfl (hb hby op81_6_37) (by decide) (by decide) k) ?_
 refine oS (fun t k => XS.iloadN X62.here hx rfl (hb hby op81_6_9) rfl k) ?_
 show oG _ _ _ _ T62 (mkF m 10 #[oR w, .val (.long xl), .second, oI 0] [.int 0])
 refine oS (fun t k => XS.ifNo X62.here hx rfl (hb hby op81_6_10) rfl ((if0 _ _).trans (flt (show ¬ ((0 : Int32) < (0 : Int32)) from (by decide))).1) k) ?_
 refine oS (fun t k => XS.aloadN X62.here hx rfl (hb hby op81_6_13) rfl rfl k) ?_
 show oG _ _ _ _ T62 (mkF m 14 #[oR w, .val (.long xl), .second, oI 0] [.ref w])
 have q2_1_v65 := ((q2_1_v56.other W59 (Or.inr (slot_ne (Or.inl (oW hw 73 rfl)) (Or.inl (oW hw 87 rfl)) (by decide) (t := (.array .byte)) (t' := .int) (by decide) (by decide)))).other W62 (Or.inl ne_w_b2_0))
 obtain ⟨T64, X64, e64, st64⟩ := getF X62 hx hZ hown (host := "") (Or.inl (oW hw 72 rfl)) Via.refl e62 q2_1_v65 (g := (mkF m 14 #[oR w, .val (.long xl), .second, oI 0] [.ref w])) rfl rfl (hb hby op81_6_14)
 refine oS st64 ?_
 refine oS (fun t k => XS.aloadN X64.here hx rfl (hb hby op81_6_17) rfl rfl k) ?_
 refine oS (fun t k => XS.dup X64.here hx rfl (hb hby op81_6_18) rfl rfl k) ?_
 show oG _ _ _ _ T64 (mkF m 19 #[oR w, .val (.long xl), .second, oI 0] [.ref w, .ref w, .ref b2_0])
 have F59_v67 := (F59.other W62 (Or.inl ne_w_b2_0))
 obtain ⟨T66, X66, e66, st66⟩ := getF X64 hx hZ hown (host := "") (Or.inl (oW hw 86 rfl)) Via.refl e64 F59_v67 (g := (mkF m 19 #[oR w, .val (.long xl), .second, oI 0] [.ref w, .ref w, .ref b2_0])) rfl rfl (hb hby op81_6_19)
 refine oS st66 ?_
 show oG _ _ _ _ T66 (mkF m 22 #[oR w, .val (.long xl), .second, oI 0] [(.int (((((((z2 + (1 : Int32)) + (1 : Int32)) + (1 : Int32)) + (1 : Int32)) + (1 : Int32)) + (1 : Int32)) + (1 : Int32))), .ref w, .ref b2_0])
 refine oS (fun t k => XS.dupX1 X66.here hx rfl (hb hby op81_6_22) rfl rfl rfl k) ?_
 refine oS (fun t k => XS.iconst X66.here hx rfl (hb hby op81_6_23) k) ?_
 refine oS (fun t k => XS.iadd X66.here hx rfl (hb hby op81_6_24) rfl k) ?_
 show oG _ _ _ _ T66 (mkF m 25 #[oR w, .val (.long xl), .second, oI 0] [(.int ((((((((z2 + (1 : Int32)) + (1 : Int32)) + (1 : Int32)) + (1 : Int32)) + (1 : Int32)) + (1 : Int32)) + (1 : Int32)) + (1 : Int32))), .ref w, (.int (((((((z2 + (1 : Int32)) + (1 : Int32)) + (1 : Int32)) + (1 : Int32)) + (1 : Int32)) + (1 : Int32)) + (1 : Int32))), .ref b2_0])
 have E_w_v69 := ((E_w_v60.wr W59).wr W62)
 obtain ⟨T68, h68, X68, e68, W68, st68⟩ := putF X66 hx hZ hown (host := "") (Or.inl (oW hw 86 rfl)) Via.refl e66 F59_v67 E_w_v69 (Or.inl (oW hw 87 rfl)) (oW hw 63 rfl) (ty := .int) (by decide) rfl rfl (g := (mkF m 25 #[oR w, .val (.long xl), .second, oI 0] [(.int ((((((((z2 + (1 : Int32)) + (1 : Int32)) + (1 : Int32)) + (1 : Int32)) + (1 : Int32)) + (1 : Int32)) + (1 : Int32)) + (1 : Int32))), .ref w, (.int (((((((z2 + (1 : Int32)) + (1 : Int32)) + (1 : Int32)) + (1 : Int32)) + (1 : Int32)) + (1 : Int32)) + (1 : Int32))), .ref b2_0])) rfl rfl (hb hby op81_6_25)
 refine oS st68 ?_
 have F68 := F59_v67.same W68
 have K68 := K62.wr W68 (Or.inl (List.mem_of_getElem? (i := 0) rfl))
 have N68 := Fr.snoc X68 N62 g_w
 have ti70 : ((((((((z2 + (1 : Int32)) + (1 : Int32)) + (1 : Int32)) + (1 : Int32)) + (1 : Int32)) + (1 : Int32)) + (1 : Int32)) + (1 : Int32)).toInt = ((((((((N + 1) + 1) + 1) + 1) + 1) + 1) + 1) + 1) := own_addT ti61 (by decide) (by omega) (by omega)
 refine oS (fun t k => XS.lloadN X68.here hx rfl (hb hby op81_6_28) rfl k) ?_
 refine oS (fun t k => XS.iloadN X68.here hx rfl (hb hby op81_6_29) rfl k) ?_
 show oG _ _ _ _ T68 (mkF m 30 #[oR w, .val (.long xl), .second, oI 0] [.int 0, (.long xl), (.int (((((((z2 + (1 : Int32)) + (1 : Int32)) + (1 : Int32)) + (1 : Int32)) + (1 : Int32)) + (1 : Int32)) + (1 : Int32))), .ref b2_0])
 refine oS (fun t k => XS.lushr X68.here hx rfl (hb hby op81_6_30) rfl k) ?_
 show oG _ _ _ _ T68 (mkF m 31 #[oR w, .val (.long xl), .second, oI 0] [(.long ((xl.toUInt64 >>> ((0 : Int32) &&& 0x3f).toInt64.toUInt64).toInt64)), (.int (((((((z2 + (1 : Int32)) + (1 : Int32)) + (1 : Int32)) + (1 : Int32)) + (1 : Int32)) + (1 : Int32)) + (1 : Int32))), .ref b2_0])
 refine oS (fun t k => XS.l2i X68.here hx rfl (hb hby op81_6_31) rfl k) ?_
 refine oS (fun t k => XS.i2b X68.here hx rfl (hb hby op81_6_32) rfl k) ?_
 show oG _ _ _ _ T68 (mkF m 33 #[oR w, .val (.long xl), .second, oI 0] [(.int ((((xl.toUInt64 >>> ((0 : Int32) &&& 0x3f).toInt64.toUInt64).toInt64).toInt32).toInt8.toInt32)), (.int (((((((z2 + (1 : Int32)) + (1 : Int32)) + (1 : Int32)) + (1 : Int32)) + (1 : Int32)) + (1 : Int32)) + (1 : Int32))), .ref b2_0])
 have V62_v72 := (V62.other W68 (Ne.symm ne_w_b2_0))
 obtain ⟨T71, h71, X71, e71, W71, V71, st71⟩ := own_bufStore X68 hx hZ e68 V62_v72 (x := ((((xl.toUInt64 >>> ((0 : Int32) &&& 0x3f).toInt64.toUInt64).toInt64).toInt32).toInt8.toInt32)) (j := (((((((z2 + (1 : Int32)) + (1 : Int32)) + (1 : Int32)) + (1 : Int32)) + (1 : Int32)) + (1 : Int32)) + (1 : Int32))) (own_bd ti61 (by omega) (by omega)) (g := (mkF m 33 #[oR w, .val (.long xl), .second, oI 0] [(.int ((((xl.toUInt64 >>> ((0 : Int32) &&& 0x3f).toInt64.toUInt64).toInt64).toInt32).toInt8.toInt32)), (.int (((((((z2 + (1 : Int32)) + (1 : Int32)) + (1 : Int32)) + (1 : Int32)) + (1 : Int32)) + (1 : Int32)) + (1 : Int32))), .ref b2_0])) rfl rfl (hb hby op81_6_33)
 refine oS st71 ?_
 have K71 := K68.wr W71 (own_wz bz_b2_0 (List.mem_of_getElem? (i := 1) rfl))
 have N71 := Fr.snoc X71 N68 g_b2_0
 show oG _ _ _ _ T71 (mkF m 34 #[oR w, .val (.long xl), .second, oI 0] [])
 refine oS (fun t k => XS.iinc X71.here hx rfl (hb hby op81_6_34) rfl (l' := #[oR w, .val (.long xl), .second, oI (-8 : Int32)]) rfl k) ?_
 refine oS (fun t k => XS.goto X71.here hx rfl (pc0 := 37) (pc' := 9) rfl (hb hby op81_6_37) (by decide) (by decide) k) ?_
 refine oS (fun t k => XS.iloadN X71.here hx rfl (hb hby op81_6_9) rfl k) ?_
 show oG _ _ _ _ T71 (mkF m 10 #[oR w, .val (.long xl), .second, oI (-8 : Int32)] [(.int (-8 : Int32))])
 refine oS (fun t k => XS.ifYes X71.here hx rfl (pc0 := 10) (pc' := 40) rfl (hb hby op81_6_10) rfl ((if0 _ _).trans (tlt (show (-8 : Int32) < (0 : Int32) from (by decide))).1) (by decide) (by decide) k) ?_
 refine oS (fun t k => XS.aloadN X71.here hx rfl (hb hby op81_6_40) rfl rfl k) ?_
 show oG _ _ _ _ T71 (mkF m 41 #[oR w, .val (.long xl), .second, oI (-8 : Int32)] [.ref w])
 have hSf : own_St cp2 ((((((((z2 + (1 : Int32)) + (1 : Int32)) + (1 : Int32)) + (1 : Int32)) + (1 : Int32)) + (1 : Int32)) + (1 : Int32)) + (1 : Int32)) (N + 8) := ⟨sc2, by omega, by omega, by omega⟩
 have F68_v73 := (F68.other W71 (Or.inl ne_w_b2_0))
 have q2_1_v74 := ((q2_1_v65.other W68 (Or.inr (slot_ne (Or.inl (oW hw 73 rfl)) (Or.inl (oW hw 87 rfl)) (by decide) (t := (.array .byte)) (t' := .int) (by decide) (by decide)))).other W71 (Or.inl ne_w_b2_0))
 exact own_retAX X71 hx hlk hrt rfl rfl rfl (hb hby op81_6_41) (by rw [e71]; exact ⟨b2_0, k2_0, cp2, ((((((((z2 + (1 : Int32)) + (1 : Int32)) + (1 : Int32)) + (1 : Int32)) + (1 : Int32)) + (1 : Int32)) + (1 : Int32)) + (1 : Int32)), rfl, N71, K71, bz_b2_0, hSf, (own_fin IC2 (oB rfl)), (own_fin IS2 (oB rfl)), F68_v73, q2_1_v74, V71⟩)
theorem own_ef21 (m : MethodId) (x0 : Addr) : entryFrame m #[.ref x0, .null] 2 = mkF m 0 #[.val (.ref x0), .val .null] [] := by first | (simp [entryFrame, mkF, argsToLocals, Value.category]; done) | rfl
theorem op81_9_0 : decode prog_81_method_9_code 0 = .ok (.aload_n 1, 1) := by decide +kernel
theorem op81_9_1 : decode prog_81_method_9_code 1 = .ok (.ifnonnull 11, 3) := by decide +kernel
theorem op81_9_4 : decode prog_81_method_9_code 4 = .ok (.aload_n 0, 1) := by decide +kernel
theorem op81_9_5 : decode prog_81_method_9_code 5 = .ok (.iconst (-1), 1) := by decide +kernel
theorem op81_9_6 : decode prog_81_method_9_code 6 = .ok (.invokevirtual 39, 3) := by decide +kernel
theorem own_pd15 : parseMethodDescriptor "(I)Lcom/example/ringshift/ringshift/io/BinaryWriter;" = some ⟨[.int], some (.object "com/example/ringshift/ringshift/io/BinaryWriter")⟩ := by decide +kernel
theorem op81_9_9 : decode prog_81_method_9_code 9 = .ok (.goto 8, 3) := by decide +kernel
theorem op81_9_17 : decode prog_81_method_9_code 17 = .ok (.areturn, 1) := by decide +kernel
set_option maxRecDepth 65536 in
set_option maxHeartbeats 40000000 in
theorem own_wn (l : Launch) (Z : State) (a0 : Array Value) (hw : ∀ d ∈ tables_1, d.before a0 Z = true) (ws : List Jvm.Cond) (w : Addr) (b : Addr) (kb : ClassId) (cap : Int32) (sz : Int32) (N : Int) (h0 : Heap) (n0 : Nat) (Z0 : n0 ≤ h0.size) (E_w : Exa Z h0 w "com/example/ringshift/ringshift/io/BinaryWriter") (F_w_size : Fld Z h0 w "com/example/ringshift/ringshift/io/BinaryWriter" "size" "I" (.int sz)) (F_w_bytes : Fld Z h0 w "com/example/ringshift/ringshift/io/BinaryWriter" "bytes" "[B" (.ref b)) (V_b : own_Buf Z h0 b kb cap) (hS : own_St cap sz N) (hN : N + 4 ≤ 128) (g_w : n0 ≤ w) (g_b : n0 ≤ b) (nwb : ¬ (w = b)) :
   own_MetX l Z oy18 prog_81_method_9_code 2 (some (.object "com/example/ringshift/ringshift/io/BinaryWriter")) ws ({ frames := 4, cells := 0 + own_gc cap, slots := 0 + own_gs cap, locals := 107 } : Room) #[.ref w, .null] h0 (fun v h L k n => ∃ (b2 : Addr) (k2 : ClassId) (cap2 sz2 : Int32), v = some (.ref w) ∧ Fr n0 L ∧ Keep h0 h [w, b] ∧ (b2 = b ∨ h0.size ≤ b2) ∧ own_St cap2 sz2 (N + 4) ∧ k + own_gc cap2 ≤ 0 + own_gc cap ∧ n + own_gs cap2 ≤ 0 + own_gs cap ∧ Fld Z h w "com/example/ringshift/ringshift/io/BinaryWriter" "size" "I" (.int sz2) ∧ Fld Z h w "com/example/ringshift/ringshift/io/BinaryWriter" "bytes" "[B" (.ref b2) ∧ own_Buf Z h b2 k2 cap2) := by
 refine own_bodyX (plainFor_of_name own_pn_com_example_ringshift_ringshift_io_BinaryWriter) (fun p e s m below meth c s₁ hx hby hml0 hrt hlk hown0 hnm hZ X0 e0 => ?_)
 have N0 := Fr.nil n0
 have hown : s.vm.findClass "com/example/ringshift/ringshift/io/BinaryWriter" = some m.cls := hown0
 have hml : c.maxLocals = 2 := hml0
 refine own_castG (own_ef21 m w) ?_
 have IC0 : 0 + own_gc cap ≤ 0 + own_gc cap := Nat.le_refl _
 have IS0 : 0 + own_gs cap ≤ 0 + own_gs cap := Nat.le_refl _
 have hS0 := hS
 obtain ⟨sc0, sq0, sl0, su0⟩ := hS0
 have bz_b : b = b ∨ h0.size ≤ b := Or.inl rfl
 refine oS (fun t k => XS.aloadN X0.here hx rfl (hb hby op81_9_0) rfl rfl k) ?_
 show oG _ _ _ _ s₁ (mkF m 1 #[oR w, .val .null] [.null])
 refine oS (fun t k => XS.ifnonnullNo X0.here hx rfl (hb hby op81_9_1) rfl k) ?_
 refine oS (fun t k => XS.aloadN X0.here hx rfl (hb hby op81_9_4) rfl rfl k) ?_
 refine oS (fun t k => XS.iconst X0.here hx rfl (hb hby op81_9_5) k) ?_
 show oG _ _ _ _ s₁ (mkF m 6 #[oR w, .val .null] [(.int (-1 : Int32)), .ref w])
 have hS1 : own_St cap sz N := ⟨sc0, sq0, by omega, by omega⟩
 have hN1 : N + 4 ≤ 128 := by omega
 refine own_callVX X0 hx hZ (y := oy16) (z := oy16) hown (oW hw 130 rfl) (oW hw 131 rfl) (notFace_of_selects (args := #[]) (mvT hZ (oW hw 133 rfl))) (oW hw 133 rfl) (oW hw 132 rfl) (oW hw 134 rfl) (oW hw 64 rfl) (by decide) 0 E_w [(.int (-1 : Int32))] [] (own_wi l Z a0 hw [] w b kb cap sz N (-1 : Int32) h0 n0 Z0 E_w F_w_size F_w_bytes V_b hS1 hN1 g_w g_b nwb) e0  (oB rfl) (oB rfl) (own_need IC0 (oB rfl)) (own_need IS0 (oB rfl)) (g := (mkF m 6 #[oR w, .val .null] [(.int (-1 : Int32)), .ref w])) rfl (by rw [hml]; rfl) own_pd15 rfl rfl (by show 2 * 0 + _ ≤ _; exact Nat.le_of_eq rfl) (hb hby op81_9_6) ?_
 intro T2 v2 L2 xc2 xs2 X2 hQ2
 obtain ⟨b2_0, k2_0, cp2, z2, rfl, N2q, Kq2, zq2, hT2, hkC2, hkS2, q2_0, q2_1, q2_2⟩ := hQ2
 obtain ⟨sc2, sq2, sl2, su2⟩ := hT2
 have N2 := Fr.app N0 N2q
 have K2 := (Keep.refl h0 [w, b]).trans Kq2 (allS (Or.inl (List.mem_of_getElem? (i := 0) rfl)) (allS (Or.inl (List.mem_of_getElem? (i := 1) rfl)) all0))
 have g_b2_0 : n0 ≤ b2_0 := own_sz2 zq2 g_b Z0
 have bz_b2_0 : b2_0 = b ∨ h0.size ≤ b2_0 := own_bz zq2 bz_b (Keep.refl h0 [w, b]).1
 have ne_w_b2_0 : w ≠ b2_0 := own_ne2 nwb E_w.lt zq2
 have IC2 := own_acc IC0 hkC2
 have IS2 := own_acc IS0 hkS2
 refine oS (fun t k => XS.goto X2.here hx rfl (pc0 := 9) (pc' := 17) rfl (hb hby op81_9_9) (by decide) (by decide) k) ?_
 show oG _ _ _ _ T2 (mkF m 17 #[oR w, .val .null] [.ref w])
 have hSf : own_St cp2 z2 (N + 4) := ⟨sc2, by omega, by omega, by omega⟩
 exact own_retAX X2 hx hlk hrt rfl rfl rfl (hb hby op81_9_17) (by exact ⟨b2_0, k2_0, cp2, z2, rfl, N2, K2, bz_b2_0, hSf, (own_fin IC2 (oB rfl)), (own_fin IS2 (oB rfl)), q2_0, q2_1, q2_2⟩)
theorem own_ef22 (m : MethodId) (x0 : Addr) (x1 : Addr) : entryFrame m #[.ref x0, .ref x1] 3 = mkF m 0 #[.val (.ref x0), .val (.ref x1), .unset] [] := by first | (simp [entryFrame, mkF, argsToLocals, Value.category]; done) | rfl
theorem op81_18_0 : decode prog_81_method_18_code 0 = .ok (.aload_n 1, 1) := by decide +kernel
theorem op81_18_1 : decode prog_81_method_18_code 1 = .ok (.getstatic 110, 3) := by decide +kernel
theorem op81_18_4 : decode prog_81_method_18_code 4 = .ok (.invokevirtual 116, 3) := by decide +kernel
theorem own_pd16 : parseMethodDescriptor "(Ljava/nio/charset/Charset;)[B" = some ⟨[(.object "java/nio/charset/Charset")], some (.array .byte)⟩ := by decide +kernel
theorem op81_18_7 : decode prog_81_method_18_code 7 = .ok (.astore_n 2, 1) := by decide +kernel
theorem op81_18_8 : decode prog_81_method_18_code 8 = .ok (.aload_n 0, 1) := by decide +kernel
theorem op81_18_9 : decode prog_81_method_18_code 9 = .ok (.aload_n 2, 1) := by decide +kernel
theorem op81_18_10 : decode prog_81_method_18_code 10 = .ok (.arraylength, 1) := by decide +kernel
theorem op81_18_11 : decode prog_81_method_18_code 11 = .ok (.invokevirtual 39, 3) := by decide +kernel
theorem op81_18_14 : decode prog_81_method_18_code 14 = .ok (.pop, 1) := by decide +kernel
theorem op81_18_15 : decode prog_81_method_18_code 15 = .ok (.aload_n 0, 1) := by decide +kernel
theorem op81_18_16 : decode prog_81_method_18_code 16 = .ok (.aload_n 2, 1) := by decide +kernel
theorem op81_18_17 : decode prog_81_method_18_code 17 = .ok (.arraylength, 1) := by decide +kernel
theorem op81_18_18 : decode prog_81_method_18_code 18 = .ok (.invokevirtual 18, 3) := by decide +kernel
theorem op81_18_21 : decode prog_81_method_18_code 21 = .ok (.aload_n 2, 1) := by decide +kernel
theorem op81_18_22 : decode prog_81_method_18_code 22 = .ok (.iconst 0, 1) := by decide +kernel
theorem op81_18_23 : decode prog_81_method_18_code 23 = .ok (.aload_n 0, 1) := by decide +kernel
theorem op81_18_24 : decode prog_81_method_18_code 24 = .ok (.getfield 14, 3) := by decide +kernel
theorem op81_18_27 : decode prog_81_method_18_code 27 = .ok (.aload_n 0, 1) := by decide +kernel
theorem op81_18_28 : decode prog_81_method_18_code 28 = .ok (.getfield 21, 3) := by decide +kernel
theorem op81_18_31 : decode prog_81_method_18_code 31 = .ok (.aload_n 2, 1) := by decide +kernel
theorem op81_18_32 : decode prog_81_method_18_code 32 = .ok (.arraylength, 1) := by decide +kernel
theorem op81_18_33 : decode prog_81_method_18_code 33 = .ok (.invokestatic 120, 3) := by decide +kernel
theorem op81_18_36 : decode prog_81_method_18_code 36 = .ok (.aload_n 0, 1) := by decide +kernel
theorem op81_18_37 : decode prog_81_method_18_code 37 = .ok (.dup, 1) := by decide +kernel
theorem op81_18_38 : decode prog_81_method_18_code 38 = .ok (.getfield 21, 3) := by decide +kernel
theorem op81_18_41 : decode prog_81_method_18_code 41 = .ok (.aload_n 2, 1) := by decide +kernel
theorem op81_18_42 : decode prog_81_method_18_code 42 = .ok (.arraylength, 1) := by decide +kernel
theorem op81_18_43 : decode prog_81_method_18_code 43 = .ok (.iadd, 1) := by decide +kernel
theorem op81_18_44 : decode prog_81_method_18_code 44 = .ok (.putfield 21, 3) := by decide +kernel
theorem op81_18_47 : decode prog_81_method_18_code 47 = .ok (.aload_n 0, 1) := by decide +kernel
theorem op81_18_48 : decode prog_81_method_18_code 48 = .ok (.areturn, 1) := by decide +kernel
set_option maxRecDepth 65536 in
set_option maxHeartbeats 40000000 in
theorem own_we (l : Launch) (Z : State) (a0 : Array Value) (hw : ∀ d ∈ tables_1, d.before a0 Z = true) (ws : List Jvm.Cond) (w : Addr) (b : Addr) (kb : ClassId) (cap : Int32) (sz : Int32) (N : Int) (a : Addr) (u8 : Addr) (va : Addr) (ka : ClassId) (c0 : Int32) (c1 : Int32) (zc : Int32) (fm : Value) (h0 : Heap) (n0 : Nat) (Z0 : n0 ≤ h0.size) (E_w : Exa Z h0 w "com/example/ringshift/ringshift/io/BinaryWriter") (F_w_size : Fld Z h0 w "com/example/ringshift/ringshift/io/BinaryWriter" "size" "I" (.int sz)) (F_w_bytes : Fld Z h0 w "com/example/ringshift/ringshift/io/BinaryWriter" "bytes" "[B" (.ref b)) (V_b : own_Buf Z h0 b kb cap) (E_a : Exa Z h0 a "java/lang/String") (F_a_coder : Fld Z h0 a "java/lang/String" "coder" "B" (.int 0)) (F_a_value : Fld Z h0 a "java/lang/String" "value" "[B" (.ref va)) (V_va : Arv Z h0 va ka .byte (2 : Int32) [(.int (c0.toInt8.toInt32)), (.int (c1.toInt8.toInt32))] (.int 0)) (S_C : Sta Z h0 "java/lang/String" "COMPACT_STRINGS" "Z" (.int zc)) (S_I : Sta Z h0 "sun/nio/cs/UTF_8" "INSTANCE" "Lsun/nio/cs/UTF_8;" (.ref u8)) (S_U : Sta Z h0 "java/nio/charset/StandardCharsets" "UTF_8" "Ljava/nio/charset/Charset;" (.ref u8)) (hS : own_St cap sz N) (hN : N + (4 + own_u c0 + own_u c1) ≤ 128) (g_w : n0 ≤ w) (g_b : n0 ≤ b) (nwb : ¬ (w = b)) (hc0a : ¬ (c0 < (0 : Int32))) (hc0b : ¬ ((255 : Int32) < c0)) (hc1a : ¬ (c1 < (0 : Int32))) (hc1b : ¬ ((255 : Int32) < c1)) (hz : ¬ (zc = (0 : Int32))) (hne : ¬ (c0 < (128 : Int32) ∧ c1 < (128 : Int32))) (naw : ¬ (a = w)) (nab : ¬ (a = b)) (nvaw : ¬ (va = w)) (nvab : ¬ (va = b)) :
   own_MetX l Z oy15 prog_81_method_18_code 3 (some (.object "com/example/ringshift/ringshift/io/BinaryWriter")) ws ({ frames := 5, cells := 2 + own_gc cap, slots := 7 + own_gs cap, locals := 125 } : Room) #[.ref w, .ref a] h0 (fun v h L k n => ∃ (b2 : Addr) (k2 : ClassId) (cap2 sz2 : Int32), v = some (.ref w) ∧ Fr n0 L ∧ Keep h0 h [w, b] ∧ (b2 = b ∨ h0.size ≤ b2) ∧ own_St cap2 sz2 (N + (4 + own_u c0 + own_u c1)) ∧ k + own_gc cap2 ≤ 2 + own_gc cap ∧ n + own_gs cap2 ≤ 7 + own_gs cap ∧ Fld Z h w "com/example/ringshift/ringshift/io/BinaryWriter" "size" "I" (.int sz2) ∧ Fld Z h w "com/example/ringshift/ringshift/io/BinaryWriter" "bytes" "[B" (.ref b2) ∧ own_Buf Z h b2 k2 cap2) := by
 refine own_bodyX (plainFor_of_name own_pn_com_example_ringshift_ringshift_io_BinaryWriter) (fun p e s m below meth c s₁ hx hby hml0 hrt hlk hown0 hnm hZ X0 e0 => ?_)
 have N0 := Fr.nil n0
 have hown : s.vm.findClass "com/example/ringshift/ringshift/io/BinaryWriter" = some m.cls := hown0
 have hml : c.maxLocals = 3 := hml0
 refine own_castG (own_ef22 m w a) ?_
 have IC0 : 0 + own_gc cap ≤ 0 + own_gc cap := Nat.le_refl _
 have IS0 : 0 + own_gs cap ≤ 0 + own_gs cap := Nat.le_refl _
 have hS0 := hS
 obtain ⟨sc0, sq0, sl0, su0⟩ := hS0
 have bz_b : b = b ∨ h0.size ≤ b := Or.inl rfl
 show oG _ _ _ _ s₁ (mkF m 0 #[oR w, oR a, .unset] [])
 by_cases g0 : c0 < (128 : Int32)
 · by_cases g1 : c1 < (128 : Int32)
   · exact absurd ⟨g0, g1⟩ hne
   · have sg0 := own_sgP hc0a g0
     have uu0 := own_u1 g0
     have sg1 := own_sgN hc1b g1
     have uu1 := own_u2 g1
     show oG _ _ _ _ s₁ (mkF m 0 #[oR w, oR a, .unset] [])
     refine oS (fun t k => XS.aloadN X0.here hx rfl (hb hby op81_18_0) rfl rfl k) ?_
     show oG _ _ _ _ s₁ (mkF m 1 #[oR w, oR a, .unset] [.ref a])
     obtain ⟨T1, X1, e1, st1⟩ := getS2 X0 hx hZ hown (host := "") (Or.inl (oW hw 206 rfl)) Via.refl e0 S_U (g := (mkF m 1 #[oR w, oR a, .unset] [.ref a])) rfl (hb hby op81_18_1)
     refine oS st1 ?_
     show oG _ _ _ _ T1 (mkF m 4 #[oR w, oR a, .unset] [.ref u8, .ref a])
     refine own_callV X1 hx hZ (y := oy31) (z := oy31) hown (oW hw 208 rfl) (oW hw 209 rfl) (notFace_of_selects (args := #[]) (mvT hZ (oW hw 211 rfl))) (oW hw 211 rfl) (oW hw 210 rfl) (oW hw 212 rfl) (oW hw 3 rfl) (by decide) 0 E_a [.ref u8] [] (own_gb_AN l Z a0 hw [] a u8 va ka (c0.toInt8.toInt32) (c1.toInt8.toInt32) zc h0 n0 Z0 E_a F_a_coder F_a_value V_va S_I S_C sg0 sg1 hz) e1  (oB rfl) (oB rfl) (own_needL IC0 (oB rfl)) (own_needL IS0 (oB rfl)) (g := (mkF m 4 #[oR w, oR a, .unset] [.ref u8, .ref a])) rfl (by rw [hml]; rfl) own_pd16 rfl rfl (by show 2 * 0 + _ ≤ _; exact Nat.le_of_eq rfl) (hb hby op81_18_4) ?_
     intro T2 v2 L2 X2 hQ2
     obtain ⟨b2_0, k2_0, rfl, N2q, Kq2, zq2_0, q2_0⟩ := hQ2
     have N2 := Fr.app N0 N2q
     have K2 := (Keep.refl h0 [w, b]).trans Kq2 all0
     have g_b2_0 : n0 ≤ b2_0 := Nat.le_trans Z0 zq2_0
     have sz_b2_0 : h0.size ≤ b2_0 := Nat.le_trans (Keep.refl h0 [w, b]).1 zq2_0
     have ne_w_b2_0 : w ≠ b2_0 := Nat.ne_of_lt (Nat.lt_of_lt_of_le E_w.lt zq2_0)
     have ne_b_b2_0 : b ≠ b2_0 := Nat.ne_of_lt (Nat.lt_of_lt_of_le V_b.lt zq2_0)
     have ne_a_b2_0 : a ≠ b2_0 := Nat.ne_of_lt (Nat.lt_of_lt_of_le E_a.lt zq2_0)
     have ne_va_b2_0 : va ≠ b2_0 := Nat.ne_of_lt (Nat.lt_of_lt_of_le V_va.lt zq2_0)
     have q2_0' : own_Buf Z T2.heap b2_0 k2_0 (3 : Int32) := q2_0
     have IC2 := own_accL 2 IC0
     have IS2 := own_accL 7 IS0
     refine oS (fun t k => XS.astoreN X2.here hx rfl (hb hby op81_18_7) rfl rfl (l' := #[oR w, oR a, oR b2_0]) rfl k) ?_
     refine oS (fun t k => XS.aloadN X2.here hx rfl (hb hby op81_18_8) rfl rfl k) ?_
     refine oS (fun t k => XS.aloadN X2.here hx rfl (hb hby op81_18_9) rfl rfl k) ?_
     show oG _ _ _ _ T2 (mkF m 10 #[oR w, oR a, oR b2_0] [.ref b2_0, .ref w])
     refine oS (own_bufLen X2 hx hZ rfl q2_0' (g := (mkF m 10 #[oR w, oR a, oR b2_0] [.ref b2_0, .ref w])) rfl rfl (hb hby op81_18_10)) ?_
     show oG _ _ _ _ T2 (mkF m 11 #[oR w, oR a, oR b2_0] [.int 3, .ref w])
     have hS3 : own_St cap sz N := ⟨sc0, sq0, by omega, by omega⟩
     have hN3 : N + 4 ≤ 128 := by omega
     have E_w_v4 := (E_w.keep Kq2)
     have F_w_size_v5 := (F_w_size.keep Kq2 nin0)
     have F_w_bytes_v6 := (F_w_bytes.keep Kq2 nin0)
     have V_b_v7 := (V_b.keep Kq2 nin0)
     refine own_callVX X2 hx hZ (y := oy16) (z := oy16) hown (oW hw 130 rfl) (oW hw 131 rfl) (notFace_of_selects (args := #[]) (mvT hZ (oW hw 133 rfl))) (oW hw 133 rfl) (oW hw 132 rfl) (oW hw 134 rfl) (oW hw 64 rfl) (by decide) 0 E_w_v4 [.int 3] [] (own_wi l Z a0 hw [] w b kb cap sz N 3 T2.heap n0 (Nat.le_trans Z0 K2.1) E_w_v4 F_w_size_v5 F_w_bytes_v6 V_b_v7 hS3 hN3 g_w g_b nwb) rfl  (oB rfl) (oB rfl) (own_need IC2 (oB rfl)) (own_need IS2 (oB rfl)) (g := (mkF m 11 #[oR w, oR a, oR b2_0] [.int 3, .ref w])) rfl (by rw [hml]; rfl) own_pd15 rfl rfl (by show 2 * 0 + _ ≤ _; exact Nat.le_of_eq rfl) (hb hby op81_18_11) ?_
     intro T8 v8 L8 xc8 xs8 X8 hQ8
     have E_a_v9 := (E_a.keep Kq2)
     have V_va_v10 := (V_va.keep Kq2 nin0)
     obtain ⟨b8_0, k8_0, cp8, z8, rfl, N8q, Kq8, zq8, hT8, hkC8, hkS8, q8_0, q8_1, q8_2⟩ := hQ8
     obtain ⟨sc8, sq8, sl8, su8⟩ := hT8
     have N8 := Fr.app N2 N8q
     have K8 := K2.trans Kq8 (allS (Or.inl (List.mem_of_getElem? (i := 0) rfl)) (allS (Or.inl (List.mem_of_getElem? (i := 1) rfl)) all0))
     have g_b8_0 : n0 ≤ b8_0 := own_sz2 zq8 g_b (Nat.le_trans Z0 K2.1)
     have bz_b8_0 : b8_0 = b ∨ h0.size ≤ b8_0 := own_bz zq8 bz_b K2.1
     have ne_w_b8_0 : w ≠ b8_0 := own_ne2 nwb E_w_v4.lt zq8
     have ne_a_b8_0 : a ≠ b8_0 := own_ne2 nab E_a_v9.lt zq8
     have ne_va_b8_0 : va ≠ b8_0 := own_ne2 nvab V_va_v10.lt zq8
     have ne_b2_0_b8_0 : b2_0 ≠ b8_0 := own_ne2 (Ne.symm ne_b_b2_0) q2_0'.lt zq8
     have IC8 := own_acc IC2 hkC8
     have IS8 := own_acc IS2 hkS8
     refine oS (fun t k => XS.pop X8.here hx rfl (hb hby op81_18_14) rfl rfl k) ?_
     refine oS (fun t k => XS.aloadN X8.here hx rfl (hb hby op81_18_15) rfl rfl k) ?_
     refine oS (fun t k => XS.aloadN X8.here hx rfl (hb hby op81_18_16) rfl rfl k) ?_
     show oG _ _ _ _ T8 (mkF m 17 #[oR w, oR a, oR b2_0] [.ref b2_0, .ref w])
     have q2_0'_v11 := (q2_0'.keep Kq8 (ninS (Ne.symm ne_w_b2_0) (ninS (Ne.symm ne_b_b2_0) nin0)))
     refine oS (own_bufLen X8 hx hZ rfl q2_0'_v11 (g := (mkF m 17 #[oR w, oR a, oR b2_0] [.ref b2_0, .ref w])) rfl rfl (hb hby op81_18_17)) ?_
     show oG _ _ _ _ T8 (mkF m 18 #[oR w, oR a, oR b2_0] [.int 3, .ref w])
     have hS12 : own_St cp8 z8 (N + 4) := ⟨sc8, sq8, by omega, by omega⟩
     have hN12 : (N + 4) + 3 ≤ 128 := by omega
     have E_w_v13 := (E_w_v4.keep Kq8)
     refine own_callPX X8 hx hZ (y := oy13) hown (oW hw 135 rfl) (oW hw 136 rfl) (oW hw 137 rfl) (oW hw 63 rfl) (oW hw 138 rfl) (oW hw 64 rfl) (by decide) 0 E_w_v13 [.int 3] [] (own_room l Z a0 hw [] w b8_0 k8_0 cp8 z8 (N + 4) 3 3 T8.heap n0 (Nat.le_trans Z0 K8.1) E_w_v13 q8_0 q8_1 q8_2 hS12 hN12 g_w g_b8_0 ne_w_b8_0 (by decide) (by decide)) rfl  (oB rfl) (oB rfl) (own_need IC8 (oB rfl)) (own_need IS8 (oB rfl)) (g := (mkF m 18 #[oR w, oR a, oR b2_0] [.int 3, .ref w])) rfl (by rw [hml]; rfl) own_pd14 rfl rfl (by show 2 * 0 + _ ≤ _; exact Nat.le_of_eq rfl) (hb hby op81_18_18) ?_
     intro T14 v14 L14 xc14 xs14 X14 hQ14
     have E_a_v15 := (E_a_v9.keep Kq8)
     have V_va_v16 := (V_va_v10.keep Kq8 (ninS nvaw (ninS nvab nin0)))
     obtain ⟨b14_0, k14_0, cp14, z14, rfl, N14q, Kq14, zq14, hT14, hkC14, hkS14, q14_0, q14_1, q14_2, y14_0⟩ := hQ14
     obtain ⟨sc14, sq14, sl14, su14⟩ := hT14
     have N14 := Fr.app N8 N14q
     have K14 := K8.trans Kq14 (allS (Or.inl (List.mem_of_getElem? (i := 0) rfl)) all0)
     have g_b14_0 : n0 ≤ b14_0 := own_sz2 zq14 g_b8_0 (Nat.le_trans Z0 K8.1)
     have bz_b14_0 : b14_0 = b ∨ h0.size ≤ b14_0 := own_bz zq14 bz_b8_0 K8.1
     have ne_w_b14_0 : w ≠ b14_0 := own_ne2 ne_w_b8_0 E_w_v13.lt zq14
     have ne_a_b14_0 : a ≠ b14_0 := own_ne2 ne_a_b8_0 E_a_v15.lt zq14
     have ne_va_b14_0 : va ≠ b14_0 := own_ne2 ne_va_b8_0 V_va_v16.lt zq14
     have ne_b2_0_b14_0 : b2_0 ≠ b14_0 := own_ne2 ne_b2_0_b8_0 q2_0'_v11.lt zq14
     have IC14 := own_acc IC8 hkC14
     have IS14 := own_acc IS8 hkS14
     refine oS (fun t k => XS.aloadN X14.here hx rfl (hb hby op81_18_21) rfl rfl k) ?_
     refine oS (fun t k => XS.iconst X14.here hx rfl (hb hby op81_18_22) k) ?_
     refine oS (fun t k => XS.aloadN X14.here hx rfl (hb hby op81_18_23) rfl rfl k) ?_
     show oG _ _ _ _ T14 (mkF m 24 #[oR w, oR a, oR b2_0] [.ref w, .int 0, .ref b2_0])
     obtain ⟨T17, X17, e17, st17⟩ := getF X14 hx hZ hown (host := "") (Or.inl (oW hw 72 rfl)) Via.refl rfl q14_1 (g := (mkF m 24 #[oR w, oR a, oR b2_0] [.ref w, .int 0, .ref b2_0])) rfl rfl (hb hby op81_18_24)
     refine oS st17 ?_
     refine oS (fun t k => XS.aloadN X17.here hx rfl (hb hby op81_18_27) rfl rfl k) ?_
     show oG _ _ _ _ T17 (mkF m 28 #[oR w, oR a, oR b2_0] [.ref w, .ref b14_0, .int 0, .ref b2_0])
     obtain ⟨T18, X18, e18, st18⟩ := getF X17 hx hZ hown (host := "") (Or.inl (oW hw 86 rfl)) Via.refl e17 q14_0 (g := (mkF m 28 #[oR w, oR a, oR b2_0] [.ref w, .ref b14_0, .int 0, .ref b2_0])) rfl rfl (hb hby op81_18_28)
     refine oS st18 ?_
     refine oS (fun t k => XS.aloadN X18.here hx rfl (hb hby op81_18_31) rfl rfl k) ?_
     show oG _ _ _ _ T18 (mkF m 32 #[oR w, oR a, oR b2_0] [.ref b2_0, .int z14, .ref b14_0, .int 0, .ref b2_0])
     have q2_0'_v19 := (q2_0'_v11.keep Kq14 (ninS (Ne.symm ne_w_b2_0) nin0))
     refine oS (own_bufLen X18 hx hZ e18 q2_0'_v19 (g := (mkF m 32 #[oR w, oR a, oR b2_0] [.ref b2_0, .int z14, .ref b14_0, .int 0, .ref b2_0])) rfl rfl (hb hby op81_18_32)) ?_
     show oG _ _ _ _ T18 (mkF m 33 #[oR w, oR a, oR b2_0] [.int 3, .int z14, .ref b14_0, .int 0, .ref b2_0])
     obtain ⟨T20, h20, L20, X20, e20, N20, Kq20, V20, st20⟩ := own_bufCopy X18 hx hZ hown (oW hw 236 rfl) (oW hw 201 rfl) (oW hw 199 rfl) (oW hw 200 rfl) e18 q2_0'_v19 q14_2 (by decide) (own_cpz sq14 (by omega)) (by decide) (by decide) (own_cpl sq14 (by omega) (j := 3) (by decide) (by decide) (by omega)) N14 g_b14_0 (g := (mkF m 33 #[oR w, oR a, oR b2_0] [.int 3, .int z14, .ref b14_0, .int 0, .ref b2_0])) rfl (by rw [hml]; rfl) rfl (hb hby op81_18_33) (oB rfl) (W := 0) (by show 2 * 0 + _ ≤ _; exact Nat.le_of_eq rfl) (oB rfl)
     refine oS st20 ?_
     have K20 := K14.trans Kq20 (allS (own_wz bz_b14_0 (List.mem_of_getElem? (i := 1) rfl)) all0)
     refine oS (fun t k => XS.aloadN X20.here hx rfl (hb hby op81_18_36) rfl rfl k) ?_
     refine oS (fun t k => XS.dup X20.here hx rfl (hb hby op81_18_37) rfl rfl k) ?_
     show oG _ _ _ _ T20 (mkF m 38 #[oR w, oR a, oR b2_0] [.ref w, .ref w])
     have q14_0_v22 := (q14_0.keep Kq20 (ninS ne_w_b14_0 nin0))
     obtain ⟨T21, X21, e21, st21⟩ := getF X20 hx hZ hown (host := "") (Or.inl (oW hw 86 rfl)) Via.refl e20 q14_0_v22 (g := (mkF m 38 #[oR w, oR a, oR b2_0] [.ref w, .ref w])) rfl rfl (hb hby op81_18_38)
     refine oS st21 ?_
     refine oS (fun t k => XS.aloadN X21.here hx rfl (hb hby op81_18_41) rfl rfl k) ?_
     show oG _ _ _ _ T21 (mkF m 42 #[oR w, oR a, oR b2_0] [.ref b2_0, .int z14, .ref w])
     have q2_0'_v23 := (q2_0'_v19.keep Kq20 (ninS ne_b2_0_b14_0 nin0))
     refine oS (own_bufLen X21 hx hZ e21 q2_0'_v23 (g := (mkF m 42 #[oR w, oR a, oR b2_0] [.ref b2_0, .int z14, .ref w])) rfl rfl (hb hby op81_18_42)) ?_
     refine oS (fun t k => XS.iadd X21.here hx rfl (hb hby op81_18_43) rfl k) ?_
     show oG _ _ _ _ T21 (mkF m 44 #[oR w, oR a, oR b2_0] [(.int (z14 + (3 : Int32))), .ref w])
     have E_w_v25 := ((E_w_v13.keep Kq14).keep Kq20)
     obtain ⟨T24, h24, X24, e24, W24, st24⟩ := putF X21 hx hZ hown (host := "") (Or.inl (oW hw 86 rfl)) Via.refl e21 q14_0_v22 E_w_v25 (Or.inl (oW hw 87 rfl)) (oW hw 63 rfl) (ty := .int) (by decide) rfl rfl (g := (mkF m 44 #[oR w, oR a, oR b2_0] [(.int (z14 + (3 : Int32))), .ref w])) rfl rfl (hb hby op81_18_44)
     refine oS st24 ?_
     have F24 := q14_0_v22.same W24
     have K24 := K20.wr W24 (Or.inl (List.mem_of_getElem? (i := 0) rfl))
     have N24 := Fr.snoc X24 N20 g_w
     have ti26 : (z14 + (3 : Int32)).toInt = ((N + 4) + 3) := own_addT sq14 (by decide) (by omega) (by omega)
     refine oS (fun t k => XS.aloadN X24.here hx rfl (hb hby op81_18_47) rfl rfl k) ?_
     show oG _ _ _ _ T24 (mkF m 48 #[oR w, oR a, oR b2_0] [.ref w])
     have hSf : own_St cp14 (z14 + (3 : Int32)) (N + (4 + own_u c0 + own_u c1)) := ⟨sc14, by omega, by omega, by omega⟩
     have q14_1_v27 := ((q14_1.keep Kq20 (ninS ne_w_b14_0 nin0)).other W24 (Or.inr (slot_ne (Or.inl (oW hw 73 rfl)) (Or.inl (oW hw 87 rfl)) (by decide) (t := (.array .byte)) (t' := .int) (by decide) (by decide))))
     have V20_v28 := (V20.other W24 (Ne.symm ne_w_b14_0))
     exact own_retAX X24 hx hlk hrt rfl rfl rfl (hb hby op81_18_48) (by rw [e24]; exact ⟨b14_0, k14_0, cp14, (z14 + (3 : Int32)), rfl, N24, K24, bz_b14_0, hSf, (own_fin IC14 (oB rfl)), (own_fin IS14 (oB rfl)), F24, q14_1_v27, V20_v28⟩)
 · by_cases g1 : c1 < (128 : Int32)
   · have sg0 := own_sgN hc0b g0
     have uu0 := own_u2 g0
     have sg1 := own_sgP hc1a g1
     have uu1 := own_u1 g1
     show oG _ _ _ _ s₁ (mkF m 0 #[oR w, oR a, .unset] [])
     refine oS (fun t k => XS.aloadN X0.here hx rfl (hb hby op81_18_0) rfl rfl k) ?_
     show oG _ _ _ _ s₁ (mkF m 1 #[oR w, oR a, .unset] [.ref a])
     obtain ⟨T29, X29, e29, st29⟩ := getS2 X0 hx hZ hown (host := "") (Or.inl (oW hw 206 rfl)) Via.refl e0 S_U (g := (mkF m 1 #[oR w, oR a, .unset] [.ref a])) rfl (hb hby op81_18_1)
     refine oS st29 ?_
     show oG _ _ _ _ T29 (mkF m 4 #[oR w, oR a, .unset] [.ref u8, .ref a])
     refine own_callV X29 hx hZ (y := oy31) (z := oy31) hown (oW hw 208 rfl) (oW hw 209 rfl) (notFace_of_selects (args := #[]) (mvT hZ (oW hw 211 rfl))) (oW hw 211 rfl) (oW hw 210 rfl) (oW hw 212 rfl) (oW hw 3 rfl) (by decide) 0 E_a [.ref u8] [] (own_gb_NA l Z a0 hw [] a u8 va ka (c0.toInt8.toInt32) (c1.toInt8.toInt32) zc h0 n0 Z0 E_a F_a_coder F_a_value V_va S_I S_C sg0 sg1 hz) e29  (oB rfl) (oB rfl) (own_needL IC0 (oB rfl)) (own_needL IS0 (oB rfl)) (g := (mkF m 4 #[oR w, oR a, .unset] [.ref u8, .ref a])) rfl (by rw [hml]; rfl) own_pd16 rfl rfl (by show 2 * 0 + _ ≤ _; exact Nat.le_of_eq rfl) (hb hby op81_18_4) ?_
     intro T30 v30 L30 X30 hQ30
     obtain ⟨b30_0, k30_0, rfl, N30q, Kq30, zq30_0, q30_0⟩ := hQ30
     have N30 := Fr.app N0 N30q
     have K30 := (Keep.refl h0 [w, b]).trans Kq30 all0
     have g_b30_0 : n0 ≤ b30_0 := Nat.le_trans Z0 zq30_0
     have sz_b30_0 : h0.size ≤ b30_0 := Nat.le_trans (Keep.refl h0 [w, b]).1 zq30_0
     have ne_w_b30_0 : w ≠ b30_0 := Nat.ne_of_lt (Nat.lt_of_lt_of_le E_w.lt zq30_0)
     have ne_b_b30_0 : b ≠ b30_0 := Nat.ne_of_lt (Nat.lt_of_lt_of_le V_b.lt zq30_0)
     have ne_a_b30_0 : a ≠ b30_0 := Nat.ne_of_lt (Nat.lt_of_lt_of_le E_a.lt zq30_0)
     have ne_va_b30_0 : va ≠ b30_0 := Nat.ne_of_lt (Nat.lt_of_lt_of_le V_va.lt zq30_0)
     have q30_0' : own_Buf Z T30.heap b30_0 k30_0 (3 : Int32) := q30_0
     have IC30 := own_accL 2 IC0
     have IS30 := own_accL 7 IS0
     refine oS (fun t k => XS.astoreN X30.here hx rfl (hb hby op81_18_7) rfl rfl (l' := #[oR w, oR a, oR b30_0]) rfl k) ?_
     refine oS (fun t k => XS.aloadN X30.here hx rfl (hb hby op81_18_8) rfl rfl k) ?_
     refine oS (fun t k => XS.aloadN X30.here hx rfl (hb hby op81_18_9) rfl rfl k) ?_
     show oG _ _ _ _ T30 (mkF m 10 #[oR w, oR a, oR b30_0] [.ref b30_0, .ref w])
     refine oS (own_bufLen X30 hx hZ rfl q30_0' (g := (mkF m 10 #[oR w, oR a, oR b30_0] [.ref b30_0, .ref w])) rfl rfl (hb hby op81_18_10)) ?_
     show oG _ _ _ _ T30 (mkF m 11 #[oR w, oR a, oR b30_0] [.int 3, .ref w])
     have hS31 : own_St cap sz N := ⟨sc0, sq0, by omega, by omega⟩
     have hN31 : N + 4 ≤ 128 := by omega
     have E_w_v32 := (E_w.keep Kq30)
     have F_w_size_v33 := (F_w_size.keep Kq30 nin0)
     have F_w_bytes_v34 := (F_w_bytes.keep Kq30 nin0)
     have V_b_v35 := (V_b.keep Kq30 nin0)
     refine own_callVX X30 hx hZ (y := oy16) (z := oy16) hown (oW hw 130 rfl) (oW hw 131 rfl) (notFace_of_selects (args := #[]) (mvT hZ (oW hw 133 rfl))) (oW hw 133 rfl) (oW hw 132 rfl) (oW hw 134 rfl) (oW hw 64 rfl) (by decide) 0 E_w_v32 [.int 3] [] (own_wi l Z a0 hw [] w b kb cap sz N 3 T30.heap n0 (Nat.le_trans Z0 K30.1) E_w_v32 F_w_size_v33 F_w_bytes_v34 V_b_v35 hS31 hN31 g_w g_b nwb) rfl  (oB rfl) (oB rfl) (own_need IC30 (oB rfl)) (own_need IS30 (oB rfl)) (g := (mkF m 11 #[oR w, oR a, oR b30_0] [.int 3, .ref w])) rfl (by rw [hml]; rfl) own_pd15 rfl rfl (by show 2 * 0 + _ ≤ _; exact Nat.le_of_eq rfl) (hb hby op81_18_11) ?_
     intro T36 v36 L36 xc36 xs36 X36 hQ36
     have E_a_v37 := (E_a.keep Kq30)
     have V_va_v38 := (V_va.keep Kq30 nin0)
     obtain ⟨b36_0, k36_0, cp36, z36, rfl, N36q, Kq36, zq36, hT36, hkC36, hkS36, q36_0, q36_1, q36_2⟩ := hQ36
     obtain ⟨sc36, sq36, sl36, su36⟩ := hT36
     have N36 := Fr.app N30 N36q
     have K36 := K30.trans Kq36 (allS (Or.inl (List.mem_of_getElem? (i := 0) rfl)) (allS (Or.inl (List.mem_of_getElem? (i := 1) rfl)) all0))
     have g_b36_0 : n0 ≤ b36_0 := own_sz2 zq36 g_b (Nat.le_trans Z0 K30.1)
     have bz_b36_0 : b36_0 = b ∨ h0.size ≤ b36_0 := own_bz zq36 bz_b K30.1
     have ne_w_b36_0 : w ≠ b36_0 := own_ne2 nwb E_w_v32.lt zq36
     have ne_a_b36_0 : a ≠ b36_0 := own_ne2 nab E_a_v37.lt zq36
     have ne_va_b36_0 : va ≠ b36_0 := own_ne2 nvab V_va_v38.lt zq36
     have ne_b30_0_b36_0 : b30_0 ≠ b36_0 := own_ne2 (Ne.symm ne_b_b30_0) q30_0'.lt zq36
     have IC36 := own_acc IC30 hkC36
     have IS36 := own_acc IS30 hkS36
     refine oS (fun t k => XS.pop X36.here hx rfl (hb hby op81_18_14) rfl rfl k) ?_
     refine oS (fun t k => XS.aloadN X36.here hx rfl (hb hby op81_18_15) rfl rfl k) ?_
     refine oS (fun t k => XS.aloadN X36.here hx rfl (hb hby op81_18_16) rfl rfl k) ?_
     show oG _ _ _ _ T36 (mkF m 17 #[oR w, oR a, oR b30_0] [.ref b30_0, .ref w])
     have q30_0'_v39 := (q30_0'.keep Kq36 (ninS (Ne.symm ne_w_b30_0) (ninS (Ne.symm ne_b_b30_0) nin0)))
     refine oS (own_bufLen X36 hx hZ rfl q30_0'_v39 (g := (mkF m 17 #[oR w, oR a, oR b30_0] [.ref b30_0, .ref w])) rfl rfl (hb hby op81_18_17)) ?_
     show oG _ _ _ _ T36 (mkF m 18 #[oR w, oR a, oR b30_0] [.int 3, .ref w])
     have hS40 : own_St cp36 z36 (N + 4) := ⟨sc36, sq36, by omega, by omega⟩
     have hN40 : (N + 4) + 3 ≤ 128 := by omega
     have E_w_v41 := (E_w_v32.keep Kq36)
     refine own_callPX X36 hx hZ (y := oy13) hown (oW hw 135 rfl) (oW hw 136 rfl) (oW hw 137 rfl) (oW hw 63 rfl) (oW hw 138 rfl) (oW hw 64 rfl) (by decide) 0 E_w_v41 [.int 3] [] (own_room l Z a0 hw [] w b36_0 k36_0 cp36 z36 (N + 4) 3 3 T36.heap n0 (Nat.le_trans Z0 K36.1) E_w_v41 q36_0 q36_1 q36_2 hS40 hN40 g_w g_b36_0 ne_w_b36_0 (by decide) (by decide)) rfl  (oB rfl) (oB rfl) (own_need IC36 (oB rfl)) (own_need IS36 (oB rfl)) (g := (mkF m 18 #[oR w, oR a, oR b30_0] [.int 3, .ref w])) rfl (by rw [hml]; rfl) own_pd14 rfl rfl (by show 2 * 0 + _ ≤ _; exact Nat.le_of_eq rfl) (hb hby op81_18_18) ?_
     intro T42 v42 L42 xc42 xs42 X42 hQ42
     have E_a_v43 := (E_a_v37.keep Kq36)
     have V_va_v44 := (V_va_v38.keep Kq36 (ninS nvaw (ninS nvab nin0)))
     obtain ⟨b42_0, k42_0, cp42, z42, rfl, N42q, Kq42, zq42, hT42, hkC42, hkS42, q42_0, q42_1, q42_2, y42_0⟩ := hQ42
     obtain ⟨sc42, sq42, sl42, su42⟩ := hT42
     have N42 := Fr.app N36 N42q
     have K42 := K36.trans Kq42 (allS (Or.inl (List.mem_of_getElem? (i := 0) rfl)) all0)
     have g_b42_0 : n0 ≤ b42_0 := own_sz2 zq42 g_b36_0 (Nat.le_trans Z0 K36.1)
     have bz_b42_0 : b42_0 = b ∨ h0.size ≤ b42_0 := own_bz zq42 bz_b36_0 K36.1
     have ne_w_b42_0 : w ≠ b42_0 := own_ne2 ne_w_b36_0 E_w_v41.lt zq42
     have ne_a_b42_0 : a ≠ b42_0 := own_ne2 ne_a_b36_0 E_a_v43.lt zq42
     have ne_va_b42_0 : va ≠ b42_0 := own_ne2 ne_va_b36_0 V_va_v44.lt zq42
     have ne_b30_0_b42_0 : b30_0 ≠ b42_0 := own_ne2 ne_b30_0_b36_0 q30_0'_v39.lt zq42
     have IC42 := own_acc IC36 hkC42
     have IS42 := own_acc IS36 hkS42
     refine oS (fun t k => XS.aloadN X42.here hx rfl (hb hby op81_18_21) rfl rfl k) ?_
     refine oS (fun t k => XS.iconst X42.here hx rfl (hb hby op81_18_22) k) ?_
     refine oS (fun t k => XS.aloadN X42.here hx rfl (hb hby op81_18_23) rfl rfl k) ?_
     show oG _ _ _ _ T42 (mkF m 24 #[oR w, oR a, oR b30_0] [.ref w, .int 0, .ref b30_0])
     obtain ⟨T45, X45, e45, st45⟩ := getF X42 hx hZ hown (host := "") (Or.inl (oW hw 72 rfl)) Via.refl rfl q42_1 (g := (mkF m 24 #[oR w, oR a, oR b30_0] [.ref w, .int 0, .ref b30_0])) rfl rfl (hb hby op81_18_24)
     refine oS st45 ?_
     refine oS (fun t k => XS.aloadN X45.here hx rfl (hb hby op81_18_27) rfl rfl k) ?_
     show oG _ _ _ _ T45 (mkF m 28 #[oR w, oR a, oR b30_0] [.ref w, .ref b42_0, .int 0, .ref b30_0])
     obtain ⟨T46, X46, e46, st46⟩ := getF X45 hx hZ hown (host := "") (Or.inl (oW hw 86 rfl)) Via.refl e45 q42_0 (g := (mkF m 28 #[oR w, oR a, oR b30_0] [.ref w, .ref b42_0, .int 0, .ref b30_0])) rfl rfl (hb hby op81_18_28)
     refine oS st46 ?_
     refine oS (fun t k => XS.aloadN X46.here hx rfl (hb hby op81_18_31) rfl rfl k) ?_
     show oG _ _ _ _ T46 (mkF m 32 #[oR w, oR a, oR b30_0] [.ref b30_0, .int z42, .ref b42_0, .int 0, .ref b30_0])
     have q30_0'_v47 := (q30_0'_v39.keep Kq42 (ninS (Ne.symm ne_w_b30_0) nin0))
     refine oS (own_bufLen X46 hx hZ e46 q30_0'_v47 (g := (mkF m 32 #[oR w, oR a, oR b30_0] [.ref b30_0, .int z42, .ref b42_0, .int 0, .ref b30_0])) rfl rfl (hb hby op81_18_32)) ?_
     show oG _ _ _ _ T46 (mkF m 33 #[oR w, oR a, oR b30_0] [.int 3, .int z42, .ref b42_0, .int 0, .ref b30_0])
     obtain ⟨T48, h48, L48, X48, e48, N48, Kq48, V48, st48⟩ := own_bufCopy X46 hx hZ hown (oW hw 236 rfl) (oW hw 201 rfl) (oW hw 199 rfl) (oW hw 200 rfl) e46 q30_0'_v47 q42_2 (by decide) (own_cpz sq42 (by omega)) (by decide) (by decide) (own_cpl sq42 (by omega) (j := 3) (by decide) (by decide) (by omega)) N42 g_b42_0 (g := (mkF m 33 #[oR w, oR a, oR b30_0] [.int 3, .int z42, .ref b42_0, .int 0, .ref b30_0])) rfl (by rw [hml]; rfl) rfl (hb hby op81_18_33) (oB rfl) (W := 0) (by show 2 * 0 + _ ≤ _; exact Nat.le_of_eq rfl) (oB rfl)
     refine oS st48 ?_
     have K48 := K42.trans Kq48 (allS (own_wz bz_b42_0 (List.mem_of_getElem? (i := 1) rfl)) all0)
     refine oS (fun t k => XS.aloadN X48.here hx rfl (hb hby op81_18_36) rfl rfl k) ?_
     refine oS (fun t k => XS.dup X48.here hx rfl (hb hby op81_18_37) rfl rfl k) ?_
     show oG _ _ _ _ T48 (mkF m 38 #[oR w, oR a, oR b30_0] [.ref w, .ref w])
     have q42_0_v50 := (q42_0.keep Kq48 (ninS ne_w_b42_0 nin0))
     obtain ⟨T49, X49, e49, st49⟩ := getF X48 hx hZ hown (host := "") (Or.inl (oW hw 86 rfl)) Via.refl e48 q42_0_v50 (g := (mkF m 38 #[oR w, oR a, oR b30_0] [.ref w, .ref w])) rfl rfl (hb hby op81_18_38)
     refine oS st49 ?_
     refine oS (fun t k => XS.aloadN X49.here hx rfl (hb hby op81_18_41) rfl rfl k) ?_
     show oG _ _ _ _ T49 (mkF m 42 #[oR w, oR a, oR b30_0] [.ref b30_0, .int z42, .ref w])
     have q30_0'_v51 := (q30_0'_v47.keep Kq48 (ninS ne_b30_0_b42_0 nin0))
     refine oS (own_bufLen X49 hx hZ e49 q30_0'_v51 (g := (mkF m 42 #[oR w, oR a, oR b30_0] [.ref b30_0, .int z42, .ref w])) rfl rfl (hb hby op81_18_42)) ?_
     refine oS (fun t k => XS.iadd X49.here hx rfl (hb hby op81_18_43) rfl k) ?_
     show oG _ _ _ _ T49 (mkF m 44 #[oR w, oR a, oR b30_0] [(.int (z42 + (3 : Int32))), .ref w])
     have E_w_v53 := ((E_w_v41.keep Kq42).keep Kq48)
     obtain ⟨T52, h52, X52, e52, W52, st52⟩ := putF X49 hx hZ hown (host := "") (Or.inl (oW hw 86 rfl)) Via.refl e49 q42_0_v50 E_w_v53 (Or.inl (oW hw 87 rfl)) (oW hw 63 rfl) (ty := .int) (by decide) rfl rfl (g := (mkF m 44 #[oR w, oR a, oR b30_0] [(.int (z42 + (3 : Int32))), .ref w])) rfl rfl (hb hby op81_18_44)
     refine oS st52 ?_
     have F52 := q42_0_v50.same W52
     have K52 := K48.wr W52 (Or.inl (List.mem_of_getElem? (i := 0) rfl))
     have N52 := Fr.snoc X52 N48 g_w
     have ti54 : (z42 + (3 : Int32)).toInt = ((N + 4) + 3) := own_addT sq42 (by decide) (by omega) (by omega)
     refine oS (fun t k => XS.aloadN X52.here hx rfl (hb hby op81_18_47) rfl rfl k) ?_
     show oG _ _ _ _ T52 (mkF m 48 #[oR w, oR a, oR b30_0] [.ref w])
     have hSf : own_St cp42 (z42 + (3 : Int32)) (N + (4 + own_u c0 + own_u c1)) := ⟨sc42, by omega, by omega, by omega⟩
     have q42_1_v55 := ((q42_1.keep Kq48 (ninS ne_w_b42_0 nin0)).other W52 (Or.inr (slot_ne (Or.inl (oW hw 73 rfl)) (Or.inl (oW hw 87 rfl)) (by decide) (t := (.array .byte)) (t' := .int) (by decide) (by decide))))
     have V48_v56 := (V48.other W52 (Ne.symm ne_w_b42_0))
     exact own_retAX X52 hx hlk hrt rfl rfl rfl (hb hby op81_18_48) (by rw [e52]; exact ⟨b42_0, k42_0, cp42, (z42 + (3 : Int32)), rfl, N52, K52, bz_b42_0, hSf, (own_fin IC42 (oB rfl)), (own_fin IS42 (oB rfl)), F52, q42_1_v55, V48_v56⟩)
   · have sg0 := own_sgN hc0b g0
     have uu0 := own_u2 g0
     have sg1 := own_sgN hc1b g1
     have uu1 := own_u2 g1
     show oG _ _ _ _ s₁ (mkF m 0 #[oR w, oR a, .unset] [])
     refine oS (fun t k => XS.aloadN X0.here hx rfl (hb hby op81_18_0) rfl rfl k) ?_
     show oG _ _ _ _ s₁ (mkF m 1 #[oR w, oR a, .unset] [.ref a])
     obtain ⟨T57, X57, e57, st57⟩ := getS2 X0 hx hZ hown (host := "") (Or.inl (oW hw 206 rfl)) Via.refl e0 S_U (g := (mkF m 1 #[oR w, oR a, .unset] [.ref a])) rfl (hb hby op81_18_1)
     refine oS st57 ?_
     show oG _ _ _ _ T57 (mkF m 4 #[oR w, oR a, .unset] [.ref u8, .ref a])
     refine own_callV X57 hx hZ (y := oy31) (z := oy31) hown (oW hw 208 rfl) (oW hw 209 rfl) (notFace_of_selects (args := #[]) (mvT hZ (oW hw 211 rfl))) (oW hw 211 rfl) (oW hw 210 rfl) (oW hw 212 rfl) (oW hw 3 rfl) (by decide) 0 E_a [.ref u8] [] (own_gb_NN l Z a0 hw [] a u8 va ka (c0.toInt8.toInt32) (c1.toInt8.toInt32) zc h0 n0 Z0 E_a F_a_coder F_a_value V_va S_I S_C sg0 sg1 hz) e57  (oB rfl) (oB rfl) (own_needL IC0 (oB rfl)) (own_needL IS0 (oB rfl)) (g := (mkF m 4 #[oR w, oR a, .unset] [.ref u8, .ref a])) rfl (by rw [hml]; rfl) own_pd16 rfl rfl (by show 2 * 0 + _ ≤ _; exact Nat.le_of_eq rfl) (hb hby op81_18_4) ?_
     intro T58 v58 L58 X58 hQ58
     obtain ⟨b58_0, k58_0, rfl, N58q, Kq58, zq58_0, q58_0⟩ := hQ58
     have N58 := Fr.app N0 N58q
     have K58 := (Keep.refl h0 [w, b]).trans Kq58 all0
     have g_b58_0 : n0 ≤ b58_0 := Nat.le_trans Z0 zq58_0
     have sz_b58_0 : h0.size ≤ b58_0 := Nat.le_trans (Keep.refl h0 [w, b]).1 zq58_0
     have ne_w_b58_0 : w ≠ b58_0 := Nat.ne_of_lt (Nat.lt_of_lt_of_le E_w.lt zq58_0)
     have ne_b_b58_0 : b ≠ b58_0 := Nat.ne_of_lt (Nat.lt_of_lt_of_le V_b.lt zq58_0)
     have ne_a_b58_0 : a ≠ b58_0 := Nat.ne_of_lt (Nat.lt_of_lt_of_le E_a.lt zq58_0)
     have ne_va_b58_0 : va ≠ b58_0 := Nat.ne_of_lt (Nat.lt_of_lt_of_le V_va.lt zq58_0)
     have q58_0' : own_Buf Z T58.heap b58_0 k58_0 (4 : Int32) := q58_0
     have IC58 := own_accL 1 IC0
     have IS58 := own_accL 4 IS0
     refine oS (fun t k => XS.astoreN X58.here hx rfl (hb hby op81_18_7) rfl rfl (l' := #[oR w, oR a, oR b58_0]) rfl k) ?_
     refine oS (fun t k => XS.aloadN X58.here hx rfl (hb hby op81_18_8) rfl rfl k) ?_
     refine oS (fun t k => XS.aloadN X58.here hx rfl (hb hby op81_18_9) rfl rfl k) ?_
     show oG _ _ _ _ T58 (mkF m 10 #[oR w, oR a, oR b58_0] [.ref b58_0, .ref w])
     refine oS (own_bufLen X58 hx hZ rfl q58_0' (g := (mkF m 10 #[oR w, oR a, oR b58_0] [.ref b58_0, .ref w])) rfl rfl (hb hby op81_18_10)) ?_
     show oG _ _ _ _ T58 (mkF m 11 #[oR w, oR a, oR b58_0] [.int 4, .ref w])
     have hS59 : own_St cap sz N := ⟨sc0, sq0, by omega, by omega⟩
     have hN59 : N + 4 ≤ 128 := by omega
     have E_w_v60 := (E_w.keep Kq58)
     have F_w_size_v61 := (F_w_size.keep Kq58 nin0)
     have F_w_bytes_v62 := (F_w_bytes.keep Kq58 nin0)
     have V_b_v63 := (V_b.keep Kq58 nin0)
     refine own_callVX X58 hx hZ (y := oy16) (z := oy16) hown (oW hw 130 rfl) (oW hw 131 rfl) (notFace_of_selects (args := #[]) (mvT hZ (oW hw 133 rfl))) (oW hw 133 rfl) (oW hw 132 rfl) (oW hw 134 rfl) (oW hw 64 rfl) (by decide) 0 E_w_v60 [.int 4] [] (own_wi l Z a0 hw [] w b kb cap sz N 4 T58.heap n0 (Nat.le_trans Z0 K58.1) E_w_v60 F_w_size_v61 F_w_bytes_v62 V_b_v63 hS59 hN59 g_w g_b nwb) rfl  (oB rfl) (oB rfl) (own_need IC58 (oB rfl)) (own_need IS58 (oB rfl)) (g := (mkF m 11 #[oR w, oR a, oR b58_0] [.int 4, .ref w])) rfl (by rw [hml]; rfl) own_pd15 rfl rfl (by show 2 * 0 + _ ≤ _; exact Nat.le_of_eq rfl) (hb hby op81_18_11) ?_
     intro T64 v64 L64 xc64 xs64 X64 hQ64
     have E_a_v65 := (E_a.keep Kq58)
     have V_va_v66 := (V_va.keep Kq58 nin0)
     obtain ⟨b64_0, k64_0, cp64, z64, rfl, N64q, Kq64, zq64, hT64, hkC64, hkS64, q64_0, q64_1, q64_2⟩ := hQ64
     obtain ⟨sc64, sq64, sl64, su64⟩ := hT64
     have N64 := Fr.app N58 N64q
     have K64 := K58.trans Kq64 (allS (Or.inl (List.mem_of_getElem? (i := 0) rfl)) (allS (Or.inl (List.mem_of_getElem? (i := 1) rfl)) all0))
     have g_b64_0 : n0 ≤ b64_0 := own_sz2 zq64 g_b (Nat.le_trans Z0 K58.1)
     have bz_b64_0 : b64_0 = b ∨ h0.size ≤ b64_0 := own_bz zq64 bz_b K58.1
     have ne_w_b64_0 : w ≠ b64_0 := own_ne2 nwb E_w_v60.lt zq64
     have ne_a_b64_0 : a ≠ b64_0 := own_ne2 nab E_a_v65.lt zq64
     have ne_va_b64_0 : va ≠ b64_0 := own_ne2 nvab V_va_v66.lt zq64
     have ne_b58_0_b64_0 : b58_0 ≠ b64_0 := own_ne2 (Ne.symm ne_b_b58_0) q58_0'.lt zq64
     have IC64 := own_acc IC58 hkC64
     have IS64 := own_acc IS58 hkS64
     refine oS (fun t k => XS.pop X64.here hx rfl (hb hby op81_18_14) rfl rfl k) ?_
     refine oS (fun t k => XS.aloadN X64.here hx rfl (hb hby op81_18_15) rfl rfl k) ?_
     refine oS (fun t k => XS.aloadN X64.here hx rfl (hb hby op81_18_16) rfl rfl k) ?_
     show oG _ _ _ _ T64 (mkF m 17 #[oR w, oR a, oR b58_0] [.ref b58_0, .ref w])
     have q58_0'_v67 := (q58_0'.keep Kq64 (ninS (Ne.symm ne_w_b58_0) (ninS (Ne.symm ne_b_b58_0) nin0)))
     refine oS (own_bufLen X64 hx hZ rfl q58_0'_v67 (g := (mkF m 17 #[oR w, oR a, oR b58_0] [.ref b58_0, .ref w])) rfl rfl (hb hby op81_18_17)) ?_
     show oG _ _ _ _ T64 (mkF m 18 #[oR w, oR a, oR b58_0] [.int 4, .ref w])
     have hS68 : own_St cp64 z64 (N + 4) := ⟨sc64, sq64, by omega, by omega⟩
     have hN68 : (N + 4) + 4 ≤ 128 := by omega
     have E_w_v69 := (E_w_v60.keep Kq64)
     refine own_callPX X64 hx hZ (y := oy13) hown (oW hw 135 rfl) (oW hw 136 rfl) (oW hw 137 rfl) (oW hw 63 rfl) (oW hw 138 rfl) (oW hw 64 rfl) (by decide) 0 E_w_v69 [.int 4] [] (own_room l Z a0 hw [] w b64_0 k64_0 cp64 z64 (N + 4) 4 4 T64.heap n0 (Nat.le_trans Z0 K64.1) E_w_v69 q64_0 q64_1 q64_2 hS68 hN68 g_w g_b64_0 ne_w_b64_0 (by decide) (by decide)) rfl  (oB rfl) (oB rfl) (own_need IC64 (oB rfl)) (own_need IS64 (oB rfl)) (g := (mkF m 18 #[oR w, oR a, oR b58_0] [.int 4, .ref w])) rfl (by rw [hml]; rfl) own_pd14 rfl rfl (by show 2 * 0 + _ ≤ _; exact Nat.le_of_eq rfl) (hb hby op81_18_18) ?_
     intro T70 v70 L70 xc70 xs70 X70 hQ70
     have E_a_v71 := (E_a_v65.keep Kq64)
     have V_va_v72 := (V_va_v66.keep Kq64 (ninS nvaw (ninS nvab nin0)))
     obtain ⟨b70_0, k70_0, cp70, z70, rfl, N70q, Kq70, zq70, hT70, hkC70, hkS70, q70_0, q70_1, q70_2, y70_0⟩ := hQ70
     obtain ⟨sc70, sq70, sl70, su70⟩ := hT70
     have N70 := Fr.app N64 N70q
     have K70 := K64.trans Kq70 (allS (Or.inl (List.mem_of_getElem? (i := 0) rfl)) all0)
     have g_b70_0 : n0 ≤ b70_0 := own_sz2 zq70 g_b64_0 (Nat.le_trans Z0 K64.1)
     have bz_b70_0 : b70_0 = b ∨ h0.size ≤ b70_0 := own_bz zq70 bz_b64_0 K64.1
     have ne_w_b70_0 : w ≠ b70_0 := own_ne2 ne_w_b64_0 E_w_v69.lt zq70
     have ne_a_b70_0 : a ≠ b70_0 := own_ne2 ne_a_b64_0 E_a_v71.lt zq70
     have ne_va_b70_0 : va ≠ b70_0 := own_ne2 ne_va_b64_0 V_va_v72.lt zq70
     have ne_b58_0_b70_0 : b58_0 ≠ b70_0 := own_ne2 ne_b58_0_b64_0 q58_0'_v67.lt zq70
     have IC70 := own_acc IC64 hkC70
     have IS70 := own_acc IS64 hkS70
     refine oS (fun t k => XS.aloadN X70.here hx rfl (hb hby op81_18_21) rfl rfl k) ?_
     refine oS (fun t k => XS.iconst X70.here hx rfl (hb hby op81_18_22) k) ?_
     refine oS (fun t k => XS.aloadN X70.here hx rfl (hb hby op81_18_23) rfl rfl k) ?_
     show oG _ _ _ _ T70 (mkF m 24 #[oR w, oR a, oR b58_0] [.ref w, .int 0, .ref b58_0])
     obtain ⟨T73, X73, e73, st73⟩ := getF X70 hx hZ hown (host := "") (Or.inl (oW hw 72 rfl)) Via.refl rfl q70_1 (g := (mkF m 24 #[oR w, oR a, oR b58_0] [.ref w, .int 0, .ref b58_0])) rfl rfl (hb hby op81_18_24)
     refine oS st73 ?_
     refine oS (fun t k => XS.aloadN X73.here hx rfl (hb hby op81_18_27) rfl rfl k) ?_
     show oG _ _ _ _ T73 (mkF m 28 #[oR w, oR a, oR b58_0] [.ref w, .ref b70_0, .int 0, .ref b58_0])
     obtain ⟨T74, X74, e74, st74⟩ := getF X73 hx hZ hown (host := "") (Or.inl (oW hw 86 rfl)) Via.refl e73 q70_0 (g := (mkF m 28 #[oR w, oR a, oR b58_0] [.ref w, .ref b70_0, .int 0, .ref b58_0])) rfl rfl (hb hby op81_18_28)
     refine oS st74 ?_
     refine oS (fun t k => XS.aloadN X74.here hx rfl (hb hby op81_18_31) rfl rfl k) ?_
     show oG _ _ _ _ T74 (mkF m 32 #[oR w, oR a, oR b58_0] [.ref b58_0, .int z70, .ref b70_0, .int 0, .ref b58_0])
     have q58_0'_v75 := (q58_0'_v67.keep Kq70 (ninS (Ne.symm ne_w_b58_0) nin0))
     refine oS (own_bufLen X74 hx hZ e74 q58_0'_v75 (g := (mkF m 32 #[oR w, oR a, oR b58_0] [.ref b58_0, .int z70, .ref b70_0, .int 0, .ref b58_0])) rfl rfl (hb hby op81_18_32)) ?_
     show oG _ _ _ _ T74 (mkF m 33 #[oR w, oR a, oR b58_0] [.int 4, .int z70, .ref b70_0, .int 0, .ref b58_0])
     obtain ⟨T76, h76, L76, X76, e76, N76, Kq76, V76, st76⟩ := own_bufCopy X74 hx hZ hown (oW hw 236 rfl) (oW hw 201 rfl) (oW hw 199 rfl) (oW hw 200 rfl) e74 q58_0'_v75 q70_2 (by decide) (own_cpz sq70 (by omega)) (by decide) (by decide) (own_cpl sq70 (by omega) (j := 4) (by decide) (by decide) (by omega)) N70 g_b70_0 (g := (mkF m 33 #[oR w, oR a, oR b58_0] [.int 4, .int z70, .ref b70_0, .int 0, .ref b58_0])) rfl (by rw [hml]; rfl) rfl (hb hby op81_18_33) (oB rfl) (W := 0) (by show 2 * 0 + _ ≤ _; exact Nat.le_of_eq rfl) (oB rfl)
     refine oS st76 ?_
     have K76 := K70.trans Kq76 (allS (own_wz bz_b70_0 (List.mem_of_getElem? (i := 1) rfl)) all0)
     refine oS (fun t k => XS.aloadN X76.here hx rfl (hb hby op81_18_36) rfl rfl k) ?_
     refine oS (fun t k => XS.dup X76.here hx rfl (hb hby op81_18_37) rfl rfl k) ?_
     show oG _ _ _ _ T76 (mkF m 38 #[oR w, oR a, oR b58_0] [.ref w, .ref w])
     have q70_0_v78 := (q70_0.keep Kq76 (ninS ne_w_b70_0 nin0))
     obtain ⟨T77, X77, e77, st77⟩ := getF X76 hx hZ hown (host := "") (Or.inl (oW hw 86 rfl)) Via.refl e76 q70_0_v78 (g := (mkF m 38 #[oR w, oR a, oR b58_0] [.ref w, .ref w])) rfl rfl (hb hby op81_18_38)
     refine oS st77 ?_
     refine oS (fun t k => XS.aloadN X77.here hx rfl (hb hby op81_18_41) rfl rfl k) ?_
     show oG _ _ _ _ T77 (mkF m 42 #[oR w, oR a, oR b58_0] [.ref b58_0, .int z70, .ref w])
     have q58_0'_v79 := (q58_0'_v75.keep Kq76 (ninS ne_b58_0_b70_0 nin0))
     refine oS (own_bufLen X77 hx hZ e77 q58_0'_v79 (g := (mkF m 42 #[oR w, oR a, oR b58_0] [.ref b58_0, .int z70, .ref w])) rfl rfl (hb hby op81_18_42)) ?_
     refine oS (fun t k => XS.iadd X77.here hx rfl (hb hby op81_18_43) rfl k) ?_
     show oG _ _ _ _ T77 (mkF m 44 #[oR w, oR a, oR b58_0] [(.int (z70 + (4 : Int32))), .ref w])
     have E_w_v81 := ((E_w_v69.keep Kq70).keep Kq76)
     obtain ⟨T80, h80, X80, e80, W80, st80⟩ := putF X77 hx hZ hown (host := "") (Or.inl (oW hw 86 rfl)) Via.refl e77 q70_0_v78 E_w_v81 (Or.inl (oW hw 87 rfl)) (oW hw 63 rfl) (ty := .int) (by decide) rfl rfl (g := (mkF m 44 #[oR w, oR a, oR b58_0] [(.int (z70 + (4 : Int32))), .ref w])) rfl rfl (hb hby op81_18_44)
     refine oS st80 ?_
     have F80 := q70_0_v78.same W80
     have K80 := K76.wr W80 (Or.inl (List.mem_of_getElem? (i := 0) rfl))
     have N80 := Fr.snoc X80 N76 g_w
     have ti82 : (z70 + (4 : Int32)).toInt = ((N + 4) + 4) := own_addT sq70 (by decide) (by omega) (by omega)
     refine oS (fun t k => XS.aloadN X80.here hx rfl (hb hby op81_18_47) rfl rfl k) ?_
     show oG _ _ _ _ T80 (mkF m 48 #[oR w, oR a, oR b58_0] [.ref w])
     have hSf : own_St cp70 (z70 + (4 : Int32)) (N + (4 + own_u c0 + own_u c1)) := ⟨sc70, by omega, by omega, by omega⟩
     have q70_1_v83 := ((q70_1.keep Kq76 (ninS ne_w_b70_0 nin0)).other W80 (Or.inr (slot_ne (Or.inl (oW hw 73 rfl)) (Or.inl (oW hw 87 rfl)) (by decide) (t := (.array .byte)) (t' := .int) (by decide) (by decide))))
     have V76_v84 := (V76.other W80 (Ne.symm ne_w_b70_0))
     exact own_retAX X80 hx hlk hrt rfl rfl rfl (hb hby op81_18_48) (by rw [e80]; exact ⟨b70_0, k70_0, cp70, (z70 + (4 : Int32)), rfl, N80, K80, bz_b70_0, hSf, (own_fin IC70 (oB rfl)), (own_fin IS70 (oB rfl)), F80, q70_1_v83, V76_v84⟩)
theorem own_ef23 (m : MethodId) (x0 : Addr) (x1 : Addr) : entryFrame m #[.ref x0, .ref x1] 5 = mkF m 0 #[.val (.ref x0), .val (.ref x1), .unset, .unset, .unset] [] := by first | (simp [entryFrame, mkF, argsToLocals, Value.category]; done) | rfl
theorem op81_7_0 : decode prog_81_method_7_code 0 = .ok (.aload_n 1, 1) := by decide +kernel
theorem op81_7_1 : decode prog_81_method_7_code 1 = .ok (.invokevirtual 33, 3) := by decide +kernel
theorem own_pd17 : parseMethodDescriptor "()I" = some ⟨[], some .int⟩ := by decide +kernel
theorem op81_7_4 : decode prog_81_method_7_code 4 = .ok (.istore_n 2, 1) := by decide +kernel
theorem op81_7_5 : decode prog_81_method_7_code 5 = .ok (.aload_n 0, 1) := by decide +kernel
theorem op81_7_6 : decode prog_81_method_7_code 6 = .ok (.iload_n 2, 1) := by decide +kernel
theorem op81_7_7 : decode prog_81_method_7_code 7 = .ok (.invokevirtual 39, 3) := by decide +kernel
theorem op81_7_10 : decode prog_81_method_7_code 10 = .ok (.pop, 1) := by decide +kernel
theorem op81_7_11 : decode prog_81_method_7_code 11 = .ok (.aload_n 0, 1) := by decide +kernel
theorem op81_7_12 : decode prog_81_method_7_code 12 = .ok (.iload_n 2, 1) := by decide +kernel
theorem op81_7_13 : decode prog_81_method_7_code 13 = .ok (.invokevirtual 18, 3) := by decide +kernel
theorem op81_7_16 : decode prog_81_method_7_code 16 = .ok (.iconst 0, 1) := by decide +kernel
theorem op81_7_17 : decode prog_81_method_7_code 17 = .ok (.istore_n 3, 1) := by decide +kernel
theorem op81_7_18 : decode prog_81_method_7_code 18 = .ok (.iload_n 3, 1) := by decide +kernel
theorem op81_7_19 : decode prog_81_method_7_code 19 = .ok (.iload_n 2, 1) := by decide +kernel
theorem op81_7_20 : decode prog_81_method_7_code 20 = .ok (.if_icmp .ge 54, 3) := by decide +kernel
theorem op81_7_23 : decode prog_81_method_7_code 23 = .ok (.aload_n 1, 1) := by decide +kernel
theorem op81_7_24 : decode prog_81_method_7_code 24 = .ok (.iload_n 3, 1) := by decide +kernel
theorem op81_7_25 : decode prog_81_method_7_code 25 = .ok (.invokevirtual 42, 3) := by decide +kernel
theorem own_pd18 : parseMethodDescriptor "(I)C" = some ⟨[.int], some .char⟩ := by decide +kernel
theorem op81_7_28 : decode prog_81_method_7_code 28 = .ok (.istore 4, 2) := by decide +kernel
theorem op81_7_30 : decode prog_81_method_7_code 30 = .ok (.iload 4, 2) := by decide +kernel
theorem op81_7_32 : decode prog_81_method_7_code 32 = .ok (.sipush 128, 3) := by decide +kernel
theorem op81_7_35 : decode prog_81_method_7_code 35 = .ok (.if_icmp .lt 19, 3) := by decide +kernel
theorem op81_7_54 : decode prog_81_method_7_code 54 = .ok (.aload_n 0, 1) := by decide +kernel
theorem op81_7_55 : decode prog_81_method_7_code 55 = .ok (.getfield 14, 3) := by decide +kernel
theorem op81_7_58 : decode prog_81_method_7_code 58 = .ok (.aload_n 0, 1) := by decide +kernel
theorem op81_7_59 : decode prog_81_method_7_code 59 = .ok (.getfield 21, 3) := by decide +kernel
theorem op81_7_62 : decode prog_81_method_7_code 62 = .ok (.iload_n 3, 1) := by decide +kernel
theorem op81_7_63 : decode prog_81_method_7_code 63 = .ok (.iadd, 1) := by decide +kernel
theorem op81_7_64 : decode prog_81_method_7_code 64 = .ok (.iload 4, 2) := by decide +kernel
theorem op81_7_66 : decode prog_81_method_7_code 66 = .ok (.i2b, 1) := by decide +kernel
theorem op81_7_67 : decode prog_81_method_7_code 67 = .ok (.bastore, 1) := by decide +kernel
theorem op81_7_68 : decode prog_81_method_7_code 68 = .ok (.iinc 3 1, 3) := by decide +kernel
theorem op81_7_71 : decode prog_81_method_7_code 71 = .ok (.goto (-53), 3) := by decide +kernel
theorem op81_7_74 : decode prog_81_method_7_code 74 = .ok (.aload_n 0, 1) := by decide +kernel
theorem op81_7_75 : decode prog_81_method_7_code 75 = .ok (.dup, 1) := by decide +kernel
theorem op81_7_76 : decode prog_81_method_7_code 76 = .ok (.getfield 21, 3) := by decide +kernel
theorem op81_7_79 : decode prog_81_method_7_code 79 = .ok (.iload_n 2, 1) := by decide +kernel
theorem op81_7_80 : decode prog_81_method_7_code 80 = .ok (.iadd, 1) := by decide +kernel
theorem op81_7_81 : decode prog_81_method_7_code 81 = .ok (.putfield 21, 3) := by decide +kernel
theorem op81_7_84 : decode prog_81_method_7_code 84 = .ok (.aload_n 0, 1) := by decide +kernel
theorem op81_7_85 : decode prog_81_method_7_code 85 = .ok (.areturn, 1) := by decide +kernel
theorem op81_7_38 : decode prog_81_method_7_code 38 = .ok (.aload_n 0, 1) := by decide +kernel
theorem op81_7_39 : decode prog_81_method_7_code 39 = .ok (.dup, 1) := by decide +kernel
theorem op81_7_40 : decode prog_81_method_7_code 40 = .ok (.getfield 21, 3) := by decide +kernel
theorem op81_7_43 : decode prog_81_method_7_code 43 = .ok (.iconst 4, 1) := by decide +kernel
theorem op81_7_44 : decode prog_81_method_7_code 44 = .ok (.isub, 1) := by decide +kernel
theorem op81_7_45 : decode prog_81_method_7_code 45 = .ok (.putfield 21, 3) := by decide +kernel
theorem op81_7_48 : decode prog_81_method_7_code 48 = .ok (.aload_n 0, 1) := by decide +kernel
theorem op81_7_49 : decode prog_81_method_7_code 49 = .ok (.aload_n 1, 1) := by decide +kernel
theorem op81_7_50 : decode prog_81_method_7_code 50 = .ok (.invokevirtual 46, 3) := by decide +kernel
theorem own_pd19 : parseMethodDescriptor "(Ljava/lang/String;)Lcom/example/ringshift/ringshift/io/BinaryWriter;" = some ⟨[(.object "java/lang/String")], some (.object "com/example/ringshift/ringshift/io/BinaryWriter")⟩ := by decide +kernel
theorem op81_7_53 : decode prog_81_method_7_code 53 = .ok (.areturn, 1) := by decide +kernel
set_option maxRecDepth 65536 in
set_option maxHeartbeats 40000000 in
theorem own_ws (l : Launch) (Z : State) (a0 : Array Value) (hw : ∀ d ∈ tables_1, d.before a0 Z = true) (ws : List Jvm.Cond) (w : Addr) (b : Addr) (kb : ClassId) (cap : Int32) (sz : Int32) (N : Int) (a : Addr) (u8 : Addr) (va : Addr) (ka : ClassId) (c0 : Int32) (c1 : Int32) (zc : Int32) (fm : Value) (h0 : Heap) (n0 : Nat) (Z0 : n0 ≤ h0.size) (E_w : Exa Z h0 w "com/example/ringshift/ringshift/io/BinaryWriter") (F_w_size : Fld Z h0 w "com/example/ringshift/ringshift/io/BinaryWriter" "size" "I" (.int sz)) (F_w_bytes : Fld Z h0 w "com/example/ringshift/ringshift/io/BinaryWriter" "bytes" "[B" (.ref b)) (V_b : own_Buf Z h0 b kb cap) (E_a : Exa Z h0 a "java/lang/String") (F_a_coder : Fld Z h0 a "java/lang/String" "coder" "B" (.int 0)) (F_a_value : Fld Z h0 a "java/lang/String" "value" "[B" (.ref va)) (V_va : Arv Z h0 va ka .byte (2 : Int32) [(.int (c0.toInt8.toInt32)), (.int (c1.toInt8.toInt32))] (.int 0)) (S_C : Sta Z h0 "java/lang/String" "COMPACT_STRINGS" "Z" (.int zc)) (S_I : Sta Z h0 "sun/nio/cs/UTF_8" "INSTANCE" "Lsun/nio/cs/UTF_8;" (.ref u8)) (S_U : Sta Z h0 "java/nio/charset/StandardCharsets" "UTF_8" "Ljava/nio/charset/Charset;" (.ref u8)) (S_F : Sta Z h0 "jdk/internal/util/Preconditions" "SIOOBE_FORMATTER" "Ljava/util/function/BiFunction;" fm) (hS : own_St cap sz N) (hN : N + (4 + own_u c0 + own_u c1) ≤ 128) (g_w : n0 ≤ w) (g_b : n0 ≤ b) (nwb : ¬ (w = b)) (hc0a : ¬ (c0 < (0 : Int32))) (hc0b : ¬ ((255 : Int32) < c0)) (hc1a : ¬ (c1 < (0 : Int32))) (hc1b : ¬ ((255 : Int32) < c1)) (hz : ¬ (zc = (0 : Int32))) (rG : fm.isRef = true) (naw : ¬ (a = w)) (nab : ¬ (a = b)) (nvaw : ¬ (va = w)) (nvab : ¬ (va = b)) :
   own_MetX l Z oy19 prog_81_method_7_code 5 (some (.object "com/example/ringshift/ringshift/io/BinaryWriter")) ws ({ frames := 6, cells := 2 + own_gc cap, slots := 7 + own_gs cap, locals := 139 } : Room) #[.ref w, .ref a] h0 (fun v h L k n => ∃ (b2 : Addr) (k2 : ClassId) (cap2 sz2 : Int32), v = some (.ref w) ∧ Fr n0 L ∧ Keep h0 h [w, b] ∧ (b2 = b ∨ h0.size ≤ b2) ∧ own_St cap2 sz2 (N + (4 + own_u c0 + own_u c1)) ∧ k + own_gc cap2 ≤ 2 + own_gc cap ∧ n + own_gs cap2 ≤ 7 + own_gs cap ∧ Fld Z h w "com/example/ringshift/ringshift/io/BinaryWriter" "size" "I" (.int sz2) ∧ Fld Z h w "com/example/ringshift/ringshift/io/BinaryWriter" "bytes" "[B" (.ref b2) ∧ own_Buf Z h b2 k2 cap2) := by
 refine own_bodyX (plainFor_of_name own_pn_com_example_ringshift_ringshift_io_BinaryWriter) (fun p e s m below meth c s₁ hx hby hml0 hrt hlk hown0 hnm hZ X0 e0 => ?_)
 have N0 := Fr.nil n0
 have hown : s.vm.findClass "com/example/ringshift/ringshift/io/BinaryWriter" = some m.cls := hown0
 have hml : c.maxLocals = 5 := hml0
 refine own_castG (own_ef23 m w a) ?_
 have IC0 : 0 + own_gc cap ≤ 0 + own_gc cap := Nat.le_refl _
 have IS0 : 0 + own_gs cap ≤ 0 + own_gs cap := Nat.le_refl _
 have hS0 := hS
 obtain ⟨sc0, sq0, sl0, su0⟩ := hS0
 have bz_b : b = b ∨ h0.size ≤ b := Or.inl rfl
 have ur0 := own_ur c0
 have ur1 := own_ur c1
 refine oS (fun t k => XS.aloadN X0.here hx rfl (hb hby op81_7_0) rfl rfl k) ?_
 show oG _ _ _ _ s₁ (mkF m 1 #[oR w, oR a, .unset, .unset, .unset] [.ref a])
 refine own_callV X0 hx hZ (y := oy33) (z := oy33) hown (oW hw 120 rfl) (oW hw 121 rfl) (notFace_of_selects (args := #[]) (mvT hZ (oW hw 123 rfl))) (oW hw 123 rfl) (oW hw 122 rfl) (oW hw 124 rfl) (oW hw 3 rfl) (by decide) 0 E_a [] [] (own_len2 l Z a0 hw [] a zc va ka (c0.toInt8.toInt32) (c1.toInt8.toInt32) h0 n0 Z0 S_C E_a F_a_coder F_a_value V_va hz) e0  (oB rfl) (oB rfl) (own_needL IC0 (oB rfl)) (own_needL IS0 (oB rfl)) (g := (mkF m 1 #[oR w, oR a, .unset, .unset, .unset] [.ref a])) rfl (by rw [hml]; rfl) own_pd17 rfl rfl (by show 2 * 0 + _ ≤ _; exact Nat.le_of_eq rfl) (hb hby op81_7_1) ?_
 intro T1 v1 L1 X1 hQ1
 obtain ⟨rfl, N1q, e1⟩ := hQ1
 have N1 := Fr.app N0 N1q
 have IC1 := own_accL 0 IC0
 have IS1 := own_accL 0 IS0
 refine oS (fun t k => XS.istoreN X1.here hx rfl (hb hby op81_7_4) rfl (l' := #[oR w, oR a, oI 2, .unset, .unset]) rfl k) ?_
 refine oS (fun t k => XS.aloadN X1.here hx rfl (hb hby op81_7_5) rfl rfl k) ?_
 refine oS (fun t k => XS.iloadN X1.here hx rfl (hb hby op81_7_6) rfl k) ?_
 show oG _ _ _ _ T1 (mkF m 7 #[oR w, oR a, oI 2, .unset, .unset] [.int 2, .ref w])
 have hS2 : own_St cap sz N := ⟨sc0, sq0, by omega, by omega⟩
 have hN2 : N + 4 ≤ 128 := by omega
 refine own_callVX X1 hx hZ (y := oy16) (z := oy16) hown (oW hw 130 rfl) (oW hw 131 rfl) (notFace_of_selects (args := #[]) (mvT hZ (oW hw 133 rfl))) (oW hw 133 rfl) (oW hw 132 rfl) (oW hw 134 rfl) (oW hw 64 rfl) (by decide) 0 E_w [.int 2] [] (own_wi l Z a0 hw [] w b kb cap sz N 2 h0 n0 Z0 E_w F_w_size F_w_bytes V_b hS2 hN2 g_w g_b nwb) e1  (oB rfl) (oB rfl) (own_need IC1 (oB rfl)) (own_need IS1 (oB rfl)) (g := (mkF m 7 #[oR w, oR a, oI 2, .unset, .unset] [.int 2, .ref w])) rfl (by rw [hml]; rfl) own_pd15 rfl rfl (by show 2 * 0 + _ ≤ _; exact Nat.le_of_eq rfl) (hb hby op81_7_7) ?_
 intro T3 v3 L3 xc3 xs3 X3 hQ3
 obtain ⟨b3_0, k3_0, cp3, z3, rfl, N3q, Kq3, zq3, hT3, hkC3, hkS3, q3_0, q3_1, q3_2⟩ := hQ3
 obtain ⟨sc3, sq3, sl3, su3⟩ := hT3
 have N3 := Fr.app N1 N3q
 have K3 := (Keep.refl h0 [w, b]).trans Kq3 (allS (Or.inl (List.mem_of_getElem? (i := 0) rfl)) (allS (Or.inl (List.mem_of_getElem? (i := 1) rfl)) all0))
 have g_b3_0 : n0 ≤ b3_0 := own_sz2 zq3 g_b Z0
 have bz_b3_0 : b3_0 = b ∨ h0.size ≤ b3_0 := own_bz zq3 bz_b (Keep.refl h0 [w, b]).1
 have ne_w_b3_0 : w ≠ b3_0 := own_ne2 nwb E_w.lt zq3
 have ne_a_b3_0 : a ≠ b3_0 := own_ne2 nab E_a.lt zq3
 have ne_va_b3_0 : va ≠ b3_0 := own_ne2 nvab V_va.lt zq3
 have IC3 := own_acc IC1 hkC3
 have IS3 := own_acc IS1 hkS3
 refine oS (fun t k => XS.pop X3.here hx rfl (hb hby op81_7_10) rfl rfl k) ?_
 refine oS (fun t k => XS.aloadN X3.here hx rfl (hb hby op81_7_11) rfl rfl k) ?_
 refine oS (fun t k => XS.iloadN X3.here hx rfl (hb hby op81_7_12) rfl k) ?_
 show oG _ _ _ _ T3 (mkF m 13 #[oR w, oR a, oI 2, .unset, .unset] [.int 2, .ref w])
 have hS4 : own_St cp3 z3 (N + 4) := ⟨sc3, sq3, by omega, by omega⟩
 have hN4 : (N + 4) + 2 ≤ 128 := by omega
 have E_w_v5 := (E_w.keep Kq3)
 refine own_callPX X3 hx hZ (y := oy13) hown (oW hw 135 rfl) (oW hw 136 rfl) (oW hw 137 rfl) (oW hw 63 rfl) (oW hw 138 rfl) (oW hw 64 rfl) (by decide) 0 E_w_v5 [.int 2] [] (own_room l Z a0 hw [] w b3_0 k3_0 cp3 z3 (N + 4) 2 2 T3.heap n0 (Nat.le_trans Z0 K3.1) E_w_v5 q3_0 q3_1 q3_2 hS4 hN4 g_w g_b3_0 ne_w_b3_0 (by decide) (by decide)) rfl  (oB rfl) (oB rfl) (own_need IC3 (oB rfl)) (own_need IS3 (oB rfl)) (g := (mkF m 13 #[oR w, oR a, oI 2, .unset, .unset] [.int 2, .ref w])) rfl (by rw [hml]; rfl) own_pd14 rfl rfl (by show 2 * 0 + _ ≤ _; exact Nat.le_of_eq rfl) (hb hby op81_7_13) ?_
 intro T6 v6 L6 xc6 xs6 X6 hQ6
 have E_a_v7 := (E_a.keep Kq3)
 have V_va_v8 := (V_va.keep Kq3 (ninS nvaw (ninS nvab nin0)))
 obtain ⟨b6_0, k6_0, cp6, z6, rfl, N6q, Kq6, zq6, hT6, hkC6, hkS6, q6_0, q6_1, q6_2, y6_0⟩ := hQ6
 obtain ⟨sc6, sq6, sl6, su6⟩ := hT6
 have N6 := Fr.app N3 N6q
 have K6 := K3.trans Kq6 (allS (Or.inl (List.mem_of_getElem? (i := 0) rfl)) all0)
 have g_b6_0 : n0 ≤ b6_0 := own_sz2 zq6 g_b3_0 (Nat.le_trans Z0 K3.1)
 have bz_b6_0 : b6_0 = b ∨ h0.size ≤ b6_0 := own_bz zq6 bz_b3_0 K3.1
 have ne_w_b6_0 : w ≠ b6_0 := own_ne2 ne_w_b3_0 E_w_v5.lt zq6
 have ne_a_b6_0 : a ≠ b6_0 := own_ne2 ne_a_b3_0 E_a_v7.lt zq6
 have ne_va_b6_0 : va ≠ b6_0 := own_ne2 ne_va_b3_0 V_va_v8.lt zq6
 have IC6 := own_acc IC3 hkC6
 have IS6 := own_acc IS3 hkS6
 refine oS (fun t k => XS.iconst X6.here hx rfl (hb hby op81_7_16) k) ?_
 refine oS (fun t k => XS.istoreN X6.here hx rfl (hb hby op81_7_17) rfl (l' := #[oR w, oR a, oI 2, oI 0, .unset]) rfl k) ?_
 refine oS (fun t k => XS.iloadN X6.here hx rfl (hb hby op81_7_18) rfl k) ?_
 refine oS (fun t k => XS.iloadN X6.here hx rfl (hb hby op81_7_19) rfl k) ?_
 show oG _ _ _ _ T6 (mkF m 20 #[oR w, oR a, oI 2, oI 0, .unset] [.int 2, .int 0])
 refine oS (fun t k => XS.icmpNo X6.here hx rfl (hb hby op81_7_20) rfl (tlt (show (0 : Int32) < (2 : Int32) from (by decide))).2.1 k) ?_
 refine oS (fun t k => XS.aloadN X6.here hx rfl (hb hby op81_7_23) rfl rfl k) ?_
 refine oS (fun t k => XS.iloadN X6.here hx rfl (hb hby op81_7_24) rfl k) ?_
 show oG _ _ _ _ T6 (mkF m 25 #[oR w, oR a, oI 2, oI 0, .unset] [.int 0, .ref a])
 have E_a_v9 := (E_a_v7.keep Kq6)
 have F_a_coder_v10 := ((F_a_coder.keep Kq3 (ninS naw (ninS nab nin0))).keep Kq6 (ninS naw nin0))
 have F_a_value_v11 := ((F_a_value.keep Kq3 (ninS naw (ninS nab nin0))).keep Kq6 (ninS naw nin0))
 have V_va_v12 := (V_va_v8.keep Kq6 (ninS nvaw nin0))
 have S_C_v13 := (own_staKeep (own_staKeep S_C Kq3 (allS (own_plainE E_w) (allS (own_plainB V_b) all0))) Kq6 (allS (own_plainE E_w_v5) all0))
 have S_F_v14 := (own_staKeep (own_staKeep S_F Kq3 (allS (own_plainE E_w) (allS (own_plainB V_b) all0))) Kq6 (allS (own_plainE E_w_v5) all0))
 refine own_callV X6 hx hZ (y := oy26) (z := oy26) hown (oW hw 139 rfl) (oW hw 140 rfl) (notFace_of_selects (args := #[]) (mvT hZ (oW hw 142 rfl))) (oW hw 142 rfl) (oW hw 141 rfl) (oW hw 143 rfl) (oW hw 3 rfl) (by decide) 0 E_a_v9 [.int 0] [] (own_cha0 l Z a0 hw [] a va ka c0 c1 zc fm T6.heap n0 (Nat.le_trans Z0 K6.1) E_a_v9 F_a_coder_v10 F_a_value_v11 V_va_v12 S_C_v13 S_F_v14 hc0a hc0b hc1a hc1b hz rG) rfl  (oB rfl) (oB rfl) (own_needL IC6 (oB rfl)) (own_needL IS6 (oB rfl)) (g := (mkF m 25 #[oR w, oR a, oI 2, oI 0, .unset] [.int 0, .ref a])) rfl (by rw [hml]; rfl) own_pd18 rfl rfl (by show 2 * 0 + _ ≤ _; exact Nat.le_of_eq rfl) (hb hby op81_7_25) ?_
 intro T15 v15 L15 X15 hQ15
 obtain ⟨rfl, N15q, e15⟩ := hQ15
 have N15 := Fr.app N6 N15q
 have IC15 := own_accL 0 IC6
 have IS15 := own_accL 0 IS6
 refine oS (fun t k => XS.istore X15.here hx rfl (hb hby op81_7_28) rfl (l' := #[oR w, oR a, oI 2, oI 0, oI c0]) rfl k) ?_
 refine oS (fun t k => XS.iload X15.here hx rfl (hb hby op81_7_30) rfl k) ?_
 refine oS (fun t k => XS.sipush X15.here hx rfl (hb hby op81_7_32) k) ?_
 show oG _ _ _ _ T15 (mkF m 35 #[oR w, oR a, oI 2, oI 0, oI c0] [.int 128, .int c0])
 by_cases hc35_16 : c0 < (128 : Int32)
 · refine oS (fun t k => XS.icmpYes X15.here hx rfl (pc0 := 35) (pc' := 54) rfl (hb hby op81_7_35) rfl (tlt (show c0 < (128 : Int32) from hc35_16)).1 (by decide) (by decide) k) ?_
   refine oS (fun t k => XS.aloadN X15.here hx rfl (hb hby op81_7_54) rfl rfl k) ?_
   show oG _ _ _ _ T15 (mkF m 55 #[oR w, oR a, oI 2, oI 0, oI c0] [.ref w])
   obtain ⟨T17, X17, e17, st17⟩ := getF X15 hx hZ hown (host := "") (Or.inl (oW hw 72 rfl)) Via.refl e15 q6_1 (g := (mkF m 55 #[oR w, oR a, oI 2, oI 0, oI c0] [.ref w])) rfl rfl (hb hby op81_7_55)
   refine oS st17 ?_
   refine oS (fun t k => XS.aloadN X17.here hx rfl (hb hby op81_7_58) rfl rfl k) ?_
   show oG _ _ _ _ T17 (mkF m 59 #[oR w, oR a, oI 2, oI 0, oI c0] [.ref w, .ref b6_0])
   obtain ⟨T18, X18, e18, st18⟩ := getF X17 hx hZ hown (host := "") (Or.inl (oW hw 86 rfl)) Via.refl e17 q6_0 (g := (mkF m 59 #[oR w, oR a, oI 2, oI 0, oI c0] [.ref w, .ref b6_0])) rfl rfl (hb hby op81_7_59)
   refine oS st18 ?_
   refine oS (fun t k => XS.iloadN X18.here hx rfl (hb hby op81_7_62) rfl k) ?_
   refine oS (fun t k => XS.iadd X18.here hx rfl (hb hby op81_7_63) rfl k) ?_
   refine oS (fun t k => XS.iload X18.here hx rfl (hb hby op81_7_64) rfl k) ?_
   refine oS (fun t k => XS.i2b X18.here hx rfl (hb hby op81_7_66) rfl k) ?_
   show oG _ _ _ _ T18 (mkF m 67 #[oR w, oR a, oI 2, oI 0, oI c0] [(.int (c0.toInt8.toInt32)), (.int (z6 + (0 : Int32))), .ref b6_0])
   have ti20 : (z6 + (0 : Int32)).toInt = ((N + 4) + 0) := own_addT sq6 (by decide) (by omega) (by omega)
   obtain ⟨T19, h19, X19, e19, W19, V19, st19⟩ := own_bufStore X18 hx hZ e18 q6_2 (x := (c0.toInt8.toInt32)) (j := (z6 + (0 : Int32))) (own_bd ti20 (by omega) (by omega)) (g := (mkF m 67 #[oR w, oR a, oI 2, oI 0, oI c0] [(.int (c0.toInt8.toInt32)), (.int (z6 + (0 : Int32))), .ref b6_0])) rfl rfl (hb hby op81_7_67)
   refine oS st19 ?_
   have K19 := K6.wr W19 (own_wz bz_b6_0 (List.mem_of_getElem? (i := 1) rfl))
   have N19 := Fr.snoc X19 N15 g_b6_0
   show oG _ _ _ _ T19 (mkF m 68 #[oR w, oR a, oI 2, oI 0, oI c0] [])
   refine oS (fun t k => XS.iinc X19.here hx rfl (hb hby op81_7_68) rfl (l' := #[oR w, oR a, oI 2, oI 1, oI c0]) rfl k) ?_
   refine oS (fun t k => XS.goto X19.here hx rfl (pc0 := 71) (pc' := 18) rfl (hb hby op81_7_71) (by decide) (by decide) k) ?_
   refine oS (fun t k => XS.iloadN X19.here hx rfl (hb hby op81_7_18) rfl k) ?_
   refine oS (fun t k => XS.iloadN X19.here hx rfl (hb hby op81_7_19) rfl k) ?_
   show oG _ _ _ _ T19 (mkF m 20 #[oR w, oR a, oI 2, oI 1, oI c0] [.int 2, .int 1])
   refine oS (fun t k => XS.icmpNo X19.here hx rfl (hb hby op81_7_20) rfl (tlt (show (1 : Int32) < (2 : Int32) from (by decide))).2.1 k) ?_
   refine oS (fun t k => XS.aloadN X19.here hx rfl (hb hby op81_7_23) rfl rfl k) ?_
   refine oS (fun t k => XS.iloadN X19.here hx rfl (hb hby op81_7_24) rfl k) ?_
   show oG _ _ _ _ T19 (mkF m 25 #[oR w, oR a, oI 2, oI 1, oI c0] [.int 1, .ref a])
   have E_a_v21 := (E_a_v9.wr W19)
   have F_a_coder_v22 := (F_a_coder_v10.other W19 (Or.inl ne_a_b6_0))
   have F_a_value_v23 := (F_a_value_v11.other W19 (Or.inl ne_a_b6_0))
   have V_va_v24 := (V_va_v12.other W19 ne_va_b6_0)
   have S_C_v25 := (S_C_v13.wr W19)
   have S_F_v26 := (S_F_v14.wr W19)
   refine own_callV X19 hx hZ (y := oy26) (z := oy26) hown (oW hw 139 rfl) (oW hw 140 rfl) (notFace_of_selects (args := #[]) (mvT hZ (oW hw 142 rfl))) (oW hw 142 rfl) (oW hw 141 rfl) (oW hw 143 rfl) (oW hw 3 rfl) (by decide) 0 E_a_v21 [.int 1] [] (own_cha1 l Z a0 hw [] a va ka c0 c1 zc fm h19 n0 (Nat.le_trans Z0 K19.1) E_a_v21 F_a_coder_v22 F_a_value_v23 V_va_v24 S_C_v25 S_F_v26 hc0a hc0b hc1a hc1b hz rG) e19  (oB rfl) (oB rfl) (own_needL IC15 (oB rfl)) (own_needL IS15 (oB rfl)) (g := (mkF m 25 #[oR w, oR a, oI 2, oI 1, oI c0] [.int 1, .ref a])) rfl (by rw [hml]; rfl) own_pd18 rfl rfl (by show 2 * 0 + _ ≤ _; exact Nat.le_of_eq rfl) (hb hby op81_7_25) ?_
   intro T27 v27 L27 X27 hQ27
   obtain ⟨rfl, N27q, e27⟩ := hQ27
   have N27 := Fr.app N19 N27q
   have IC27 := own_accL 0 IC15
   have IS27 := own_accL 0 IS15
   refine oS (fun t k => XS.istore X27.here hx rfl (hb hby op81_7_28) rfl (l' := #[oR w, oR a, oI 2, oI 1, oI c1]) rfl k) ?_
   refine oS (fun t k => XS.iload X27.here hx rfl (hb hby op81_7_30) rfl k) ?_
   refine oS (fun t k => XS.sipush X27.here hx rfl (hb hby op81_7_32) k) ?_
   show oG _ _ _ _ T27 (mkF m 35 #[oR w, oR a, oI 2, oI 1, oI c1] [.int 128, .int c1])
   by_cases hc35_28 : c1 < (128 : Int32)
   · refine oS (fun t k => XS.icmpYes X27.here hx rfl (pc0 := 35) (pc' := 54) rfl (hb hby op81_7_35) rfl (tlt (show c1 < (128 : Int32) from hc35_28)).1 (by decide) (by decide) k) ?_
     refine oS (fun t k => XS.aloadN X27.here hx rfl (hb hby op81_7_54) rfl rfl k) ?_
     show oG _ _ _ _ T27 (mkF m 55 #[oR w, oR a, oI 2, oI 1, oI c1] [.ref w])
     have q6_1_v30 := (q6_1.other W19 (Or.inl ne_w_b6_0))
     obtain ⟨T29, X29, e29, st29⟩ := getF X27 hx hZ hown (host := "") (Or.inl (oW hw 72 rfl)) Via.refl e27 q6_1_v30 (g := (mkF m 55 #[oR w, oR a, oI 2, oI 1, oI c1] [.ref w])) rfl rfl (hb hby op81_7_55)
     refine oS st29 ?_
     refine oS (fun t k => XS.aloadN X29.here hx rfl (hb hby op81_7_58) rfl rfl k) ?_
     show oG _ _ _ _ T29 (mkF m 59 #[oR w, oR a, oI 2, oI 1, oI c1] [.ref w, .ref b6_0])
     have q6_0_v32 := (q6_0.other W19 (Or.inl ne_w_b6_0))
     obtain ⟨T31, X31, e31, st31⟩ := getF X29 hx hZ hown (host := "") (Or.inl (oW hw 86 rfl)) Via.refl e29 q6_0_v32 (g := (mkF m 59 #[oR w, oR a, oI 2, oI 1, oI c1] [.ref w, .ref b6_0])) rfl rfl (hb hby op81_7_59)
     refine oS st31 ?_
     refine oS (fun t k => XS.iloadN X31.here hx rfl (hb hby op81_7_62) rfl k) ?_
     refine oS (fun t k => XS.iadd X31.here hx rfl (hb hby op81_7_63) rfl k) ?_
     refine oS (fun t k => XS.iload X31.here hx rfl (hb hby op81_7_64) rfl k) ?_
     refine oS (fun t k => XS.i2b X31.here hx rfl (hb hby op81_7_66) rfl k) ?_
     show oG _ _ _ _ T31 (mkF m 67 #[oR w, oR a, oI 2, oI 1, oI c1] [(.int (c1.toInt8.toInt32)), (.int (z6 + (1 : Int32))), .ref b6_0])
     have ti34 : (z6 + (1 : Int32)).toInt = ((N + 4) + 1) := own_addT sq6 (by decide) (by omega) (by omega)
     obtain ⟨T33, h33, X33, e33, W33, V33, st33⟩ := own_bufStore X31 hx hZ e31 V19 (x := (c1.toInt8.toInt32)) (j := (z6 + (1 : Int32))) (own_bd ti34 (by omega) (by omega)) (g := (mkF m 67 #[oR w, oR a, oI 2, oI 1, oI c1] [(.int (c1.toInt8.toInt32)), (.int (z6 + (1 : Int32))), .ref b6_0])) rfl rfl (hb hby op81_7_67)
     refine oS st33 ?_
     have K33 := K19.wr W33 (own_wz bz_b6_0 (List.mem_of_getElem? (i := 1) rfl))
     have N33 := Fr.snoc X33 N27 g_b6_0
     show oG _ _ _ _ T33 (mkF m 68 #[oR w, oR a, oI 2, oI 1, oI c1] [])
     refine oS (fun t k => XS.iinc X33.here hx rfl (hb hby op81_7_68) rfl (l' := #[oR w, oR a, oI 2, oI 2, oI c1]) rfl k) ?_
     refine oS (fun t k => XS.goto X33.here hx rfl (pc0 := 71) (pc' := 18) rfl (hb hby op81_7_71) (by decide) (by decide) k) ?_
     refine oS (fun t k => XS.iloadN X33.here hx rfl (hb hby op81_7_18) rfl k) ?_
     refine oS (fun t k => XS.iloadN X33.here hx rfl (hb hby op81_7_19) rfl k) ?_
     show oG _ _ _ _ T33 (mkF m 20 #[oR w, oR a, oI 2, oI 2, oI c1] [.int 2, .int 2])
     refine oS (fun t k => XS.icmpYes X33.here hx rfl (pc0 := 20) (pc' := 74) rfl (hb hby op81_7_20) rfl (flt (show ¬ ((2 : Int32) < (2 : Int32)) from (by decide))).2.1 (by decide) (by decide) k) ?_
     refine oS (fun t k => XS.aloadN X33.here hx rfl (hb hby op81_7_74) rfl rfl k) ?_
     refine oS (fun t k => XS.dup X33.here hx rfl (hb hby op81_7_75) rfl rfl k) ?_
     show oG _ _ _ _ T33 (mkF m 76 #[oR w, oR a, oI 2, oI 2, oI c1] [.ref w, .ref w])
     have q6_0_v36 := (q6_0_v32.other W33 (Or.inl ne_w_b6_0))
     obtain ⟨T35, X35, e35, st35⟩ := getF X33 hx hZ hown (host := "") (Or.inl (oW hw 86 rfl)) Via.refl e33 q6_0_v36 (g := (mkF m 76 #[oR w, oR a, oI 2, oI 2, oI c1] [.ref w, .ref w])) rfl rfl (hb hby op81_7_76)
     refine oS st35 ?_
     refine oS (fun t k => XS.iloadN X35.here hx rfl (hb hby op81_7_79) rfl k) ?_
     refine oS (fun t k => XS.iadd X35.here hx rfl (hb hby op81_7_80) rfl k) ?_
     show oG _ _ _ _ T35 (mkF m 81 #[oR w, oR a, oI 2, oI 2, oI c1] [(.int (z6 + (2 : Int32))), .ref w])
     have E_w_v38 := (((E_w_v5.keep Kq6).wr W19).wr W33)
     obtain ⟨T37, h37, X37, e37, W37, st37⟩ := putF X35 hx hZ hown (host := "") (Or.inl (oW hw 86 rfl)) Via.refl e35 q6_0_v36 E_w_v38 (Or.inl (oW hw 87 rfl)) (oW hw 63 rfl) (ty := .int) (by decide) rfl rfl (g := (mkF m 81 #[oR w, oR a, oI 2, oI 2, oI c1] [(.int (z6 + (2 : Int32))), .ref w])) rfl rfl (hb hby op81_7_81)
     refine oS st37 ?_
     have F37 := q6_0_v36.same W37
     have K37 := K33.wr W37 (Or.inl (List.mem_of_getElem? (i := 0) rfl))
     have N37 := Fr.snoc X37 N33 g_w
     have ti39 : (z6 + (2 : Int32)).toInt = ((N + 4) + 2) := own_addT sq6 (by decide) (by omega) (by omega)
     refine oS (fun t k => XS.aloadN X37.here hx rfl (hb hby op81_7_84) rfl rfl k) ?_
     show oG _ _ _ _ T37 (mkF m 85 #[oR w, oR a, oI 2, oI 2, oI c1] [.ref w])
     have uu0 := own_u1 hc35_16
     have uu1 := own_u1 hc35_28
     have hSf : own_St cp6 (z6 + (2 : Int32)) (N + (4 + own_u c0 + own_u c1)) := ⟨sc6, by omega, by omega, by omega⟩
     have q6_1_v40 := ((q6_1_v30.other W33 (Or.inl ne_w_b6_0)).other W37 (Or.inr (slot_ne (Or.inl (oW hw 73 rfl)) (Or.inl (oW hw 87 rfl)) (by decide) (t := (.array .byte)) (t' := .int) (by decide) (by decide))))
     have V33_v41 := (V33.other W37 (Ne.symm ne_w_b6_0))
     exact own_retAX X37 hx hlk hrt rfl rfl rfl (hb hby op81_7_85) (by rw [e37]; exact ⟨b6_0, k6_0, cp6, (z6 + (2 : Int32)), rfl, N37, K37, bz_b6_0, hSf, (own_fin IC27 (oB rfl)), (own_fin IS27 (oB rfl)), F37, q6_1_v40, V33_v41⟩)
   · refine oS (fun t k => XS.icmpNo X27.here hx rfl (hb hby op81_7_35) rfl (flt (show ¬ (c1 < (128 : Int32)) from hc35_28)).1 k) ?_
     refine oS (fun t k => XS.aloadN X27.here hx rfl (hb hby op81_7_38) rfl rfl k) ?_
     refine oS (fun t k => XS.dup X27.here hx rfl (hb hby op81_7_39) rfl rfl k) ?_
     show oG _ _ _ _ T27 (mkF m 40 #[oR w, oR a, oI 2, oI 1, oI c1] [.ref w, .ref w])
     have q6_0_v43 := (q6_0.other W19 (Or.inl ne_w_b6_0))
     obtain ⟨T42, X42, e42, st42⟩ := getF X27 hx hZ hown (host := "") (Or.inl (oW hw 86 rfl)) Via.refl e27 q6_0_v43 (g := (mkF m 40 #[oR w, oR a, oI 2, oI 1, oI c1] [.ref w, .ref w])) rfl rfl (hb hby op81_7_40)
     refine oS st42 ?_
     refine oS (fun t k => XS.iconst X42.here hx rfl (hb hby op81_7_43) k) ?_
     refine oS (fun t k => XS.isub X42.here hx rfl (hb hby op81_7_44) rfl k) ?_
     show oG _ _ _ _ T42 (mkF m 45 #[oR w, oR a, oI 2, oI 1, oI c1] [(.int (z6 - (4 : Int32))), .ref w])
     have E_w_v45 := ((E_w_v5.keep Kq6).wr W19)
     obtain ⟨T44, h44, X44, e44, W44, st44⟩ := putF X42 hx hZ hown (host := "") (Or.inl (oW hw 86 rfl)) Via.refl e42 q6_0_v43 E_w_v45 (Or.inl (oW hw 87 rfl)) (oW hw 63 rfl) (ty := .int) (by decide) rfl rfl (g := (mkF m 45 #[oR w, oR a, oI 2, oI 1, oI c1] [(.int (z6 - (4 : Int32))), .ref w])) rfl rfl (hb hby op81_7_45)
     refine oS st44 ?_
     have F44 := q6_0_v43.same W44
     have K44 := K19.wr W44 (Or.inl (List.mem_of_getElem? (i := 0) rfl))
     have N44 := Fr.snoc X44 N27 g_w
     have ti46 : (z6 - (4 : Int32)).toInt = ((N + 4) - 4) := own_subT sq6 (by decide) (by omega) (by omega)
     refine oS (fun t k => XS.aloadN X44.here hx rfl (hb hby op81_7_48) rfl rfl k) ?_
     refine oS (fun t k => XS.aloadN X44.here hx rfl (hb hby op81_7_49) rfl rfl k) ?_
     show oG _ _ _ _ T44 (mkF m 50 #[oR w, oR a, oI 2, oI 1, oI c1] [.ref a, .ref w])
     have hS47 : own_St cp6 (z6 - (4 : Int32)) ((N + 4) - 4) := ⟨sc6, ti46, by omega, by omega⟩
     have hN47 : ((N + 4) - 4) + (4 + own_u c0 + own_u c1) ≤ 128 := by omega
     have E_w_v48 := (E_w_v45.wr W44)
     have q6_1_v49 := ((q6_1.other W19 (Or.inl ne_w_b6_0)).other W44 (Or.inr (slot_ne (Or.inl (oW hw 73 rfl)) (Or.inl (oW hw 87 rfl)) (by decide) (t := (.array .byte)) (t' := .int) (by decide) (by decide))))
     have V19_v50 := (V19.other W44 (Ne.symm ne_w_b6_0))
     have E_a_v51 := (E_a_v21.wr W44)
     have F_a_coder_v52 := (F_a_coder_v22.other W44 (Or.inl naw))
     have F_a_value_v53 := (F_a_value_v23.other W44 (Or.inl naw))
     have V_va_v54 := (V_va_v24.other W44 nvaw)
     have S_C_v55 := (S_C_v25.wr W44)
     have S_I_v56 := (((own_staKeep (own_staKeep S_I Kq3 (allS (own_plainE E_w) (allS (own_plainB V_b) all0))) Kq6 (allS (own_plainE E_w_v5) all0)).wr W19).wr W44)
     have S_U_v57 := (((own_staKeep (own_staKeep S_U Kq3 (allS (own_plainE E_w) (allS (own_plainB V_b) all0))) Kq6 (allS (own_plainE E_w_v5) all0)).wr W19).wr W44)
     refine own_callPX X44 hx hZ (y := oy15) hown (oW hw 202 rfl) (oW hw 203 rfl) (oW hw 204 rfl) (oW hw 63 rfl) (oW hw 205 rfl) (oW hw 64 rfl) (by decide) 0 E_w_v48 [.ref a] [] (own_we l Z a0 hw [] w b6_0 k6_0 cp6 (z6 - (4 : Int32)) ((N + 4) - 4) a u8 va ka c0 c1 zc fm h44 n0 (Nat.le_trans Z0 K44.1) E_w_v48 F44 q6_1_v49 V19_v50 E_a_v51 F_a_coder_v52 F_a_value_v53 V_va_v54 S_C_v55 S_I_v56 S_U_v57 hS47 hN47 g_w g_b6_0 ne_w_b6_0 hc0a hc0b hc1a hc1b hz (fun q => hc35_28 q.2) naw ne_a_b6_0 nvaw ne_va_b6_0) e44  (oB rfl) (oB rfl) (own_need IC27 (oB rfl)) (own_need IS27 (oB rfl)) (g := (mkF m 50 #[oR w, oR a, oI 2, oI 1, oI c1] [.ref a, .ref w])) rfl (by rw [hml]; rfl) own_pd19 rfl rfl (by show 2 * 0 + _ ≤ _; exact Nat.le_of_eq rfl) (hb hby op81_7_50) ?_
     intro T58 v58 L58 xc58 xs58 X58 hQ58
     obtain ⟨b58_0, k58_0, cp58, z58, rfl, N58q, Kq58, zq58, hT58, hkC58, hkS58, q58_0, q58_1, q58_2⟩ := hQ58
     obtain ⟨sc58, sq58, sl58, su58⟩ := hT58
     have N58 := Fr.app N44 N58q
     have K58 := K44.trans Kq58 (allS (Or.inl (List.mem_of_getElem? (i := 0) rfl)) (allS (own_wz bz_b6_0 (List.mem_of_getElem? (i := 1) rfl)) all0))
     have g_b58_0 : n0 ≤ b58_0 := own_sz2 zq58 g_b6_0 (Nat.le_trans Z0 K44.1)
     have bz_b58_0 : b58_0 = b ∨ h0.size ≤ b58_0 := own_bz zq58 bz_b6_0 K44.1
     have ne_w_b58_0 : w ≠ b58_0 := own_ne2 ne_w_b6_0 E_w_v48.lt zq58
     have ne_a_b58_0 : a ≠ b58_0 := own_ne2 ne_a_b6_0 E_a_v51.lt zq58
     have ne_va_b58_0 : va ≠ b58_0 := own_ne2 ne_va_b6_0 V_va_v54.lt zq58
     have IC58 := own_acc IC27 hkC58
     have IS58 := own_acc IS27 hkS58
     show oG _ _ _ _ T58 (mkF m 53 #[oR w, oR a, oI 2, oI 1, oI c1] [.ref w])
     have hSf : own_St cp58 z58 (N + (4 + own_u c0 + own_u c1)) := ⟨sc58, by omega, by omega, by omega⟩
     exact own_retAX X58 hx hlk hrt rfl rfl rfl (hb hby op81_7_53) (by exact ⟨b58_0, k58_0, cp58, z58, rfl, N58, K58, bz_b58_0, hSf, (own_fin IC58 (oB rfl)), (own_fin IS58 (oB rfl)), q58_0, q58_1, q58_2⟩)
 · refine oS (fun t k => XS.icmpNo X15.here hx rfl (hb hby op81_7_35) rfl (flt (show ¬ (c0 < (128 : Int32)) from hc35_16)).1 k) ?_
   refine oS (fun t k => XS.aloadN X15.here hx rfl (hb hby op81_7_38) rfl rfl k) ?_
   refine oS (fun t k => XS.dup X15.here hx rfl (hb hby op81_7_39) rfl rfl k) ?_
   show oG _ _ _ _ T15 (mkF m 40 #[oR w, oR a, oI 2, oI 0, oI c0] [.ref w, .ref w])
   obtain ⟨T59, X59, e59, st59⟩ := getF X15 hx hZ hown (host := "") (Or.inl (oW hw 86 rfl)) Via.refl e15 q6_0 (g := (mkF m 40 #[oR w, oR a, oI 2, oI 0, oI c0] [.ref w, .ref w])) rfl rfl (hb hby op81_7_40)
   refine oS st59 ?_
   refine oS (fun t k => XS.iconst X59.here hx rfl (hb hby op81_7_43) k) ?_
   refine oS (fun t k => XS.isub X59.here hx rfl (hb hby op81_7_44) rfl k) ?_
   show oG _ _ _ _ T59 (mkF m 45 #[oR w, oR a, oI 2, oI 0, oI c0] [(.int (z6 - (4 : Int32))), .ref w])
   have E_w_v61 := (E_w_v5.keep Kq6)
   obtain ⟨T60, h60, X60, e60, W60, st60⟩ := putF X59 hx hZ hown (host := "") (Or.inl (oW hw 86 rfl)) Via.refl e59 q6_0 E_w_v61 (Or.inl (oW hw 87 rfl)) (oW hw 63 rfl) (ty := .int) (by decide) rfl rfl (g := (mkF m 45 #[oR w, oR a, oI 2, oI 0, oI c0] [(.int (z6 - (4 : Int32))), .ref w])) rfl rfl (hb hby op81_7_45)
   refine oS st60 ?_
   have F60 := q6_0.same W60
   have K60 := K6.wr W60 (Or.inl (List.mem_of_getElem? (i := 0) rfl))
   have N60 := Fr.snoc X60 N15 g_w
   have ti62 : (z6 - (4 : Int32)).toInt = ((N + 4) - 4) := own_subT sq6 (by decide) (by omega) (by omega)
   refine oS (fun t k => XS.aloadN X60.here hx rfl (hb hby op81_7_48) rfl rfl k) ?_
   refine oS (fun t k => XS.aloadN X60.here hx rfl (hb hby op81_7_49) rfl rfl k) ?_
   show oG _ _ _ _ T60 (mkF m 50 #[oR w, oR a, oI 2, oI 0, oI c0] [.ref a, .ref w])
   have hS63 : own_St cp6 (z6 - (4 : Int32)) ((N + 4) - 4) := ⟨sc6, ti62, by omega, by omega⟩
   have hN63 : ((N + 4) - 4) + (4 + own_u c0 + own_u c1) ≤ 128 := by omega
   have E_w_v64 := (E_w_v61.wr W60)
   have q6_1_v65 := (q6_1.other W60 (Or.inr (slot_ne (Or.inl (oW hw 73 rfl)) (Or.inl (oW hw 87 rfl)) (by decide) (t := (.array .byte)) (t' := .int) (by decide) (by decide))))
   have q6_2_v66 := (q6_2.other W60 (Ne.symm ne_w_b6_0))
   have E_a_v67 := (E_a_v9.wr W60)
   have F_a_coder_v68 := (F_a_coder_v10.other W60 (Or.inl naw))
   have F_a_value_v69 := (F_a_value_v11.other W60 (Or.inl naw))
   have V_va_v70 := (V_va_v12.other W60 nvaw)
   have S_C_v71 := (S_C_v13.wr W60)
   have S_I_v72 := ((own_staKeep (own_staKeep S_I Kq3 (allS (own_plainE E_w) (allS (own_plainB V_b) all0))) Kq6 (allS (own_plainE E_w_v5) all0)).wr W60)
   have S_U_v73 := ((own_staKeep (own_staKeep S_U Kq3 (allS (own_plainE E_w) (allS (own_plainB V_b) all0))) Kq6 (allS (own_plainE E_w_v5) all0)).wr W60)
   refine own_callPX X60 hx hZ (y := oy15) hown (oW hw 202 rfl) (oW hw 203 rfl) (oW hw 204 rfl) (oW hw 63 rfl) (oW hw 205 rfl) (oW hw 64 rfl) (by decide) 0 E_w_v64 [.ref a] [] (own_we l Z a0 hw [] w b6_0 k6_0 cp6 (z6 - (4 : Int32)) ((N + 4) - 4) a u8 va ka c0 c1 zc fm h60 n0 (Nat.le_trans Z0 K60.1) E_w_v64 F60 q6_1_v65 q6_2_v66 E_a_v67 F_a_coder_v68 F_a_value_v69 V_va_v70 S_C_v71 S_I_v72 S_U_v73 hS63 hN63 g_w g_b6_0 ne_w_b6_0 hc0a hc0b hc1a hc1b hz (fun q => hc35_16 q.1) naw ne_a_b6_0 nvaw ne_va_b6_0) e60  (oB rfl) (oB rfl) (own_need IC15 (oB rfl)) (own_need IS15 (oB rfl)) (g := (mkF m 50 #[oR w, oR a, oI 2, oI 0, oI c0] [.ref a, .ref w])) rfl (by rw [hml]; rfl) own_pd19 rfl rfl (by show 2 * 0 + _ ≤ _; exact Nat.le_of_eq rfl) (hb hby op81_7_50) ?_
   intro T74 v74 L74 xc74 xs74 X74 hQ74
   obtain ⟨b74_0, k74_0, cp74, z74, rfl, N74q, Kq74, zq74, hT74, hkC74, hkS74, q74_0, q74_1, q74_2⟩ := hQ74
   obtain ⟨sc74, sq74, sl74, su74⟩ := hT74
   have N74 := Fr.app N60 N74q
   have K74 := K60.trans Kq74 (allS (Or.inl (List.mem_of_getElem? (i := 0) rfl)) (allS (own_wz bz_b6_0 (List.mem_of_getElem? (i := 1) rfl)) all0))
   have g_b74_0 : n0 ≤ b74_0 := own_sz2 zq74 g_b6_0 (Nat.le_trans Z0 K60.1)
   have bz_b74_0 : b74_0 = b ∨ h0.size ≤ b74_0 := own_bz zq74 bz_b6_0 K60.1
   have ne_w_b74_0 : w ≠ b74_0 := own_ne2 ne_w_b6_0 E_w_v64.lt zq74
   have ne_a_b74_0 : a ≠ b74_0 := own_ne2 ne_a_b6_0 E_a_v67.lt zq74
   have ne_va_b74_0 : va ≠ b74_0 := own_ne2 ne_va_b6_0 V_va_v70.lt zq74
   have IC74 := own_acc IC15 hkC74
   have IS74 := own_acc IS15 hkS74
   show oG _ _ _ _ T74 (mkF m 53 #[oR w, oR a, oI 2, oI 0, oI c0] [.ref w])
   have hSf : own_St cp74 z74 (N + (4 + own_u c0 + own_u c1)) := ⟨sc74, by omega, by omega, by omega⟩
   exact own_retAX X74 hx hlk hrt rfl rfl rfl (hb hby op81_7_53) (by exact ⟨b74_0, k74_0, cp74, z74, rfl, N74, K74, bz_b74_0, hSf, (own_fin IC74 (oB rfl)), (own_fin IS74 (oB rfl)), q74_0, q74_1, q74_2⟩)
theorem own_pn_com_example_ringshift_ringshift_data_Row : plainName "com/example/ringshift/ringshift/data/Row" = true := by first | (simp [plainName, overriddenIn]; done) | decide +kernel
theorem own_ef24 (m : MethodId) (x0 : Addr) (x1 : Addr) : entryFrame m #[.ref x0, .ref x1] 6 = mkF m 0 #[.val (.ref x0), .val (.ref x1), .unset, .unset, .unset, .unset] [] := by first | (simp [entryFrame, mkF, argsToLocals, Value.category]; done) | rfl
theorem op68_15_0 : decode prog_68_method_15_code 0 = .ok (.aload_n 0, 1) := by decide +kernel
theorem op68_15_1 : decode prog_68_method_15_code 1 = .ok (.getfield 17, 3) := by decide +kernel
theorem op68_15_4 : decode prog_68_method_15_code 4 = .ok (.lconst 0, 1) := by decide +kernel
theorem op68_15_5 : decode prog_68_method_15_code 5 = .ok (.lcmp, 1) := by decide +kernel
theorem op68_15_6 : decode prog_68_method_15_code 6 = .ok (.ifCond .eq 16, 3) := by decide +kernel
theorem op68_15_22 : decode prog_68_method_15_code 22 = .ok (.aload_n 0, 1) := by decide +kernel
theorem op68_15_23 : decode prog_68_method_15_code 23 = .ok (.getfield 21, 3) := by decide +kernel
theorem op68_15_26 : decode prog_68_method_15_code 26 = .ok (.ifnull 16, 3) := by decide +kernel
theorem op68_15_42 : decode prog_68_method_15_code 42 = .ok (.aload_n 1, 1) := by decide +kernel
theorem op68_15_43 : decode prog_68_method_15_code 43 = .ok (.aload_n 0, 1) := by decide +kernel
theorem op68_15_44 : decode prog_68_method_15_code 44 = .ok (.getfield 13, 3) := by decide +kernel
theorem op68_15_47 : decode prog_68_method_15_code 47 = .ok (.arraylength, 1) := by decide +kernel
theorem op68_15_48 : decode prog_68_method_15_code 48 = .ok (.invokevirtual 140, 3) := by decide +kernel
theorem op68_15_51 : decode prog_68_method_15_code 51 = .ok (.pop, 1) := by decide +kernel
theorem op68_15_52 : decode prog_68_method_15_code 52 = .ok (.aload_n 0, 1) := by decide +kernel
theorem op68_15_53 : decode prog_68_method_15_code 53 = .ok (.getfield 13, 3) := by decide +kernel
theorem op68_15_56 : decode prog_68_method_15_code 56 = .ok (.astore_n 2, 1) := by decide +kernel
theorem op68_15_57 : decode prog_68_method_15_code 57 = .ok (.aload_n 2, 1) := by decide +kernel
theorem op68_15_58 : decode prog_68_method_15_code 58 = .ok (.arraylength, 1) := by decide +kernel
theorem op68_15_59 : decode prog_68_method_15_code 59 = .ok (.istore_n 3, 1) := by decide +kernel
theorem op68_15_60 : decode prog_68_method_15_code 60 = .ok (.iconst 0, 1) := by decide +kernel
theorem op68_15_61 : decode prog_68_method_15_code 61 = .ok (.istore 4, 2) := by decide +kernel
theorem op68_15_63 : decode prog_68_method_15_code 63 = .ok (.iload 4, 2) := by decide +kernel
theorem op68_15_65 : decode prog_68_method_15_code 65 = .ok (.iload_n 3, 1) := by decide +kernel
theorem op68_15_66 : decode prog_68_method_15_code 66 = .ok (.if_icmp .ge 49, 3) := by decide +kernel
theorem op68_15_115 : decode prog_68_method_15_code 115 = .ok (.return_, 1) := by decide +kernel
theorem op68_15_9 : decode prog_68_method_15_code 9 = .ok (.aload_n 1, 1) := by decide +kernel
theorem op68_15_10 : decode prog_68_method_15_code 10 = .ok (.iconst (-1), 1) := by decide +kernel
theorem op68_15_11 : decode prog_68_method_15_code 11 = .ok (.invokevirtual 140, 3) := by decide +kernel
theorem op68_15_14 : decode prog_68_method_15_code 14 = .ok (.aload_n 0, 1) := by decide +kernel
theorem op68_15_15 : decode prog_68_method_15_code 15 = .ok (.getfield 17, 3) := by decide +kernel
theorem op68_15_18 : decode prog_68_method_15_code 18 = .ok (.invokevirtual 144, 3) := by decide +kernel
theorem own_pd20 : parseMethodDescriptor "(J)Lcom/example/ringshift/ringshift/io/BinaryWriter;" = some ⟨[.long], some (.object "com/example/ringshift/ringshift/io/BinaryWriter")⟩ := by decide +kernel
theorem op68_15_21 : decode prog_68_method_15_code 21 = .ok (.pop, 1) := by decide +kernel
theorem op68_15_69 : decode prog_68_method_15_code 69 = .ok (.aload_n 2, 1) := by decide +kernel
theorem op68_15_70 : decode prog_68_method_15_code 70 = .ok (.iload 4, 2) := by decide +kernel
theorem op68_15_72 : decode prog_68_method_15_code 72 = .ok (.aaload, 1) := by decide +kernel
theorem op68_15_73 : decode prog_68_method_15_code 73 = .ok (.astore 5, 2) := by decide +kernel
theorem op68_15_75 : decode prog_68_method_15_code 75 = .ok (.aload_n 1, 1) := by decide +kernel
theorem op68_15_76 : decode prog_68_method_15_code 76 = .ok (.aload 5, 2) := by decide +kernel
theorem op68_15_78 : decode prog_68_method_15_code 78 = .ok (.ifnonnull 7, 3) := by decide +kernel
theorem op68_15_81 : decode prog_68_method_15_code 81 = .ok (.aconst_null, 1) := by decide +kernel
theorem op68_15_82 : decode prog_68_method_15_code 82 = .ok (.goto 8, 3) := by decide +kernel
theorem op68_15_90 : decode prog_68_method_15_code 90 = .ok (.invokevirtual 151, 3) := by decide +kernel
theorem op68_15_93 : decode prog_68_method_15_code 93 = .ok (.pop, 1) := by decide +kernel
theorem op68_15_94 : decode prog_68_method_15_code 94 = .ok (.aload 5, 2) := by decide +kernel
theorem op68_15_96 : decode prog_68_method_15_code 96 = .ok (.ifnull 13, 3) := by decide +kernel
theorem op68_15_109 : decode prog_68_method_15_code 109 = .ok (.iinc 4 1, 3) := by decide +kernel
theorem op68_15_112 : decode prog_68_method_15_code 112 = .ok (.goto (-49), 3) := by decide +kernel
set_option maxRecDepth 65536 in
set_option maxHeartbeats 40000000 in
theorem own_wa (l : Launch) (Z : State) (a0 : Array Value) (hw : ∀ d ∈ tables_1, d.before a0 Z = true) (ws : List Jvm.Cond) (w : Addr) (b : Addr) (kb : ClassId) (cap : Int32) (sz : Int32) (N : Int) (rw : Addr) (cs : Addr) (kc : ClassId) (dl : Int64) (nn : Int32) (h0 : Heap) (n0 : Nat) (Z0 : n0 ≤ h0.size) (E_w : Exa Z h0 w "com/example/ringshift/ringshift/io/BinaryWriter") (F_w_size : Fld Z h0 w "com/example/ringshift/ringshift/io/BinaryWriter" "size" "I" (.int sz)) (F_w_bytes : Fld Z h0 w "com/example/ringshift/ringshift/io/BinaryWriter" "bytes" "[B" (.ref b)) (V_b : own_Buf Z h0 b kb cap) (E_rw : Exa Z h0 rw "com/example/ringshift/ringshift/data/Row") (F_rw_deletedAt : Fld Z h0 rw "com/example/ringshift/ringshift/data/Row" "deletedAt" "J" (.long dl)) (F_rw_movedFrom : Fld Z h0 rw "com/example/ringshift/ringshift/data/Row" "movedFrom" "Lcom/example/ringshift/ringshift/data/MovedFrom;" .null) (F_rw_cells : Fld Z h0 rw "com/example/ringshift/ringshift/data/Row" "cells" "[Lcom/example/ringshift/ringshift/data/Cell;" (.ref cs)) (V_cs : Arv Z h0 cs kc (.object "com/example/ringshift/ringshift/data/Cell") nn [] .null) (hS : own_St cap sz N) (hN : N + (own_d dl + 4 + 4 * nn.toInt) ≤ 128) (g_w : n0 ≤ w) (g_b : n0 ≤ b) (nwb : ¬ (w = b)) (hnn : nn = (0 : Int32) ∨ nn = (1 : Int32) ∨ nn = (2 : Int32) ∨ nn = (3 : Int32)) (nrww : ¬ (rw = w)) (nrwb : ¬ (rw = b)) (ncsw : ¬ (cs = w)) (ncsb : ¬ (cs = b)) :
   own_MetX l Z oy3 prog_68_method_15_code 6 none ws ({ frames := 5, cells := 0 + own_gc cap, slots := 0 + own_gs cap, locals := 120 } : Room) #[.ref rw, .ref w] h0 (fun v h L k n => ∃ (b2 : Addr) (k2 : ClassId) (cap2 sz2 : Int32), v = none ∧ Fr n0 L ∧ Keep h0 h [w, b] ∧ (b2 = b ∨ h0.size ≤ b2) ∧ own_St cap2 sz2 (N + (own_d dl + 4 + 4 * nn.toInt)) ∧ k + own_gc cap2 ≤ 0 + own_gc cap ∧ n + own_gs cap2 ≤ 0 + own_gs cap ∧ Fld Z h w "com/example/ringshift/ringshift/io/BinaryWriter" "size" "I" (.int sz2) ∧ Fld Z h w "com/example/ringshift/ringshift/io/BinaryWriter" "bytes" "[B" (.ref b2) ∧ own_Buf Z h b2 k2 cap2) := by
 refine own_bodyX (plainFor_of_name own_pn_com_example_ringshift_ringshift_data_Row) (fun p e s m below meth c s₁ hx hby hml0 hrt hlk hown0 hnm hZ X0 e0 => ?_)
 have N0 := Fr.nil n0
 have hown : s.vm.findClass "com/example/ringshift/ringshift/data/Row" = some m.cls := hown0
 have hml : c.maxLocals = 6 := hml0
 refine own_castG (own_ef24 m rw w) ?_
 have IC0 : 0 + own_gc cap ≤ 0 + own_gc cap := Nat.le_refl _
 have IS0 : 0 + own_gs cap ≤ 0 + own_gs cap := Nat.le_refl _
 have hS0 := hS
 obtain ⟨sc0, sq0, sl0, su0⟩ := hS0
 have bz_b : b = b ∨ h0.size ≤ b := Or.inl rfl
 have dr := own_dr dl
 show oG _ _ _ _ s₁ (mkF m 0 #[oR rw, oR w, .unset, .unset, .unset, .unset] [])
 rcases hnn with hnn | hnn | hnn | hnn
 · have tn : nn.toInt = 0 := by rw [hnn]; decide
   have Va : Arv Z h0 cs kc (.object "com/example/ringshift/ringshift/data/Cell") (0 : Int32) [] .null := by rw [← hnn]; exact V_cs
   have Vb : Arv Z h0 cs kc (.object "com/example/ringshift/ringshift/data/Cell") (0 : Int32) [] .null := Va.pad (pad_rep [] .null 0)
   show oG _ _ _ _ s₁ (mkF m 0 #[oR rw, oR w, .unset, .unset, .unset, .unset] [])
   refine oS (fun t k => XS.aloadN X0.here hx rfl (hb hby op68_15_0) rfl rfl k) ?_
   show oG _ _ _ _ s₁ (mkF m 1 #[oR rw, oR w, .unset, .unset, .unset, .unset] [.ref rw])
   obtain ⟨T1, X1, e1, st1⟩ := getF X0 hx hZ hown (host := "") (Or.inl (oW hw 51 rfl)) Via.refl e0 F_rw_deletedAt (g := (mkF m 1 #[oR rw, oR w, .unset, .unset, .unset, .unset] [.ref rw])) rfl rfl (hb hby op68_15_1)
   refine oS st1 ?_
   refine oS (fun t k => XS.lconst X1.here hx rfl (hb hby op68_15_4) k) ?_
   show oG _ _ _ _ T1 (mkF m 5 #[oR rw, oR w, .unset, .unset, .unset, .unset] [(.long (0 : Int64)), (.long dl)])
   refine oS (fun t k => XS.lcmp X1.here hx rfl (hb hby op68_15_5) rfl k) ?_
   show oG _ _ _ _ T1 (mkF m 6 #[oR rw, oR w, .unset, .unset, .unset, .unset] [(.int (lcmpW dl (0 : Int64)))])
   by_cases hc6_2 : (lcmpW dl (0 : Int64)) = (0 : Int32)
   · refine oS (fun t k => XS.ifYes X1.here hx rfl (pc0 := 6) (pc' := 22) rfl (hb hby op68_15_6) rfl ((if0 _ _).trans (teq (show (lcmpW dl (0 : Int64)) = (0 : Int32) from hc6_2)).1) (by decide) (by decide) k) ?_
     show oG _ _ _ _ T1 (mkF m 22 #[oR rw, oR w, .unset, .unset, .unset, .unset] [])
     have dd := own_d0 hc6_2
     show oG _ _ _ _ T1 (mkF m 22 #[oR rw, oR w, .unset, .unset, .unset, .unset] [])
     refine oS (fun t k => XS.aloadN X1.here hx rfl (hb hby op68_15_22) rfl rfl k) ?_
     show oG _ _ _ _ T1 (mkF m 23 #[oR rw, oR w, .unset, .unset, .unset, .unset] [.ref rw])
     obtain ⟨T3, X3, e3, st3⟩ := getF X1 hx hZ hown (host := "") (Or.inl (oW hw 53 rfl)) Via.refl e1 F_rw_movedFrom (g := (mkF m 23 #[oR rw, oR w, .unset, .unset, .unset, .unset] [.ref rw])) rfl rfl (hb hby op68_15_23)
     refine oS st3 ?_
     show oG _ _ _ _ T3 (mkF m 26 #[oR rw, oR w, .unset, .unset, .unset, .unset] [.null])
     refine oS (fun t k => XS.ifnullYes X3.here hx rfl (pc0 := 26) (pc' := 42) rfl (hb hby op68_15_26) rfl (by decide) (by decide) k) ?_
     refine oS (fun t k => XS.aloadN X3.here hx rfl (hb hby op68_15_42) rfl rfl k) ?_
     refine oS (fun t k => XS.aloadN X3.here hx rfl (hb hby op68_15_43) rfl rfl k) ?_
     show oG _ _ _ _ T3 (mkF m 44 #[oR rw, oR w, .unset, .unset, .unset, .unset] [.ref rw, .ref w])
     obtain ⟨T4, X4, e4, st4⟩ := getF X3 hx hZ hown (host := "") (Or.inl (oW hw 49 rfl)) Via.refl e3 F_rw_cells (g := (mkF m 44 #[oR rw, oR w, .unset, .unset, .unset, .unset] [.ref rw, .ref w])) rfl rfl (hb hby op68_15_44)
     refine oS st4 ?_
     show oG _ _ _ _ T4 (mkF m 47 #[oR rw, oR w, .unset, .unset, .unset, .unset] [.ref cs, .ref w])
     refine oS (own_alen X4 hx hZ e4 Vb (g := (mkF m 47 #[oR rw, oR w, .unset, .unset, .unset, .unset] [.ref cs, .ref w])) rfl rfl (hb hby op68_15_47)) ?_
     show oG _ _ _ _ T4 (mkF m 48 #[oR rw, oR w, .unset, .unset, .unset, .unset] [.int 0, .ref w])
     have hS5 : own_St cap sz N := ⟨sc0, sq0, by omega, by omega⟩
     have hN5 : N + 4 ≤ 128 := by omega
     refine own_callVX X4 hx hZ (y := oy16) (z := oy16) hown (oW hw 166 rfl) (oW hw 131 rfl) (notFace_of_selects (args := #[]) (mvT hZ (oW hw 133 rfl))) (oW hw 133 rfl) (oW hw 132 rfl) (oW hw 134 rfl) (oW hw 64 rfl) (by decide) 0 E_w [.int 0] [] (own_wi l Z a0 hw [] w b kb cap sz N 0 h0 n0 Z0 E_w F_w_size F_w_bytes V_b hS5 hN5 g_w g_b nwb) e4  (oB rfl) (oB rfl) (own_need IC0 (oB rfl)) (own_need IS0 (oB rfl)) (g := (mkF m 48 #[oR rw, oR w, .unset, .unset, .unset, .unset] [.int 0, .ref w])) rfl (by rw [hml]; rfl) own_pd15 rfl rfl (by show 2 * 0 + _ ≤ _; exact Nat.le_of_eq rfl) (hb hby op68_15_48) ?_
     intro T6 v6 L6 xc6 xs6 X6 hQ6
     obtain ⟨b6_0, k6_0, cp6, z6, rfl, N6q, Kq6, zq6, hT6, hkC6, hkS6, q6_0, q6_1, q6_2⟩ := hQ6
     obtain ⟨sc6, sq6, sl6, su6⟩ := hT6
     have N6 := Fr.app N0 N6q
     have K6 := (Keep.refl h0 [w, b]).trans Kq6 (allS (Or.inl (List.mem_of_getElem? (i := 0) rfl)) (allS (Or.inl (List.mem_of_getElem? (i := 1) rfl)) all0))
     have g_b6_0 : n0 ≤ b6_0 := own_sz2 zq6 g_b Z0
     have bz_b6_0 : b6_0 = b ∨ h0.size ≤ b6_0 := own_bz zq6 bz_b (Keep.refl h0 [w, b]).1
     have ne_w_b6_0 : w ≠ b6_0 := own_ne2 nwb E_w.lt zq6
     have ne_rw_b6_0 : rw ≠ b6_0 := own_ne2 nrwb E_rw.lt zq6
     have ne_cs_b6_0 : cs ≠ b6_0 := own_ne2 ncsb Vb.lt zq6
     have IC6 := own_acc IC0 hkC6
     have IS6 := own_acc IS0 hkS6
     refine oS (fun t k => XS.pop X6.here hx rfl (hb hby op68_15_51) rfl rfl k) ?_
     refine oS (fun t k => XS.aloadN X6.here hx rfl (hb hby op68_15_52) rfl rfl k) ?_
     show oG _ _ _ _ T6 (mkF m 53 #[oR rw, oR w, .unset, .unset, .unset, .unset] [.ref rw])
     have F_rw_cells_v8 := (F_rw_cells.keep Kq6 (ninS nrww (ninS nrwb nin0)))
     obtain ⟨T7, X7, e7, st7⟩ := getF X6 hx hZ hown (host := "") (Or.inl (oW hw 49 rfl)) Via.refl rfl F_rw_cells_v8 (g := (mkF m 53 #[oR rw, oR w, .unset, .unset, .unset, .unset] [.ref rw])) rfl rfl (hb hby op68_15_53)
     refine oS st7 ?_
     refine oS (fun t k => XS.astoreN X7.here hx rfl (hb hby op68_15_56) rfl rfl (l' := #[oR rw, oR w, oR cs, .unset, .unset, .unset]) rfl k) ?_
     refine oS (fun t k => XS.aloadN X7.here hx rfl (hb hby op68_15_57) rfl rfl k) ?_
     show oG _ _ _ _ T7 (mkF m 58 #[oR rw, oR w, oR cs, .unset, .unset, .unset] [.ref cs])
     have Vb_v9 := (Vb.keep Kq6 (ninS ncsw (ninS ncsb nin0)))
     refine oS (own_alen X7 hx hZ e7 Vb_v9 (g := (mkF m 58 #[oR rw, oR w, oR cs, .unset, .unset, .unset] [.ref cs])) rfl rfl (hb hby op68_15_58)) ?_
     refine oS (fun t k => XS.istoreN X7.here hx rfl (hb hby op68_15_59) rfl (l' := #[oR rw, oR w, oR cs, oI 0, .unset, .unset]) rfl k) ?_
     refine oS (fun t k => XS.iconst X7.here hx rfl (hb hby op68_15_60) k) ?_
     refine oS (fun t k => XS.istore X7.here hx rfl (hb hby op68_15_61) rfl (l' := #[oR rw, oR w, oR cs, oI 0, oI 0, .unset]) rfl k) ?_
     refine oS (fun t k => XS.iload X7.here hx rfl (hb hby op68_15_63) rfl k) ?_
     refine oS (fun t k => XS.iloadN X7.here hx rfl (hb hby op68_15_65) rfl k) ?_
     show oG _ _ _ _ T7 (mkF m 66 #[oR rw, oR w, oR cs, oI 0, oI 0, .unset] [.int 0, .int 0])
     refine oS (fun t k => XS.icmpYes X7.here hx rfl (pc0 := 66) (pc' := 115) rfl (hb hby op68_15_66) rfl (flt (show ¬ ((0 : Int32) < (0 : Int32)) from (by decide))).2.1 (by decide) (by decide) k) ?_
     show oG _ _ _ _ T7 (mkF m 115 #[oR rw, oR w, oR cs, oI 0, oI 0, .unset] [])
     have hSf : own_St cp6 z6 (N + (own_d dl + 4 + 4 * nn.toInt)) := ⟨sc6, by omega, by omega, by omega⟩
     exact own_retVX X7 hx hlk hrt (hb hby op68_15_115) (by rw [e7]; exact ⟨b6_0, k6_0, cp6, z6, rfl, N6, K6, bz_b6_0, hSf, (own_fin IC6 (oB rfl)), (own_fin IS6 (oB rfl)), q6_0, q6_1, q6_2⟩)
   · refine oS (fun t k => XS.ifNo X1.here hx rfl (hb hby op68_15_6) rfl ((if0 _ _).trans (feq (show ¬ ((lcmpW dl (0 : Int64)) = (0 : Int32)) from hc6_2)).1) k) ?_
     show oG _ _ _ _ T1 (mkF m 9 #[oR rw, oR w, .unset, .unset, .unset, .unset] [])
     have dd := own_d1 hc6_2
     show oG _ _ _ _ T1 (mkF m 9 #[oR rw, oR w, .unset, .unset, .unset, .unset] [])
     refine oS (fun t k => XS.aloadN X1.here hx rfl (hb hby op68_15_9) rfl rfl k) ?_
     refine oS (fun t k => XS.iconst X1.here hx rfl (hb hby op68_15_10) k) ?_
     show oG _ _ _ _ T1 (mkF m 11 #[oR rw, oR w, .unset, .unset, .unset, .unset] [(.int (-1 : Int32)), .ref w])
     have hS10 : own_St cap sz N := ⟨sc0, sq0, by omega, by omega⟩
     have hN10 : N + 4 ≤ 128 := by omega
     refine own_callVX X1 hx hZ (y := oy16) (z := oy16) hown (oW hw 166 rfl) (oW hw 131 rfl) (notFace_of_selects (args := #[]) (mvT hZ (oW hw 133 rfl))) (oW hw 133 rfl) (oW hw 132 rfl) (oW hw 134 rfl) (oW hw 64 rfl) (by decide) 0 E_w [(.int (-1 : Int32))] [] (own_wi l Z a0 hw [] w b kb cap sz N (-1 : Int32) h0 n0 Z0 E_w F_w_size F_w_bytes V_b hS10 hN10 g_w g_b nwb) e1  (oB rfl) (oB rfl) (own_need IC0 (oB rfl)) (own_need IS0 (oB rfl)) (g := (mkF m 11 #[oR rw, oR w, .unset, .unset, .unset, .unset] [(.int (-1 : Int32)), .ref w])) rfl (by rw [hml]; rfl) own_pd15 rfl rfl (by show 2 * 0 + _ ≤ _; exact Nat.le_of_eq rfl) (hb hby op68_15_11) ?_
     intro T11 v11 L11 xc11 xs11 X11 hQ11
     obtain ⟨b11_0, k11_0, cp11, z11, rfl, N11q, Kq11, zq11, hT11, hkC11, hkS11, q11_0, q11_1, q11_2⟩ := hQ11
     obtain ⟨sc11, sq11, sl11, su11⟩ := hT11
     have N11 := Fr.app N0 N11q
     have K11 := (Keep.refl h0 [w, b]).trans Kq11 (allS (Or.inl (List.mem_of_getElem? (i := 0) rfl)) (allS (Or.inl (List.mem_of_getElem? (i := 1) rfl)) all0))
     have g_b11_0 : n0 ≤ b11_0 := own_sz2 zq11 g_b Z0
     have bz_b11_0 : b11_0 = b ∨ h0.size ≤ b11_0 := own_bz zq11 bz_b (Keep.refl h0 [w, b]).1
     have ne_w_b11_0 : w ≠ b11_0 := own_ne2 nwb E_w.lt zq11
     have ne_rw_b11_0 : rw ≠ b11_0 := own_ne2 nrwb E_rw.lt zq11
     have ne_cs_b11_0 : cs ≠ b11_0 := own_ne2 ncsb Vb.lt zq11
     have IC11 := own_acc IC0 hkC11
     have IS11 := own_acc IS0 hkS11
     refine oS (fun t k => XS.aloadN X11.here hx rfl (hb hby op68_15_14) rfl rfl k) ?_
     show oG _ _ _ _ T11 (mkF m 15 #[oR rw, oR w, .unset, .unset, .unset, .unset] [.ref rw, .ref w])
     have F_rw_deletedAt_v13 := (F_rw_deletedAt.keep Kq11 (ninS nrww (ninS nrwb nin0)))
     obtain ⟨T12, X12, e12, st12⟩ := getF X11 hx hZ hown (host := "") (Or.inl (oW hw 51 rfl)) Via.refl rfl F_rw_deletedAt_v13 (g := (mkF m 15 #[oR rw, oR w, .unset, .unset, .unset, .unset] [.ref rw, .ref w])) rfl rfl (hb hby op68_15_15)
     refine oS st12 ?_
     show oG _ _ _ _ T12 (mkF m 18 #[oR rw, oR w, .unset, .unset, .unset, .unset] [(.long dl), .ref w])
     have hS14 : own_St cp11 z11 (N + 4) := ⟨sc11, sq11, by omega, by omega⟩
     have hN14 : (N + 4) + 8 ≤ 128 := by omega
     have E_w_v15 := (E_w.keep Kq11)
     refine own_callVX X12 hx hZ (y := oy17) (z := oy17) hown (oW hw 167 rfl) (oW hw 168 rfl) (notFace_of_selects (args := #[]) (mvT hZ (oW hw 170 rfl))) (oW hw 170 rfl) (oW hw 169 rfl) (oW hw 171 rfl) (oW hw 64 rfl) (by decide) 0 E_w_v15 [(.long dl)] [] (own_wl l Z a0 hw [] w b11_0 k11_0 cp11 z11 (N + 4) dl T11.heap n0 (Nat.le_trans Z0 K11.1) E_w_v15 q11_0 q11_1 q11_2 hS14 hN14 g_w g_b11_0 ne_w_b11_0) e12  (oB rfl) (oB rfl) (own_need IC11 (oB rfl)) (own_need IS11 (oB rfl)) (g := (mkF m 18 #[oR rw, oR w, .unset, .unset, .unset, .unset] [(.long dl), .ref w])) rfl (by rw [hml]; rfl) own_pd20 rfl rfl (by show 2 * 0 + _ ≤ _; exact Nat.le_of_eq rfl) (hb hby op68_15_18) ?_
     intro T16 v16 L16 xc16 xs16 X16 hQ16
     have E_rw_v17 := (E_rw.keep Kq11)
     have Vb_v18 := (Vb.keep Kq11 (ninS ncsw (ninS ncsb nin0)))
     obtain ⟨b16_0, k16_0, cp16, z16, rfl, N16q, Kq16, zq16, hT16, hkC16, hkS16, q16_0, q16_1, q16_2⟩ := hQ16
     obtain ⟨sc16, sq16, sl16, su16⟩ := hT16
     have N16 := Fr.app N11 N16q
     have K16 := K11.trans Kq16 (allS (Or.inl (List.mem_of_getElem? (i := 0) rfl)) (allS (own_wz bz_b11_0 (List.mem_of_getElem? (i := 1) rfl)) all0))
     have g_b16_0 : n0 ≤ b16_0 := own_sz2 zq16 g_b11_0 (Nat.le_trans Z0 K11.1)
     have bz_b16_0 : b16_0 = b ∨ h0.size ≤ b16_0 := own_bz zq16 bz_b11_0 K11.1
     have ne_w_b16_0 : w ≠ b16_0 := own_ne2 ne_w_b11_0 E_w_v15.lt zq16
     have ne_rw_b16_0 : rw ≠ b16_0 := own_ne2 ne_rw_b11_0 E_rw_v17.lt zq16
     have ne_cs_b16_0 : cs ≠ b16_0 := own_ne2 ne_cs_b11_0 Vb_v18.lt zq16
     have IC16 := own_acc IC11 hkC16
     have IS16 := own_acc IS11 hkS16
     refine oS (fun t k => XS.pop X16.here hx rfl (hb hby op68_15_21) rfl rfl k) ?_
     show oG _ _ _ _ T16 (mkF m 22 #[oR rw, oR w, .unset, .unset, .unset, .unset] [])
     refine oS (fun t k => XS.aloadN X16.here hx rfl (hb hby op68_15_22) rfl rfl k) ?_
     show oG _ _ _ _ T16 (mkF m 23 #[oR rw, oR w, .unset, .unset, .unset, .unset] [.ref rw])
     have F_rw_movedFrom_v20 := ((F_rw_movedFrom.keep Kq11 (ninS nrww (ninS nrwb nin0))).keep Kq16 (ninS nrww (ninS ne_rw_b11_0 nin0)))
     obtain ⟨T19, X19, e19, st19⟩ := getF X16 hx hZ hown (host := "") (Or.inl (oW hw 53 rfl)) Via.refl rfl F_rw_movedFrom_v20 (g := (mkF m 23 #[oR rw, oR w, .unset, .unset, .unset, .unset] [.ref rw])) rfl rfl (hb hby op68_15_23)
     refine oS st19 ?_
     show oG _ _ _ _ T19 (mkF m 26 #[oR rw, oR w, .unset, .unset, .unset, .unset] [.null])
     refine oS (fun t k => XS.ifnullYes X19.here hx rfl (pc0 := 26) (pc' := 42) rfl (hb hby op68_15_26) rfl (by decide) (by decide) k) ?_
     refine oS (fun t k => XS.aloadN X19.here hx rfl (hb hby op68_15_42) rfl rfl k) ?_
     refine oS (fun t k => XS.aloadN X19.here hx rfl (hb hby op68_15_43) rfl rfl k) ?_
     show oG _ _ _ _ T19 (mkF m 44 #[oR rw, oR w, .unset, .unset, .unset, .unset] [.ref rw, .ref w])
     have F_rw_cells_v22 := ((F_rw_cells.keep Kq11 (ninS nrww (ninS nrwb nin0))).keep Kq16 (ninS nrww (ninS ne_rw_b11_0 nin0)))
     obtain ⟨T21, X21, e21, st21⟩ := getF X19 hx hZ hown (host := "") (Or.inl (oW hw 49 rfl)) Via.refl e19 F_rw_cells_v22 (g := (mkF m 44 #[oR rw, oR w, .unset, .unset, .unset, .unset] [.ref rw, .ref w])) rfl rfl (hb hby op68_15_44)
     refine oS st21 ?_
     show oG _ _ _ _ T21 (mkF m 47 #[oR rw, oR w, .unset, .unset, .unset, .unset] [.ref cs, .ref w])
     have Vb_v23 := (Vb_v18.keep Kq16 (ninS ncsw (ninS ne_cs_b11_0 nin0)))
     refine oS (own_alen X21 hx hZ e21 Vb_v23 (g := (mkF m 47 #[oR rw, oR w, .unset, .unset, .unset, .unset] [.ref cs, .ref w])) rfl rfl (hb hby op68_15_47)) ?_
     show oG _ _ _ _ T21 (mkF m 48 #[oR rw, oR w, .unset, .unset, .unset, .unset] [.int 0, .ref w])
     have hS24 : own_St cp16 z16 ((N + 4) + 8) := ⟨sc16, sq16, by omega, by omega⟩
     have hN24 : ((N + 4) + 8) + 4 ≤ 128 := by omega
     have E_w_v25 := (E_w_v15.keep Kq16)
     refine own_callVX X21 hx hZ (y := oy16) (z := oy16) hown (oW hw 166 rfl) (oW hw 131 rfl) (notFace_of_selects (args := #[]) (mvT hZ (oW hw 133 rfl))) (oW hw 133 rfl) (oW hw 132 rfl) (oW hw 134 rfl) (oW hw 64 rfl) (by decide) 0 E_w_v25 [.int 0] [] (own_wi l Z a0 hw [] w b16_0 k16_0 cp16 z16 ((N + 4) + 8) 0 T16.heap n0 (Nat.le_trans Z0 K16.1) E_w_v25 q16_0 q16_1 q16_2 hS24 hN24 g_w g_b16_0 ne_w_b16_0) e21  (oB rfl) (oB rfl) (own_need IC16 (oB rfl)) (own_need IS16 (oB rfl)) (g := (mkF m 48 #[oR rw, oR w, .unset, .unset, .unset, .unset] [.int 0, .ref w])) rfl (by rw [hml]; rfl) own_pd15 rfl rfl (by show 2 * 0 + _ ≤ _; exact Nat.le_of_eq rfl) (hb hby op68_15_48) ?_
     intro T26 v26 L26 xc26 xs26 X26 hQ26
     have E_rw_v27 := (E_rw_v17.keep Kq16)
     obtain ⟨b26_0, k26_0, cp26, z26, rfl, N26q, Kq26, zq26, hT26, hkC26, hkS26, q26_0, q26_1, q26_2⟩ := hQ26
     obtain ⟨sc26, sq26, sl26, su26⟩ := hT26
     have N26 := Fr.app N16 N26q
     have K26 := K16.trans Kq26 (allS (Or.inl (List.mem_of_getElem? (i := 0) rfl)) (allS (own_wz bz_b16_0 (List.mem_of_getElem? (i := 1) rfl)) all0))
     have g_b26_0 : n0 ≤ b26_0 := own_sz2 zq26 g_b16_0 (Nat.le_trans Z0 K16.1)
     have bz_b26_0 : b26_0 = b ∨ h0.size ≤ b26_0 := own_bz zq26 bz_b16_0 K16.1
     have ne_w_b26_0 : w ≠ b26_0 := own_ne2 ne_w_b16_0 E_w_v25.lt zq26
     have ne_rw_b26_0 : rw ≠ b26_0 := own_ne2 ne_rw_b16_0 E_rw_v27.lt zq26
     have ne_cs_b26_0 : cs ≠ b26_0 := own_ne2 ne_cs_b16_0 Vb_v23.lt zq26
     have IC26 := own_acc IC16 hkC26
     have IS26 := own_acc IS16 hkS26
     refine oS (fun t k => XS.pop X26.here hx rfl (hb hby op68_15_51) rfl rfl k) ?_
     refine oS (fun t k => XS.aloadN X26.here hx rfl (hb hby op68_15_52) rfl rfl k) ?_
     show oG _ _ _ _ T26 (mkF m 53 #[oR rw, oR w, .unset, .unset, .unset, .unset] [.ref rw])
     have F_rw_cells_v29 := (F_rw_cells_v22.keep Kq26 (ninS nrww (ninS ne_rw_b16_0 nin0)))
     obtain ⟨T28, X28, e28, st28⟩ := getF X26 hx hZ hown (host := "") (Or.inl (oW hw 49 rfl)) Via.refl rfl F_rw_cells_v29 (g := (mkF m 53 #[oR rw, oR w, .unset, .unset, .unset, .unset] [.ref rw])) rfl rfl (hb hby op68_15_53)
     refine oS st28 ?_
     refine oS (fun t k => XS.astoreN X28.here hx rfl (hb hby op68_15_56) rfl rfl (l' := #[oR rw, oR w, oR cs, .unset, .unset, .unset]) rfl k) ?_
     refine oS (fun t k => XS.aloadN X28.here hx rfl (hb hby op68_15_57) rfl rfl k) ?_
     show oG _ _ _ _ T28 (mkF m 58 #[oR rw, oR w, oR cs, .unset, .unset, .unset] [.ref cs])
     have Vb_v30 := (Vb_v23.keep Kq26 (ninS ncsw (ninS ne_cs_b16_0 nin0)))
     refine oS (own_alen X28 hx hZ e28 Vb_v30 (g := (mkF m 58 #[oR rw, oR w, oR cs, .unset, .unset, .unset] [.ref cs])) rfl rfl (hb hby op68_15_58)) ?_
     refine oS (fun t k => XS.istoreN X28.here hx rfl (hb hby op68_15_59) rfl (l' := #[oR rw, oR w, oR cs, oI 0, .unset, .unset]) rfl k) ?_
     refine oS (fun t k => XS.iconst X28.here hx rfl (hb hby op68_15_60) k) ?_
     refine oS (fun t k => XS.istore X28.here hx rfl (hb hby op68_15_61) rfl (l' := #[oR rw, oR w, oR cs, oI 0, oI 0, .unset]) rfl k) ?_
     refine oS (fun t k => XS.iload X28.here hx rfl (hb hby op68_15_63) rfl k) ?_
     refine oS (fun t k => XS.iloadN X28.here hx rfl (hb hby op68_15_65) rfl k) ?_
     show oG _ _ _ _ T28 (mkF m 66 #[oR rw, oR w, oR cs, oI 0, oI 0, .unset] [.int 0, .int 0])
     refine oS (fun t k => XS.icmpYes X28.here hx rfl (pc0 := 66) (pc' := 115) rfl (hb hby op68_15_66) rfl (flt (show ¬ ((0 : Int32) < (0 : Int32)) from (by decide))).2.1 (by decide) (by decide) k) ?_
     show oG _ _ _ _ T28 (mkF m 115 #[oR rw, oR w, oR cs, oI 0, oI 0, .unset] [])
     have hSf : own_St cp26 z26 (N + (own_d dl + 4 + 4 * nn.toInt)) := ⟨sc26, by omega, by omega, by omega⟩
     exact own_retVX X28 hx hlk hrt (hb hby op68_15_115) (by rw [e28]; exact ⟨b26_0, k26_0, cp26, z26, rfl, N26, K26, bz_b26_0, hSf, (own_fin IC26 (oB rfl)), (own_fin IS26 (oB rfl)), q26_0, q26_1, q26_2⟩)
 · have tn : nn.toInt = 1 := by rw [hnn]; decide
   have Va : Arv Z h0 cs kc (.object "com/example/ringshift/ringshift/data/Cell") (1 : Int32) [] .null := by rw [← hnn]; exact V_cs
   have Vb : Arv Z h0 cs kc (.object "com/example/ringshift/ringshift/data/Cell") (1 : Int32) [.null] .null := Va.pad (pad_rep [] .null 1)
   show oG _ _ _ _ s₁ (mkF m 0 #[oR rw, oR w, .unset, .unset, .unset, .unset] [])
   refine oS (fun t k => XS.aloadN X0.here hx rfl (hb hby op68_15_0) rfl rfl k) ?_
   show oG _ _ _ _ s₁ (mkF m 1 #[oR rw, oR w, .unset, .unset, .unset, .unset] [.ref rw])
   obtain ⟨T31, X31, e31, st31⟩ := getF X0 hx hZ hown (host := "") (Or.inl (oW hw 51 rfl)) Via.refl e0 F_rw_deletedAt (g := (mkF m 1 #[oR rw, oR w, .unset, .unset, .unset, .unset] [.ref rw])) rfl rfl (hb hby op68_15_1)
   refine oS st31 ?_
   refine oS (fun t k => XS.lconst X31.here hx rfl (hb hby op68_15_4) k) ?_
   show oG _ _ _ _ T31 (mkF m 5 #[oR rw, oR w, .unset, .unset, .unset, .unset] [(.long (0 : Int64)), (.long dl)])
   refine oS (fun t k => XS.lcmp X31.here hx rfl (hb hby op68_15_5) rfl k) ?_
   show oG _ _ _ _ T31 (mkF m 6 #[oR rw, oR w, .unset, .unset, .unset, .unset] [(.int (lcmpW dl (0 : Int64)))])
   by_cases hc6_32 : (lcmpW dl (0 : Int64)) = (0 : Int32)
   · refine oS (fun t k => XS.ifYes X31.here hx rfl (pc0 := 6) (pc' := 22) rfl (hb hby op68_15_6) rfl ((if0 _ _).trans (teq (show (lcmpW dl (0 : Int64)) = (0 : Int32) from hc6_32)).1) (by decide) (by decide) k) ?_
     show oG _ _ _ _ T31 (mkF m 22 #[oR rw, oR w, .unset, .unset, .unset, .unset] [])
     have dd := own_d0 hc6_32
     show oG _ _ _ _ T31 (mkF m 22 #[oR rw, oR w, .unset, .unset, .unset, .unset] [])
     refine oS (fun t k => XS.aloadN X31.here hx rfl (hb hby op68_15_22) rfl rfl k) ?_
     show oG _ _ _ _ T31 (mkF m 23 #[oR rw, oR w, .unset, .unset, .unset, .unset] [.ref rw])
     obtain ⟨T33, X33, e33, st33⟩ := getF X31 hx hZ hown (host := "") (Or.inl (oW hw 53 rfl)) Via.refl e31 F_rw_movedFrom (g := (mkF m 23 #[oR rw, oR w, .unset, .unset, .unset, .unset] [.ref rw])) rfl rfl (hb hby op68_15_23)
     refine oS st33 ?_
     show oG _ _ _ _ T33 (mkF m 26 #[oR rw, oR w, .unset, .unset, .unset, .unset] [.null])
     refine oS (fun t k => XS.ifnullYes X33.here hx rfl (pc0 := 26) (pc' := 42) rfl (hb hby op68_15_26) rfl (by decide) (by decide) k) ?_
     refine oS (fun t k => XS.aloadN X33.here hx rfl (hb hby op68_15_42) rfl rfl k) ?_
     refine oS (fun t k => XS.aloadN X33.here hx rfl (hb hby op68_15_43) rfl rfl k) ?_
     show oG _ _ _ _ T33 (mkF m 44 #[oR rw, oR w, .unset, .unset, .unset, .unset] [.ref rw, .ref w])
     obtain ⟨T34, X34, e34, st34⟩ := getF X33 hx hZ hown (host := "") (Or.inl (oW hw 49 rfl)) Via.refl e33 F_rw_cells (g := (mkF m 44 #[oR rw, oR w, .unset, .unset, .unset, .unset] [.ref rw, .ref w])) rfl rfl (hb hby op68_15_44)
     refine oS st34 ?_
     show oG _ _ _ _ T34 (mkF m 47 #[oR rw, oR w, .unset, .unset, .unset, .unset] [.ref cs, .ref w])
     refine oS (own_alen X34 hx hZ e34 Vb (g := (mkF m 47 #[oR rw, oR w, .unset, .unset, .unset, .unset] [.ref cs, .ref w])) rfl rfl (hb hby op68_15_47)) ?_
     show oG _ _ _ _ T34 (mkF m 48 #[oR rw, oR w, .unset, .unset, .unset, .unset] [.int 1, .ref w])
     have hS35 : own_St cap sz N := ⟨sc0, sq0, by omega, by omega⟩
     have hN35 : N + 4 ≤ 128 := by omega
     refine own_callVX X34 hx hZ (y := oy16) (z := oy16) hown (oW hw 166 rfl) (oW hw 131 rfl) (notFace_of_selects (args := #[]) (mvT hZ (oW hw 133 rfl))) (oW hw 133 rfl) (oW hw 132 rfl) (oW hw 134 rfl) (oW hw 64 rfl) (by decide) 0 E_w [.int 1] [] (own_wi l Z a0 hw [] w b kb cap sz N 1 h0 n0 Z0 E_w F_w_size F_w_bytes V_b hS35 hN35 g_w g_b nwb) e34  (oB rfl) (oB rfl) (own_need IC0 (oB rfl)) (own_need IS0 (oB rfl)) (g := (mkF m 48 #[oR rw, oR w, .unset, .unset, .unset, .unset] [.int 1, .ref w])) rfl (by rw [hml]; rfl) own_pd15 rfl rfl (by show 2 * 0 + _ ≤ _; exact Nat.le_of_eq rfl) (hb hby op68_15_48) ?_
     intro T36 v36 L36 xc36 xs36 X36 hQ36
     obtain ⟨b36_0, k36_0, cp36, z36, rfl, N36q, Kq36, zq36, hT36, hkC36, hkS36, q36_0, q36_1, q36_2⟩ := hQ36
     obtain ⟨sc36, sq36, sl36, su36⟩ := hT36
     have N36 := Fr.app N0 N36q
     have K36 := (Keep.refl h0 [w, b]).trans Kq36 (allS (Or.inl (List.mem_of_getElem? (i := 0) rfl)) (allS (Or.inl (List.mem_of_getElem? (i := 1) rfl)) all0))
     have g_b36_0 : n0 ≤ b36_0 := own_sz2 zq36 g_b Z0
     have bz_b36_0 : b36_0 = b ∨ h0.size ≤ b36_0 := own_bz zq36 bz_b (Keep.refl h0 [w, b]).1
     have ne_w_b36_0 : w ≠ b36_0 := own_ne2 nwb E_w.lt zq36
     have ne_rw_b36_0 : rw ≠ b36_0 := own_ne2 nrwb E_rw.lt zq36
     have ne_cs_b36_0 : cs ≠ b36_0 := own_ne2 ncsb Vb.lt zq36
     have IC36 := own_acc IC0 hkC36
     have IS36 := own_acc IS0 hkS36
     refine oS (fun t k => XS.pop X36.here hx rfl (hb hby op68_15_51) rfl rfl k) ?_
     refine oS (fun t k => XS.aloadN X36.here hx rfl (hb hby op68_15_52) rfl rfl k) ?_
     show oG _ _ _ _ T36 (mkF m 53 #[oR rw, oR w, .unset, .unset, .unset, .unset] [.ref rw])
     have F_rw_cells_v38 := (F_rw_cells.keep Kq36 (ninS nrww (ninS nrwb nin0)))
     obtain ⟨T37, X37, e37, st37⟩ := getF X36 hx hZ hown (host := "") (Or.inl (oW hw 49 rfl)) Via.refl rfl F_rw_cells_v38 (g := (mkF m 53 #[oR rw, oR w, .unset, .unset, .unset, .unset] [.ref rw])) rfl rfl (hb hby op68_15_53)
     refine oS st37 ?_
     refine oS (fun t k => XS.astoreN X37.here hx rfl (hb hby op68_15_56) rfl rfl (l' := #[oR rw, oR w, oR cs, .unset, .unset, .unset]) rfl k) ?_
     refine oS (fun t k => XS.aloadN X37.here hx rfl (hb hby op68_15_57) rfl rfl k) ?_
     show oG _ _ _ _ T37 (mkF m 58 #[oR rw, oR w, oR cs, .unset, .unset, .unset] [.ref cs])
     have Vb_v39 := (Vb.keep Kq36 (ninS ncsw (ninS ncsb nin0)))
     refine oS (own_alen X37 hx hZ e37 Vb_v39 (g := (mkF m 58 #[oR rw, oR w, oR cs, .unset, .unset, .unset] [.ref cs])) rfl rfl (hb hby op68_15_58)) ?_
     refine oS (fun t k => XS.istoreN X37.here hx rfl (hb hby op68_15_59) rfl (l' := #[oR rw, oR w, oR cs, oI 1, .unset, .unset]) rfl k) ?_
     refine oS (fun t k => XS.iconst X37.here hx rfl (hb hby op68_15_60) k) ?_
     refine oS (fun t k => XS.istore X37.here hx rfl (hb hby op68_15_61) rfl (l' := #[oR rw, oR w, oR cs, oI 1, oI 0, .unset]) rfl k) ?_
     refine oS (fun t k => XS.iload X37.here hx rfl (hb hby op68_15_63) rfl k) ?_
     refine oS (fun t k => XS.iloadN X37.here hx rfl (hb hby op68_15_65) rfl k) ?_
     show oG _ _ _ _ T37 (mkF m 66 #[oR rw, oR w, oR cs, oI 1, oI 0, .unset] [.int 1, .int 0])
     refine oS (fun t k => XS.icmpNo X37.here hx rfl (hb hby op68_15_66) rfl (tlt (show (0 : Int32) < (1 : Int32) from (by decide))).2.1 k) ?_
     refine oS (fun t k => XS.aloadN X37.here hx rfl (hb hby op68_15_69) rfl rfl k) ?_
     refine oS (fun t k => XS.iload X37.here hx rfl (hb hby op68_15_70) rfl k) ?_
     show oG _ _ _ _ T37 (mkF m 72 #[oR rw, oR w, oR cs, oI 1, oI 0, .unset] [.int 0, .ref cs])
     refine oS (own_aaload X37 hx hZ e37 Vb_v39 rfl .null ⟨by decide, by decide⟩ rfl (g := (mkF m 72 #[oR rw, oR w, oR cs, oI 1, oI 0, .unset] [.int 0, .ref cs])) rfl rfl (hb hby op68_15_72)) ?_
     refine oS (fun t k => XS.astore X37.here hx rfl (hb hby op68_15_73) rfl rfl (l' := #[oR rw, oR w, oR cs, oI 1, oI 0, .val .null]) rfl k) ?_
     refine oS (fun t k => XS.aloadN X37.here hx rfl (hb hby op68_15_75) rfl rfl k) ?_
     refine oS (fun t k => XS.aload X37.here hx rfl (hb hby op68_15_76) rfl rfl k) ?_
     show oG _ _ _ _ T37 (mkF m 78 #[oR rw, oR w, oR cs, oI 1, oI 0, .val .null] [.null, .ref w])
     refine oS (fun t k => XS.ifnonnullNo X37.here hx rfl (hb hby op68_15_78) rfl k) ?_
     refine oS (fun t k => XS.aconstNull X37.here hx rfl (hb hby op68_15_81) k) ?_
     refine oS (fun t k => XS.goto X37.here hx rfl (pc0 := 82) (pc' := 90) rfl (hb hby op68_15_82) (by decide) (by decide) k) ?_
     show oG _ _ _ _ T37 (mkF m 90 #[oR rw, oR w, oR cs, oI 1, oI 0, .val .null] [.null, .ref w])
     have hS40 : own_St cp36 z36 (N + 4) := ⟨sc36, sq36, by omega, by omega⟩
     have hN40 : (N + 4) + 4 ≤ 128 := by omega
     have E_w_v41 := (E_w.keep Kq36)
     refine own_callVX X37 hx hZ (y := oy18) (z := oy18) hown (oW hw 172 rfl) (oW hw 173 rfl) (notFace_of_selects (args := #[]) (mvT hZ (oW hw 175 rfl))) (oW hw 175 rfl) (oW hw 174 rfl) (oW hw 176 rfl) (oW hw 64 rfl) (by decide) 0 E_w_v41 [.null] [] (own_wn l Z a0 hw [] w b36_0 k36_0 cp36 z36 (N + 4) T36.heap n0 (Nat.le_trans Z0 K36.1) E_w_v41 q36_0 q36_1 q36_2 hS40 hN40 g_w g_b36_0 ne_w_b36_0) e37  (oB rfl) (oB rfl) (own_need IC36 (oB rfl)) (own_need IS36 (oB rfl)) (g := (mkF m 90 #[oR rw, oR w, oR cs, oI 1, oI 0, .val .null] [.null, .ref w])) rfl (by rw [hml]; rfl) own_pd19 rfl rfl (by show 2 * 0 + _ ≤ _; exact Nat.le_of_eq rfl) (hb hby op68_15_90) ?_
     intro T42 v42 L42 xc42 xs42 X42 hQ42
     have E_rw_v43 := (E_rw.keep Kq36)
     obtain ⟨b42_0, k42_0, cp42, z42, rfl, N42q, Kq42, zq42, hT42, hkC42, hkS42, q42_0, q42_1, q42_2⟩ := hQ42
     obtain ⟨sc42, sq42, sl42, su42⟩ := hT42
     have N42 := Fr.app N36 N42q
     have K42 := K36.trans Kq42 (allS (Or.inl (List.mem_of_getElem? (i := 0) rfl)) (allS (own_wz bz_b36_0 (List.mem_of_getElem? (i := 1) rfl)) all0))
     have g_b42_0 : n0 ≤ b42_0 := own_sz2 zq42 g_b36_0 (Nat.le_trans Z0 K36.1)
     have bz_b42_0 : b42_0 = b ∨ h0.size ≤ b42_0 := own_bz zq42 bz_b36_0 K36.1
     have ne_w_b42_0 : w ≠ b42_0 := own_ne2 ne_w_b36_0 E_w_v41.lt zq42
     have ne_rw_b42_0 : rw ≠ b42_0 := own_ne2 ne_rw_b36_0 E_rw_v43.lt zq42
     have ne_cs_b42_0 : cs ≠ b42_0 := own_ne2 ne_cs_b36_0 Vb_v39.lt zq42
     have IC42 := own_acc IC36 hkC42
     have IS42 := own_acc IS36 hkS42
     refine oS (fun t k => XS.pop X42.here hx rfl (hb hby op68_15_93) rfl rfl k) ?_
     refine oS (fun t k => XS.aload X42.here hx rfl (hb hby op68_15_94) rfl rfl k) ?_
     show oG _ _ _ _ T42 (mkF m 96 #[oR rw, oR w, oR cs, oI 1, oI 0, .val .null] [.null])
     refine oS (fun t k => XS.ifnullYes X42.here hx rfl (pc0 := 96) (pc' := 109) rfl (hb hby op68_15_96) rfl (by decide) (by decide) k) ?_
     show oG _ _ _ _ T42 (mkF m 109 #[oR rw, oR w, oR cs, oI 1, oI 0, .val .null] [])
     refine oS (fun t k => XS.iinc X42.here hx rfl (hb hby op68_15_109) rfl (l' := #[oR rw, oR w, oR cs, oI 1, oI 1, .val .null]) rfl k) ?_
     refine oS (fun t k => XS.goto X42.here hx rfl (pc0 := 112) (pc' := 63) rfl (hb hby op68_15_112) (by decide) (by decide) k) ?_
     refine oS (fun t k => XS.iload X42.here hx rfl (hb hby op68_15_63) rfl k) ?_
     refine oS (fun t k => XS.iloadN X42.here hx rfl (hb hby op68_15_65) rfl k) ?_
     show oG _ _ _ _ T42 (mkF m 66 #[oR rw, oR w, oR cs, oI 1, oI 1, .val .null] [.int 1, .int 1])
     refine oS (fun t k => XS.icmpYes X42.here hx rfl (pc0 := 66) (pc' := 115) rfl (hb hby op68_15_66) rfl (flt (show ¬ ((1 : Int32) < (1 : Int32)) from (by decide))).2.1 (by decide) (by decide) k) ?_
     show oG _ _ _ _ T42 (mkF m 115 #[oR rw, oR w, oR cs, oI 1, oI 1, .val .null] [])
     have hSf : own_St cp42 z42 (N + (own_d dl + 4 + 4 * nn.toInt)) := ⟨sc42, by omega, by omega, by omega⟩
     exact own_retVX X42 hx hlk hrt (hb hby op68_15_115) (by exact ⟨b42_0, k42_0, cp42, z42, rfl, N42, K42, bz_b42_0, hSf, (own_fin IC42 (oB rfl)), (own_fin IS42 (oB rfl)), q42_0, q42_1, q42_2⟩)
   · refine oS (fun t k => XS.ifNo X31.here hx rfl (hb hby op68_15_6) rfl ((if0 _ _).trans (feq (show ¬ ((lcmpW dl (0 : Int64)) = (0 : Int32)) from hc6_32)).1) k) ?_
     show oG _ _ _ _ T31 (mkF m 9 #[oR rw, oR w, .unset, .unset, .unset, .unset] [])
     have dd := own_d1 hc6_32
     show oG _ _ _ _ T31 (mkF m 9 #[oR rw, oR w, .unset, .unset, .unset, .unset] [])
     refine oS (fun t k => XS.aloadN X31.here hx rfl (hb hby op68_15_9) rfl rfl k) ?_
     refine oS (fun t k => XS.iconst X31.here hx rfl (hb hby op68_15_10) k) ?_
     show oG _ _ _ _ T31 (mkF m 11 #[oR rw, oR w, .unset, .unset, .unset, .unset] [(.int (-1 : Int32)), .ref w])
     have hS44 : own_St cap sz N := ⟨sc0, sq0, by omega, by omega⟩
     have hN44 : N + 4 ≤ 128 := by omega
     refine own_callVX X31 hx hZ (y := oy16) (z := oy16) hown (oW hw 166 rfl) (oW hw 131 rfl) (notFace_of_selects (args := #[]) (mvT hZ (oW hw 133 rfl))) (oW hw 133 rfl) (oW hw 132 rfl) (oW hw 134 rfl) (oW hw 64 rfl) (by decide) 0 E_w [(.int (-1 : Int32))] [] (own_wi l Z a0 hw [] w b kb cap sz N (-1 : Int32) h0 n0 Z0 E_w F_w_size F_w_bytes V_b hS44 hN44 g_w g_b nwb) e31  (oB rfl) (oB rfl) (own_need IC0 (oB rfl)) (own_need IS0 (oB rfl)) (g := (mkF m 11 #[oR rw, oR w, .unset, .unset, .unset, .unset] [(.int (-1 : Int32)), .ref w])) rfl (by rw [hml]; rfl) own_pd15 rfl rfl (by show 2 * 0 + _ ≤ _; exact Nat.le_of_eq rfl) (hb hby op68_15_11) ?_
     intro T45 v45 L45 xc45 xs45 X45 hQ45
     obtain ⟨b45_0, k45_0, cp45, z45, rfl, N45q, Kq45, zq45, hT45, hkC45, hkS45, q45_0, q45_1, q45_2⟩ := hQ45
     obtain ⟨sc45, sq45, sl45, su45⟩ := hT45
     have N45 := Fr.app N0 N45q
     have K45 := (Keep.refl h0 [w, b]).trans Kq45 (allS (Or.inl (List.mem_of_getElem? (i := 0) rfl)) (allS (Or.inl (List.mem_of_getElem? (i := 1) rfl)) all0))
     have g_b45_0 : n0 ≤ b45_0 := own_sz2 zq45 g_b Z0
     have bz_b45_0 : b45_0 = b ∨ h0.size ≤ b45_0 := own_bz zq45 bz_b (Keep.refl h0 [w, b]).1
     have ne_w_b45_0 : w ≠ b45_0 := own_ne2 nwb E_w.lt zq45
     have ne_rw_b45_0 : rw ≠ b45_0 := own_ne2 nrwb E_rw.lt zq45
     have ne_cs_b45_0 : cs ≠ b45_0 := own_ne2 ncsb Vb.lt zq45
     have IC45 := own_acc IC0 hkC45
     have IS45 := own_acc IS0 hkS45
     refine oS (fun t k => XS.aloadN X45.here hx rfl (hb hby op68_15_14) rfl rfl k) ?_
     show oG _ _ _ _ T45 (mkF m 15 #[oR rw, oR w, .unset, .unset, .unset, .unset] [.ref rw, .ref w])
     have F_rw_deletedAt_v47 := (F_rw_deletedAt.keep Kq45 (ninS nrww (ninS nrwb nin0)))
     obtain ⟨T46, X46, e46, st46⟩ := getF X45 hx hZ hown (host := "") (Or.inl (oW hw 51 rfl)) Via.refl rfl F_rw_deletedAt_v47 (g := (mkF m 15 #[oR rw, oR w, .unset, .unset, .unset, .unset] [.ref rw, .ref w])) rfl rfl (hb hby op68_15_15)
     refine oS st46 ?_
     show oG _ _ _ _ T46 (mkF m 18 #[oR rw, oR w, .unset, .unset, .unset, .unset] [(.long dl), .ref w])
     have hS48 : own_St cp45 z45 (N + 4) := ⟨sc45, sq45, by omega, by omega⟩
     have hN48 : (N + 4) + 8 ≤ 128 := by omega
     have E_w_v49 := (E_w.keep Kq45)
     refine own_callVX X46 hx hZ (y := oy17) (z := oy17) hown (oW hw 167 rfl) (oW hw 168 rfl) (notFace_of_selects (args := #[]) (mvT hZ (oW hw 170 rfl))) (oW hw 170 rfl) (oW hw 169 rfl) (oW hw 171 rfl) (oW hw 64 rfl) (by decide) 0 E_w_v49 [(.long dl)] [] (own_wl l Z a0 hw [] w b45_0 k45_0 cp45 z45 (N + 4) dl T45.heap n0 (Nat.le_trans Z0 K45.1) E_w_v49 q45_0 q45_1 q45_2 hS48 hN48 g_w g_b45_0 ne_w_b45_0) e46  (oB rfl) (oB rfl) (own_need IC45 (oB rfl)) (own_need IS45 (oB rfl)) (g := (mkF m 18 #[oR rw, oR w, .unset, .unset, .unset, .unset] [(.long dl), .ref w])) rfl (by rw [hml]; rfl) own_pd20 rfl rfl (by show 2 * 0 + _ ≤ _; exact Nat.le_of_eq rfl) (hb hby op68_15_18) ?_
     intro T50 v50 L50 xc50 xs50 X50 hQ50
     have E_rw_v51 := (E_rw.keep Kq45)
     have Vb_v52 := (Vb.keep Kq45 (ninS ncsw (ninS ncsb nin0)))
     obtain ⟨b50_0, k50_0, cp50, z50, rfl, N50q, Kq50, zq50, hT50, hkC50, hkS50, q50_0, q50_1, q50_2⟩ := hQ50
     obtain ⟨sc50, sq50, sl50, su50⟩ := hT50
     have N50 := Fr.app N45 N50q
     have K50 := K45.trans Kq50 (allS (Or.inl (List.mem_of_getElem? (i := 0) rfl)) (allS (own_wz bz_b45_0 (List.mem_of_getElem? (i := 1) rfl)) all0))
     have g_b50_0 : n0 ≤ b50_0 := own_sz2 zq50 g_b45_0 (Nat.le_trans Z0 K45.1)
     have bz_b50_0 : b50_0 = b ∨ h0.size ≤ b50_0 := own_bz zq50 bz_b45_0 K45.1
     have ne_w_b50_0 : w ≠ b50_0 := own_ne2 ne_w_b45_0 E_w_v49.lt zq50
     have ne_rw_b50_0 : rw ≠ b50_0 := own_ne2 ne_rw_b45_0 E_rw_v51.lt zq50
     have ne_cs_b50_0 : cs ≠ b50_0 := own_ne2 ne_cs_b45_0 Vb_v52.lt zq50
     have IC50 := own_acc IC45 hkC50
     have IS50 := own_acc IS45 hkS50
     refine oS (fun t k => XS.pop X50.here hx rfl (hb hby op68_15_21) rfl rfl k) ?_
     show oG _ _ _ _ T50 (mkF m 22 #[oR rw, oR w, .unset, .unset, .unset, .unset] [])
     refine oS (fun t k => XS.aloadN X50.here hx rfl (hb hby op68_15_22) rfl rfl k) ?_
     show oG _ _ _ _ T50 (mkF m 23 #[oR rw, oR w, .unset, .unset, .unset, .unset] [.ref rw])
     have F_rw_movedFrom_v54 := ((F_rw_movedFrom.keep Kq45 (ninS nrww (ninS nrwb nin0))).keep Kq50 (ninS nrww (ninS ne_rw_b45_0 nin0)))
     obtain ⟨T53, X53, e53, st53⟩ := getF X50 hx hZ hown (host := "") (Or.inl (oW hw 53 rfl)) Via.refl rfl F_rw_movedFrom_v54 (g := (mkF m 23 #[oR rw, oR w, .unset, .unset, .unset, .unset] [.ref rw])) rfl rfl (hb hby op68_15_23)
     refine oS st53 ?_
     show oG _ _ _ _ T53 (mkF m 26 #[oR rw, oR w, .unset, .unset, .unset, .unset] [.null])
     refine oS (fun t k => XS.ifnullYes X53.here hx rfl (pc0 := 26) (pc' := 42) rfl (hb hby op68_15_26) rfl (by decide) (by decide) k) ?_
     refine oS (fun t k => XS.aloadN X53.here hx rfl (hb hby op68_15_42) rfl rfl k) ?_
     refine oS (fun t k => XS.aloadN X53.here hx rfl (hb hby op68_15_43) rfl rfl k) ?_
     show oG _ _ _ _ T53 (mkF m 44 #[oR rw, oR w, .unset, .unset, .unset, .unset] [.ref rw, .ref w])
     have F_rw_cells_v56 := ((F_rw_cells.keep Kq45 (ninS nrww (ninS nrwb nin0))).keep Kq50 (ninS nrww (ninS ne_rw_b45_0 nin0)))
     obtain ⟨T55, X55, e55, st55⟩ := getF X53 hx hZ hown (host := "") (Or.inl (oW hw 49 rfl)) Via.refl e53 F_rw_cells_v56 (g := (mkF m 44 #[oR rw, oR w, .unset, .unset, .unset, .unset] [.ref rw, .ref w])) rfl rfl (hb hby op68_15_44)
     refine oS st55 ?_
     show oG _ _ _ _ T55 (mkF m 47 #[oR rw, oR w, .unset, .unset, .unset, .unset] [.ref cs, .ref w])
     have Vb_v57 := (Vb_v52.keep Kq50 (ninS ncsw (ninS ne_cs_b45_0 nin0)))
     refine oS (own_alen X55 hx hZ e55 Vb_v57 (g := (mkF m 47 #[oR rw, oR w, .unset, .unset, .unset, .unset] [.ref cs, .ref w])) rfl rfl (hb hby op68_15_47)) ?_
     show oG _ _ _ _ T55 (mkF m 48 #[oR rw, oR w, .unset, .unset, .unset, .unset] [.int 1, .ref w])
     have hS58 : own_St cp50 z50 ((N + 4) + 8) := ⟨sc50, sq50, by omega, by omega⟩
     have hN58 : ((N + 4) + 8) + 4 ≤ 128 := by omega
     have E_w_v59 := (E_w_v49.keep Kq50)
     refine own_callVX X55 hx hZ (y := oy16) (z := oy16) hown (oW hw 166 rfl) (oW hw 131 rfl) (notFace_of_selects (args := #[]) (mvT hZ (oW hw 133 rfl))) (oW hw 133 rfl) (oW hw 132 rfl) (oW hw 134 rfl) (oW hw 64 rfl) (by decide) 0 E_w_v59 [.int 1] [] (own_wi l Z a0 hw [] w b50_0 k50_0 cp50 z50 ((N + 4) + 8) 1 T50.heap n0 (Nat.le_trans Z0 K50.1) E_w_v59 q50_0 q50_1 q50_2 hS58 hN58 g_w g_b50_0 ne_w_b50_0) e55  (oB rfl) (oB rfl) (own_need IC50 (oB rfl)) (own_need IS50 (oB rfl)) (g := (mkF m 48 #[oR rw, oR w, .unset, .unset, .unset, .unset] [.int 1, .ref w])) rfl (by rw [hml]; rfl) own_pd15 rfl rfl (by show 2 * 0 + _ ≤ _; exact Nat.le_of_eq rfl) (hb hby op68_15_48) ?_
     intro T60 v60 L60 xc60 xs60 X60 hQ60
     have E_rw_v61 := (E_rw_v51.keep Kq50)
     obtain ⟨b60_0, k60_0, cp60, z60, rfl, N60q, Kq60, zq60, hT60, hkC60, hkS60, q60_0, q60_1, q60_2⟩ := hQ60
     obtain ⟨sc60, sq60, sl60, su60⟩ := hT60
     have N60 := Fr.app N50 N60q
     have K60 := K50.trans Kq60 (allS (Or.inl (List.mem_of_getElem? (i := 0) rfl)) (allS (own_wz bz_b50_0 (List.mem_of_getElem? (i := 1) rfl)) all0))
     have g_b60_0 : n0 ≤ b60_0 := own_sz2 zq60 g_b50_0 (Nat.le_trans Z0 K50.1)
     have bz_b60_0 : b60_0 = b ∨ h0.size ≤ b60_0 := own_bz zq60 bz_b50_0 K50.1
     have ne_w_b60_0 : w ≠ b60_0 := own_ne2 ne_w_b50_0 E_w_v59.lt zq60
     have ne_rw_b60_0 : rw ≠ b60_0 := own_ne2 ne_rw_b50_0 E_rw_v61.lt zq60
     have ne_cs_b60_0 : cs ≠ b60_0 := own_ne2 ne_cs_b50_0 Vb_v57.lt zq60
     have IC60 := own_acc IC50 hkC60
     have IS60 := own_acc IS50 hkS60
     refine oS (fun t k => XS.pop X60.here hx rfl (hb hby op68_15_51) rfl rfl k) ?_
     refine oS (fun t k => XS.aloadN X60.here hx rfl (hb hby op68_15_52) rfl rfl k) ?_
     show oG _ _ _ _ T60 (mkF m 53 #[oR rw, oR w, .unset, .unset, .unset, .unset] [.ref rw])
     have F_rw_cells_v63 := (F_rw_cells_v56.keep Kq60 (ninS nrww (ninS ne_rw_b50_0 nin0)))
     obtain ⟨T62, X62, e62, st62⟩ := getF X60 hx hZ hown (host := "") (Or.inl (oW hw 49 rfl)) Via.refl rfl F_rw_cells_v63 (g := (mkF m 53 #[oR rw, oR w, .unset, .unset, .unset, .unset] [.ref rw])) rfl rfl (hb hby op68_15_53)
     refine oS st62 ?_
     refine oS (fun t k => XS.astoreN X62.here hx rfl (hb hby op68_15_56) rfl rfl (l' := #[oR rw, oR w, oR cs, .unset, .unset, .unset]) rfl k) ?_
     refine oS (fun t k => XS.aloadN X62.here hx rfl (hb hby op68_15_57) rfl rfl k) ?_
     show oG _ _ _ _ T62 (mkF m 58 #[oR rw, oR w, oR cs, .unset, .unset, .unset] [.ref cs])
     have Vb_v64 := (Vb_v57.keep Kq60 (ninS ncsw (ninS ne_cs_b50_0 nin0)))
     refine oS (own_alen X62 hx hZ e62 Vb_v64 (g := (mkF m 58 #[oR rw, oR w, oR cs, .unset, .unset, .unset] [.ref cs])) rfl rfl (hb hby op68_15_58)) ?_
     refine oS (fun t k => XS.istoreN X62.here hx rfl (hb hby op68_15_59) rfl (l' := #[oR rw, oR w, oR cs, oI 1, .unset, .unset]) rfl k) ?_
     refine oS (fun t k => XS.iconst X62.here hx rfl (hb hby op68_15_60) k) ?_
     refine oS (fun t k => XS.istore X62.here hx rfl (hb hby op68_15_61) rfl (l' := #[oR rw, oR w, oR cs, oI 1, oI 0, .unset]) rfl k) ?_
     refine oS (fun t k => XS.iload X62.here hx rfl (hb hby op68_15_63) rfl k) ?_
     refine oS (fun t k => XS.iloadN X62.here hx rfl (hb hby op68_15_65) rfl k) ?_
     show oG _ _ _ _ T62 (mkF m 66 #[oR rw, oR w, oR cs, oI 1, oI 0, .unset] [.int 1, .int 0])
     refine oS (fun t k => XS.icmpNo X62.here hx rfl (hb hby op68_15_66) rfl (tlt (show (0 : Int32) < (1 : Int32) from (by decide))).2.1 k) ?_
     refine oS (fun t k => XS.aloadN X62.here hx rfl (hb hby op68_15_69) rfl rfl k) ?_
     refine oS (fun t k => XS.iload X62.here hx rfl (hb hby op68_15_70) rfl k) ?_
     show oG _ _ _ _ T62 (mkF m 72 #[oR rw, oR w, oR cs, oI 1, oI 0, .unset] [.int 0, .ref cs])
     refine oS (own_aaload X62 hx hZ e62 Vb_v64 rfl .null ⟨by decide, by decide⟩ rfl (g := (mkF m 72 #[oR rw, oR w, oR cs, oI 1, oI 0, .unset] [.int 0, .ref cs])) rfl rfl (hb hby op68_15_72)) ?_
     refine oS (fun t k => XS.astore X62.here hx rfl (hb hby op68_15_73) rfl rfl (l' := #[oR rw, oR w, oR cs, oI 1, oI 0, .val .null]) rfl k) ?_
     refine oS (fun t k => XS.aloadN X62.here hx rfl (hb hby op68_15_75) rfl rfl k) ?_
     refine oS (fun t k => XS.aload X62.here hx rfl (hb hby op68_15_76) rfl rfl k) ?_
     show oG _ _ _ _ T62 (mkF m 78 #[oR rw, oR w, oR cs, oI 1, oI 0, .val .null] [.null, .ref w])
     refine oS (fun t k => XS.ifnonnullNo X62.here hx rfl (hb hby op68_15_78) rfl k) ?_
     refine oS (fun t k => XS.aconstNull X62.here hx rfl (hb hby op68_15_81) k) ?_
     refine oS (fun t k => XS.goto X62.here hx rfl (pc0 := 82) (pc' := 90) rfl (hb hby op68_15_82) (by decide) (by decide) k) ?_
     show oG _ _ _ _ T62 (mkF m 90 #[oR rw, oR w, oR cs, oI 1, oI 0, .val .null] [.null, .ref w])
     have hS65 : own_St cp60 z60 (((N + 4) + 8) + 4) := ⟨sc60, sq60, by omega, by omega⟩
     have hN65 : (((N + 4) + 8) + 4) + 4 ≤ 128 := by omega
     have E_w_v66 := (E_w_v59.keep Kq60)
     refine own_callVX X62 hx hZ (y := oy18) (z := oy18) hown (oW hw 172 rfl) (oW hw 173 rfl) (notFace_of_selects (args := #[]) (mvT hZ (oW hw 175 rfl))) (oW hw 175 rfl) (oW hw 174 rfl) (oW hw 176 rfl) (oW hw 64 rfl) (by decide) 0 E_w_v66 [.null] [] (own_wn l Z a0 hw [] w b60_0 k60_0 cp60 z60 (((N + 4) + 8) + 4) T60.heap n0 (Nat.le_trans Z0 K60.1) E_w_v66 q60_0 q60_1 q60_2 hS65 hN65 g_w g_b60_0 ne_w_b60_0) e62  (oB rfl) (oB rfl) (own_need IC60 (oB rfl)) (own_need IS60 (oB rfl)) (g := (mkF m 90 #[oR rw, oR w, oR cs, oI 1, oI 0, .val .null] [.null, .ref w])) rfl (by rw [hml]; rfl) own_pd19 rfl rfl (by show 2 * 0 + _ ≤ _; exact Nat.le_of_eq rfl) (hb hby op68_15_90) ?_
     intro T67 v67 L67 xc67 xs67 X67 hQ67
     have E_rw_v68 := (E_rw_v61.keep Kq60)
     obtain ⟨b67_0, k67_0, cp67, z67, rfl, N67q, Kq67, zq67, hT67, hkC67, hkS67, q67_0, q67_1, q67_2⟩ := hQ67
     obtain ⟨sc67, sq67, sl67, su67⟩ := hT67
     have N67 := Fr.app N60 N67q
     have K67 := K60.trans Kq67 (allS (Or.inl (List.mem_of_getElem? (i := 0) rfl)) (allS (own_wz bz_b60_0 (List.mem_of_getElem? (i := 1) rfl)) all0))
     have g_b67_0 : n0 ≤ b67_0 := own_sz2 zq67 g_b60_0 (Nat.le_trans Z0 K60.1)
     have bz_b67_0 : b67_0 = b ∨ h0.size ≤ b67_0 := own_bz zq67 bz_b60_0 K60.1
     have ne_w_b67_0 : w ≠ b67_0 := own_ne2 ne_w_b60_0 E_w_v66.lt zq67
     have ne_rw_b67_0 : rw ≠ b67_0 := own_ne2 ne_rw_b60_0 E_rw_v68.lt zq67
     have ne_cs_b67_0 : cs ≠ b67_0 := own_ne2 ne_cs_b60_0 Vb_v64.lt zq67
     have IC67 := own_acc IC60 hkC67
     have IS67 := own_acc IS60 hkS67
     refine oS (fun t k => XS.pop X67.here hx rfl (hb hby op68_15_93) rfl rfl k) ?_
     refine oS (fun t k => XS.aload X67.here hx rfl (hb hby op68_15_94) rfl rfl k) ?_
     show oG _ _ _ _ T67 (mkF m 96 #[oR rw, oR w, oR cs, oI 1, oI 0, .val .null] [.null])
     refine oS (fun t k => XS.ifnullYes X67.here hx rfl (pc0 := 96) (pc' := 109) rfl (hb hby op68_15_96) rfl (by decide) (by decide) k) ?_
     show oG _ _ _ _ T67 (mkF m 109 #[oR rw, oR w, oR cs, oI 1, oI 0, .val .null] [])
     refine oS (fun t k => XS.iinc X67.here hx rfl (hb hby op68_15_109) rfl (l' := #[oR rw, oR w, oR cs, oI 1, oI 1, .val .null]) rfl k) ?_
     refine oS (fun t k => XS.goto X67.here hx rfl (pc0 := 112) (pc' := 63) rfl (hb hby op68_15_112) (by decide) (by decide) k) ?_
     refine oS (fun t k => XS.iload X67.here hx rfl (hb hby op68_15_63) rfl k) ?_
     refine oS (fun t k => XS.iloadN X67.here hx rfl (hb hby op68_15_65) rfl k) ?_
     show oG _ _ _ _ T67 (mkF m 66 #[oR rw, oR w, oR cs, oI 1, oI 1, .val .null] [.int 1, .int 1])
     refine oS (fun t k => XS.icmpYes X67.here hx rfl (pc0 := 66) (pc' := 115) rfl (hb hby op68_15_66) rfl (flt (show ¬ ((1 : Int32) < (1 : Int32)) from (by decide))).2.1 (by decide) (by decide) k) ?_
     show oG _ _ _ _ T67 (mkF m 115 #[oR rw, oR w, oR cs, oI 1, oI 1, .val .null] [])
     have hSf : own_St cp67 z67 (N + (own_d dl + 4 + 4 * nn.toInt)) := ⟨sc67, by omega, by omega, by omega⟩
     exact own_retVX X67 hx hlk hrt (hb hby op68_15_115) (by exact ⟨b67_0, k67_0, cp67, z67, rfl, N67, K67, bz_b67_0, hSf, (own_fin IC67 (oB rfl)), (own_fin IS67 (oB rfl)), q67_0, q67_1, q67_2⟩)
 · have tn : nn.toInt = 2 := by rw [hnn]; decide
   have Va : Arv Z h0 cs kc (.object "com/example/ringshift/ringshift/data/Cell") (2 : Int32) [] .null := by rw [← hnn]; exact V_cs
   have Vb : Arv Z h0 cs kc (.object "com/example/ringshift/ringshift/data/Cell") (2 : Int32) [.null, .null] .null := Va.pad (pad_rep [] .null 2)
   show oG _ _ _ _ s₁ (mkF m 0 #[oR rw, oR w, .unset, .unset, .unset, .unset] [])
   refine oS (fun t k => XS.aloadN X0.here hx rfl (hb hby op68_15_0) rfl rfl k) ?_
   show oG _ _ _ _ s₁ (mkF m 1 #[oR rw, oR w, .unset, .unset, .unset, .unset] [.ref rw])
   obtain ⟨T69, X69, e69, st69⟩ := getF X0 hx hZ hown (host := "") (Or.inl (oW hw 51 rfl)) Via.refl e0 F_rw_deletedAt (g := (mkF m 1 #[oR rw, oR w, .unset, .unset, .unset, .unset] [.ref rw])) rfl rfl (hb hby op68_15_1)
   refine oS st69 ?_
   refine oS (fun t k => XS.lconst X69.here hx rfl (hb hby op68_15_4) k) ?_
   show oG _ _ _ _ T69 (mkF m 5 #[oR rw, oR w, .unset, .unset, .unset, .unset] [(.long (0 : Int64)), (.long dl)])
   refine oS (fun t k => XS.lcmp X69.here hx rfl (hb hby op68_15_5) rfl k) ?_
   show oG _ _ _ _ T69 (mkF m 6 #[oR rw, oR w, .unset, .unset, .unset, .unset] [(.int (lcmpW dl (0 : Int64)))])
   by_cases hc6_70 : (lcmpW dl (0 : Int64)) = (0 : Int32)
   · refine oS (fun t k => XS.ifYes X69.here hx rfl (pc0 := 6) (pc' := 22) rfl (hb hby op68_15_6) rfl ((if0 _ _).trans (teq (show (lcmpW dl (0 : Int64)) = (0 : Int32) from hc6_70)).1) (by decide) (by decide) k) ?_
     show oG _ _ _ _ T69 (mkF m 22 #[oR rw, oR w, .unset, .unset, .unset, .unset] [])
     have dd := own_d0 hc6_70
     show oG _ _ _ _ T69 (mkF m 22 #[oR rw, oR w, .unset, .unset, .unset, .unset] [])
     refine oS (fun t k => XS.aloadN X69.here hx rfl (hb hby op68_15_22) rfl rfl k) ?_
     show oG _ _ _ _ T69 (mkF m 23 #[oR rw, oR w, .unset, .unset, .unset, .unset] [.ref rw])
     obtain ⟨T71, X71, e71, st71⟩ := getF X69 hx hZ hown (host := "") (Or.inl (oW hw 53 rfl)) Via.refl e69 F_rw_movedFrom (g := (mkF m 23 #[oR rw, oR w, .unset, .unset, .unset, .unset] [.ref rw])) rfl rfl (hb hby op68_15_23)
     refine oS st71 ?_
     show oG _ _ _ _ T71 (mkF m 26 #[oR rw, oR w, .unset, .unset, .unset, .unset] [.null])
     refine oS (fun t k => XS.ifnullYes X71.here hx rfl (pc0 := 26) (pc' := 42) rfl (hb hby op68_15_26) rfl (by decide) (by decide) k) ?_
     refine oS (fun t k => XS.aloadN X71.here hx rfl (hb hby op68_15_42) rfl rfl k) ?_
     refine oS (fun t k => XS.aloadN X71.here hx rfl (hb hby op68_15_43) rfl rfl k) ?_
     show oG _ _ _ _ T71 (mkF m 44 #[oR rw, oR w, .unset, .unset, .unset, .unset] [.ref rw, .ref w])
     obtain ⟨T72, X72, e72, st72⟩ := getF X71 hx hZ hown (host := "") (Or.inl (oW hw 49 rfl)) Via.refl e71 F_rw_cells (g := (mkF m 44 #[oR rw, oR w, .unset, .unset, .unset, .unset] [.ref rw, .ref w])) rfl rfl (hb hby op68_15_44)
     refine oS st72 ?_
     show oG _ _ _ _ T72 (mkF m 47 #[oR rw, oR w, .unset, .unset, .unset, .unset] [.ref cs, .ref w])
     refine oS (own_alen X72 hx hZ e72 Vb (g := (mkF m 47 #[oR rw, oR w, .unset, .unset, .unset, .unset] [.ref cs, .ref w])) rfl rfl (hb hby op68_15_47)) ?_
     show oG _ _ _ _ T72 (mkF m 48 #[oR rw, oR w, .unset, .unset, .unset, .unset] [.int 2, .ref w])
     have hS73 : own_St cap sz N := ⟨sc0, sq0, by omega, by omega⟩
     have hN73 : N + 4 ≤ 128 := by omega
     refine own_callVX X72 hx hZ (y := oy16) (z := oy16) hown (oW hw 166 rfl) (oW hw 131 rfl) (notFace_of_selects (args := #[]) (mvT hZ (oW hw 133 rfl))) (oW hw 133 rfl) (oW hw 132 rfl) (oW hw 134 rfl) (oW hw 64 rfl) (by decide) 0 E_w [.int 2] [] (own_wi l Z a0 hw [] w b kb cap sz N 2 h0 n0 Z0 E_w F_w_size F_w_bytes V_b hS73 hN73 g_w g_b nwb) e72  (oB rfl) (oB rfl) (own_need IC0 (oB rfl)) (own_need IS0 (oB rfl)) (g := (mkF m 48 #[oR rw, oR w, .unset, .unset, .unset, .unset] [.int 2, .ref w])) rfl (by rw [hml]; rfl) own_pd15 rfl rfl (by show 2 * 0 + _ ≤ _; exact Nat.le_of_eq rfl) (hb hby op68_15_48) ?_
     intro T74 v74 L74 xc74 xs74 X74 hQ74
     obtain ⟨b74_0, k74_0, cp74, z74, rfl, N74q, Kq74, zq74, hT74, hkC74, hkS74, q74_0, q74_1, q74_2⟩ := hQ74
     obtain ⟨sc74, sq74, sl74, su74⟩ := hT74
     have N74 := Fr.app N0 N74q
     have K74 := (Keep.refl h0 [w, b]).trans Kq74 (allS (Or.inl (List.mem_of_getElem? (i := 0) rfl)) (allS (Or.inl (List.mem_of_getElem? (i := 1) rfl)) all0))
     have g_b74_0 : n0 ≤ b74_0 := own_sz2 zq74 g_b Z0
     have bz_b74_0 : b74_0 = b ∨ h0.size ≤ b74_0 := own_bz zq74 bz_b (Keep.refl h0 [w, b]).1
     have ne_w_b74_0 : w ≠ b74_0 := own_ne2 nwb E_w.lt zq74
     have ne_rw_b74_0 : rw ≠ b74_0 := own_ne2 nrwb E_rw.lt zq74
     have ne_cs_b74_0 : cs ≠ b74_0 := own_ne2 ncsb Vb.lt zq74
     have IC74 := own_acc IC0 hkC74
     have IS74 := own_acc IS0 hkS74
     refine oS (fun t k => XS.pop X74.here hx rfl (hb hby op68_15_51) rfl rfl k) ?_
     refine oS (fun t k => XS.aloadN X74.here hx rfl (hb hby op68_15_52) rfl rfl k) ?_
     show oG _ _ _ _ T74 (mkF m 53 #[oR rw, oR w, .unset, .unset, .unset, .unset] [.ref rw])
     have F_rw_cells_v76 := (F_rw_cells.keep Kq74 (ninS nrww (ninS nrwb nin0)))
     obtain ⟨T75, X75, e75, st75⟩ := getF X74 hx hZ hown (host := "") (Or.inl (oW hw 49 rfl)) Via.refl rfl F_rw_cells_v76 (g := (mkF m 53 #[oR rw, oR w, .unset, .unset, .unset, .unset] [.ref rw])) rfl rfl (hb hby op68_15_53)
     refine oS st75 ?_
     refine oS (fun t k => XS.astoreN X75.here hx rfl (hb hby op68_15_56) rfl rfl (l' := #[oR rw, oR w, oR cs, .unset, .unset, .unset]) rfl k) ?_
     refine oS (fun t k => XS.aloadN X75.here hx rfl (hb hby op68_15_57) rfl rfl k) ?_
     show oG _ _ _ _ T75 (mkF m 58 #[oR rw, oR w, oR cs, .unset, .unset, .unset] [.ref cs])
     have Vb_v77 := (Vb.keep Kq74 (ninS ncsw (ninS ncsb nin0)))
     refine oS (own_alen X75 hx hZ e75 Vb_v77 (g := (mkF m 58 #[oR rw, oR w, oR cs, .unset, .unset, .unset] [.ref cs])) rfl rfl (hb hby op68_15_58)) ?_
     refine oS (fun t k => XS.istoreN X75.here hx rfl (hb hby op68_15_59) rfl (l' := #[oR rw, oR w, oR cs, oI 2, .unset, .unset]) rfl k) ?_
     refine oS (fun t k => XS.iconst X75.here hx rfl (hb hby op68_15_60) k) ?_
     refine oS (fun t k => XS.istore X75.here hx rfl (hb hby op68_15_61) rfl (l' := #[oR rw, oR w, oR cs, oI 2, oI 0, .unset]) rfl k) ?_
     refine oS (fun t k => XS.iload X75.here hx rfl (hb hby op68_15_63) rfl k) ?_
     refine oS (fun t k => XS.iloadN X75.here hx rfl (hb hby op68_15_65) rfl k) ?_
     show oG _ _ _ _ T75 (mkF m 66 #[oR rw, oR w, oR cs, oI 2, oI 0, .unset] [.int 2, .int 0])
     refine oS (fun t k => XS.icmpNo X75.here hx rfl (hb hby op68_15_66) rfl (tlt (show (0 : Int32) < (2 : Int32) from (by decide))).2.1 k) ?_
     refine oS (fun t k => XS.aloadN X75.here hx rfl (hb hby op68_15_69) rfl rfl k) ?_
     refine oS (fun t k => XS.iload X75.here hx rfl (hb hby op68_15_70) rfl k) ?_
     show oG _ _ _ _ T75 (mkF m 72 #[oR rw, oR w, oR cs, oI 2, oI 0, .unset] [.int 0, .ref cs])
     refine oS (own_aaload X75 hx hZ e75 Vb_v77 rfl .null ⟨by decide, by decide⟩ rfl (g := (mkF m 72 #[oR rw, oR w, oR cs, oI 2, oI 0, .unset] [.int 0, .ref cs])) rfl rfl (hb hby op68_15_72)) ?_
     refine oS (fun t k => XS.astore X75.here hx rfl (hb hby op68_15_73) rfl rfl (l' := #[oR rw, oR w, oR cs, oI 2, oI 0, .val .null]) rfl k) ?_
     refine oS (fun t k => XS.aloadN X75.here hx rfl (hb hby op68_15_75) rfl rfl k) ?_
     refine oS (fun t k => XS.aload X75.here hx rfl (hb hby op68_15_76) rfl rfl k) ?_
     show oG _ _ _ _ T75 (mkF m 78 #[oR rw, oR w, oR cs, oI 2, oI 0, .val .null] [.null, .ref w])
     refine oS (fun t k => XS.ifnonnullNo X75.here hx rfl (hb hby op68_15_78) rfl k) ?_
     refine oS (fun t k => XS.aconstNull X75.here hx rfl (hb hby op68_15_81) k) ?_
     refine oS (fun t k => XS.goto X75.here hx rfl (pc0 := 82) (pc' := 90) rfl (hb hby op68_15_82) (by decide) (by decide) k) ?_
     show oG _ _ _ _ T75 (mkF m 90 #[oR rw, oR w, oR cs, oI 2, oI 0, .val .null] [.null, .ref w])
     have hS78 : own_St cp74 z74 (N + 4) := ⟨sc74, sq74, by omega, by omega⟩
     have hN78 : (N + 4) + 4 ≤ 128 := by omega
     have E_w_v79 := (E_w.keep Kq74)
     refine own_callVX X75 hx hZ (y := oy18) (z := oy18) hown (oW hw 172 rfl) (oW hw 173 rfl) (notFace_of_selects (args := #[]) (mvT hZ (oW hw 175 rfl))) (oW hw 175 rfl) (oW hw 174 rfl) (oW hw 176 rfl) (oW hw 64 rfl) (by decide) 0 E_w_v79 [.null] [] (own_wn l Z a0 hw [] w b74_0 k74_0 cp74 z74 (N + 4) T74.heap n0 (Nat.le_trans Z0 K74.1) E_w_v79 q74_0 q74_1 q74_2 hS78 hN78 g_w g_b74_0 ne_w_b74_0) e75  (oB rfl) (oB rfl) (own_need IC74 (oB rfl)) (own_need IS74 (oB rfl)) (g := (mkF m 90 #[oR rw, oR w, oR cs, oI 2, oI 0, .val .null] [.null, .ref w])) rfl (by rw [hml]; rfl) own_pd19 rfl rfl (by show 2 * 0 + _ ≤ _; exact Nat.le_of_eq rfl) (hb hby op68_15_90) ?_
     intro T80 v80 L80 xc80 xs80 X80 hQ80
     have E_rw_v81 := (E_rw.keep Kq74)
     obtain ⟨b80_0, k80_0, cp80, z80, rfl, N80q, Kq80, zq80, hT80, hkC80, hkS80, q80_0, q80_1, q80_2⟩ := hQ80
     obtain ⟨sc80, sq80, sl80, su80⟩ := hT80
     have N80 := Fr.app N74 N80q
     have K80 := K74.trans Kq80 (allS (Or.inl (List.mem_of_getElem? (i := 0) rfl)) (allS (own_wz bz_b74_0 (List.mem_of_getElem? (i := 1) rfl)) all0))
     have g_b80_0 : n0 ≤ b80_0 := own_sz2 zq80 g_b74_0 (Nat.le_trans Z0 K74.1)
     have bz_b80_0 : b80_0 = b ∨ h0.size ≤ b80_0 := own_bz zq80 bz_b74_0 K74.1
     have ne_w_b80_0 : w ≠ b80_0 := own_ne2 ne_w_b74_0 E_w_v79.lt zq80
     have ne_rw_b80_0 : rw ≠ b80_0 := own_ne2 ne_rw_b74_0 E_rw_v81.lt zq80
     have ne_cs_b80_0 : cs ≠ b80_0 := own_ne2 ne_cs_b74_0 Vb_v77.lt zq80
     have IC80 := own_acc IC74 hkC80
     have IS80 := own_acc IS74 hkS80
     refine oS (fun t k => XS.pop X80.here hx rfl (hb hby op68_15_93) rfl rfl k) ?_
     refine oS (fun t k => XS.aload X80.here hx rfl (hb hby op68_15_94) rfl rfl k) ?_
     show oG _ _ _ _ T80 (mkF m 96 #[oR rw, oR w, oR cs, oI 2, oI 0, .val .null] [.null])
     refine oS (fun t k => XS.ifnullYes X80.here hx rfl (pc0 := 96) (pc' := 109) rfl (hb hby op68_15_96) rfl (by decide) (by decide) k) ?_
     show oG _ _ _ _ T80 (mkF m 109 #[oR rw, oR w, oR cs, oI 2, oI 0, .val .null] [])
     refine oS (fun t k => XS.iinc X80.here hx rfl (hb hby op68_15_109) rfl (l' := #[oR rw, oR w, oR cs, oI 2, oI 1, .val .null]) rfl k) ?_
     refine oS (fun t k => XS.goto X80.here hx rfl (pc0 := 112) (pc' := 63) rfl (hb hby op68_15_112) (by decide) (by decide) k) ?_
     refine oS (fun t k => XS.iload X80.here hx rfl (hb hby op68_15_63) rfl k) ?_
     refine oS (fun t k => XS.iloadN X80.here hx rfl (hb hby op68_15_65) rfl k) ?_
     show oG _ _ _ _ T80 (mkF m 66 #[oR rw, oR w, oR cs, oI 2, oI 1, .val .null] [.int 2, .int 1])
     refine oS (fun t k => XS.icmpNo X80.here hx rfl (hb hby op68_15_66) rfl (tlt (show (1 : Int32) < (2 : Int32) from (by decide))).2.1 k) ?_
     refine oS (fun t k => XS.aloadN X80.here hx rfl (hb hby op68_15_69) rfl rfl k) ?_
     refine oS (fun t k => XS.iload X80.here hx rfl (hb hby op68_15_70) rfl k) ?_
     show oG _ _ _ _ T80 (mkF m 72 #[oR rw, oR w, oR cs, oI 2, oI 1, .val .null] [.int 1, .ref cs])
     have Vb_v82 := (Vb_v77.keep Kq80 (ninS ncsw (ninS ne_cs_b74_0 nin0)))
     refine oS (own_aaload X80 hx hZ rfl Vb_v82 rfl .null ⟨by decide, by decide⟩ rfl (g := (mkF m 72 #[oR rw, oR w, oR cs, oI 2, oI 1, .val .null] [.int 1, .ref cs])) rfl rfl (hb hby op68_15_72)) ?_
     refine oS (fun t k => XS.astore X80.here hx rfl (hb hby op68_15_73) rfl rfl (l' := #[oR rw, oR w, oR cs, oI 2, oI 1, .val .null]) rfl k) ?_
     refine oS (fun t k => XS.aloadN X80.here hx rfl (hb hby op68_15_75) rfl rfl k) ?_
     refine oS (fun t k => XS.aload X80.here hx rfl (hb hby op68_15_76) rfl rfl k) ?_
     show oG _ _ _ _ T80 (mkF m 78 #[oR rw, oR w, oR cs, oI 2, oI 1, .val .null] [.null, .ref w])
     refine oS (fun t k => XS.ifnonnullNo X80.here hx rfl (hb hby op68_15_78) rfl k) ?_
     refine oS (fun t k => XS.aconstNull X80.here hx rfl (hb hby op68_15_81) k) ?_
     refine oS (fun t k => XS.goto X80.here hx rfl (pc0 := 82) (pc' := 90) rfl (hb hby op68_15_82) (by decide) (by decide) k) ?_
     show oG _ _ _ _ T80 (mkF m 90 #[oR rw, oR w, oR cs, oI 2, oI 1, .val .null] [.null, .ref w])
     have hS83 : own_St cp80 z80 ((N + 4) + 4) := ⟨sc80, sq80, by omega, by omega⟩
     have hN83 : ((N + 4) + 4) + 4 ≤ 128 := by omega
     have E_w_v84 := (E_w_v79.keep Kq80)
     refine own_callVX X80 hx hZ (y := oy18) (z := oy18) hown (oW hw 172 rfl) (oW hw 173 rfl) (notFace_of_selects (args := #[]) (mvT hZ (oW hw 175 rfl))) (oW hw 175 rfl) (oW hw 174 rfl) (oW hw 176 rfl) (oW hw 64 rfl) (by decide) 0 E_w_v84 [.null] [] (own_wn l Z a0 hw [] w b80_0 k80_0 cp80 z80 ((N + 4) + 4) T80.heap n0 (Nat.le_trans Z0 K80.1) E_w_v84 q80_0 q80_1 q80_2 hS83 hN83 g_w g_b80_0 ne_w_b80_0) rfl  (oB rfl) (oB rfl) (own_need IC80 (oB rfl)) (own_need IS80 (oB rfl)) (g := (mkF m 90 #[oR rw, oR w, oR cs, oI 2, oI 1, .val .null] [.null, .ref w])) rfl (by rw [hml]; rfl) own_pd19 rfl rfl (by show 2 * 0 + _ ≤ _; exact Nat.le_of_eq rfl) (hb hby op68_15_90) ?_
     intro T85 v85 L85 xc85 xs85 X85 hQ85
     have E_rw_v86 := (E_rw_v81.keep Kq80)
     obtain ⟨b85_0, k85_0, cp85, z85, rfl, N85q, Kq85, zq85, hT85, hkC85, hkS85, q85_0, q85_1, q85_2⟩ := hQ85
     obtain ⟨sc85, sq85, sl85, su85⟩ := hT85
     have N85 := Fr.app N80 N85q
     have K85 := K80.trans Kq85 (allS (Or.inl (List.mem_of_getElem? (i := 0) rfl)) (allS (own_wz bz_b80_0 (List.mem_of_getElem? (i := 1) rfl)) all0))
     have g_b85_0 : n0 ≤ b85_0 := own_sz2 zq85 g_b80_0 (Nat.le_trans Z0 K80.1)
     have bz_b85_0 : b85_0 = b ∨ h0.size ≤ b85_0 := own_bz zq85 bz_b80_0 K80.1
     have ne_w_b85_0 : w ≠ b85_0 := own_ne2 ne_w_b80_0 E_w_v84.lt zq85
     have ne_rw_b85_0 : rw ≠ b85_0 := own_ne2 ne_rw_b80_0 E_rw_v86.lt zq85
     have ne_cs_b85_0 : cs ≠ b85_0 := own_ne2 ne_cs_b80_0 Vb_v82.lt zq85
     have IC85 := own_acc IC80 hkC85
     have IS85 := own_acc IS80 hkS85
     refine oS (fun t k => XS.pop X85.here hx rfl (hb hby op68_15_93) rfl rfl k) ?_
     refine oS (fun t k => XS.aload X85.here hx rfl (hb hby op68_15_94) rfl rfl k) ?_
     show oG _ _ _ _ T85 (mkF m 96 #[oR rw, oR w, oR cs, oI 2, oI 1, .val .null] [.null])
     refine oS (fun t k => XS.ifnullYes X85.here hx rfl (pc0 := 96) (pc' := 109) rfl (hb hby op68_15_96) rfl (by decide) (by decide) k) ?_
     show oG _ _ _ _ T85 (mkF m 109 #[oR rw, oR w, oR cs, oI 2, oI 1, .val .null] [])
     refine oS (fun t k => XS.iinc X85.here hx rfl (hb hby op68_15_109) rfl (l' := #[oR rw, oR w, oR cs, oI 2, oI 2, .val .null]) rfl k) ?_
     refine oS (fun t k => XS.goto X85.here hx rfl (pc0 := 112) (pc' := 63) rfl (hb hby op68_15_112) (by decide) (by decide) k) ?_
     refine oS (fun t k => XS.iload X85.here hx rfl (hb hby op68_15_63) rfl k) ?_
     refine oS (fun t k => XS.iloadN X85.here hx rfl (hb hby op68_15_65) rfl k) ?_
     show oG _ _ _ _ T85 (mkF m 66 #[oR rw, oR w, oR cs, oI 2, oI 2, .val .null] [.int 2, .int 2])
     refine oS (fun t k => XS.icmpYes X85.here hx rfl (pc0 := 66) (pc' := 115) rfl (hb hby op68_15_66) rfl (flt (show ¬ ((2 : Int32) < (2 : Int32)) from (by decide))).2.1 (by decide) (by decide) k) ?_
     show oG _ _ _ _ T85 (mkF m 115 #[oR rw, oR w, oR cs, oI 2, oI 2, .val .null] [])
     have hSf : own_St cp85 z85 (N + (own_d dl + 4 + 4 * nn.toInt)) := ⟨sc85, by omega, by omega, by omega⟩
     exact own_retVX X85 hx hlk hrt (hb hby op68_15_115) (by exact ⟨b85_0, k85_0, cp85, z85, rfl, N85, K85, bz_b85_0, hSf, (own_fin IC85 (oB rfl)), (own_fin IS85 (oB rfl)), q85_0, q85_1, q85_2⟩)
   · refine oS (fun t k => XS.ifNo X69.here hx rfl (hb hby op68_15_6) rfl ((if0 _ _).trans (feq (show ¬ ((lcmpW dl (0 : Int64)) = (0 : Int32)) from hc6_70)).1) k) ?_
     show oG _ _ _ _ T69 (mkF m 9 #[oR rw, oR w, .unset, .unset, .unset, .unset] [])
     have dd := own_d1 hc6_70
     show oG _ _ _ _ T69 (mkF m 9 #[oR rw, oR w, .unset, .unset, .unset, .unset] [])
     refine oS (fun t k => XS.aloadN X69.here hx rfl (hb hby op68_15_9) rfl rfl k) ?_
     refine oS (fun t k => XS.iconst X69.here hx rfl (hb hby op68_15_10) k) ?_
     show oG _ _ _ _ T69 (mkF m 11 #[oR rw, oR w, .unset, .unset, .unset, .unset] [(.int (-1 : Int32)), .ref w])
     have hS87 : own_St cap sz N := ⟨sc0, sq0, by omega, by omega⟩
     have hN87 : N + 4 ≤ 128 := by omega
     refine own_callVX X69 hx hZ (y := oy16) (z := oy16) hown (oW hw 166 rfl) (oW hw 131 rfl) (notFace_of_selects (args := #[]) (mvT hZ (oW hw 133 rfl))) (oW hw 133 rfl) (oW hw 132 rfl) (oW hw 134 rfl) (oW hw 64 rfl) (by decide) 0 E_w [(.int (-1 : Int32))] [] (own_wi l Z a0 hw [] w b kb cap sz N (-1 : Int32) h0 n0 Z0 E_w F_w_size F_w_bytes V_b hS87 hN87 g_w g_b nwb) e69  (oB rfl) (oB rfl) (own_need IC0 (oB rfl)) (own_need IS0 (oB rfl)) (g := (mkF m 11 #[oR rw, oR w, .unset, .unset, .unset, .unset] [(.int (-1 : Int32)), .ref w])) rfl (by rw [hml]; rfl) own_pd15 rfl rfl (by show 2 * 0 + _ ≤ _; exact Nat.le_of_eq rfl) (hb hby op68_15_11) ?_
     intro T88 v88 L88 xc88 xs88 X88 hQ88
     obtain ⟨b88_0, k88_0, cp88, z88, rfl, N88q, Kq88, zq88, hT88, hkC88, hkS88, q88_0, q88_1, q88_2⟩ := hQ88
     obtain ⟨sc88, sq88, sl88, su88⟩ := hT88
     have N88 := Fr.app N0 N88q
     have K88 := (Keep.refl h0 [w, b]).trans Kq88 (allS (Or.inl (List.mem_of_getElem? (i := 0) rfl)) (allS (Or.inl (List.mem_of_getElem? (i := 1) rfl)) all0))
     have g_b88_0 : n0 ≤ b88_0 := own_sz2 zq88 g_b Z0
     have bz_b88_0 : b88_0 = b ∨ h0.size ≤ b88_0 := own_bz zq88 bz_b (Keep.refl h0 [w, b]).1
     have ne_w_b88_0 : w ≠ b88_0 := own_ne2 nwb E_w.lt zq88
     have ne_rw_b88_0 : rw ≠ b88_0 := own_ne2 nrwb E_rw.lt zq88
     have ne_cs_b88_0 : cs ≠ b88_0 := own_ne2 ncsb Vb.lt zq88
     have IC88 := own_acc IC0 hkC88
     have IS88 := own_acc IS0 hkS88
     refine oS (fun t k => XS.aloadN X88.here hx rfl (hb hby op68_15_14) rfl rfl k) ?_
     show oG _ _ _ _ T88 (mkF m 15 #[oR rw, oR w, .unset, .unset, .unset, .unset] [.ref rw, .ref w])
     have F_rw_deletedAt_v90 := (F_rw_deletedAt.keep Kq88 (ninS nrww (ninS nrwb nin0)))
     obtain ⟨T89, X89, e89, st89⟩ := getF X88 hx hZ hown (host := "") (Or.inl (oW hw 51 rfl)) Via.refl rfl F_rw_deletedAt_v90 (g := (mkF m 15 #[oR rw, oR w, .unset, .unset, .unset, .unset] [.ref rw, .ref w])) rfl rfl (hb hby op68_15_15)
     refine oS st89 ?_
     show oG _ _ _ _ T89 (mkF m 18 #[oR rw, oR w, .unset, .unset, .unset, .unset] [(.long dl), .ref w])
     have hS91 : own_St cp88 z88 (N + 4) := ⟨sc88, sq88, by omega, by omega⟩
     have hN91 : (N + 4) + 8 ≤ 128 := by omega
     have E_w_v92 := (E_w.keep Kq88)
     refine own_callVX X89 hx hZ (y := oy17) (z := oy17) hown (oW hw 167 rfl) (oW hw 168 rfl) (notFace_of_selects (args := #[]) (mvT hZ (oW hw 170 rfl))) (oW hw 170 rfl) (oW hw 169 rfl) (oW hw 171 rfl) (oW hw 64 rfl) (by decide) 0 E_w_v92 [(.long dl)] [] (own_wl l Z a0 hw [] w b88_0 k88_0 cp88 z88 (N + 4) dl T88.heap n0 (Nat.le_trans Z0 K88.1) E_w_v92 q88_0 q88_1 q88_2 hS91 hN91 g_w g_b88_0 ne_w_b88_0) e89  (oB rfl) (oB rfl) (own_need IC88 (oB rfl)) (own_need IS88 (oB rfl)) (g := (mkF m 18 #[oR rw, oR w, .unset, .unset, .unset, .unset] [(.long dl), .ref w])) rfl (by rw [hml]; rfl) own_pd20 rfl rfl (by show 2 * 0 + _ ≤ _; exact Nat.le_of_eq rfl) (hb hby op68_15_18) ?_
     intro T93 v93 L93 xc93 xs93 X93 hQ93
     have E_rw_v94 := (E_rw.keep Kq88)
     have Vb_v95 := (Vb.keep Kq88 (ninS ncsw (ninS ncsb nin0)))
     obtain ⟨b93_0, k93_0, cp93, z93, rfl, N93q, Kq93, zq93, hT93, hkC93, hkS93, q93_0, q93_1, q93_2⟩ := hQ93
     obtain ⟨sc93, sq93, sl93, su93⟩ := hT93
     have N93 := Fr.app N88 N93q
     have K93 := K88.trans Kq93 (allS (Or.inl (List.mem_of_getElem? (i := 0) rfl)) (allS (own_wz bz_b88_0 (List.mem_of_getElem? (i := 1) rfl)) all0))
     have g_b93_0 : n0 ≤ b93_0 := own_sz2 zq93 g_b88_0 (Nat.le_trans Z0 K88.1)
     have bz_b93_0 : b93_0 = b ∨ h0.size ≤ b93_0 := own_bz zq93 bz_b88_0 K88.1
     have ne_w_b93_0 : w ≠ b93_0 := own_ne2 ne_w_b88_0 E_w_v92.lt zq93
     have ne_rw_b93_0 : rw ≠ b93_0 := own_ne2 ne_rw_b88_0 E_rw_v94.lt zq93
     have ne_cs_b93_0 : cs ≠ b93_0 := own_ne2 ne_cs_b88_0 Vb_v95.lt zq93
     have IC93 := own_acc IC88 hkC93
     have IS93 := own_acc IS88 hkS93
     refine oS (fun t k => XS.pop X93.here hx rfl (hb hby op68_15_21) rfl rfl k) ?_
     show oG _ _ _ _ T93 (mkF m 22 #[oR rw, oR w, .unset, .unset, .unset, .unset] [])
     refine oS (fun t k => XS.aloadN X93.here hx rfl (hb hby op68_15_22) rfl rfl k) ?_
     show oG _ _ _ _ T93 (mkF m 23 #[oR rw, oR w, .unset, .unset, .unset, .unset] [.ref rw])
     have F_rw_movedFrom_v97 := ((F_rw_movedFrom.keep Kq88 (ninS nrww (ninS nrwb nin0))).keep Kq93 (ninS nrww (ninS ne_rw_b88_0 nin0)))
     obtain ⟨T96, X96, e96, st96⟩ := getF X93 hx hZ hown (host := "") (Or.inl (oW hw 53 rfl)) Via.refl rfl F_rw_movedFrom_v97 (g := (mkF m 23 #[oR rw, oR w, .unset, .unset, .unset, .unset] [.ref rw])) rfl rfl (hb hby op68_15_23)
     refine oS st96 ?_
     show oG _ _ _ _ T96 (mkF m 26 #[oR rw, oR w, .unset, .unset, .unset, .unset] [.null])
     refine oS (fun t k => XS.ifnullYes X96.here hx rfl (pc0 := 26) (pc' := 42) rfl (hb hby op68_15_26) rfl (by decide) (by decide) k) ?_
     refine oS (fun t k => XS.aloadN X96.here hx rfl (hb hby op68_15_42) rfl rfl k) ?_
     refine oS (fun t k => XS.aloadN X96.here hx rfl (hb hby op68_15_43) rfl rfl k) ?_
     show oG _ _ _ _ T96 (mkF m 44 #[oR rw, oR w, .unset, .unset, .unset, .unset] [.ref rw, .ref w])
     have F_rw_cells_v99 := ((F_rw_cells.keep Kq88 (ninS nrww (ninS nrwb nin0))).keep Kq93 (ninS nrww (ninS ne_rw_b88_0 nin0)))
     obtain ⟨T98, X98, e98, st98⟩ := getF X96 hx hZ hown (host := "") (Or.inl (oW hw 49 rfl)) Via.refl e96 F_rw_cells_v99 (g := (mkF m 44 #[oR rw, oR w, .unset, .unset, .unset, .unset] [.ref rw, .ref w])) rfl rfl (hb hby op68_15_44)
     refine oS st98 ?_
     show oG _ _ _ _ T98 (mkF m 47 #[oR rw, oR w, .unset, .unset, .unset, .unset] [.ref cs, .ref w])
     have Vb_v100 := (Vb_v95.keep Kq93 (ninS ncsw (ninS ne_cs_b88_0 nin0)))
     refine oS (own_alen X98 hx hZ e98 Vb_v100 (g := (mkF m 47 #[oR rw, oR w, .unset, .unset, .unset, .unset] [.ref cs, .ref w])) rfl rfl (hb hby op68_15_47)) ?_
     show oG _ _ _ _ T98 (mkF m 48 #[oR rw, oR w, .unset, .unset, .unset, .unset] [.int 2, .ref w])
     have hS101 : own_St cp93 z93 ((N + 4) + 8) := ⟨sc93, sq93, by omega, by omega⟩
     have hN101 : ((N + 4) + 8) + 4 ≤ 128 := by omega
     have E_w_v102 := (E_w_v92.keep Kq93)
     refine own_callVX X98 hx hZ (y := oy16) (z := oy16) hown (oW hw 166 rfl) (oW hw 131 rfl) (notFace_of_selects (args := #[]) (mvT hZ (oW hw 133 rfl))) (oW hw 133 rfl) (oW hw 132 rfl) (oW hw 134 rfl) (oW hw 64 rfl) (by decide) 0 E_w_v102 [.int 2] [] (own_wi l Z a0 hw [] w b93_0 k93_0 cp93 z93 ((N + 4) + 8) 2 T93.heap n0 (Nat.le_trans Z0 K93.1) E_w_v102 q93_0 q93_1 q93_2 hS101 hN101 g_w g_b93_0 ne_w_b93_0) e98  (oB rfl) (oB rfl) (own_need IC93 (oB rfl)) (own_need IS93 (oB rfl)) (g := (mkF m 48 #[oR rw, oR w, .unset, .unset, .unset, .unset] [.int 2, .ref w])) rfl (by rw [hml]; rfl) own_pd15 rfl rfl (by show 2 * 0 + _ ≤ _; exact Nat.le_of_eq rfl) (hb hby op68_15_48) ?_
     intro T103 v103 L103 xc103 xs103 X103 hQ103
     have E_rw_v104 := (E_rw_v94.keep Kq93)
     obtain ⟨b103_0, k103_0, cp103, z103, rfl, N103q, Kq103, zq103, hT103, hkC103, hkS103, q103_0, q103_1, q103_2⟩ := hQ103
     obtain ⟨sc103, sq103, sl103, su103⟩ := hT103
     have N103 := Fr.app N93 N103q
     have K103 := K93.trans Kq103 (allS (Or.inl (List.mem_of_getElem? (i := 0) rfl)) (allS (own_wz bz_b93_0 (List.mem_of_getElem? (i := 1) rfl)) all0))
     have g_b103_0 : n0 ≤ b103_0 := own_sz2 zq103 g_b93_0 (Nat.le_trans Z0 K93.1)
     have bz_b103_0 : b103_0 = b ∨ h0.size ≤ b103_0 := own_bz zq103 bz_b93_0 K93.1
     have ne_w_b103_0 : w ≠ b103_0 := own_ne2 ne_w_b93_0 E_w_v102.lt zq103
     have ne_rw_b103_0 : rw ≠ b103_0 := own_ne2 ne_rw_b93_0 E_rw_v104.lt zq103
     have ne_cs_b103_0 : cs ≠ b103_0 := own_ne2 ne_cs_b93_0 Vb_v100.lt zq103
     have IC103 := own_acc IC93 hkC103
     have IS103 := own_acc IS93 hkS103
     refine oS (fun t k => XS.pop X103.here hx rfl (hb hby op68_15_51) rfl rfl k) ?_
     refine oS (fun t k => XS.aloadN X103.here hx rfl (hb hby op68_15_52) rfl rfl k) ?_
     show oG _ _ _ _ T103 (mkF m 53 #[oR rw, oR w, .unset, .unset, .unset, .unset] [.ref rw])
     have F_rw_cells_v106 := (F_rw_cells_v99.keep Kq103 (ninS nrww (ninS ne_rw_b93_0 nin0)))
     obtain ⟨T105, X105, e105, st105⟩ := getF X103 hx hZ hown (host := "") (Or.inl (oW hw 49 rfl)) Via.refl rfl F_rw_cells_v106 (g := (mkF m 53 #[oR rw, oR w, .unset, .unset, .unset, .unset] [.ref rw])) rfl rfl (hb hby op68_15_53)
     refine oS st105 ?_
     refine oS (fun t k => XS.astoreN X105.here hx rfl (hb hby op68_15_56) rfl rfl (l' := #[oR rw, oR w, oR cs, .unset, .unset, .unset]) rfl k) ?_
     refine oS (fun t k => XS.aloadN X105.here hx rfl (hb hby op68_15_57) rfl rfl k) ?_
     show oG _ _ _ _ T105 (mkF m 58 #[oR rw, oR w, oR cs, .unset, .unset, .unset] [.ref cs])
     have Vb_v107 := (Vb_v100.keep Kq103 (ninS ncsw (ninS ne_cs_b93_0 nin0)))
     refine oS (own_alen X105 hx hZ e105 Vb_v107 (g := (mkF m 58 #[oR rw, oR w, oR cs, .unset, .unset, .unset] [.ref cs])) rfl rfl (hb hby op68_15_58)) ?_
     refine oS (fun t k => XS.istoreN X105.here hx rfl (hb hby op68_15_59) rfl (l' := #[oR rw, oR w, oR cs, oI 2, .unset, .unset]) rfl k) ?_
     refine oS (fun t k => XS.iconst X105.here hx rfl (hb hby op68_15_60) k) ?_
     refine oS (fun t k => XS.istore X105.here hx rfl (hb hby op68_15_61) rfl (l' := #[oR rw, oR w, oR cs, oI 2, oI 0, .unset]) rfl k) ?_
     refine oS (fun t k => XS.iload X105.here hx rfl (hb hby op68_15_63) rfl k) ?_
     refine oS (fun t k => XS.iloadN X105.here hx rfl (hb hby op68_15_65) rfl k) ?_
     show oG _ _ _ _ T105 (mkF m 66 #[oR rw, oR w, oR cs, oI 2, oI 0, .unset] [.int 2, .int 0])
     refine oS (fun t k => XS.icmpNo X105.here hx rfl (hb hby op68_15_66) rfl (tlt (show (0 : Int32) < (2 : Int32) from (by decide))).2.1 k) ?_
     refine oS (fun t k => XS.aloadN X105.here hx rfl (hb hby op68_15_69) rfl rfl k) ?_
     refine oS (fun t k => XS.iload X105.here hx rfl (hb hby op68_15_70) rfl k) ?_
     show oG _ _ _ _ T105 (mkF m 72 #[oR rw, oR w, oR cs, oI 2, oI 0, .unset] [.int 0, .ref cs])
     refine oS (own_aaload X105 hx hZ e105 Vb_v107 rfl .null ⟨by decide, by decide⟩ rfl (g := (mkF m 72 #[oR rw, oR w, oR cs, oI 2, oI 0, .unset] [.int 0, .ref cs])) rfl rfl (hb hby op68_15_72)) ?_
     refine oS (fun t k => XS.astore X105.here hx rfl (hb hby op68_15_73) rfl rfl (l' := #[oR rw, oR w, oR cs, oI 2, oI 0, .val .null]) rfl k) ?_
     refine oS (fun t k => XS.aloadN X105.here hx rfl (hb hby op68_15_75) rfl rfl k) ?_
     refine oS (fun t k => XS.aload X105.here hx rfl (hb hby op68_15_76) rfl rfl k) ?_
     show oG _ _ _ _ T105 (mkF m 78 #[oR rw, oR w, oR cs, oI 2, oI 0, .val .null] [.null, .ref w])
     refine oS (fun t k => XS.ifnonnullNo X105.here hx rfl (hb hby op68_15_78) rfl k) ?_
     refine oS (fun t k => XS.aconstNull X105.here hx rfl (hb hby op68_15_81) k) ?_
     refine oS (fun t k => XS.goto X105.here hx rfl (pc0 := 82) (pc' := 90) rfl (hb hby op68_15_82) (by decide) (by decide) k) ?_
     show oG _ _ _ _ T105 (mkF m 90 #[oR rw, oR w, oR cs, oI 2, oI 0, .val .null] [.null, .ref w])
     have hS108 : own_St cp103 z103 (((N + 4) + 8) + 4) := ⟨sc103, sq103, by omega, by omega⟩
     have hN108 : (((N + 4) + 8) + 4) + 4 ≤ 128 := by omega
     have E_w_v109 := (E_w_v102.keep Kq103)
     refine own_callVX X105 hx hZ (y := oy18) (z := oy18) hown (oW hw 172 rfl) (oW hw 173 rfl) (notFace_of_selects (args := #[]) (mvT hZ (oW hw 175 rfl))) (oW hw 175 rfl) (oW hw 174 rfl) (oW hw 176 rfl) (oW hw 64 rfl) (by decide) 0 E_w_v109 [.null] [] (own_wn l Z a0 hw [] w b103_0 k103_0 cp103 z103 (((N + 4) + 8) + 4) T103.heap n0 (Nat.le_trans Z0 K103.1) E_w_v109 q103_0 q103_1 q103_2 hS108 hN108 g_w g_b103_0 ne_w_b103_0) e105  (oB rfl) (oB rfl) (own_need IC103 (oB rfl)) (own_need IS103 (oB rfl)) (g := (mkF m 90 #[oR rw, oR w, oR cs, oI 2, oI 0, .val .null] [.null, .ref w])) rfl (by rw [hml]; rfl) own_pd19 rfl rfl (by show 2 * 0 + _ ≤ _; exact Nat.le_of_eq rfl) (hb hby op68_15_90) ?_
     intro T110 v110 L110 xc110 xs110 X110 hQ110
     have E_rw_v111 := (E_rw_v104.keep Kq103)
     obtain ⟨b110_0, k110_0, cp110, z110, rfl, N110q, Kq110, zq110, hT110, hkC110, hkS110, q110_0, q110_1, q110_2⟩ := hQ110
     obtain ⟨sc110, sq110, sl110, su110⟩ := hT110
     have N110 := Fr.app N103 N110q
     have K110 := K103.trans Kq110 (allS (Or.inl (List.mem_of_getElem? (i := 0) rfl)) (allS (own_wz bz_b103_0 (List.mem_of_getElem? (i := 1) rfl)) all0))
     have g_b110_0 : n0 ≤ b110_0 := own_sz2 zq110 g_b103_0 (Nat.le_trans Z0 K103.1)
     have bz_b110_0 : b110_0 = b ∨ h0.size ≤ b110_0 := own_bz zq110 bz_b103_0 K103.1
     have ne_w_b110_0 : w ≠ b110_0 := own_ne2 ne_w_b103_0 E_w_v109.lt zq110
     have ne_rw_b110_0 : rw ≠ b110_0 := own_ne2 ne_rw_b103_0 E_rw_v111.lt zq110
     have ne_cs_b110_0 : cs ≠ b110_0 := own_ne2 ne_cs_b103_0 Vb_v107.lt zq110
     have IC110 := own_acc IC103 hkC110
     have IS110 := own_acc IS103 hkS110
     refine oS (fun t k => XS.pop X110.here hx rfl (hb hby op68_15_93) rfl rfl k) ?_
     refine oS (fun t k => XS.aload X110.here hx rfl (hb hby op68_15_94) rfl rfl k) ?_
     show oG _ _ _ _ T110 (mkF m 96 #[oR rw, oR w, oR cs, oI 2, oI 0, .val .null] [.null])
     refine oS (fun t k => XS.ifnullYes X110.here hx rfl (pc0 := 96) (pc' := 109) rfl (hb hby op68_15_96) rfl (by decide) (by decide) k) ?_
     show oG _ _ _ _ T110 (mkF m 109 #[oR rw, oR w, oR cs, oI 2, oI 0, .val .null] [])
     refine oS (fun t k => XS.iinc X110.here hx rfl (hb hby op68_15_109) rfl (l' := #[oR rw, oR w, oR cs, oI 2, oI 1, .val .null]) rfl k) ?_
     refine oS (fun t k => XS.goto X110.here hx rfl (pc0 := 112) (pc' := 63) rfl (hb hby op68_15_112) (by decide) (by decide) k) ?_
     refine oS (fun t k => XS.iload X110.here hx rfl (hb hby op68_15_63) rfl k) ?_
     refine oS (fun t k => XS.iloadN X110.here hx rfl (hb hby op68_15_65) rfl k) ?_
     show oG _ _ _ _ T110 (mkF m 66 #[oR rw, oR w, oR cs, oI 2, oI 1, .val .null] [.int 2, .int 1])
     refine oS (fun t k => XS.icmpNo X110.here hx rfl (hb hby op68_15_66) rfl (tlt (show (1 : Int32) < (2 : Int32) from (by decide))).2.1 k) ?_
     refine oS (fun t k => XS.aloadN X110.here hx rfl (hb hby op68_15_69) rfl rfl k) ?_
     refine oS (fun t k => XS.iload X110.here hx rfl (hb hby op68_15_70) rfl k) ?_
     show oG _ _ _ _ T110 (mkF m 72 #[oR rw, oR w, oR cs, oI 2, oI 1, .val .null] [.int 1, .ref cs])
     have Vb_v112 := (Vb_v107.keep Kq110 (ninS ncsw (ninS ne_cs_b103_0 nin0)))
     refine oS (own_aaload X110 hx hZ rfl Vb_v112 rfl .null ⟨by decide, by decide⟩ rfl (g := (mkF m 72 #[oR rw, oR w, oR cs, oI 2, oI 1, .val .null] [.int 1, .ref cs])) rfl rfl (hb hby op68_15_72)) ?_
     refine oS (fun t k => XS.astore X110.here hx rfl (hb hby op68_15_73) rfl rfl (l' := #[oR rw, oR w, oR cs, oI 2, oI 1, .val .null]) rfl k) ?_
     refine oS (fun t k => XS.aloadN X110.here hx rfl (hb hby op68_15_75) rfl rfl k) ?_
     refine oS (fun t k => XS.aload X110.here hx rfl (hb hby op68_15_76) rfl rfl k) ?_
     show oG _ _ _ _ T110 (mkF m 78 #[oR rw, oR w, oR cs, oI 2, oI 1, .val .null] [.null, .ref w])
     refine oS (fun t k => XS.ifnonnullNo X110.here hx rfl (hb hby op68_15_78) rfl k) ?_
     refine oS (fun t k => XS.aconstNull X110.here hx rfl (hb hby op68_15_81) k) ?_
     refine oS (fun t k => XS.goto X110.here hx rfl (pc0 := 82) (pc' := 90) rfl (hb hby op68_15_82) (by decide) (by decide) k) ?_
     show oG _ _ _ _ T110 (mkF m 90 #[oR rw, oR w, oR cs, oI 2, oI 1, .val .null] [.null, .ref w])
     have hS113 : own_St cp110 z110 ((((N + 4) + 8) + 4) + 4) := ⟨sc110, sq110, by omega, by omega⟩
     have hN113 : ((((N + 4) + 8) + 4) + 4) + 4 ≤ 128 := by omega
     have E_w_v114 := (E_w_v109.keep Kq110)
     refine own_callVX X110 hx hZ (y := oy18) (z := oy18) hown (oW hw 172 rfl) (oW hw 173 rfl) (notFace_of_selects (args := #[]) (mvT hZ (oW hw 175 rfl))) (oW hw 175 rfl) (oW hw 174 rfl) (oW hw 176 rfl) (oW hw 64 rfl) (by decide) 0 E_w_v114 [.null] [] (own_wn l Z a0 hw [] w b110_0 k110_0 cp110 z110 ((((N + 4) + 8) + 4) + 4) T110.heap n0 (Nat.le_trans Z0 K110.1) E_w_v114 q110_0 q110_1 q110_2 hS113 hN113 g_w g_b110_0 ne_w_b110_0) rfl  (oB rfl) (oB rfl) (own_need IC110 (oB rfl)) (own_need IS110 (oB rfl)) (g := (mkF m 90 #[oR rw, oR w, oR cs, oI 2, oI 1, .val .null] [.null, .ref w])) rfl (by rw [hml]; rfl) own_pd19 rfl rfl (by show 2 * 0 + _ ≤ _; exact Nat.le_of_eq rfl) (hb hby op68_15_90) ?_
     intro T115 v115 L115 xc115 xs115 X115 hQ115
     have E_rw_v116 := (E_rw_v111.keep Kq110)
     obtain ⟨b115_0, k115_0, cp115, z115, rfl, N115q, Kq115, zq115, hT115, hkC115, hkS115, q115_0, q115_1, q115_2⟩ := hQ115
     obtain ⟨sc115, sq115, sl115, su115⟩ := hT115
     have N115 := Fr.app N110 N115q
     have K115 := K110.trans Kq115 (allS (Or.inl (List.mem_of_getElem? (i := 0) rfl)) (allS (own_wz bz_b110_0 (List.mem_of_getElem? (i := 1) rfl)) all0))
     have g_b115_0 : n0 ≤ b115_0 := own_sz2 zq115 g_b110_0 (Nat.le_trans Z0 K110.1)
     have bz_b115_0 : b115_0 = b ∨ h0.size ≤ b115_0 := own_bz zq115 bz_b110_0 K110.1
     have ne_w_b115_0 : w ≠ b115_0 := own_ne2 ne_w_b110_0 E_w_v114.lt zq115
     have ne_rw_b115_0 : rw ≠ b115_0 := own_ne2 ne_rw_b110_0 E_rw_v116.lt zq115
     have ne_cs_b115_0 : cs ≠ b115_0 := own_ne2 ne_cs_b110_0 Vb_v112.lt zq115
     have IC115 := own_acc IC110 hkC115
     have IS115 := own_acc IS110 hkS115
     refine oS (fun t k => XS.pop X115.here hx rfl (hb hby op68_15_93) rfl rfl k) ?_
     refine oS (fun t k => XS.aload X115.here hx rfl (hb hby op68_15_94) rfl rfl k) ?_
     show oG _ _ _ _ T115 (mkF m 96 #[oR rw, oR w, oR cs, oI 2, oI 1, .val .null] [.null])
     refine oS (fun t k => XS.ifnullYes X115.here hx rfl (pc0 := 96) (pc' := 109) rfl (hb hby op68_15_96) rfl (by decide) (by decide) k) ?_
     show oG _ _ _ _ T115 (mkF m 109 #[oR rw, oR w, oR cs, oI 2, oI 1, .val .null] [])
     refine oS (fun t k => XS.iinc X115.here hx rfl (hb hby op68_15_109) rfl (l' := #[oR rw, oR w, oR cs, oI 2, oI 2, .val .null]) rfl k) ?_
     refine oS (fun t k => XS.goto X115.here hx rfl (pc0 := 112) (pc' := 63) rfl (hb hby op68_15_112) (by decide) (by decide) k) ?_
     refine oS (fun t k => XS.iload X115.here hx rfl (hb hby op68_15_63) rfl k) ?_
     refine oS (fun t k => XS.iloadN X115.here hx rfl (hb hby op68_15_65) rfl k) ?_
     show oG _ _ _ _ T115 (mkF m 66 #[oR rw, oR w, oR cs, oI 2, oI 2, .val .null] [.int 2, .int 2])
     refine oS (fun t k => XS.icmpYes X115.here hx rfl (pc0 := 66) (pc' := 115) rfl (hb hby op68_15_66) rfl (flt (show ¬ ((2 : Int32) < (2 : Int32)) from (by decide))).2.1 (by decide) (by decide) k) ?_
     show oG _ _ _ _ T115 (mkF m 115 #[oR rw, oR w, oR cs, oI 2, oI 2, .val .null] [])
     have hSf : own_St cp115 z115 (N + (own_d dl + 4 + 4 * nn.toInt)) := ⟨sc115, by omega, by omega, by omega⟩
     exact own_retVX X115 hx hlk hrt (hb hby op68_15_115) (by exact ⟨b115_0, k115_0, cp115, z115, rfl, N115, K115, bz_b115_0, hSf, (own_fin IC115 (oB rfl)), (own_fin IS115 (oB rfl)), q115_0, q115_1, q115_2⟩)
 · have tn : nn.toInt = 3 := by rw [hnn]; decide
   have Va : Arv Z h0 cs kc (.object "com/example/ringshift/ringshift/data/Cell") (3 : Int32) [] .null := by rw [← hnn]; exact V_cs
   have Vb : Arv Z h0 cs kc (.object "com/example/ringshift/ringshift/data/Cell") (3 : Int32) [.null, .null, .null] .null := Va.pad (pad_rep [] .null 3)
   show oG _ _ _ _ s₁ (mkF m 0 #[oR rw, oR w, .unset, .unset, .unset, .unset] [])
   refine oS (fun t k => XS.aloadN X0.here hx rfl (hb hby op68_15_0) rfl rfl k) ?_
   show oG _ _ _ _ s₁ (mkF m 1 #[oR rw, oR w, .unset, .unset, .unset, .unset] [.ref rw])
   obtain ⟨T117, X117, e117, st117⟩ := getF X0 hx hZ hown (host := "") (Or.inl (oW hw 51 rfl)) Via.refl e0 F_rw_deletedAt (g := (mkF m 1 #[oR rw, oR w, .unset, .unset, .unset, .unset] [.ref rw])) rfl rfl (hb hby op68_15_1)
   refine oS st117 ?_
   refine oS (fun t k => XS.lconst X117.here hx rfl (hb hby op68_15_4) k) ?_
   show oG _ _ _ _ T117 (mkF m 5 #[oR rw, oR w, .unset, .unset, .unset, .unset] [(.long (0 : Int64)), (.long dl)])
   refine oS (fun t k => XS.lcmp X117.here hx rfl (hb hby op68_15_5) rfl k) ?_
   show oG _ _ _ _ T117 (mkF m 6 #[oR rw, oR w, .unset, .unset, .unset, .unset] [(.int (lcmpW dl (0 : Int64)))])
   by_cases hc6_118 : (lcmpW dl (0 : Int64)) = (0 : Int32)
   · refine oS (fun t k => XS.ifYes X117.here hx rfl (pc0 := 6) (pc' := 22) rfl (hb hby op68_15_6) rfl ((if0 _ _).trans (teq (show (lcmpW dl (0 : Int64)) = (0 : Int32) from hc6_118)).1) (by decide) (by decide) k) ?_
     show oG _ _ _ _ T117 (mkF m 22 #[oR rw, oR w, .unset, .unset, .unset, .unset] [])
     have dd := own_d0 hc6_118
     show oG _ _ _ _ T117 (mkF m 22 #[oR rw, oR w, .unset, .unset, .unset, .unset] [])
     refine oS (fun t k => XS.aloadN X117.here hx rfl (hb hby op68_15_22) rfl rfl k) ?_
     show oG _ _ _ _ T117 (mkF m 23 #[oR rw, oR w, .unset, .unset, .unset, .unset] [.ref rw])
     obtain ⟨T119, X119, e119, st119⟩ := getF X117 hx hZ hown (host := "") (Or.inl (oW hw 53 rfl)) Via.refl e117 F_rw_movedFrom (g := (mkF m 23 #[oR rw, oR w, .unset, .unset, .unset, .unset] [.ref rw])) rfl rfl (hb hby op68_15_23)
     refine oS st119 ?_
     show oG _ _ _ _ T119 (mkF m 26 #[oR rw, oR w, .unset, .unset, .unset, .unset] [.null])
     refine oS (fun t k => XS.ifnullYes X119.here hx rfl (pc0 := 26) (pc' := 42) rfl (hb hby op68_15_26) rfl (by decide) (by decide) k) ?_
     refine oS (fun t k => XS.aloadN X119.here hx rfl (hb hby op68_15_42) rfl rfl k) ?_
     refine oS (fun t k => XS.aloadN X119.here hx rfl (hb hby op68_15_43) rfl rfl k) ?_
     show oG _ _ _ _ T119 (mkF m 44 #[oR rw, oR w, .unset, .unset, .unset, .unset] [.ref rw, .ref w])
     obtain ⟨T120, X120, e120, st120⟩ := getF X119 hx hZ hown (host := "") (Or.inl (oW hw 49 rfl)) Via.refl e119 F_rw_cells (g := (mkF m 44 #[oR rw, oR w, .unset, .unset, .unset, .unset] [.ref rw, .ref w])) rfl rfl (hb hby op68_15_44)
     refine oS st120 ?_
     show oG _ _ _ _ T120 (mkF m 47 #[oR rw, oR w, .unset, .unset, .unset, .unset] [.ref cs, .ref w])
     refine oS (own_alen X120 hx hZ e120 Vb (g := (mkF m 47 #[oR rw, oR w, .unset, .unset, .unset, .unset] [.ref cs, .ref w])) rfl rfl (hb hby op68_15_47)) ?_
     show oG _ _ _ _ T120 (mkF m 48 #[oR rw, oR w, .unset, .unset, .unset, .unset] [.int 3, .ref w])
     have hS121 : own_St cap sz N := ⟨sc0, sq0, by omega, by omega⟩
     have hN121 : N + 4 ≤ 128 := by omega
     refine own_callVX X120 hx hZ (y := oy16) (z := oy16) hown (oW hw 166 rfl) (oW hw 131 rfl) (notFace_of_selects (args := #[]) (mvT hZ (oW hw 133 rfl))) (oW hw 133 rfl) (oW hw 132 rfl) (oW hw 134 rfl) (oW hw 64 rfl) (by decide) 0 E_w [.int 3] [] (own_wi l Z a0 hw [] w b kb cap sz N 3 h0 n0 Z0 E_w F_w_size F_w_bytes V_b hS121 hN121 g_w g_b nwb) e120  (oB rfl) (oB rfl) (own_need IC0 (oB rfl)) (own_need IS0 (oB rfl)) (g := (mkF m 48 #[oR rw, oR w, .unset, .unset, .unset, .unset] [.int 3, .ref w])) rfl (by rw [hml]; rfl) own_pd15 rfl rfl (by show 2 * 0 + _ ≤ _; exact Nat.le_of_eq rfl) (hb hby op68_15_48) ?_
     intro T122 v122 L122 xc122 xs122 X122 hQ122
     obtain ⟨b122_0, k122_0, cp122, z122, rfl, N122q, Kq122, zq122, hT122, hkC122, hkS122, q122_0, q122_1, q122_2⟩ := hQ122
     obtain ⟨sc122, sq122, sl122, su122⟩ := hT122
     have N122 := Fr.app N0 N122q
     have K122 := (Keep.refl h0 [w, b]).trans Kq122 (allS (Or.inl (List.mem_of_getElem? (i := 0) rfl)) (allS (Or.inl (List.mem_of_getElem? (i := 1) rfl)) all0))
     have g_b122_0 : n0 ≤ b122_0 := own_sz2 zq122 g_b Z0
     have bz_b122_0 : b122_0 = b ∨ h0.size ≤ b122_0 := own_bz zq122 bz_b (Keep.refl h0 [w, b]).1
     have ne_w_b122_0 : w ≠ b122_0 := own_ne2 nwb E_w.lt zq122
     have ne_rw_b122_0 : rw ≠ b122_0 := own_ne2 nrwb E_rw.lt zq122
     have ne_cs_b122_0 : cs ≠ b122_0 := own_ne2 ncsb Vb.lt zq122
     have IC122 := own_acc IC0 hkC122
     have IS122 := own_acc IS0 hkS122
     refine oS (fun t k => XS.pop X122.here hx rfl (hb hby op68_15_51) rfl rfl k) ?_
     refine oS (fun t k => XS.aloadN X122.here hx rfl (hb hby op68_15_52) rfl rfl k) ?_
     show oG _ _ _ _ T122 (mkF m 53 #[oR rw, oR w, .unset, .unset, .unset, .unset] [.ref rw])
     have F_rw_cells_v124 := (F_rw_cells.keep Kq122 (ninS nrww (ninS nrwb nin0)))
     obtain ⟨T123, X123, e123, st123⟩ := getF X122 hx hZ hown (host := "") (Or.inl (oW hw 49 rfl)) Via.refl rfl F_rw_cells_v124 (g := (mkF m 53 #[oR rw, oR w, .unset, .unset, .unset, .unset] [.ref rw])) rfl rfl (hb hby op68_15_53)
     refine oS st123 ?_
     refine oS (fun t k => XS.astoreN X123.here hx rfl (hb hby op68_15_56) rfl rfl (l' := #[oR rw, oR w, oR cs, .unset, .unset, .unset]) rfl k) ?_
     refine oS (fun t k => XS.aloadN X123.here hx rfl (hb hby op68_15_57) rfl rfl k) ?_
     show oG _ _ _ _ T123 (mkF m 58 #[oR rw, oR w, oR cs, .unset, .unset, .unset] [.ref cs])
     have Vb_v125 := (Vb.keep Kq122 (ninS ncsw (ninS ncsb nin0)))
     refine oS (own_alen X123 hx hZ e123 Vb_v125 (g := (mkF m 58 #[oR rw, oR w, oR cs, .unset, .unset, .unset] [.ref cs])) rfl rfl (hb hby op68_15_58)) ?_
     refine oS (fun t k => XS.istoreN X123.here hx rfl (hb hby op68_15_59) rfl (l' := #[oR rw, oR w, oR cs, oI 3, .unset, .unset]) rfl k) ?_
     refine oS (fun t k => XS.iconst X123.here hx rfl (hb hby op68_15_60) k) ?_
     refine oS (fun t k => XS.istore X123.here hx rfl (hb hby op68_15_61) rfl (l' := #[oR rw, oR w, oR cs, oI 3, oI 0, .unset]) rfl k) ?_
     refine oS (fun t k => XS.iload X123.here hx rfl (hb hby op68_15_63) rfl k) ?_
     refine oS (fun t k => XS.iloadN X123.here hx rfl (hb hby op68_15_65) rfl k) ?_
     show oG _ _ _ _ T123 (mkF m 66 #[oR rw, oR w, oR cs, oI 3, oI 0, .unset] [.int 3, .int 0])
     refine oS (fun t k => XS.icmpNo X123.here hx rfl (hb hby op68_15_66) rfl (tlt (show (0 : Int32) < (3 : Int32) from (by decide))).2.1 k) ?_
     refine oS (fun t k => XS.aloadN X123.here hx rfl (hb hby op68_15_69) rfl rfl k) ?_
     refine oS (fun t k => XS.iload X123.here hx rfl (hb hby op68_15_70) rfl k) ?_
     show oG _ _ _ _ T123 (mkF m 72 #[oR rw, oR w, oR cs, oI 3, oI 0, .unset] [.int 0, .ref cs])
     refine oS (own_aaload X123 hx hZ e123 Vb_v125 rfl .null ⟨by decide, by decide⟩ rfl (g := (mkF m 72 #[oR rw, oR w, oR cs, oI 3, oI 0, .unset] [.int 0, .ref cs])) rfl rfl (hb hby op68_15_72)) ?_
     refine oS (fun t k => XS.astore X123.here hx rfl (hb hby op68_15_73) rfl rfl (l' := #[oR rw, oR w, oR cs, oI 3, oI 0, .val .null]) rfl k) ?_
     refine oS (fun t k => XS.aloadN X123.here hx rfl (hb hby op68_15_75) rfl rfl k) ?_
     refine oS (fun t k => XS.aload X123.here hx rfl (hb hby op68_15_76) rfl rfl k) ?_
     show oG _ _ _ _ T123 (mkF m 78 #[oR rw, oR w, oR cs, oI 3, oI 0, .val .null] [.null, .ref w])
     refine oS (fun t k => XS.ifnonnullNo X123.here hx rfl (hb hby op68_15_78) rfl k) ?_
     refine oS (fun t k => XS.aconstNull X123.here hx rfl (hb hby op68_15_81) k) ?_
     refine oS (fun t k => XS.goto X123.here hx rfl (pc0 := 82) (pc' := 90) rfl (hb hby op68_15_82) (by decide) (by decide) k) ?_
     show oG _ _ _ _ T123 (mkF m 90 #[oR rw, oR w, oR cs, oI 3, oI 0, .val .null] [.null, .ref w])
     have hS126 : own_St cp122 z122 (N + 4) := ⟨sc122, sq122, by omega, by omega⟩
     have hN126 : (N + 4) + 4 ≤ 128 := by omega
     have E_w_v127 := (E_w.keep Kq122)
     refine own_callVX X123 hx hZ (y := oy18) (z := oy18) hown (oW hw 172 rfl) (oW hw 173 rfl) (notFace_of_selects (args := #[]) (mvT hZ (oW hw 175 rfl))) (oW hw 175 rfl) (oW hw 174 rfl) (oW hw 176 rfl) (oW hw 64 rfl) (by decide) 0 E_w_v127 [.null] [] (own_wn l Z a0 hw [] w b122_0 k122_0 cp122 z122 (N + 4) T122.heap n0 (Nat.le_trans Z0 K122.1) E_w_v127 q122_0 q122_1 q122_2 hS126 hN126 g_w g_b122_0 ne_w_b122_0) e123  (oB rfl) (oB rfl) (own_need IC122 (oB rfl)) (own_need IS122 (oB rfl)) (g := (mkF m 90 #[oR rw, oR w, oR cs, oI 3, oI 0, .val .null] [.null, .ref w])) rfl (by rw [hml]; rfl) own_pd19 rfl rfl (by show 2 * 0 + _ ≤ _; exact Nat.le_of_eq rfl) (hb hby op68_15_90) ?_
     intro T128 v128 L128 xc128 xs128 X128 hQ128
     have E_rw_v129 := (E_rw.keep Kq122)
     obtain ⟨b128_0, k128_0, cp128, z128, rfl, N128q, Kq128, zq128, hT128, hkC128, hkS128, q128_0, q128_1, q128_2⟩ := hQ128
     obtain ⟨sc128, sq128, sl128, su128⟩ := hT128
     have N128 := Fr.app N122 N128q
     have K128 := K122.trans Kq128 (allS (Or.inl (List.mem_of_getElem? (i := 0) rfl)) (allS (own_wz bz_b122_0 (List.mem_of_getElem? (i := 1) rfl)) all0))
     have g_b128_0 : n0 ≤ b128_0 := own_sz2 zq128 g_b122_0 (Nat.le_trans Z0 K122.1)
     have bz_b128_0 : b128_0 = b ∨ h0.size ≤ b128_0 := own_bz zq128 bz_b122_0 K122.1
     have ne_w_b128_0 : w ≠ b128_0 := own_ne2 ne_w_b122_0 E_w_v127.lt zq128
     have ne_rw_b128_0 : rw ≠ b128_0 := own_ne2 ne_rw_b122_0 E_rw_v129.lt zq128
     have ne_cs_b128_0 : cs ≠ b128_0 := own_ne2 ne_cs_b122_0 Vb_v125.lt zq128
     have IC128 := own_acc IC122 hkC128
     have IS128 := own_acc IS122 hkS128
     refine oS (fun t k => XS.pop X128.here hx rfl (hb hby op68_15_93) rfl rfl k) ?_
     refine oS (fun t k => XS.aload X128.here hx rfl (hb hby op68_15_94) rfl rfl k) ?_
     show oG _ _ _ _ T128 (mkF m 96 #[oR rw, oR w, oR cs, oI 3, oI 0, .val .null] [.null])
     refine oS (fun t k => XS.ifnullYes X128.here hx rfl (pc0 := 96) (pc' := 109) rfl (hb hby op68_15_96) rfl (by decide) (by decide) k) ?_
     show oG _ _ _ _ T128 (mkF m 109 #[oR rw, oR w, oR cs, oI 3, oI 0, .val .null] [])
     refine oS (fun t k => XS.iinc X128.here hx rfl (hb hby op68_15_109) rfl (l' := #[oR rw, oR w, oR cs, oI 3, oI 1, .val .null]) rfl k) ?_
     refine oS (fun t k => XS.goto X128.here hx rfl (pc0 := 112) (pc' := 63) rfl (hb hby op68_15_112) (by decide) (by decide) k) ?_
     refine oS (fun t k => XS.iload X128.here hx rfl (hb hby op68_15_63) rfl k) ?_
     refine oS (fun t k => XS.iloadN X128.here hx rfl (hb hby op68_15_65) rfl k) ?_
     show oG _ _ _ _ T128 (mkF m 66 #[oR rw, oR w, oR cs, oI 3, oI 1, .val .null] [.int 3, .int 1])
     refine oS (fun t k => XS.icmpNo X128.here hx rfl (hb hby op68_15_66) rfl (tlt (show (1 : Int32) < (3 : Int32) from (by decide))).2.1 k) ?_
     refine oS (fun t k => XS.aloadN X128.here hx rfl (hb hby op68_15_69) rfl rfl k) ?_
     refine oS (fun t k => XS.iload X128.here hx rfl (hb hby op68_15_70) rfl k) ?_
     show oG _ _ _ _ T128 (mkF m 72 #[oR rw, oR w, oR cs, oI 3, oI 1, .val .null] [.int 1, .ref cs])
     have Vb_v130 := (Vb_v125.keep Kq128 (ninS ncsw (ninS ne_cs_b122_0 nin0)))
     refine oS (own_aaload X128 hx hZ rfl Vb_v130 rfl .null ⟨by decide, by decide⟩ rfl (g := (mkF m 72 #[oR rw, oR w, oR cs, oI 3, oI 1, .val .null] [.int 1, .ref cs])) rfl rfl (hb hby op68_15_72)) ?_
     refine oS (fun t k => XS.astore X128.here hx rfl (hb hby op68_15_73) rfl rfl (l' := #[oR rw, oR w, oR cs, oI 3, oI 1, .val .null]) rfl k) ?_
     refine oS (fun t k => XS.aloadN X128.here hx rfl (hb hby op68_15_75) rfl rfl k) ?_
     refine oS (fun t k => XS.aload X128.here hx rfl (hb hby op68_15_76) rfl rfl k) ?_
     show oG _ _ _ _ T128 (mkF m 78 #[oR rw, oR w, oR cs, oI 3, oI 1, .val .null] [.null, .ref w])
     refine oS (fun t k => XS.ifnonnullNo X128.here hx rfl (hb hby op68_15_78) rfl k) ?_
     refine oS (fun t k => XS.aconstNull X128.here hx rfl (hb hby op68_15_81) k) ?_
     refine oS (fun t k => XS.goto X128.here hx rfl (pc0 := 82) (pc' := 90) rfl (hb hby op68_15_82) (by decide) (by decide) k) ?_
     show oG _ _ _ _ T128 (mkF m 90 #[oR rw, oR w, oR cs, oI 3, oI 1, .val .null] [.null, .ref w])
     have hS131 : own_St cp128 z128 ((N + 4) + 4) := ⟨sc128, sq128, by omega, by omega⟩
     have hN131 : ((N + 4) + 4) + 4 ≤ 128 := by omega
     have E_w_v132 := (E_w_v127.keep Kq128)
     refine own_callVX X128 hx hZ (y := oy18) (z := oy18) hown (oW hw 172 rfl) (oW hw 173 rfl) (notFace_of_selects (args := #[]) (mvT hZ (oW hw 175 rfl))) (oW hw 175 rfl) (oW hw 174 rfl) (oW hw 176 rfl) (oW hw 64 rfl) (by decide) 0 E_w_v132 [.null] [] (own_wn l Z a0 hw [] w b128_0 k128_0 cp128 z128 ((N + 4) + 4) T128.heap n0 (Nat.le_trans Z0 K128.1) E_w_v132 q128_0 q128_1 q128_2 hS131 hN131 g_w g_b128_0 ne_w_b128_0) rfl  (oB rfl) (oB rfl) (own_need IC128 (oB rfl)) (own_need IS128 (oB rfl)) (g := (mkF m 90 #[oR rw, oR w, oR cs, oI 3, oI 1, .val .null] [.null, .ref w])) rfl (by rw [hml]; rfl) own_pd19 rfl rfl (by show 2 * 0 + _ ≤ _; exact Nat.le_of_eq rfl) (hb hby op68_15_90) ?_
     intro T133 v133 L133 xc133 xs133 X133 hQ133
     have E_rw_v134 := (E_rw_v129.keep Kq128)
     obtain ⟨b133_0, k133_0, cp133, z133, rfl, N133q, Kq133, zq133, hT133, hkC133, hkS133, q133_0, q133_1, q133_2⟩ := hQ133
     obtain ⟨sc133, sq133, sl133, su133⟩ := hT133
     have N133 := Fr.app N128 N133q
     have K133 := K128.trans Kq133 (allS (Or.inl (List.mem_of_getElem? (i := 0) rfl)) (allS (own_wz bz_b128_0 (List.mem_of_getElem? (i := 1) rfl)) all0))
     have g_b133_0 : n0 ≤ b133_0 := own_sz2 zq133 g_b128_0 (Nat.le_trans Z0 K128.1)
     have bz_b133_0 : b133_0 = b ∨ h0.size ≤ b133_0 := own_bz zq133 bz_b128_0 K128.1
     have ne_w_b133_0 : w ≠ b133_0 := own_ne2 ne_w_b128_0 E_w_v132.lt zq133
     have ne_rw_b133_0 : rw ≠ b133_0 := own_ne2 ne_rw_b128_0 E_rw_v134.lt zq133
     have ne_cs_b133_0 : cs ≠ b133_0 := own_ne2 ne_cs_b128_0 Vb_v130.lt zq133
     have IC133 := own_acc IC128 hkC133
     have IS133 := own_acc IS128 hkS133
     refine oS (fun t k => XS.pop X133.here hx rfl (hb hby op68_15_93) rfl rfl k) ?_
     refine oS (fun t k => XS.aload X133.here hx rfl (hb hby op68_15_94) rfl rfl k) ?_
     show oG _ _ _ _ T133 (mkF m 96 #[oR rw, oR w, oR cs, oI 3, oI 1, .val .null] [.null])
     refine oS (fun t k => XS.ifnullYes X133.here hx rfl (pc0 := 96) (pc' := 109) rfl (hb hby op68_15_96) rfl (by decide) (by decide) k) ?_
     show oG _ _ _ _ T133 (mkF m 109 #[oR rw, oR w, oR cs, oI 3, oI 1, .val .null] [])
     refine oS (fun t k => XS.iinc X133.here hx rfl (hb hby op68_15_109) rfl (l' := #[oR rw, oR w, oR cs, oI 3, oI 2, .val .null]) rfl k) ?_
     refine oS (fun t k => XS.goto X133.here hx rfl (pc0 := 112) (pc' := 63) rfl (hb hby op68_15_112) (by decide) (by decide) k) ?_
     refine oS (fun t k => XS.iload X133.here hx rfl (hb hby op68_15_63) rfl k) ?_
     refine oS (fun t k => XS.iloadN X133.here hx rfl (hb hby op68_15_65) rfl k) ?_
     show oG _ _ _ _ T133 (mkF m 66 #[oR rw, oR w, oR cs, oI 3, oI 2, .val .null] [.int 3, .int 2])
     refine oS (fun t k => XS.icmpNo X133.here hx rfl (hb hby op68_15_66) rfl (tlt (show (2 : Int32) < (3 : Int32) from (by decide))).2.1 k) ?_
     refine oS (fun t k => XS.aloadN X133.here hx rfl (hb hby op68_15_69) rfl rfl k) ?_
     refine oS (fun t k => XS.iload X133.here hx rfl (hb hby op68_15_70) rfl k) ?_
     show oG _ _ _ _ T133 (mkF m 72 #[oR rw, oR w, oR cs, oI 3, oI 2, .val .null] [.int 2, .ref cs])
     have Vb_v135 := (Vb_v130.keep Kq133 (ninS ncsw (ninS ne_cs_b128_0 nin0)))
     refine oS (own_aaload X133 hx hZ rfl Vb_v135 rfl .null ⟨by decide, by decide⟩ rfl (g := (mkF m 72 #[oR rw, oR w, oR cs, oI 3, oI 2, .val .null] [.int 2, .ref cs])) rfl rfl (hb hby op68_15_72)) ?_
     refine oS (fun t k => XS.astore X133.here hx rfl (hb hby op68_15_73) rfl rfl (l' := #[oR rw, oR w, oR cs, oI 3, oI 2, .val .null]) rfl k) ?_
     refine oS (fun t k => XS.aloadN X133.here hx rfl (hb hby op68_15_75) rfl rfl k) ?_
     refine oS (fun t k => XS.aload X133.here hx rfl (hb hby op68_15_76) rfl rfl k) ?_
     show oG _ _ _ _ T133 (mkF m 78 #[oR rw, oR w, oR cs, oI 3, oI 2, .val .null] [.null, .ref w])
     refine oS (fun t k => XS.ifnonnullNo X133.here hx rfl (hb hby op68_15_78) rfl k) ?_
     refine oS (fun t k => XS.aconstNull X133.here hx rfl (hb hby op68_15_81) k) ?_
     refine oS (fun t k => XS.goto X133.here hx rfl (pc0 := 82) (pc' := 90) rfl (hb hby op68_15_82) (by decide) (by decide) k) ?_
     show oG _ _ _ _ T133 (mkF m 90 #[oR rw, oR w, oR cs, oI 3, oI 2, .val .null] [.null, .ref w])
     have hS136 : own_St cp133 z133 (((N + 4) + 4) + 4) := ⟨sc133, sq133, by omega, by omega⟩
     have hN136 : (((N + 4) + 4) + 4) + 4 ≤ 128 := by omega
     have E_w_v137 := (E_w_v132.keep Kq133)
     refine own_callVX X133 hx hZ (y := oy18) (z := oy18) hown (oW hw 172 rfl) (oW hw 173 rfl) (notFace_of_selects (args := #[]) (mvT hZ (oW hw 175 rfl))) (oW hw 175 rfl) (oW hw 174 rfl) (oW hw 176 rfl) (oW hw 64 rfl) (by decide) 0 E_w_v137 [.null] [] (own_wn l Z a0 hw [] w b133_0 k133_0 cp133 z133 (((N + 4) + 4) + 4) T133.heap n0 (Nat.le_trans Z0 K133.1) E_w_v137 q133_0 q133_1 q133_2 hS136 hN136 g_w g_b133_0 ne_w_b133_0) rfl  (oB rfl) (oB rfl) (own_need IC133 (oB rfl)) (own_need IS133 (oB rfl)) (g := (mkF m 90 #[oR rw, oR w, oR cs, oI 3, oI 2, .val .null] [.null, .ref w])) rfl (by rw [hml]; rfl) own_pd19 rfl rfl (by show 2 * 0 + _ ≤ _; exact Nat.le_of_eq rfl) (hb hby op68_15_90) ?_
     intro T138 v138 L138 xc138 xs138 X138 hQ138
     have E_rw_v139 := (E_rw_v134.keep Kq133)
     obtain ⟨b138_0, k138_0, cp138, z138, rfl, N138q, Kq138, zq138, hT138, hkC138, hkS138, q138_0, q138_1, q138_2⟩ := hQ138
     obtain ⟨sc138, sq138, sl138, su138⟩ := hT138
     have N138 := Fr.app N133 N138q
     have K138 := K133.trans Kq138 (allS (Or.inl (List.mem_of_getElem? (i := 0) rfl)) (allS (own_wz bz_b133_0 (List.mem_of_getElem? (i := 1) rfl)) all0))
     have g_b138_0 : n0 ≤ b138_0 := own_sz2 zq138 g_b133_0 (Nat.le_trans Z0 K133.1)
     have bz_b138_0 : b138_0 = b ∨ h0.size ≤ b138_0 := own_bz zq138 bz_b133_0 K133.1
     have ne_w_b138_0 : w ≠ b138_0 := own_ne2 ne_w_b133_0 E_w_v137.lt zq138
     have ne_rw_b138_0 : rw ≠ b138_0 := own_ne2 ne_rw_b133_0 E_rw_v139.lt zq138
     have ne_cs_b138_0 : cs ≠ b138_0 := own_ne2 ne_cs_b133_0 Vb_v135.lt zq138
     have IC138 := own_acc IC133 hkC138
     have IS138 := own_acc IS133 hkS138
     refine oS (fun t k => XS.pop X138.here hx rfl (hb hby op68_15_93) rfl rfl k) ?_
     refine oS (fun t k => XS.aload X138.here hx rfl (hb hby op68_15_94) rfl rfl k) ?_
     show oG _ _ _ _ T138 (mkF m 96 #[oR rw, oR w, oR cs, oI 3, oI 2, .val .null] [.null])
     refine oS (fun t k => XS.ifnullYes X138.here hx rfl (pc0 := 96) (pc' := 109) rfl (hb hby op68_15_96) rfl (by decide) (by decide) k) ?_
     show oG _ _ _ _ T138 (mkF m 109 #[oR rw, oR w, oR cs, oI 3, oI 2, .val .null] [])
     refine oS (fun t k => XS.iinc X138.here hx rfl (hb hby op68_15_109) rfl (l' := #[oR rw, oR w, oR cs, oI 3, oI 3, .val .null]) rfl k) ?_
     refine oS (fun t k => XS.goto X138.here hx rfl (pc0 := 112) (pc' := 63) rfl (hb hby op68_15_112) (by decide) (by decide) k) ?_
     refine oS (fun t k => XS.iload X138.here hx rfl (hb hby op68_15_63) rfl k) ?_
     refine oS (fun t k => XS.iloadN X138.here hx rfl (hb hby op68_15_65) rfl k) ?_
     show oG _ _ _ _ T138 (mkF m 66 #[oR rw, oR w, oR cs, oI 3, oI 3, .val .null] [.int 3, .int 3])
     refine oS (fun t k => XS.icmpYes X138.here hx rfl (pc0 := 66) (pc' := 115) rfl (hb hby op68_15_66) rfl (flt (show ¬ ((3 : Int32) < (3 : Int32)) from (by decide))).2.1 (by decide) (by decide) k) ?_
     show oG _ _ _ _ T138 (mkF m 115 #[oR rw, oR w, oR cs, oI 3, oI 3, .val .null] [])
     have hSf : own_St cp138 z138 (N + (own_d dl + 4 + 4 * nn.toInt)) := ⟨sc138, by omega, by omega, by omega⟩
     exact own_retVX X138 hx hlk hrt (hb hby op68_15_115) (by exact ⟨b138_0, k138_0, cp138, z138, rfl, N138, K138, bz_b138_0, hSf, (own_fin IC138 (oB rfl)), (own_fin IS138 (oB rfl)), q138_0, q138_1, q138_2⟩)
   · refine oS (fun t k => XS.ifNo X117.here hx rfl (hb hby op68_15_6) rfl ((if0 _ _).trans (feq (show ¬ ((lcmpW dl (0 : Int64)) = (0 : Int32)) from hc6_118)).1) k) ?_
     show oG _ _ _ _ T117 (mkF m 9 #[oR rw, oR w, .unset, .unset, .unset, .unset] [])
     have dd := own_d1 hc6_118
     show oG _ _ _ _ T117 (mkF m 9 #[oR rw, oR w, .unset, .unset, .unset, .unset] [])
     refine oS (fun t k => XS.aloadN X117.here hx rfl (hb hby op68_15_9) rfl rfl k) ?_
     refine oS (fun t k => XS.iconst X117.here hx rfl (hb hby op68_15_10) k) ?_
     show oG _ _ _ _ T117 (mkF m 11 #[oR rw, oR w, .unset, .unset, .unset, .unset] [(.int (-1 : Int32)), .ref w])
     have hS140 : own_St cap sz N := ⟨sc0, sq0, by omega, by omega⟩
     have hN140 : N + 4 ≤ 128 := by omega
     refine own_callVX X117 hx hZ (y := oy16) (z := oy16) hown (oW hw 166 rfl) (oW hw 131 rfl) (notFace_of_selects (args := #[]) (mvT hZ (oW hw 133 rfl))) (oW hw 133 rfl) (oW hw 132 rfl) (oW hw 134 rfl) (oW hw 64 rfl) (by decide) 0 E_w [(.int (-1 : Int32))] [] (own_wi l Z a0 hw [] w b kb cap sz N (-1 : Int32) h0 n0 Z0 E_w F_w_size F_w_bytes V_b hS140 hN140 g_w g_b nwb) e117  (oB rfl) (oB rfl) (own_need IC0 (oB rfl)) (own_need IS0 (oB rfl)) (g := (mkF m 11 #[oR rw, oR w, .unset, .unset, .unset, .unset] [(.int (-1 : Int32)), .ref w])) rfl (by rw [hml]; rfl) own_pd15 rfl rfl (by show 2 * 0 + _ ≤ _; exact Nat.le_of_eq rfl) (hb hby op68_15_11) ?_
     intro T141 v141 L141 xc141 xs141 X141 hQ141
     obtain ⟨b141_0, k141_0, cp141, z141, rfl, N141q, Kq141, zq141, hT141, hkC141, hkS141, q141_0, q141_1, q141_2⟩ := hQ141
     obtain ⟨sc141, sq141, sl141, su141⟩ := hT141
     have N141 := Fr.app N0 N141q
     have K141 := (Keep.refl h0 [w, b]).trans Kq141 (allS (Or.inl (List.mem_of_getElem? (i := 0) rfl)) (allS (Or.inl (List.mem_of_getElem? (i := 1) rfl)) all0))
     have g_b141_0 : n0 ≤ b141_0 := own_sz2 zq141 g_b Z0
     have bz_b141_0 : b141_0 = b ∨ h0.size ≤ b141_0 := own_bz zq141 bz_b (Keep.refl h0 [w, b]).1
     have ne_w_b141_0 : w ≠ b141_0 := own_ne2 nwb E_w.lt zq141
     have ne_rw_b141_0 : rw ≠ b141_0 := own_ne2 nrwb E_rw.lt zq141
     have ne_cs_b141_0 : cs ≠ b141_0 := own_ne2 ncsb Vb.lt zq141
     have IC141 := own_acc IC0 hkC141
     have IS141 := own_acc IS0 hkS141
     refine oS (fun t k => XS.aloadN X141.here hx rfl (hb hby op68_15_14) rfl rfl k) ?_
     show oG _ _ _ _ T141 (mkF m 15 #[oR rw, oR w, .unset, .unset, .unset, .unset] [.ref rw, .ref w])
     have F_rw_deletedAt_v143 := (F_rw_deletedAt.keep Kq141 (ninS nrww (ninS nrwb nin0)))
     obtain ⟨T142, X142, e142, st142⟩ := getF X141 hx hZ hown (host := "") (Or.inl (oW hw 51 rfl)) Via.refl rfl F_rw_deletedAt_v143 (g := (mkF m 15 #[oR rw, oR w, .unset, .unset, .unset, .unset] [.ref rw, .ref w])) rfl rfl (hb hby op68_15_15)
     refine oS st142 ?_
     show oG _ _ _ _ T142 (mkF m 18 #[oR rw, oR w, .unset, .unset, .unset, .unset] [(.long dl), .ref w])
     have hS144 : own_St cp141 z141 (N + 4) := ⟨sc141, sq141, by omega, by omega⟩
     have hN144 : (N + 4) + 8 ≤ 128 := by omega
     have E_w_v145 := (E_w.keep Kq141)
     refine own_callVX X142 hx hZ (y := oy17) (z := oy17) hown (oW hw 167 rfl) (oW hw 168 rfl) (notFace_of_selects (args := #[]) (mvT hZ (oW hw 170 rfl))) (oW hw 170 rfl) (oW hw 169 rfl) (oW hw 171 rfl) (oW hw 64 rfl) (by decide) 0 E_w_v145 [(.long dl)] [] (own_wl l Z a0 hw [] w b141_0 k141_0 cp141 z141 (N + 4) dl T141.heap n0 (Nat.le_trans Z0 K141.1) E_w_v145 q141_0 q141_1 q141_2 hS144 hN144 g_w g_b141_0 ne_w_b141_0) e142  (oB rfl) (oB rfl) (own_need IC141 (oB rfl)) (own_need IS141 (oB rfl)) (g := (mkF m 18 #[oR rw, oR w, .unset, .unset, .unset, .unset] [(.long dl), .ref w])) rfl (by rw [hml]; rfl) own_pd20 rfl rfl (by show 2 * 0 + _ ≤ _; exact Nat.le_of_eq rfl) (hb hby op68_15_18) ?_
     intro T146 v146 L146 xc146 xs146 X146 hQ146
     have E_rw_v147 := (E_rw.keep Kq141)
     have Vb_v148 := (Vb.keep Kq141 (ninS ncsw (ninS ncsb nin0)))
     obtain ⟨b146_0, k146_0, cp146, z146, rfl, N146q, Kq146, zq146, hT146, hkC146, hkS146, q146_0, q146_1, q146_2⟩ := hQ146
     obtain ⟨sc146, sq146, sl146, su146⟩ := hT146
     have N146 := Fr.app N141 N146q
     have K146 := K141.trans Kq146 (allS (Or.inl (List.mem_of_getElem? (i := 0) rfl)) (allS (own_wz bz_b141_0 (List.mem_of_getElem? (i := 1) rfl)) all0))
     have g_b146_0 : n0 ≤ b146_0 := own_sz2 zq146 g_b141_0 (Nat.le_trans Z0 K141.1)
     have bz_b146_0 : b146_0 = b ∨ h0.size ≤ b146_0 := own_bz zq146 bz_b141_0 K141.1
     have ne_w_b146_0 : w ≠ b146_0 := own_ne2 ne_w_b141_0 E_w_v145.lt zq146
     have ne_rw_b146_0 : rw ≠ b146_0 := own_ne2 ne_rw_b141_0 E_rw_v147.lt zq146
     have ne_cs_b146_0 : cs ≠ b146_0 := own_ne2 ne_cs_b141_0 Vb_v148.lt zq146
     have IC146 := own_acc IC141 hkC146
     have IS146 := own_acc IS141 hkS146
     refine oS (fun t k => XS.pop X146.here hx rfl (hb hby op68_15_21) rfl rfl k) ?_
     show oG _ _ _ _ T146 (mkF m 22 #[oR rw, oR w, .unset, .unset, .unset, .unset] [])
     refine oS (fun t k => XS.aloadN X146.here hx rfl (hb hby op68_15_22) rfl rfl k) ?_
     show oG _ _ _ _ T146 (mkF m 23 #[oR rw, oR w, .unset, .unset, .unset, .unset] [.ref rw])
     have F_rw_movedFrom_v150 := ((F_rw_movedFrom.keep Kq141 (ninS nrww (ninS nrwb nin0))).keep Kq146 (ninS nrww (ninS ne_rw_b141_0 nin0)))
     obtain ⟨T149, X149, e149, st149⟩ := getF X146 hx hZ hown (host := "") (Or.inl (oW hw 53 rfl)) Via.refl rfl F_rw_movedFrom_v150 (g := (mkF m 23 #[oR rw, oR w, .unset, .unset, .unset, .unset] [.ref rw])) rfl rfl (hb hby op68_15_23)
     refine oS st149 ?_
     show oG _ _ _ _ T149 (mkF m 26 #[oR rw, oR w, .unset, .unset, .unset, .unset] [.null])
     refine oS (fun t k => XS.ifnullYes X149.here hx rfl (pc0 := 26) (pc' := 42) rfl (hb hby op68_15_26) rfl (by decide) (by decide) k) ?_
     refine oS (fun t k => XS.aloadN X149.here hx rfl (hb hby op68_15_42) rfl rfl k) ?_
     refine oS (fun t k => XS.aloadN X149.here hx rfl (hb hby op68_15_43) rfl rfl k) ?_
     show oG _ _ _ _ T149 (mkF m 44 #[oR rw, oR w, .unset, .unset, .unset, .unset] [.ref rw, .ref w])
     have F_rw_cells_v152 := ((F_rw_cells.keep Kq141 (ninS nrww (ninS nrwb nin0))).keep Kq146 (ninS nrww (ninS ne_rw_b141_0 nin0)))
     obtain ⟨T151, X151, e151, st151⟩ := getF X149 hx hZ hown (host := "") (Or.inl (oW hw 49 rfl)) Via.refl e149 F_rw_cells_v152 (g := (mkF m 44 #[oR rw, oR w, .unset, .unset, .unset, .unset] [.ref rw, .ref w])) rfl rfl (hb hby op68_15_44)
     refine oS st151 ?_
     show oG _ _ _ _ T151 (mkF m 47 #[oR rw, oR w, .unset, .unset, .unset, .unset] [.ref cs, .ref w])
     have Vb_v153 := (Vb_v148.keep Kq146 (ninS ncsw (ninS ne_cs_b141_0 nin0)))
     refine oS (own_alen X151 hx hZ e151 Vb_v153 (g := (mkF m 47 #[oR rw, oR w, .unset, .unset, .unset, .unset] [.ref cs, .ref w])) rfl rfl (hb hby op68_15_47)) ?_
     show oG _ _ _ _ T151 (mkF m 48 #[oR rw, oR w, .unset, .unset, .unset, .unset] [.int 3, .ref w])
     have hS154 : own_St cp146 z146 ((N + 4) + 8) := ⟨sc146, sq146, by omega, by omega⟩
     have hN154 : ((N + 4) + 8) + 4 ≤ 128 := by omega
     have E_w_v155 := (E_w_v145.keep Kq146)
     refine own_callVX X151 hx hZ (y := oy16) (z := oy16) hown (oW hw 166 rfl) (oW hw 131 rfl) (notFace_of_selects (args := #[]) (mvT hZ (oW hw 133 rfl))) (oW hw 133 rfl) (oW hw 132 rfl) (oW hw 134 rfl) (oW hw 64 rfl) (by decide) 0 E_w_v155 [.int 3] [] (own_wi l Z a0 hw [] w b146_0 k146_0 cp146 z146 ((N + 4) + 8) 3 T146.heap n0 (Nat.le_trans Z0 K146.1) E_w_v155 q146_0 q146_1 q146_2 hS154 hN154 g_w g_b146_0 ne_w_b146_0) e151  (oB rfl) (oB rfl) (own_need IC146 (oB rfl)) (own_need IS146 (oB rfl)) (g := (mkF m 48 #[oR rw, oR w, .unset, .unset, .unset, .unset] [.int 3, .ref w])) rfl (by rw [hml]; rfl) own_pd15 rfl rfl (by show 2 * 0 + _ ≤ _; exact Nat.le_of_eq rfl) (hb hby op68_15_48) ?_
     intro T156 v156 L156 xc156 xs156 X156 hQ156
     have E_rw_v157 := (E_rw_v147.keep Kq146)
     obtain ⟨b156_0, k156_0, cp156, z156, rfl, N156q, Kq156, zq156, hT156, hkC156, hkS156, q156_0, q156_1, q156_2⟩ := hQ156
     obtain ⟨sc156, sq156, sl156, su156⟩ := hT156
     have N156 := Fr.app N146 N156q
     have K156 := K146.trans Kq156 (allS (Or.inl (List.mem_of_getElem? (i := 0) rfl)) (allS (own_wz bz_b146_0 (List.mem_of_getElem? (i := 1) rfl)) all0))
     have g_b156_0 : n0 ≤ b156_0 := own_sz2 zq156 g_b146_0 (Nat.le_trans Z0 K146.1)
     have bz_b156_0 : b156_0 = b ∨ h0.size ≤ b156_0 := own_bz zq156 bz_b146_0 K146.1
     have ne_w_b156_0 : w ≠ b156_0 := own_ne2 ne_w_b146_0 E_w_v155.lt zq156
     have ne_rw_b156_0 : rw ≠ b156_0 := own_ne2 ne_rw_b146_0 E_rw_v157.lt zq156
     have ne_cs_b156_0 : cs ≠ b156_0 := own_ne2 ne_cs_b146_0 Vb_v153.lt zq156
     have IC156 := own_acc IC146 hkC156
     have IS156 := own_acc IS146 hkS156
     refine oS (fun t k => XS.pop X156.here hx rfl (hb hby op68_15_51) rfl rfl k) ?_
     refine oS (fun t k => XS.aloadN X156.here hx rfl (hb hby op68_15_52) rfl rfl k) ?_
     show oG _ _ _ _ T156 (mkF m 53 #[oR rw, oR w, .unset, .unset, .unset, .unset] [.ref rw])
     have F_rw_cells_v159 := (F_rw_cells_v152.keep Kq156 (ninS nrww (ninS ne_rw_b146_0 nin0)))
     obtain ⟨T158, X158, e158, st158⟩ := getF X156 hx hZ hown (host := "") (Or.inl (oW hw 49 rfl)) Via.refl rfl F_rw_cells_v159 (g := (mkF m 53 #[oR rw, oR w, .unset, .unset, .unset, .unset] [.ref rw])) rfl rfl (hb hby op68_15_53)
     refine oS st158 ?_
     refine oS (fun t k => XS.astoreN X158.here hx rfl (hb hby op68_15_56) rfl rfl (l' := #[oR rw, oR w, oR cs, .unset, .unset, .unset]) rfl k) ?_
     refine oS (fun t k => XS.aloadN X158.here hx rfl (hb hby op68_15_57) rfl rfl k) ?_
     show oG _ _ _ _ T158 (mkF m 58 #[oR rw, oR w, oR cs, .unset, .unset, .unset] [.ref cs])
     have Vb_v160 := (Vb_v153.keep Kq156 (ninS ncsw (ninS ne_cs_b146_0 nin0)))
     refine oS (own_alen X158 hx hZ e158 Vb_v160 (g := (mkF m 58 #[oR rw, oR w, oR cs, .unset, .unset, .unset] [.ref cs])) rfl rfl (hb hby op68_15_58)) ?_
     refine oS (fun t k => XS.istoreN X158.here hx rfl (hb hby op68_15_59) rfl (l' := #[oR rw, oR w, oR cs, oI 3, .unset, .unset]) rfl k) ?_
     refine oS (fun t k => XS.iconst X158.here hx rfl (hb hby op68_15_60) k) ?_
     refine oS (fun t k => XS.istore X158.here hx rfl (hb hby op68_15_61) rfl (l' := #[oR rw, oR w, oR cs, oI 3, oI 0, .unset]) rfl k) ?_
     refine oS (fun t k => XS.iload X158.here hx rfl (hb hby op68_15_63) rfl k) ?_
     refine oS (fun t k => XS.iloadN X158.here hx rfl (hb hby op68_15_65) rfl k) ?_
     show oG _ _ _ _ T158 (mkF m 66 #[oR rw, oR w, oR cs, oI 3, oI 0, .unset] [.int 3, .int 0])
     refine oS (fun t k => XS.icmpNo X158.here hx rfl (hb hby op68_15_66) rfl (tlt (show (0 : Int32) < (3 : Int32) from (by decide))).2.1 k) ?_
     refine oS (fun t k => XS.aloadN X158.here hx rfl (hb hby op68_15_69) rfl rfl k) ?_
     refine oS (fun t k => XS.iload X158.here hx rfl (hb hby op68_15_70) rfl k) ?_
     show oG _ _ _ _ T158 (mkF m 72 #[oR rw, oR w, oR cs, oI 3, oI 0, .unset] [.int 0, .ref cs])
     refine oS (own_aaload X158 hx hZ e158 Vb_v160 rfl .null ⟨by decide, by decide⟩ rfl (g := (mkF m 72 #[oR rw, oR w, oR cs, oI 3, oI 0, .unset] [.int 0, .ref cs])) rfl rfl (hb hby op68_15_72)) ?_
     refine oS (fun t k => XS.astore X158.here hx rfl (hb hby op68_15_73) rfl rfl (l' := #[oR rw, oR w, oR cs, oI 3, oI 0, .val .null]) rfl k) ?_
     refine oS (fun t k => XS.aloadN X158.here hx rfl (hb hby op68_15_75) rfl rfl k) ?_
     refine oS (fun t k => XS.aload X158.here hx rfl (hb hby op68_15_76) rfl rfl k) ?_
     show oG _ _ _ _ T158 (mkF m 78 #[oR rw, oR w, oR cs, oI 3, oI 0, .val .null] [.null, .ref w])
     refine oS (fun t k => XS.ifnonnullNo X158.here hx rfl (hb hby op68_15_78) rfl k) ?_
     refine oS (fun t k => XS.aconstNull X158.here hx rfl (hb hby op68_15_81) k) ?_
     refine oS (fun t k => XS.goto X158.here hx rfl (pc0 := 82) (pc' := 90) rfl (hb hby op68_15_82) (by decide) (by decide) k) ?_
     show oG _ _ _ _ T158 (mkF m 90 #[oR rw, oR w, oR cs, oI 3, oI 0, .val .null] [.null, .ref w])
     have hS161 : own_St cp156 z156 (((N + 4) + 8) + 4) := ⟨sc156, sq156, by omega, by omega⟩
     have hN161 : (((N + 4) + 8) + 4) + 4 ≤ 128 := by omega
     have E_w_v162 := (E_w_v155.keep Kq156)
     refine own_callVX X158 hx hZ (y := oy18) (z := oy18) hown (oW hw 172 rfl) (oW hw 173 rfl) (notFace_of_selects (args := #[]) (mvT hZ (oW hw 175 rfl))) (oW hw 175 rfl) (oW hw 174 rfl) (oW hw 176 rfl) (oW hw 64 rfl) (by decide) 0 E_w_v162 [.null] [] (own_wn l Z a0 hw [] w b156_0 k156_0 cp156 z156 (((N + 4) + 8) + 4) T156.heap n0 (Nat.le_trans Z0 K156.1) E_w_v162 q156_0 q156_1 q156_2 hS161 hN161 g_w g_b156_0 ne_w_b156_0) e158  (oB rfl) (oB rfl) (own_need IC156 (oB rfl)) (own_need IS156 (oB rfl)) (g := (mkF m 90 #[oR rw, oR w, oR cs, oI 3, oI 0, .val .null] [.null, .ref w])) rfl (by rw [hml]; rfl) own_pd19 rfl rfl (by show 2 * 0 + _ ≤ _; exact Nat.le_of_eq rfl) (hb hby op68_15_90) ?_
     intro T163 v163 L163 xc163 xs163 X163 hQ163
     have E_rw_v164 := (E_rw_v157.keep Kq156)
     obtain ⟨b163_0, k163_0, cp163, z163, rfl, N163q, Kq163, zq163, hT163, hkC163, hkS163, q163_0, q163_1, q163_2⟩ := hQ163
     obtain ⟨sc163, sq163, sl163, su163⟩ := hT163
     have N163 := Fr.app N156 N163q
     have K163 := K156.trans Kq163 (allS (Or.inl (List.mem_of_getElem? (i := 0) rfl)) (allS (own_wz bz_b156_0 (List.mem_of_getElem? (i := 1) rfl)) all0))
     have g_b163_0 : n0 ≤ b163_0 := own_sz2 zq163 g_b156_0 (Nat.le_trans Z0 K156.1)
     have bz_b163_0 : b163_0 = b ∨ h0.size ≤ b163_0 := own_bz zq163 bz_b156_0 K156.1
     have ne_w_b163_0 : w ≠ b163_0 := own_ne2 ne_w_b156_0 E_w_v162.lt zq163
     have ne_rw_b163_0 : rw ≠ b163_0 := own_ne2 ne_rw_b156_0 E_rw_v164.lt zq163
     have ne_cs_b163_0 : cs ≠ b163_0 := own_ne2 ne_cs_b156_0 Vb_v160.lt zq163
     have IC163 := own_acc IC156 hkC163
     have IS163 := own_acc IS156 hkS163
     refine oS (fun t k => XS.pop X163.here hx rfl (hb hby op68_15_93) rfl rfl k) ?_
     refine oS (fun t k => XS.aload X163.here hx rfl (hb hby op68_15_94) rfl rfl k) ?_
     show oG _ _ _ _ T163 (mkF m 96 #[oR rw, oR w, oR cs, oI 3, oI 0, .val .null] [.null])
     refine oS (fun t k => XS.ifnullYes X163.here hx rfl (pc0 := 96) (pc' := 109) rfl (hb hby op68_15_96) rfl (by decide) (by decide) k) ?_
     show oG _ _ _ _ T163 (mkF m 109 #[oR rw, oR w, oR cs, oI 3, oI 0, .val .null] [])
     refine oS (fun t k => XS.iinc X163.here hx rfl (hb hby op68_15_109) rfl (l' := #[oR rw, oR w, oR cs, oI 3, oI 1, .val .null]) rfl k) ?_
     refine oS (fun t k => XS.goto X163.here hx rfl (pc0 := 112) (pc' := 63) rfl (hb hby op68_15_112) (by decide) (by decide) k) ?_
     refine oS (fun t k => XS.iload X163.here hx rfl (hb hby op68_15_63) rfl k) ?_
     refine oS (fun t k => XS.iloadN X163.here hx rfl (hb hby op68_15_65) rfl k) ?_
     show oG _ _ _ _ T163 (mkF m 66 #[oR rw, oR w, oR cs, oI 3, oI 1, .val .null] [.int 3, .int 1])
     refine oS (fun t k => XS.icmpNo X163.here hx rfl (hb hby op68_15_66) rfl (tlt (show (1 : Int32) < (3 : Int32) from (by decide))).2.1 k) ?_
     refine oS (fun t k => XS.aloadN X163.here hx rfl (hb hby op68_15_69) rfl rfl k) ?_
     refine oS (fun t k => XS.iload X163.here hx rfl (hb hby op68_15_70) rfl k) ?_
     show oG _ _ _ _ T163 (mkF m 72 #[oR rw, oR w, oR cs, oI 3, oI 1, .val .null] [.int 1, .ref cs])
     have Vb_v165 := (Vb_v160.keep Kq163 (ninS ncsw (ninS ne_cs_b156_0 nin0)))
     refine oS (own_aaload X163 hx hZ rfl Vb_v165 rfl .null ⟨by decide, by decide⟩ rfl (g := (mkF m 72 #[oR rw, oR w, oR cs, oI 3, oI 1, .val .null] [.int 1, .ref cs])) rfl rfl (hb hby op68_15_72)) ?_
     refine oS (fun t k => XS.astore X163.here hx rfl (hb hby op68_15_73) rfl rfl (l' := #[oR rw, oR w, oR cs, oI 3, oI 1, .val .null]) rfl k) ?_
     refine oS (fun t k => XS.aloadN X163.here hx rfl (hb hby op68_15_75) rfl rfl k) ?_
     refine oS (fun t k => XS.aload X163.here hx rfl (hb hby op68_15_76) rfl rfl k) ?_
     show oG _ _ _ _ T163 (mkF m 78 #[oR rw, oR w, oR cs, oI 3, oI 1, .val .null] [.null, .ref w])
     refine oS (fun t k => XS.ifnonnullNo X163.here hx rfl (hb hby op68_15_78) rfl k) ?_
     refine oS (fun t k => XS.aconstNull X163.here hx rfl (hb hby op68_15_81) k) ?_
     refine oS (fun t k => XS.goto X163.here hx rfl (pc0 := 82) (pc' := 90) rfl (hb hby op68_15_82) (by decide) (by decide) k) ?_
     show oG _ _ _ _ T163 (mkF m 90 #[oR rw, oR w, oR cs, oI 3, oI 1, .val .null] [.null, .ref w])
     have hS166 : own_St cp163 z163 ((((N + 4) + 8) + 4) + 4) := ⟨sc163, sq163, by omega, by omega⟩
     have hN166 : ((((N + 4) + 8) + 4) + 4) + 4 ≤ 128 := by omega
     have E_w_v167 := (E_w_v162.keep Kq163)
     refine own_callVX X163 hx hZ (y := oy18) (z := oy18) hown (oW hw 172 rfl) (oW hw 173 rfl) (notFace_of_selects (args := #[]) (mvT hZ (oW hw 175 rfl))) (oW hw 175 rfl) (oW hw 174 rfl) (oW hw 176 rfl) (oW hw 64 rfl) (by decide) 0 E_w_v167 [.null] [] (own_wn l Z a0 hw [] w b163_0 k163_0 cp163 z163 ((((N + 4) + 8) + 4) + 4) T163.heap n0 (Nat.le_trans Z0 K163.1) E_w_v167 q163_0 q163_1 q163_2 hS166 hN166 g_w g_b163_0 ne_w_b163_0) rfl  (oB rfl) (oB rfl) (own_need IC163 (oB rfl)) (own_need IS163 (oB rfl)) (g := (mkF m 90 #[oR rw, oR w, oR cs, oI 3, oI 1, .val .null] [.null, .ref w])) rfl (by rw [hml]; rfl) own_pd19 rfl rfl (by show 2 * 0 + _ ≤ _; exact Nat.le_of_eq rfl) (hb hby op68_15_90) ?_
     intro T168 v168 L168 xc168 xs168 X168 hQ168
     have E_rw_v169 := (E_rw_v164.keep Kq163)
     obtain ⟨b168_0, k168_0, cp168, z168, rfl, N168q, Kq168, zq168, hT168, hkC168, hkS168, q168_0, q168_1, q168_2⟩ := hQ168
     obtain ⟨sc168, sq168, sl168, su168⟩ := hT168
     have N168 := Fr.app N163 N168q
     have K168 := K163.trans Kq168 (allS (Or.inl (List.mem_of_getElem? (i := 0) rfl)) (allS (own_wz bz_b163_0 (List.mem_of_getElem? (i := 1) rfl)) all0))
     have g_b168_0 : n0 ≤ b168_0 := own_sz2 zq168 g_b163_0 (Nat.le_trans Z0 K163.1)
     have bz_b168_0 : b168_0 = b ∨ h0.size ≤ b168_0 := own_bz zq168 bz_b163_0 K163.1
     have ne_w_b168_0 : w ≠ b168_0 := own_ne2 ne_w_b163_0 E_w_v167.lt zq168
     have ne_rw_b168_0 : rw ≠ b168_0 := own_ne2 ne_rw_b163_0 E_rw_v169.lt zq168
     have ne_cs_b168_0 : cs ≠ b168_0 := own_ne2 ne_cs_b163_0 Vb_v165.lt zq168
     have IC168 := own_acc IC163 hkC168
     have IS168 := own_acc IS163 hkS168
     refine oS (fun t k => XS.pop X168.here hx rfl (hb hby op68_15_93) rfl rfl k) ?_
     refine oS (fun t k => XS.aload X168.here hx rfl (hb hby op68_15_94) rfl rfl k) ?_
     show oG _ _ _ _ T168 (mkF m 96 #[oR rw, oR w, oR cs, oI 3, oI 1, .val .null] [.null])
     refine oS (fun t k => XS.ifnullYes X168.here hx rfl (pc0 := 96) (pc' := 109) rfl (hb hby op68_15_96) rfl (by decide) (by decide) k) ?_
     show oG _ _ _ _ T168 (mkF m 109 #[oR rw, oR w, oR cs, oI 3, oI 1, .val .null] [])
     refine oS (fun t k => XS.iinc X168.here hx rfl (hb hby op68_15_109) rfl (l' := #[oR rw, oR w, oR cs, oI 3, oI 2, .val .null]) rfl k) ?_
     refine oS (fun t k => XS.goto X168.here hx rfl (pc0 := 112) (pc' := 63) rfl (hb hby op68_15_112) (by decide) (by decide) k) ?_
     refine oS (fun t k => XS.iload X168.here hx rfl (hb hby op68_15_63) rfl k) ?_
     refine oS (fun t k => XS.iloadN X168.here hx rfl (hb hby op68_15_65) rfl k) ?_
     show oG _ _ _ _ T168 (mkF m 66 #[oR rw, oR w, oR cs, oI 3, oI 2, .val .null] [.int 3, .int 2])
     refine oS (fun t k => XS.icmpNo X168.here hx rfl (hb hby op68_15_66) rfl (tlt (show (2 : Int32) < (3 : Int32) from (by decide))).2.1 k) ?_
     refine oS (fun t k => XS.aloadN X168.here hx rfl (hb hby op68_15_69) rfl rfl k) ?_
     refine oS (fun t k => XS.iload X168.here hx rfl (hb hby op68_15_70) rfl k) ?_
     show oG _ _ _ _ T168 (mkF m 72 #[oR rw, oR w, oR cs, oI 3, oI 2, .val .null] [.int 2, .ref cs])
     have Vb_v170 := (Vb_v165.keep Kq168 (ninS ncsw (ninS ne_cs_b163_0 nin0)))
     refine oS (own_aaload X168 hx hZ rfl Vb_v170 rfl .null ⟨by decide, by decide⟩ rfl (g := (mkF m 72 #[oR rw, oR w, oR cs, oI 3, oI 2, .val .null] [.int 2, .ref cs])) rfl rfl (hb hby op68_15_72)) ?_
     refine oS (fun t k => XS.astore X168.here hx rfl (hb hby op68_15_73) rfl rfl (l' := #[oR rw, oR w, oR cs, oI 3, oI 2, .val .null]) rfl k) ?_
     refine oS (fun t k => XS.aloadN X168.here hx rfl (hb hby op68_15_75) rfl rfl k) ?_
     refine oS (fun t k => XS.aload X168.here hx rfl (hb hby op68_15_76) rfl rfl k) ?_
     show oG _ _ _ _ T168 (mkF m 78 #[oR rw, oR w, oR cs, oI 3, oI 2, .val .null] [.null, .ref w])
     refine oS (fun t k => XS.ifnonnullNo X168.here hx rfl (hb hby op68_15_78) rfl k) ?_
     refine oS (fun t k => XS.aconstNull X168.here hx rfl (hb hby op68_15_81) k) ?_
     refine oS (fun t k => XS.goto X168.here hx rfl (pc0 := 82) (pc' := 90) rfl (hb hby op68_15_82) (by decide) (by decide) k) ?_
     show oG _ _ _ _ T168 (mkF m 90 #[oR rw, oR w, oR cs, oI 3, oI 2, .val .null] [.null, .ref w])
     have hS171 : own_St cp168 z168 (((((N + 4) + 8) + 4) + 4) + 4) := ⟨sc168, sq168, by omega, by omega⟩
     have hN171 : (((((N + 4) + 8) + 4) + 4) + 4) + 4 ≤ 128 := by omega
     have E_w_v172 := (E_w_v167.keep Kq168)
     refine own_callVX X168 hx hZ (y := oy18) (z := oy18) hown (oW hw 172 rfl) (oW hw 173 rfl) (notFace_of_selects (args := #[]) (mvT hZ (oW hw 175 rfl))) (oW hw 175 rfl) (oW hw 174 rfl) (oW hw 176 rfl) (oW hw 64 rfl) (by decide) 0 E_w_v172 [.null] [] (own_wn l Z a0 hw [] w b168_0 k168_0 cp168 z168 (((((N + 4) + 8) + 4) + 4) + 4) T168.heap n0 (Nat.le_trans Z0 K168.1) E_w_v172 q168_0 q168_1 q168_2 hS171 hN171 g_w g_b168_0 ne_w_b168_0) rfl  (oB rfl) (oB rfl) (own_need IC168 (oB rfl)) (own_need IS168 (oB rfl)) (g := (mkF m 90 #[oR rw, oR w, oR cs, oI 3, oI 2, .val .null] [.null, .ref w])) rfl (by rw [hml]; rfl) own_pd19 rfl rfl (by show 2 * 0 + _ ≤ _; exact Nat.le_of_eq rfl) (hb hby op68_15_90) ?_
     intro T173 v173 L173 xc173 xs173 X173 hQ173
     have E_rw_v174 := (E_rw_v169.keep Kq168)
     obtain ⟨b173_0, k173_0, cp173, z173, rfl, N173q, Kq173, zq173, hT173, hkC173, hkS173, q173_0, q173_1, q173_2⟩ := hQ173
     obtain ⟨sc173, sq173, sl173, su173⟩ := hT173
     have N173 := Fr.app N168 N173q
     have K173 := K168.trans Kq173 (allS (Or.inl (List.mem_of_getElem? (i := 0) rfl)) (allS (own_wz bz_b168_0 (List.mem_of_getElem? (i := 1) rfl)) all0))
     have g_b173_0 : n0 ≤ b173_0 := own_sz2 zq173 g_b168_0 (Nat.le_trans Z0 K168.1)
     have bz_b173_0 : b173_0 = b ∨ h0.size ≤ b173_0 := own_bz zq173 bz_b168_0 K168.1
     have ne_w_b173_0 : w ≠ b173_0 := own_ne2 ne_w_b168_0 E_w_v172.lt zq173
     have ne_rw_b173_0 : rw ≠ b173_0 := own_ne2 ne_rw_b168_0 E_rw_v174.lt zq173
     have ne_cs_b173_0 : cs ≠ b173_0 := own_ne2 ne_cs_b168_0 Vb_v170.lt zq173
     have IC173 := own_acc IC168 hkC173
     have IS173 := own_acc IS168 hkS173
     refine oS (fun t k => XS.pop X173.here hx rfl (hb hby op68_15_93) rfl rfl k) ?_
     refine oS (fun t k => XS.aload X173.here hx rfl (hb hby op68_15_94) rfl rfl k) ?_
     show oG _ _ _ _ T173 (mkF m 96 #[oR rw, oR w, oR cs, oI 3, oI 2, .val .null] [.null])
     refine oS (fun t k => XS.ifnullYes X173.here hx rfl (pc0 := 96) (pc' := 109) rfl (hb hby op68_15_96) rfl (by decide) (by decide) k) ?_
     show oG _ _ _ _ T173 (mkF m 109 #[oR rw, oR w, oR cs, oI 3, oI 2, .val .null] [])
     refine oS (fun t k => XS.iinc X173.here hx rfl (hb hby op68_15_109) rfl (l' := #[oR rw, oR w, oR cs, oI 3, oI 3, .val .null]) rfl k) ?_
     refine oS (fun t k => XS.goto X173.here hx rfl (pc0 := 112) (pc' := 63) rfl (hb hby op68_15_112) (by decide) (by decide) k) ?_
     refine oS (fun t k => XS.iload X173.here hx rfl (hb hby op68_15_63) rfl k) ?_
     refine oS (fun t k => XS.iloadN X173.here hx rfl (hb hby op68_15_65) rfl k) ?_
     show oG _ _ _ _ T173 (mkF m 66 #[oR rw, oR w, oR cs, oI 3, oI 3, .val .null] [.int 3, .int 3])
     refine oS (fun t k => XS.icmpYes X173.here hx rfl (pc0 := 66) (pc' := 115) rfl (hb hby op68_15_66) rfl (flt (show ¬ ((3 : Int32) < (3 : Int32)) from (by decide))).2.1 (by decide) (by decide) k) ?_
     show oG _ _ _ _ T173 (mkF m 115 #[oR rw, oR w, oR cs, oI 3, oI 3, .val .null] [])
     have hSf : own_St cp173 z173 (N + (own_d dl + 4 + 4 * nn.toInt)) := ⟨sc173, by omega, by omega, by omega⟩
     exact own_retVX X173 hx hlk hrt (hb hby op68_15_115) (by exact ⟨b173_0, k173_0, cp173, z173, rfl, N173, K173, bz_b173_0, hSf, (own_fin IC173 (oB rfl)), (own_fin IS173 (oB rfl)), q173_0, q173_1, q173_2⟩)
theorem own_ef25 (m : MethodId) (x0 : Addr) (x1 : Addr) : entryFrame m #[.ref x0, .ref x1] 2 = mkF m 0 #[.val (.ref x0), .val (.ref x1)] [] := by first | (simp [entryFrame, mkF, argsToLocals, Value.category]; done) | rfl
theorem op68_14_0 : decode prog_68_method_14_code 0 = .ok (.aload_n 0, 1) := by decide +kernel
theorem op68_14_1 : decode prog_68_method_14_code 1 = .ok (.aload_n 1, 1) := by decide +kernel
theorem op68_14_2 : decode prog_68_method_14_code 2 = .ok (.aload_n 0, 1) := by decide +kernel
theorem op68_14_3 : decode prog_68_method_14_code 3 = .ok (.getfield 7, 3) := by decide +kernel
theorem op68_14_6 : decode prog_68_method_14_code 6 = .ok (.invokevirtual 130, 3) := by decide +kernel
theorem op68_14_9 : decode prog_68_method_14_code 9 = .ok (.invokevirtual 136, 3) := by decide +kernel
theorem own_pd21 : parseMethodDescriptor "(Lcom/example/ringshift/ringshift/io/BinaryWriter;)V" = some ⟨[(.object "com/example/ringshift/ringshift/io/BinaryWriter")], none⟩ := by decide +kernel
theorem op68_14_12 : decode prog_68_method_14_code 12 = .ok (.return_, 1) := by decide +kernel
set_option maxRecDepth 65536 in
set_option maxHeartbeats 40000000 in
theorem own_wt (l : Launch) (Z : State) (a0 : Array Value) (hw : ∀ d ∈ tables_1, d.before a0 Z = true) (ws : List Jvm.Cond) (w : Addr) (b : Addr) (kb : ClassId) (cap : Int32) (sz : Int32) (N : Int) (rw : Addr) (cs : Addr) (kc : ClassId) (dl : Int64) (nn : Int32) (a : Addr) (u8 : Addr) (va : Addr) (ka : ClassId) (c0 : Int32) (c1 : Int32) (zc : Int32) (fm : Value) (h0 : Heap) (n0 : Nat) (Z0 : n0 ≤ h0.size) (E_w : Exa Z h0 w "com/example/ringshift/ringshift/io/BinaryWriter") (F_w_size : Fld Z h0 w "com/example/ringshift/ringshift/io/BinaryWriter" "size" "I" (.int sz)) (F_w_bytes : Fld Z h0 w "com/example/ringshift/ringshift/io/BinaryWriter" "bytes" "[B" (.ref b)) (V_b : own_Buf Z h0 b kb cap) (E_rw : Exa Z h0 rw "com/example/ringshift/ringshift/data/Row") (F_rw_key : Fld Z h0 rw "com/example/ringshift/ringshift/data/Row" "key" "Ljava/lang/String;" (.ref a)) (F_rw_deletedAt : Fld Z h0 rw "com/example/ringshift/ringshift/data/Row" "deletedAt" "J" (.long dl)) (F_rw_movedFrom : Fld Z h0 rw "com/example/ringshift/ringshift/data/Row" "movedFrom" "Lcom/example/ringshift/ringshift/data/MovedFrom;" .null) (F_rw_cells : Fld Z h0 rw "com/example/ringshift/ringshift/data/Row" "cells" "[Lcom/example/ringshift/ringshift/data/Cell;" (.ref cs)) (E_a : Exa Z h0 a "java/lang/String") (F_a_coder : Fld Z h0 a "java/lang/String" "coder" "B" (.int 0)) (F_a_value : Fld Z h0 a "java/lang/String" "value" "[B" (.ref va)) (V_va : Arv Z h0 va ka .byte (2 : Int32) [(.int (c0.toInt8.toInt32)), (.int (c1.toInt8.toInt32))] (.int 0)) (V_cs : Arv Z h0 cs kc (.object "com/example/ringshift/ringshift/data/Cell") nn [] .null) (S_C : Sta Z h0 "java/lang/String" "COMPACT_STRINGS" "Z" (.int zc)) (S_I : Sta Z h0 "sun/nio/cs/UTF_8" "INSTANCE" "Lsun/nio/cs/UTF_8;" (.ref u8)) (S_U : Sta Z h0 "java/nio/charset/StandardCharsets" "UTF_8" "Ljava/nio/charset/Charset;" (.ref u8)) (S_F : Sta Z h0 "jdk/internal/util/Preconditions" "SIOOBE_FORMATTER" "Ljava/util/function/BiFunction;" fm) (hS : own_St cap sz N) (hN : N + ((4 + own_u c0 + own_u c1) + (own_d dl + 4 + 4 * nn.toInt)) ≤ 128) (g_w : n0 ≤ w) (g_b : n0 ≤ b) (nwb : ¬ (w = b)) (hc0a : ¬ (c0 < (0 : Int32))) (hc0b : ¬ ((255 : Int32) < c0)) (hc1a : ¬ (c1 < (0 : Int32))) (hc1b : ¬ ((255 : Int32) < c1)) (hz : ¬ (zc = (0 : Int32))) (rG : fm.isRef = true) (hnn : nn = (0 : Int32) ∨ nn = (1 : Int32) ∨ nn = (2 : Int32) ∨ nn = (3 : Int32)) (naw : ¬ (a = w)) (nab : ¬ (a = b)) (nvaw : ¬ (va = w)) (nvab : ¬ (va = b)) (nrww : ¬ (rw = w)) (nrwb : ¬ (rw = b)) (ncsw : ¬ (cs = w)) (ncsb : ¬ (cs = b)) :
   own_MetX l Z oy4 prog_68_method_14_code 2 none ws ({ frames := 7, cells := 2 + own_gc cap, slots := 7 + own_gs cap, locals := 156 } : Room) #[.ref rw, .ref w] h0 (fun v h L k n => ∃ (b2 : Addr) (k2 : ClassId) (cap2 sz2 : Int32), v = none ∧ Fr n0 L ∧ Keep h0 h [w, b] ∧ (b2 = b ∨ h0.size ≤ b2) ∧ own_St cap2 sz2 (N + ((4 + own_u c0 + own_u c1) + (own_d dl + 4 + 4 * nn.toInt))) ∧ k + own_gc cap2 ≤ 2 + own_gc cap ∧ n + own_gs cap2 ≤ 7 + own_gs cap ∧ Fld Z h w "com/example/ringshift/ringshift/io/BinaryWriter" "size" "I" (.int sz2) ∧ Fld Z h w "com/example/ringshift/ringshift/io/BinaryWriter" "bytes" "[B" (.ref b2) ∧ own_Buf Z h b2 k2 cap2) := by
 refine own_bodyX (plainFor_of_name own_pn_com_example_ringshift_ringshift_data_Row) (fun p e s m below meth c s₁ hx hby hml0 hrt hlk hown0 hnm hZ X0 e0 => ?_)
 have N0 := Fr.nil n0
 have hown : s.vm.findClass "com/example/ringshift/ringshift/data/Row" = some m.cls := hown0
 have hml : c.maxLocals = 2 := hml0
 refine own_castG (own_ef25 m rw w) ?_
 have IC0 : 0 + own_gc cap ≤ 0 + own_gc cap := Nat.le_refl _
 have IS0 : 0 + own_gs cap ≤ 0 + own_gs cap := Nat.le_refl _
 have hS0 := hS
 obtain ⟨sc0, sq0, sl0, su0⟩ := hS0
 have bz_b : b = b ∨ h0.size ≤ b := Or.inl rfl
 have dr := own_dr dl
 have ur0 := own_ur c0
 have ur1 := own_ur c1
 have tn : 0 ≤ nn.toInt := by rcases hnn with q | q | q | q <;> rw [q] <;> decide
 refine oS (fun t k => XS.aloadN X0.here hx rfl (hb hby op68_14_0) rfl rfl k) ?_
 refine oS (fun t k => XS.aloadN X0.here hx rfl (hb hby op68_14_1) rfl rfl k) ?_
 refine oS (fun t k => XS.aloadN X0.here hx rfl (hb hby op68_14_2) rfl rfl k) ?_
 show oG _ _ _ _ s₁ (mkF m 3 #[oR rw, oR w] [.ref rw, .ref w, .ref rw])
 obtain ⟨T1, X1, e1, st1⟩ := getF X0 hx hZ hown (host := "") (Or.inl (oW hw 47 rfl)) Via.refl e0 F_rw_key (g := (mkF m 3 #[oR rw, oR w] [.ref rw, .ref w, .ref rw])) rfl rfl (hb hby op68_14_3)
 refine oS st1 ?_
 show oG _ _ _ _ T1 (mkF m 6 #[oR rw, oR w] [.ref a, .ref w, .ref rw])
 have hS2 : own_St cap sz N := ⟨sc0, sq0, by omega, by omega⟩
 have hN2 : N + (4 + own_u c0 + own_u c1) ≤ 128 := by omega
 refine own_callVX X1 hx hZ (y := oy19) (z := oy19) hown (oW hw 115 rfl) (oW hw 116 rfl) (notFace_of_selects (args := #[]) (mvT hZ (oW hw 118 rfl))) (oW hw 118 rfl) (oW hw 117 rfl) (oW hw 119 rfl) (oW hw 64 rfl) (by decide) 1 E_w [.ref a] [.ref rw] (own_ws l Z a0 hw [] w b kb cap sz N a u8 va ka c0 c1 zc fm h0 n0 Z0 E_w F_w_size F_w_bytes V_b E_a F_a_coder F_a_value V_va S_C S_I S_U S_F hS2 hN2 g_w g_b nwb hc0a hc0b hc1a hc1b hz rG naw nab nvaw nvab) e1  (oB rfl) (oB rfl) (own_need IC0 (oB rfl)) (own_need IS0 (oB rfl)) (g := (mkF m 6 #[oR rw, oR w] [.ref a, .ref w, .ref rw])) rfl (by rw [hml]; rfl) own_pd19 rfl rfl (by show 2 * 0 + _ ≤ _; exact Nat.le_of_eq rfl) (hb hby op68_14_6) ?_
 intro T3 v3 L3 xc3 xs3 X3 hQ3
 obtain ⟨b3_0, k3_0, cp3, z3, rfl, N3q, Kq3, zq3, hT3, hkC3, hkS3, q3_0, q3_1, q3_2⟩ := hQ3
 obtain ⟨sc3, sq3, sl3, su3⟩ := hT3
 have N3 := Fr.app N0 N3q
 have K3 := (Keep.refl h0 [w, b]).trans Kq3 (allS (Or.inl (List.mem_of_getElem? (i := 0) rfl)) (allS (Or.inl (List.mem_of_getElem? (i := 1) rfl)) all0))
 have g_b3_0 : n0 ≤ b3_0 := own_sz2 zq3 g_b Z0
 have bz_b3_0 : b3_0 = b ∨ h0.size ≤ b3_0 := own_bz zq3 bz_b (Keep.refl h0 [w, b]).1
 have ne_w_b3_0 : w ≠ b3_0 := own_ne2 nwb E_w.lt zq3
 have ne_rw_b3_0 : rw ≠ b3_0 := own_ne2 nrwb E_rw.lt zq3
 have ne_a_b3_0 : a ≠ b3_0 := own_ne2 nab E_a.lt zq3
 have ne_va_b3_0 : va ≠ b3_0 := own_ne2 nvab V_va.lt zq3
 have ne_cs_b3_0 : cs ≠ b3_0 := own_ne2 ncsb V_cs.lt zq3
 have IC3 := own_acc IC0 hkC3
 have IS3 := own_acc IS0 hkS3
 show oG _ _ _ _ T3 (mkF m 9 #[oR rw, oR w] [.ref w, .ref rw])
 have hS4 : own_St cp3 z3 (N + (4 + own_u c0 + own_u c1)) := ⟨sc3, sq3, by omega, by omega⟩
 have hN4 : (N + (4 + own_u c0 + own_u c1)) + (own_d dl + 4 + 4 * nn.toInt) ≤ 128 := by omega
 have E_w_v5 := (E_w.keep Kq3)
 have E_rw_v6 := (E_rw.keep Kq3)
 have F_rw_deletedAt_v7 := (F_rw_deletedAt.keep Kq3 (ninS nrww (ninS nrwb nin0)))
 have F_rw_movedFrom_v8 := (F_rw_movedFrom.keep Kq3 (ninS nrww (ninS nrwb nin0)))
 have F_rw_cells_v9 := (F_rw_cells.keep Kq3 (ninS nrww (ninS nrwb nin0)))
 have V_cs_v10 := (V_cs.keep Kq3 (ninS ncsw (ninS ncsb nin0)))
 refine own_callVX X3 hx hZ (y := oy3) (z := oy3) hown (oW hw 161 rfl) (oW hw 162 rfl) (notFace_of_selects (args := #[]) (mvT hZ (oW hw 164 rfl))) (oW hw 164 rfl) (oW hw 163 rfl) (oW hw 165 rfl) (oW hw 34 rfl) (by decide) 0 E_rw_v6 [.ref w] [] (own_wa l Z a0 hw [] w b3_0 k3_0 cp3 z3 (N + (4 + own_u c0 + own_u c1)) rw cs kc dl nn T3.heap n0 (Nat.le_trans Z0 K3.1) E_w_v5 q3_0 q3_1 q3_2 E_rw_v6 F_rw_deletedAt_v7 F_rw_movedFrom_v8 F_rw_cells_v9 V_cs_v10 hS4 hN4 g_w g_b3_0 ne_w_b3_0 hnn nrww ne_rw_b3_0 ncsw ne_cs_b3_0) rfl  (oB rfl) (oB rfl) (own_need IC3 (oB rfl)) (own_need IS3 (oB rfl)) (g := (mkF m 9 #[oR rw, oR w] [.ref w, .ref rw])) rfl (by rw [hml]; rfl) own_pd21 rfl rfl (by show 2 * 0 + _ ≤ _; exact Nat.le_of_eq rfl) (hb hby op68_14_9) ?_
 intro T11 v11 L11 xc11 xs11 X11 hQ11
 have E_a_v12 := (E_a.keep Kq3)
 have V_va_v13 := (V_va.keep Kq3 (ninS nvaw (ninS nvab nin0)))
 obtain ⟨b11_0, k11_0, cp11, z11, rfl, N11q, Kq11, zq11, hT11, hkC11, hkS11, q11_0, q11_1, q11_2⟩ := hQ11
 obtain ⟨sc11, sq11, sl11, su11⟩ := hT11
 have N11 := Fr.app N3 N11q
 have K11 := K3.trans Kq11 (allS (Or.inl (List.mem_of_getElem? (i := 0) rfl)) (allS (own_wz bz_b3_0 (List.mem_of_getElem? (i := 1) rfl)) all0))
 have g_b11_0 : n0 ≤ b11_0 := own_sz2 zq11 g_b3_0 (Nat.le_trans Z0 K3.1)
 have bz_b11_0 : b11_0 = b ∨ h0.size ≤ b11_0 := own_bz zq11 bz_b3_0 K3.1
 have ne_w_b11_0 : w ≠ b11_0 := own_ne2 ne_w_b3_0 E_w_v5.lt zq11
 have ne_rw_b11_0 : rw ≠ b11_0 := own_ne2 ne_rw_b3_0 E_rw_v6.lt zq11
 have ne_a_b11_0 : a ≠ b11_0 := own_ne2 ne_a_b3_0 E_a_v12.lt zq11
 have ne_va_b11_0 : va ≠ b11_0 := own_ne2 ne_va_b3_0 V_va_v13.lt zq11
 have ne_cs_b11_0 : cs ≠ b11_0 := own_ne2 ne_cs_b3_0 V_cs_v10.lt zq11
 have IC11 := own_acc IC3 hkC11
 have IS11 := own_acc IS3 hkS11
 show oG _ _ _ _ T11 (mkF m 12 #[oR rw, oR w] [])
 have hSf : own_St cp11 z11 (N + ((4 + own_u c0 + own_u c1) + (own_d dl + 4 + 4 * nn.toInt))) := ⟨sc11, by omega, by omega, by omega⟩
 exact own_retVX X11 hx hlk hrt (hb hby op68_14_12) (by exact ⟨b11_0, k11_0, cp11, z11, rfl, N11, K11, bz_b11_0, hSf, (own_fin IC11 (oB rfl)), (own_fin IS11 (oB rfl)), q11_0, q11_1, q11_2⟩)
theorem own_pn_com_example_ringshift_ringshift_data_RowBatch_Builder : plainName "com/example/ringshift/ringshift/data/RowBatch$Builder" = true := by first | (simp [plainName, overriddenIn]; done) | decide +kernel
theorem own_ef26 (m : MethodId) (x0 : Addr) (x1 : Addr) : entryFrame m #[.ref x0, .ref x1] 2 = mkF m 0 #[.val (.ref x0), .val (.ref x1)] [] := by first | (simp [entryFrame, mkF, argsToLocals, Value.category]; done) | rfl
theorem op71_2_0 : decode prog_71_method_2_code 0 = .ok (.aload_n 1, 1) := by decide +kernel
theorem op71_2_1 : decode prog_71_method_2_code 1 = .ok (.aload_n 0, 1) := by decide +kernel
theorem op71_2_2 : decode prog_71_method_2_code 2 = .ok (.getfield 10, 3) := by decide +kernel
theorem op71_2_5 : decode prog_71_method_2_code 5 = .ok (.invokevirtual 16, 3) := by decide +kernel
theorem op71_2_8 : decode prog_71_method_2_code 8 = .ok (.aload_n 0, 1) := by decide +kernel
theorem op71_2_9 : decode prog_71_method_2_code 9 = .ok (.dup, 1) := by decide +kernel
theorem op71_2_10 : decode prog_71_method_2_code 10 = .ok (.getfield 22, 3) := by decide +kernel
theorem op71_2_13 : decode prog_71_method_2_code 13 = .ok (.iconst 1, 1) := by decide +kernel
theorem op71_2_14 : decode prog_71_method_2_code 14 = .ok (.iadd, 1) := by decide +kernel
theorem op71_2_15 : decode prog_71_method_2_code 15 = .ok (.putfield 22, 3) := by decide +kernel
theorem op71_2_18 : decode prog_71_method_2_code 18 = .ok (.aload_n 0, 1) := by decide +kernel
theorem op71_2_19 : decode prog_71_method_2_code 19 = .ok (.areturn, 1) := by decide +kernel
set_option maxRecDepth 65536 in
set_option maxHeartbeats 40000000 in
theorem own_add (l : Launch) (Z : State) (a0 : Array Value) (hw : ∀ d ∈ tables_1, d.before a0 Z = true) (ws : List Jvm.Cond) (w : Addr) (b : Addr) (kb : ClassId) (cap : Int32) (sz : Int32) (N : Int) (bd : Addr) (cn : Int32) (rw : Addr) (cs : Addr) (kc : ClassId) (dl : Int64) (nn : Int32) (a : Addr) (u8 : Addr) (va : Addr) (ka : ClassId) (c0 : Int32) (c1 : Int32) (zc : Int32) (fm : Value) (h0 : Heap) (n0 : Nat) (Z0 : n0 ≤ h0.size) (F_bd_rows : Fld Z h0 bd "com/example/ringshift/ringshift/data/RowBatch$Builder" "rows" "Lcom/example/ringshift/ringshift/io/BinaryWriter;" (.ref w)) (E_w : Exa Z h0 w "com/example/ringshift/ringshift/io/BinaryWriter") (F_w_size : Fld Z h0 w "com/example/ringshift/ringshift/io/BinaryWriter" "size" "I" (.int sz)) (F_w_bytes : Fld Z h0 w "com/example/ringshift/ringshift/io/BinaryWriter" "bytes" "[B" (.ref b)) (V_b : own_Buf Z h0 b kb cap) (E_bd : Exa Z h0 bd "com/example/ringshift/ringshift/data/RowBatch$Builder") (F_bd_count : Fld Z h0 bd "com/example/ringshift/ringshift/data/RowBatch$Builder" "count" "I" (.int cn)) (E_rw : Exa Z h0 rw "com/example/ringshift/ringshift/data/Row") (F_rw_key : Fld Z h0 rw "com/example/ringshift/ringshift/data/Row" "key" "Ljava/lang/String;" (.ref a)) (F_rw_deletedAt : Fld Z h0 rw "com/example/ringshift/ringshift/data/Row" "deletedAt" "J" (.long dl)) (F_rw_movedFrom : Fld Z h0 rw "com/example/ringshift/ringshift/data/Row" "movedFrom" "Lcom/example/ringshift/ringshift/data/MovedFrom;" .null) (F_rw_cells : Fld Z h0 rw "com/example/ringshift/ringshift/data/Row" "cells" "[Lcom/example/ringshift/ringshift/data/Cell;" (.ref cs)) (E_a : Exa Z h0 a "java/lang/String") (F_a_coder : Fld Z h0 a "java/lang/String" "coder" "B" (.int 0)) (F_a_value : Fld Z h0 a "java/lang/String" "value" "[B" (.ref va)) (V_va : Arv Z h0 va ka .byte (2 : Int32) [(.int (c0.toInt8.toInt32)), (.int (c1.toInt8.toInt32))] (.int 0)) (V_cs : Arv Z h0 cs kc (.object "com/example/ringshift/ringshift/data/Cell") nn [] .null) (S_C : Sta Z h0 "java/lang/String" "COMPACT_STRINGS" "Z" (.int zc)) (S_I : Sta Z h0 "sun/nio/cs/UTF_8" "INSTANCE" "Lsun/nio/cs/UTF_8;" (.ref u8)) (S_U : Sta Z h0 "java/nio/charset/StandardCharsets" "UTF_8" "Ljava/nio/charset/Charset;" (.ref u8)) (S_F : Sta Z h0 "jdk/internal/util/Preconditions" "SIOOBE_FORMATTER" "Ljava/util/function/BiFunction;" fm) (hS : own_St cap sz N) (hN : N + ((4 + own_u c0 + own_u c1) + (own_d dl + 4 + 4 * nn.toInt)) ≤ 128) (g_w : n0 ≤ w) (g_b : n0 ≤ b) (nwb : ¬ (w = b)) (hc0a : ¬ (c0 < (0 : Int32))) (hc0b : ¬ ((255 : Int32) < c0)) (hc1a : ¬ (c1 < (0 : Int32))) (hc1b : ¬ ((255 : Int32) < c1)) (hz : ¬ (zc = (0 : Int32))) (rG : fm.isRef = true) (hnn : nn = (0 : Int32) ∨ nn = (1 : Int32) ∨ nn = (2 : Int32) ∨ nn = (3 : Int32)) (g_bd : n0 ≤ bd) (naw : ¬ (a = w)) (nab : ¬ (a = b)) (nvaw : ¬ (va = w)) (nvab : ¬ (va = b)) (nrww : ¬ (rw = w)) (nrwb : ¬ (rw = b)) (ncsw : ¬ (cs = w)) (ncsb : ¬ (cs = b)) (nbdw : ¬ (bd = w)) (nbdb : ¬ (bd = b)) :
   own_MetX l Z oy6 prog_71_method_2_code 2 (some (.object "com/example/ringshift/ringshift/data/RowBatch$Builder")) ws ({ frames := 8, cells := 2 + own_gc cap, slots := 7 + own_gs cap, locals := 169 } : Room) #[.ref bd, .ref rw] h0 (fun v h L k n => ∃ (b2 : Addr) (k2 : ClassId) (cap2 sz2 : Int32), v = some (.ref bd) ∧ Fr n0 L ∧ Keep h0 h [bd, w, b] ∧ (b2 = b ∨ h0.size ≤ b2) ∧ own_St cap2 sz2 (N + ((4 + own_u c0 + own_u c1) + (own_d dl + 4 + 4 * nn.toInt))) ∧ k + own_gc cap2 ≤ 2 + own_gc cap ∧ n + own_gs cap2 ≤ 7 + own_gs cap ∧ Fld Z h w "com/example/ringshift/ringshift/io/BinaryWriter" "size" "I" (.int sz2) ∧ Fld Z h w "com/example/ringshift/ringshift/io/BinaryWriter" "bytes" "[B" (.ref b2) ∧ own_Buf Z h b2 k2 cap2 ∧ Fld Z h bd "com/example/ringshift/ringshift/data/RowBatch$Builder" "count" "I" (.int (cn + (1 : Int32))) ∧ Fld Z h bd "com/example/ringshift/ringshift/data/RowBatch$Builder" "rows" "Lcom/example/ringshift/ringshift/io/BinaryWriter;" (.ref w)) := by
 refine own_bodyX (plainFor_of_name own_pn_com_example_ringshift_ringshift_data_RowBatch_Builder) (fun p e s m below meth c s₁ hx hby hml0 hrt hlk hown0 hnm hZ X0 e0 => ?_)
 have N0 := Fr.nil n0
 have hown : s.vm.findClass "com/example/ringshift/ringshift/data/RowBatch$Builder" = some m.cls := hown0
 have hml : c.maxLocals = 2 := hml0
 refine own_castG (own_ef26 m bd rw) ?_
 have IC0 : 0 + own_gc cap ≤ 0 + own_gc cap := Nat.le_refl _
 have IS0 : 0 + own_gs cap ≤ 0 + own_gs cap := Nat.le_refl _
 have hS0 := hS
 obtain ⟨sc0, sq0, sl0, su0⟩ := hS0
 have bz_b : b = b ∨ h0.size ≤ b := Or.inl rfl
 refine oS (fun t k => XS.aloadN X0.here hx rfl (hb hby op71_2_0) rfl rfl k) ?_
 refine oS (fun t k => XS.aloadN X0.here hx rfl (hb hby op71_2_1) rfl rfl k) ?_
 show oG _ _ _ _ s₁ (mkF m 2 #[oR bd, oR rw] [.ref bd, .ref rw])
 obtain ⟨T1, X1, e1, st1⟩ := getF X0 hx hZ hown (host := "") (Or.inl (oW hw 74 rfl)) Via.refl e0 F_bd_rows (g := (mkF m 2 #[oR bd, oR rw] [.ref bd, .ref rw])) rfl rfl (hb hby op71_2_2)
 refine oS st1 ?_
 show oG _ _ _ _ T1 (mkF m 5 #[oR bd, oR rw] [.ref w, .ref rw])
 have hS2 : own_St cap sz N := ⟨sc0, sq0, by omega, by omega⟩
 have hN2 : N + ((4 + own_u c0 + own_u c1) + (own_d dl + 4 + 4 * nn.toInt)) ≤ 128 := by omega
 refine own_callVX X1 hx hZ (y := oy4) (z := oy4) hown (oW hw 110 rfl) (oW hw 111 rfl) (notFace_of_selects (args := #[]) (mvT hZ (oW hw 113 rfl))) (oW hw 113 rfl) (oW hw 112 rfl) (oW hw 114 rfl) (oW hw 34 rfl) (by decide) 0 E_rw [.ref w] [] (own_wt l Z a0 hw [] w b kb cap sz N rw cs kc dl nn a u8 va ka c0 c1 zc fm h0 n0 Z0 E_w F_w_size F_w_bytes V_b E_rw F_rw_key F_rw_deletedAt F_rw_movedFrom F_rw_cells E_a F_a_coder F_a_value V_va V_cs S_C S_I S_U S_F hS2 hN2 g_w g_b nwb hc0a hc0b hc1a hc1b hz rG hnn naw nab nvaw nvab nrww nrwb ncsw ncsb) e1  (oB rfl) (oB rfl) (own_need IC0 (oB rfl)) (own_need IS0 (oB rfl)) (g := (mkF m 5 #[oR bd, oR rw] [.ref w, .ref rw])) rfl (by rw [hml]; rfl) own_pd21 rfl rfl (by show 2 * 0 + _ ≤ _; exact Nat.le_of_eq rfl) (hb hby op71_2_5) ?_
 intro T3 v3 L3 xc3 xs3 X3 hQ3
 obtain ⟨b3_0, k3_0, cp3, z3, rfl, N3q, Kq3, zq3, hT3, hkC3, hkS3, q3_0, q3_1, q3_2⟩ := hQ3
 obtain ⟨sc3, sq3, sl3, su3⟩ := hT3
 have N3 := Fr.app N0 N3q
 have K3 := (Keep.refl h0 [bd, w, b]).trans Kq3 (allS (Or.inl (List.mem_of_getElem? (i := 1) rfl)) (allS (Or.inl (List.mem_of_getElem? (i := 2) rfl)) all0))
 have g_b3_0 : n0 ≤ b3_0 := own_sz2 zq3 g_b Z0
 have bz_b3_0 : b3_0 = b ∨ h0.size ≤ b3_0 := own_bz zq3 bz_b (Keep.refl h0 [bd, w, b]).1
 have ne_bd_b3_0 : bd ≠ b3_0 := own_ne2 nbdb F_bd_rows.lt zq3
 have ne_w_b3_0 : w ≠ b3_0 := own_ne2 nwb E_w.lt zq3
 have ne_rw_b3_0 : rw ≠ b3_0 := own_ne2 nrwb E_rw.lt zq3
 have ne_a_b3_0 : a ≠ b3_0 := own_ne2 nab E_a.lt zq3
 have ne_va_b3_0 : va ≠ b3_0 := own_ne2 nvab V_va.lt zq3
 have ne_cs_b3_0 : cs ≠ b3_0 := own_ne2 ncsb V_cs.lt zq3
 have IC3 := own_acc IC0 hkC3
 have IS3 := own_acc IS0 hkS3
 refine oS (fun t k => XS.aloadN X3.here hx rfl (hb hby op71_2_8) rfl rfl k) ?_
 refine oS (fun t k => XS.dup X3.here hx rfl (hb hby op71_2_9) rfl rfl k) ?_
 show oG _ _ _ _ T3 (mkF m 10 #[oR bd, oR rw] [.ref bd, .ref bd])
 have F_bd_count_v5 := (F_bd_count.keep Kq3 (ninS nbdw (ninS nbdb nin0)))
 obtain ⟨T4, X4, e4, st4⟩ := getF X3 hx hZ hown (host := "") (Or.inl (oW hw 88 rfl)) Via.refl rfl F_bd_count_v5 (g := (mkF m 10 #[oR bd, oR rw] [.ref bd, .ref bd])) rfl rfl (hb hby op71_2_10)
 refine oS st4 ?_
 refine oS (fun t k => XS.iconst X4.here hx rfl (hb hby op71_2_13) k) ?_
 refine oS (fun t k => XS.iadd X4.here hx rfl (hb hby op71_2_14) rfl k) ?_
 show oG _ _ _ _ T4 (mkF m 15 #[oR bd, oR rw] [(.int (cn + (1 : Int32))), .ref bd])
 have E_bd_v7 := (E_bd.keep Kq3)
 obtain ⟨T6, h6, X6, e6, W6, st6⟩ := putF X4 hx hZ hown (host := "") (Or.inl (oW hw 88 rfl)) Via.refl e4 F_bd_count_v5 E_bd_v7 (Or.inl (oW hw 89 rfl)) (oW hw 56 rfl) (ty := .int) (by decide) rfl rfl (g := (mkF m 15 #[oR bd, oR rw] [(.int (cn + (1 : Int32))), .ref bd])) rfl rfl (hb hby op71_2_15)
 refine oS st6 ?_
 have F6 := F_bd_count_v5.same W6
 have K6 := K3.wr W6 (Or.inl (List.mem_of_getElem? (i := 0) rfl))
 have N6 := Fr.snoc X6 N3 g_bd
 refine oS (fun t k => XS.aloadN X6.here hx rfl (hb hby op71_2_18) rfl rfl k) ?_
 show oG _ _ _ _ T6 (mkF m 19 #[oR bd, oR rw] [.ref bd])
 have hSf : own_St cp3 z3 (N + ((4 + own_u c0 + own_u c1) + (own_d dl + 4 + 4 * nn.toInt))) := ⟨sc3, by omega, by omega, by omega⟩
 have q3_0_v8 := (q3_0.other W6 (Or.inl (Ne.symm nbdw)))
 have q3_1_v9 := (q3_1.other W6 (Or.inl (Ne.symm nbdw)))
 have q3_2_v10 := (q3_2.other W6 (Ne.symm ne_bd_b3_0))
 have F_bd_rows_v11 := ((F_bd_rows.keep Kq3 (ninS nbdw (ninS nbdb nin0))).other W6 (Or.inr (slot_ne (Or.inr (oW hw 75 rfl)) (Or.inl (oW hw 89 rfl)) (by decide) (t := (.object "com/example/ringshift/ringshift/io/BinaryWriter")) (t' := .int) (by decide) (by decide))))
 exact own_retAX X6 hx hlk hrt rfl rfl rfl (hb hby op71_2_19) (by rw [e6]; exact ⟨b3_0, k3_0, cp3, z3, rfl, N6, K6, bz_b3_0, hSf, (own_fin IC3 (oB rfl)), (own_fin IS3 (oB rfl)), q3_0_v8, q3_1_v9, q3_2_v10, F6, F_bd_rows_v11⟩)
theorem own_pn_java_lang_Record : plainName "java/lang/Record" = true := by first | (simp [plainName, overriddenIn]; done) | decide +kernel
theorem own_ef27 (m : MethodId) (x0 : Addr) : entryFrame m #[.ref x0] 1 = mkF m 0 #[.val (.ref x0)] [] := by first | (simp [entryFrame, mkF, argsToLocals, Value.category]; done) | rfl
theorem oj30_1_0 : decode jdk_30_method_1_code 0 = .ok (.aload_n 0, 1) := by decide +kernel
theorem oj30_1_1 : decode jdk_30_method_1_code 1 = .ok (.invokespecial 1, 3) := by decide +kernel
theorem oj30_1_4 : decode jdk_30_method_1_code 4 = .ok (.return_, 1) := by decide +kernel
set_option maxRecDepth 65536 in
set_option maxHeartbeats 40000000 in
theorem own_rec (l : Launch) (Z : State) (a0 : Array Value) (hw : ∀ d ∈ tables_1, d.before a0 Z = true) (ws : List Jvm.Cond) (a : Addr) (h0 : Heap) (n0 : Nat) (Z0 : n0 ≤ h0.size) :
   own_Met l Z oy23 jdk_30_method_1_code 1 none ws ({ frames := 1, cells := 0, slots := 0, locals := 12 } : Room) #[.ref a] h0 (fun v h L => v = none ∧ Fr n0 L ∧ h = h0) := by
 refine own_body (plainFor_of_name own_pn_java_lang_Record) (fun p e s m below meth c s₁ hx hby hml0 hrt hlk hown0 hnm hZ X0 e0 => ?_)
 have N0 := Fr.nil n0
 have hown : s.vm.findClass "java/lang/Record" = some m.cls := hown0
 have hml : c.maxLocals = 1 := hml0
 refine own_castG (own_ef27 m a) ?_
 refine oS (fun t k => XS.aloadN X0.here hx rfl (hb hby oj30_1_0) rfl rfl k) ?_
 show oG _ _ _ _ s₁ (mkF m 1 #[oR a] [.ref a])
 obtain ⟨T1, X1, e1, st1⟩ := initO X0 hx hZ hown (oW hw 46 rfl) (oW hw 12 rfl) (oW hw 13 rfl) e0 (g := (mkF m 1 #[oR a] [.ref a])) rfl (by rw [hml]; rfl) rfl (hb hby oj30_1_1) (by decide) (W := 0) (by show 2 * 0 + _ ≤ _; exact Nat.le_of_eq rfl) (by decide)
 refine oS st1 ?_
 show oG _ _ _ _ T1 (mkF m 4 #[oR a] [])
 exact own_retV X1 hx hlk hrt (hb hby oj30_1_4) ⟨rfl, N0, e1⟩ (by decide) (by decide)
theorem own_ef28 (m : MethodId) (x0 : Addr) (x1 : Addr) (x2 : Addr) (x3 : Int64) : entryFrame m #[.ref x0, .ref x1, .ref x2, (.long x3), .null] 6 = mkF m 0 #[.val (.ref x0), .val (.ref x1), .val (.ref x2), .val (.long x3), .second, .val .null] [] := by first | (simp [entryFrame, mkF, argsToLocals, Value.category]; done) | rfl
theorem op68_3_0 : decode prog_68_method_3_code 0 = .ok (.aload_n 0, 1) := by decide +kernel
theorem op68_3_1 : decode prog_68_method_3_code 1 = .ok (.invokespecial 1, 3) := by decide +kernel
theorem own_pd22 : parseMethodDescriptor "()V" = some ⟨[], none⟩ := by decide +kernel
theorem op68_3_4 : decode prog_68_method_3_code 4 = .ok (.aload_n 0, 1) := by decide +kernel
theorem op68_3_5 : decode prog_68_method_3_code 5 = .ok (.aload_n 1, 1) := by decide +kernel
theorem op68_3_6 : decode prog_68_method_3_code 6 = .ok (.putfield 7, 3) := by decide +kernel
theorem op68_3_9 : decode prog_68_method_3_code 9 = .ok (.aload_n 0, 1) := by decide +kernel
theorem op68_3_10 : decode prog_68_method_3_code 10 = .ok (.aload_n 2, 1) := by decide +kernel
theorem op68_3_11 : decode prog_68_method_3_code 11 = .ok (.putfield 13, 3) := by decide +kernel
theorem op68_3_14 : decode prog_68_method_3_code 14 = .ok (.aload_n 0, 1) := by decide +kernel
theorem op68_3_15 : decode prog_68_method_3_code 15 = .ok (.lload_n 3, 1) := by decide +kernel
theorem op68_3_16 : decode prog_68_method_3_code 16 = .ok (.putfield 17, 3) := by decide +kernel
theorem op68_3_19 : decode prog_68_method_3_code 19 = .ok (.aload_n 0, 1) := by decide +kernel
theorem op68_3_20 : decode prog_68_method_3_code 20 = .ok (.aload 5, 2) := by decide +kernel
theorem op68_3_22 : decode prog_68_method_3_code 22 = .ok (.putfield 21, 3) := by decide +kernel
theorem op68_3_25 : decode prog_68_method_3_code 25 = .ok (.return_, 1) := by decide +kernel
set_option maxRecDepth 65536 in
set_option maxHeartbeats 40000000 in
theorem own_ri4 (l : Launch) (Z : State) (a0 : Array Value) (hw : ∀ d ∈ tables_1, d.before a0 Z = true) (ws : List Jvm.Cond) (rw : Addr) (a : Addr) (cs : Addr) (dl : Int64) (h0 : Heap) (n0 : Nat) (Z0 : n0 ≤ h0.size) (E_rw : Exa Z h0 rw "com/example/ringshift/ringshift/data/Row") (F_rw_key : Fld Z h0 rw "com/example/ringshift/ringshift/data/Row" "key" "Ljava/lang/String;" .null) (F_rw_cells : Fld Z h0 rw "com/example/ringshift/ringshift/data/Row" "cells" "[Lcom/example/ringshift/ringshift/data/Cell;" .null) (F_rw_deletedAt : Fld Z h0 rw "com/example/ringshift/ringshift/data/Row" "deletedAt" "J" (.long (0 : Int64))) (F_rw_movedFrom : Fld Z h0 rw "com/example/ringshift/ringshift/data/Row" "movedFrom" "Lcom/example/ringshift/ringshift/data/MovedFrom;" .null) (g_rw : n0 ≤ rw) :
   own_Met l Z oy2 prog_68_method_3_code 6 none ws ({ frames := 2, cells := 0, slots := 0, locals := 24 } : Room) #[.ref rw, .ref a, .ref cs, (.long dl), .null] h0 (fun v h L => v = none ∧ Fr n0 L ∧ Keep h0 h [rw] ∧ Fld Z h rw "com/example/ringshift/ringshift/data/Row" "key" "Ljava/lang/String;" (.ref a) ∧ Fld Z h rw "com/example/ringshift/ringshift/data/Row" "cells" "[Lcom/example/ringshift/ringshift/data/Cell;" (.ref cs) ∧ Fld Z h rw "com/example/ringshift/ringshift/data/Row" "deletedAt" "J" (.long dl) ∧ Fld Z h rw "com/example/ringshift/ringshift/data/Row" "movedFrom" "Lcom/example/ringshift/ringshift/data/MovedFrom;" .null) := by
 refine own_body (plainFor_of_name own_pn_com_example_ringshift_ringshift_data_Row) (fun p e s m below meth c s₁ hx hby hml0 hrt hlk hown0 hnm hZ X0 e0 => ?_)
 have N0 := Fr.nil n0
 have hown : s.vm.findClass "com/example/ringshift/ringshift/data/Row" = some m.cls := hown0
 have hml : c.maxLocals = 6 := hml0
 refine own_castG (own_ef28 m rw a cs dl) ?_
 refine oS (fun t k => XS.aloadN X0.here hx rfl (hb hby op68_3_0) rfl rfl k) ?_
 show oG _ _ _ _ s₁ (mkF m 1 #[oR rw, oR a, oR cs, .val (.long dl), .second, .val .null] [.ref rw])
 refine own_callC X0 hx hZ (y := oy23) rfl hown (oW hw 41 rfl) (oW hw 42 rfl) (oW hw 45 rfl) (oW hw 44 rfl) (by decide) 0 (a := rw) [] [] (own_rec l Z a0 hw [] rw h0 n0 Z0 ) e0  (by decide) (by decide) (by decide) (by decide) (g := (mkF m 1 #[oR rw, oR a, oR cs, .val (.long dl), .second, .val .null] [.ref rw])) rfl (by rw [hml]; rfl) own_pd22 rfl rfl (by show 2 * 0 + _ ≤ _; exact Nat.le_of_eq rfl) (hb hby op68_3_1) ?_
 intro T1 v1 L1 X1 hQ1
 obtain ⟨rfl, N1q, e1⟩ := hQ1
 have N1 := Fr.app N0 N1q
 refine oS (fun t k => XS.aloadN X1.here hx rfl (hb hby op68_3_4) rfl rfl k) ?_
 refine oS (fun t k => XS.aloadN X1.here hx rfl (hb hby op68_3_5) rfl rfl k) ?_
 show oG _ _ _ _ T1 (mkF m 6 #[oR rw, oR a, oR cs, .val (.long dl), .second, .val .null] [.ref a, .ref rw])
 obtain ⟨T2, h2, X2, e2, W2, st2⟩ := putF X1 hx hZ hown (host := "") (Or.inl (oW hw 47 rfl)) Via.refl e1 F_rw_key E_rw (Or.inr ⟨(oW hw 48 rfl), rfl, hnm⟩) (oW hw 33 rfl) (ty := (.object "java/lang/String")) (by decide) rfl rfl (g := (mkF m 6 #[oR rw, oR a, oR cs, .val (.long dl), .second, .val .null] [.ref a, .ref rw])) rfl rfl (hb hby op68_3_6)
 refine oS st2 ?_
 have F2 := F_rw_key.same W2
 have K2 := (Keep.refl h0 [rw]).wr W2 (Or.inl (List.mem_of_getElem? (i := 0) rfl))
 have N2 := Fr.snoc X2 N1 g_rw
 refine oS (fun t k => XS.aloadN X2.here hx rfl (hb hby op68_3_9) rfl rfl k) ?_
 refine oS (fun t k => XS.aloadN X2.here hx rfl (hb hby op68_3_10) rfl rfl k) ?_
 show oG _ _ _ _ T2 (mkF m 11 #[oR rw, oR a, oR cs, .val (.long dl), .second, .val .null] [.ref cs, .ref rw])
 have E_rw_v4 := (E_rw.wr W2)
 have F_rw_cells_v5 := (F_rw_cells.other W2 (Or.inr (slot_ne (Or.inr (oW hw 50 rfl)) (Or.inr (oW hw 48 rfl)) (by decide) (t := (.array (.object "com/example/ringshift/ringshift/data/Cell"))) (t' := (.object "java/lang/String")) (by decide) (by decide))))
 obtain ⟨T3, h3, X3, e3, W3, st3⟩ := putF X2 hx hZ hown (host := "") (Or.inl (oW hw 49 rfl)) Via.refl e2 F_rw_cells_v5 E_rw_v4 (Or.inr ⟨(oW hw 50 rfl), rfl, hnm⟩) (oW hw 33 rfl) (ty := (.array (.object "com/example/ringshift/ringshift/data/Cell"))) (by decide) rfl rfl (g := (mkF m 11 #[oR rw, oR a, oR cs, .val (.long dl), .second, .val .null] [.ref cs, .ref rw])) rfl rfl (hb hby op68_3_11)
 refine oS st3 ?_
 have F3 := F_rw_cells_v5.same W3
 have K3 := K2.wr W3 (Or.inl (List.mem_of_getElem? (i := 0) rfl))
 have N3 := Fr.snoc X3 N2 g_rw
 refine oS (fun t k => XS.aloadN X3.here hx rfl (hb hby op68_3_14) rfl rfl k) ?_
 refine oS (fun t k => XS.lloadN X3.here hx rfl (hb hby op68_3_15) rfl k) ?_
 show oG _ _ _ _ T3 (mkF m 16 #[oR rw, oR a, oR cs, .val (.long dl), .second, .val .null] [(.long dl), .ref rw])
 have E_rw_v7 := (E_rw_v4.wr W3)
 have F_rw_deletedAt_v8 := ((F_rw_deletedAt.other W2 (Or.inr (slot_ne (Or.inr (oW hw 52 rfl)) (Or.inr (oW hw 48 rfl)) (by decide) (t := .long) (t' := (.object "java/lang/String")) (by decide) (by decide)))).other W3 (Or.inr (slot_ne (Or.inr (oW hw 52 rfl)) (Or.inr (oW hw 50 rfl)) (by decide) (t := .long) (t' := (.array (.object "com/example/ringshift/ringshift/data/Cell"))) (by decide) (by decide))))
 obtain ⟨T6, h6, X6, e6, W6, st6⟩ := putF X3 hx hZ hown (host := "") (Or.inl (oW hw 51 rfl)) Via.refl e3 F_rw_deletedAt_v8 E_rw_v7 (Or.inr ⟨(oW hw 52 rfl), rfl, hnm⟩) (oW hw 33 rfl) (ty := .long) (by decide) rfl rfl (g := (mkF m 16 #[oR rw, oR a, oR cs, .val (.long dl), .second, .val .null] [(.long dl), .ref rw])) rfl rfl (hb hby op68_3_16)
 refine oS st6 ?_
 have F6 := F_rw_deletedAt_v8.same W6
 have K6 := K3.wr W6 (Or.inl (List.mem_of_getElem? (i := 0) rfl))
 have N6 := Fr.snoc X6 N3 g_rw
 refine oS (fun t k => XS.aloadN X6.here hx rfl (hb hby op68_3_19) rfl rfl k) ?_
 refine oS (fun t k => XS.aload X6.here hx rfl (hb hby op68_3_20) rfl rfl k) ?_
 show oG _ _ _ _ T6 (mkF m 22 #[oR rw, oR a, oR cs, .val (.long dl), .second, .val .null] [.null, .ref rw])
 have E_rw_v10 := (E_rw_v7.wr W6)
 have F_rw_movedFrom_v11 := (((F_rw_movedFrom.other W2 (Or.inr (slot_ne (Or.inr (oW hw 54 rfl)) (Or.inr (oW hw 48 rfl)) (by decide) (t := (.object "com/example/ringshift/ringshift/data/MovedFrom")) (t' := (.object "java/lang/String")) (by decide) (by decide)))).other W3 (Or.inr (slot_ne (Or.inr (oW hw 54 rfl)) (Or.inr (oW hw 50 rfl)) (by decide) (t := (.object "com/example/ringshift/ringshift/data/MovedFrom")) (t' := (.array (.object "com/example/ringshift/ringshift/data/Cell"))) (by decide) (by decide)))).other W6 (Or.inr (slot_ne (Or.inr (oW hw 54 rfl)) (Or.inr (oW hw 52 rfl)) (by decide) (t := (.object "com/example/ringshift/ringshift/data/MovedFrom")) (t' := .long) (by decide) (by decide))))
 obtain ⟨T9, h9, X9, e9, W9, st9⟩ := putF X6 hx hZ hown (host := "") (Or.inl (oW hw 53 rfl)) Via.refl e6 F_rw_movedFrom_v11 E_rw_v10 (Or.inr ⟨(oW hw 54 rfl), rfl, hnm⟩) (oW hw 33 rfl) (ty := (.object "com/example/ringshift/ringshift/data/MovedFrom")) (by decide) rfl rfl (g := (mkF m 22 #[oR rw, oR a, oR cs, .val (.long dl), .second, .val .null] [.null, .ref rw])) rfl rfl (hb hby op68_3_22)
 refine oS st9 ?_
 have F9 := F_rw_movedFrom_v11.same W9
 have K9 := K6.wr W9 (Or.inl (List.mem_of_getElem? (i := 0) rfl))
 have N9 := Fr.snoc X9 N6 g_rw
 show oG _ _ _ _ T9 (mkF m 25 #[oR rw, oR a, oR cs, .val (.long dl), .second, .val .null] [])
 have F2_v12 := (((F2.other W3 (Or.inr (slot_ne (Or.inr (oW hw 48 rfl)) (Or.inr (oW hw 50 rfl)) (by decide) (t := (.object "java/lang/String")) (t' := (.array (.object "com/example/ringshift/ringshift/data/Cell"))) (by decide) (by decide)))).other W6 (Or.inr (slot_ne (Or.inr (oW hw 48 rfl)) (Or.inr (oW hw 52 rfl)) (by decide) (t := (.object "java/lang/String")) (t' := .long) (by decide) (by decide)))).other W9 (Or.inr (slot_ne (Or.inr (oW hw 48 rfl)) (Or.inr (oW hw 54 rfl)) (by decide) (t := (.object "java/lang/String")) (t' := (.object "com/example/ringshift/ringshift/data/MovedFrom")) (by decide) (by decide))))
 have F3_v13 := ((F3.other W6 (Or.inr (slot_ne (Or.inr (oW hw 50 rfl)) (Or.inr (oW hw 52 rfl)) (by decide) (t := (.array (.object "com/example/ringshift/ringshift/data/Cell"))) (t' := .long) (by decide) (by decide)))).other W9 (Or.inr (slot_ne (Or.inr (oW hw 50 rfl)) (Or.inr (oW hw 54 rfl)) (by decide) (t := (.array (.object "com/example/ringshift/ringshift/data/Cell"))) (t' := (.object "com/example/ringshift/ringshift/data/MovedFrom")) (by decide) (by decide))))
 have F6_v14 := (F6.other W9 (Or.inr (slot_ne (Or.inr (oW hw 52 rfl)) (Or.inr (oW hw 54 rfl)) (by decide) (t := .long) (t' := (.object "com/example/ringshift/ringshift/data/MovedFrom")) (by decide) (by decide))))
 exact own_retV X9 hx hlk hrt (hb hby op68_3_25) (by rw [e9]; exact ⟨rfl, N9, K9, F2_v12, F3_v13, F6_v14, F9⟩) (by decide) (by decide)
theorem own_ef29 (m : MethodId) (x0 : Addr) (x1 : Addr) (x2 : Addr) (x3 : Int64) : entryFrame m #[.ref x0, .ref x1, .ref x2, (.long x3)] 5 = mkF m 0 #[.val (.ref x0), .val (.ref x1), .val (.ref x2), .val (.long x3), .second] [] := by first | (simp [entryFrame, mkF, argsToLocals, Value.category]; done) | rfl
theorem op68_2_0 : decode prog_68_method_2_code 0 = .ok (.aload_n 0, 1) := by decide +kernel
theorem op68_2_1 : decode prog_68_method_2_code 1 = .ok (.aload_n 1, 1) := by decide +kernel
theorem op68_2_2 : decode prog_68_method_2_code 2 = .ok (.aload_n 2, 1) := by decide +kernel
theorem op68_2_3 : decode prog_68_method_2_code 3 = .ok (.lload_n 3, 1) := by decide +kernel
theorem op68_2_4 : decode prog_68_method_2_code 4 = .ok (.aconst_null, 1) := by decide +kernel
theorem op68_2_5 : decode prog_68_method_2_code 5 = .ok (.invokespecial 28, 3) := by decide +kernel
theorem own_pd23 : parseMethodDescriptor "(Ljava/lang/String;[Lcom/example/ringshift/ringshift/data/Cell;JLcom/example/ringshift/ringshift/data/MovedFrom;)V" = some ⟨[(.object "java/lang/String"), (.array (.object "com/example/ringshift/ringshift/data/Cell")), .long, (.object "com/example/ringshift/ringshift/data/MovedFrom")], none⟩ := by decide +kernel
theorem op68_2_8 : decode prog_68_method_2_code 8 = .ok (.return_, 1) := by decide +kernel
set_option maxRecDepth 65536 in
set_option maxHeartbeats 40000000 in
theorem own_ri3 (l : Launch) (Z : State) (a0 : Array Value) (hw : ∀ d ∈ tables_1, d.before a0 Z = true) (ws : List Jvm.Cond) (rw : Addr) (a : Addr) (cs : Addr) (dl : Int64) (h0 : Heap) (n0 : Nat) (Z0 : n0 ≤ h0.size) (E_rw : Exa Z h0 rw "com/example/ringshift/ringshift/data/Row") (F_rw_key : Fld Z h0 rw "com/example/ringshift/ringshift/data/Row" "key" "Ljava/lang/String;" .null) (F_rw_cells : Fld Z h0 rw "com/example/ringshift/ringshift/data/Row" "cells" "[Lcom/example/ringshift/ringshift/data/Cell;" .null) (F_rw_deletedAt : Fld Z h0 rw "com/example/ringshift/ringshift/data/Row" "deletedAt" "J" (.long (0 : Int64))) (F_rw_movedFrom : Fld Z h0 rw "com/example/ringshift/ringshift/data/Row" "movedFrom" "Lcom/example/ringshift/ringshift/data/MovedFrom;" .null) (g_rw : n0 ≤ rw) :
   own_Met l Z oy1 prog_68_method_2_code 5 none ws ({ frames := 3, cells := 0, slots := 0, locals := 41 } : Room) #[.ref rw, .ref a, .ref cs, (.long dl)] h0 (fun v h L => v = none ∧ Fr n0 L ∧ Keep h0 h [rw] ∧ Fld Z h rw "com/example/ringshift/ringshift/data/Row" "key" "Ljava/lang/String;" (.ref a) ∧ Fld Z h rw "com/example/ringshift/ringshift/data/Row" "cells" "[Lcom/example/ringshift/ringshift/data/Cell;" (.ref cs) ∧ Fld Z h rw "com/example/ringshift/ringshift/data/Row" "deletedAt" "J" (.long dl) ∧ Fld Z h rw "com/example/ringshift/ringshift/data/Row" "movedFrom" "Lcom/example/ringshift/ringshift/data/MovedFrom;" .null) := by
 refine own_body (plainFor_of_name own_pn_com_example_ringshift_ringshift_data_Row) (fun p e s m below meth c s₁ hx hby hml0 hrt hlk hown0 hnm hZ X0 e0 => ?_)
 have N0 := Fr.nil n0
 have hown : s.vm.findClass "com/example/ringshift/ringshift/data/Row" = some m.cls := hown0
 have hml : c.maxLocals = 5 := hml0
 refine own_castG (own_ef29 m rw a cs dl) ?_
 refine oS (fun t k => XS.aloadN X0.here hx rfl (hb hby op68_2_0) rfl rfl k) ?_
 refine oS (fun t k => XS.aloadN X0.here hx rfl (hb hby op68_2_1) rfl rfl k) ?_
 refine oS (fun t k => XS.aloadN X0.here hx rfl (hb hby op68_2_2) rfl rfl k) ?_
 refine oS (fun t k => XS.lloadN X0.here hx rfl (hb hby op68_2_3) rfl k) ?_
 refine oS (fun t k => XS.aconstNull X0.here hx rfl (hb hby op68_2_4) k) ?_
 show oG _ _ _ _ s₁ (mkF m 5 #[oR rw, oR a, oR cs, .val (.long dl), .second] [.null, (.long dl), .ref cs, .ref a, .ref rw])
 refine own_callC X0 hx hZ (y := oy2) rfl hown (oW hw 38 rfl) (oW hw 39 rfl) (oW hw 40 rfl) (oW hw 34 rfl) (by decide) 0 (a := rw) [.ref a, .ref cs, (.long dl), .null] [] (own_ri4 l Z a0 hw [] rw a cs dl h0 n0 Z0 E_rw F_rw_key F_rw_cells F_rw_deletedAt F_rw_movedFrom g_rw) e0  (by decide) (by decide) (by decide) (by decide) (g := (mkF m 5 #[oR rw, oR a, oR cs, .val (.long dl), .second] [.null, (.long dl), .ref cs, .ref a, .ref rw])) rfl (by rw [hml]; rfl) own_pd23 rfl rfl (by show 2 * 0 + _ ≤ _; exact Nat.le_of_eq rfl) (hb hby op68_2_5) ?_
 intro T1 v1 L1 X1 hQ1
 obtain ⟨rfl, N1q, Kq1, q1_0, q1_1, q1_2, q1_3⟩ := hQ1
 have N1 := Fr.app N0 N1q
 have K1 := (Keep.refl h0 [rw]).trans Kq1 (allS (Or.inl (List.mem_of_getElem? (i := 0) rfl)) all0)
 have q1_0' : Fld Z T1.heap rw "com/example/ringshift/ringshift/data/Row" "key" "Ljava/lang/String;" (.ref a) := q1_0
 have q1_1' : Fld Z T1.heap rw "com/example/ringshift/ringshift/data/Row" "cells" "[Lcom/example/ringshift/ringshift/data/Cell;" (.ref cs) := q1_1
 have q1_2' : Fld Z T1.heap rw "com/example/ringshift/ringshift/data/Row" "deletedAt" "J" (.long dl) := q1_2
 have q1_3' : Fld Z T1.heap rw "com/example/ringshift/ringshift/data/Row" "movedFrom" "Lcom/example/ringshift/ringshift/data/MovedFrom;" .null := q1_3
 show oG _ _ _ _ T1 (mkF m 8 #[oR rw, oR a, oR cs, .val (.long dl), .second] [])
 exact own_retV X1 hx hlk hrt (hb hby op68_2_8) (by exact ⟨rfl, N1, K1, q1_0', q1_1', q1_2', q1_3'⟩) (by decide) (by decide)
theorem own_ef30 (m : MethodId) (x0 : Addr) (x1 : Int32) : entryFrame m #[.ref x0, .int x1] 2 = mkF m 0 #[.val (.ref x0), .val (.int x1)] [] := by first | (simp [entryFrame, mkF, argsToLocals, Value.category]; done) | rfl
theorem op81_2_0 : decode prog_81_method_2_code 0 = .ok (.aload_n 0, 1) := by decide +kernel
theorem op81_2_1 : decode prog_81_method_2_code 1 = .ok (.invokespecial 9, 3) := by decide +kernel
theorem op81_2_4 : decode prog_81_method_2_code 4 = .ok (.aload_n 0, 1) := by decide +kernel
theorem op81_2_5 : decode prog_81_method_2_code 5 = .ok (.iload_n 1, 1) := by decide +kernel
theorem op81_2_6 : decode prog_81_method_2_code 6 = .ok (.newarray .byte, 2) := by decide +kernel
theorem op81_2_8 : decode prog_81_method_2_code 8 = .ok (.putfield 14, 3) := by decide +kernel
theorem op81_2_11 : decode prog_81_method_2_code 11 = .ok (.return_, 1) := by decide +kernel
set_option maxRecDepth 65536 in
set_option maxHeartbeats 40000000 in
theorem own_bwi1 (l : Launch) (Z : State) (a0 : Array Value) (hw : ∀ d ∈ tables_1, d.before a0 Z = true) (ws : List Jvm.Cond) (w : Addr) (h0 : Heap) (n0 : Nat) (Z0 : n0 ≤ h0.size) (E_w : Exa Z h0 w "com/example/ringshift/ringshift/io/BinaryWriter") (F_w_bytes : Fld Z h0 w "com/example/ringshift/ringshift/io/BinaryWriter" "bytes" "[B" .null) (F_w_size : Fld Z h0 w "com/example/ringshift/ringshift/io/BinaryWriter" "size" "I" (.int 0)) (g_w : n0 ≤ w) :
   own_Met l Z oy11 prog_81_method_2_code 2 none ws ({ frames := 1, cells := 1, slots := 64, locals := 12 } : Room) #[.ref w, .int 64] h0 (fun v h L => ∃ r : Addr, ∃ kr : ClassId, v = none ∧ Fr n0 L ∧ Keep h0 h [w] ∧ h0.size ≤ r ∧ Fld Z h w "com/example/ringshift/ringshift/io/BinaryWriter" "bytes" "[B" (.ref r) ∧ Fld Z h w "com/example/ringshift/ringshift/io/BinaryWriter" "size" "I" (.int 0) ∧ own_Buf Z h r kr (64 : Int32)) := by
 refine own_body (plainFor_of_name own_pn_com_example_ringshift_ringshift_io_BinaryWriter) (fun p e s m below meth c s₁ hx hby hml0 hrt hlk hown0 hnm hZ X0 e0 => ?_)
 have N0 := Fr.nil n0
 have hown : s.vm.findClass "com/example/ringshift/ringshift/io/BinaryWriter" = some m.cls := hown0
 have hml : c.maxLocals = 2 := hml0
 refine own_castG (own_ef30 m w (64 : Int32)) ?_
 refine oS (fun t k => XS.aloadN X0.here hx rfl (hb hby op81_2_0) rfl rfl k) ?_
 show oG _ _ _ _ s₁ (mkF m 1 #[oR w, oI 64] [.ref w])
 obtain ⟨T1, X1, e1, st1⟩ := initO X0 hx hZ hown (oW hw 71 rfl) (oW hw 12 rfl) (oW hw 13 rfl) e0 (g := (mkF m 1 #[oR w, oI 64] [.ref w])) rfl (by rw [hml]; rfl) rfl (hb hby op81_2_1) (by decide) (W := 0) (by show 2 * 0 + _ ≤ _; exact Nat.le_of_eq rfl) (by decide)
 refine oS st1 ?_
 refine oS (fun t k => XS.aloadN X1.here hx rfl (hb hby op81_2_4) rfl rfl k) ?_
 refine oS (fun t k => XS.iloadN X1.here hx rfl (hb hby op81_2_5) rfl k) ?_
 show oG _ _ _ _ T1 (mkF m 6 #[oR w, oI 64] [.int 64, .ref w])
 obtain ⟨T2, h2, k2, X2, e2, E2, A2, st2⟩ := newP X1 hx hZ (oW hw 19 rfl) e1 (g := (mkF m 6 #[oR w, oI 64] [.int 64, .ref w])) rfl (hb hby op81_2_6) rfl (by decide) (cap := 64) (by decide) (by decide) (by decide) (by decide)
 obtain ⟨b2, g2⟩ : ∃ z, z = h0.size := ⟨_, rfl⟩
 rw [← g2] at A2 st2
 refine oS st2 ?_
 have g_b2 : n0 ≤ b2 := Nat.le_trans Z0 (Nat.le_of_eq g2.symm)
 have sz_b2 : h0.size ≤ b2 := Nat.le_trans (Keep.refl h0 [w]).1 (Nat.le_of_eq g2.symm)
 have ne_w_b2 : w ≠ b2 := Nat.ne_of_lt (Nat.lt_of_lt_of_le E_w.lt (Nat.le_of_eq g2.symm))
 have K2 := (Keep.refl h0 [w]).ext E2
 have V_b2 : own_Buf Z h2 b2 k2 (64 : Int32) := own_bufNew A2 (by decide)
 show oG _ _ _ _ T2 (mkF m 8 #[oR w, oI 64] [.ref b2, .ref w])
 have E_w_v4 := (E_w.ext E2)
 have F_w_bytes_v5 := (F_w_bytes.ext E2)
 obtain ⟨T3, h3, X3, e3, W3, st3⟩ := putF X2 hx hZ hown (host := "") (Or.inl (oW hw 72 rfl)) Via.refl e2 F_w_bytes_v5 E_w_v4 (Or.inl (oW hw 73 rfl)) (oW hw 63 rfl) (ty := (.array .byte)) (by decide) rfl rfl (g := (mkF m 8 #[oR w, oI 64] [.ref b2, .ref w])) rfl rfl (hb hby op81_2_8)
 refine oS st3 ?_
 have F3 := F_w_bytes_v5.same W3
 have K3 := K2.wr W3 (Or.inl (List.mem_of_getElem? (i := 0) rfl))
 have N3 := Fr.snoc X3 N0 g_w
 show oG _ _ _ _ T3 (mkF m 11 #[oR w, oI 64] [])
 have F_w_size_v6 := ((F_w_size.ext E2).other W3 (Or.inr (slot_ne (Or.inl (oW hw 87 rfl)) (Or.inl (oW hw 73 rfl)) (by decide) (t := .int) (t' := (.array .byte)) (by decide) (by decide))))
 have V_b2_v7 := (V_b2.other W3 (Ne.symm ne_w_b2))
 exact own_retV X3 hx hlk hrt (hb hby op81_2_11) (by rw [e3]; exact ⟨b2, k2, rfl, N3, K3, sz_b2, F3, F_w_size_v6, V_b2_v7⟩) (by decide) (by decide)
theorem own_ef31 (m : MethodId) (x0 : Addr) : entryFrame m #[.ref x0] 1 = mkF m 0 #[.val (.ref x0)] [] := by first | (simp [entryFrame, mkF, argsToLocals, Value.category]; done) | rfl
theorem op81_1_0 : decode prog_81_method_1_code 0 = .ok (.aload_n 0, 1) := by decide +kernel
theorem op81_1_1 : decode prog_81_method_1_code 1 = .ok (.bipush 64, 2) := by decide +kernel
theorem op81_1_3 : decode prog_81_method_1_code 3 = .ok (.invokespecial 3, 3) := by decide +kernel
theorem op81_1_6 : decode prog_81_method_1_code 6 = .ok (.return_, 1) := by decide +kernel
set_option maxRecDepth 65536 in
set_option maxHeartbeats 40000000 in
theorem own_bwi0 (l : Launch) (Z : State) (a0 : Array Value) (hw : ∀ d ∈ tables_1, d.before a0 Z = true) (ws : List Jvm.Cond) (w : Addr) (h0 : Heap) (n0 : Nat) (Z0 : n0 ≤ h0.size) (E_w : Exa Z h0 w "com/example/ringshift/ringshift/io/BinaryWriter") (F_w_bytes : Fld Z h0 w "com/example/ringshift/ringshift/io/BinaryWriter" "bytes" "[B" .null) (F_w_size : Fld Z h0 w "com/example/ringshift/ringshift/io/BinaryWriter" "size" "I" (.int 0)) (g_w : n0 ≤ w) :
   own_Met l Z oy10 prog_81_method_1_code 1 none ws ({ frames := 2, cells := 1, slots := 64, locals := 25 } : Room) #[.ref w] h0 (fun v h L => ∃ r : Addr, ∃ kr : ClassId, v = none ∧ Fr n0 L ∧ Keep h0 h [w] ∧ h0.size ≤ r ∧ Fld Z h w "com/example/ringshift/ringshift/io/BinaryWriter" "bytes" "[B" (.ref r) ∧ Fld Z h w "com/example/ringshift/ringshift/io/BinaryWriter" "size" "I" (.int 0) ∧ own_Buf Z h r kr (64 : Int32)) := by
 refine own_body (plainFor_of_name own_pn_com_example_ringshift_ringshift_io_BinaryWriter) (fun p e s m below meth c s₁ hx hby hml0 hrt hlk hown0 hnm hZ X0 e0 => ?_)
 have N0 := Fr.nil n0
 have hown : s.vm.findClass "com/example/ringshift/ringshift/io/BinaryWriter" = some m.cls := hown0
 have hml : c.maxLocals = 1 := hml0
 refine own_castG (own_ef31 m w) ?_
 refine oS (fun t k => XS.aloadN X0.here hx rfl (hb hby op81_1_0) rfl rfl k) ?_
 refine oS (fun t k => XS.bipush X0.here hx rfl (hb hby op81_1_1) k) ?_
 show oG _ _ _ _ s₁ (mkF m 3 #[oR w] [.int 64, .ref w])
 refine own_callC X0 hx hZ (y := oy11) rfl hown (oW hw 68 rfl) (oW hw 69 rfl) (oW hw 70 rfl) (oW hw 64 rfl) (by decide) 0 (a := w) [.int 64] [] (own_bwi1 l Z a0 hw [] w h0 n0 Z0 E_w F_w_bytes F_w_size g_w) e0  (by decide) (by decide) (by decide) (by decide) (g := (mkF m 3 #[oR w] [.int 64, .ref w])) rfl (by rw [hml]; rfl) own_pd14 rfl rfl (by show 2 * 0 + _ ≤ _; exact Nat.le_of_eq rfl) (hb hby op81_1_3) ?_
 intro T1 v1 L1 X1 hQ1
 obtain ⟨b1_0, k1_0, rfl, N1q, Kq1, zq1_0, q1_0, q1_1, q1_2⟩ := hQ1
 have N1 := Fr.app N0 N1q
 have K1 := (Keep.refl h0 [w]).trans Kq1 (allS (Or.inl (List.mem_of_getElem? (i := 0) rfl)) all0)
 have g_b1_0 : n0 ≤ b1_0 := Nat.le_trans Z0 zq1_0
 have sz_b1_0 : h0.size ≤ b1_0 := Nat.le_trans (Keep.refl h0 [w]).1 zq1_0
 have ne_w_b1_0 : w ≠ b1_0 := Nat.ne_of_lt (Nat.lt_of_lt_of_le E_w.lt zq1_0)
 have q1_0' : Fld Z T1.heap w "com/example/ringshift/ringshift/io/BinaryWriter" "bytes" "[B" (.ref b1_0) := q1_0
 have q1_1' : Fld Z T1.heap w "com/example/ringshift/ringshift/io/BinaryWriter" "size" "I" (.int 0) := q1_1
 have q1_2' : own_Buf Z T1.heap b1_0 k1_0 (64 : Int32) := q1_2
 show oG _ _ _ _ T1 (mkF m 6 #[oR w] [])
 exact own_retV X1 hx hlk hrt (hb hby op81_1_6) (by exact ⟨b1_0, k1_0, rfl, N1, K1, sz_b1_0, q1_0', q1_1', q1_2'⟩) (by decide) (by decide)
theorem own_ef32 (m : MethodId) (x0 : Addr) : entryFrame m #[.ref x0] 1 = mkF m 0 #[.val (.ref x0)] [] := by first | (simp [entryFrame, mkF, argsToLocals, Value.category]; done) | rfl
theorem op71_1_0 : decode prog_71_method_1_code 0 = .ok (.aload_n 0, 1) := by decide +kernel
theorem op71_1_1 : decode prog_71_method_1_code 1 = .ok (.invokespecial 1, 3) := by decide +kernel
theorem op71_1_4 : decode prog_71_method_1_code 4 = .ok (.aload_n 0, 1) := by decide +kernel
theorem op71_1_5 : decode prog_71_method_1_code 5 = .ok (.new 7, 3) := by decide +kernel
theorem op71_1_8 : decode prog_71_method_1_code 8 = .ok (.dup, 1) := by decide +kernel
theorem op71_1_9 : decode prog_71_method_1_code 9 = .ok (.invokespecial 9, 3) := by decide +kernel
theorem op71_1_12 : decode prog_71_method_1_code 12 = .ok (.putfield 10, 3) := by decide +kernel
theorem op71_1_15 : decode prog_71_method_1_code 15 = .ok (.return_, 1) := by decide +kernel
set_option maxRecDepth 65536 in
set_option maxHeartbeats 40000000 in
theorem own_bli (l : Launch) (Z : State) (a0 : Array Value) (hw : ∀ d ∈ tables_1, d.before a0 Z = true) (ws : List Jvm.Cond) (bd : Addr) (h0 : Heap) (n0 : Nat) (Z0 : n0 ≤ h0.size) (E_bd : Exa Z h0 bd "com/example/ringshift/ringshift/data/RowBatch$Builder") (F_bd_rows : Fld Z h0 bd "com/example/ringshift/ringshift/data/RowBatch$Builder" "rows" "Lcom/example/ringshift/ringshift/io/BinaryWriter;" .null) (F_bd_count : Fld Z h0 bd "com/example/ringshift/ringshift/data/RowBatch$Builder" "count" "I" (.int 0)) (g_bd : n0 ≤ bd) :
   own_Met l Z oy5 prog_71_method_1_code 1 none ws ({ frames := 3, cells := 2, slots := 66, locals := 39 } : Room) #[.ref bd] h0 (fun v h L => ∃ w : Addr, ∃ r : Addr, ∃ kr : ClassId, v = none ∧ Fr n0 L ∧ Keep h0 h [bd] ∧ h0.size ≤ w ∧ h0.size ≤ r ∧ Fld Z h bd "com/example/ringshift/ringshift/data/RowBatch$Builder" "rows" "Lcom/example/ringshift/ringshift/io/BinaryWriter;" (.ref w) ∧ Fld Z h bd "com/example/ringshift/ringshift/data/RowBatch$Builder" "count" "I" (.int 0) ∧ Exa Z h w "com/example/ringshift/ringshift/io/BinaryWriter" ∧ Fld Z h w "com/example/ringshift/ringshift/io/BinaryWriter" "bytes" "[B" (.ref r) ∧ Fld Z h w "com/example/ringshift/ringshift/io/BinaryWriter" "size" "I" (.int 0) ∧ own_Buf Z h r kr (64 : Int32)) := by
 refine own_body (plainFor_of_name own_pn_com_example_ringshift_ringshift_data_RowBatch_Builder) (fun p e s m below meth c s₁ hx hby hml0 hrt hlk hown0 hnm hZ X0 e0 => ?_)
 have N0 := Fr.nil n0
 have hown : s.vm.findClass "com/example/ringshift/ringshift/data/RowBatch$Builder" = some m.cls := hown0
 have hml : c.maxLocals = 1 := hml0
 refine own_castG (own_ef32 m bd) ?_
 refine oS (fun t k => XS.aloadN X0.here hx rfl (hb hby op71_1_0) rfl rfl k) ?_
 show oG _ _ _ _ s₁ (mkF m 1 #[oR bd] [.ref bd])
 obtain ⟨T1, X1, e1, st1⟩ := initO X0 hx hZ hown (oW hw 61 rfl) (oW hw 12 rfl) (oW hw 13 rfl) e0 (g := (mkF m 1 #[oR bd] [.ref bd])) rfl (by rw [hml]; rfl) rfl (hb hby op71_1_1) (by decide) (W := 0) (by show 2 * 0 + _ ≤ _; exact Nat.le_of_eq rfl) (by decide)
 refine oS st1 ?_
 refine oS (fun t k => XS.aloadN X1.here hx rfl (hb hby op71_1_4) rfl rfl k) ?_
 show oG _ _ _ _ T1 (mkF m 5 #[oR bd] [.ref bd])
 obtain ⟨T2, h2, X2, e2, E2, A2, D2, -, st2⟩ := newO X1 hx hZ hown (oW hw 62 rfl) (oW hw 63 rfl) (oW hw 64 rfl) e1 (g := (mkF m 5 #[oR bd] [.ref bd])) rfl (hb hby op71_1_5) (by decide) (by decide)
 obtain ⟨b2, g2⟩ : ∃ z, z = h0.size := ⟨_, rfl⟩
 rw [← g2] at A2 D2 st2
 refine oS st2 ?_
 have g_b2 : n0 ≤ b2 := Nat.le_trans Z0 (Nat.le_of_eq g2.symm)
 have sz_b2 : h0.size ≤ b2 := Nat.le_trans (Keep.refl h0 [bd]).1 (Nat.le_of_eq g2.symm)
 have ne_bd_b2 : bd ≠ b2 := Nat.ne_of_lt (Nat.lt_of_lt_of_le E_bd.lt (Nat.le_of_eq g2.symm))
 have K2 := (Keep.refl h0 [bd]).ext E2
 have F_b2_bytes : Fld Z h2 b2 "com/example/ringshift/ringshift/io/BinaryWriter" "bytes" "[B" .null := D2 (Or.inl (oW hw 73 rfl)) (ty := (.array .byte)) (by decide)
 have F_b2_size : Fld Z h2 b2 "com/example/ringshift/ringshift/io/BinaryWriter" "size" "I" (.int 0) := D2 (Or.inl (oW hw 87 rfl)) (ty := .int) (by decide)
 refine oS (fun t k => XS.dup X2.here hx rfl (hb hby op71_1_8) rfl rfl k) ?_
 show oG _ _ _ _ T2 (mkF m 9 #[oR bd] [.ref b2, .ref b2, .ref bd])
 refine own_callC X2 hx hZ (y := oy10) rfl hown (oW hw 65 rfl) (oW hw 66 rfl) (oW hw 67 rfl) (oW hw 64 rfl) (by decide) 2 (a := b2) [] [.ref b2, .ref bd] (own_bwi0 l Z a0 hw [] b2 h2 n0 (Nat.le_trans Z0 K2.1) A2 F_b2_bytes F_b2_size g_b2) e2  (by decide) (by decide) (by decide) (by decide) (g := (mkF m 9 #[oR bd] [.ref b2, .ref b2, .ref bd])) rfl (by rw [hml]; rfl) own_pd22 rfl rfl (by show 2 * 0 + _ ≤ _; exact Nat.le_of_eq rfl) (hb hby op71_1_9) ?_
 intro T3 v3 L3 X3 hQ3
 have E_bd_v4 := (E_bd.ext E2)
 obtain ⟨b3_0, k3_0, rfl, N3q, Kq3, zq3_0, q3_0, q3_1, q3_2⟩ := hQ3
 have N3 := Fr.app N0 N3q
 have K3 := K2.trans Kq3 (allS (Or.inr sz_b2) all0)
 have g_b3_0 : n0 ≤ b3_0 := Nat.le_trans (Nat.le_trans Z0 K2.1) zq3_0
 have sz_b3_0 : h0.size ≤ b3_0 := Nat.le_trans K2.1 zq3_0
 have ne_bd_b3_0 : bd ≠ b3_0 := Nat.ne_of_lt (Nat.lt_of_lt_of_le E_bd_v4.lt zq3_0)
 have ne_b2_b3_0 : b2 ≠ b3_0 := Nat.ne_of_lt (Nat.lt_of_lt_of_le A2.lt zq3_0)
 have q3_0' : Fld Z T3.heap b2 "com/example/ringshift/ringshift/io/BinaryWriter" "bytes" "[B" (.ref b3_0) := q3_0
 have q3_1' : Fld Z T3.heap b2 "com/example/ringshift/ringshift/io/BinaryWriter" "size" "I" (.int 0) := q3_1
 have q3_2' : own_Buf Z T3.heap b3_0 k3_0 (64 : Int32) := q3_2
 show oG _ _ _ _ T3 (mkF m 12 #[oR bd] [.ref b2, .ref bd])
 have E_bd_v6 := (E_bd_v4.keep Kq3)
 have F_bd_rows_v7 := ((F_bd_rows.ext E2).keep Kq3 (ninS ne_bd_b2 nin0))
 obtain ⟨T5, h5, X5, e5, W5, st5⟩ := putF X3 hx hZ hown (host := "") (Or.inl (oW hw 74 rfl)) Via.refl rfl F_bd_rows_v7 E_bd_v6 (Or.inr ⟨(oW hw 75 rfl), rfl, hnm⟩) (oW hw 56 rfl) (ty := (.object "com/example/ringshift/ringshift/io/BinaryWriter")) (by decide) rfl rfl (g := (mkF m 12 #[oR bd] [.ref b2, .ref bd])) rfl rfl (hb hby op71_1_12)
 refine oS st5 ?_
 have F5 := F_bd_rows_v7.same W5
 have K5 := K3.wr W5 (Or.inl (List.mem_of_getElem? (i := 0) rfl))
 have N5 := Fr.snoc X5 N3 g_bd
 show oG _ _ _ _ T5 (mkF m 15 #[oR bd] [])
 have F_bd_count_v8 := (((F_bd_count.ext E2).keep Kq3 (ninS ne_bd_b2 nin0)).other W5 (Or.inr (slot_ne (Or.inl (oW hw 89 rfl)) (Or.inr (oW hw 75 rfl)) (by decide) (t := .int) (t' := (.object "com/example/ringshift/ringshift/io/BinaryWriter")) (by decide) (by decide))))
 have A2_v9 := ((A2.keep Kq3).wr W5)
 have q3_0'_v10 := (q3_0'.other W5 (Or.inl (Ne.symm ne_bd_b2)))
 have q3_1'_v11 := (q3_1'.other W5 (Or.inl (Ne.symm ne_bd_b2)))
 have q3_2'_v12 := (q3_2'.other W5 (Ne.symm ne_bd_b3_0))
 exact own_retV X5 hx hlk hrt (hb hby op71_1_15) (by rw [e5]; exact ⟨b2, b3_0, k3_0, rfl, N5, K5, sz_b2, sz_b3_0, F5, F_bd_count_v8, A2_v9, q3_0'_v10, q3_1'_v11, q3_2'_v12⟩) (by decide) (by decide)
theorem own_ef33 (m : MethodId) (x0 : Addr) : entryFrame m #[.ref x0] 1 = mkF m 0 #[.val (.ref x0)] [] := by first | (simp [entryFrame, mkF, argsToLocals, Value.category]; done) | rfl
theorem op81_17_0 : decode prog_81_method_17_code 0 = .ok (.aload_n 0, 1) := by decide +kernel
theorem op81_17_1 : decode prog_81_method_17_code 1 = .ok (.iconst 0, 1) := by decide +kernel
theorem op81_17_2 : decode prog_81_method_17_code 2 = .ok (.putfield 21, 3) := by decide +kernel
theorem op81_17_5 : decode prog_81_method_17_code 5 = .ok (.aload_n 0, 1) := by decide +kernel
theorem op81_17_6 : decode prog_81_method_17_code 6 = .ok (.areturn, 1) := by decide +kernel
set_option maxRecDepth 65536 in
set_option maxHeartbeats 40000000 in
theorem own_bcl (l : Launch) (Z : State) (a0 : Array Value) (hw : ∀ d ∈ tables_1, d.before a0 Z = true) (ws : List Jvm.Cond) (w : Addr) (sz : Int32) (r : Addr) (h0 : Heap) (n0 : Nat) (Z0 : n0 ≤ h0.size) (E_w : Exa Z h0 w "com/example/ringshift/ringshift/io/BinaryWriter") (F_w_size : Fld Z h0 w "com/example/ringshift/ringshift/io/BinaryWriter" "size" "I" (.int sz)) (F_w_bytes : Fld Z h0 w "com/example/ringshift/ringshift/io/BinaryWriter" "bytes" "[B" (.ref r)) (g_w : n0 ≤ w) :
   own_Met l Z oy12 prog_81_method_17_code 1 (some (.object "com/example/ringshift/ringshift/io/BinaryWriter")) ws ({ frames := 0, cells := 0, slots := 0, locals := 0 } : Room) #[.ref w] h0 (fun v h L => v = some (.ref w) ∧ Fr n0 L ∧ Keep h0 h [w] ∧ Fld Z h w "com/example/ringshift/ringshift/io/BinaryWriter" "size" "I" (.int 0) ∧ Fld Z h w "com/example/ringshift/ringshift/io/BinaryWriter" "bytes" "[B" (.ref r)) := by
 refine own_body (plainFor_of_name own_pn_com_example_ringshift_ringshift_io_BinaryWriter) (fun p e s m below meth c s₁ hx hby hml0 hrt hlk hown0 hnm hZ X0 e0 => ?_)
 have N0 := Fr.nil n0
 have hown : s.vm.findClass "com/example/ringshift/ringshift/io/BinaryWriter" = some m.cls := hown0
 have hml : c.maxLocals = 1 := hml0
 refine own_castG (own_ef33 m w) ?_
 refine oS (fun t k => XS.aloadN X0.here hx rfl (hb hby op81_17_0) rfl rfl k) ?_
 refine oS (fun t k => XS.iconst X0.here hx rfl (hb hby op81_17_1) k) ?_
 show oG _ _ _ _ s₁ (mkF m 2 #[oR w] [.int 0, .ref w])
 obtain ⟨T1, h1, X1, e1, W1, st1⟩ := putF X0 hx hZ hown (host := "") (Or.inl (oW hw 86 rfl)) Via.refl e0 F_w_size E_w (Or.inl (oW hw 87 rfl)) (oW hw 63 rfl) (ty := .int) (by decide) rfl rfl (g := (mkF m 2 #[oR w] [.int 0, .ref w])) rfl rfl (hb hby op81_17_2)
 refine oS st1 ?_
 have F1 := F_w_size.same W1
 have K1 := (Keep.refl h0 [w]).wr W1 (Or.inl (List.mem_of_getElem? (i := 0) rfl))
 have N1 := Fr.snoc X1 N0 g_w
 refine oS (fun t k => XS.aloadN X1.here hx rfl (hb hby op81_17_5) rfl rfl k) ?_
 show oG _ _ _ _ T1 (mkF m 6 #[oR w] [.ref w])
 have F_w_bytes_v2 := (F_w_bytes.other W1 (Or.inr (slot_ne (Or.inl (oW hw 73 rfl)) (Or.inl (oW hw 87 rfl)) (by decide) (t := (.array .byte)) (t' := .int) (by decide) (by decide))))
 exact own_retA X1 hx hlk hrt rfl rfl rfl (hb hby op81_17_6) (by rw [e1]; exact ⟨rfl, N1, K1, F1, F_w_bytes_v2⟩) (by decide) (by decide)
theorem own_ef34 (m : MethodId) (x0 : Addr) : entryFrame m #[.ref x0] 1 = mkF m 0 #[.val (.ref x0)] [] := by first | (simp [entryFrame, mkF, argsToLocals, Value.category]; done) | rfl
theorem op81_14_0 : decode prog_81_method_14_code 0 = .ok (.aload_n 0, 1) := by decide +kernel
theorem op81_14_1 : decode prog_81_method_14_code 1 = .ok (.getfield 21, 3) := by decide +kernel
theorem op81_14_4 : decode prog_81_method_14_code 4 = .ok (.ireturn, 1) := by decide +kernel
set_option maxRecDepth 65536 in
set_option maxHeartbeats 40000000 in
theorem own_bsz (l : Launch) (Z : State) (a0 : Array Value) (hw : ∀ d ∈ tables_1, d.before a0 Z = true) (ws : List Jvm.Cond) (w : Addr) (sz : Int32) (h0 : Heap) (n0 : Nat) (Z0 : n0 ≤ h0.size) (F_w_size : Fld Z h0 w "com/example/ringshift/ringshift/io/BinaryWriter" "size" "I" (.int sz)) :
   own_Met l Z oy14 prog_81_method_14_code 1 (some .int) ws ({ frames := 0, cells := 0, slots := 0, locals := 0 } : Room) #[.ref w] h0 (fun v h L => v = some (.int sz) ∧ Fr n0 L ∧ h = h0) := by
 refine own_body (plainFor_of_name own_pn_com_example_ringshift_ringshift_io_BinaryWriter) (fun p e s m below meth c s₁ hx hby hml0 hrt hlk hown0 hnm hZ X0 e0 => ?_)
 have N0 := Fr.nil n0
 have hown : s.vm.findClass "com/example/ringshift/ringshift/io/BinaryWriter" = some m.cls := hown0
 have hml : c.maxLocals = 1 := hml0
 refine own_castG (own_ef34 m w) ?_
 refine oS (fun t k => XS.aloadN X0.here hx rfl (hb hby op81_14_0) rfl rfl k) ?_
 show oG _ _ _ _ s₁ (mkF m 1 #[oR w] [.ref w])
 obtain ⟨T1, X1, e1, st1⟩ := getF X0 hx hZ hown (host := "") (Or.inl (oW hw 86 rfl)) Via.refl e0 F_w_size (g := (mkF m 1 #[oR w] [.ref w])) rfl rfl (hb hby op81_14_1)
 refine oS st1 ?_
 show oG _ _ _ _ T1 (mkF m 4 #[oR w] [.int sz])
 exact own_retI X1 hx hlk hrt (hb hby op81_14_4) ⟨rfl, N0, e1⟩ (by decide) (by decide)
theorem own_ef35 (m : MethodId) (x0 : Addr) : entryFrame m #[.ref x0] 1 = mkF m 0 #[.val (.ref x0)] [] := by first | (simp [entryFrame, mkF, argsToLocals, Value.category]; done) | rfl
theorem op71_6_0 : decode prog_71_method_6_code 0 = .ok (.aload_n 0, 1) := by decide +kernel
theorem op71_6_1 : decode prog_71_method_6_code 1 = .ok (.getfield 10, 3) := by decide +kernel
theorem op71_6_4 : decode prog_71_method_6_code 4 = .ok (.invokevirtual 39, 3) := by decide +kernel
theorem own_pd24 : parseMethodDescriptor "()Lcom/example/ringshift/ringshift/io/BinaryWriter;" = some ⟨[], some (.object "com/example/ringshift/ringshift/io/BinaryWriter")⟩ := by decide +kernel
theorem op71_6_7 : decode prog_71_method_6_code 7 = .ok (.pop, 1) := by decide +kernel
theorem op71_6_8 : decode prog_71_method_6_code 8 = .ok (.aload_n 0, 1) := by decide +kernel
theorem op71_6_9 : decode prog_71_method_6_code 9 = .ok (.iconst 0, 1) := by decide +kernel
theorem op71_6_10 : decode prog_71_method_6_code 10 = .ok (.putfield 22, 3) := by decide +kernel
theorem op71_6_13 : decode prog_71_method_6_code 13 = .ok (.aload_n 0, 1) := by decide +kernel
theorem op71_6_14 : decode prog_71_method_6_code 14 = .ok (.areturn, 1) := by decide +kernel
set_option maxRecDepth 65536 in
set_option maxHeartbeats 40000000 in
theorem own_clr (l : Launch) (Z : State) (a0 : Array Value) (hw : ∀ d ∈ tables_1, d.before a0 Z = true) (ws : List Jvm.Cond) (bd : Addr) (w : Addr) (cn : Int32) (sz : Int32) (r : Addr) (h0 : Heap) (n0 : Nat) (Z0 : n0 ≤ h0.size) (E_bd : Exa Z h0 bd "com/example/ringshift/ringshift/data/RowBatch$Builder") (F_bd_rows : Fld Z h0 bd "com/example/ringshift/ringshift/data/RowBatch$Builder" "rows" "Lcom/example/ringshift/ringshift/io/BinaryWriter;" (.ref w)) (F_bd_count : Fld Z h0 bd "com/example/ringshift/ringshift/data/RowBatch$Builder" "count" "I" (.int cn)) (E_w : Exa Z h0 w "com/example/ringshift/ringshift/io/BinaryWriter") (F_w_size : Fld Z h0 w "com/example/ringshift/ringshift/io/BinaryWriter" "size" "I" (.int sz)) (F_w_bytes : Fld Z h0 w "com/example/ringshift/ringshift/io/BinaryWriter" "bytes" "[B" (.ref r)) (g_bd : n0 ≤ bd) (g_w : n0 ≤ w) (nbdw : ¬ (bd = w)) :
   own_Met l Z oy8 prog_71_method_6_code 1 (some (.object "com/example/ringshift/ringshift/data/RowBatch$Builder")) ws ({ frames := 1, cells := 0, slots := 0, locals := 12 } : Room) #[.ref bd] h0 (fun v h L => v = some (.ref bd) ∧ Fr n0 L ∧ Keep h0 h [bd, w] ∧ Fld Z h bd "com/example/ringshift/ringshift/data/RowBatch$Builder" "rows" "Lcom/example/ringshift/ringshift/io/BinaryWriter;" (.ref w) ∧ Fld Z h w "com/example/ringshift/ringshift/io/BinaryWriter" "bytes" "[B" (.ref r) ∧ Fld Z h bd "com/example/ringshift/ringshift/data/RowBatch$Builder" "count" "I" (.int 0) ∧ Fld Z h w "com/example/ringshift/ringshift/io/BinaryWriter" "size" "I" (.int 0)) := by
 refine own_body (plainFor_of_name own_pn_com_example_ringshift_ringshift_data_RowBatch_Builder) (fun p e s m below meth c s₁ hx hby hml0 hrt hlk hown0 hnm hZ X0 e0 => ?_)
 have N0 := Fr.nil n0
 have hown : s.vm.findClass "com/example/ringshift/ringshift/data/RowBatch$Builder" = some m.cls := hown0
 have hml : c.maxLocals = 1 := hml0
 refine own_castG (own_ef35 m bd) ?_
 refine oS (fun t k => XS.aloadN X0.here hx rfl (hb hby op71_6_0) rfl rfl k) ?_
 show oG _ _ _ _ s₁ (mkF m 1 #[oR bd] [.ref bd])
 obtain ⟨T1, X1, e1, st1⟩ := getF X0 hx hZ hown (host := "") (Or.inl (oW hw 74 rfl)) Via.refl e0 F_bd_rows (g := (mkF m 1 #[oR bd] [.ref bd])) rfl rfl (hb hby op71_6_1)
 refine oS st1 ?_
 show oG _ _ _ _ T1 (mkF m 4 #[oR bd] [.ref w])
 refine own_callV X1 hx hZ (y := oy12) (z := oy12) hown (oW hw 81 rfl) (oW hw 82 rfl) (notFace_of_selects (args := #[]) (mvT hZ (oW hw 84 rfl))) (oW hw 84 rfl) (oW hw 83 rfl) (oW hw 85 rfl) (oW hw 64 rfl) (by decide) 0 E_w [] [] (own_bcl l Z a0 hw [] w sz r h0 n0 Z0 E_w F_w_size F_w_bytes g_w) e1  (by decide) (by decide) (by decide) (by decide) (g := (mkF m 4 #[oR bd] [.ref w])) rfl (by rw [hml]; rfl) own_pd24 rfl rfl (by show 2 * 0 + _ ≤ _; exact Nat.le_of_eq rfl) (hb hby op71_6_4) ?_
 intro T2 v2 L2 X2 hQ2
 obtain ⟨rfl, N2q, Kq2, q2_0, q2_1⟩ := hQ2
 have N2 := Fr.app N0 N2q
 have K2 := (Keep.refl h0 [bd, w]).trans Kq2 (allS (Or.inl (List.mem_of_getElem? (i := 1) rfl)) all0)
 have q2_0' : Fld Z T2.heap w "com/example/ringshift/ringshift/io/BinaryWriter" "size" "I" (.int 0) := q2_0
 have q2_1' : Fld Z T2.heap w "com/example/ringshift/ringshift/io/BinaryWriter" "bytes" "[B" (.ref r) := q2_1
 refine oS (fun t k => XS.pop X2.here hx rfl (hb hby op71_6_7) rfl rfl k) ?_
 refine oS (fun t k => XS.aloadN X2.here hx rfl (hb hby op71_6_8) rfl rfl k) ?_
 refine oS (fun t k => XS.iconst X2.here hx rfl (hb hby op71_6_9) k) ?_
 show oG _ _ _ _ T2 (mkF m 10 #[oR bd] [.int 0, .ref bd])
 have E_bd_v4 := (E_bd.keep Kq2)
 have F_bd_count_v5 := (F_bd_count.keep Kq2 (ninS nbdw nin0))
 obtain ⟨T3, h3, X3, e3, W3, st3⟩ := putF X2 hx hZ hown (host := "") (Or.inl (oW hw 88 rfl)) Via.refl rfl F_bd_count_v5 E_bd_v4 (Or.inl (oW hw 89 rfl)) (oW hw 56 rfl) (ty := .int) (by decide) rfl rfl (g := (mkF m 10 #[oR bd] [.int 0, .ref bd])) rfl rfl (hb hby op71_6_10)
 refine oS st3 ?_
 have F3 := F_bd_count_v5.same W3
 have K3 := K2.wr W3 (Or.inl (List.mem_of_getElem? (i := 0) rfl))
 have N3 := Fr.snoc X3 N2 g_bd
 refine oS (fun t k => XS.aloadN X3.here hx rfl (hb hby op71_6_13) rfl rfl k) ?_
 show oG _ _ _ _ T3 (mkF m 14 #[oR bd] [.ref bd])
 have F_bd_rows_v6 := ((F_bd_rows.keep Kq2 (ninS nbdw nin0)).other W3 (Or.inr (slot_ne (Or.inr (oW hw 75 rfl)) (Or.inl (oW hw 89 rfl)) (by decide) (t := (.object "com/example/ringshift/ringshift/io/BinaryWriter")) (t' := .int) (by decide) (by decide))))
 have q2_1'_v7 := (q2_1'.other W3 (Or.inl (Ne.symm nbdw)))
 have q2_0'_v8 := (q2_0'.other W3 (Or.inl (Ne.symm nbdw)))
 exact own_retA X3 hx hlk hrt rfl rfl rfl (hb hby op71_6_14) (by rw [e3]; exact ⟨rfl, N3, K3, F_bd_rows_v6, q2_1'_v7, F3, q2_0'_v8⟩) (by decide) (by decide)
theorem own_ef36 (m : MethodId) (x0 : Addr) : entryFrame m #[.ref x0] 1 = mkF m 0 #[.val (.ref x0)] [] := by first | (simp [entryFrame, mkF, argsToLocals, Value.category]; done) | rfl
theorem op71_3_0 : decode prog_71_method_3_code 0 = .ok (.aload_n 0, 1) := by decide +kernel
theorem op71_3_1 : decode prog_71_method_3_code 1 = .ok (.getfield 22, 3) := by decide +kernel
theorem op71_3_4 : decode prog_71_method_3_code 4 = .ok (.ireturn, 1) := by decide +kernel
set_option maxRecDepth 65536 in
set_option maxHeartbeats 40000000 in
theorem own_cnt (l : Launch) (Z : State) (a0 : Array Value) (hw : ∀ d ∈ tables_1, d.before a0 Z = true) (ws : List Jvm.Cond) (bd : Addr) (cn : Int32) (h0 : Heap) (n0 : Nat) (Z0 : n0 ≤ h0.size) (F_bd_count : Fld Z h0 bd "com/example/ringshift/ringshift/data/RowBatch$Builder" "count" "I" (.int cn)) :
   own_Met l Z oy9 prog_71_method_3_code 1 (some .int) ws ({ frames := 0, cells := 0, slots := 0, locals := 0 } : Room) #[.ref bd] h0 (fun v h L => v = some (.int cn) ∧ Fr n0 L ∧ h = h0) := by
 refine own_body (plainFor_of_name own_pn_com_example_ringshift_ringshift_data_RowBatch_Builder) (fun p e s m below meth c s₁ hx hby hml0 hrt hlk hown0 hnm hZ X0 e0 => ?_)
 have N0 := Fr.nil n0
 have hown : s.vm.findClass "com/example/ringshift/ringshift/data/RowBatch$Builder" = some m.cls := hown0
 have hml : c.maxLocals = 1 := hml0
 refine own_castG (own_ef36 m bd) ?_
 refine oS (fun t k => XS.aloadN X0.here hx rfl (hb hby op71_3_0) rfl rfl k) ?_
 show oG _ _ _ _ s₁ (mkF m 1 #[oR bd] [.ref bd])
 obtain ⟨T1, X1, e1, st1⟩ := getF X0 hx hZ hown (host := "") (Or.inl (oW hw 88 rfl)) Via.refl e0 F_bd_count (g := (mkF m 1 #[oR bd] [.ref bd])) rfl rfl (hb hby op71_3_1)
 refine oS st1 ?_
 show oG _ _ _ _ T1 (mkF m 4 #[oR bd] [.int cn])
 exact own_retI X1 hx hlk hrt (hb hby op71_3_4) ⟨rfl, N0, e1⟩ (by decide) (by decide)
theorem own_ef37 (m : MethodId) (x0 : Addr) : entryFrame m #[.ref x0] 1 = mkF m 0 #[.val (.ref x0)] [] := by first | (simp [entryFrame, mkF, argsToLocals, Value.category]; done) | rfl
theorem op71_4_0 : decode prog_71_method_4_code 0 = .ok (.aload_n 0, 1) := by decide +kernel
theorem op71_4_1 : decode prog_71_method_4_code 1 = .ok (.getfield 10, 3) := by decide +kernel
theorem op71_4_4 : decode prog_71_method_4_code 4 = .ok (.invokevirtual 26, 3) := by decide +kernel
theorem op71_4_7 : decode prog_71_method_4_code 7 = .ok (.ireturn, 1) := by decide +kernel
set_option maxRecDepth 65536 in
set_option maxHeartbeats 40000000 in
theorem own_byt (l : Launch) (Z : State) (a0 : Array Value) (hw : ∀ d ∈ tables_1, d.before a0 Z = true) (ws : List Jvm.Cond) (bd : Addr) (w : Addr) (sz : Int32) (h0 : Heap) (n0 : Nat) (Z0 : n0 ≤ h0.size) (F_bd_rows : Fld Z h0 bd "com/example/ringshift/ringshift/data/RowBatch$Builder" "rows" "Lcom/example/ringshift/ringshift/io/BinaryWriter;" (.ref w)) (E_w : Exa Z h0 w "com/example/ringshift/ringshift/io/BinaryWriter") (F_w_size : Fld Z h0 w "com/example/ringshift/ringshift/io/BinaryWriter" "size" "I" (.int sz)) :
   own_Met l Z oy7 prog_71_method_4_code 1 (some .int) ws ({ frames := 1, cells := 0, slots := 0, locals := 12 } : Room) #[.ref bd] h0 (fun v h L => v = some (.int sz) ∧ Fr n0 L ∧ h = h0) := by
 refine own_body (plainFor_of_name own_pn_com_example_ringshift_ringshift_data_RowBatch_Builder) (fun p e s m below meth c s₁ hx hby hml0 hrt hlk hown0 hnm hZ X0 e0 => ?_)
 have N0 := Fr.nil n0
 have hown : s.vm.findClass "com/example/ringshift/ringshift/data/RowBatch$Builder" = some m.cls := hown0
 have hml : c.maxLocals = 1 := hml0
 refine own_castG (own_ef37 m bd) ?_
 refine oS (fun t k => XS.aloadN X0.here hx rfl (hb hby op71_4_0) rfl rfl k) ?_
 show oG _ _ _ _ s₁ (mkF m 1 #[oR bd] [.ref bd])
 obtain ⟨T1, X1, e1, st1⟩ := getF X0 hx hZ hown (host := "") (Or.inl (oW hw 74 rfl)) Via.refl e0 F_bd_rows (g := (mkF m 1 #[oR bd] [.ref bd])) rfl rfl (hb hby op71_4_1)
 refine oS st1 ?_
 show oG _ _ _ _ T1 (mkF m 4 #[oR bd] [.ref w])
 refine own_callV X1 hx hZ (y := oy14) (z := oy14) hown (oW hw 100 rfl) (oW hw 101 rfl) (notFace_of_selects (args := #[]) (mvT hZ (oW hw 103 rfl))) (oW hw 103 rfl) (oW hw 102 rfl) (oW hw 104 rfl) (oW hw 64 rfl) (by decide) 0 E_w [] [] (own_bsz l Z a0 hw [] w sz h0 n0 Z0 F_w_size) e1  (by decide) (by decide) (by decide) (by decide) (g := (mkF m 4 #[oR bd] [.ref w])) rfl (by rw [hml]; rfl) own_pd17 rfl rfl (by show 2 * 0 + _ ≤ _; exact Nat.le_of_eq rfl) (hb hby op71_4_4) ?_
 intro T2 v2 L2 X2 hQ2
 obtain ⟨rfl, N2q, e2⟩ := hQ2
 have N2 := Fr.app N0 N2q
 show oG _ _ _ _ T2 (mkF m 7 #[oR bd] [.int sz])
 exact own_retI X2 hx hlk hrt (hb hby op71_4_7) ⟨rfl, N2, e2⟩ (by decide) (by decide)
def own_ui (c : Int32) : Int32 := if c < (128 : Int32) then 1 else 2
theorem own_uiT (c : Int32) : (own_ui c).toInt = own_u c := by
 by_cases h : c < (128 : Int32)
 · rw [own_u1 h, own_ui, if_pos h]; decide
 · rw [own_u2 h, own_ui, if_neg h]; decide
theorem own_pn_com_example_ringshift_ringshift_data_BuilderClearPinLaw : plainName "com/example/ringshift/ringshift/data/BuilderClearPinLaw" = true := by first | (simp [plainName, overriddenIn]; done) | decide +kernel
theorem own_ef38 (m : MethodId) (x0 : Int32) : entryFrame m #[.int x0] 1 = mkF m 0 #[.val (.int x0)] [] := by first | (simp [entryFrame, mkF, argsToLocals, Value.category]; done) | rfl
theorem own_method_2_0 : decode method_2_code 0 = .ok (.iload_n 0, 1) := by decide +kernel
theorem own_method_2_1 : decode method_2_code 1 = .ok (.sipush 128, 3) := by decide +kernel
theorem own_method_2_4 : decode method_2_code 4 = .ok (.if_icmp .ge 7, 3) := by decide +kernel
theorem own_method_2_7 : decode method_2_code 7 = .ok (.iconst 1, 1) := by decide +kernel
theorem own_method_2_8 : decode method_2_code 8 = .ok (.goto 4, 3) := by decide +kernel
theorem own_method_2_12 : decode method_2_code 12 = .ok (.ireturn, 1) := by decide +kernel
theorem own_method_2_11 : decode method_2_code 11 = .ok (.iconst 2, 1) := by decide +kernel
set_option maxRecDepth 65536 in
set_option maxHeartbeats 40000000 in
theorem own_ut8 (l : Launch) (Z : State) (a0 : Array Value) (hw : ∀ d ∈ tables_1, d.before a0 Z = true) (ws : List Jvm.Cond) (cv : Int32) (h0 : Heap) (n0 : Nat) (Z0 : n0 ≤ h0.size) :
   own_Met l Z oy0 method_2_code 1 (some .int) ws ({ frames := 0, cells := 0, slots := 0, locals := 0 } : Room) #[.int cv] h0 (fun v h L => v = some (.int (own_ui cv)) ∧ Fr n0 L ∧ h = h0) := by
 refine own_body (plainFor_of_name own_pn_com_example_ringshift_ringshift_data_BuilderClearPinLaw) (fun p e s m below meth c s₁ hx hby hml0 hrt hlk hown0 hnm hZ X0 e0 => ?_)
 have N0 := Fr.nil n0
 have hown : s.vm.findClass "com/example/ringshift/ringshift/data/BuilderClearPinLaw" = some m.cls := hown0
 have hml : c.maxLocals = 1 := hml0
 refine own_castG (own_ef38 m cv) ?_
 refine oS (fun t k => XS.iloadN X0.here hx rfl (hb hby own_method_2_0) rfl k) ?_
 refine oS (fun t k => XS.sipush X0.here hx rfl (hb hby own_method_2_1) k) ?_
 show oG _ _ _ _ s₁ (mkF m 4 #[oI cv] [.int 128, .int cv])
 by_cases hc4_1 : cv < (128 : Int32)
 · refine oS (fun t k => XS.icmpNo X0.here hx rfl (hb hby own_method_2_4) rfl (tlt (show cv < (128 : Int32) from hc4_1)).2.1 k) ?_
   refine oS (fun t k => XS.iconst X0.here hx rfl (hb hby own_method_2_7) k) ?_
   refine oS (fun t k => XS.goto X0.here hx rfl (pc0 := 8) (pc' := 12) rfl (hb hby own_method_2_8) (by decide) (by decide) k) ?_
   show oG _ _ _ _ s₁ (mkF m 12 #[oI cv] [.int 1])
   exact own_retI X0 hx hlk hrt (hb hby own_method_2_12) ⟨congrArg (fun z => some (Value.int z)) (if_pos hc4_1).symm, N0, e0⟩ (by decide) (by decide)
 · refine oS (fun t k => XS.icmpYes X0.here hx rfl (pc0 := 4) (pc' := 11) rfl (hb hby own_method_2_4) rfl (flt (show ¬ (cv < (128 : Int32)) from hc4_1)).2.1 (by decide) (by decide) k) ?_
   refine oS (fun t k => XS.iconst X0.here hx rfl (hb hby own_method_2_11) k) ?_
   show oG _ _ _ _ s₁ (mkF m 12 #[oI cv] [.int 2])
   exact own_retI X0 hx hlk hrt (hb hby own_method_2_12) ⟨congrArg (fun z => some (Value.int z)) (if_neg hc4_1).symm, N0, e0⟩ (by decide) (by decide)
theorem own_exp {z c0 c1 nn d : Int32} {dl : Int64} (hz : z.toInt = 0 + ((4 + own_u c0 + own_u c1) + (own_d dl + 4 + 4 * nn.toInt))) (hd : own_d dl = d.toInt) (hn : 0 ≤ nn.toInt ∧ nn.toInt ≤ 3) : z = ((((((4 : Int32) + own_ui c0) + own_ui c1) + d) + (4 : Int32)) + ((4 : Int32) * nn)) := by
 have u0 := own_uiT c0
 have u1 := own_uiT c1
 have r0 := own_ur c0
 have r1 := own_ur c1
 have dr := own_dr dl
 have e4 : (4 : Int32).toInt = 4 := by decide
 have a1 := own_addT (x := (4 : Int32)) (y := own_ui c0) e4 u0 (by omega) (by omega)
 have a2 := own_addT a1 u1 (by omega) (by omega)
 have a3 := own_addT a2 hd.symm (by omega) (by omega)
 have a4 := own_addT a3 e4 (by omega) (by omega)
 have m1 := c_imul (4 : Int32) nn
 have m2 := rng32 ((4 : Int32) * nn)
 rw [e4] at m1
 have m3 : ((4 : Int32) * nn).toInt = 4 * nn.toInt := by omega
 have a5 := own_addT a4 m3 (by omega) (by omega)
 rw [← Int32.toInt_inj, a5, hz]
 omega
theorem own_join {p : Program} {e : Env} {below : List Frame} {K : Outcome → State → Prop} {T : State} {g : JFrame} (P : Int32 → Prop) (F : Int32 → JFrame) (t : ∀ r, P r → oG p e below K T (F r)) (k : (∀ r, P r → oG p e below K T (F r)) → oG p e below K T g) : oG p e below K T g := k t
theorem own_ef39 (m : MethodId) (x0 : Addr) (x1 : Int32) (x2 : Addr) (x3 : Int32) (x4 : Int32) : entryFrame m #[.ref x0, .int x1, .ref x2, .int x3, .int x4] 7 = mkF m 0 #[.val (.ref x0), .val (.int x1), .val (.ref x2), .val (.int x3), .val (.int x4), .unset, .unset] [] := by first | (simp [entryFrame, mkF, argsToLocals, Value.category]; done) | rfl
theorem oj52_21_0 : decode jdk_52_method_21_code 0 = .ok (.iconst 0, 1) := by decide +kernel
theorem oj52_21_1 : decode jdk_52_method_21_code 1 = .ok (.istore 5, 2) := by decide +kernel
theorem oj52_21_3 : decode jdk_52_method_21_code 3 = .ok (.iload 5, 2) := by decide +kernel
theorem oj52_21_5 : decode jdk_52_method_21_code 5 = .ok (.iload 4, 2) := by decide +kernel
theorem oj52_21_7 : decode jdk_52_method_21_code 7 = .ok (.if_icmp .ge 37, 3) := by decide +kernel
theorem oj52_21_10 : decode jdk_52_method_21_code 10 = .ok (.aload_n 0, 1) := by decide +kernel
theorem oj52_21_11 : decode jdk_52_method_21_code 11 = .ok (.iload_n 1, 1) := by decide +kernel
theorem oj52_21_12 : decode jdk_52_method_21_code 12 = .ok (.caload, 1) := by decide +kernel
theorem oj52_21_13 : decode jdk_52_method_21_code 13 = .ok (.istore 6, 2) := by decide +kernel
theorem oj52_21_15 : decode jdk_52_method_21_code 15 = .ok (.iload 6, 2) := by decide +kernel
theorem oj52_21_17 : decode jdk_52_method_21_code 17 = .ok (.sipush 255, 3) := by decide +kernel
theorem oj52_21_20 : decode jdk_52_method_21_code 20 = .ok (.if_icmp .le 6, 3) := by decide +kernel
theorem oj52_21_26 : decode jdk_52_method_21_code 26 = .ok (.aload_n 2, 1) := by decide +kernel
theorem oj52_21_27 : decode jdk_52_method_21_code 27 = .ok (.iload_n 3, 1) := by decide +kernel
theorem oj52_21_28 : decode jdk_52_method_21_code 28 = .ok (.iload 6, 2) := by decide +kernel
theorem oj52_21_30 : decode jdk_52_method_21_code 30 = .ok (.i2b, 1) := by decide +kernel
theorem oj52_21_31 : decode jdk_52_method_21_code 31 = .ok (.bastore, 1) := by decide +kernel
theorem oj52_21_32 : decode jdk_52_method_21_code 32 = .ok (.iinc 1 1, 3) := by decide +kernel
theorem oj52_21_35 : decode jdk_52_method_21_code 35 = .ok (.iinc 3 1, 3) := by decide +kernel
theorem oj52_21_38 : decode jdk_52_method_21_code 38 = .ok (.iinc 5 1, 3) := by decide +kernel
theorem oj52_21_41 : decode jdk_52_method_21_code 41 = .ok (.goto (-38), 3) := by decide +kernel
theorem oj52_21_44 : decode jdk_52_method_21_code 44 = .ok (.iload 4, 2) := by decide +kernel
theorem oj52_21_46 : decode jdk_52_method_21_code 46 = .ok (.ireturn, 1) := by decide +kernel
set_option maxRecDepth 65536 in
set_option maxHeartbeats 40000000 in
theorem own_comp5_2 (l : Launch) (Z : State) (a0 : Array Value) (hw : ∀ d ∈ tables_1, d.before a0 Z = true) (ws : List Jvm.Cond) (sr : Addr) (dr : Addr) (ks : ClassId) (kd : ClassId) (c0 : Int32) (c1 : Int32) (h0 : Heap) (n0 : Nat) (Z0 : n0 ≤ h0.size) (V_sr : Arv Z h0 sr ks .char (2 : Int32) [.int c0, .int c1] (.int 0)) (V_dr : Arv Z h0 dr kd .byte (2 : Int32) [.int 0, .int 0] (.int 0)) (hc0 : ¬ ((255 : Int32) < c0)) (hc1 : ¬ ((255 : Int32) < c1)) (nesd : ¬ (sr = dr)) (g_dr : n0 ≤ dr) :
   own_Met l Z oy39 jdk_52_method_21_code 7 (some .int) ws ({ frames := 0, cells := 0, slots := 0, locals := 0 } : Room) #[.ref sr, .int 0, .ref dr, .int 0, .int 2] h0 (fun v h L => v = some (.int 2) ∧ Fr n0 L ∧ Keep h0 h [dr] ∧ Arv Z h dr kd .byte (2 : Int32) [(.int (c0.toInt8.toInt32)), (.int (c1.toInt8.toInt32))] (.int 0)) := by
 refine own_body (plainFor_of_name own_pn_java_lang_StringUTF16) (fun p e s m below meth c s₁ hx hby hml0 hrt hlk hown0 hnm hZ X0 e0 => ?_)
 have N0 := Fr.nil n0
 have hown : s.vm.findClass "java/lang/StringUTF16" = some m.cls := hown0
 have hml : c.maxLocals = 7 := hml0
 refine own_castG (own_ef39 m sr (0 : Int32) dr (0 : Int32) (2 : Int32)) ?_
 refine oS (fun t k => XS.iconst X0.here hx rfl (hb hby oj52_21_0) k) ?_
 refine oS (fun t k => XS.istore X0.here hx rfl (hb hby oj52_21_1) rfl (l' := #[oR sr, oI 0, oR dr, oI 0, oI 2, oI 0, .unset]) rfl k) ?_
 refine oS (fun t k => XS.iload X0.here hx rfl (hb hby oj52_21_3) rfl k) ?_
 refine oS (fun t k => XS.iload X0.here hx rfl (hb hby oj52_21_5) rfl k) ?_
 show oG _ _ _ _ s₁ (mkF m 7 #[oR sr, oI 0, oR dr, oI 0, oI 2, oI 0, .unset] [.int 2, .int 0])
 refine oS (fun t k => XS.icmpNo X0.here hx rfl (hb hby oj52_21_7) rfl (tlt (show (0 : Int32) < (2 : Int32) from (by decide))).2.1 k) ?_
 refine oS (fun t k => XS.aloadN X0.here hx rfl (hb hby oj52_21_10) rfl rfl k) ?_
 refine oS (fun t k => XS.iloadN X0.here hx rfl (hb hby oj52_21_11) rfl k) ?_
 show oG _ _ _ _ s₁ (mkF m 12 #[oR sr, oI 0, oR dr, oI 0, oI 2, oI 0, .unset] [.int 0, .ref sr])
 refine oS (own_caload X0 hx hZ e0 V_sr (.int c0) ⟨by decide, by decide⟩ rfl (g := (mkF m 12 #[oR sr, oI 0, oR dr, oI 0, oI 2, oI 0, .unset] [.int 0, .ref sr])) rfl rfl (hb hby oj52_21_12)) ?_
 refine oS (fun t k => XS.istore X0.here hx rfl (hb hby oj52_21_13) rfl (l' := #[oR sr, oI 0, oR dr, oI 0, oI 2, oI 0, oI c0]) rfl k) ?_
 refine oS (fun t k => XS.iload X0.here hx rfl (hb hby oj52_21_15) rfl k) ?_
 refine oS (fun t k => XS.sipush X0.here hx rfl (hb hby oj52_21_17) k) ?_
 show oG _ _ _ _ s₁ (mkF m 20 #[oR sr, oI 0, oR dr, oI 0, oI 2, oI 0, oI c0] [.int 255, .int c0])
 refine oS (fun t k => XS.icmpYes X0.here hx rfl (pc0 := 20) (pc' := 26) rfl (hb hby oj52_21_20) rfl (flt (show ¬ ((255 : Int32) < c0) from hc0)).2.2.2 (by decide) (by decide) k) ?_
 refine oS (fun t k => XS.aloadN X0.here hx rfl (hb hby oj52_21_26) rfl rfl k) ?_
 refine oS (fun t k => XS.iloadN X0.here hx rfl (hb hby oj52_21_27) rfl k) ?_
 refine oS (fun t k => XS.iload X0.here hx rfl (hb hby oj52_21_28) rfl k) ?_
 refine oS (fun t k => XS.i2b X0.here hx rfl (hb hby oj52_21_30) rfl k) ?_
 show oG _ _ _ _ s₁ (mkF m 31 #[oR sr, oI 0, oR dr, oI 0, oI 2, oI 0, oI c0] [(.int (c0.toInt8.toInt32)), .int 0, .ref dr])
 obtain ⟨T1, h1, X1, e1, W1, V1, st1⟩ := own_bastore X0 hx hZ e0 V_dr (x := (c0.toInt8.toInt32)) (c0.toInt8.toInt32) (own_b8 _) (j := (0 : Int32)) ⟨by decide, by decide⟩ 0 rfl (oB rfl) (g := (mkF m 31 #[oR sr, oI 0, oR dr, oI 0, oI 2, oI 0, oI c0] [(.int (c0.toInt8.toInt32)), .int 0, .ref dr])) rfl rfl (hb hby oj52_21_31)
 refine oS st1 ?_
 have K1 := (Keep.refl h0 [dr]).wr W1 (Or.inl (List.mem_of_getElem? (i := 0) rfl))
 have N1 := Fr.snoc X1 N0 g_dr
 have V1' : Arv Z h1 dr kd .byte (2 : Int32) [(.int (c0.toInt8.toInt32)), .int 0] (.int 0) := V1
 show oG _ _ _ _ T1 (mkF m 32 #[oR sr, oI 0, oR dr, oI 0, oI 2, oI 0, oI c0] [])
 refine oS (fun t k => XS.iinc X1.here hx rfl (hb hby oj52_21_32) rfl (l' := #[oR sr, oI 1, oR dr, oI 0, oI 2, oI 0, oI c0]) rfl k) ?_
 show oG _ _ _ _ T1 (mkF m 35 #[oR sr, oI 1, oR dr, oI 0, oI 2, oI 0, oI c0] [])
 refine oS (fun t k => XS.iinc X1.here hx rfl (hb hby oj52_21_35) rfl (l' := #[oR sr, oI 1, oR dr, oI 1, oI 2, oI 0, oI c0]) rfl k) ?_
 show oG _ _ _ _ T1 (mkF m 38 #[oR sr, oI 1, oR dr, oI 1, oI 2, oI 0, oI c0] [])
 refine oS (fun t k => XS.iinc X1.here hx rfl (hb hby oj52_21_38) rfl (l' := #[oR sr, oI 1, oR dr, oI 1, oI 2, oI 1, oI c0]) rfl k) ?_
 refine oS (fun t k => XS.goto X1.here hx rfl (pc0 := 41) (pc' := 3) rfl (hb hby oj52_21_41) (by decide) (by decide) k) ?_
 refine oS (fun t k => XS.iload X1.here hx rfl (hb hby oj52_21_3) rfl k) ?_
 refine oS (fun t k => XS.iload X1.here hx rfl (hb hby oj52_21_5) rfl k) ?_
 show oG _ _ _ _ T1 (mkF m 7 #[oR sr, oI 1, oR dr, oI 1, oI 2, oI 1, oI c0] [.int 2, .int 1])
 refine oS (fun t k => XS.icmpNo X1.here hx rfl (hb hby oj52_21_7) rfl (tlt (show (1 : Int32) < (2 : Int32) from (by decide))).2.1 k) ?_
 refine oS (fun t k => XS.aloadN X1.here hx rfl (hb hby oj52_21_10) rfl rfl k) ?_
 refine oS (fun t k => XS.iloadN X1.here hx rfl (hb hby oj52_21_11) rfl k) ?_
 show oG _ _ _ _ T1 (mkF m 12 #[oR sr, oI 1, oR dr, oI 1, oI 2, oI 1, oI c0] [.int 1, .ref sr])
 have V_sr_v2 := (V_sr.other W1 nesd)
 refine oS (own_caload X1 hx hZ e1 V_sr_v2 (.int c1) ⟨by decide, by decide⟩ rfl (g := (mkF m 12 #[oR sr, oI 1, oR dr, oI 1, oI 2, oI 1, oI c0] [.int 1, .ref sr])) rfl rfl (hb hby oj52_21_12)) ?_
 refine oS (fun t k => XS.istore X1.here hx rfl (hb hby oj52_21_13) rfl (l' := #[oR sr, oI 1, oR dr, oI 1, oI 2, oI 1, oI c1]) rfl k) ?_
 refine oS (fun t k => XS.iload X1.here hx rfl (hb hby oj52_21_15) rfl k) ?_
 refine oS (fun t k => XS.sipush X1.here hx rfl (hb hby oj52_21_17) k) ?_
 show oG _ _ _ _ T1 (mkF m 20 #[oR sr, oI 1, oR dr, oI 1, oI 2, oI 1, oI c1] [.int 255, .int c1])
 refine oS (fun t k => XS.icmpYes X1.here hx rfl (pc0 := 20) (pc' := 26) rfl (hb hby oj52_21_20) rfl (flt (show ¬ ((255 : Int32) < c1) from hc1)).2.2.2 (by decide) (by decide) k) ?_
 refine oS (fun t k => XS.aloadN X1.here hx rfl (hb hby oj52_21_26) rfl rfl k) ?_
 refine oS (fun t k => XS.iloadN X1.here hx rfl (hb hby oj52_21_27) rfl k) ?_
 refine oS (fun t k => XS.iload X1.here hx rfl (hb hby oj52_21_28) rfl k) ?_
 refine oS (fun t k => XS.i2b X1.here hx rfl (hb hby oj52_21_30) rfl k) ?_
 show oG _ _ _ _ T1 (mkF m 31 #[oR sr, oI 1, oR dr, oI 1, oI 2, oI 1, oI c1] [(.int (c1.toInt8.toInt32)), .int 1, .ref dr])
 obtain ⟨T3, h3, X3, e3, W3, V3, st3⟩ := own_bastore X1 hx hZ e1 V1' (x := (c1.toInt8.toInt32)) (c1.toInt8.toInt32) (own_b8 _) (j := (1 : Int32)) ⟨by decide, by decide⟩ 1 rfl (oB rfl) (g := (mkF m 31 #[oR sr, oI 1, oR dr, oI 1, oI 2, oI 1, oI c1] [(.int (c1.toInt8.toInt32)), .int 1, .ref dr])) rfl rfl (hb hby oj52_21_31)
 refine oS st3 ?_
 have K3 := K1.wr W3 (Or.inl (List.mem_of_getElem? (i := 0) rfl))
 have N3 := Fr.snoc X3 N1 g_dr
 have V3' : Arv Z h3 dr kd .byte (2 : Int32) [(.int (c0.toInt8.toInt32)), (.int (c1.toInt8.toInt32))] (.int 0) := V3
 show oG _ _ _ _ T3 (mkF m 32 #[oR sr, oI 1, oR dr, oI 1, oI 2, oI 1, oI c1] [])
 refine oS (fun t k => XS.iinc X3.here hx rfl (hb hby oj52_21_32) rfl (l' := #[oR sr, oI 2, oR dr, oI 1, oI 2, oI 1, oI c1]) rfl k) ?_
 show oG _ _ _ _ T3 (mkF m 35 #[oR sr, oI 2, oR dr, oI 1, oI 2, oI 1, oI c1] [])
 refine oS (fun t k => XS.iinc X3.here hx rfl (hb hby oj52_21_35) rfl (l' := #[oR sr, oI 2, oR dr, oI 2, oI 2, oI 1, oI c1]) rfl k) ?_
 show oG _ _ _ _ T3 (mkF m 38 #[oR sr, oI 2, oR dr, oI 2, oI 2, oI 1, oI c1] [])
 refine oS (fun t k => XS.iinc X3.here hx rfl (hb hby oj52_21_38) rfl (l' := #[oR sr, oI 2, oR dr, oI 2, oI 2, oI 2, oI c1]) rfl k) ?_
 refine oS (fun t k => XS.goto X3.here hx rfl (pc0 := 41) (pc' := 3) rfl (hb hby oj52_21_41) (by decide) (by decide) k) ?_
 refine oS (fun t k => XS.iload X3.here hx rfl (hb hby oj52_21_3) rfl k) ?_
 refine oS (fun t k => XS.iload X3.here hx rfl (hb hby oj52_21_5) rfl k) ?_
 show oG _ _ _ _ T3 (mkF m 7 #[oR sr, oI 2, oR dr, oI 2, oI 2, oI 2, oI c1] [.int 2, .int 2])
 refine oS (fun t k => XS.icmpYes X3.here hx rfl (pc0 := 7) (pc' := 44) rfl (hb hby oj52_21_7) rfl (flt (show ¬ ((2 : Int32) < (2 : Int32)) from (by decide))).2.1 (by decide) (by decide) k) ?_
 refine oS (fun t k => XS.iload X3.here hx rfl (hb hby oj52_21_44) rfl k) ?_
 show oG _ _ _ _ T3 (mkF m 46 #[oR sr, oI 2, oR dr, oI 2, oI 2, oI 2, oI c1] [.int 2])
 exact own_retI X3 hx hlk hrt (hb hby oj52_21_46) (by rw [e3]; exact ⟨rfl, N3, K3, V3'⟩) (by decide) (by decide)
theorem own_ef40 (m : MethodId) (x0 : Addr) (x1 : Int32) (x2 : Int32) : entryFrame m #[.ref x0, .int x1, .int x2] 6 = mkF m 0 #[.val (.ref x0), .val (.int x1), .val (.int x2), .unset, .unset, .unset] [] := by first | (simp [entryFrame, mkF, argsToLocals, Value.category]; done) | rfl
theorem oj52_16_0 : decode jdk_52_method_16_code 0 = .ok (.iload_n 2, 1) := by decide +kernel
theorem oj52_16_1 : decode jdk_52_method_16_code 1 = .ok (.newarray .byte, 2) := by decide +kernel
theorem oj52_16_3 : decode jdk_52_method_16_code 3 = .ok (.astore_n 3, 1) := by decide +kernel
theorem oj52_16_4 : decode jdk_52_method_16_code 4 = .ok (.aload_n 0, 1) := by decide +kernel
theorem oj52_16_5 : decode jdk_52_method_16_code 5 = .ok (.iload_n 1, 1) := by decide +kernel
theorem oj52_16_6 : decode jdk_52_method_16_code 6 = .ok (.aload_n 3, 1) := by decide +kernel
theorem oj52_16_7 : decode jdk_52_method_16_code 7 = .ok (.iconst 0, 1) := by decide +kernel
theorem oj52_16_8 : decode jdk_52_method_16_code 8 = .ok (.iload_n 2, 1) := by decide +kernel
theorem oj52_16_9 : decode jdk_52_method_16_code 9 = .ok (.invokestatic 115, 3) := by decide +kernel
theorem own_pd25 : parseMethodDescriptor "([CI[BII)I" = some ⟨[(.array .char), .int, (.array .byte), .int, .int], some .int⟩ := by decide +kernel
theorem oj52_16_12 : decode jdk_52_method_16_code 12 = .ok (.istore 4, 2) := by decide +kernel
theorem oj52_16_14 : decode jdk_52_method_16_code 14 = .ok (.iload 4, 2) := by decide +kernel
theorem oj52_16_16 : decode jdk_52_method_16_code 16 = .ok (.iload_n 2, 1) := by decide +kernel
theorem oj52_16_17 : decode jdk_52_method_16_code 17 = .ok (.if_icmp .eq 40, 3) := by decide +kernel
theorem oj52_16_57 : decode jdk_52_method_16_code 57 = .ok (.aload_n 3, 1) := by decide +kernel
theorem oj52_16_58 : decode jdk_52_method_16_code 58 = .ok (.areturn, 1) := by decide +kernel
set_option maxRecDepth 65536 in
set_option maxHeartbeats 40000000 in
theorem own_comp3_2 (l : Launch) (Z : State) (a0 : Array Value) (hw : ∀ d ∈ tables_1, d.before a0 Z = true) (ws : List Jvm.Cond) (sr : Addr) (ks : ClassId) (c0 : Int32) (c1 : Int32) (h0 : Heap) (n0 : Nat) (Z0 : n0 ≤ h0.size) (V_sr : Arv Z h0 sr ks .char (2 : Int32) [.int c0, .int c1] (.int 0)) (hc0 : ¬ ((255 : Int32) < c0)) (hc1 : ¬ ((255 : Int32) < c1)) :
   own_Met l Z oy38 jdk_52_method_16_code 6 (some (.array .byte)) ws ({ frames := 1, cells := 1, slots := 2, locals := 18 } : Room) #[.ref sr, .int 0, .int 2] h0 (fun v h L => ∃ r : Addr, ∃ kr : ClassId, v = some (.ref r) ∧ Fr n0 L ∧ Keep h0 h [] ∧ h0.size ≤ r ∧ Arv Z h r kr .byte (2 : Int32) [(.int (c0.toInt8.toInt32)), (.int (c1.toInt8.toInt32))] (.int 0)) := by
 refine own_body (plainFor_of_name own_pn_java_lang_StringUTF16) (fun p e s m below meth c s₁ hx hby hml0 hrt hlk hown0 hnm hZ X0 e0 => ?_)
 have N0 := Fr.nil n0
 have hown : s.vm.findClass "java/lang/StringUTF16" = some m.cls := hown0
 have hml : c.maxLocals = 6 := hml0
 refine own_castG (own_ef40 m sr (0 : Int32) (2 : Int32)) ?_
 refine oS (fun t k => XS.iloadN X0.here hx rfl (hb hby oj52_16_0) rfl k) ?_
 show oG _ _ _ _ s₁ (mkF m 1 #[oR sr, oI 0, oI 2, .unset, .unset, .unset] [.int 2])
 obtain ⟨T1, h1, k1, X1, e1, E1, A1, st1⟩ := newP X0 hx hZ (oW hw 19 rfl) e0 (g := (mkF m 1 #[oR sr, oI 0, oI 2, .unset, .unset, .unset] [.int 2])) rfl (hb hby oj52_16_1) rfl (by decide) (cap := 2) (by decide) (by decide) (by decide) (by decide)
 obtain ⟨b1, g1⟩ : ∃ z, z = h0.size := ⟨_, rfl⟩
 rw [← g1] at A1 st1
 refine oS st1 ?_
 have g_b1 : n0 ≤ b1 := Nat.le_trans Z0 (Nat.le_of_eq g1.symm)
 have sz_b1 : h0.size ≤ b1 := Nat.le_trans (Keep.refl h0 []).1 (Nat.le_of_eq g1.symm)
 have ne_sr_b1 : sr ≠ b1 := Nat.ne_of_lt (Nat.lt_of_lt_of_le V_sr.lt (Nat.le_of_eq g1.symm))
 have K1 := (Keep.refl h0 []).ext E1
 have V_b1 : Arv Z h1 b1 k1 .byte (2 : Int32) [.int 0, .int 0] (.int 0) := (Arv.new A1 (by decide)).pad (pad_rep [] (.int 0) 2)
 refine oS (fun t k => XS.astoreN X1.here hx rfl (hb hby oj52_16_3) rfl rfl (l' := #[oR sr, oI 0, oI 2, oR b1, .unset, .unset]) rfl k) ?_
 refine oS (fun t k => XS.aloadN X1.here hx rfl (hb hby oj52_16_4) rfl rfl k) ?_
 refine oS (fun t k => XS.iloadN X1.here hx rfl (hb hby oj52_16_5) rfl k) ?_
 refine oS (fun t k => XS.aloadN X1.here hx rfl (hb hby oj52_16_6) rfl rfl k) ?_
 refine oS (fun t k => XS.iconst X1.here hx rfl (hb hby oj52_16_7) k) ?_
 refine oS (fun t k => XS.iloadN X1.here hx rfl (hb hby oj52_16_8) rfl k) ?_
 show oG _ _ _ _ T1 (mkF m 9 #[oR sr, oI 0, oI 2, oR b1, .unset, .unset] [.int 2, .int 0, .ref b1, .int 0, .ref sr])
 have V_sr_v2 := (V_sr.ext E1)
 refine own_callS X1 hx hZ (y := oy39) hown (oW hw 20 rfl) (oW hw 21 rfl) (oW hw 17 rfl) (oW hw 22 rfl) (by decide) 0 [.ref sr, .int 0, .ref b1, .int 0, .int 2] [] (own_comp5_2 l Z a0 hw [] sr b1 ks k1 c0 c1 h1 n0 (Nat.le_trans Z0 K1.1) V_sr_v2 V_b1 hc0 hc1 ne_sr_b1 g_b1) e1  (by decide) (by decide) (by decide) (by decide) (g := (mkF m 9 #[oR sr, oI 0, oI 2, oR b1, .unset, .unset] [.int 2, .int 0, .ref b1, .int 0, .ref sr])) rfl (by rw [hml]; rfl) own_pd25 rfl rfl (by show 2 * 0 + _ ≤ _; exact Nat.le_of_eq rfl) (hb hby oj52_16_9) ?_
 intro T3 v3 L3 X3 hQ3
 obtain ⟨rfl, N3q, Kq3, q3_0⟩ := hQ3
 have N3 := Fr.app N0 N3q
 have K3 := K1.trans Kq3 (allS (Or.inr sz_b1) all0)
 have q3_0' : Arv Z T3.heap b1 k1 .byte (2 : Int32) [(.int (c0.toInt8.toInt32)), (.int (c1.toInt8.toInt32))] (.int 0) := q3_0
 refine oS (fun t k => XS.istore X3.here hx rfl (hb hby oj52_16_12) rfl (l' := #[oR sr, oI 0, oI 2, oR b1, oI 2, .unset]) rfl k) ?_
 refine oS (fun t k => XS.iload X3.here hx rfl (hb hby oj52_16_14) rfl k) ?_
 refine oS (fun t k => XS.iloadN X3.here hx rfl (hb hby oj52_16_16) rfl k) ?_
 show oG _ _ _ _ T3 (mkF m 17 #[oR sr, oI 0, oI 2, oR b1, oI 2, .unset] [.int 2, .int 2])
 refine oS (fun t k => XS.icmpYes X3.here hx rfl (pc0 := 17) (pc' := 57) rfl (hb hby oj52_16_17) rfl (teq (show (2 : Int32) = (2 : Int32) from (by decide))).1 (by decide) (by decide) k) ?_
 refine oS (fun t k => XS.aloadN X3.here hx rfl (hb hby oj52_16_57) rfl rfl k) ?_
 show oG _ _ _ _ T3 (mkF m 58 #[oR sr, oI 0, oI 2, oR b1, oI 2, .unset] [.ref b1])
 exact own_retA X3 hx hlk hrt rfl rfl rfl (hb hby oj52_16_58) (by exact ⟨b1, k1, rfl, N3, K3, sz_b1, q3_0'⟩) (by decide) (by decide)
theorem own_ef41 (m : MethodId) (x0 : Addr) (x1 : Int32) : entryFrame m #[.ref x0, .int x1] 2 = mkF m 0 #[.val (.ref x0), .val (.int x1)] [] := by first | (simp [entryFrame, mkF, argsToLocals, Value.category]; done) | rfl
theorem oj52_15_0 : decode jdk_52_method_15_code 0 = .ok (.iload_n 1, 1) := by decide +kernel
theorem oj52_15_1 : decode jdk_52_method_15_code 1 = .ok (.aload_n 0, 1) := by decide +kernel
theorem oj52_15_2 : decode jdk_52_method_15_code 2 = .ok (.arraylength, 1) := by decide +kernel
theorem oj52_15_3 : decode jdk_52_method_15_code 3 = .ok (.isub, 1) := by decide +kernel
theorem oj52_15_4 : decode jdk_52_method_15_code 4 = .ok (.bipush 31, 2) := by decide +kernel
theorem oj52_15_6 : decode jdk_52_method_15_code 6 = .ok (.iushr, 1) := by decide +kernel
theorem oj52_15_7 : decode jdk_52_method_15_code 7 = .ok (.i2b, 1) := by decide +kernel
theorem oj52_15_8 : decode jdk_52_method_15_code 8 = .ok (.ireturn, 1) := by decide +kernel
set_option maxRecDepth 65536 in
set_option maxHeartbeats 40000000 in
theorem own_coder_2 (l : Launch) (Z : State) (a0 : Array Value) (hw : ∀ d ∈ tables_1, d.before a0 Z = true) (ws : List Jvm.Cond) (dr : Addr) (kd : ClassId) (x0 : Int32) (x1 : Int32) (h0 : Heap) (n0 : Nat) (Z0 : n0 ≤ h0.size) (V_dr : Arv Z h0 dr kd .byte (2 : Int32) [.int x0, .int x1] (.int 0)) :
   own_Met l Z oy37 jdk_52_method_15_code 2 (some .byte) ws ({ frames := 0, cells := 0, slots := 0, locals := 0 } : Room) #[.ref dr, .int 2] h0 (fun v h L => v = some (.int 0) ∧ Fr n0 L ∧ h = h0) := by
 refine own_body (plainFor_of_name own_pn_java_lang_StringUTF16) (fun p e s m below meth c s₁ hx hby hml0 hrt hlk hown0 hnm hZ X0 e0 => ?_)
 have N0 := Fr.nil n0
 have hown : s.vm.findClass "java/lang/StringUTF16" = some m.cls := hown0
 have hml : c.maxLocals = 2 := hml0
 refine own_castG (own_ef41 m dr (2 : Int32)) ?_
 refine oS (fun t k => XS.iloadN X0.here hx rfl (hb hby oj52_15_0) rfl k) ?_
 refine oS (fun t k => XS.aloadN X0.here hx rfl (hb hby oj52_15_1) rfl rfl k) ?_
 show oG _ _ _ _ s₁ (mkF m 2 #[oR dr, oI 2] [.ref dr, .int 2])
 refine oS (own_alen X0 hx hZ e0 V_dr (g := (mkF m 2 #[oR dr, oI 2] [.ref dr, .int 2])) rfl rfl (hb hby oj52_15_2)) ?_
 refine oS (fun t k => XS.isub X0.here hx rfl (hb hby oj52_15_3) rfl k) ?_
 refine oS (fun t k => XS.bipush X0.here hx rfl (hb hby oj52_15_4) k) ?_
 refine oS (fun t k => XS.iushr X0.here hx rfl (hb hby oj52_15_6) rfl k) ?_
 refine oS (fun t k => XS.i2b X0.here hx rfl (hb hby oj52_15_7) rfl k) ?_
 show oG _ _ _ _ s₁ (mkF m 8 #[oR dr, oI 2] [.int 0])
 exact own_retN X0 hx hlk (t := .byte) hrt (by simp) (hb hby oj52_15_8) ⟨rfl, N0, e0⟩ (by decide) (by decide)
theorem own_ef42 (m : MethodId) (x0 : Addr) (x1 : Addr) (x2 : Int32) (x3 : Int32) : entryFrame m #[.ref x0, .ref x1, .int x2, .int x3, .null] 6 = mkF m 0 #[.val (.ref x0), .val (.ref x1), .val (.int x2), .val (.int x3), .val .null, .unset] [] := by first | (simp [entryFrame, mkF, argsToLocals, Value.category]; done) | rfl
theorem oj42_149_0 : decode jdk_42_method_149_code 0 = .ok (.aload_n 0, 1) := by decide +kernel
theorem oj42_149_1 : decode jdk_42_method_149_code 1 = .ok (.invokespecial 1, 3) := by decide +kernel
theorem oj42_149_4 : decode jdk_42_method_149_code 4 = .ok (.iload_n 3, 1) := by decide +kernel
theorem oj42_149_5 : decode jdk_42_method_149_code 5 = .ok (.ifCond .ne 22, 3) := by decide +kernel
theorem oj42_149_27 : decode jdk_42_method_149_code 27 = .ok (.getstatic 38, 3) := by decide +kernel
theorem oj42_149_30 : decode jdk_42_method_149_code 30 = .ok (.ifCond .eq 28, 3) := by decide +kernel
theorem oj42_149_33 : decode jdk_42_method_149_code 33 = .ok (.aload_n 1, 1) := by decide +kernel
theorem oj42_149_34 : decode jdk_42_method_149_code 34 = .ok (.iload_n 2, 1) := by decide +kernel
theorem oj42_149_35 : decode jdk_42_method_149_code 35 = .ok (.iload_n 3, 1) := by decide +kernel
theorem oj42_149_36 : decode jdk_42_method_149_code 36 = .ok (.invokestatic 177, 3) := by decide +kernel
theorem own_pd26 : parseMethodDescriptor "([CII)[B" = some ⟨[(.array .char), .int, .int], some (.array .byte)⟩ := by decide +kernel
theorem oj42_149_39 : decode jdk_42_method_149_code 39 = .ok (.astore 5, 2) := by decide +kernel
theorem oj42_149_41 : decode jdk_42_method_149_code 41 = .ok (.aload_n 0, 1) := by decide +kernel
theorem oj42_149_42 : decode jdk_42_method_149_code 42 = .ok (.aload 5, 2) := by decide +kernel
theorem oj42_149_44 : decode jdk_42_method_149_code 44 = .ok (.iload_n 3, 1) := by decide +kernel
theorem oj42_149_45 : decode jdk_42_method_149_code 45 = .ok (.invokestatic 47, 3) := by decide +kernel
theorem own_pd27 : parseMethodDescriptor "([BI)B" = some ⟨[(.array .byte), .int], some .byte⟩ := by decide +kernel
theorem oj42_149_48 : decode jdk_42_method_149_code 48 = .ok (.putfield 15, 3) := by decide +kernel
theorem oj42_149_51 : decode jdk_42_method_149_code 51 = .ok (.aload_n 0, 1) := by decide +kernel
theorem oj42_149_52 : decode jdk_42_method_149_code 52 = .ok (.aload 5, 2) := by decide +kernel
theorem oj42_149_54 : decode jdk_42_method_149_code 54 = .ok (.putfield 9, 3) := by decide +kernel
theorem oj42_149_57 : decode jdk_42_method_149_code 57 = .ok (.return_, 1) := by decide +kernel
set_option maxRecDepth 65536 in
set_option maxHeartbeats 40000000 in
theorem own_sinit4_2 (l : Launch) (Z : State) (a0 : Array Value) (hw : ∀ d ∈ tables_1, d.before a0 Z = true) (ws : List Jvm.Cond) (a : Addr) (sr : Addr) (ks : ClassId) (c0 : Int32) (c1 : Int32) (zc : Int32) (h0 : Heap) (n0 : Nat) (Z0 : n0 ≤ h0.size) (E_a : Exa Z h0 a "java/lang/String") (F_a_value : Fld Z h0 a "java/lang/String" "value" "[B" .null) (F_a_coder : Fld Z h0 a "java/lang/String" "coder" "B" (.int 0)) (V_sr : Arv Z h0 sr ks .char (2 : Int32) [.int c0, .int c1] (.int 0)) (S_C : Sta Z h0 "java/lang/String" "COMPACT_STRINGS" "Z" (.int zc)) (hc0 : ¬ ((255 : Int32) < c0)) (hc1 : ¬ ((255 : Int32) < c1)) (hz : ¬ (zc = (0 : Int32))) (g_a : n0 ≤ a) :
   own_Met l Z oy25 jdk_42_method_149_code 6 none ws ({ frames := 2, cells := 1, slots := 2, locals := 35 } : Room) #[.ref a, .ref sr, .int 0, .int 2, .null] h0 (fun v h L => ∃ r : Addr, ∃ kr : ClassId, v = none ∧ Fr n0 L ∧ Keep h0 h [a] ∧ h0.size ≤ r ∧ Exa Z h a "java/lang/String" ∧ Fld Z h a "java/lang/String" "coder" "B" (.int 0) ∧ Fld Z h a "java/lang/String" "value" "[B" (.ref r) ∧ Arv Z h r kr .byte (2 : Int32) [(.int (c0.toInt8.toInt32)), (.int (c1.toInt8.toInt32))] (.int 0)) := by
 refine own_body (plainFor_of_name own_pn_java_lang_String) (fun p e s m below meth c s₁ hx hby hml0 hrt hlk hown0 hnm hZ X0 e0 => ?_)
 have N0 := Fr.nil n0
 have hown : s.vm.findClass "java/lang/String" = some m.cls := hown0
 have hml : c.maxLocals = 6 := hml0
 refine own_castG (own_ef42 m a sr (0 : Int32) (2 : Int32)) ?_
 refine oS (fun t k => XS.aloadN X0.here hx rfl (hb hby oj42_149_0) rfl rfl k) ?_
 show oG _ _ _ _ s₁ (mkF m 1 #[oR a, oR sr, oI 0, oI 2, .val .null, .unset] [.ref a])
 obtain ⟨T1, X1, e1, st1⟩ := initO X0 hx hZ hown (oW hw 11 rfl) (oW hw 12 rfl) (oW hw 13 rfl) e0 (g := (mkF m 1 #[oR a, oR sr, oI 0, oI 2, .val .null, .unset] [.ref a])) rfl (by rw [hml]; rfl) rfl (hb hby oj42_149_1) (by decide) (W := 0) (by show 2 * 0 + _ ≤ _; exact Nat.le_of_eq rfl) (by decide)
 refine oS st1 ?_
 refine oS (fun t k => XS.iloadN X1.here hx rfl (hb hby oj42_149_4) rfl k) ?_
 show oG _ _ _ _ T1 (mkF m 5 #[oR a, oR sr, oI 0, oI 2, .val .null, .unset] [.int 2])
 refine oS (fun t k => XS.ifYes X1.here hx rfl (pc0 := 5) (pc' := 27) rfl (hb hby oj42_149_5) rfl ((if0 _ _).trans (feq (show ¬ ((2 : Int32) = (0 : Int32)) from (by decide))).2) (by decide) (by decide) k) ?_
 show oG _ _ _ _ T1 (mkF m 27 #[oR a, oR sr, oI 0, oI 2, .val .null, .unset] [])
 obtain ⟨T2, X2, e2, st2⟩ := getS2 X1 hx hZ hown (host := "") (Or.inl (oW hw 14 rfl)) Via.refl e1 S_C (g := (mkF m 27 #[oR a, oR sr, oI 0, oI 2, .val .null, .unset] [])) rfl (hb hby oj42_149_27)
 refine oS st2 ?_
 show oG _ _ _ _ T2 (mkF m 30 #[oR a, oR sr, oI 0, oI 2, .val .null, .unset] [.int zc])
 refine oS (fun t k => XS.ifNo X2.here hx rfl (hb hby oj42_149_30) rfl ((if0 _ _).trans (feq (show ¬ (zc = (0 : Int32)) from hz)).1) k) ?_
 refine oS (fun t k => XS.aloadN X2.here hx rfl (hb hby oj42_149_33) rfl rfl k) ?_
 refine oS (fun t k => XS.iloadN X2.here hx rfl (hb hby oj42_149_34) rfl k) ?_
 refine oS (fun t k => XS.iloadN X2.here hx rfl (hb hby oj42_149_35) rfl k) ?_
 show oG _ _ _ _ T2 (mkF m 36 #[oR a, oR sr, oI 0, oI 2, .val .null, .unset] [.int 2, .int 0, .ref sr])
 refine own_callS X2 hx hZ (y := oy38) hown (oW hw 15 rfl) (oW hw 16 rfl) (oW hw 17 rfl) (oW hw 18 rfl) (by decide) 0 [.ref sr, .int 0, .int 2] [] (own_comp3_2 l Z a0 hw [] sr ks c0 c1 h0 n0 Z0 V_sr hc0 hc1) e2  (by decide) (by decide) (by decide) (by decide) (g := (mkF m 36 #[oR a, oR sr, oI 0, oI 2, .val .null, .unset] [.int 2, .int 0, .ref sr])) rfl (by rw [hml]; rfl) own_pd26 rfl rfl (by show 2 * 0 + _ ≤ _; exact Nat.le_of_eq rfl) (hb hby oj42_149_36) ?_
 intro T3 v3 L3 X3 hQ3
 obtain ⟨b3_0, k3_0, rfl, N3q, Kq3, zq3_0, q3_0⟩ := hQ3
 have N3 := Fr.app N0 N3q
 have K3 := (Keep.refl h0 [a]).trans Kq3 all0
 have g_b3_0 : n0 ≤ b3_0 := Nat.le_trans Z0 zq3_0
 have sz_b3_0 : h0.size ≤ b3_0 := Nat.le_trans (Keep.refl h0 [a]).1 zq3_0
 have ne_a_b3_0 : a ≠ b3_0 := Nat.ne_of_lt (Nat.lt_of_lt_of_le E_a.lt zq3_0)
 have ne_sr_b3_0 : sr ≠ b3_0 := Nat.ne_of_lt (Nat.lt_of_lt_of_le V_sr.lt zq3_0)
 have q3_0' : Arv Z T3.heap b3_0 k3_0 .byte (2 : Int32) [(.int (c0.toInt8.toInt32)), (.int (c1.toInt8.toInt32))] (.int 0) := q3_0
 refine oS (fun t k => XS.astore X3.here hx rfl (hb hby oj42_149_39) rfl rfl (l' := #[oR a, oR sr, oI 0, oI 2, .val .null, oR b3_0]) rfl k) ?_
 refine oS (fun t k => XS.aloadN X3.here hx rfl (hb hby oj42_149_41) rfl rfl k) ?_
 refine oS (fun t k => XS.aload X3.here hx rfl (hb hby oj42_149_42) rfl rfl k) ?_
 refine oS (fun t k => XS.iloadN X3.here hx rfl (hb hby oj42_149_44) rfl k) ?_
 show oG _ _ _ _ T3 (mkF m 45 #[oR a, oR sr, oI 0, oI 2, .val .null, oR b3_0] [.int 2, .ref b3_0, .ref a])
 refine own_callS X3 hx hZ (y := oy37) hown (oW hw 23 rfl) (oW hw 24 rfl) (oW hw 17 rfl) (oW hw 25 rfl) (by decide) 1 [.ref b3_0, .int 2] [.ref a] (own_coder_2 l Z a0 hw [] b3_0 k3_0 (c0.toInt8.toInt32) (c1.toInt8.toInt32) T3.heap n0 (Nat.le_trans Z0 K3.1) q3_0') rfl  (by decide) (by decide) (by decide) (by decide) (g := (mkF m 45 #[oR a, oR sr, oI 0, oI 2, .val .null, oR b3_0] [.int 2, .ref b3_0, .ref a])) rfl (by rw [hml]; rfl) own_pd27 rfl rfl (by show 2 * 0 + _ ≤ _; exact Nat.le_of_eq rfl) (hb hby oj42_149_45) ?_
 intro T4 v4 L4 X4 hQ4
 obtain ⟨rfl, N4q, e4⟩ := hQ4
 have N4 := Fr.app N3 N4q
 show oG _ _ _ _ T4 (mkF m 48 #[oR a, oR sr, oI 0, oI 2, .val .null, oR b3_0] [.int 0, .ref a])
 have E_a_v6 := (E_a.keep Kq3)
 have F_a_coder_v7 := (F_a_coder.keep Kq3 nin0)
 obtain ⟨T5, h5, X5, e5, W5, st5⟩ := putFN X4 hx hZ hown (oW hw 26 rfl) Via.refl e4 F_a_coder_v7 E_a_v6 (Or.inr ⟨(oW hw 27 rfl), rfl, hnm⟩) (oW hw 2 rfl) (ty := .byte) (v' := (.int 0)) (by decide) rfl rfl (g := (mkF m 48 #[oR a, oR sr, oI 0, oI 2, .val .null, oR b3_0] [.int 0, .ref a])) rfl rfl (hb hby oj42_149_48)
 refine oS st5 ?_
 have F5 := F_a_coder_v7.same W5
 have K5 := K3.wr W5 (Or.inl (List.mem_of_getElem? (i := 0) rfl))
 have N5 := Fr.snoc X5 N4 g_a
 refine oS (fun t k => XS.aloadN X5.here hx rfl (hb hby oj42_149_51) rfl rfl k) ?_
 refine oS (fun t k => XS.aload X5.here hx rfl (hb hby oj42_149_52) rfl rfl k) ?_
 show oG _ _ _ _ T5 (mkF m 54 #[oR a, oR sr, oI 0, oI 2, .val .null, oR b3_0] [.ref b3_0, .ref a])
 have E_a_v9 := (E_a_v6.wr W5)
 have F_a_value_v10 := ((F_a_value.keep Kq3 nin0).other W5 (Or.inr (slot_ne (Or.inr (oW hw 29 rfl)) (Or.inr (oW hw 27 rfl)) (by decide) (t := (.array .byte)) (t' := .byte) (by decide) (by decide))))
 obtain ⟨T8, h8, X8, e8, W8, st8⟩ := putF X5 hx hZ hown (host := "") (Or.inl (oW hw 28 rfl)) Via.refl e5 F_a_value_v10 E_a_v9 (Or.inr ⟨(oW hw 29 rfl), rfl, hnm⟩) (oW hw 2 rfl) (ty := (.array .byte)) (by decide) rfl rfl (g := (mkF m 54 #[oR a, oR sr, oI 0, oI 2, .val .null, oR b3_0] [.ref b3_0, .ref a])) rfl rfl (hb hby oj42_149_54)
 refine oS st8 ?_
 have F8 := F_a_value_v10.same W8
 have K8 := K5.wr W8 (Or.inl (List.mem_of_getElem? (i := 0) rfl))
 have N8 := Fr.snoc X8 N5 g_a
 show oG _ _ _ _ T8 (mkF m 57 #[oR a, oR sr, oI 0, oI 2, .val .null, oR b3_0] [])
 have E_a_v11 := (E_a_v9.wr W8)
 have F5_v12 := (F5.other W8 (Or.inr (slot_ne (Or.inr (oW hw 27 rfl)) (Or.inr (oW hw 29 rfl)) (by decide) (t := .byte) (t' := (.array .byte)) (by decide) (by decide))))
 have q3_0'_v13 := ((q3_0'.other W5 (Ne.symm ne_a_b3_0)).other W8 (Ne.symm ne_a_b3_0))
 exact own_retV X8 hx hlk hrt (hb hby oj42_149_57) (by rw [e8]; exact ⟨b3_0, k3_0, rfl, N8, K8, sz_b3_0, E_a_v11, F5_v12, F8, q3_0'_v13⟩) (by decide) (by decide)
theorem own_ef43 (m : MethodId) (x0 : Addr) (x1 : Addr) : entryFrame m #[.ref x0, .ref x1] 2 = mkF m 0 #[.val (.ref x0), .val (.ref x1)] [] := by first | (simp [entryFrame, mkF, argsToLocals, Value.category]; done) | rfl
theorem oj42_3_0 : decode jdk_42_method_3_code 0 = .ok (.aload_n 0, 1) := by decide +kernel
theorem oj42_3_1 : decode jdk_42_method_3_code 1 = .ok (.aload_n 1, 1) := by decide +kernel
theorem oj42_3_2 : decode jdk_42_method_3_code 2 = .ok (.iconst 0, 1) := by decide +kernel
theorem oj42_3_3 : decode jdk_42_method_3_code 3 = .ok (.aload_n 1, 1) := by decide +kernel
theorem oj42_3_4 : decode jdk_42_method_3_code 4 = .ok (.arraylength, 1) := by decide +kernel
theorem oj42_3_5 : decode jdk_42_method_3_code 5 = .ok (.aconst_null, 1) := by decide +kernel
theorem oj42_3_6 : decode jdk_42_method_3_code 6 = .ok (.invokespecial 27, 3) := by decide +kernel
theorem own_pd28 : parseMethodDescriptor "([CIILjava/lang/Void;)V" = some ⟨[(.array .char), .int, .int, (.object "java/lang/Void")], none⟩ := by decide +kernel
theorem oj42_3_9 : decode jdk_42_method_3_code 9 = .ok (.return_, 1) := by decide +kernel
set_option maxRecDepth 65536 in
set_option maxHeartbeats 40000000 in
theorem own_sinit_2 (l : Launch) (Z : State) (a0 : Array Value) (hw : ∀ d ∈ tables_1, d.before a0 Z = true) (ws : List Jvm.Cond) (a : Addr) (sr : Addr) (ks : ClassId) (c0 : Int32) (c1 : Int32) (zc : Int32) (h0 : Heap) (n0 : Nat) (Z0 : n0 ≤ h0.size) (E_a : Exa Z h0 a "java/lang/String") (F_a_value : Fld Z h0 a "java/lang/String" "value" "[B" .null) (F_a_coder : Fld Z h0 a "java/lang/String" "coder" "B" (.int 0)) (V_sr : Arv Z h0 sr ks .char (2 : Int32) [.int c0, .int c1] (.int 0)) (S_C : Sta Z h0 "java/lang/String" "COMPACT_STRINGS" "Z" (.int zc)) (hc0 : ¬ ((255 : Int32) < c0)) (hc1 : ¬ ((255 : Int32) < c1)) (hz : ¬ (zc = (0 : Int32))) (g_a : n0 ≤ a) :
   own_Met l Z oy24 jdk_42_method_3_code 2 none ws ({ frames := 3, cells := 1, slots := 2, locals := 52 } : Room) #[.ref a, .ref sr] h0 (fun v h L => ∃ r : Addr, ∃ kr : ClassId, v = none ∧ Fr n0 L ∧ Keep h0 h [a] ∧ h0.size ≤ r ∧ Exa Z h a "java/lang/String" ∧ Fld Z h a "java/lang/String" "coder" "B" (.int 0) ∧ Fld Z h a "java/lang/String" "value" "[B" (.ref r) ∧ Arv Z h r kr .byte (2 : Int32) [(.int (c0.toInt8.toInt32)), (.int (c1.toInt8.toInt32))] (.int 0)) := by
 refine own_body (plainFor_of_name own_pn_java_lang_String) (fun p e s m below meth c s₁ hx hby hml0 hrt hlk hown0 hnm hZ X0 e0 => ?_)
 have N0 := Fr.nil n0
 have hown : s.vm.findClass "java/lang/String" = some m.cls := hown0
 have hml : c.maxLocals = 2 := hml0
 refine own_castG (own_ef43 m a sr) ?_
 refine oS (fun t k => XS.aloadN X0.here hx rfl (hb hby oj42_3_0) rfl rfl k) ?_
 refine oS (fun t k => XS.aloadN X0.here hx rfl (hb hby oj42_3_1) rfl rfl k) ?_
 refine oS (fun t k => XS.iconst X0.here hx rfl (hb hby oj42_3_2) k) ?_
 refine oS (fun t k => XS.aloadN X0.here hx rfl (hb hby oj42_3_3) rfl rfl k) ?_
 show oG _ _ _ _ s₁ (mkF m 4 #[oR a, oR sr] [.ref sr, .int 0, .ref sr, .ref a])
 refine oS (own_alen X0 hx hZ e0 V_sr (g := (mkF m 4 #[oR a, oR sr] [.ref sr, .int 0, .ref sr, .ref a])) rfl rfl (hb hby oj42_3_4)) ?_
 refine oS (fun t k => XS.aconstNull X0.here hx rfl (hb hby oj42_3_5) k) ?_
 show oG _ _ _ _ s₁ (mkF m 6 #[oR a, oR sr] [.null, .int 2, .int 0, .ref sr, .ref a])
 refine own_callC X0 hx hZ (y := oy25) rfl hown (oW hw 7 rfl) (oW hw 8 rfl) (oW hw 10 rfl) (oW hw 3 rfl) (by decide) 0 (a := a) [.ref sr, .int 0, .int 2, .null] [] (own_sinit4_2 l Z a0 hw [] a sr ks c0 c1 zc h0 n0 Z0 E_a F_a_value F_a_coder V_sr S_C hc0 hc1 hz g_a) e0  (by decide) (by decide) (by decide) (by decide) (g := (mkF m 6 #[oR a, oR sr] [.null, .int 2, .int 0, .ref sr, .ref a])) rfl (by rw [hml]; rfl) own_pd28 rfl rfl (by show 2 * 0 + _ ≤ _; exact Nat.le_of_eq rfl) (hb hby oj42_3_6) ?_
 intro T1 v1 L1 X1 hQ1
 obtain ⟨b1_0, k1_0, rfl, N1q, Kq1, zq1_0, q1_0, q1_1, q1_2, q1_3⟩ := hQ1
 have N1 := Fr.app N0 N1q
 have K1 := (Keep.refl h0 [a]).trans Kq1 (allS (Or.inl (List.mem_of_getElem? (i := 0) rfl)) all0)
 have g_b1_0 : n0 ≤ b1_0 := Nat.le_trans Z0 zq1_0
 have sz_b1_0 : h0.size ≤ b1_0 := Nat.le_trans (Keep.refl h0 [a]).1 zq1_0
 have ne_a_b1_0 : a ≠ b1_0 := Nat.ne_of_lt (Nat.lt_of_lt_of_le E_a.lt zq1_0)
 have ne_sr_b1_0 : sr ≠ b1_0 := Nat.ne_of_lt (Nat.lt_of_lt_of_le V_sr.lt zq1_0)
 have q1_0' : Exa Z T1.heap a "java/lang/String" := q1_0
 have q1_1' : Fld Z T1.heap a "java/lang/String" "coder" "B" (.int 0) := q1_1
 have q1_2' : Fld Z T1.heap a "java/lang/String" "value" "[B" (.ref b1_0) := q1_2
 have q1_3' : Arv Z T1.heap b1_0 k1_0 .byte (2 : Int32) [(.int (c0.toInt8.toInt32)), (.int (c1.toInt8.toInt32))] (.int 0) := q1_3
 show oG _ _ _ _ T1 (mkF m 9 #[oR a, oR sr] [])
 exact own_retV X1 hx hlk hrt (hb hby oj42_3_9) (by exact ⟨b1_0, k1_0, rfl, N1, K1, sz_b1_0, q1_0', q1_1', q1_2', q1_3'⟩) (by decide) (by decide)
theorem own_ef44 (m : MethodId) (x0 : Int32) (x1 : Int32) (x2 : Int32) (x3 : Int32) (x4 : Int64) (x5 : Int32) : entryFrame m #[.int x0, .int x1, .int x2, .int x3, (.long x4), .int x5] maxLocals = mkF m 0 #[.val (.int x0), .val (.int x1), .val (.int x2), .val (.int x3), .val (.long x4), .second, .val (.int x5), .unset, .unset, .unset, .unset, .unset, .unset, .unset, .unset, .unset, .unset, .unset, .unset] [] := by first | (simp [entryFrame, mkF, argsToLocals, Value.category, maxLocals]; done) | rfl
theorem own_pd29 : parseMethodDescriptor "([C)V" = some ⟨[(.array .char)], none⟩ := by decide +kernel
theorem own_pd30 : parseMethodDescriptor "(Ljava/lang/String;[Lcom/example/ringshift/ringshift/data/Cell;J)V" = some ⟨[(.object "java/lang/String"), (.array (.object "com/example/ringshift/ringshift/data/Cell")), .long], none⟩ := by decide +kernel
theorem own_pd31 : parseMethodDescriptor "()Lcom/example/ringshift/ringshift/data/RowBatch$Builder;" = some ⟨[], some (.object "com/example/ringshift/ringshift/data/RowBatch$Builder")⟩ := by decide +kernel
theorem own_pd32 : parseMethodDescriptor "(Lcom/example/ringshift/ringshift/data/Row;)Lcom/example/ringshift/ringshift/data/RowBatch$Builder;" = some ⟨[(.object "com/example/ringshift/ringshift/data/Row")], some (.object "com/example/ringshift/ringshift/data/RowBatch$Builder")⟩ := by decide +kernel
theorem own_pd33 : parseMethodDescriptor "(C)I" = some ⟨[.char], some .int⟩ := by decide +kernel
set_option maxRecDepth 65536 in
set_option maxHeartbeats 40000000 in
theorem own_law (l : Launch) (Z : State) (a0 : Array Value) (hw : ∀ d ∈ tables_1, d.before a0 Z = true) (ws : List Jvm.Cond) (p1 : Int32) (p2 : Int32) (p3 : Int32) (p4 : Int32) (q5 : Int64) (p6 : Int32) (u8 : Addr) (zc : Int32) (fm : Value) (h0 : Heap) (n0 : Nat) (Z0 : n0 ≤ h0.size) (S_C : Sta Z h0 "java/lang/String" "COMPACT_STRINGS" "Z" (.int zc)) (S_I : Sta Z h0 "sun/nio/cs/UTF_8" "INSTANCE" "Lsun/nio/cs/UTF_8;" (.ref u8)) (S_U : Sta Z h0 "java/nio/charset/StandardCharsets" "UTF_8" "Ljava/nio/charset/Charset;" (.ref u8)) (S_F : Sta Z h0 "jdk/internal/util/Preconditions" "SIOOBE_FORMATTER" "Ljava/util/function/BiFunction;" fm) (hz : ¬ (zc = (0 : Int32))) (rG : fm.isRef = true) :
   own_Met l Z x code maxLocals ret ws room_1 #[.int p1, .int p2, .int p3, .int p4, (.long q5), .int p6] h0 (fun v h L => v = some (.int 1) ∧ Fr n0 L) := by
 refine own_body (plainFor_of_name own_pn_com_example_ringshift_ringshift_data_BuilderClearPinLaw) (fun p e s m below meth c s₁ hx hby hml0 hrt hlk hown0 hnm hZ X0 e0 => ?_)
 have N0 := Fr.nil n0
 have hown : s.vm.findClass "com/example/ringshift/ringshift/data/BuilderClearPinLaw" = some m.cls := hown0
 have hml : c.maxLocals = 19 := hml0
 refine own_castG (own_ef44 m p1 p2 p3 p4 q5 p6) ?_
 have tz : (0 : Int32).toInt = 0 := by decide
 refine oS (fun t k => XS.iloadN X0.here hx rfl (hb hby at_0) rfl k) ?_
 refine oS (fun t k => XS.sipush X0.here hx rfl (hb hby at_1) k) ?_
 refine oS (fun t k => XS.iand X0.here hx rfl (hb hby at_4) rfl k) ?_
 refine oS (fun t k => XS.i2c X0.here hx rfl (hb hby at_5) rfl k) ?_
 show oG _ _ _ _ s₁ (mkF m 6 #[oI p1, oI p2, oI p3, oI p4, .val (.long q5), .second, oI p6, .unset, .unset, .unset, .unset, .unset, .unset, .unset, .unset, .unset, .unset, .unset, .unset] [(.int ((p2 &&& 255).toUInt32.toUInt16.toUInt32.toInt32))])
 rw [own_i2c]
 show oG _ _ _ _ s₁ (mkF m 6 #[oI p1, oI p2, oI p3, oI p4, .val (.long q5), .second, oI p6, .unset, .unset, .unset, .unset, .unset, .unset, .unset, .unset, .unset, .unset, .unset, .unset] [(.int (p2 &&& 255))])
 refine oS (fun t k => XS.istore X0.here hx rfl (hb hby at_6) rfl (l' := #[oI p1, oI p2, oI p3, oI p4, .val (.long q5), .second, oI p6, oI (p2 &&& 255), .unset, .unset, .unset, .unset, .unset, .unset, .unset, .unset, .unset, .unset, .unset]) rfl k) ?_
 refine oS (fun t k => XS.iloadN X0.here hx rfl (hb hby at_8) rfl k) ?_
 refine oS (fun t k => XS.sipush X0.here hx rfl (hb hby at_9) k) ?_
 refine oS (fun t k => XS.iand X0.here hx rfl (hb hby at_12) rfl k) ?_
 refine oS (fun t k => XS.i2c X0.here hx rfl (hb hby at_13) rfl k) ?_
 show oG _ _ _ _ s₁ (mkF m 14 #[oI p1, oI p2, oI p3, oI p4, .val (.long q5), .second, oI p6, oI (p2 &&& 255), .unset, .unset, .unset, .unset, .unset, .unset, .unset, .unset, .unset, .unset, .unset] [(.int ((p3 &&& 255).toUInt32.toUInt16.toUInt32.toInt32))])
 rw [own_i2c]
 show oG _ _ _ _ s₁ (mkF m 14 #[oI p1, oI p2, oI p3, oI p4, .val (.long q5), .second, oI p6, oI (p2 &&& 255), .unset, .unset, .unset, .unset, .unset, .unset, .unset, .unset, .unset, .unset, .unset] [(.int (p3 &&& 255))])
 refine oS (fun t k => XS.istore X0.here hx rfl (hb hby at_14) rfl (l' := #[oI p1, oI p2, oI p3, oI p4, .val (.long q5), .second, oI p6, oI (p2 &&& 255), oI (p3 &&& 255), .unset, .unset, .unset, .unset, .unset, .unset, .unset, .unset, .unset, .unset]) rfl k) ?_
 refine oS (fun t k => XS.iconst X0.here hx rfl (hb hby at_16) k) ?_
 show oG _ _ _ _ s₁ (mkF m 17 #[oI p1, oI p2, oI p3, oI p4, .val (.long q5), .second, oI p6, oI (p2 &&& 255), oI (p3 &&& 255), .unset, .unset, .unset, .unset, .unset, .unset, .unset, .unset, .unset, .unset] [.int 2])
 obtain ⟨T1, h1, k1, X1, e1, E1, A1, st1⟩ := newP X0 hx hZ (oW hw 0 rfl) e0 (g := (mkF m 17 #[oI p1, oI p2, oI p3, oI p4, .val (.long q5), .second, oI p6, oI (p2 &&& 255), oI (p3 &&& 255), .unset, .unset, .unset, .unset, .unset, .unset, .unset, .unset, .unset, .unset] [.int 2])) rfl (hb hby at_17) rfl (by decide) (cap := 2) (by decide) (by decide) (by decide) (by decide)
 obtain ⟨b1, g1⟩ : ∃ z, z = h0.size := ⟨_, rfl⟩
 rw [← g1] at A1 st1
 refine oS st1 ?_
 have g_b1 : n0 ≤ b1 := Nat.le_trans Z0 (Nat.le_of_eq g1.symm)
 have sz_b1 : h0.size ≤ b1 := Nat.le_trans (Keep.refl h0 []).1 (Nat.le_of_eq g1.symm)
 have K1 := (Keep.refl h0 []).ext E1
 have V_b1 : Arv Z h1 b1 k1 .char (2 : Int32) [.int 0, .int 0] (.int 0) := (Arv.new A1 (by decide)).pad (pad_rep [] (.int 0) 2)
 refine oS (fun t k => XS.astore X1.here hx rfl (hb hby at_19) rfl rfl (l' := #[oI p1, oI p2, oI p3, oI p4, .val (.long q5), .second, oI p6, oI (p2 &&& 255), oI (p3 &&& 255), oR b1, .unset, .unset, .unset, .unset, .unset, .unset, .unset, .unset, .unset]) rfl k) ?_
 refine oS (fun t k => XS.aload X1.here hx rfl (hb hby at_21) rfl rfl k) ?_
 refine oS (fun t k => XS.iconst X1.here hx rfl (hb hby at_23) k) ?_
 refine oS (fun t k => XS.iload X1.here hx rfl (hb hby at_24) rfl k) ?_
 show oG _ _ _ _ T1 (mkF m 26 #[oI p1, oI p2, oI p3, oI p4, .val (.long q5), .second, oI p6, oI (p2 &&& 255), oI (p3 &&& 255), oR b1, .unset, .unset, .unset, .unset, .unset, .unset, .unset, .unset, .unset] [(.int (p2 &&& 255)), .int 0, .ref b1])
 obtain ⟨T2, h2, X2, e2, W2, V2, st2⟩ := own_castore X1 hx hZ e1 V_b1 (x := (p2 &&& 255)) (p2 &&& 255) (own_narc (own_m255 p2).1 (own_m255 p2).2) (j := (0 : Int32)) ⟨by decide, by decide⟩ 0 rfl (oB rfl) (g := (mkF m 26 #[oI p1, oI p2, oI p3, oI p4, .val (.long q5), .second, oI p6, oI (p2 &&& 255), oI (p3 &&& 255), oR b1, .unset, .unset, .unset, .unset, .unset, .unset, .unset, .unset, .unset] [(.int (p2 &&& 255)), .int 0, .ref b1])) rfl rfl (hb hby at_26)
 refine oS st2 ?_
 have K2 := K1.wr W2 (Or.inr sz_b1)
 have N2 := Fr.snoc X2 N0 g_b1
 have V2' : Arv Z h2 b1 k1 .char (2 : Int32) [(.int (p2 &&& 255)), .int 0] (.int 0) := V2
 refine oS (fun t k => XS.aload X2.here hx rfl (hb hby at_27) rfl rfl k) ?_
 refine oS (fun t k => XS.iconst X2.here hx rfl (hb hby at_29) k) ?_
 refine oS (fun t k => XS.iload X2.here hx rfl (hb hby at_30) rfl k) ?_
 show oG _ _ _ _ T2 (mkF m 32 #[oI p1, oI p2, oI p3, oI p4, .val (.long q5), .second, oI p6, oI (p2 &&& 255), oI (p3 &&& 255), oR b1, .unset, .unset, .unset, .unset, .unset, .unset, .unset, .unset, .unset] [(.int (p3 &&& 255)), .int 1, .ref b1])
 obtain ⟨T3, h3, X3, e3, W3, V3, st3⟩ := own_castore X2 hx hZ e2 V2' (x := (p3 &&& 255)) (p3 &&& 255) (own_narc (own_m255 p3).1 (own_m255 p3).2) (j := (1 : Int32)) ⟨by decide, by decide⟩ 1 rfl (oB rfl) (g := (mkF m 32 #[oI p1, oI p2, oI p3, oI p4, .val (.long q5), .second, oI p6, oI (p2 &&& 255), oI (p3 &&& 255), oR b1, .unset, .unset, .unset, .unset, .unset, .unset, .unset, .unset, .unset] [(.int (p3 &&& 255)), .int 1, .ref b1])) rfl rfl (hb hby at_32)
 refine oS st3 ?_
 have K3 := K2.wr W3 (Or.inr sz_b1)
 have N3 := Fr.snoc X3 N2 g_b1
 have V3' : Arv Z h3 b1 k1 .char (2 : Int32) [(.int (p2 &&& 255)), (.int (p3 &&& 255))] (.int 0) := V3
 show oG _ _ _ _ T3 (mkF m 33 #[oI p1, oI p2, oI p3, oI p4, .val (.long q5), .second, oI p6, oI (p2 &&& 255), oI (p3 &&& 255), oR b1, .unset, .unset, .unset, .unset, .unset, .unset, .unset, .unset, .unset] [])
 obtain ⟨T4, h4, X4, e4, E4, A4, D4, -, st4⟩ := newO X3 hx hZ hown (oW hw 1 rfl) (oW hw 2 rfl) (oW hw 3 rfl) e3 (g := (mkF m 33 #[oI p1, oI p2, oI p3, oI p4, .val (.long q5), .second, oI p6, oI (p2 &&& 255), oI (p3 &&& 255), oR b1, .unset, .unset, .unset, .unset, .unset, .unset, .unset, .unset, .unset] [])) rfl (hb hby at_33) (by decide) (by decide)
 obtain ⟨b4, g4⟩ : ∃ z, z = h3.size := ⟨_, rfl⟩
 rw [← g4] at A4 D4 st4
 refine oS st4 ?_
 have g_b4 : n0 ≤ b4 := Nat.le_trans (Nat.le_trans Z0 K3.1) (Nat.le_of_eq g4.symm)
 have sz_b4 : h0.size ≤ b4 := Nat.le_trans K3.1 (Nat.le_of_eq g4.symm)
 have ne_b1_b4 : b1 ≠ b4 := Nat.ne_of_lt (Nat.lt_of_lt_of_le V3'.lt (Nat.le_of_eq g4.symm))
 have K4 := K3.ext E4
 have F_b4_coder : Fld Z h4 b4 "java/lang/String" "coder" "B" (.int 0) := D4 (Or.inr (oW hw 27 rfl)) (ty := .byte) (by decide)
 have F_b4_value : Fld Z h4 b4 "java/lang/String" "value" "[B" .null := D4 (Or.inr (oW hw 29 rfl)) (ty := (.array .byte)) (by decide)
 refine oS (fun t k => XS.dup X4.here hx rfl (hb hby at_36) rfl rfl k) ?_
 refine oS (fun t k => XS.aload X4.here hx rfl (hb hby at_37) rfl rfl k) ?_
 show oG _ _ _ _ T4 (mkF m 39 #[oI p1, oI p2, oI p3, oI p4, .val (.long q5), .second, oI p6, oI (p2 &&& 255), oI (p3 &&& 255), oR b1, .unset, .unset, .unset, .unset, .unset, .unset, .unset, .unset, .unset] [.ref b1, .ref b4, .ref b4])
 have V3'_v5 := (V3'.ext E4)
 have S_C_v6 := ((((S_C.ext E1).wr W2).wr W3).ext E4)
 refine own_callC X4 hx hZ (y := oy24) rfl hown (oW hw 4 rfl) (oW hw 5 rfl) (oW hw 6 rfl) (oW hw 3 rfl) (by decide) 1 (a := b4) [.ref b1] [.ref b4] (own_sinit_2 l Z a0 hw [] b4 b1 k1 (p2 &&& 255) (p3 &&& 255) zc h4 n0 (Nat.le_trans Z0 K4.1) A4 F_b4_value F_b4_coder V3'_v5 S_C_v6 (own_m255 p2).2 (own_m255 p3).2 hz g_b4) e4  (by decide) (by decide) (by decide) (by decide) (g := (mkF m 39 #[oI p1, oI p2, oI p3, oI p4, .val (.long q5), .second, oI p6, oI (p2 &&& 255), oI (p3 &&& 255), oR b1, .unset, .unset, .unset, .unset, .unset, .unset, .unset, .unset, .unset] [.ref b1, .ref b4, .ref b4])) rfl (by rw [hml]; rfl) own_pd29 rfl rfl (by show 2 * 0 + _ ≤ _; exact Nat.le_of_eq rfl) (hb hby at_39) ?_
 intro T7 v7 L7 X7 hQ7
 obtain ⟨b7_0, k7_0, rfl, N7q, Kq7, zq7_0, q7_0, q7_1, q7_2, q7_3⟩ := hQ7
 have N7 := Fr.app N3 N7q
 have K7 := K4.trans Kq7 (allS (Or.inr sz_b4) all0)
 have g_b7_0 : n0 ≤ b7_0 := Nat.le_trans (Nat.le_trans Z0 K4.1) zq7_0
 have sz_b7_0 : h0.size ≤ b7_0 := Nat.le_trans K4.1 zq7_0
 have ne_b1_b7_0 : b1 ≠ b7_0 := Nat.ne_of_lt (Nat.lt_of_lt_of_le V3'_v5.lt zq7_0)
 have ne_b4_b7_0 : b4 ≠ b7_0 := Nat.ne_of_lt (Nat.lt_of_lt_of_le A4.lt zq7_0)
 have q7_0' : Exa Z T7.heap b4 "java/lang/String" := q7_0
 have q7_1' : Fld Z T7.heap b4 "java/lang/String" "coder" "B" (.int 0) := q7_1
 have q7_2' : Fld Z T7.heap b4 "java/lang/String" "value" "[B" (.ref b7_0) := q7_2
 have q7_3' : Arv Z T7.heap b7_0 k7_0 .byte (2 : Int32) [(.int ((p2 &&& 255).toInt8.toInt32)), (.int ((p3 &&& 255).toInt8.toInt32))] (.int 0) := q7_3
 refine oS (fun t k => XS.astore X7.here hx rfl (hb hby at_42) rfl rfl (l' := #[oI p1, oI p2, oI p3, oI p4, .val (.long q5), .second, oI p6, oI (p2 &&& 255), oI (p3 &&& 255), oR b1, oR b4, .unset, .unset, .unset, .unset, .unset, .unset, .unset, .unset]) rfl k) ?_
 refine oS (fun t k => XS.iloadN X7.here hx rfl (hb hby at_44) rfl k) ?_
 refine oS (fun t k => XS.iconst X7.here hx rfl (hb hby at_45) k) ?_
 refine oS (fun t k => XS.iand X7.here hx rfl (hb hby at_46) rfl k) ?_
 refine oS (fun t k => XS.istore X7.here hx rfl (hb hby at_47) rfl (l' := #[oI p1, oI p2, oI p3, oI p4, .val (.long q5), .second, oI p6, oI (p2 &&& 255), oI (p3 &&& 255), oR b1, oR b4, oI (p4 &&& 3), .unset, .unset, .unset, .unset, .unset, .unset, .unset]) rfl k) ?_
 refine oS (fun t k => XS.iload X7.here hx rfl (hb hby at_49) rfl k) ?_
 show oG _ _ _ _ T7 (mkF m 51 #[oI p1, oI p2, oI p3, oI p4, .val (.long q5), .second, oI p6, oI (p2 &&& 255), oI (p3 &&& 255), oR b1, oR b4, oI (p4 &&& 3), .unset, .unset, .unset, .unset, .unset, .unset, .unset] [(.int (p4 &&& 3))])
 obtain ⟨T8, h8, k8, X8, e8, E8, A8, O8, st8⟩ := newR X7 hx hZ hown (oW hw 30 rfl) (oW hw 31 rfl) rfl (g := (mkF m 51 #[oI p1, oI p2, oI p3, oI p4, .val (.long q5), .second, oI p6, oI (p2 &&& 255), oI (p3 &&& 255), oR b1, oR b4, oI (p4 &&& 3), .unset, .unset, .unset, .unset, .unset, .unset, .unset] [(.int (p4 &&& 3))])) rfl (hb hby at_51) rfl (own_n3 p4).1 (cap := 3) (own_n3 p4).2.1 (by decide) (by decide) (by decide)
 obtain ⟨b8, g8⟩ : ∃ z, z = T7.heap.size := ⟨_, rfl⟩
 rw [← g8] at A8 st8
 refine oS st8 ?_
 have g_b8 : n0 ≤ b8 := Nat.le_trans (Nat.le_trans Z0 K7.1) (Nat.le_of_eq g8.symm)
 have sz_b8 : h0.size ≤ b8 := Nat.le_trans K7.1 (Nat.le_of_eq g8.symm)
 have V3'_v9 := (V3'_v5.keep Kq7 (ninS ne_b1_b4 nin0))
 have ne_b1_b8 : b1 ≠ b8 := Nat.ne_of_lt (Nat.lt_of_lt_of_le V3'_v9.lt (Nat.le_of_eq g8.symm))
 have ne_b4_b8 : b4 ≠ b8 := Nat.ne_of_lt (Nat.lt_of_lt_of_le q7_0'.lt (Nat.le_of_eq g8.symm))
 have ne_b7_0_b8 : b7_0 ≠ b8 := Nat.ne_of_lt (Nat.lt_of_lt_of_le q7_3'.lt (Nat.le_of_eq g8.symm))
 have K8 := K7.ext E8
 have V_b8 : Arv Z h8 b8 k8 (.object "com/example/ringshift/ringshift/data/Cell") (p4 &&& 3) [] .null := Arv.new A8 (own_n3 p4).1
 show oG _ _ _ _ T8 (mkF m 54 #[oI p1, oI p2, oI p3, oI p4, .val (.long q5), .second, oI p6, oI (p2 &&& 255), oI (p3 &&& 255), oR b1, oR b4, oI (p4 &&& 3), .unset, .unset, .unset, .unset, .unset, .unset, .unset] [.ref b8])
 refine oS (fun t k => XS.astore X8.here hx rfl (hb hby at_54) rfl rfl (l' := #[oI p1, oI p2, oI p3, oI p4, .val (.long q5), .second, oI p6, oI (p2 &&& 255), oI (p3 &&& 255), oR b1, oR b4, oI (p4 &&& 3), oR b8, .unset, .unset, .unset, .unset, .unset, .unset]) rfl k) ?_
 show oG _ _ _ _ T8 (mkF m 56 #[oI p1, oI p2, oI p3, oI p4, .val (.long q5), .second, oI p6, oI (p2 &&& 255), oI (p3 &&& 255), oR b1, oR b4, oI (p4 &&& 3), oR b8, .unset, .unset, .unset, .unset, .unset, .unset] [])
 obtain ⟨T10, h10, X10, e10, E10, A10, D10, -, st10⟩ := newO X8 hx hZ hown (oW hw 32 rfl) (oW hw 33 rfl) (oW hw 34 rfl) e8 (g := (mkF m 56 #[oI p1, oI p2, oI p3, oI p4, .val (.long q5), .second, oI p6, oI (p2 &&& 255), oI (p3 &&& 255), oR b1, oR b4, oI (p4 &&& 3), oR b8, .unset, .unset, .unset, .unset, .unset, .unset] [])) rfl (hb hby at_56) (by decide) (by decide)
 obtain ⟨b10, g10⟩ : ∃ z, z = h8.size := ⟨_, rfl⟩
 rw [← g10] at A10 D10 st10
 refine oS st10 ?_
 have g_b10 : n0 ≤ b10 := Nat.le_trans (Nat.le_trans Z0 K8.1) (Nat.le_of_eq g10.symm)
 have sz_b10 : h0.size ≤ b10 := Nat.le_trans K8.1 (Nat.le_of_eq g10.symm)
 have V3'_v11 := (V3'_v9.ext E8)
 have ne_b1_b10 : b1 ≠ b10 := Nat.ne_of_lt (Nat.lt_of_lt_of_le V3'_v11.lt (Nat.le_of_eq g10.symm))
 have q7_0'_v12 := (q7_0'.ext E8)
 have ne_b4_b10 : b4 ≠ b10 := Nat.ne_of_lt (Nat.lt_of_lt_of_le q7_0'_v12.lt (Nat.le_of_eq g10.symm))
 have q7_3'_v13 := (q7_3'.ext E8)
 have ne_b7_0_b10 : b7_0 ≠ b10 := Nat.ne_of_lt (Nat.lt_of_lt_of_le q7_3'_v13.lt (Nat.le_of_eq g10.symm))
 have ne_b8_b10 : b8 ≠ b10 := Nat.ne_of_lt (Nat.lt_of_lt_of_le V_b8.lt (Nat.le_of_eq g10.symm))
 have K10 := K8.ext E10
 have F_b10_key : Fld Z h10 b10 "com/example/ringshift/ringshift/data/Row" "key" "Ljava/lang/String;" .null := D10 (Or.inr (oW hw 48 rfl)) (ty := (.object "java/lang/String")) (by decide)
 have F_b10_cells : Fld Z h10 b10 "com/example/ringshift/ringshift/data/Row" "cells" "[Lcom/example/ringshift/ringshift/data/Cell;" .null := D10 (Or.inr (oW hw 50 rfl)) (ty := (.array (.object "com/example/ringshift/ringshift/data/Cell"))) (by decide)
 have F_b10_deletedAt : Fld Z h10 b10 "com/example/ringshift/ringshift/data/Row" "deletedAt" "J" (.long (0 : Int64)) := D10 (Or.inr (oW hw 52 rfl)) (ty := .long) (by decide)
 have F_b10_movedFrom : Fld Z h10 b10 "com/example/ringshift/ringshift/data/Row" "movedFrom" "Lcom/example/ringshift/ringshift/data/MovedFrom;" .null := D10 (Or.inr (oW hw 54 rfl)) (ty := (.object "com/example/ringshift/ringshift/data/MovedFrom")) (by decide)
 refine oS (fun t k => XS.dup X10.here hx rfl (hb hby at_59) rfl rfl k) ?_
 refine oS (fun t k => XS.aload X10.here hx rfl (hb hby at_60) rfl rfl k) ?_
 refine oS (fun t k => XS.aload X10.here hx rfl (hb hby at_62) rfl rfl k) ?_
 refine oS (fun t k => XS.lload X10.here hx rfl (hb hby at_64) rfl k) ?_
 show oG _ _ _ _ T10 (mkF m 66 #[oI p1, oI p2, oI p3, oI p4, .val (.long q5), .second, oI p6, oI (p2 &&& 255), oI (p3 &&& 255), oR b1, oR b4, oI (p4 &&& 3), oR b8, .unset, .unset, .unset, .unset, .unset, .unset] [(.long q5), .ref b8, .ref b4, .ref b10, .ref b10])
 refine own_callC X10 hx hZ (y := oy1) rfl hown (oW hw 35 rfl) (oW hw 36 rfl) (oW hw 37 rfl) (oW hw 34 rfl) (by decide) 1 (a := b10) [.ref b4, .ref b8, (.long q5)] [.ref b10] (own_ri3 l Z a0 hw [] b10 b4 b8 q5 h10 n0 (Nat.le_trans Z0 K10.1) A10 F_b10_key F_b10_cells F_b10_deletedAt F_b10_movedFrom g_b10) e10  (by decide) (by decide) (by decide) (by decide) (g := (mkF m 66 #[oI p1, oI p2, oI p3, oI p4, .val (.long q5), .second, oI p6, oI (p2 &&& 255), oI (p3 &&& 255), oR b1, oR b4, oI (p4 &&& 3), oR b8, .unset, .unset, .unset, .unset, .unset, .unset] [(.long q5), .ref b8, .ref b4, .ref b10, .ref b10])) rfl (by rw [hml]; rfl) own_pd30 rfl rfl (by show 2 * 0 + _ ≤ _; exact Nat.le_of_eq rfl) (hb hby at_66) ?_
 intro T14 v14 L14 X14 hQ14
 have V3'_v15 := (V3'_v11.ext E10)
 have q7_0'_v16 := (q7_0'_v12.ext E10)
 have q7_3'_v17 := (q7_3'_v13.ext E10)
 have V_b8_v18 := (V_b8.ext E10)
 obtain ⟨rfl, N14q, Kq14, q14_0, q14_1, q14_2, q14_3⟩ := hQ14
 have N14 := Fr.app N7 N14q
 have K14 := K10.trans Kq14 (allS (Or.inr sz_b10) all0)
 have q14_0' : Fld Z T14.heap b10 "com/example/ringshift/ringshift/data/Row" "key" "Ljava/lang/String;" (.ref b4) := q14_0
 have q14_1' : Fld Z T14.heap b10 "com/example/ringshift/ringshift/data/Row" "cells" "[Lcom/example/ringshift/ringshift/data/Cell;" (.ref b8) := q14_1
 have q14_2' : Fld Z T14.heap b10 "com/example/ringshift/ringshift/data/Row" "deletedAt" "J" (.long q5) := q14_2
 have q14_3' : Fld Z T14.heap b10 "com/example/ringshift/ringshift/data/Row" "movedFrom" "Lcom/example/ringshift/ringshift/data/MovedFrom;" .null := q14_3
 refine oS (fun t k => XS.astore X14.here hx rfl (hb hby at_69) rfl rfl (l' := #[oI p1, oI p2, oI p3, oI p4, .val (.long q5), .second, oI p6, oI (p2 &&& 255), oI (p3 &&& 255), oR b1, oR b4, oI (p4 &&& 3), oR b8, oR b10, .unset, .unset, .unset, .unset, .unset]) rfl k) ?_
 show oG _ _ _ _ T14 (mkF m 71 #[oI p1, oI p2, oI p3, oI p4, .val (.long q5), .second, oI p6, oI (p2 &&& 255), oI (p3 &&& 255), oR b1, oR b4, oI (p4 &&& 3), oR b8, oR b10, .unset, .unset, .unset, .unset, .unset] [])
 obtain ⟨T19, h19, X19, e19, E19, A19, D19, -, st19⟩ := newO X14 hx hZ hown (oW hw 55 rfl) (oW hw 56 rfl) (oW hw 57 rfl) rfl (g := (mkF m 71 #[oI p1, oI p2, oI p3, oI p4, .val (.long q5), .second, oI p6, oI (p2 &&& 255), oI (p3 &&& 255), oR b1, oR b4, oI (p4 &&& 3), oR b8, oR b10, .unset, .unset, .unset, .unset, .unset] [])) rfl (hb hby at_71) (by decide) (by decide)
 obtain ⟨b19, g19⟩ : ∃ z, z = T14.heap.size := ⟨_, rfl⟩
 rw [← g19] at A19 D19 st19
 refine oS st19 ?_
 have g_b19 : n0 ≤ b19 := Nat.le_trans (Nat.le_trans Z0 K14.1) (Nat.le_of_eq g19.symm)
 have sz_b19 : h0.size ≤ b19 := Nat.le_trans K14.1 (Nat.le_of_eq g19.symm)
 have V3'_v20 := (V3'_v15.keep Kq14 (ninS ne_b1_b10 nin0))
 have ne_b1_b19 : b1 ≠ b19 := Nat.ne_of_lt (Nat.lt_of_lt_of_le V3'_v20.lt (Nat.le_of_eq g19.symm))
 have q7_0'_v21 := (q7_0'_v16.keep Kq14)
 have ne_b4_b19 : b4 ≠ b19 := Nat.ne_of_lt (Nat.lt_of_lt_of_le q7_0'_v21.lt (Nat.le_of_eq g19.symm))
 have q7_3'_v22 := (q7_3'_v17.keep Kq14 (ninS ne_b7_0_b10 nin0))
 have ne_b7_0_b19 : b7_0 ≠ b19 := Nat.ne_of_lt (Nat.lt_of_lt_of_le q7_3'_v22.lt (Nat.le_of_eq g19.symm))
 have V_b8_v23 := (V_b8_v18.keep Kq14 (ninS ne_b8_b10 nin0))
 have ne_b8_b19 : b8 ≠ b19 := Nat.ne_of_lt (Nat.lt_of_lt_of_le V_b8_v23.lt (Nat.le_of_eq g19.symm))
 have A10_v24 := (A10.keep Kq14)
 have ne_b10_b19 : b10 ≠ b19 := Nat.ne_of_lt (Nat.lt_of_lt_of_le A10_v24.lt (Nat.le_of_eq g19.symm))
 have K19 := K14.ext E19
 have F_b19_rows : Fld Z h19 b19 "com/example/ringshift/ringshift/data/RowBatch$Builder" "rows" "Lcom/example/ringshift/ringshift/io/BinaryWriter;" .null := D19 (Or.inr (oW hw 75 rfl)) (ty := (.object "com/example/ringshift/ringshift/io/BinaryWriter")) (by decide)
 have F_b19_count : Fld Z h19 b19 "com/example/ringshift/ringshift/data/RowBatch$Builder" "count" "I" (.int 0) := D19 (Or.inl (oW hw 89 rfl)) (ty := .int) (by decide)
 refine oS (fun t k => XS.dup X19.here hx rfl (hb hby at_74) rfl rfl k) ?_
 show oG _ _ _ _ T19 (mkF m 75 #[oI p1, oI p2, oI p3, oI p4, .val (.long q5), .second, oI p6, oI (p2 &&& 255), oI (p3 &&& 255), oR b1, oR b4, oI (p4 &&& 3), oR b8, oR b10, .unset, .unset, .unset, .unset, .unset] [.ref b19, .ref b19])
 refine own_callC X19 hx hZ (y := oy5) rfl hown (oW hw 58 rfl) (oW hw 59 rfl) (oW hw 60 rfl) (oW hw 57 rfl) (by decide) 1 (a := b19) [] [.ref b19] (own_bli l Z a0 hw [] b19 h19 n0 (Nat.le_trans Z0 K19.1) A19 F_b19_rows F_b19_count g_b19) e19  (by decide) (by decide) (by decide) (by decide) (g := (mkF m 75 #[oI p1, oI p2, oI p3, oI p4, .val (.long q5), .second, oI p6, oI (p2 &&& 255), oI (p3 &&& 255), oR b1, oR b4, oI (p4 &&& 3), oR b8, oR b10, .unset, .unset, .unset, .unset, .unset] [.ref b19, .ref b19])) rfl (by rw [hml]; rfl) own_pd22 rfl rfl (by show 2 * 0 + _ ≤ _; exact Nat.le_of_eq rfl) (hb hby at_75) ?_
 intro T25 v25 L25 X25 hQ25
 have V3'_v26 := (V3'_v20.ext E19)
 have q7_0'_v27 := (q7_0'_v21.ext E19)
 have q7_3'_v28 := (q7_3'_v22.ext E19)
 have V_b8_v29 := (V_b8_v23.ext E19)
 have A10_v30 := (A10_v24.ext E19)
 obtain ⟨b25_0, b25_1, k25_0, rfl, N25q, Kq25, zq25_0, zq25_1, q25_0, q25_1, q25_2, q25_3, q25_4, q25_5⟩ := hQ25
 have N25 := Fr.app N14 N25q
 have K25 := K19.trans Kq25 (allS (Or.inr sz_b19) all0)
 have g_b25_0 : n0 ≤ b25_0 := Nat.le_trans (Nat.le_trans Z0 K19.1) zq25_0
 have sz_b25_0 : h0.size ≤ b25_0 := Nat.le_trans K19.1 zq25_0
 have ne_b1_b25_0 : b1 ≠ b25_0 := Nat.ne_of_lt (Nat.lt_of_lt_of_le V3'_v26.lt zq25_0)
 have ne_b4_b25_0 : b4 ≠ b25_0 := Nat.ne_of_lt (Nat.lt_of_lt_of_le q7_0'_v27.lt zq25_0)
 have ne_b7_0_b25_0 : b7_0 ≠ b25_0 := Nat.ne_of_lt (Nat.lt_of_lt_of_le q7_3'_v28.lt zq25_0)
 have ne_b8_b25_0 : b8 ≠ b25_0 := Nat.ne_of_lt (Nat.lt_of_lt_of_le V_b8_v29.lt zq25_0)
 have ne_b10_b25_0 : b10 ≠ b25_0 := Nat.ne_of_lt (Nat.lt_of_lt_of_le A10_v30.lt zq25_0)
 have ne_b19_b25_0 : b19 ≠ b25_0 := Nat.ne_of_lt (Nat.lt_of_lt_of_le A19.lt zq25_0)
 have g_b25_1 : n0 ≤ b25_1 := Nat.le_trans (Nat.le_trans Z0 K19.1) zq25_1
 have sz_b25_1 : h0.size ≤ b25_1 := Nat.le_trans K19.1 zq25_1
 have ne_b1_b25_1 : b1 ≠ b25_1 := Nat.ne_of_lt (Nat.lt_of_lt_of_le V3'_v26.lt zq25_1)
 have ne_b4_b25_1 : b4 ≠ b25_1 := Nat.ne_of_lt (Nat.lt_of_lt_of_le q7_0'_v27.lt zq25_1)
 have ne_b7_0_b25_1 : b7_0 ≠ b25_1 := Nat.ne_of_lt (Nat.lt_of_lt_of_le q7_3'_v28.lt zq25_1)
 have ne_b8_b25_1 : b8 ≠ b25_1 := Nat.ne_of_lt (Nat.lt_of_lt_of_le V_b8_v29.lt zq25_1)
 have ne_b10_b25_1 : b10 ≠ b25_1 := Nat.ne_of_lt (Nat.lt_of_lt_of_le A10_v30.lt zq25_1)
 have ne_b19_b25_1 : b19 ≠ b25_1 := Nat.ne_of_lt (Nat.lt_of_lt_of_le A19.lt zq25_1)
 have q25_0' : Fld Z T25.heap b19 "com/example/ringshift/ringshift/data/RowBatch$Builder" "rows" "Lcom/example/ringshift/ringshift/io/BinaryWriter;" (.ref b25_0) := q25_0
 have q25_1' : Fld Z T25.heap b19 "com/example/ringshift/ringshift/data/RowBatch$Builder" "count" "I" (.int 0) := q25_1
 have q25_2' : Exa Z T25.heap b25_0 "com/example/ringshift/ringshift/io/BinaryWriter" := q25_2
 have q25_3' : Fld Z T25.heap b25_0 "com/example/ringshift/ringshift/io/BinaryWriter" "bytes" "[B" (.ref b25_1) := q25_3
 have q25_4' : Fld Z T25.heap b25_0 "com/example/ringshift/ringshift/io/BinaryWriter" "size" "I" (.int 0) := q25_4
 have q25_5' : own_Buf Z T25.heap b25_1 k25_0 (64 : Int32) := q25_5
 have ne_b25_0_b25_1 : b25_0 ≠ b25_1 := own_neEB q25_2' q25_5' (oW hw 63 rfl)
 refine oS (fun t k => XS.astore X25.here hx rfl (hb hby at_78) rfl rfl (l' := (oL p1 p2 p3 p4 q5 p6 b1 b4 b8 b10 b19 .unset .unset .unset .unset)) rfl k) ?_
 show oG _ _ _ _ T25 (mkF m 80 (oL p1 p2 p3 p4 q5 p6 b1 b4 b8 b10 b19 .unset .unset .unset .unset) [])
 have IC0 : 8 + own_gc (64 : Int32) ≤ 8 + 1 := by decide
 have IS0 : 83 + own_gs (64 : Int32) ≤ 83 + 128 := by decide
 have t64 : (64 : Int32).toInt = 64 := by decide
 have ur0 := own_ur (p2 &&& 255)
 have ur1 := own_ur (p3 &&& 255)
 have dr := own_dr q5
 have tn := (own_n3 p4).2.2.2
 refine oS (fun t k => XS.iloadN X25.here hx rfl (hb hby at_80) rfl k) ?_
 refine oS (fun t k => XS.iconst X25.here hx rfl (hb hby at_81) k) ?_
 refine oS (fun t k => XS.iand X25.here hx rfl (hb hby at_82) rfl k) ?_
 show oG _ _ _ _ T25 (mkF m 83 (oL p1 p2 p3 p4 q5 p6 b1 b4 b8 b10 b19 .unset .unset .unset .unset) [(.int (p1 &&& 3))])
 rcases (own_n3 p1).2.2.1 with hi | hi | hi | hi
 · rw [hi]
   show oG _ _ _ _ T25 (mkF m 83 (oL p1 p2 p3 p4 q5 p6 b1 b4 b8 b10 b19 .unset .unset .unset .unset) [.int 0])
   refine oS (fun t k => XS.istore X25.here hx rfl (hb hby at_83) rfl (l' := (oL p1 p2 p3 p4 q5 p6 b1 b4 b8 b10 b19 (oI 0) .unset .unset .unset)) rfl k) ?_
   refine oS (fun t k => XS.iload X25.here hx rfl (hb hby at_85) rfl k) ?_
   refine oS (fun t k => XS.iconst X25.here hx rfl (hb hby at_87) k) ?_
   show oG _ _ _ _ T25 (mkF m 88 (oL p1 p2 p3 p4 q5 p6 b1 b4 b8 b10 b19 (oI 0) .unset .unset .unset) [.int 1, .int 0])
   refine oS (fun t k => XS.icmpYes X25.here hx rfl (pc0 := 88) (pc' := 99) rfl (hb hby at_88) rfl (tlt (show (0 : Int32) < (1 : Int32) from (by decide))).1 (by decide) (by decide) k) ?_
   refine oS (fun t k => XS.iload X25.here hx rfl (hb hby at_99) rfl k) ?_
   refine oS (fun t k => XS.iconst X25.here hx rfl (hb hby at_101) k) ?_
   show oG _ _ _ _ T25 (mkF m 102 (oL p1 p2 p3 p4 q5 p6 b1 b4 b8 b10 b19 (oI 0) .unset .unset .unset) [.int 2, .int 0])
   refine oS (fun t k => XS.icmpYes X25.here hx rfl (pc0 := 102) (pc' := 113) rfl (hb hby at_102) rfl (tlt (show (0 : Int32) < (2 : Int32) from (by decide))).1 (by decide) (by decide) k) ?_
   refine oS (fun t k => XS.iload X25.here hx rfl (hb hby at_113) rfl k) ?_
   refine oS (fun t k => XS.iconst X25.here hx rfl (hb hby at_115) k) ?_
   show oG _ _ _ _ T25 (mkF m 116 (oL p1 p2 p3 p4 q5 p6 b1 b4 b8 b10 b19 (oI 0) .unset .unset .unset) [.int 3, .int 0])
   refine oS (fun t k => XS.icmpYes X25.here hx rfl (pc0 := 116) (pc' := 127) rfl (hb hby at_116) rfl (tlt (show (0 : Int32) < (3 : Int32) from (by decide))).1 (by decide) (by decide) k) ?_
   refine oS (fun t k => XS.aload X25.here hx rfl (hb hby at_127) rfl rfl k) ?_
   show oG _ _ _ _ T25 (mkF m 129 (oL p1 p2 p3 p4 q5 p6 b1 b4 b8 b10 b19 (oI 0) .unset .unset .unset) [.ref b19])
   have A19_v31 := (A19.keep Kq25)
   refine own_callV X25 hx hZ (y := oy8) (z := oy8) hown (oW hw 76 rfl) (oW hw 77 rfl) (notFace_of_selects (args := #[]) (mvT hZ (oW hw 79 rfl))) (oW hw 79 rfl) (oW hw 78 rfl) (oW hw 80 rfl) (oW hw 57 rfl) (by decide) 0 A19_v31 [] [] (own_clr l Z a0 hw [] b19 b25_0 0 0 b25_1 T25.heap n0 (Nat.le_trans Z0 K25.1) A19_v31 q25_0' q25_1' q25_2' q25_4' q25_3' g_b19 g_b25_0 ne_b19_b25_0) rfl  (oB rfl) (oB rfl) (own_needRL IC0 (oB rfl)) (own_needRL IS0 (oB rfl)) (g := (mkF m 129 (oL p1 p2 p3 p4 q5 p6 b1 b4 b8 b10 b19 (oI 0) .unset .unset .unset) [.ref b19])) rfl (by rw [hml]; rfl) own_pd31 rfl rfl (by show 2 * 0 + _ ≤ _; exact Nat.le_of_eq rfl) (hb hby at_129) ?_
   intro T32 v32 L32 X32 hQ32
   have V3'_v33 := (V3'_v26.keep Kq25 (ninS ne_b1_b19 nin0))
   have q7_0'_v34 := (q7_0'_v27.keep Kq25)
   have q7_3'_v35 := (q7_3'_v28.keep Kq25 (ninS ne_b7_0_b19 nin0))
   have V_b8_v36 := (V_b8_v29.keep Kq25 (ninS ne_b8_b19 nin0))
   have A10_v37 := (A10_v30.keep Kq25)
   obtain ⟨rfl, N32q, Kq32, q32_0, q32_1, q32_2, q32_3⟩ := hQ32
   have N32 := Fr.app N25 N32q
   have K32 := K25.trans Kq32 (allS (Or.inr sz_b19) (allS (Or.inr sz_b25_0) all0))
   have q32_0' : Fld Z T32.heap b19 "com/example/ringshift/ringshift/data/RowBatch$Builder" "rows" "Lcom/example/ringshift/ringshift/io/BinaryWriter;" (.ref b25_0) := q32_0
   have q32_1' : Fld Z T32.heap b25_0 "com/example/ringshift/ringshift/io/BinaryWriter" "bytes" "[B" (.ref b25_1) := q32_1
   have q32_2' : Fld Z T32.heap b19 "com/example/ringshift/ringshift/data/RowBatch$Builder" "count" "I" (.int 0) := q32_2
   have q32_3' : Fld Z T32.heap b25_0 "com/example/ringshift/ringshift/io/BinaryWriter" "size" "I" (.int 0) := q32_3
   have IC32 := own_accL 0 IC0
   have IS32 := own_accL 0 IS0
   refine oS (fun t k => XS.astore X32.here hx rfl (hb hby at_132) rfl rfl (l' := (oL p1 p2 p3 p4 q5 p6 b1 b4 b8 b10 b19 (oI 0) (oR b19) .unset .unset)) rfl k) ?_
   refine oS (fun t k => XS.iload X32.here hx rfl (hb hby at_134) rfl k) ?_
   refine oS (fun t k => XS.iconst X32.here hx rfl (hb hby at_136) k) ?_
   refine oS (fun t k => XS.iand X32.here hx rfl (hb hby at_137) rfl k) ?_
   show oG _ _ _ _ T32 (mkF m 138 (oL p1 p2 p3 p4 q5 p6 b1 b4 b8 b10 b19 (oI 0) (oR b19) .unset .unset) [(.int (p6 &&& 1))])
   by_cases hc138_38 : (p6 &&& 1) = (0 : Int32)
   · refine oS (fun t k => XS.ifYes X32.here hx rfl (pc0 := 138) (pc' := 148) rfl (hb hby at_138) rfl ((if0 _ _).trans (teq (show (p6 &&& 1) = (0 : Int32) from hc138_38)).1) (by decide) (by decide) k) ?_
     refine oS (fun t k => XS.aload X32.here hx rfl (hb hby at_148) rfl rfl k) ?_
     refine oS (fun t k => XS.aload X32.here hx rfl (hb hby at_150) rfl rfl k) ?_
     show oG _ _ _ _ T32 (mkF m 152 (oL p1 p2 p3 p4 q5 p6 b1 b4 b8 b10 b19 (oI 0) (oR b19) .unset .unset) [.ref b19, .ref b19])
     refine oS (fun t k => Jvm.RoadKit.acmp (g := (mkF m 152 (oL p1 p2 p3 p4 q5 p6 b1 b4 b8 b10 b19 (oI 0) (oR b19) .unset .unset) [.ref b19, .ref b19])) X32 hx rfl rfl rfl (pc0 := 152) (pc' := 155) (same := true) rfl (hb hby at_152) rfl (decide_eq_true rfl) (by decide) (by decide) k) ?_
     refine oS (fun t k => XS.aload X32.here hx rfl (hb hby at_155) rfl rfl k) ?_
     show oG _ _ _ _ T32 (mkF m 157 (oL p1 p2 p3 p4 q5 p6 b1 b4 b8 b10 b19 (oI 0) (oR b19) .unset .unset) [.ref b19])
     have A19_v40 := (A19_v31.keep Kq32)
     refine own_callV X32 hx hZ (y := oy9) (z := oy9) hown (oW hw 90 rfl) (oW hw 91 rfl) (notFace_of_selects (args := #[]) (mvT hZ (oW hw 93 rfl))) (oW hw 93 rfl) (oW hw 92 rfl) (oW hw 94 rfl) (oW hw 57 rfl) (by decide) 0 A19_v40 [] [] (own_cnt l Z a0 hw [] b19 0 T32.heap n0 (Nat.le_trans Z0 K32.1) q32_2') rfl  (oB rfl) (oB rfl) (own_needRL IC32 (oB rfl)) (own_needRL IS32 (oB rfl)) (g := (mkF m 157 (oL p1 p2 p3 p4 q5 p6 b1 b4 b8 b10 b19 (oI 0) (oR b19) .unset .unset) [.ref b19])) rfl (by rw [hml]; rfl) own_pd17 rfl rfl (by show 2 * 0 + _ ≤ _; exact Nat.le_of_eq rfl) (hb hby at_157) ?_
     intro T39 v39 L39 X39 hQ39
     obtain ⟨rfl, N39q, e39⟩ := hQ39
     have N39 := Fr.app N32 N39q
     have IC39 := own_accL 0 IC32
     have IS39 := own_accL 0 IS32
     show oG _ _ _ _ T39 (mkF m 160 (oL p1 p2 p3 p4 q5 p6 b1 b4 b8 b10 b19 (oI 0) (oR b19) .unset .unset) [.int 0])
     refine oS (fun t k => XS.ifNo X39.here hx rfl (hb hby at_160) rfl ((if0 _ _).trans (teq (show (0 : Int32) = (0 : Int32) from (by decide))).2) k) ?_
     refine oS (fun t k => XS.aload X39.here hx rfl (hb hby at_163) rfl rfl k) ?_
     show oG _ _ _ _ T39 (mkF m 165 (oL p1 p2 p3 p4 q5 p6 b1 b4 b8 b10 b19 (oI 0) (oR b19) .unset .unset) [.ref b19])
     have q25_2'_v41 := (q25_2'.keep Kq32)
     refine own_callV X39 hx hZ (y := oy7) (z := oy7) hown (oW hw 95 rfl) (oW hw 96 rfl) (notFace_of_selects (args := #[]) (mvT hZ (oW hw 98 rfl))) (oW hw 98 rfl) (oW hw 97 rfl) (oW hw 99 rfl) (oW hw 57 rfl) (by decide) 0 A19_v40 [] [] (own_byt l Z a0 hw [] b19 b25_0 0 T32.heap n0 (Nat.le_trans Z0 K32.1) q32_0' q25_2'_v41 q32_3') e39  (oB rfl) (oB rfl) (own_needRL IC39 (oB rfl)) (own_needRL IS39 (oB rfl)) (g := (mkF m 165 (oL p1 p2 p3 p4 q5 p6 b1 b4 b8 b10 b19 (oI 0) (oR b19) .unset .unset) [.ref b19])) rfl (by rw [hml]; rfl) own_pd17 rfl rfl (by show 2 * 0 + _ ≤ _; exact Nat.le_of_eq rfl) (hb hby at_165) ?_
     intro T42 v42 L42 X42 hQ42
     obtain ⟨rfl, N42q, e42⟩ := hQ42
     have N42 := Fr.app N39 N42q
     have IC42 := own_accL 0 IC39
     have IS42 := own_accL 0 IS39
     show oG _ _ _ _ T42 (mkF m 168 (oL p1 p2 p3 p4 q5 p6 b1 b4 b8 b10 b19 (oI 0) (oR b19) .unset .unset) [.int 0])
     refine oS (fun t k => XS.ifNo X42.here hx rfl (hb hby at_168) rfl ((if0 _ _).trans (teq (show (0 : Int32) = (0 : Int32) from (by decide))).2) k) ?_
     refine oS (fun t k => XS.iconst X42.here hx rfl (hb hby at_171) k) ?_
     refine oS (fun t k => XS.goto X42.here hx rfl (pc0 := 172) (pc' := 176) rfl (hb hby at_172) (by decide) (by decide) k) ?_
     refine oS (fun t k => XS.istore X42.here hx rfl (hb hby at_176) rfl (l' := (oL p1 p2 p3 p4 q5 p6 b1 b4 b8 b10 b19 (oI 0) (oR b19) (oI 1) .unset)) rfl k) ?_
     refine oS (fun t k => XS.aload X42.here hx rfl (hb hby at_178) rfl rfl k) ?_
     refine oS (fun t k => XS.aload X42.here hx rfl (hb hby at_180) rfl rfl k) ?_
     show oG _ _ _ _ T42 (mkF m 182 (oL p1 p2 p3 p4 q5 p6 b1 b4 b8 b10 b19 (oI 0) (oR b19) (oI 1) .unset) [.ref b10, .ref b19])
     have hS43 : own_St (64 : Int32) (0 : Int32) 0 := ⟨(Or.inl rfl), tz, by omega, by omega⟩
     have hN43 : 0 + ((4 + own_u (p2 &&& 255) + own_u (p3 &&& 255)) + (own_d q5 + 4 + 4 * (p4 &&& 3).toInt)) ≤ 128 := by omega
     have q25_5'_v44 := (q25_5'.keep Kq32 (ninS (Ne.symm ne_b19_b25_1) (ninS (Ne.symm ne_b25_0_b25_1) nin0)))
     have A10_v45 := (A10_v37.keep Kq32)
     have q14_0'_v46 := (((q14_0'.ext E19).keep Kq25 (ninS ne_b10_b19 nin0)).keep Kq32 (ninS ne_b10_b19 (ninS ne_b10_b25_0 nin0)))
     have q14_2'_v47 := (((q14_2'.ext E19).keep Kq25 (ninS ne_b10_b19 nin0)).keep Kq32 (ninS ne_b10_b19 (ninS ne_b10_b25_0 nin0)))
     have q14_3'_v48 := (((q14_3'.ext E19).keep Kq25 (ninS ne_b10_b19 nin0)).keep Kq32 (ninS ne_b10_b19 (ninS ne_b10_b25_0 nin0)))
     have q14_1'_v49 := (((q14_1'.ext E19).keep Kq25 (ninS ne_b10_b19 nin0)).keep Kq32 (ninS ne_b10_b19 (ninS ne_b10_b25_0 nin0)))
     have q7_0'_v50 := (q7_0'_v34.keep Kq32)
     have q7_1'_v51 := ((((((q7_1'.ext E8).ext E10).keep Kq14 (ninS ne_b4_b10 nin0)).ext E19).keep Kq25 (ninS ne_b4_b19 nin0)).keep Kq32 (ninS ne_b4_b19 (ninS ne_b4_b25_0 nin0)))
     have q7_2'_v52 := ((((((q7_2'.ext E8).ext E10).keep Kq14 (ninS ne_b4_b10 nin0)).ext E19).keep Kq25 (ninS ne_b4_b19 nin0)).keep Kq32 (ninS ne_b4_b19 (ninS ne_b4_b25_0 nin0)))
     have q7_3'_v53 := (q7_3'_v35.keep Kq32 (ninS ne_b7_0_b19 (ninS ne_b7_0_b25_0 nin0)))
     have V_b8_v54 := (V_b8_v36.keep Kq32 (ninS ne_b8_b19 (ninS ne_b8_b25_0 nin0)))
     have S_C_v55 := (own_staKeep (own_staKeep ((own_staKeep (((own_staKeep S_C_v6 Kq7 (allS (own_plainE A4) all0)).ext E8).ext E10) Kq14 (allS (own_plainE A10) all0)).ext E19) Kq25 (allS (own_plainE A19) all0)) Kq32 (allS (own_plainE A19_v31) (allS (own_plainE q25_2') all0)))
     have S_I_v56 := (own_staKeep (own_staKeep ((own_staKeep (((own_staKeep ((((S_I.ext E1).wr W2).wr W3).ext E4) Kq7 (allS (own_plainE A4) all0)).ext E8).ext E10) Kq14 (allS (own_plainE A10) all0)).ext E19) Kq25 (allS (own_plainE A19) all0)) Kq32 (allS (own_plainE A19_v31) (allS (own_plainE q25_2') all0)))
     have S_U_v57 := (own_staKeep (own_staKeep ((own_staKeep (((own_staKeep ((((S_U.ext E1).wr W2).wr W3).ext E4) Kq7 (allS (own_plainE A4) all0)).ext E8).ext E10) Kq14 (allS (own_plainE A10) all0)).ext E19) Kq25 (allS (own_plainE A19) all0)) Kq32 (allS (own_plainE A19_v31) (allS (own_plainE q25_2') all0)))
     have S_F_v58 := (own_staKeep (own_staKeep ((own_staKeep (((own_staKeep ((((S_F.ext E1).wr W2).wr W3).ext E4) Kq7 (allS (own_plainE A4) all0)).ext E8).ext E10) Kq14 (allS (own_plainE A10) all0)).ext E19) Kq25 (allS (own_plainE A19) all0)) Kq32 (allS (own_plainE A19_v31) (allS (own_plainE q25_2') all0)))
     refine own_callVX X42 hx hZ (y := oy6) (z := oy6) hown (oW hw 105 rfl) (oW hw 106 rfl) (notFace_of_selects (args := #[]) (mvT hZ (oW hw 108 rfl))) (oW hw 108 rfl) (oW hw 107 rfl) (oW hw 109 rfl) (oW hw 57 rfl) (by decide) 0 A19_v40 [.ref b10] [] (own_add l Z a0 hw [] b25_0 b25_1 k25_0 64 0 0 b19 0 b10 b8 k8 q5 (p4 &&& 3) b4 u8 b7_0 k7_0 (p2 &&& 255) (p3 &&& 255) zc fm T32.heap n0 (Nat.le_trans Z0 K32.1) q32_0' q25_2'_v41 q32_3' q32_1' q25_5'_v44 A19_v40 q32_2' A10_v45 q14_0'_v46 q14_2'_v47 q14_3'_v48 q14_1'_v49 q7_0'_v50 q7_1'_v51 q7_2'_v52 q7_3'_v53 V_b8_v54 S_C_v55 S_I_v56 S_U_v57 S_F_v58 hS43 hN43 g_b25_0 g_b25_1 ne_b25_0_b25_1 (own_m255 p2).1 (own_m255 p2).2 (own_m255 p3).1 (own_m255 p3).2 hz rG (own_n3 p4).2.2.1 g_b19 ne_b4_b25_0 ne_b4_b25_1 ne_b7_0_b25_0 ne_b7_0_b25_1 ne_b10_b25_0 ne_b10_b25_1 ne_b8_b25_0 ne_b8_b25_1 ne_b19_b25_0 ne_b19_b25_1) e42  (oB rfl) (oB rfl) (own_needR IC42 (oB rfl)) (own_needR IS42 (oB rfl)) (g := (mkF m 182 (oL p1 p2 p3 p4 q5 p6 b1 b4 b8 b10 b19 (oI 0) (oR b19) (oI 1) .unset) [.ref b10, .ref b19])) rfl (by rw [hml]; rfl) own_pd32 rfl rfl (by show 2 * 0 + _ ≤ _; exact Nat.le_of_eq rfl) (hb hby at_182) ?_
     intro T59 v59 L59 xc59 xs59 X59 hQ59
     have V3'_v60 := (V3'_v33.keep Kq32 (ninS ne_b1_b19 (ninS ne_b1_b25_0 nin0)))
     obtain ⟨b59_0, k59_0, cp59, z59, rfl, N59q, Kq59, zq59, hT59, hkC59, hkS59, q59_0, q59_1, q59_2, y59_0, y59_1⟩ := hQ59
     obtain ⟨sc59, sq59, sl59, su59⟩ := hT59
     have N59 := Fr.app N42 N59q
     have K59 := K32.trans Kq59 (allS (Or.inr sz_b19) (allS (Or.inr sz_b25_0) (allS (Or.inr sz_b25_1) all0)))
     have g_b59_0 : n0 ≤ b59_0 := own_sz2 zq59 g_b25_1 (Nat.le_trans Z0 K32.1)
     have sz_b59_0 : h0.size ≤ b59_0 := own_sz2 zq59 sz_b25_1 K32.1
     have ne_b1_b59_0 : b1 ≠ b59_0 := own_ne2 ne_b1_b25_1 V3'_v60.lt zq59
     have ne_b4_b59_0 : b4 ≠ b59_0 := own_ne2 ne_b4_b25_1 q7_0'_v50.lt zq59
     have ne_b7_0_b59_0 : b7_0 ≠ b59_0 := own_ne2 ne_b7_0_b25_1 q7_3'_v53.lt zq59
     have ne_b8_b59_0 : b8 ≠ b59_0 := own_ne2 ne_b8_b25_1 V_b8_v54.lt zq59
     have ne_b10_b59_0 : b10 ≠ b59_0 := own_ne2 ne_b10_b25_1 A10_v45.lt zq59
     have ne_b19_b59_0 : b19 ≠ b59_0 := own_ne2 ne_b19_b25_1 A19_v40.lt zq59
     have ne_b25_0_b59_0 : b25_0 ≠ b59_0 := own_ne2 ne_b25_0_b25_1 q25_2'_v41.lt zq59
     have IC59 := own_acc IC42 hkC59
     have IS59 := own_acc IS42 hkS59
     refine oS (fun t k => XS.pop X59.here hx rfl (hb hby at_185) rfl rfl k) ?_
     refine oS (fun t k => XS.iconst X59.here hx rfl (hb hby at_186) k) ?_
     refine oS (fun t k => XS.iload X59.here hx rfl (hb hby at_187) rfl k) ?_
     show oG _ _ _ _ T59 (mkF m 189 (oL p1 p2 p3 p4 q5 p6 b1 b4 b8 b10 b19 (oI 0) (oR b19) (oI 1) .unset) [(.int (p2 &&& 255)), .int 4])
     refine own_callS X59 hx hZ (y := oy0) hown (oW hw 177 rfl) (oW hw 178 rfl) (oW hw 179 rfl) (oW hw 180 rfl) (by decide) 1 [(.int (p2 &&& 255))] [.int 4] (own_ut8 l Z a0 hw [] (p2 &&& 255) T59.heap n0 (Nat.le_trans Z0 K59.1) ) rfl  (oB rfl) (oB rfl) (own_needRL IC59 (oB rfl)) (own_needRL IS59 (oB rfl)) (g := (mkF m 189 (oL p1 p2 p3 p4 q5 p6 b1 b4 b8 b10 b19 (oI 0) (oR b19) (oI 1) .unset) [(.int (p2 &&& 255)), .int 4])) rfl (by rw [hml]; rfl) own_pd33 rfl rfl (by show 2 * 0 + _ ≤ _; exact Nat.le_of_eq rfl) (hb hby at_189) ?_
     intro T61 v61 L61 X61 hQ61
     obtain ⟨rfl, N61q, e61⟩ := hQ61
     have N61 := Fr.app N59 N61q
     have IC61 := own_accL 0 IC59
     have IS61 := own_accL 0 IS59
     refine oS (fun t k => XS.iadd X61.here hx rfl (hb hby at_192) rfl k) ?_
     refine oS (fun t k => XS.iload X61.here hx rfl (hb hby at_193) rfl k) ?_
     show oG _ _ _ _ T61 (mkF m 195 (oL p1 p2 p3 p4 q5 p6 b1 b4 b8 b10 b19 (oI 0) (oR b19) (oI 1) .unset) [(.int (p3 &&& 255)), (.int ((4 : Int32) + (own_ui (p2 &&& 255))))])
     refine own_callS X61 hx hZ (y := oy0) hown (oW hw 177 rfl) (oW hw 178 rfl) (oW hw 179 rfl) (oW hw 180 rfl) (by decide) 1 [(.int (p3 &&& 255))] [(.int ((4 : Int32) + (own_ui (p2 &&& 255))))] (own_ut8 l Z a0 hw [] (p3 &&& 255) T59.heap n0 (Nat.le_trans Z0 K59.1) ) e61  (oB rfl) (oB rfl) (own_needRL IC61 (oB rfl)) (own_needRL IS61 (oB rfl)) (g := (mkF m 195 (oL p1 p2 p3 p4 q5 p6 b1 b4 b8 b10 b19 (oI 0) (oR b19) (oI 1) .unset) [(.int (p3 &&& 255)), (.int ((4 : Int32) + (own_ui (p2 &&& 255))))])) rfl (by rw [hml]; rfl) own_pd33 rfl rfl (by show 2 * 0 + _ ≤ _; exact Nat.le_of_eq rfl) (hb hby at_195) ?_
     intro T62 v62 L62 X62 hQ62
     obtain ⟨rfl, N62q, e62⟩ := hQ62
     have N62 := Fr.app N61 N62q
     have IC62 := own_accL 0 IC61
     have IS62 := own_accL 0 IS61
     refine oS (fun t k => XS.iadd X62.here hx rfl (hb hby at_198) rfl k) ?_
     refine oS (fun t k => XS.lload X62.here hx rfl (hb hby at_199) rfl k) ?_
     refine oS (fun t k => XS.lconst X62.here hx rfl (hb hby at_201) k) ?_
     show oG _ _ _ _ T62 (mkF m 202 (oL p1 p2 p3 p4 q5 p6 b1 b4 b8 b10 b19 (oI 0) (oR b19) (oI 1) .unset) [(.long (0 : Int64)), (.long q5), (.int (((4 : Int32) + (own_ui (p2 &&& 255))) + (own_ui (p3 &&& 255))))])
     refine oS (fun t k => XS.lcmp X62.here hx rfl (hb hby at_202) rfl k) ?_
     refine own_join (fun r63 => own_d q5 = r63.toInt) (fun r63 => (mkF m 212 (oL p1 p2 p3 p4 q5 p6 b1 b4 b8 b10 b19 (oI 0) (oR b19) (oI 1) .unset) [.int r63, (.int (((4 : Int32) + (own_ui (p2 &&& 255))) + (own_ui (p3 &&& 255))))])) ?_ ?_
     · intro r63 hr63
       show oG _ _ _ _ T62 (mkF m 212 (oL p1 p2 p3 p4 q5 p6 b1 b4 b8 b10 b19 (oI 0) (oR b19) (oI 1) .unset) [.int r63, (.int (((4 : Int32) + (own_ui (p2 &&& 255))) + (own_ui (p3 &&& 255))))])
       refine oS (fun t k => XS.iadd X62.here hx rfl (hb hby at_212) rfl k) ?_
       refine oS (fun t k => XS.iconst X62.here hx rfl (hb hby at_213) k) ?_
       refine oS (fun t k => XS.iadd X62.here hx rfl (hb hby at_214) rfl k) ?_
       refine oS (fun t k => XS.iconst X62.here hx rfl (hb hby at_215) k) ?_
       refine oS (fun t k => XS.iload X62.here hx rfl (hb hby at_216) rfl k) ?_
       refine oS (fun t k => XS.imul X62.here hx rfl (hb hby at_218) rfl k) ?_
       refine oS (fun t k => XS.iadd X62.here hx rfl (hb hby at_219) rfl k) ?_
       refine oS (fun t k => XS.istore X62.here hx rfl (hb hby at_220) rfl (l' := (oL p1 p2 p3 p4 q5 p6 b1 b4 b8 b10 b19 (oI 0) (oR b19) (oI 1) (oI ((((((4 : Int32) + (own_ui (p2 &&& 255))) + (own_ui (p3 &&& 255))) + r63) + (4 : Int32)) + ((4 : Int32) * (p4 &&& 3)))))) rfl k) ?_
       refine oS (fun t k => XS.iload X62.here hx rfl (hb hby at_222) rfl k) ?_
       show oG _ _ _ _ T62 (mkF m 224 (oL p1 p2 p3 p4 q5 p6 b1 b4 b8 b10 b19 (oI 0) (oR b19) (oI 1) (oI ((((((4 : Int32) + (own_ui (p2 &&& 255))) + (own_ui (p3 &&& 255))) + r63) + (4 : Int32)) + ((4 : Int32) * (p4 &&& 3))))) [.int 1])
       refine oS (fun t k => XS.ifNo X62.here hx rfl (hb hby at_224) rfl ((if0 _ _).trans (feq (show ¬ ((1 : Int32) = (0 : Int32)) from (by decide))).1) k) ?_
       refine oS (fun t k => XS.aload X62.here hx rfl (hb hby at_227) rfl rfl k) ?_
       show oG _ _ _ _ T62 (mkF m 229 (oL p1 p2 p3 p4 q5 p6 b1 b4 b8 b10 b19 (oI 0) (oR b19) (oI 1) (oI ((((((4 : Int32) + (own_ui (p2 &&& 255))) + (own_ui (p3 &&& 255))) + r63) + (4 : Int32)) + ((4 : Int32) * (p4 &&& 3))))) [.ref b19])
       have A19_v65 := (A19_v40.keep Kq59)
       refine own_callV X62 hx hZ (y := oy9) (z := oy9) hown (oW hw 90 rfl) (oW hw 91 rfl) (notFace_of_selects (args := #[]) (mvT hZ (oW hw 93 rfl))) (oW hw 93 rfl) (oW hw 92 rfl) (oW hw 94 rfl) (oW hw 57 rfl) (by decide) 0 A19_v65 [] [] (own_cnt l Z a0 hw [] b19 ((0 : Int32) + (1 : Int32)) T59.heap n0 (Nat.le_trans Z0 K59.1) y59_0) e62  (oB rfl) (oB rfl) (own_needRL IC62 (oB rfl)) (own_needRL IS62 (oB rfl)) (g := (mkF m 229 (oL p1 p2 p3 p4 q5 p6 b1 b4 b8 b10 b19 (oI 0) (oR b19) (oI 1) (oI ((((((4 : Int32) + (own_ui (p2 &&& 255))) + (own_ui (p3 &&& 255))) + r63) + (4 : Int32)) + ((4 : Int32) * (p4 &&& 3))))) [.ref b19])) rfl (by rw [hml]; rfl) own_pd17 rfl rfl (by show 2 * 0 + _ ≤ _; exact Nat.le_of_eq rfl) (hb hby at_229) ?_
       intro T64 v64 L64 X64 hQ64
       obtain ⟨rfl, N64q, e64⟩ := hQ64
       have N64 := Fr.app N62 N64q
       have IC64 := own_accL 0 IC62
       have IS64 := own_accL 0 IS62
       refine oS (fun t k => XS.iconst X64.here hx rfl (hb hby at_232) k) ?_
       show oG _ _ _ _ T64 (mkF m 233 (oL p1 p2 p3 p4 q5 p6 b1 b4 b8 b10 b19 (oI 0) (oR b19) (oI 1) (oI ((((((4 : Int32) + (own_ui (p2 &&& 255))) + (own_ui (p3 &&& 255))) + r63) + (4 : Int32)) + ((4 : Int32) * (p4 &&& 3))))) [.int 1, (.int ((0 : Int32) + (1 : Int32)))])
       refine oS (fun t k => XS.icmpNo X64.here hx rfl (hb hby at_233) rfl (teq (show ((0 : Int32) + (1 : Int32)) = (1 : Int32) from (by decide))).2 k) ?_
       refine oS (fun t k => XS.aload X64.here hx rfl (hb hby at_236) rfl rfl k) ?_
       show oG _ _ _ _ T64 (mkF m 238 (oL p1 p2 p3 p4 q5 p6 b1 b4 b8 b10 b19 (oI 0) (oR b19) (oI 1) (oI ((((((4 : Int32) + (own_ui (p2 &&& 255))) + (own_ui (p3 &&& 255))) + r63) + (4 : Int32)) + ((4 : Int32) * (p4 &&& 3))))) [.ref b19])
       have q25_2'_v66 := (q25_2'_v41.keep Kq59)
       refine own_callV X64 hx hZ (y := oy7) (z := oy7) hown (oW hw 95 rfl) (oW hw 96 rfl) (notFace_of_selects (args := #[]) (mvT hZ (oW hw 98 rfl))) (oW hw 98 rfl) (oW hw 97 rfl) (oW hw 99 rfl) (oW hw 57 rfl) (by decide) 0 A19_v65 [] [] (own_byt l Z a0 hw [] b19 b25_0 z59 T59.heap n0 (Nat.le_trans Z0 K59.1) y59_1 q25_2'_v66 q59_0) e64  (oB rfl) (oB rfl) (own_needRL IC64 (oB rfl)) (own_needRL IS64 (oB rfl)) (g := (mkF m 238 (oL p1 p2 p3 p4 q5 p6 b1 b4 b8 b10 b19 (oI 0) (oR b19) (oI 1) (oI ((((((4 : Int32) + (own_ui (p2 &&& 255))) + (own_ui (p3 &&& 255))) + r63) + (4 : Int32)) + ((4 : Int32) * (p4 &&& 3))))) [.ref b19])) rfl (by rw [hml]; rfl) own_pd17 rfl rfl (by show 2 * 0 + _ ≤ _; exact Nat.le_of_eq rfl) (hb hby at_238) ?_
       intro T67 v67 L67 X67 hQ67
       obtain ⟨rfl, N67q, e67⟩ := hQ67
       have N67 := Fr.app N64 N67q
       have IC67 := own_accL 0 IC64
       have IS67 := own_accL 0 IS64
       refine oS (fun t k => XS.iload X67.here hx rfl (hb hby at_241) rfl k) ?_
       show oG _ _ _ _ T67 (mkF m 243 (oL p1 p2 p3 p4 q5 p6 b1 b4 b8 b10 b19 (oI 0) (oR b19) (oI 1) (oI ((((((4 : Int32) + (own_ui (p2 &&& 255))) + (own_ui (p3 &&& 255))) + r63) + (4 : Int32)) + ((4 : Int32) * (p4 &&& 3))))) [(.int ((((((4 : Int32) + (own_ui (p2 &&& 255))) + (own_ui (p3 &&& 255))) + r63) + (4 : Int32)) + ((4 : Int32) * (p4 &&& 3)))), .int z59])
       refine oS (fun t k => XS.icmpNo X67.here hx rfl (hb hby at_243) rfl (teq (show z59 = ((((((4 : Int32) + (own_ui (p2 &&& 255))) + (own_ui (p3 &&& 255))) + r63) + (4 : Int32)) + ((4 : Int32) * (p4 &&& 3))) from (own_exp sq59 hr63 tn))).2 k) ?_
       refine oS (fun t k => XS.iconst X67.here hx rfl (hb hby at_246) k) ?_
       refine oS (fun t k => XS.goto X67.here hx rfl (pc0 := 247) (pc' := 251) rfl (hb hby at_247) (by decide) (by decide) k) ?_
       show oG _ _ _ _ T67 (mkF m 251 (oL p1 p2 p3 p4 q5 p6 b1 b4 b8 b10 b19 (oI 0) (oR b19) (oI 1) (oI ((((((4 : Int32) + (own_ui (p2 &&& 255))) + (own_ui (p3 &&& 255))) + r63) + (4 : Int32)) + ((4 : Int32) * (p4 &&& 3))))) [.int 1])
       exact own_retN X67 hx hlk (t := .boolean) hrt (by simp) (hb hby at_251) ⟨rfl, N67⟩ (own_finR IC67 (oB rfl)) (own_finR IS67 (oB rfl))
     · intro tail63
       by_cases hc203_68 : (lcmpW q5 (0 : Int64)) = (0 : Int32)
       · refine oS (fun t k => XS.ifYes X62.here hx rfl (pc0 := 203) (pc' := 211) rfl (hb hby at_203) rfl ((if0 _ _).trans (teq (show (lcmpW q5 (0 : Int64)) = (0 : Int32) from hc203_68)).1) (by decide) (by decide) k) ?_
         refine oS (fun t k => XS.iconst X62.here hx rfl (hb hby at_211) k) ?_
         exact tail63 _ ((own_d0 hc203_68).trans (by decide))
       · refine oS (fun t k => XS.ifNo X62.here hx rfl (hb hby at_203) rfl ((if0 _ _).trans (feq (show ¬ ((lcmpW q5 (0 : Int64)) = (0 : Int32)) from hc203_68)).1) k) ?_
         refine oS (fun t k => XS.bipush X62.here hx rfl (hb hby at_206) k) ?_
         refine oS (fun t k => XS.goto X62.here hx rfl (pc0 := 208) (pc' := 212) rfl (hb hby at_208) (by decide) (by decide) k) ?_
         exact tail63 _ ((own_d1 hc203_68).trans (by decide))
   · refine oS (fun t k => XS.ifNo X32.here hx rfl (hb hby at_138) rfl ((if0 _ _).trans (feq (show ¬ ((p6 &&& 1) = (0 : Int32)) from hc138_38)).1) k) ?_
     refine oS (fun t k => XS.aload X32.here hx rfl (hb hby at_141) rfl rfl k) ?_
     show oG _ _ _ _ T32 (mkF m 143 (oL p1 p2 p3 p4 q5 p6 b1 b4 b8 b10 b19 (oI 0) (oR b19) .unset .unset) [.ref b19])
     have A19_v69 := (A19_v31.keep Kq32)
     have q25_2'_v70 := (q25_2'.keep Kq32)
     refine own_callV X32 hx hZ (y := oy8) (z := oy8) hown (oW hw 76 rfl) (oW hw 77 rfl) (notFace_of_selects (args := #[]) (mvT hZ (oW hw 79 rfl))) (oW hw 79 rfl) (oW hw 78 rfl) (oW hw 80 rfl) (oW hw 57 rfl) (by decide) 0 A19_v69 [] [] (own_clr l Z a0 hw [] b19 b25_0 0 0 b25_1 T32.heap n0 (Nat.le_trans Z0 K32.1) A19_v69 q32_0' q32_2' q25_2'_v70 q32_3' q32_1' g_b19 g_b25_0 ne_b19_b25_0) rfl  (oB rfl) (oB rfl) (own_needRL IC32 (oB rfl)) (own_needRL IS32 (oB rfl)) (g := (mkF m 143 (oL p1 p2 p3 p4 q5 p6 b1 b4 b8 b10 b19 (oI 0) (oR b19) .unset .unset) [.ref b19])) rfl (by rw [hml]; rfl) own_pd31 rfl rfl (by show 2 * 0 + _ ≤ _; exact Nat.le_of_eq rfl) (hb hby at_143) ?_
     intro T71 v71 L71 X71 hQ71
     have V3'_v72 := (V3'_v33.keep Kq32 (ninS ne_b1_b19 (ninS ne_b1_b25_0 nin0)))
     have q7_0'_v73 := (q7_0'_v34.keep Kq32)
     have q7_3'_v74 := (q7_3'_v35.keep Kq32 (ninS ne_b7_0_b19 (ninS ne_b7_0_b25_0 nin0)))
     have V_b8_v75 := (V_b8_v36.keep Kq32 (ninS ne_b8_b19 (ninS ne_b8_b25_0 nin0)))
     have A10_v76 := (A10_v37.keep Kq32)
     have q25_5'_v77 := (q25_5'.keep Kq32 (ninS (Ne.symm ne_b19_b25_1) (ninS (Ne.symm ne_b25_0_b25_1) nin0)))
     obtain ⟨rfl, N71q, Kq71, q71_0, q71_1, q71_2, q71_3⟩ := hQ71
     have N71 := Fr.app N32 N71q
     have K71 := K32.trans Kq71 (allS (Or.inr sz_b19) (allS (Or.inr sz_b25_0) all0))
     have q71_0' : Fld Z T71.heap b19 "com/example/ringshift/ringshift/data/RowBatch$Builder" "rows" "Lcom/example/ringshift/ringshift/io/BinaryWriter;" (.ref b25_0) := q71_0
     have q71_1' : Fld Z T71.heap b25_0 "com/example/ringshift/ringshift/io/BinaryWriter" "bytes" "[B" (.ref b25_1) := q71_1
     have q71_2' : Fld Z T71.heap b19 "com/example/ringshift/ringshift/data/RowBatch$Builder" "count" "I" (.int 0) := q71_2
     have q71_3' : Fld Z T71.heap b25_0 "com/example/ringshift/ringshift/io/BinaryWriter" "size" "I" (.int 0) := q71_3
     have IC71 := own_accL 0 IC32
     have IS71 := own_accL 0 IS32
     refine oS (fun t k => XS.astore X71.here hx rfl (hb hby at_146) rfl rfl (l' := (oL p1 p2 p3 p4 q5 p6 b1 b4 b8 b10 b19 (oI 0) (oR b19) .unset .unset)) rfl k) ?_
     refine oS (fun t k => XS.aload X71.here hx rfl (hb hby at_148) rfl rfl k) ?_
     refine oS (fun t k => XS.aload X71.here hx rfl (hb hby at_150) rfl rfl k) ?_
     show oG _ _ _ _ T71 (mkF m 152 (oL p1 p2 p3 p4 q5 p6 b1 b4 b8 b10 b19 (oI 0) (oR b19) .unset .unset) [.ref b19, .ref b19])
     refine oS (fun t k => Jvm.RoadKit.acmp (g := (mkF m 152 (oL p1 p2 p3 p4 q5 p6 b1 b4 b8 b10 b19 (oI 0) (oR b19) .unset .unset) [.ref b19, .ref b19])) X71 hx rfl rfl rfl (pc0 := 152) (pc' := 155) (same := true) rfl (hb hby at_152) rfl (decide_eq_true rfl) (by decide) (by decide) k) ?_
     refine oS (fun t k => XS.aload X71.here hx rfl (hb hby at_155) rfl rfl k) ?_
     show oG _ _ _ _ T71 (mkF m 157 (oL p1 p2 p3 p4 q5 p6 b1 b4 b8 b10 b19 (oI 0) (oR b19) .unset .unset) [.ref b19])
     have A19_v79 := (A19_v69.keep Kq71)
     refine own_callV X71 hx hZ (y := oy9) (z := oy9) hown (oW hw 90 rfl) (oW hw 91 rfl) (notFace_of_selects (args := #[]) (mvT hZ (oW hw 93 rfl))) (oW hw 93 rfl) (oW hw 92 rfl) (oW hw 94 rfl) (oW hw 57 rfl) (by decide) 0 A19_v79 [] [] (own_cnt l Z a0 hw [] b19 0 T71.heap n0 (Nat.le_trans Z0 K71.1) q71_2') rfl  (oB rfl) (oB rfl) (own_needRL IC71 (oB rfl)) (own_needRL IS71 (oB rfl)) (g := (mkF m 157 (oL p1 p2 p3 p4 q5 p6 b1 b4 b8 b10 b19 (oI 0) (oR b19) .unset .unset) [.ref b19])) rfl (by rw [hml]; rfl) own_pd17 rfl rfl (by show 2 * 0 + _ ≤ _; exact Nat.le_of_eq rfl) (hb hby at_157) ?_
     intro T78 v78 L78 X78 hQ78
     obtain ⟨rfl, N78q, e78⟩ := hQ78
     have N78 := Fr.app N71 N78q
     have IC78 := own_accL 0 IC71
     have IS78 := own_accL 0 IS71
     show oG _ _ _ _ T78 (mkF m 160 (oL p1 p2 p3 p4 q5 p6 b1 b4 b8 b10 b19 (oI 0) (oR b19) .unset .unset) [.int 0])
     refine oS (fun t k => XS.ifNo X78.here hx rfl (hb hby at_160) rfl ((if0 _ _).trans (teq (show (0 : Int32) = (0 : Int32) from (by decide))).2) k) ?_
     refine oS (fun t k => XS.aload X78.here hx rfl (hb hby at_163) rfl rfl k) ?_
     show oG _ _ _ _ T78 (mkF m 165 (oL p1 p2 p3 p4 q5 p6 b1 b4 b8 b10 b19 (oI 0) (oR b19) .unset .unset) [.ref b19])
     have q25_2'_v80 := (q25_2'_v70.keep Kq71)
     refine own_callV X78 hx hZ (y := oy7) (z := oy7) hown (oW hw 95 rfl) (oW hw 96 rfl) (notFace_of_selects (args := #[]) (mvT hZ (oW hw 98 rfl))) (oW hw 98 rfl) (oW hw 97 rfl) (oW hw 99 rfl) (oW hw 57 rfl) (by decide) 0 A19_v79 [] [] (own_byt l Z a0 hw [] b19 b25_0 0 T71.heap n0 (Nat.le_trans Z0 K71.1) q71_0' q25_2'_v80 q71_3') e78  (oB rfl) (oB rfl) (own_needRL IC78 (oB rfl)) (own_needRL IS78 (oB rfl)) (g := (mkF m 165 (oL p1 p2 p3 p4 q5 p6 b1 b4 b8 b10 b19 (oI 0) (oR b19) .unset .unset) [.ref b19])) rfl (by rw [hml]; rfl) own_pd17 rfl rfl (by show 2 * 0 + _ ≤ _; exact Nat.le_of_eq rfl) (hb hby at_165) ?_
     intro T81 v81 L81 X81 hQ81
     obtain ⟨rfl, N81q, e81⟩ := hQ81
     have N81 := Fr.app N78 N81q
     have IC81 := own_accL 0 IC78
     have IS81 := own_accL 0 IS78
     show oG _ _ _ _ T81 (mkF m 168 (oL p1 p2 p3 p4 q5 p6 b1 b4 b8 b10 b19 (oI 0) (oR b19) .unset .unset) [.int 0])
     refine oS (fun t k => XS.ifNo X81.here hx rfl (hb hby at_168) rfl ((if0 _ _).trans (teq (show (0 : Int32) = (0 : Int32) from (by decide))).2) k) ?_
     refine oS (fun t k => XS.iconst X81.here hx rfl (hb hby at_171) k) ?_
     refine oS (fun t k => XS.goto X81.here hx rfl (pc0 := 172) (pc' := 176) rfl (hb hby at_172) (by decide) (by decide) k) ?_
     refine oS (fun t k => XS.istore X81.here hx rfl (hb hby at_176) rfl (l' := (oL p1 p2 p3 p4 q5 p6 b1 b4 b8 b10 b19 (oI 0) (oR b19) (oI 1) .unset)) rfl k) ?_
     refine oS (fun t k => XS.aload X81.here hx rfl (hb hby at_178) rfl rfl k) ?_
     refine oS (fun t k => XS.aload X81.here hx rfl (hb hby at_180) rfl rfl k) ?_
     show oG _ _ _ _ T81 (mkF m 182 (oL p1 p2 p3 p4 q5 p6 b1 b4 b8 b10 b19 (oI 0) (oR b19) (oI 1) .unset) [.ref b10, .ref b19])
     have hS82 : own_St (64 : Int32) (0 : Int32) 0 := ⟨(Or.inl rfl), tz, by omega, by omega⟩
     have hN82 : 0 + ((4 + own_u (p2 &&& 255) + own_u (p3 &&& 255)) + (own_d q5 + 4 + 4 * (p4 &&& 3).toInt)) ≤ 128 := by omega
     have q25_5'_v83 := (q25_5'_v77.keep Kq71 (ninS (Ne.symm ne_b19_b25_1) (ninS (Ne.symm ne_b25_0_b25_1) nin0)))
     have A10_v84 := (A10_v76.keep Kq71)
     have q14_0'_v85 := ((((q14_0'.ext E19).keep Kq25 (ninS ne_b10_b19 nin0)).keep Kq32 (ninS ne_b10_b19 (ninS ne_b10_b25_0 nin0))).keep Kq71 (ninS ne_b10_b19 (ninS ne_b10_b25_0 nin0)))
     have q14_2'_v86 := ((((q14_2'.ext E19).keep Kq25 (ninS ne_b10_b19 nin0)).keep Kq32 (ninS ne_b10_b19 (ninS ne_b10_b25_0 nin0))).keep Kq71 (ninS ne_b10_b19 (ninS ne_b10_b25_0 nin0)))
     have q14_3'_v87 := ((((q14_3'.ext E19).keep Kq25 (ninS ne_b10_b19 nin0)).keep Kq32 (ninS ne_b10_b19 (ninS ne_b10_b25_0 nin0))).keep Kq71 (ninS ne_b10_b19 (ninS ne_b10_b25_0 nin0)))
     have q14_1'_v88 := ((((q14_1'.ext E19).keep Kq25 (ninS ne_b10_b19 nin0)).keep Kq32 (ninS ne_b10_b19 (ninS ne_b10_b25_0 nin0))).keep Kq71 (ninS ne_b10_b19 (ninS ne_b10_b25_0 nin0)))
     have q7_0'_v89 := (q7_0'_v73.keep Kq71)
     have q7_1'_v90 := (((((((q7_1'.ext E8).ext E10).keep Kq14 (ninS ne_b4_b10 nin0)).ext E19).keep Kq25 (ninS ne_b4_b19 nin0)).keep Kq32 (ninS ne_b4_b19 (ninS ne_b4_b25_0 nin0))).keep Kq71 (ninS ne_b4_b19 (ninS ne_b4_b25_0 nin0)))
     have q7_2'_v91 := (((((((q7_2'.ext E8).ext E10).keep Kq14 (ninS ne_b4_b10 nin0)).ext E19).keep Kq25 (ninS ne_b4_b19 nin0)).keep Kq32 (ninS ne_b4_b19 (ninS ne_b4_b25_0 nin0))).keep Kq71 (ninS ne_b4_b19 (ninS ne_b4_b25_0 nin0)))
     have q7_3'_v92 := (q7_3'_v74.keep Kq71 (ninS ne_b7_0_b19 (ninS ne_b7_0_b25_0 nin0)))
     have V_b8_v93 := (V_b8_v75.keep Kq71 (ninS ne_b8_b19 (ninS ne_b8_b25_0 nin0)))
     have S_C_v94 := (own_staKeep (own_staKeep (own_staKeep ((own_staKeep (((own_staKeep S_C_v6 Kq7 (allS (own_plainE A4) all0)).ext E8).ext E10) Kq14 (allS (own_plainE A10) all0)).ext E19) Kq25 (allS (own_plainE A19) all0)) Kq32 (allS (own_plainE A19_v31) (allS (own_plainE q25_2') all0))) Kq71 (allS (own_plainE A19_v69) (allS (own_plainE q25_2'_v70) all0)))
     have S_I_v95 := (own_staKeep (own_staKeep (own_staKeep ((own_staKeep (((own_staKeep ((((S_I.ext E1).wr W2).wr W3).ext E4) Kq7 (allS (own_plainE A4) all0)).ext E8).ext E10) Kq14 (allS (own_plainE A10) all0)).ext E19) Kq25 (allS (own_plainE A19) all0)) Kq32 (allS (own_plainE A19_v31) (allS (own_plainE q25_2') all0))) Kq71 (allS (own_plainE A19_v69) (allS (own_plainE q25_2'_v70) all0)))
     have S_U_v96 := (own_staKeep (own_staKeep (own_staKeep ((own_staKeep (((own_staKeep ((((S_U.ext E1).wr W2).wr W3).ext E4) Kq7 (allS (own_plainE A4) all0)).ext E8).ext E10) Kq14 (allS (own_plainE A10) all0)).ext E19) Kq25 (allS (own_plainE A19) all0)) Kq32 (allS (own_plainE A19_v31) (allS (own_plainE q25_2') all0))) Kq71 (allS (own_plainE A19_v69) (allS (own_plainE q25_2'_v70) all0)))
     have S_F_v97 := (own_staKeep (own_staKeep (own_staKeep ((own_staKeep (((own_staKeep ((((S_F.ext E1).wr W2).wr W3).ext E4) Kq7 (allS (own_plainE A4) all0)).ext E8).ext E10) Kq14 (allS (own_plainE A10) all0)).ext E19) Kq25 (allS (own_plainE A19) all0)) Kq32 (allS (own_plainE A19_v31) (allS (own_plainE q25_2') all0))) Kq71 (allS (own_plainE A19_v69) (allS (own_plainE q25_2'_v70) all0)))
     refine own_callVX X81 hx hZ (y := oy6) (z := oy6) hown (oW hw 105 rfl) (oW hw 106 rfl) (notFace_of_selects (args := #[]) (mvT hZ (oW hw 108 rfl))) (oW hw 108 rfl) (oW hw 107 rfl) (oW hw 109 rfl) (oW hw 57 rfl) (by decide) 0 A19_v79 [.ref b10] [] (own_add l Z a0 hw [] b25_0 b25_1 k25_0 64 0 0 b19 0 b10 b8 k8 q5 (p4 &&& 3) b4 u8 b7_0 k7_0 (p2 &&& 255) (p3 &&& 255) zc fm T71.heap n0 (Nat.le_trans Z0 K71.1) q71_0' q25_2'_v80 q71_3' q71_1' q25_5'_v83 A19_v79 q71_2' A10_v84 q14_0'_v85 q14_2'_v86 q14_3'_v87 q14_1'_v88 q7_0'_v89 q7_1'_v90 q7_2'_v91 q7_3'_v92 V_b8_v93 S_C_v94 S_I_v95 S_U_v96 S_F_v97 hS82 hN82 g_b25_0 g_b25_1 ne_b25_0_b25_1 (own_m255 p2).1 (own_m255 p2).2 (own_m255 p3).1 (own_m255 p3).2 hz rG (own_n3 p4).2.2.1 g_b19 ne_b4_b25_0 ne_b4_b25_1 ne_b7_0_b25_0 ne_b7_0_b25_1 ne_b10_b25_0 ne_b10_b25_1 ne_b8_b25_0 ne_b8_b25_1 ne_b19_b25_0 ne_b19_b25_1) e81  (oB rfl) (oB rfl) (own_needR IC81 (oB rfl)) (own_needR IS81 (oB rfl)) (g := (mkF m 182 (oL p1 p2 p3 p4 q5 p6 b1 b4 b8 b10 b19 (oI 0) (oR b19) (oI 1) .unset) [.ref b10, .ref b19])) rfl (by rw [hml]; rfl) own_pd32 rfl rfl (by show 2 * 0 + _ ≤ _; exact Nat.le_of_eq rfl) (hb hby at_182) ?_
     intro T98 v98 L98 xc98 xs98 X98 hQ98
     have V3'_v99 := (V3'_v72.keep Kq71 (ninS ne_b1_b19 (ninS ne_b1_b25_0 nin0)))
     obtain ⟨b98_0, k98_0, cp98, z98, rfl, N98q, Kq98, zq98, hT98, hkC98, hkS98, q98_0, q98_1, q98_2, y98_0, y98_1⟩ := hQ98
     obtain ⟨sc98, sq98, sl98, su98⟩ := hT98
     have N98 := Fr.app N81 N98q
     have K98 := K71.trans Kq98 (allS (Or.inr sz_b19) (allS (Or.inr sz_b25_0) (allS (Or.inr sz_b25_1) all0)))
     have g_b98_0 : n0 ≤ b98_0 := own_sz2 zq98 g_b25_1 (Nat.le_trans Z0 K71.1)
     have sz_b98_0 : h0.size ≤ b98_0 := own_sz2 zq98 sz_b25_1 K71.1
     have ne_b1_b98_0 : b1 ≠ b98_0 := own_ne2 ne_b1_b25_1 V3'_v99.lt zq98
     have ne_b4_b98_0 : b4 ≠ b98_0 := own_ne2 ne_b4_b25_1 q7_0'_v89.lt zq98
     have ne_b7_0_b98_0 : b7_0 ≠ b98_0 := own_ne2 ne_b7_0_b25_1 q7_3'_v92.lt zq98
     have ne_b8_b98_0 : b8 ≠ b98_0 := own_ne2 ne_b8_b25_1 V_b8_v93.lt zq98
     have ne_b10_b98_0 : b10 ≠ b98_0 := own_ne2 ne_b10_b25_1 A10_v84.lt zq98
     have ne_b19_b98_0 : b19 ≠ b98_0 := own_ne2 ne_b19_b25_1 A19_v79.lt zq98
     have ne_b25_0_b98_0 : b25_0 ≠ b98_0 := own_ne2 ne_b25_0_b25_1 q25_2'_v80.lt zq98
     have IC98 := own_acc IC81 hkC98
     have IS98 := own_acc IS81 hkS98
     refine oS (fun t k => XS.pop X98.here hx rfl (hb hby at_185) rfl rfl k) ?_
     refine oS (fun t k => XS.iconst X98.here hx rfl (hb hby at_186) k) ?_
     refine oS (fun t k => XS.iload X98.here hx rfl (hb hby at_187) rfl k) ?_
     show oG _ _ _ _ T98 (mkF m 189 (oL p1 p2 p3 p4 q5 p6 b1 b4 b8 b10 b19 (oI 0) (oR b19) (oI 1) .unset) [(.int (p2 &&& 255)), .int 4])
     refine own_callS X98 hx hZ (y := oy0) hown (oW hw 177 rfl) (oW hw 178 rfl) (oW hw 179 rfl) (oW hw 180 rfl) (by decide) 1 [(.int (p2 &&& 255))] [.int 4] (own_ut8 l Z a0 hw [] (p2 &&& 255) T98.heap n0 (Nat.le_trans Z0 K98.1) ) rfl  (oB rfl) (oB rfl) (own_needRL IC98 (oB rfl)) (own_needRL IS98 (oB rfl)) (g := (mkF m 189 (oL p1 p2 p3 p4 q5 p6 b1 b4 b8 b10 b19 (oI 0) (oR b19) (oI 1) .unset) [(.int (p2 &&& 255)), .int 4])) rfl (by rw [hml]; rfl) own_pd33 rfl rfl (by show 2 * 0 + _ ≤ _; exact Nat.le_of_eq rfl) (hb hby at_189) ?_
     intro T100 v100 L100 X100 hQ100
     obtain ⟨rfl, N100q, e100⟩ := hQ100
     have N100 := Fr.app N98 N100q
     have IC100 := own_accL 0 IC98
     have IS100 := own_accL 0 IS98
     refine oS (fun t k => XS.iadd X100.here hx rfl (hb hby at_192) rfl k) ?_
     refine oS (fun t k => XS.iload X100.here hx rfl (hb hby at_193) rfl k) ?_
     show oG _ _ _ _ T100 (mkF m 195 (oL p1 p2 p3 p4 q5 p6 b1 b4 b8 b10 b19 (oI 0) (oR b19) (oI 1) .unset) [(.int (p3 &&& 255)), (.int ((4 : Int32) + (own_ui (p2 &&& 255))))])
     refine own_callS X100 hx hZ (y := oy0) hown (oW hw 177 rfl) (oW hw 178 rfl) (oW hw 179 rfl) (oW hw 180 rfl) (by decide) 1 [(.int (p3 &&& 255))] [(.int ((4 : Int32) + (own_ui (p2 &&& 255))))] (own_ut8 l Z a0 hw [] (p3 &&& 255) T98.heap n0 (Nat.le_trans Z0 K98.1) ) e100  (oB rfl) (oB rfl) (own_needRL IC100 (oB rfl)) (own_needRL IS100 (oB rfl)) (g := (mkF m 195 (oL p1 p2 p3 p4 q5 p6 b1 b4 b8 b10 b19 (oI 0) (oR b19) (oI 1) .unset) [(.int (p3 &&& 255)), (.int ((4 : Int32) + (own_ui (p2 &&& 255))))])) rfl (by rw [hml]; rfl) own_pd33 rfl rfl (by show 2 * 0 + _ ≤ _; exact Nat.le_of_eq rfl) (hb hby at_195) ?_
     intro T101 v101 L101 X101 hQ101
     obtain ⟨rfl, N101q, e101⟩ := hQ101
     have N101 := Fr.app N100 N101q
     have IC101 := own_accL 0 IC100
     have IS101 := own_accL 0 IS100
     refine oS (fun t k => XS.iadd X101.here hx rfl (hb hby at_198) rfl k) ?_
     refine oS (fun t k => XS.lload X101.here hx rfl (hb hby at_199) rfl k) ?_
     refine oS (fun t k => XS.lconst X101.here hx rfl (hb hby at_201) k) ?_
     show oG _ _ _ _ T101 (mkF m 202 (oL p1 p2 p3 p4 q5 p6 b1 b4 b8 b10 b19 (oI 0) (oR b19) (oI 1) .unset) [(.long (0 : Int64)), (.long q5), (.int (((4 : Int32) + (own_ui (p2 &&& 255))) + (own_ui (p3 &&& 255))))])
     refine oS (fun t k => XS.lcmp X101.here hx rfl (hb hby at_202) rfl k) ?_
     refine own_join (fun r102 => own_d q5 = r102.toInt) (fun r102 => (mkF m 212 (oL p1 p2 p3 p4 q5 p6 b1 b4 b8 b10 b19 (oI 0) (oR b19) (oI 1) .unset) [.int r102, (.int (((4 : Int32) + (own_ui (p2 &&& 255))) + (own_ui (p3 &&& 255))))])) ?_ ?_
     · intro r102 hr102
       show oG _ _ _ _ T101 (mkF m 212 (oL p1 p2 p3 p4 q5 p6 b1 b4 b8 b10 b19 (oI 0) (oR b19) (oI 1) .unset) [.int r102, (.int (((4 : Int32) + (own_ui (p2 &&& 255))) + (own_ui (p3 &&& 255))))])
       refine oS (fun t k => XS.iadd X101.here hx rfl (hb hby at_212) rfl k) ?_
       refine oS (fun t k => XS.iconst X101.here hx rfl (hb hby at_213) k) ?_
       refine oS (fun t k => XS.iadd X101.here hx rfl (hb hby at_214) rfl k) ?_
       refine oS (fun t k => XS.iconst X101.here hx rfl (hb hby at_215) k) ?_
       refine oS (fun t k => XS.iload X101.here hx rfl (hb hby at_216) rfl k) ?_
       refine oS (fun t k => XS.imul X101.here hx rfl (hb hby at_218) rfl k) ?_
       refine oS (fun t k => XS.iadd X101.here hx rfl (hb hby at_219) rfl k) ?_
       refine oS (fun t k => XS.istore X101.here hx rfl (hb hby at_220) rfl (l' := (oL p1 p2 p3 p4 q5 p6 b1 b4 b8 b10 b19 (oI 0) (oR b19) (oI 1) (oI ((((((4 : Int32) + (own_ui (p2 &&& 255))) + (own_ui (p3 &&& 255))) + r102) + (4 : Int32)) + ((4 : Int32) * (p4 &&& 3)))))) rfl k) ?_
       refine oS (fun t k => XS.iload X101.here hx rfl (hb hby at_222) rfl k) ?_
       show oG _ _ _ _ T101 (mkF m 224 (oL p1 p2 p3 p4 q5 p6 b1 b4 b8 b10 b19 (oI 0) (oR b19) (oI 1) (oI ((((((4 : Int32) + (own_ui (p2 &&& 255))) + (own_ui (p3 &&& 255))) + r102) + (4 : Int32)) + ((4 : Int32) * (p4 &&& 3))))) [.int 1])
       refine oS (fun t k => XS.ifNo X101.here hx rfl (hb hby at_224) rfl ((if0 _ _).trans (feq (show ¬ ((1 : Int32) = (0 : Int32)) from (by decide))).1) k) ?_
       refine oS (fun t k => XS.aload X101.here hx rfl (hb hby at_227) rfl rfl k) ?_
       show oG _ _ _ _ T101 (mkF m 229 (oL p1 p2 p3 p4 q5 p6 b1 b4 b8 b10 b19 (oI 0) (oR b19) (oI 1) (oI ((((((4 : Int32) + (own_ui (p2 &&& 255))) + (own_ui (p3 &&& 255))) + r102) + (4 : Int32)) + ((4 : Int32) * (p4 &&& 3))))) [.ref b19])
       have A19_v104 := (A19_v79.keep Kq98)
       refine own_callV X101 hx hZ (y := oy9) (z := oy9) hown (oW hw 90 rfl) (oW hw 91 rfl) (notFace_of_selects (args := #[]) (mvT hZ (oW hw 93 rfl))) (oW hw 93 rfl) (oW hw 92 rfl) (oW hw 94 rfl) (oW hw 57 rfl) (by decide) 0 A19_v104 [] [] (own_cnt l Z a0 hw [] b19 ((0 : Int32) + (1 : Int32)) T98.heap n0 (Nat.le_trans Z0 K98.1) y98_0) e101  (oB rfl) (oB rfl) (own_needRL IC101 (oB rfl)) (own_needRL IS101 (oB rfl)) (g := (mkF m 229 (oL p1 p2 p3 p4 q5 p6 b1 b4 b8 b10 b19 (oI 0) (oR b19) (oI 1) (oI ((((((4 : Int32) + (own_ui (p2 &&& 255))) + (own_ui (p3 &&& 255))) + r102) + (4 : Int32)) + ((4 : Int32) * (p4 &&& 3))))) [.ref b19])) rfl (by rw [hml]; rfl) own_pd17 rfl rfl (by show 2 * 0 + _ ≤ _; exact Nat.le_of_eq rfl) (hb hby at_229) ?_
       intro T103 v103 L103 X103 hQ103
       obtain ⟨rfl, N103q, e103⟩ := hQ103
       have N103 := Fr.app N101 N103q
       have IC103 := own_accL 0 IC101
       have IS103 := own_accL 0 IS101
       refine oS (fun t k => XS.iconst X103.here hx rfl (hb hby at_232) k) ?_
       show oG _ _ _ _ T103 (mkF m 233 (oL p1 p2 p3 p4 q5 p6 b1 b4 b8 b10 b19 (oI 0) (oR b19) (oI 1) (oI ((((((4 : Int32) + (own_ui (p2 &&& 255))) + (own_ui (p3 &&& 255))) + r102) + (4 : Int32)) + ((4 : Int32) * (p4 &&& 3))))) [.int 1, (.int ((0 : Int32) + (1 : Int32)))])
       refine oS (fun t k => XS.icmpNo X103.here hx rfl (hb hby at_233) rfl (teq (show ((0 : Int32) + (1 : Int32)) = (1 : Int32) from (by decide))).2 k) ?_
       refine oS (fun t k => XS.aload X103.here hx rfl (hb hby at_236) rfl rfl k) ?_
       show oG _ _ _ _ T103 (mkF m 238 (oL p1 p2 p3 p4 q5 p6 b1 b4 b8 b10 b19 (oI 0) (oR b19) (oI 1) (oI ((((((4 : Int32) + (own_ui (p2 &&& 255))) + (own_ui (p3 &&& 255))) + r102) + (4 : Int32)) + ((4 : Int32) * (p4 &&& 3))))) [.ref b19])
       have q25_2'_v105 := (q25_2'_v80.keep Kq98)
       refine own_callV X103 hx hZ (y := oy7) (z := oy7) hown (oW hw 95 rfl) (oW hw 96 rfl) (notFace_of_selects (args := #[]) (mvT hZ (oW hw 98 rfl))) (oW hw 98 rfl) (oW hw 97 rfl) (oW hw 99 rfl) (oW hw 57 rfl) (by decide) 0 A19_v104 [] [] (own_byt l Z a0 hw [] b19 b25_0 z98 T98.heap n0 (Nat.le_trans Z0 K98.1) y98_1 q25_2'_v105 q98_0) e103  (oB rfl) (oB rfl) (own_needRL IC103 (oB rfl)) (own_needRL IS103 (oB rfl)) (g := (mkF m 238 (oL p1 p2 p3 p4 q5 p6 b1 b4 b8 b10 b19 (oI 0) (oR b19) (oI 1) (oI ((((((4 : Int32) + (own_ui (p2 &&& 255))) + (own_ui (p3 &&& 255))) + r102) + (4 : Int32)) + ((4 : Int32) * (p4 &&& 3))))) [.ref b19])) rfl (by rw [hml]; rfl) own_pd17 rfl rfl (by show 2 * 0 + _ ≤ _; exact Nat.le_of_eq rfl) (hb hby at_238) ?_
       intro T106 v106 L106 X106 hQ106
       obtain ⟨rfl, N106q, e106⟩ := hQ106
       have N106 := Fr.app N103 N106q
       have IC106 := own_accL 0 IC103
       have IS106 := own_accL 0 IS103
       refine oS (fun t k => XS.iload X106.here hx rfl (hb hby at_241) rfl k) ?_
       show oG _ _ _ _ T106 (mkF m 243 (oL p1 p2 p3 p4 q5 p6 b1 b4 b8 b10 b19 (oI 0) (oR b19) (oI 1) (oI ((((((4 : Int32) + (own_ui (p2 &&& 255))) + (own_ui (p3 &&& 255))) + r102) + (4 : Int32)) + ((4 : Int32) * (p4 &&& 3))))) [(.int ((((((4 : Int32) + (own_ui (p2 &&& 255))) + (own_ui (p3 &&& 255))) + r102) + (4 : Int32)) + ((4 : Int32) * (p4 &&& 3)))), .int z98])
       refine oS (fun t k => XS.icmpNo X106.here hx rfl (hb hby at_243) rfl (teq (show z98 = ((((((4 : Int32) + (own_ui (p2 &&& 255))) + (own_ui (p3 &&& 255))) + r102) + (4 : Int32)) + ((4 : Int32) * (p4 &&& 3))) from (own_exp sq98 hr102 tn))).2 k) ?_
       refine oS (fun t k => XS.iconst X106.here hx rfl (hb hby at_246) k) ?_
       refine oS (fun t k => XS.goto X106.here hx rfl (pc0 := 247) (pc' := 251) rfl (hb hby at_247) (by decide) (by decide) k) ?_
       show oG _ _ _ _ T106 (mkF m 251 (oL p1 p2 p3 p4 q5 p6 b1 b4 b8 b10 b19 (oI 0) (oR b19) (oI 1) (oI ((((((4 : Int32) + (own_ui (p2 &&& 255))) + (own_ui (p3 &&& 255))) + r102) + (4 : Int32)) + ((4 : Int32) * (p4 &&& 3))))) [.int 1])
       exact own_retN X106 hx hlk (t := .boolean) hrt (by simp) (hb hby at_251) ⟨rfl, N106⟩ (own_finR IC106 (oB rfl)) (own_finR IS106 (oB rfl))
     · intro tail102
       by_cases hc203_107 : (lcmpW q5 (0 : Int64)) = (0 : Int32)
       · refine oS (fun t k => XS.ifYes X101.here hx rfl (pc0 := 203) (pc' := 211) rfl (hb hby at_203) rfl ((if0 _ _).trans (teq (show (lcmpW q5 (0 : Int64)) = (0 : Int32) from hc203_107)).1) (by decide) (by decide) k) ?_
         refine oS (fun t k => XS.iconst X101.here hx rfl (hb hby at_211) k) ?_
         exact tail102 _ ((own_d0 hc203_107).trans (by decide))
       · refine oS (fun t k => XS.ifNo X101.here hx rfl (hb hby at_203) rfl ((if0 _ _).trans (feq (show ¬ ((lcmpW q5 (0 : Int64)) = (0 : Int32)) from hc203_107)).1) k) ?_
         refine oS (fun t k => XS.bipush X101.here hx rfl (hb hby at_206) k) ?_
         refine oS (fun t k => XS.goto X101.here hx rfl (pc0 := 208) (pc' := 212) rfl (hb hby at_208) (by decide) (by decide) k) ?_
         exact tail102 _ ((own_d1 hc203_107).trans (by decide))
 · rw [hi]
   show oG _ _ _ _ T25 (mkF m 83 (oL p1 p2 p3 p4 q5 p6 b1 b4 b8 b10 b19 .unset .unset .unset .unset) [.int 1])
   refine oS (fun t k => XS.istore X25.here hx rfl (hb hby at_83) rfl (l' := (oL p1 p2 p3 p4 q5 p6 b1 b4 b8 b10 b19 (oI 1) .unset .unset .unset)) rfl k) ?_
   refine oS (fun t k => XS.iload X25.here hx rfl (hb hby at_85) rfl k) ?_
   refine oS (fun t k => XS.iconst X25.here hx rfl (hb hby at_87) k) ?_
   show oG _ _ _ _ T25 (mkF m 88 (oL p1 p2 p3 p4 q5 p6 b1 b4 b8 b10 b19 (oI 1) .unset .unset .unset) [.int 1, .int 1])
   refine oS (fun t k => XS.icmpNo X25.here hx rfl (hb hby at_88) rfl (flt (show ¬ ((1 : Int32) < (1 : Int32)) from (by decide))).1 k) ?_
   refine oS (fun t k => XS.aload X25.here hx rfl (hb hby at_91) rfl rfl k) ?_
   refine oS (fun t k => XS.aload X25.here hx rfl (hb hby at_93) rfl rfl k) ?_
   show oG _ _ _ _ T25 (mkF m 95 (oL p1 p2 p3 p4 q5 p6 b1 b4 b8 b10 b19 (oI 1) .unset .unset .unset) [.ref b10, .ref b19])
   have hS108 : own_St (64 : Int32) (0 : Int32) 0 := ⟨(Or.inl rfl), tz, by omega, by omega⟩
   have hN108 : 0 + ((4 + own_u (p2 &&& 255) + own_u (p3 &&& 255)) + (own_d q5 + 4 + 4 * (p4 &&& 3).toInt)) ≤ 128 := by omega
   have A19_v109 := (A19.keep Kq25)
   have A10_v110 := (A10_v30.keep Kq25)
   have q14_0'_v111 := ((q14_0'.ext E19).keep Kq25 (ninS ne_b10_b19 nin0))
   have q14_2'_v112 := ((q14_2'.ext E19).keep Kq25 (ninS ne_b10_b19 nin0))
   have q14_3'_v113 := ((q14_3'.ext E19).keep Kq25 (ninS ne_b10_b19 nin0))
   have q14_1'_v114 := ((q14_1'.ext E19).keep Kq25 (ninS ne_b10_b19 nin0))
   have q7_0'_v115 := (q7_0'_v27.keep Kq25)
   have q7_1'_v116 := (((((q7_1'.ext E8).ext E10).keep Kq14 (ninS ne_b4_b10 nin0)).ext E19).keep Kq25 (ninS ne_b4_b19 nin0))
   have q7_2'_v117 := (((((q7_2'.ext E8).ext E10).keep Kq14 (ninS ne_b4_b10 nin0)).ext E19).keep Kq25 (ninS ne_b4_b19 nin0))
   have q7_3'_v118 := (q7_3'_v28.keep Kq25 (ninS ne_b7_0_b19 nin0))
   have V_b8_v119 := (V_b8_v29.keep Kq25 (ninS ne_b8_b19 nin0))
   have S_C_v120 := (own_staKeep ((own_staKeep (((own_staKeep S_C_v6 Kq7 (allS (own_plainE A4) all0)).ext E8).ext E10) Kq14 (allS (own_plainE A10) all0)).ext E19) Kq25 (allS (own_plainE A19) all0))
   have S_I_v121 := (own_staKeep ((own_staKeep (((own_staKeep ((((S_I.ext E1).wr W2).wr W3).ext E4) Kq7 (allS (own_plainE A4) all0)).ext E8).ext E10) Kq14 (allS (own_plainE A10) all0)).ext E19) Kq25 (allS (own_plainE A19) all0))
   have S_U_v122 := (own_staKeep ((own_staKeep (((own_staKeep ((((S_U.ext E1).wr W2).wr W3).ext E4) Kq7 (allS (own_plainE A4) all0)).ext E8).ext E10) Kq14 (allS (own_plainE A10) all0)).ext E19) Kq25 (allS (own_plainE A19) all0))
   have S_F_v123 := (own_staKeep ((own_staKeep (((own_staKeep ((((S_F.ext E1).wr W2).wr W3).ext E4) Kq7 (allS (own_plainE A4) all0)).ext E8).ext E10) Kq14 (allS (own_plainE A10) all0)).ext E19) Kq25 (allS (own_plainE A19) all0))
   refine own_callVX X25 hx hZ (y := oy6) (z := oy6) hown (oW hw 105 rfl) (oW hw 106 rfl) (notFace_of_selects (args := #[]) (mvT hZ (oW hw 108 rfl))) (oW hw 108 rfl) (oW hw 107 rfl) (oW hw 109 rfl) (oW hw 57 rfl) (by decide) 0 A19_v109 [.ref b10] [] (own_add l Z a0 hw [] b25_0 b25_1 k25_0 64 0 0 b19 0 b10 b8 k8 q5 (p4 &&& 3) b4 u8 b7_0 k7_0 (p2 &&& 255) (p3 &&& 255) zc fm T25.heap n0 (Nat.le_trans Z0 K25.1) q25_0' q25_2' q25_4' q25_3' q25_5' A19_v109 q25_1' A10_v110 q14_0'_v111 q14_2'_v112 q14_3'_v113 q14_1'_v114 q7_0'_v115 q7_1'_v116 q7_2'_v117 q7_3'_v118 V_b8_v119 S_C_v120 S_I_v121 S_U_v122 S_F_v123 hS108 hN108 g_b25_0 g_b25_1 ne_b25_0_b25_1 (own_m255 p2).1 (own_m255 p2).2 (own_m255 p3).1 (own_m255 p3).2 hz rG (own_n3 p4).2.2.1 g_b19 ne_b4_b25_0 ne_b4_b25_1 ne_b7_0_b25_0 ne_b7_0_b25_1 ne_b10_b25_0 ne_b10_b25_1 ne_b8_b25_0 ne_b8_b25_1 ne_b19_b25_0 ne_b19_b25_1) rfl  (oB rfl) (oB rfl) (own_needR IC0 (oB rfl)) (own_needR IS0 (oB rfl)) (g := (mkF m 95 (oL p1 p2 p3 p4 q5 p6 b1 b4 b8 b10 b19 (oI 1) .unset .unset .unset) [.ref b10, .ref b19])) rfl (by rw [hml]; rfl) own_pd32 rfl rfl (by show 2 * 0 + _ ≤ _; exact Nat.le_of_eq rfl) (hb hby at_95) ?_
   intro T124 v124 L124 xc124 xs124 X124 hQ124
   have V3'_v125 := (V3'_v26.keep Kq25 (ninS ne_b1_b19 nin0))
   obtain ⟨b124_0, k124_0, cp124, z124, rfl, N124q, Kq124, zq124, hT124, hkC124, hkS124, q124_0, q124_1, q124_2, y124_0, y124_1⟩ := hQ124
   obtain ⟨sc124, sq124, sl124, su124⟩ := hT124
   have N124 := Fr.app N25 N124q
   have K124 := K25.trans Kq124 (allS (Or.inr sz_b19) (allS (Or.inr sz_b25_0) (allS (Or.inr sz_b25_1) all0)))
   have g_b124_0 : n0 ≤ b124_0 := own_sz2 zq124 g_b25_1 (Nat.le_trans Z0 K25.1)
   have sz_b124_0 : h0.size ≤ b124_0 := own_sz2 zq124 sz_b25_1 K25.1
   have ne_b1_b124_0 : b1 ≠ b124_0 := own_ne2 ne_b1_b25_1 V3'_v125.lt zq124
   have ne_b4_b124_0 : b4 ≠ b124_0 := own_ne2 ne_b4_b25_1 q7_0'_v115.lt zq124
   have ne_b7_0_b124_0 : b7_0 ≠ b124_0 := own_ne2 ne_b7_0_b25_1 q7_3'_v118.lt zq124
   have ne_b8_b124_0 : b8 ≠ b124_0 := own_ne2 ne_b8_b25_1 V_b8_v119.lt zq124
   have ne_b10_b124_0 : b10 ≠ b124_0 := own_ne2 ne_b10_b25_1 A10_v110.lt zq124
   have ne_b19_b124_0 : b19 ≠ b124_0 := own_ne2 ne_b19_b25_1 A19_v109.lt zq124
   have ne_b25_0_b124_0 : b25_0 ≠ b124_0 := own_ne2 ne_b25_0_b25_1 q25_2'.lt zq124
   have IC124 := own_acc IC0 hkC124
   have IS124 := own_acc IS0 hkS124
   refine oS (fun t k => XS.pop X124.here hx rfl (hb hby at_98) rfl rfl k) ?_
   refine oS (fun t k => XS.iload X124.here hx rfl (hb hby at_99) rfl k) ?_
   refine oS (fun t k => XS.iconst X124.here hx rfl (hb hby at_101) k) ?_
   show oG _ _ _ _ T124 (mkF m 102 (oL p1 p2 p3 p4 q5 p6 b1 b4 b8 b10 b19 (oI 1) .unset .unset .unset) [.int 2, .int 1])
   refine oS (fun t k => XS.icmpYes X124.here hx rfl (pc0 := 102) (pc' := 113) rfl (hb hby at_102) rfl (tlt (show (1 : Int32) < (2 : Int32) from (by decide))).1 (by decide) (by decide) k) ?_
   refine oS (fun t k => XS.iload X124.here hx rfl (hb hby at_113) rfl k) ?_
   refine oS (fun t k => XS.iconst X124.here hx rfl (hb hby at_115) k) ?_
   show oG _ _ _ _ T124 (mkF m 116 (oL p1 p2 p3 p4 q5 p6 b1 b4 b8 b10 b19 (oI 1) .unset .unset .unset) [.int 3, .int 1])
   refine oS (fun t k => XS.icmpYes X124.here hx rfl (pc0 := 116) (pc' := 127) rfl (hb hby at_116) rfl (tlt (show (1 : Int32) < (3 : Int32) from (by decide))).1 (by decide) (by decide) k) ?_
   refine oS (fun t k => XS.aload X124.here hx rfl (hb hby at_127) rfl rfl k) ?_
   show oG _ _ _ _ T124 (mkF m 129 (oL p1 p2 p3 p4 q5 p6 b1 b4 b8 b10 b19 (oI 1) .unset .unset .unset) [.ref b19])
   have A19_v126 := (A19_v109.keep Kq124)
   have q25_2'_v127 := (q25_2'.keep Kq124)
   refine own_callV X124 hx hZ (y := oy8) (z := oy8) hown (oW hw 76 rfl) (oW hw 77 rfl) (notFace_of_selects (args := #[]) (mvT hZ (oW hw 79 rfl))) (oW hw 79 rfl) (oW hw 78 rfl) (oW hw 80 rfl) (oW hw 57 rfl) (by decide) 0 A19_v126 [] [] (own_clr l Z a0 hw [] b19 b25_0 ((0 : Int32) + (1 : Int32)) z124 b124_0 T124.heap n0 (Nat.le_trans Z0 K124.1) A19_v126 y124_1 y124_0 q25_2'_v127 q124_0 q124_1 g_b19 g_b25_0 ne_b19_b25_0) rfl  (oB rfl) (oB rfl) (own_needRL IC124 (oB rfl)) (own_needRL IS124 (oB rfl)) (g := (mkF m 129 (oL p1 p2 p3 p4 q5 p6 b1 b4 b8 b10 b19 (oI 1) .unset .unset .unset) [.ref b19])) rfl (by rw [hml]; rfl) own_pd31 rfl rfl (by show 2 * 0 + _ ≤ _; exact Nat.le_of_eq rfl) (hb hby at_129) ?_
   intro T128 v128 L128 X128 hQ128
   have V3'_v129 := (V3'_v125.keep Kq124 (ninS ne_b1_b19 (ninS ne_b1_b25_0 (ninS ne_b1_b25_1 nin0))))
   have q7_0'_v130 := (q7_0'_v115.keep Kq124)
   have q7_3'_v131 := (q7_3'_v118.keep Kq124 (ninS ne_b7_0_b19 (ninS ne_b7_0_b25_0 (ninS ne_b7_0_b25_1 nin0))))
   have V_b8_v132 := (V_b8_v119.keep Kq124 (ninS ne_b8_b19 (ninS ne_b8_b25_0 (ninS ne_b8_b25_1 nin0))))
   have A10_v133 := (A10_v110.keep Kq124)
   obtain ⟨rfl, N128q, Kq128, q128_0, q128_1, q128_2, q128_3⟩ := hQ128
   have N128 := Fr.app N124 N128q
   have K128 := K124.trans Kq128 (allS (Or.inr sz_b19) (allS (Or.inr sz_b25_0) all0))
   have q128_0' : Fld Z T128.heap b19 "com/example/ringshift/ringshift/data/RowBatch$Builder" "rows" "Lcom/example/ringshift/ringshift/io/BinaryWriter;" (.ref b25_0) := q128_0
   have q128_1' : Fld Z T128.heap b25_0 "com/example/ringshift/ringshift/io/BinaryWriter" "bytes" "[B" (.ref b124_0) := q128_1
   have q128_2' : Fld Z T128.heap b19 "com/example/ringshift/ringshift/data/RowBatch$Builder" "count" "I" (.int 0) := q128_2
   have q128_3' : Fld Z T128.heap b25_0 "com/example/ringshift/ringshift/io/BinaryWriter" "size" "I" (.int 0) := q128_3
   have IC128 := own_accL 0 IC124
   have IS128 := own_accL 0 IS124
   refine oS (fun t k => XS.astore X128.here hx rfl (hb hby at_132) rfl rfl (l' := (oL p1 p2 p3 p4 q5 p6 b1 b4 b8 b10 b19 (oI 1) (oR b19) .unset .unset)) rfl k) ?_
   refine oS (fun t k => XS.iload X128.here hx rfl (hb hby at_134) rfl k) ?_
   refine oS (fun t k => XS.iconst X128.here hx rfl (hb hby at_136) k) ?_
   refine oS (fun t k => XS.iand X128.here hx rfl (hb hby at_137) rfl k) ?_
   show oG _ _ _ _ T128 (mkF m 138 (oL p1 p2 p3 p4 q5 p6 b1 b4 b8 b10 b19 (oI 1) (oR b19) .unset .unset) [(.int (p6 &&& 1))])
   by_cases hc138_134 : (p6 &&& 1) = (0 : Int32)
   · refine oS (fun t k => XS.ifYes X128.here hx rfl (pc0 := 138) (pc' := 148) rfl (hb hby at_138) rfl ((if0 _ _).trans (teq (show (p6 &&& 1) = (0 : Int32) from hc138_134)).1) (by decide) (by decide) k) ?_
     refine oS (fun t k => XS.aload X128.here hx rfl (hb hby at_148) rfl rfl k) ?_
     refine oS (fun t k => XS.aload X128.here hx rfl (hb hby at_150) rfl rfl k) ?_
     show oG _ _ _ _ T128 (mkF m 152 (oL p1 p2 p3 p4 q5 p6 b1 b4 b8 b10 b19 (oI 1) (oR b19) .unset .unset) [.ref b19, .ref b19])
     refine oS (fun t k => Jvm.RoadKit.acmp (g := (mkF m 152 (oL p1 p2 p3 p4 q5 p6 b1 b4 b8 b10 b19 (oI 1) (oR b19) .unset .unset) [.ref b19, .ref b19])) X128 hx rfl rfl rfl (pc0 := 152) (pc' := 155) (same := true) rfl (hb hby at_152) rfl (decide_eq_true rfl) (by decide) (by decide) k) ?_
     refine oS (fun t k => XS.aload X128.here hx rfl (hb hby at_155) rfl rfl k) ?_
     show oG _ _ _ _ T128 (mkF m 157 (oL p1 p2 p3 p4 q5 p6 b1 b4 b8 b10 b19 (oI 1) (oR b19) .unset .unset) [.ref b19])
     have A19_v136 := (A19_v126.keep Kq128)
     refine own_callV X128 hx hZ (y := oy9) (z := oy9) hown (oW hw 90 rfl) (oW hw 91 rfl) (notFace_of_selects (args := #[]) (mvT hZ (oW hw 93 rfl))) (oW hw 93 rfl) (oW hw 92 rfl) (oW hw 94 rfl) (oW hw 57 rfl) (by decide) 0 A19_v136 [] [] (own_cnt l Z a0 hw [] b19 0 T128.heap n0 (Nat.le_trans Z0 K128.1) q128_2') rfl  (oB rfl) (oB rfl) (own_needRL IC128 (oB rfl)) (own_needRL IS128 (oB rfl)) (g := (mkF m 157 (oL p1 p2 p3 p4 q5 p6 b1 b4 b8 b10 b19 (oI 1) (oR b19) .unset .unset) [.ref b19])) rfl (by rw [hml]; rfl) own_pd17 rfl rfl (by show 2 * 0 + _ ≤ _; exact Nat.le_of_eq rfl) (hb hby at_157) ?_
     intro T135 v135 L135 X135 hQ135
     obtain ⟨rfl, N135q, e135⟩ := hQ135
     have N135 := Fr.app N128 N135q
     have IC135 := own_accL 0 IC128
     have IS135 := own_accL 0 IS128
     show oG _ _ _ _ T135 (mkF m 160 (oL p1 p2 p3 p4 q5 p6 b1 b4 b8 b10 b19 (oI 1) (oR b19) .unset .unset) [.int 0])
     refine oS (fun t k => XS.ifNo X135.here hx rfl (hb hby at_160) rfl ((if0 _ _).trans (teq (show (0 : Int32) = (0 : Int32) from (by decide))).2) k) ?_
     refine oS (fun t k => XS.aload X135.here hx rfl (hb hby at_163) rfl rfl k) ?_
     show oG _ _ _ _ T135 (mkF m 165 (oL p1 p2 p3 p4 q5 p6 b1 b4 b8 b10 b19 (oI 1) (oR b19) .unset .unset) [.ref b19])
     have q25_2'_v137 := (q25_2'_v127.keep Kq128)
     refine own_callV X135 hx hZ (y := oy7) (z := oy7) hown (oW hw 95 rfl) (oW hw 96 rfl) (notFace_of_selects (args := #[]) (mvT hZ (oW hw 98 rfl))) (oW hw 98 rfl) (oW hw 97 rfl) (oW hw 99 rfl) (oW hw 57 rfl) (by decide) 0 A19_v136 [] [] (own_byt l Z a0 hw [] b19 b25_0 0 T128.heap n0 (Nat.le_trans Z0 K128.1) q128_0' q25_2'_v137 q128_3') e135  (oB rfl) (oB rfl) (own_needRL IC135 (oB rfl)) (own_needRL IS135 (oB rfl)) (g := (mkF m 165 (oL p1 p2 p3 p4 q5 p6 b1 b4 b8 b10 b19 (oI 1) (oR b19) .unset .unset) [.ref b19])) rfl (by rw [hml]; rfl) own_pd17 rfl rfl (by show 2 * 0 + _ ≤ _; exact Nat.le_of_eq rfl) (hb hby at_165) ?_
     intro T138 v138 L138 X138 hQ138
     obtain ⟨rfl, N138q, e138⟩ := hQ138
     have N138 := Fr.app N135 N138q
     have IC138 := own_accL 0 IC135
     have IS138 := own_accL 0 IS135
     show oG _ _ _ _ T138 (mkF m 168 (oL p1 p2 p3 p4 q5 p6 b1 b4 b8 b10 b19 (oI 1) (oR b19) .unset .unset) [.int 0])
     refine oS (fun t k => XS.ifNo X138.here hx rfl (hb hby at_168) rfl ((if0 _ _).trans (teq (show (0 : Int32) = (0 : Int32) from (by decide))).2) k) ?_
     refine oS (fun t k => XS.iconst X138.here hx rfl (hb hby at_171) k) ?_
     refine oS (fun t k => XS.goto X138.here hx rfl (pc0 := 172) (pc' := 176) rfl (hb hby at_172) (by decide) (by decide) k) ?_
     refine oS (fun t k => XS.istore X138.here hx rfl (hb hby at_176) rfl (l' := (oL p1 p2 p3 p4 q5 p6 b1 b4 b8 b10 b19 (oI 1) (oR b19) (oI 1) .unset)) rfl k) ?_
     refine oS (fun t k => XS.aload X138.here hx rfl (hb hby at_178) rfl rfl k) ?_
     refine oS (fun t k => XS.aload X138.here hx rfl (hb hby at_180) rfl rfl k) ?_
     show oG _ _ _ _ T138 (mkF m 182 (oL p1 p2 p3 p4 q5 p6 b1 b4 b8 b10 b19 (oI 1) (oR b19) (oI 1) .unset) [.ref b10, .ref b19])
     have hS139 : own_St cp124 (0 : Int32) 0 := ⟨sc124, tz, by omega, by omega⟩
     have hN139 : 0 + ((4 + own_u (p2 &&& 255) + own_u (p3 &&& 255)) + (own_d q5 + 4 + 4 * (p4 &&& 3).toInt)) ≤ 128 := by omega
     have q124_2_v140 := (q124_2.keep Kq128 (ninS (Ne.symm ne_b19_b124_0) (ninS (Ne.symm ne_b25_0_b124_0) nin0)))
     have A10_v141 := (A10_v133.keep Kq128)
     have q14_0'_v142 := ((q14_0'_v111.keep Kq124 (ninS ne_b10_b19 (ninS ne_b10_b25_0 (ninS ne_b10_b25_1 nin0)))).keep Kq128 (ninS ne_b10_b19 (ninS ne_b10_b25_0 nin0)))
     have q14_2'_v143 := ((q14_2'_v112.keep Kq124 (ninS ne_b10_b19 (ninS ne_b10_b25_0 (ninS ne_b10_b25_1 nin0)))).keep Kq128 (ninS ne_b10_b19 (ninS ne_b10_b25_0 nin0)))
     have q14_3'_v144 := ((q14_3'_v113.keep Kq124 (ninS ne_b10_b19 (ninS ne_b10_b25_0 (ninS ne_b10_b25_1 nin0)))).keep Kq128 (ninS ne_b10_b19 (ninS ne_b10_b25_0 nin0)))
     have q14_1'_v145 := ((q14_1'_v114.keep Kq124 (ninS ne_b10_b19 (ninS ne_b10_b25_0 (ninS ne_b10_b25_1 nin0)))).keep Kq128 (ninS ne_b10_b19 (ninS ne_b10_b25_0 nin0)))
     have q7_0'_v146 := (q7_0'_v130.keep Kq128)
     have q7_1'_v147 := ((q7_1'_v116.keep Kq124 (ninS ne_b4_b19 (ninS ne_b4_b25_0 (ninS ne_b4_b25_1 nin0)))).keep Kq128 (ninS ne_b4_b19 (ninS ne_b4_b25_0 nin0)))
     have q7_2'_v148 := ((q7_2'_v117.keep Kq124 (ninS ne_b4_b19 (ninS ne_b4_b25_0 (ninS ne_b4_b25_1 nin0)))).keep Kq128 (ninS ne_b4_b19 (ninS ne_b4_b25_0 nin0)))
     have q7_3'_v149 := (q7_3'_v131.keep Kq128 (ninS ne_b7_0_b19 (ninS ne_b7_0_b25_0 nin0)))
     have V_b8_v150 := (V_b8_v132.keep Kq128 (ninS ne_b8_b19 (ninS ne_b8_b25_0 nin0)))
     have S_C_v151 := (own_staKeep (own_staKeep S_C_v120 Kq124 (allS (own_plainE A19_v109) (allS (own_plainE q25_2') (allS (own_plainB q25_5') all0)))) Kq128 (allS (own_plainE A19_v126) (allS (own_plainE q25_2'_v127) all0)))
     have S_I_v152 := (own_staKeep (own_staKeep S_I_v121 Kq124 (allS (own_plainE A19_v109) (allS (own_plainE q25_2') (allS (own_plainB q25_5') all0)))) Kq128 (allS (own_plainE A19_v126) (allS (own_plainE q25_2'_v127) all0)))
     have S_U_v153 := (own_staKeep (own_staKeep S_U_v122 Kq124 (allS (own_plainE A19_v109) (allS (own_plainE q25_2') (allS (own_plainB q25_5') all0)))) Kq128 (allS (own_plainE A19_v126) (allS (own_plainE q25_2'_v127) all0)))
     have S_F_v154 := (own_staKeep (own_staKeep S_F_v123 Kq124 (allS (own_plainE A19_v109) (allS (own_plainE q25_2') (allS (own_plainB q25_5') all0)))) Kq128 (allS (own_plainE A19_v126) (allS (own_plainE q25_2'_v127) all0)))
     refine own_callVX X138 hx hZ (y := oy6) (z := oy6) hown (oW hw 105 rfl) (oW hw 106 rfl) (notFace_of_selects (args := #[]) (mvT hZ (oW hw 108 rfl))) (oW hw 108 rfl) (oW hw 107 rfl) (oW hw 109 rfl) (oW hw 57 rfl) (by decide) 0 A19_v136 [.ref b10] [] (own_add l Z a0 hw [] b25_0 b124_0 k124_0 cp124 0 0 b19 0 b10 b8 k8 q5 (p4 &&& 3) b4 u8 b7_0 k7_0 (p2 &&& 255) (p3 &&& 255) zc fm T128.heap n0 (Nat.le_trans Z0 K128.1) q128_0' q25_2'_v137 q128_3' q128_1' q124_2_v140 A19_v136 q128_2' A10_v141 q14_0'_v142 q14_2'_v143 q14_3'_v144 q14_1'_v145 q7_0'_v146 q7_1'_v147 q7_2'_v148 q7_3'_v149 V_b8_v150 S_C_v151 S_I_v152 S_U_v153 S_F_v154 hS139 hN139 g_b25_0 g_b124_0 ne_b25_0_b124_0 (own_m255 p2).1 (own_m255 p2).2 (own_m255 p3).1 (own_m255 p3).2 hz rG (own_n3 p4).2.2.1 g_b19 ne_b4_b25_0 ne_b4_b124_0 ne_b7_0_b25_0 ne_b7_0_b124_0 ne_b10_b25_0 ne_b10_b124_0 ne_b8_b25_0 ne_b8_b124_0 ne_b19_b25_0 ne_b19_b124_0) e138  (oB rfl) (oB rfl) (own_needR IC138 (oB rfl)) (own_needR IS138 (oB rfl)) (g := (mkF m 182 (oL p1 p2 p3 p4 q5 p6 b1 b4 b8 b10 b19 (oI 1) (oR b19) (oI 1) .unset) [.ref b10, .ref b19])) rfl (by rw [hml]; rfl) own_pd32 rfl rfl (by show 2 * 0 + _ ≤ _; exact Nat.le_of_eq rfl) (hb hby at_182) ?_
     intro T155 v155 L155 xc155 xs155 X155 hQ155
     have V3'_v156 := (V3'_v129.keep Kq128 (ninS ne_b1_b19 (ninS ne_b1_b25_0 nin0)))
     obtain ⟨b155_0, k155_0, cp155, z155, rfl, N155q, Kq155, zq155, hT155, hkC155, hkS155, q155_0, q155_1, q155_2, y155_0, y155_1⟩ := hQ155
     obtain ⟨sc155, sq155, sl155, su155⟩ := hT155
     have N155 := Fr.app N138 N155q
     have K155 := K128.trans Kq155 (allS (Or.inr sz_b19) (allS (Or.inr sz_b25_0) (allS (Or.inr sz_b124_0) all0)))
     have g_b155_0 : n0 ≤ b155_0 := own_sz2 zq155 g_b124_0 (Nat.le_trans Z0 K128.1)
     have sz_b155_0 : h0.size ≤ b155_0 := own_sz2 zq155 sz_b124_0 K128.1
     have ne_b1_b155_0 : b1 ≠ b155_0 := own_ne2 ne_b1_b124_0 V3'_v156.lt zq155
     have ne_b4_b155_0 : b4 ≠ b155_0 := own_ne2 ne_b4_b124_0 q7_0'_v146.lt zq155
     have ne_b7_0_b155_0 : b7_0 ≠ b155_0 := own_ne2 ne_b7_0_b124_0 q7_3'_v149.lt zq155
     have ne_b8_b155_0 : b8 ≠ b155_0 := own_ne2 ne_b8_b124_0 V_b8_v150.lt zq155
     have ne_b10_b155_0 : b10 ≠ b155_0 := own_ne2 ne_b10_b124_0 A10_v141.lt zq155
     have ne_b19_b155_0 : b19 ≠ b155_0 := own_ne2 ne_b19_b124_0 A19_v136.lt zq155
     have ne_b25_0_b155_0 : b25_0 ≠ b155_0 := own_ne2 ne_b25_0_b124_0 q25_2'_v137.lt zq155
     have IC155 := own_acc IC138 hkC155
     have IS155 := own_acc IS138 hkS155
     refine oS (fun t k => XS.pop X155.here hx rfl (hb hby at_185) rfl rfl k) ?_
     refine oS (fun t k => XS.iconst X155.here hx rfl (hb hby at_186) k) ?_
     refine oS (fun t k => XS.iload X155.here hx rfl (hb hby at_187) rfl k) ?_
     show oG _ _ _ _ T155 (mkF m 189 (oL p1 p2 p3 p4 q5 p6 b1 b4 b8 b10 b19 (oI 1) (oR b19) (oI 1) .unset) [(.int (p2 &&& 255)), .int 4])
     refine own_callS X155 hx hZ (y := oy0) hown (oW hw 177 rfl) (oW hw 178 rfl) (oW hw 179 rfl) (oW hw 180 rfl) (by decide) 1 [(.int (p2 &&& 255))] [.int 4] (own_ut8 l Z a0 hw [] (p2 &&& 255) T155.heap n0 (Nat.le_trans Z0 K155.1) ) rfl  (oB rfl) (oB rfl) (own_needRL IC155 (oB rfl)) (own_needRL IS155 (oB rfl)) (g := (mkF m 189 (oL p1 p2 p3 p4 q5 p6 b1 b4 b8 b10 b19 (oI 1) (oR b19) (oI 1) .unset) [(.int (p2 &&& 255)), .int 4])) rfl (by rw [hml]; rfl) own_pd33 rfl rfl (by show 2 * 0 + _ ≤ _; exact Nat.le_of_eq rfl) (hb hby at_189) ?_
     intro T157 v157 L157 X157 hQ157
     obtain ⟨rfl, N157q, e157⟩ := hQ157
     have N157 := Fr.app N155 N157q
     have IC157 := own_accL 0 IC155
     have IS157 := own_accL 0 IS155
     refine oS (fun t k => XS.iadd X157.here hx rfl (hb hby at_192) rfl k) ?_
     refine oS (fun t k => XS.iload X157.here hx rfl (hb hby at_193) rfl k) ?_
     show oG _ _ _ _ T157 (mkF m 195 (oL p1 p2 p3 p4 q5 p6 b1 b4 b8 b10 b19 (oI 1) (oR b19) (oI 1) .unset) [(.int (p3 &&& 255)), (.int ((4 : Int32) + (own_ui (p2 &&& 255))))])
     refine own_callS X157 hx hZ (y := oy0) hown (oW hw 177 rfl) (oW hw 178 rfl) (oW hw 179 rfl) (oW hw 180 rfl) (by decide) 1 [(.int (p3 &&& 255))] [(.int ((4 : Int32) + (own_ui (p2 &&& 255))))] (own_ut8 l Z a0 hw [] (p3 &&& 255) T155.heap n0 (Nat.le_trans Z0 K155.1) ) e157  (oB rfl) (oB rfl) (own_needRL IC157 (oB rfl)) (own_needRL IS157 (oB rfl)) (g := (mkF m 195 (oL p1 p2 p3 p4 q5 p6 b1 b4 b8 b10 b19 (oI 1) (oR b19) (oI 1) .unset) [(.int (p3 &&& 255)), (.int ((4 : Int32) + (own_ui (p2 &&& 255))))])) rfl (by rw [hml]; rfl) own_pd33 rfl rfl (by show 2 * 0 + _ ≤ _; exact Nat.le_of_eq rfl) (hb hby at_195) ?_
     intro T158 v158 L158 X158 hQ158
     obtain ⟨rfl, N158q, e158⟩ := hQ158
     have N158 := Fr.app N157 N158q
     have IC158 := own_accL 0 IC157
     have IS158 := own_accL 0 IS157
     refine oS (fun t k => XS.iadd X158.here hx rfl (hb hby at_198) rfl k) ?_
     refine oS (fun t k => XS.lload X158.here hx rfl (hb hby at_199) rfl k) ?_
     refine oS (fun t k => XS.lconst X158.here hx rfl (hb hby at_201) k) ?_
     show oG _ _ _ _ T158 (mkF m 202 (oL p1 p2 p3 p4 q5 p6 b1 b4 b8 b10 b19 (oI 1) (oR b19) (oI 1) .unset) [(.long (0 : Int64)), (.long q5), (.int (((4 : Int32) + (own_ui (p2 &&& 255))) + (own_ui (p3 &&& 255))))])
     refine oS (fun t k => XS.lcmp X158.here hx rfl (hb hby at_202) rfl k) ?_
     refine own_join (fun r159 => own_d q5 = r159.toInt) (fun r159 => (mkF m 212 (oL p1 p2 p3 p4 q5 p6 b1 b4 b8 b10 b19 (oI 1) (oR b19) (oI 1) .unset) [.int r159, (.int (((4 : Int32) + (own_ui (p2 &&& 255))) + (own_ui (p3 &&& 255))))])) ?_ ?_
     · intro r159 hr159
       show oG _ _ _ _ T158 (mkF m 212 (oL p1 p2 p3 p4 q5 p6 b1 b4 b8 b10 b19 (oI 1) (oR b19) (oI 1) .unset) [.int r159, (.int (((4 : Int32) + (own_ui (p2 &&& 255))) + (own_ui (p3 &&& 255))))])
       refine oS (fun t k => XS.iadd X158.here hx rfl (hb hby at_212) rfl k) ?_
       refine oS (fun t k => XS.iconst X158.here hx rfl (hb hby at_213) k) ?_
       refine oS (fun t k => XS.iadd X158.here hx rfl (hb hby at_214) rfl k) ?_
       refine oS (fun t k => XS.iconst X158.here hx rfl (hb hby at_215) k) ?_
       refine oS (fun t k => XS.iload X158.here hx rfl (hb hby at_216) rfl k) ?_
       refine oS (fun t k => XS.imul X158.here hx rfl (hb hby at_218) rfl k) ?_
       refine oS (fun t k => XS.iadd X158.here hx rfl (hb hby at_219) rfl k) ?_
       refine oS (fun t k => XS.istore X158.here hx rfl (hb hby at_220) rfl (l' := (oL p1 p2 p3 p4 q5 p6 b1 b4 b8 b10 b19 (oI 1) (oR b19) (oI 1) (oI ((((((4 : Int32) + (own_ui (p2 &&& 255))) + (own_ui (p3 &&& 255))) + r159) + (4 : Int32)) + ((4 : Int32) * (p4 &&& 3)))))) rfl k) ?_
       refine oS (fun t k => XS.iload X158.here hx rfl (hb hby at_222) rfl k) ?_
       show oG _ _ _ _ T158 (mkF m 224 (oL p1 p2 p3 p4 q5 p6 b1 b4 b8 b10 b19 (oI 1) (oR b19) (oI 1) (oI ((((((4 : Int32) + (own_ui (p2 &&& 255))) + (own_ui (p3 &&& 255))) + r159) + (4 : Int32)) + ((4 : Int32) * (p4 &&& 3))))) [.int 1])
       refine oS (fun t k => XS.ifNo X158.here hx rfl (hb hby at_224) rfl ((if0 _ _).trans (feq (show ¬ ((1 : Int32) = (0 : Int32)) from (by decide))).1) k) ?_
       refine oS (fun t k => XS.aload X158.here hx rfl (hb hby at_227) rfl rfl k) ?_
       show oG _ _ _ _ T158 (mkF m 229 (oL p1 p2 p3 p4 q5 p6 b1 b4 b8 b10 b19 (oI 1) (oR b19) (oI 1) (oI ((((((4 : Int32) + (own_ui (p2 &&& 255))) + (own_ui (p3 &&& 255))) + r159) + (4 : Int32)) + ((4 : Int32) * (p4 &&& 3))))) [.ref b19])
       have A19_v161 := (A19_v136.keep Kq155)
       refine own_callV X158 hx hZ (y := oy9) (z := oy9) hown (oW hw 90 rfl) (oW hw 91 rfl) (notFace_of_selects (args := #[]) (mvT hZ (oW hw 93 rfl))) (oW hw 93 rfl) (oW hw 92 rfl) (oW hw 94 rfl) (oW hw 57 rfl) (by decide) 0 A19_v161 [] [] (own_cnt l Z a0 hw [] b19 ((0 : Int32) + (1 : Int32)) T155.heap n0 (Nat.le_trans Z0 K155.1) y155_0) e158  (oB rfl) (oB rfl) (own_needRL IC158 (oB rfl)) (own_needRL IS158 (oB rfl)) (g := (mkF m 229 (oL p1 p2 p3 p4 q5 p6 b1 b4 b8 b10 b19 (oI 1) (oR b19) (oI 1) (oI ((((((4 : Int32) + (own_ui (p2 &&& 255))) + (own_ui (p3 &&& 255))) + r159) + (4 : Int32)) + ((4 : Int32) * (p4 &&& 3))))) [.ref b19])) rfl (by rw [hml]; rfl) own_pd17 rfl rfl (by show 2 * 0 + _ ≤ _; exact Nat.le_of_eq rfl) (hb hby at_229) ?_
       intro T160 v160 L160 X160 hQ160
       obtain ⟨rfl, N160q, e160⟩ := hQ160
       have N160 := Fr.app N158 N160q
       have IC160 := own_accL 0 IC158
       have IS160 := own_accL 0 IS158
       refine oS (fun t k => XS.iconst X160.here hx rfl (hb hby at_232) k) ?_
       show oG _ _ _ _ T160 (mkF m 233 (oL p1 p2 p3 p4 q5 p6 b1 b4 b8 b10 b19 (oI 1) (oR b19) (oI 1) (oI ((((((4 : Int32) + (own_ui (p2 &&& 255))) + (own_ui (p3 &&& 255))) + r159) + (4 : Int32)) + ((4 : Int32) * (p4 &&& 3))))) [.int 1, (.int ((0 : Int32) + (1 : Int32)))])
       refine oS (fun t k => XS.icmpNo X160.here hx rfl (hb hby at_233) rfl (teq (show ((0 : Int32) + (1 : Int32)) = (1 : Int32) from (by decide))).2 k) ?_
       refine oS (fun t k => XS.aload X160.here hx rfl (hb hby at_236) rfl rfl k) ?_
       show oG _ _ _ _ T160 (mkF m 238 (oL p1 p2 p3 p4 q5 p6 b1 b4 b8 b10 b19 (oI 1) (oR b19) (oI 1) (oI ((((((4 : Int32) + (own_ui (p2 &&& 255))) + (own_ui (p3 &&& 255))) + r159) + (4 : Int32)) + ((4 : Int32) * (p4 &&& 3))))) [.ref b19])
       have q25_2'_v162 := (q25_2'_v137.keep Kq155)
       refine own_callV X160 hx hZ (y := oy7) (z := oy7) hown (oW hw 95 rfl) (oW hw 96 rfl) (notFace_of_selects (args := #[]) (mvT hZ (oW hw 98 rfl))) (oW hw 98 rfl) (oW hw 97 rfl) (oW hw 99 rfl) (oW hw 57 rfl) (by decide) 0 A19_v161 [] [] (own_byt l Z a0 hw [] b19 b25_0 z155 T155.heap n0 (Nat.le_trans Z0 K155.1) y155_1 q25_2'_v162 q155_0) e160  (oB rfl) (oB rfl) (own_needRL IC160 (oB rfl)) (own_needRL IS160 (oB rfl)) (g := (mkF m 238 (oL p1 p2 p3 p4 q5 p6 b1 b4 b8 b10 b19 (oI 1) (oR b19) (oI 1) (oI ((((((4 : Int32) + (own_ui (p2 &&& 255))) + (own_ui (p3 &&& 255))) + r159) + (4 : Int32)) + ((4 : Int32) * (p4 &&& 3))))) [.ref b19])) rfl (by rw [hml]; rfl) own_pd17 rfl rfl (by show 2 * 0 + _ ≤ _; exact Nat.le_of_eq rfl) (hb hby at_238) ?_
       intro T163 v163 L163 X163 hQ163
       obtain ⟨rfl, N163q, e163⟩ := hQ163
       have N163 := Fr.app N160 N163q
       have IC163 := own_accL 0 IC160
       have IS163 := own_accL 0 IS160
       refine oS (fun t k => XS.iload X163.here hx rfl (hb hby at_241) rfl k) ?_
       show oG _ _ _ _ T163 (mkF m 243 (oL p1 p2 p3 p4 q5 p6 b1 b4 b8 b10 b19 (oI 1) (oR b19) (oI 1) (oI ((((((4 : Int32) + (own_ui (p2 &&& 255))) + (own_ui (p3 &&& 255))) + r159) + (4 : Int32)) + ((4 : Int32) * (p4 &&& 3))))) [(.int ((((((4 : Int32) + (own_ui (p2 &&& 255))) + (own_ui (p3 &&& 255))) + r159) + (4 : Int32)) + ((4 : Int32) * (p4 &&& 3)))), .int z155])
       refine oS (fun t k => XS.icmpNo X163.here hx rfl (hb hby at_243) rfl (teq (show z155 = ((((((4 : Int32) + (own_ui (p2 &&& 255))) + (own_ui (p3 &&& 255))) + r159) + (4 : Int32)) + ((4 : Int32) * (p4 &&& 3))) from (own_exp sq155 hr159 tn))).2 k) ?_
       refine oS (fun t k => XS.iconst X163.here hx rfl (hb hby at_246) k) ?_
       refine oS (fun t k => XS.goto X163.here hx rfl (pc0 := 247) (pc' := 251) rfl (hb hby at_247) (by decide) (by decide) k) ?_
       show oG _ _ _ _ T163 (mkF m 251 (oL p1 p2 p3 p4 q5 p6 b1 b4 b8 b10 b19 (oI 1) (oR b19) (oI 1) (oI ((((((4 : Int32) + (own_ui (p2 &&& 255))) + (own_ui (p3 &&& 255))) + r159) + (4 : Int32)) + ((4 : Int32) * (p4 &&& 3))))) [.int 1])
       exact own_retN X163 hx hlk (t := .boolean) hrt (by simp) (hb hby at_251) ⟨rfl, N163⟩ (own_finR IC163 (oB rfl)) (own_finR IS163 (oB rfl))
     · intro tail159
       by_cases hc203_164 : (lcmpW q5 (0 : Int64)) = (0 : Int32)
       · refine oS (fun t k => XS.ifYes X158.here hx rfl (pc0 := 203) (pc' := 211) rfl (hb hby at_203) rfl ((if0 _ _).trans (teq (show (lcmpW q5 (0 : Int64)) = (0 : Int32) from hc203_164)).1) (by decide) (by decide) k) ?_
         refine oS (fun t k => XS.iconst X158.here hx rfl (hb hby at_211) k) ?_
         exact tail159 _ ((own_d0 hc203_164).trans (by decide))
       · refine oS (fun t k => XS.ifNo X158.here hx rfl (hb hby at_203) rfl ((if0 _ _).trans (feq (show ¬ ((lcmpW q5 (0 : Int64)) = (0 : Int32)) from hc203_164)).1) k) ?_
         refine oS (fun t k => XS.bipush X158.here hx rfl (hb hby at_206) k) ?_
         refine oS (fun t k => XS.goto X158.here hx rfl (pc0 := 208) (pc' := 212) rfl (hb hby at_208) (by decide) (by decide) k) ?_
         exact tail159 _ ((own_d1 hc203_164).trans (by decide))
   · refine oS (fun t k => XS.ifNo X128.here hx rfl (hb hby at_138) rfl ((if0 _ _).trans (feq (show ¬ ((p6 &&& 1) = (0 : Int32)) from hc138_134)).1) k) ?_
     refine oS (fun t k => XS.aload X128.here hx rfl (hb hby at_141) rfl rfl k) ?_
     show oG _ _ _ _ T128 (mkF m 143 (oL p1 p2 p3 p4 q5 p6 b1 b4 b8 b10 b19 (oI 1) (oR b19) .unset .unset) [.ref b19])
     have A19_v165 := (A19_v126.keep Kq128)
     have q25_2'_v166 := (q25_2'_v127.keep Kq128)
     refine own_callV X128 hx hZ (y := oy8) (z := oy8) hown (oW hw 76 rfl) (oW hw 77 rfl) (notFace_of_selects (args := #[]) (mvT hZ (oW hw 79 rfl))) (oW hw 79 rfl) (oW hw 78 rfl) (oW hw 80 rfl) (oW hw 57 rfl) (by decide) 0 A19_v165 [] [] (own_clr l Z a0 hw [] b19 b25_0 0 0 b124_0 T128.heap n0 (Nat.le_trans Z0 K128.1) A19_v165 q128_0' q128_2' q25_2'_v166 q128_3' q128_1' g_b19 g_b25_0 ne_b19_b25_0) rfl  (oB rfl) (oB rfl) (own_needRL IC128 (oB rfl)) (own_needRL IS128 (oB rfl)) (g := (mkF m 143 (oL p1 p2 p3 p4 q5 p6 b1 b4 b8 b10 b19 (oI 1) (oR b19) .unset .unset) [.ref b19])) rfl (by rw [hml]; rfl) own_pd31 rfl rfl (by show 2 * 0 + _ ≤ _; exact Nat.le_of_eq rfl) (hb hby at_143) ?_
     intro T167 v167 L167 X167 hQ167
     have V3'_v168 := (V3'_v129.keep Kq128 (ninS ne_b1_b19 (ninS ne_b1_b25_0 nin0)))
     have q7_0'_v169 := (q7_0'_v130.keep Kq128)
     have q7_3'_v170 := (q7_3'_v131.keep Kq128 (ninS ne_b7_0_b19 (ninS ne_b7_0_b25_0 nin0)))
     have V_b8_v171 := (V_b8_v132.keep Kq128 (ninS ne_b8_b19 (ninS ne_b8_b25_0 nin0)))
     have A10_v172 := (A10_v133.keep Kq128)
     have q124_2_v173 := (q124_2.keep Kq128 (ninS (Ne.symm ne_b19_b124_0) (ninS (Ne.symm ne_b25_0_b124_0) nin0)))
     obtain ⟨rfl, N167q, Kq167, q167_0, q167_1, q167_2, q167_3⟩ := hQ167
     have N167 := Fr.app N128 N167q
     have K167 := K128.trans Kq167 (allS (Or.inr sz_b19) (allS (Or.inr sz_b25_0) all0))
     have q167_0' : Fld Z T167.heap b19 "com/example/ringshift/ringshift/data/RowBatch$Builder" "rows" "Lcom/example/ringshift/ringshift/io/BinaryWriter;" (.ref b25_0) := q167_0
     have q167_1' : Fld Z T167.heap b25_0 "com/example/ringshift/ringshift/io/BinaryWriter" "bytes" "[B" (.ref b124_0) := q167_1
     have q167_2' : Fld Z T167.heap b19 "com/example/ringshift/ringshift/data/RowBatch$Builder" "count" "I" (.int 0) := q167_2
     have q167_3' : Fld Z T167.heap b25_0 "com/example/ringshift/ringshift/io/BinaryWriter" "size" "I" (.int 0) := q167_3
     have IC167 := own_accL 0 IC128
     have IS167 := own_accL 0 IS128
     refine oS (fun t k => XS.astore X167.here hx rfl (hb hby at_146) rfl rfl (l' := (oL p1 p2 p3 p4 q5 p6 b1 b4 b8 b10 b19 (oI 1) (oR b19) .unset .unset)) rfl k) ?_
     refine oS (fun t k => XS.aload X167.here hx rfl (hb hby at_148) rfl rfl k) ?_
     refine oS (fun t k => XS.aload X167.here hx rfl (hb hby at_150) rfl rfl k) ?_
     show oG _ _ _ _ T167 (mkF m 152 (oL p1 p2 p3 p4 q5 p6 b1 b4 b8 b10 b19 (oI 1) (oR b19) .unset .unset) [.ref b19, .ref b19])
     refine oS (fun t k => Jvm.RoadKit.acmp (g := (mkF m 152 (oL p1 p2 p3 p4 q5 p6 b1 b4 b8 b10 b19 (oI 1) (oR b19) .unset .unset) [.ref b19, .ref b19])) X167 hx rfl rfl rfl (pc0 := 152) (pc' := 155) (same := true) rfl (hb hby at_152) rfl (decide_eq_true rfl) (by decide) (by decide) k) ?_
     refine oS (fun t k => XS.aload X167.here hx rfl (hb hby at_155) rfl rfl k) ?_
     show oG _ _ _ _ T167 (mkF m 157 (oL p1 p2 p3 p4 q5 p6 b1 b4 b8 b10 b19 (oI 1) (oR b19) .unset .unset) [.ref b19])
     have A19_v175 := (A19_v165.keep Kq167)
     refine own_callV X167 hx hZ (y := oy9) (z := oy9) hown (oW hw 90 rfl) (oW hw 91 rfl) (notFace_of_selects (args := #[]) (mvT hZ (oW hw 93 rfl))) (oW hw 93 rfl) (oW hw 92 rfl) (oW hw 94 rfl) (oW hw 57 rfl) (by decide) 0 A19_v175 [] [] (own_cnt l Z a0 hw [] b19 0 T167.heap n0 (Nat.le_trans Z0 K167.1) q167_2') rfl  (oB rfl) (oB rfl) (own_needRL IC167 (oB rfl)) (own_needRL IS167 (oB rfl)) (g := (mkF m 157 (oL p1 p2 p3 p4 q5 p6 b1 b4 b8 b10 b19 (oI 1) (oR b19) .unset .unset) [.ref b19])) rfl (by rw [hml]; rfl) own_pd17 rfl rfl (by show 2 * 0 + _ ≤ _; exact Nat.le_of_eq rfl) (hb hby at_157) ?_
     intro T174 v174 L174 X174 hQ174
     obtain ⟨rfl, N174q, e174⟩ := hQ174
     have N174 := Fr.app N167 N174q
     have IC174 := own_accL 0 IC167
     have IS174 := own_accL 0 IS167
     show oG _ _ _ _ T174 (mkF m 160 (oL p1 p2 p3 p4 q5 p6 b1 b4 b8 b10 b19 (oI 1) (oR b19) .unset .unset) [.int 0])
     refine oS (fun t k => XS.ifNo X174.here hx rfl (hb hby at_160) rfl ((if0 _ _).trans (teq (show (0 : Int32) = (0 : Int32) from (by decide))).2) k) ?_
     refine oS (fun t k => XS.aload X174.here hx rfl (hb hby at_163) rfl rfl k) ?_
     show oG _ _ _ _ T174 (mkF m 165 (oL p1 p2 p3 p4 q5 p6 b1 b4 b8 b10 b19 (oI 1) (oR b19) .unset .unset) [.ref b19])
     have q25_2'_v176 := (q25_2'_v166.keep Kq167)
     refine own_callV X174 hx hZ (y := oy7) (z := oy7) hown (oW hw 95 rfl) (oW hw 96 rfl) (notFace_of_selects (args := #[]) (mvT hZ (oW hw 98 rfl))) (oW hw 98 rfl) (oW hw 97 rfl) (oW hw 99 rfl) (oW hw 57 rfl) (by decide) 0 A19_v175 [] [] (own_byt l Z a0 hw [] b19 b25_0 0 T167.heap n0 (Nat.le_trans Z0 K167.1) q167_0' q25_2'_v176 q167_3') e174  (oB rfl) (oB rfl) (own_needRL IC174 (oB rfl)) (own_needRL IS174 (oB rfl)) (g := (mkF m 165 (oL p1 p2 p3 p4 q5 p6 b1 b4 b8 b10 b19 (oI 1) (oR b19) .unset .unset) [.ref b19])) rfl (by rw [hml]; rfl) own_pd17 rfl rfl (by show 2 * 0 + _ ≤ _; exact Nat.le_of_eq rfl) (hb hby at_165) ?_
     intro T177 v177 L177 X177 hQ177
     obtain ⟨rfl, N177q, e177⟩ := hQ177
     have N177 := Fr.app N174 N177q
     have IC177 := own_accL 0 IC174
     have IS177 := own_accL 0 IS174
     show oG _ _ _ _ T177 (mkF m 168 (oL p1 p2 p3 p4 q5 p6 b1 b4 b8 b10 b19 (oI 1) (oR b19) .unset .unset) [.int 0])
     refine oS (fun t k => XS.ifNo X177.here hx rfl (hb hby at_168) rfl ((if0 _ _).trans (teq (show (0 : Int32) = (0 : Int32) from (by decide))).2) k) ?_
     refine oS (fun t k => XS.iconst X177.here hx rfl (hb hby at_171) k) ?_
     refine oS (fun t k => XS.goto X177.here hx rfl (pc0 := 172) (pc' := 176) rfl (hb hby at_172) (by decide) (by decide) k) ?_
     refine oS (fun t k => XS.istore X177.here hx rfl (hb hby at_176) rfl (l' := (oL p1 p2 p3 p4 q5 p6 b1 b4 b8 b10 b19 (oI 1) (oR b19) (oI 1) .unset)) rfl k) ?_
     refine oS (fun t k => XS.aload X177.here hx rfl (hb hby at_178) rfl rfl k) ?_
     refine oS (fun t k => XS.aload X177.here hx rfl (hb hby at_180) rfl rfl k) ?_
     show oG _ _ _ _ T177 (mkF m 182 (oL p1 p2 p3 p4 q5 p6 b1 b4 b8 b10 b19 (oI 1) (oR b19) (oI 1) .unset) [.ref b10, .ref b19])
     have hS178 : own_St cp124 (0 : Int32) 0 := ⟨sc124, tz, by omega, by omega⟩
     have hN178 : 0 + ((4 + own_u (p2 &&& 255) + own_u (p3 &&& 255)) + (own_d q5 + 4 + 4 * (p4 &&& 3).toInt)) ≤ 128 := by omega
     have q124_2_v179 := (q124_2_v173.keep Kq167 (ninS (Ne.symm ne_b19_b124_0) (ninS (Ne.symm ne_b25_0_b124_0) nin0)))
     have A10_v180 := (A10_v172.keep Kq167)
     have q14_0'_v181 := (((q14_0'_v111.keep Kq124 (ninS ne_b10_b19 (ninS ne_b10_b25_0 (ninS ne_b10_b25_1 nin0)))).keep Kq128 (ninS ne_b10_b19 (ninS ne_b10_b25_0 nin0))).keep Kq167 (ninS ne_b10_b19 (ninS ne_b10_b25_0 nin0)))
     have q14_2'_v182 := (((q14_2'_v112.keep Kq124 (ninS ne_b10_b19 (ninS ne_b10_b25_0 (ninS ne_b10_b25_1 nin0)))).keep Kq128 (ninS ne_b10_b19 (ninS ne_b10_b25_0 nin0))).keep Kq167 (ninS ne_b10_b19 (ninS ne_b10_b25_0 nin0)))
     have q14_3'_v183 := (((q14_3'_v113.keep Kq124 (ninS ne_b10_b19 (ninS ne_b10_b25_0 (ninS ne_b10_b25_1 nin0)))).keep Kq128 (ninS ne_b10_b19 (ninS ne_b10_b25_0 nin0))).keep Kq167 (ninS ne_b10_b19 (ninS ne_b10_b25_0 nin0)))
     have q14_1'_v184 := (((q14_1'_v114.keep Kq124 (ninS ne_b10_b19 (ninS ne_b10_b25_0 (ninS ne_b10_b25_1 nin0)))).keep Kq128 (ninS ne_b10_b19 (ninS ne_b10_b25_0 nin0))).keep Kq167 (ninS ne_b10_b19 (ninS ne_b10_b25_0 nin0)))
     have q7_0'_v185 := (q7_0'_v169.keep Kq167)
     have q7_1'_v186 := (((q7_1'_v116.keep Kq124 (ninS ne_b4_b19 (ninS ne_b4_b25_0 (ninS ne_b4_b25_1 nin0)))).keep Kq128 (ninS ne_b4_b19 (ninS ne_b4_b25_0 nin0))).keep Kq167 (ninS ne_b4_b19 (ninS ne_b4_b25_0 nin0)))
     have q7_2'_v187 := (((q7_2'_v117.keep Kq124 (ninS ne_b4_b19 (ninS ne_b4_b25_0 (ninS ne_b4_b25_1 nin0)))).keep Kq128 (ninS ne_b4_b19 (ninS ne_b4_b25_0 nin0))).keep Kq167 (ninS ne_b4_b19 (ninS ne_b4_b25_0 nin0)))
     have q7_3'_v188 := (q7_3'_v170.keep Kq167 (ninS ne_b7_0_b19 (ninS ne_b7_0_b25_0 nin0)))
     have V_b8_v189 := (V_b8_v171.keep Kq167 (ninS ne_b8_b19 (ninS ne_b8_b25_0 nin0)))
     have S_C_v190 := (own_staKeep (own_staKeep (own_staKeep S_C_v120 Kq124 (allS (own_plainE A19_v109) (allS (own_plainE q25_2') (allS (own_plainB q25_5') all0)))) Kq128 (allS (own_plainE A19_v126) (allS (own_plainE q25_2'_v127) all0))) Kq167 (allS (own_plainE A19_v165) (allS (own_plainE q25_2'_v166) all0)))
     have S_I_v191 := (own_staKeep (own_staKeep (own_staKeep S_I_v121 Kq124 (allS (own_plainE A19_v109) (allS (own_plainE q25_2') (allS (own_plainB q25_5') all0)))) Kq128 (allS (own_plainE A19_v126) (allS (own_plainE q25_2'_v127) all0))) Kq167 (allS (own_plainE A19_v165) (allS (own_plainE q25_2'_v166) all0)))
     have S_U_v192 := (own_staKeep (own_staKeep (own_staKeep S_U_v122 Kq124 (allS (own_plainE A19_v109) (allS (own_plainE q25_2') (allS (own_plainB q25_5') all0)))) Kq128 (allS (own_plainE A19_v126) (allS (own_plainE q25_2'_v127) all0))) Kq167 (allS (own_plainE A19_v165) (allS (own_plainE q25_2'_v166) all0)))
     have S_F_v193 := (own_staKeep (own_staKeep (own_staKeep S_F_v123 Kq124 (allS (own_plainE A19_v109) (allS (own_plainE q25_2') (allS (own_plainB q25_5') all0)))) Kq128 (allS (own_plainE A19_v126) (allS (own_plainE q25_2'_v127) all0))) Kq167 (allS (own_plainE A19_v165) (allS (own_plainE q25_2'_v166) all0)))
     refine own_callVX X177 hx hZ (y := oy6) (z := oy6) hown (oW hw 105 rfl) (oW hw 106 rfl) (notFace_of_selects (args := #[]) (mvT hZ (oW hw 108 rfl))) (oW hw 108 rfl) (oW hw 107 rfl) (oW hw 109 rfl) (oW hw 57 rfl) (by decide) 0 A19_v175 [.ref b10] [] (own_add l Z a0 hw [] b25_0 b124_0 k124_0 cp124 0 0 b19 0 b10 b8 k8 q5 (p4 &&& 3) b4 u8 b7_0 k7_0 (p2 &&& 255) (p3 &&& 255) zc fm T167.heap n0 (Nat.le_trans Z0 K167.1) q167_0' q25_2'_v176 q167_3' q167_1' q124_2_v179 A19_v175 q167_2' A10_v180 q14_0'_v181 q14_2'_v182 q14_3'_v183 q14_1'_v184 q7_0'_v185 q7_1'_v186 q7_2'_v187 q7_3'_v188 V_b8_v189 S_C_v190 S_I_v191 S_U_v192 S_F_v193 hS178 hN178 g_b25_0 g_b124_0 ne_b25_0_b124_0 (own_m255 p2).1 (own_m255 p2).2 (own_m255 p3).1 (own_m255 p3).2 hz rG (own_n3 p4).2.2.1 g_b19 ne_b4_b25_0 ne_b4_b124_0 ne_b7_0_b25_0 ne_b7_0_b124_0 ne_b10_b25_0 ne_b10_b124_0 ne_b8_b25_0 ne_b8_b124_0 ne_b19_b25_0 ne_b19_b124_0) e177  (oB rfl) (oB rfl) (own_needR IC177 (oB rfl)) (own_needR IS177 (oB rfl)) (g := (mkF m 182 (oL p1 p2 p3 p4 q5 p6 b1 b4 b8 b10 b19 (oI 1) (oR b19) (oI 1) .unset) [.ref b10, .ref b19])) rfl (by rw [hml]; rfl) own_pd32 rfl rfl (by show 2 * 0 + _ ≤ _; exact Nat.le_of_eq rfl) (hb hby at_182) ?_
     intro T194 v194 L194 xc194 xs194 X194 hQ194
     have V3'_v195 := (V3'_v168.keep Kq167 (ninS ne_b1_b19 (ninS ne_b1_b25_0 nin0)))
     obtain ⟨b194_0, k194_0, cp194, z194, rfl, N194q, Kq194, zq194, hT194, hkC194, hkS194, q194_0, q194_1, q194_2, y194_0, y194_1⟩ := hQ194
     obtain ⟨sc194, sq194, sl194, su194⟩ := hT194
     have N194 := Fr.app N177 N194q
     have K194 := K167.trans Kq194 (allS (Or.inr sz_b19) (allS (Or.inr sz_b25_0) (allS (Or.inr sz_b124_0) all0)))
     have g_b194_0 : n0 ≤ b194_0 := own_sz2 zq194 g_b124_0 (Nat.le_trans Z0 K167.1)
     have sz_b194_0 : h0.size ≤ b194_0 := own_sz2 zq194 sz_b124_0 K167.1
     have ne_b1_b194_0 : b1 ≠ b194_0 := own_ne2 ne_b1_b124_0 V3'_v195.lt zq194
     have ne_b4_b194_0 : b4 ≠ b194_0 := own_ne2 ne_b4_b124_0 q7_0'_v185.lt zq194
     have ne_b7_0_b194_0 : b7_0 ≠ b194_0 := own_ne2 ne_b7_0_b124_0 q7_3'_v188.lt zq194
     have ne_b8_b194_0 : b8 ≠ b194_0 := own_ne2 ne_b8_b124_0 V_b8_v189.lt zq194
     have ne_b10_b194_0 : b10 ≠ b194_0 := own_ne2 ne_b10_b124_0 A10_v180.lt zq194
     have ne_b19_b194_0 : b19 ≠ b194_0 := own_ne2 ne_b19_b124_0 A19_v175.lt zq194
     have ne_b25_0_b194_0 : b25_0 ≠ b194_0 := own_ne2 ne_b25_0_b124_0 q25_2'_v176.lt zq194
     have IC194 := own_acc IC177 hkC194
     have IS194 := own_acc IS177 hkS194
     refine oS (fun t k => XS.pop X194.here hx rfl (hb hby at_185) rfl rfl k) ?_
     refine oS (fun t k => XS.iconst X194.here hx rfl (hb hby at_186) k) ?_
     refine oS (fun t k => XS.iload X194.here hx rfl (hb hby at_187) rfl k) ?_
     show oG _ _ _ _ T194 (mkF m 189 (oL p1 p2 p3 p4 q5 p6 b1 b4 b8 b10 b19 (oI 1) (oR b19) (oI 1) .unset) [(.int (p2 &&& 255)), .int 4])
     refine own_callS X194 hx hZ (y := oy0) hown (oW hw 177 rfl) (oW hw 178 rfl) (oW hw 179 rfl) (oW hw 180 rfl) (by decide) 1 [(.int (p2 &&& 255))] [.int 4] (own_ut8 l Z a0 hw [] (p2 &&& 255) T194.heap n0 (Nat.le_trans Z0 K194.1) ) rfl  (oB rfl) (oB rfl) (own_needRL IC194 (oB rfl)) (own_needRL IS194 (oB rfl)) (g := (mkF m 189 (oL p1 p2 p3 p4 q5 p6 b1 b4 b8 b10 b19 (oI 1) (oR b19) (oI 1) .unset) [(.int (p2 &&& 255)), .int 4])) rfl (by rw [hml]; rfl) own_pd33 rfl rfl (by show 2 * 0 + _ ≤ _; exact Nat.le_of_eq rfl) (hb hby at_189) ?_
     intro T196 v196 L196 X196 hQ196
     obtain ⟨rfl, N196q, e196⟩ := hQ196
     have N196 := Fr.app N194 N196q
     have IC196 := own_accL 0 IC194
     have IS196 := own_accL 0 IS194
     refine oS (fun t k => XS.iadd X196.here hx rfl (hb hby at_192) rfl k) ?_
     refine oS (fun t k => XS.iload X196.here hx rfl (hb hby at_193) rfl k) ?_
     show oG _ _ _ _ T196 (mkF m 195 (oL p1 p2 p3 p4 q5 p6 b1 b4 b8 b10 b19 (oI 1) (oR b19) (oI 1) .unset) [(.int (p3 &&& 255)), (.int ((4 : Int32) + (own_ui (p2 &&& 255))))])
     refine own_callS X196 hx hZ (y := oy0) hown (oW hw 177 rfl) (oW hw 178 rfl) (oW hw 179 rfl) (oW hw 180 rfl) (by decide) 1 [(.int (p3 &&& 255))] [(.int ((4 : Int32) + (own_ui (p2 &&& 255))))] (own_ut8 l Z a0 hw [] (p3 &&& 255) T194.heap n0 (Nat.le_trans Z0 K194.1) ) e196  (oB rfl) (oB rfl) (own_needRL IC196 (oB rfl)) (own_needRL IS196 (oB rfl)) (g := (mkF m 195 (oL p1 p2 p3 p4 q5 p6 b1 b4 b8 b10 b19 (oI 1) (oR b19) (oI 1) .unset) [(.int (p3 &&& 255)), (.int ((4 : Int32) + (own_ui (p2 &&& 255))))])) rfl (by rw [hml]; rfl) own_pd33 rfl rfl (by show 2 * 0 + _ ≤ _; exact Nat.le_of_eq rfl) (hb hby at_195) ?_
     intro T197 v197 L197 X197 hQ197
     obtain ⟨rfl, N197q, e197⟩ := hQ197
     have N197 := Fr.app N196 N197q
     have IC197 := own_accL 0 IC196
     have IS197 := own_accL 0 IS196
     refine oS (fun t k => XS.iadd X197.here hx rfl (hb hby at_198) rfl k) ?_
     refine oS (fun t k => XS.lload X197.here hx rfl (hb hby at_199) rfl k) ?_
     refine oS (fun t k => XS.lconst X197.here hx rfl (hb hby at_201) k) ?_
     show oG _ _ _ _ T197 (mkF m 202 (oL p1 p2 p3 p4 q5 p6 b1 b4 b8 b10 b19 (oI 1) (oR b19) (oI 1) .unset) [(.long (0 : Int64)), (.long q5), (.int (((4 : Int32) + (own_ui (p2 &&& 255))) + (own_ui (p3 &&& 255))))])
     refine oS (fun t k => XS.lcmp X197.here hx rfl (hb hby at_202) rfl k) ?_
     refine own_join (fun r198 => own_d q5 = r198.toInt) (fun r198 => (mkF m 212 (oL p1 p2 p3 p4 q5 p6 b1 b4 b8 b10 b19 (oI 1) (oR b19) (oI 1) .unset) [.int r198, (.int (((4 : Int32) + (own_ui (p2 &&& 255))) + (own_ui (p3 &&& 255))))])) ?_ ?_
     · intro r198 hr198
       show oG _ _ _ _ T197 (mkF m 212 (oL p1 p2 p3 p4 q5 p6 b1 b4 b8 b10 b19 (oI 1) (oR b19) (oI 1) .unset) [.int r198, (.int (((4 : Int32) + (own_ui (p2 &&& 255))) + (own_ui (p3 &&& 255))))])
       refine oS (fun t k => XS.iadd X197.here hx rfl (hb hby at_212) rfl k) ?_
       refine oS (fun t k => XS.iconst X197.here hx rfl (hb hby at_213) k) ?_
       refine oS (fun t k => XS.iadd X197.here hx rfl (hb hby at_214) rfl k) ?_
       refine oS (fun t k => XS.iconst X197.here hx rfl (hb hby at_215) k) ?_
       refine oS (fun t k => XS.iload X197.here hx rfl (hb hby at_216) rfl k) ?_
       refine oS (fun t k => XS.imul X197.here hx rfl (hb hby at_218) rfl k) ?_
       refine oS (fun t k => XS.iadd X197.here hx rfl (hb hby at_219) rfl k) ?_
       refine oS (fun t k => XS.istore X197.here hx rfl (hb hby at_220) rfl (l' := (oL p1 p2 p3 p4 q5 p6 b1 b4 b8 b10 b19 (oI 1) (oR b19) (oI 1) (oI ((((((4 : Int32) + (own_ui (p2 &&& 255))) + (own_ui (p3 &&& 255))) + r198) + (4 : Int32)) + ((4 : Int32) * (p4 &&& 3)))))) rfl k) ?_
       refine oS (fun t k => XS.iload X197.here hx rfl (hb hby at_222) rfl k) ?_
       show oG _ _ _ _ T197 (mkF m 224 (oL p1 p2 p3 p4 q5 p6 b1 b4 b8 b10 b19 (oI 1) (oR b19) (oI 1) (oI ((((((4 : Int32) + (own_ui (p2 &&& 255))) + (own_ui (p3 &&& 255))) + r198) + (4 : Int32)) + ((4 : Int32) * (p4 &&& 3))))) [.int 1])
       refine oS (fun t k => XS.ifNo X197.here hx rfl (hb hby at_224) rfl ((if0 _ _).trans (feq (show ¬ ((1 : Int32) = (0 : Int32)) from (by decide))).1) k) ?_
       refine oS (fun t k => XS.aload X197.here hx rfl (hb hby at_227) rfl rfl k) ?_
       show oG _ _ _ _ T197 (mkF m 229 (oL p1 p2 p3 p4 q5 p6 b1 b4 b8 b10 b19 (oI 1) (oR b19) (oI 1) (oI ((((((4 : Int32) + (own_ui (p2 &&& 255))) + (own_ui (p3 &&& 255))) + r198) + (4 : Int32)) + ((4 : Int32) * (p4 &&& 3))))) [.ref b19])
       have A19_v200 := (A19_v175.keep Kq194)
       refine own_callV X197 hx hZ (y := oy9) (z := oy9) hown (oW hw 90 rfl) (oW hw 91 rfl) (notFace_of_selects (args := #[]) (mvT hZ (oW hw 93 rfl))) (oW hw 93 rfl) (oW hw 92 rfl) (oW hw 94 rfl) (oW hw 57 rfl) (by decide) 0 A19_v200 [] [] (own_cnt l Z a0 hw [] b19 ((0 : Int32) + (1 : Int32)) T194.heap n0 (Nat.le_trans Z0 K194.1) y194_0) e197  (oB rfl) (oB rfl) (own_needRL IC197 (oB rfl)) (own_needRL IS197 (oB rfl)) (g := (mkF m 229 (oL p1 p2 p3 p4 q5 p6 b1 b4 b8 b10 b19 (oI 1) (oR b19) (oI 1) (oI ((((((4 : Int32) + (own_ui (p2 &&& 255))) + (own_ui (p3 &&& 255))) + r198) + (4 : Int32)) + ((4 : Int32) * (p4 &&& 3))))) [.ref b19])) rfl (by rw [hml]; rfl) own_pd17 rfl rfl (by show 2 * 0 + _ ≤ _; exact Nat.le_of_eq rfl) (hb hby at_229) ?_
       intro T199 v199 L199 X199 hQ199
       obtain ⟨rfl, N199q, e199⟩ := hQ199
       have N199 := Fr.app N197 N199q
       have IC199 := own_accL 0 IC197
       have IS199 := own_accL 0 IS197
       refine oS (fun t k => XS.iconst X199.here hx rfl (hb hby at_232) k) ?_
       show oG _ _ _ _ T199 (mkF m 233 (oL p1 p2 p3 p4 q5 p6 b1 b4 b8 b10 b19 (oI 1) (oR b19) (oI 1) (oI ((((((4 : Int32) + (own_ui (p2 &&& 255))) + (own_ui (p3 &&& 255))) + r198) + (4 : Int32)) + ((4 : Int32) * (p4 &&& 3))))) [.int 1, (.int ((0 : Int32) + (1 : Int32)))])
       refine oS (fun t k => XS.icmpNo X199.here hx rfl (hb hby at_233) rfl (teq (show ((0 : Int32) + (1 : Int32)) = (1 : Int32) from (by decide))).2 k) ?_
       refine oS (fun t k => XS.aload X199.here hx rfl (hb hby at_236) rfl rfl k) ?_
       show oG _ _ _ _ T199 (mkF m 238 (oL p1 p2 p3 p4 q5 p6 b1 b4 b8 b10 b19 (oI 1) (oR b19) (oI 1) (oI ((((((4 : Int32) + (own_ui (p2 &&& 255))) + (own_ui (p3 &&& 255))) + r198) + (4 : Int32)) + ((4 : Int32) * (p4 &&& 3))))) [.ref b19])
       have q25_2'_v201 := (q25_2'_v176.keep Kq194)
       refine own_callV X199 hx hZ (y := oy7) (z := oy7) hown (oW hw 95 rfl) (oW hw 96 rfl) (notFace_of_selects (args := #[]) (mvT hZ (oW hw 98 rfl))) (oW hw 98 rfl) (oW hw 97 rfl) (oW hw 99 rfl) (oW hw 57 rfl) (by decide) 0 A19_v200 [] [] (own_byt l Z a0 hw [] b19 b25_0 z194 T194.heap n0 (Nat.le_trans Z0 K194.1) y194_1 q25_2'_v201 q194_0) e199  (oB rfl) (oB rfl) (own_needRL IC199 (oB rfl)) (own_needRL IS199 (oB rfl)) (g := (mkF m 238 (oL p1 p2 p3 p4 q5 p6 b1 b4 b8 b10 b19 (oI 1) (oR b19) (oI 1) (oI ((((((4 : Int32) + (own_ui (p2 &&& 255))) + (own_ui (p3 &&& 255))) + r198) + (4 : Int32)) + ((4 : Int32) * (p4 &&& 3))))) [.ref b19])) rfl (by rw [hml]; rfl) own_pd17 rfl rfl (by show 2 * 0 + _ ≤ _; exact Nat.le_of_eq rfl) (hb hby at_238) ?_
       intro T202 v202 L202 X202 hQ202
       obtain ⟨rfl, N202q, e202⟩ := hQ202
       have N202 := Fr.app N199 N202q
       have IC202 := own_accL 0 IC199
       have IS202 := own_accL 0 IS199
       refine oS (fun t k => XS.iload X202.here hx rfl (hb hby at_241) rfl k) ?_
       show oG _ _ _ _ T202 (mkF m 243 (oL p1 p2 p3 p4 q5 p6 b1 b4 b8 b10 b19 (oI 1) (oR b19) (oI 1) (oI ((((((4 : Int32) + (own_ui (p2 &&& 255))) + (own_ui (p3 &&& 255))) + r198) + (4 : Int32)) + ((4 : Int32) * (p4 &&& 3))))) [(.int ((((((4 : Int32) + (own_ui (p2 &&& 255))) + (own_ui (p3 &&& 255))) + r198) + (4 : Int32)) + ((4 : Int32) * (p4 &&& 3)))), .int z194])
       refine oS (fun t k => XS.icmpNo X202.here hx rfl (hb hby at_243) rfl (teq (show z194 = ((((((4 : Int32) + (own_ui (p2 &&& 255))) + (own_ui (p3 &&& 255))) + r198) + (4 : Int32)) + ((4 : Int32) * (p4 &&& 3))) from (own_exp sq194 hr198 tn))).2 k) ?_
       refine oS (fun t k => XS.iconst X202.here hx rfl (hb hby at_246) k) ?_
       refine oS (fun t k => XS.goto X202.here hx rfl (pc0 := 247) (pc' := 251) rfl (hb hby at_247) (by decide) (by decide) k) ?_
       show oG _ _ _ _ T202 (mkF m 251 (oL p1 p2 p3 p4 q5 p6 b1 b4 b8 b10 b19 (oI 1) (oR b19) (oI 1) (oI ((((((4 : Int32) + (own_ui (p2 &&& 255))) + (own_ui (p3 &&& 255))) + r198) + (4 : Int32)) + ((4 : Int32) * (p4 &&& 3))))) [.int 1])
       exact own_retN X202 hx hlk (t := .boolean) hrt (by simp) (hb hby at_251) ⟨rfl, N202⟩ (own_finR IC202 (oB rfl)) (own_finR IS202 (oB rfl))
     · intro tail198
       by_cases hc203_203 : (lcmpW q5 (0 : Int64)) = (0 : Int32)
       · refine oS (fun t k => XS.ifYes X197.here hx rfl (pc0 := 203) (pc' := 211) rfl (hb hby at_203) rfl ((if0 _ _).trans (teq (show (lcmpW q5 (0 : Int64)) = (0 : Int32) from hc203_203)).1) (by decide) (by decide) k) ?_
         refine oS (fun t k => XS.iconst X197.here hx rfl (hb hby at_211) k) ?_
         exact tail198 _ ((own_d0 hc203_203).trans (by decide))
       · refine oS (fun t k => XS.ifNo X197.here hx rfl (hb hby at_203) rfl ((if0 _ _).trans (feq (show ¬ ((lcmpW q5 (0 : Int64)) = (0 : Int32)) from hc203_203)).1) k) ?_
         refine oS (fun t k => XS.bipush X197.here hx rfl (hb hby at_206) k) ?_
         refine oS (fun t k => XS.goto X197.here hx rfl (pc0 := 208) (pc' := 212) rfl (hb hby at_208) (by decide) (by decide) k) ?_
         exact tail198 _ ((own_d1 hc203_203).trans (by decide))
 · rw [hi]
   show oG _ _ _ _ T25 (mkF m 83 (oL p1 p2 p3 p4 q5 p6 b1 b4 b8 b10 b19 .unset .unset .unset .unset) [.int 2])
   refine oS (fun t k => XS.istore X25.here hx rfl (hb hby at_83) rfl (l' := (oL p1 p2 p3 p4 q5 p6 b1 b4 b8 b10 b19 (oI 2) .unset .unset .unset)) rfl k) ?_
   refine oS (fun t k => XS.iload X25.here hx rfl (hb hby at_85) rfl k) ?_
   refine oS (fun t k => XS.iconst X25.here hx rfl (hb hby at_87) k) ?_
   show oG _ _ _ _ T25 (mkF m 88 (oL p1 p2 p3 p4 q5 p6 b1 b4 b8 b10 b19 (oI 2) .unset .unset .unset) [.int 1, .int 2])
   refine oS (fun t k => XS.icmpNo X25.here hx rfl (hb hby at_88) rfl (flt (show ¬ ((2 : Int32) < (1 : Int32)) from (by decide))).1 k) ?_
   refine oS (fun t k => XS.aload X25.here hx rfl (hb hby at_91) rfl rfl k) ?_
   refine oS (fun t k => XS.aload X25.here hx rfl (hb hby at_93) rfl rfl k) ?_
   show oG _ _ _ _ T25 (mkF m 95 (oL p1 p2 p3 p4 q5 p6 b1 b4 b8 b10 b19 (oI 2) .unset .unset .unset) [.ref b10, .ref b19])
   have hS204 : own_St (64 : Int32) (0 : Int32) 0 := ⟨(Or.inl rfl), tz, by omega, by omega⟩
   have hN204 : 0 + ((4 + own_u (p2 &&& 255) + own_u (p3 &&& 255)) + (own_d q5 + 4 + 4 * (p4 &&& 3).toInt)) ≤ 128 := by omega
   have A19_v205 := (A19.keep Kq25)
   have A10_v206 := (A10_v30.keep Kq25)
   have q14_0'_v207 := ((q14_0'.ext E19).keep Kq25 (ninS ne_b10_b19 nin0))
   have q14_2'_v208 := ((q14_2'.ext E19).keep Kq25 (ninS ne_b10_b19 nin0))
   have q14_3'_v209 := ((q14_3'.ext E19).keep Kq25 (ninS ne_b10_b19 nin0))
   have q14_1'_v210 := ((q14_1'.ext E19).keep Kq25 (ninS ne_b10_b19 nin0))
   have q7_0'_v211 := (q7_0'_v27.keep Kq25)
   have q7_1'_v212 := (((((q7_1'.ext E8).ext E10).keep Kq14 (ninS ne_b4_b10 nin0)).ext E19).keep Kq25 (ninS ne_b4_b19 nin0))
   have q7_2'_v213 := (((((q7_2'.ext E8).ext E10).keep Kq14 (ninS ne_b4_b10 nin0)).ext E19).keep Kq25 (ninS ne_b4_b19 nin0))
   have q7_3'_v214 := (q7_3'_v28.keep Kq25 (ninS ne_b7_0_b19 nin0))
   have V_b8_v215 := (V_b8_v29.keep Kq25 (ninS ne_b8_b19 nin0))
   have S_C_v216 := (own_staKeep ((own_staKeep (((own_staKeep S_C_v6 Kq7 (allS (own_plainE A4) all0)).ext E8).ext E10) Kq14 (allS (own_plainE A10) all0)).ext E19) Kq25 (allS (own_plainE A19) all0))
   have S_I_v217 := (own_staKeep ((own_staKeep (((own_staKeep ((((S_I.ext E1).wr W2).wr W3).ext E4) Kq7 (allS (own_plainE A4) all0)).ext E8).ext E10) Kq14 (allS (own_plainE A10) all0)).ext E19) Kq25 (allS (own_plainE A19) all0))
   have S_U_v218 := (own_staKeep ((own_staKeep (((own_staKeep ((((S_U.ext E1).wr W2).wr W3).ext E4) Kq7 (allS (own_plainE A4) all0)).ext E8).ext E10) Kq14 (allS (own_plainE A10) all0)).ext E19) Kq25 (allS (own_plainE A19) all0))
   have S_F_v219 := (own_staKeep ((own_staKeep (((own_staKeep ((((S_F.ext E1).wr W2).wr W3).ext E4) Kq7 (allS (own_plainE A4) all0)).ext E8).ext E10) Kq14 (allS (own_plainE A10) all0)).ext E19) Kq25 (allS (own_plainE A19) all0))
   refine own_callVX X25 hx hZ (y := oy6) (z := oy6) hown (oW hw 105 rfl) (oW hw 106 rfl) (notFace_of_selects (args := #[]) (mvT hZ (oW hw 108 rfl))) (oW hw 108 rfl) (oW hw 107 rfl) (oW hw 109 rfl) (oW hw 57 rfl) (by decide) 0 A19_v205 [.ref b10] [] (own_add l Z a0 hw [] b25_0 b25_1 k25_0 64 0 0 b19 0 b10 b8 k8 q5 (p4 &&& 3) b4 u8 b7_0 k7_0 (p2 &&& 255) (p3 &&& 255) zc fm T25.heap n0 (Nat.le_trans Z0 K25.1) q25_0' q25_2' q25_4' q25_3' q25_5' A19_v205 q25_1' A10_v206 q14_0'_v207 q14_2'_v208 q14_3'_v209 q14_1'_v210 q7_0'_v211 q7_1'_v212 q7_2'_v213 q7_3'_v214 V_b8_v215 S_C_v216 S_I_v217 S_U_v218 S_F_v219 hS204 hN204 g_b25_0 g_b25_1 ne_b25_0_b25_1 (own_m255 p2).1 (own_m255 p2).2 (own_m255 p3).1 (own_m255 p3).2 hz rG (own_n3 p4).2.2.1 g_b19 ne_b4_b25_0 ne_b4_b25_1 ne_b7_0_b25_0 ne_b7_0_b25_1 ne_b10_b25_0 ne_b10_b25_1 ne_b8_b25_0 ne_b8_b25_1 ne_b19_b25_0 ne_b19_b25_1) rfl  (oB rfl) (oB rfl) (own_needR IC0 (oB rfl)) (own_needR IS0 (oB rfl)) (g := (mkF m 95 (oL p1 p2 p3 p4 q5 p6 b1 b4 b8 b10 b19 (oI 2) .unset .unset .unset) [.ref b10, .ref b19])) rfl (by rw [hml]; rfl) own_pd32 rfl rfl (by show 2 * 0 + _ ≤ _; exact Nat.le_of_eq rfl) (hb hby at_95) ?_
   intro T220 v220 L220 xc220 xs220 X220 hQ220
   have V3'_v221 := (V3'_v26.keep Kq25 (ninS ne_b1_b19 nin0))
   obtain ⟨b220_0, k220_0, cp220, z220, rfl, N220q, Kq220, zq220, hT220, hkC220, hkS220, q220_0, q220_1, q220_2, y220_0, y220_1⟩ := hQ220
   obtain ⟨sc220, sq220, sl220, su220⟩ := hT220
   have N220 := Fr.app N25 N220q
   have K220 := K25.trans Kq220 (allS (Or.inr sz_b19) (allS (Or.inr sz_b25_0) (allS (Or.inr sz_b25_1) all0)))
   have g_b220_0 : n0 ≤ b220_0 := own_sz2 zq220 g_b25_1 (Nat.le_trans Z0 K25.1)
   have sz_b220_0 : h0.size ≤ b220_0 := own_sz2 zq220 sz_b25_1 K25.1
   have ne_b1_b220_0 : b1 ≠ b220_0 := own_ne2 ne_b1_b25_1 V3'_v221.lt zq220
   have ne_b4_b220_0 : b4 ≠ b220_0 := own_ne2 ne_b4_b25_1 q7_0'_v211.lt zq220
   have ne_b7_0_b220_0 : b7_0 ≠ b220_0 := own_ne2 ne_b7_0_b25_1 q7_3'_v214.lt zq220
   have ne_b8_b220_0 : b8 ≠ b220_0 := own_ne2 ne_b8_b25_1 V_b8_v215.lt zq220
   have ne_b10_b220_0 : b10 ≠ b220_0 := own_ne2 ne_b10_b25_1 A10_v206.lt zq220
   have ne_b19_b220_0 : b19 ≠ b220_0 := own_ne2 ne_b19_b25_1 A19_v205.lt zq220
   have ne_b25_0_b220_0 : b25_0 ≠ b220_0 := own_ne2 ne_b25_0_b25_1 q25_2'.lt zq220
   have IC220 := own_acc IC0 hkC220
   have IS220 := own_acc IS0 hkS220
   refine oS (fun t k => XS.pop X220.here hx rfl (hb hby at_98) rfl rfl k) ?_
   refine oS (fun t k => XS.iload X220.here hx rfl (hb hby at_99) rfl k) ?_
   refine oS (fun t k => XS.iconst X220.here hx rfl (hb hby at_101) k) ?_
   show oG _ _ _ _ T220 (mkF m 102 (oL p1 p2 p3 p4 q5 p6 b1 b4 b8 b10 b19 (oI 2) .unset .unset .unset) [.int 2, .int 2])
   refine oS (fun t k => XS.icmpNo X220.here hx rfl (hb hby at_102) rfl (flt (show ¬ ((2 : Int32) < (2 : Int32)) from (by decide))).1 k) ?_
   refine oS (fun t k => XS.aload X220.here hx rfl (hb hby at_105) rfl rfl k) ?_
   refine oS (fun t k => XS.aload X220.here hx rfl (hb hby at_107) rfl rfl k) ?_
   show oG _ _ _ _ T220 (mkF m 109 (oL p1 p2 p3 p4 q5 p6 b1 b4 b8 b10 b19 (oI 2) .unset .unset .unset) [.ref b10, .ref b19])
   have hS222 : own_St cp220 z220 (0 + ((4 + own_u (p2 &&& 255) + own_u (p3 &&& 255)) + (own_d q5 + 4 + 4 * (p4 &&& 3).toInt))) := ⟨sc220, sq220, by omega, by omega⟩
   have hN222 : (0 + ((4 + own_u (p2 &&& 255) + own_u (p3 &&& 255)) + (own_d q5 + 4 + 4 * (p4 &&& 3).toInt))) + ((4 + own_u (p2 &&& 255) + own_u (p3 &&& 255)) + (own_d q5 + 4 + 4 * (p4 &&& 3).toInt)) ≤ 128 := by omega
   have q25_2'_v223 := (q25_2'.keep Kq220)
   have A19_v224 := (A19_v205.keep Kq220)
   have A10_v225 := (A10_v206.keep Kq220)
   have q14_0'_v226 := (q14_0'_v207.keep Kq220 (ninS ne_b10_b19 (ninS ne_b10_b25_0 (ninS ne_b10_b25_1 nin0))))
   have q14_2'_v227 := (q14_2'_v208.keep Kq220 (ninS ne_b10_b19 (ninS ne_b10_b25_0 (ninS ne_b10_b25_1 nin0))))
   have q14_3'_v228 := (q14_3'_v209.keep Kq220 (ninS ne_b10_b19 (ninS ne_b10_b25_0 (ninS ne_b10_b25_1 nin0))))
   have q14_1'_v229 := (q14_1'_v210.keep Kq220 (ninS ne_b10_b19 (ninS ne_b10_b25_0 (ninS ne_b10_b25_1 nin0))))
   have q7_0'_v230 := (q7_0'_v211.keep Kq220)
   have q7_1'_v231 := (q7_1'_v212.keep Kq220 (ninS ne_b4_b19 (ninS ne_b4_b25_0 (ninS ne_b4_b25_1 nin0))))
   have q7_2'_v232 := (q7_2'_v213.keep Kq220 (ninS ne_b4_b19 (ninS ne_b4_b25_0 (ninS ne_b4_b25_1 nin0))))
   have q7_3'_v233 := (q7_3'_v214.keep Kq220 (ninS ne_b7_0_b19 (ninS ne_b7_0_b25_0 (ninS ne_b7_0_b25_1 nin0))))
   have V_b8_v234 := (V_b8_v215.keep Kq220 (ninS ne_b8_b19 (ninS ne_b8_b25_0 (ninS ne_b8_b25_1 nin0))))
   have S_C_v235 := (own_staKeep S_C_v216 Kq220 (allS (own_plainE A19_v205) (allS (own_plainE q25_2') (allS (own_plainB q25_5') all0))))
   have S_I_v236 := (own_staKeep S_I_v217 Kq220 (allS (own_plainE A19_v205) (allS (own_plainE q25_2') (allS (own_plainB q25_5') all0))))
   have S_U_v237 := (own_staKeep S_U_v218 Kq220 (allS (own_plainE A19_v205) (allS (own_plainE q25_2') (allS (own_plainB q25_5') all0))))
   have S_F_v238 := (own_staKeep S_F_v219 Kq220 (allS (own_plainE A19_v205) (allS (own_plainE q25_2') (allS (own_plainB q25_5') all0))))
   refine own_callVX X220 hx hZ (y := oy6) (z := oy6) hown (oW hw 105 rfl) (oW hw 106 rfl) (notFace_of_selects (args := #[]) (mvT hZ (oW hw 108 rfl))) (oW hw 108 rfl) (oW hw 107 rfl) (oW hw 109 rfl) (oW hw 57 rfl) (by decide) 0 A19_v224 [.ref b10] [] (own_add l Z a0 hw [] b25_0 b220_0 k220_0 cp220 z220 (0 + ((4 + own_u (p2 &&& 255) + own_u (p3 &&& 255)) + (own_d q5 + 4 + 4 * (p4 &&& 3).toInt))) b19 ((0 : Int32) + (1 : Int32)) b10 b8 k8 q5 (p4 &&& 3) b4 u8 b7_0 k7_0 (p2 &&& 255) (p3 &&& 255) zc fm T220.heap n0 (Nat.le_trans Z0 K220.1) y220_1 q25_2'_v223 q220_0 q220_1 q220_2 A19_v224 y220_0 A10_v225 q14_0'_v226 q14_2'_v227 q14_3'_v228 q14_1'_v229 q7_0'_v230 q7_1'_v231 q7_2'_v232 q7_3'_v233 V_b8_v234 S_C_v235 S_I_v236 S_U_v237 S_F_v238 hS222 hN222 g_b25_0 g_b220_0 ne_b25_0_b220_0 (own_m255 p2).1 (own_m255 p2).2 (own_m255 p3).1 (own_m255 p3).2 hz rG (own_n3 p4).2.2.1 g_b19 ne_b4_b25_0 ne_b4_b220_0 ne_b7_0_b25_0 ne_b7_0_b220_0 ne_b10_b25_0 ne_b10_b220_0 ne_b8_b25_0 ne_b8_b220_0 ne_b19_b25_0 ne_b19_b220_0) rfl  (oB rfl) (oB rfl) (own_needR IC220 (oB rfl)) (own_needR IS220 (oB rfl)) (g := (mkF m 109 (oL p1 p2 p3 p4 q5 p6 b1 b4 b8 b10 b19 (oI 2) .unset .unset .unset) [.ref b10, .ref b19])) rfl (by rw [hml]; rfl) own_pd32 rfl rfl (by show 2 * 0 + _ ≤ _; exact Nat.le_of_eq rfl) (hb hby at_109) ?_
   intro T239 v239 L239 xc239 xs239 X239 hQ239
   have V3'_v240 := (V3'_v221.keep Kq220 (ninS ne_b1_b19 (ninS ne_b1_b25_0 (ninS ne_b1_b25_1 nin0))))
   obtain ⟨b239_0, k239_0, cp239, z239, rfl, N239q, Kq239, zq239, hT239, hkC239, hkS239, q239_0, q239_1, q239_2, y239_0, y239_1⟩ := hQ239
   obtain ⟨sc239, sq239, sl239, su239⟩ := hT239
   have N239 := Fr.app N220 N239q
   have K239 := K220.trans Kq239 (allS (Or.inr sz_b19) (allS (Or.inr sz_b25_0) (allS (Or.inr sz_b220_0) all0)))
   have g_b239_0 : n0 ≤ b239_0 := own_sz2 zq239 g_b220_0 (Nat.le_trans Z0 K220.1)
   have sz_b239_0 : h0.size ≤ b239_0 := own_sz2 zq239 sz_b220_0 K220.1
   have ne_b1_b239_0 : b1 ≠ b239_0 := own_ne2 ne_b1_b220_0 V3'_v240.lt zq239
   have ne_b4_b239_0 : b4 ≠ b239_0 := own_ne2 ne_b4_b220_0 q7_0'_v230.lt zq239
   have ne_b7_0_b239_0 : b7_0 ≠ b239_0 := own_ne2 ne_b7_0_b220_0 q7_3'_v233.lt zq239
   have ne_b8_b239_0 : b8 ≠ b239_0 := own_ne2 ne_b8_b220_0 V_b8_v234.lt zq239
   have ne_b10_b239_0 : b10 ≠ b239_0 := own_ne2 ne_b10_b220_0 A10_v225.lt zq239
   have ne_b19_b239_0 : b19 ≠ b239_0 := own_ne2 ne_b19_b220_0 A19_v224.lt zq239
   have ne_b25_0_b239_0 : b25_0 ≠ b239_0 := own_ne2 ne_b25_0_b220_0 q25_2'_v223.lt zq239
   have IC239 := own_acc IC220 hkC239
   have IS239 := own_acc IS220 hkS239
   refine oS (fun t k => XS.pop X239.here hx rfl (hb hby at_112) rfl rfl k) ?_
   refine oS (fun t k => XS.iload X239.here hx rfl (hb hby at_113) rfl k) ?_
   refine oS (fun t k => XS.iconst X239.here hx rfl (hb hby at_115) k) ?_
   show oG _ _ _ _ T239 (mkF m 116 (oL p1 p2 p3 p4 q5 p6 b1 b4 b8 b10 b19 (oI 2) .unset .unset .unset) [.int 3, .int 2])
   refine oS (fun t k => XS.icmpYes X239.here hx rfl (pc0 := 116) (pc' := 127) rfl (hb hby at_116) rfl (tlt (show (2 : Int32) < (3 : Int32) from (by decide))).1 (by decide) (by decide) k) ?_
   refine oS (fun t k => XS.aload X239.here hx rfl (hb hby at_127) rfl rfl k) ?_
   show oG _ _ _ _ T239 (mkF m 129 (oL p1 p2 p3 p4 q5 p6 b1 b4 b8 b10 b19 (oI 2) .unset .unset .unset) [.ref b19])
   have A19_v241 := (A19_v224.keep Kq239)
   have q25_2'_v242 := (q25_2'_v223.keep Kq239)
   refine own_callV X239 hx hZ (y := oy8) (z := oy8) hown (oW hw 76 rfl) (oW hw 77 rfl) (notFace_of_selects (args := #[]) (mvT hZ (oW hw 79 rfl))) (oW hw 79 rfl) (oW hw 78 rfl) (oW hw 80 rfl) (oW hw 57 rfl) (by decide) 0 A19_v241 [] [] (own_clr l Z a0 hw [] b19 b25_0 (((0 : Int32) + (1 : Int32)) + (1 : Int32)) z239 b239_0 T239.heap n0 (Nat.le_trans Z0 K239.1) A19_v241 y239_1 y239_0 q25_2'_v242 q239_0 q239_1 g_b19 g_b25_0 ne_b19_b25_0) rfl  (oB rfl) (oB rfl) (own_needRL IC239 (oB rfl)) (own_needRL IS239 (oB rfl)) (g := (mkF m 129 (oL p1 p2 p3 p4 q5 p6 b1 b4 b8 b10 b19 (oI 2) .unset .unset .unset) [.ref b19])) rfl (by rw [hml]; rfl) own_pd31 rfl rfl (by show 2 * 0 + _ ≤ _; exact Nat.le_of_eq rfl) (hb hby at_129) ?_
   intro T243 v243 L243 X243 hQ243
   have V3'_v244 := (V3'_v240.keep Kq239 (ninS ne_b1_b19 (ninS ne_b1_b25_0 (ninS ne_b1_b220_0 nin0))))
   have q7_0'_v245 := (q7_0'_v230.keep Kq239)
   have q7_3'_v246 := (q7_3'_v233.keep Kq239 (ninS ne_b7_0_b19 (ninS ne_b7_0_b25_0 (ninS ne_b7_0_b220_0 nin0))))
   have V_b8_v247 := (V_b8_v234.keep Kq239 (ninS ne_b8_b19 (ninS ne_b8_b25_0 (ninS ne_b8_b220_0 nin0))))
   have A10_v248 := (A10_v225.keep Kq239)
   obtain ⟨rfl, N243q, Kq243, q243_0, q243_1, q243_2, q243_3⟩ := hQ243
   have N243 := Fr.app N239 N243q
   have K243 := K239.trans Kq243 (allS (Or.inr sz_b19) (allS (Or.inr sz_b25_0) all0))
   have q243_0' : Fld Z T243.heap b19 "com/example/ringshift/ringshift/data/RowBatch$Builder" "rows" "Lcom/example/ringshift/ringshift/io/BinaryWriter;" (.ref b25_0) := q243_0
   have q243_1' : Fld Z T243.heap b25_0 "com/example/ringshift/ringshift/io/BinaryWriter" "bytes" "[B" (.ref b239_0) := q243_1
   have q243_2' : Fld Z T243.heap b19 "com/example/ringshift/ringshift/data/RowBatch$Builder" "count" "I" (.int 0) := q243_2
   have q243_3' : Fld Z T243.heap b25_0 "com/example/ringshift/ringshift/io/BinaryWriter" "size" "I" (.int 0) := q243_3
   have IC243 := own_accL 0 IC239
   have IS243 := own_accL 0 IS239
   refine oS (fun t k => XS.astore X243.here hx rfl (hb hby at_132) rfl rfl (l' := (oL p1 p2 p3 p4 q5 p6 b1 b4 b8 b10 b19 (oI 2) (oR b19) .unset .unset)) rfl k) ?_
   refine oS (fun t k => XS.iload X243.here hx rfl (hb hby at_134) rfl k) ?_
   refine oS (fun t k => XS.iconst X243.here hx rfl (hb hby at_136) k) ?_
   refine oS (fun t k => XS.iand X243.here hx rfl (hb hby at_137) rfl k) ?_
   show oG _ _ _ _ T243 (mkF m 138 (oL p1 p2 p3 p4 q5 p6 b1 b4 b8 b10 b19 (oI 2) (oR b19) .unset .unset) [(.int (p6 &&& 1))])
   by_cases hc138_249 : (p6 &&& 1) = (0 : Int32)
   · refine oS (fun t k => XS.ifYes X243.here hx rfl (pc0 := 138) (pc' := 148) rfl (hb hby at_138) rfl ((if0 _ _).trans (teq (show (p6 &&& 1) = (0 : Int32) from hc138_249)).1) (by decide) (by decide) k) ?_
     refine oS (fun t k => XS.aload X243.here hx rfl (hb hby at_148) rfl rfl k) ?_
     refine oS (fun t k => XS.aload X243.here hx rfl (hb hby at_150) rfl rfl k) ?_
     show oG _ _ _ _ T243 (mkF m 152 (oL p1 p2 p3 p4 q5 p6 b1 b4 b8 b10 b19 (oI 2) (oR b19) .unset .unset) [.ref b19, .ref b19])
     refine oS (fun t k => Jvm.RoadKit.acmp (g := (mkF m 152 (oL p1 p2 p3 p4 q5 p6 b1 b4 b8 b10 b19 (oI 2) (oR b19) .unset .unset) [.ref b19, .ref b19])) X243 hx rfl rfl rfl (pc0 := 152) (pc' := 155) (same := true) rfl (hb hby at_152) rfl (decide_eq_true rfl) (by decide) (by decide) k) ?_
     refine oS (fun t k => XS.aload X243.here hx rfl (hb hby at_155) rfl rfl k) ?_
     show oG _ _ _ _ T243 (mkF m 157 (oL p1 p2 p3 p4 q5 p6 b1 b4 b8 b10 b19 (oI 2) (oR b19) .unset .unset) [.ref b19])
     have A19_v251 := (A19_v241.keep Kq243)
     refine own_callV X243 hx hZ (y := oy9) (z := oy9) hown (oW hw 90 rfl) (oW hw 91 rfl) (notFace_of_selects (args := #[]) (mvT hZ (oW hw 93 rfl))) (oW hw 93 rfl) (oW hw 92 rfl) (oW hw 94 rfl) (oW hw 57 rfl) (by decide) 0 A19_v251 [] [] (own_cnt l Z a0 hw [] b19 0 T243.heap n0 (Nat.le_trans Z0 K243.1) q243_2') rfl  (oB rfl) (oB rfl) (own_needRL IC243 (oB rfl)) (own_needRL IS243 (oB rfl)) (g := (mkF m 157 (oL p1 p2 p3 p4 q5 p6 b1 b4 b8 b10 b19 (oI 2) (oR b19) .unset .unset) [.ref b19])) rfl (by rw [hml]; rfl) own_pd17 rfl rfl (by show 2 * 0 + _ ≤ _; exact Nat.le_of_eq rfl) (hb hby at_157) ?_
     intro T250 v250 L250 X250 hQ250
     obtain ⟨rfl, N250q, e250⟩ := hQ250
     have N250 := Fr.app N243 N250q
     have IC250 := own_accL 0 IC243
     have IS250 := own_accL 0 IS243
     show oG _ _ _ _ T250 (mkF m 160 (oL p1 p2 p3 p4 q5 p6 b1 b4 b8 b10 b19 (oI 2) (oR b19) .unset .unset) [.int 0])
     refine oS (fun t k => XS.ifNo X250.here hx rfl (hb hby at_160) rfl ((if0 _ _).trans (teq (show (0 : Int32) = (0 : Int32) from (by decide))).2) k) ?_
     refine oS (fun t k => XS.aload X250.here hx rfl (hb hby at_163) rfl rfl k) ?_
     show oG _ _ _ _ T250 (mkF m 165 (oL p1 p2 p3 p4 q5 p6 b1 b4 b8 b10 b19 (oI 2) (oR b19) .unset .unset) [.ref b19])
     have q25_2'_v252 := (q25_2'_v242.keep Kq243)
     refine own_callV X250 hx hZ (y := oy7) (z := oy7) hown (oW hw 95 rfl) (oW hw 96 rfl) (notFace_of_selects (args := #[]) (mvT hZ (oW hw 98 rfl))) (oW hw 98 rfl) (oW hw 97 rfl) (oW hw 99 rfl) (oW hw 57 rfl) (by decide) 0 A19_v251 [] [] (own_byt l Z a0 hw [] b19 b25_0 0 T243.heap n0 (Nat.le_trans Z0 K243.1) q243_0' q25_2'_v252 q243_3') e250  (oB rfl) (oB rfl) (own_needRL IC250 (oB rfl)) (own_needRL IS250 (oB rfl)) (g := (mkF m 165 (oL p1 p2 p3 p4 q5 p6 b1 b4 b8 b10 b19 (oI 2) (oR b19) .unset .unset) [.ref b19])) rfl (by rw [hml]; rfl) own_pd17 rfl rfl (by show 2 * 0 + _ ≤ _; exact Nat.le_of_eq rfl) (hb hby at_165) ?_
     intro T253 v253 L253 X253 hQ253
     obtain ⟨rfl, N253q, e253⟩ := hQ253
     have N253 := Fr.app N250 N253q
     have IC253 := own_accL 0 IC250
     have IS253 := own_accL 0 IS250
     show oG _ _ _ _ T253 (mkF m 168 (oL p1 p2 p3 p4 q5 p6 b1 b4 b8 b10 b19 (oI 2) (oR b19) .unset .unset) [.int 0])
     refine oS (fun t k => XS.ifNo X253.here hx rfl (hb hby at_168) rfl ((if0 _ _).trans (teq (show (0 : Int32) = (0 : Int32) from (by decide))).2) k) ?_
     refine oS (fun t k => XS.iconst X253.here hx rfl (hb hby at_171) k) ?_
     refine oS (fun t k => XS.goto X253.here hx rfl (pc0 := 172) (pc' := 176) rfl (hb hby at_172) (by decide) (by decide) k) ?_
     refine oS (fun t k => XS.istore X253.here hx rfl (hb hby at_176) rfl (l' := (oL p1 p2 p3 p4 q5 p6 b1 b4 b8 b10 b19 (oI 2) (oR b19) (oI 1) .unset)) rfl k) ?_
     refine oS (fun t k => XS.aload X253.here hx rfl (hb hby at_178) rfl rfl k) ?_
     refine oS (fun t k => XS.aload X253.here hx rfl (hb hby at_180) rfl rfl k) ?_
     show oG _ _ _ _ T253 (mkF m 182 (oL p1 p2 p3 p4 q5 p6 b1 b4 b8 b10 b19 (oI 2) (oR b19) (oI 1) .unset) [.ref b10, .ref b19])
     have hS254 : own_St cp239 (0 : Int32) 0 := ⟨sc239, tz, by omega, by omega⟩
     have hN254 : 0 + ((4 + own_u (p2 &&& 255) + own_u (p3 &&& 255)) + (own_d q5 + 4 + 4 * (p4 &&& 3).toInt)) ≤ 128 := by omega
     have q239_2_v255 := (q239_2.keep Kq243 (ninS (Ne.symm ne_b19_b239_0) (ninS (Ne.symm ne_b25_0_b239_0) nin0)))
     have A10_v256 := (A10_v248.keep Kq243)
     have q14_0'_v257 := ((q14_0'_v226.keep Kq239 (ninS ne_b10_b19 (ninS ne_b10_b25_0 (ninS ne_b10_b220_0 nin0)))).keep Kq243 (ninS ne_b10_b19 (ninS ne_b10_b25_0 nin0)))
     have q14_2'_v258 := ((q14_2'_v227.keep Kq239 (ninS ne_b10_b19 (ninS ne_b10_b25_0 (ninS ne_b10_b220_0 nin0)))).keep Kq243 (ninS ne_b10_b19 (ninS ne_b10_b25_0 nin0)))
     have q14_3'_v259 := ((q14_3'_v228.keep Kq239 (ninS ne_b10_b19 (ninS ne_b10_b25_0 (ninS ne_b10_b220_0 nin0)))).keep Kq243 (ninS ne_b10_b19 (ninS ne_b10_b25_0 nin0)))
     have q14_1'_v260 := ((q14_1'_v229.keep Kq239 (ninS ne_b10_b19 (ninS ne_b10_b25_0 (ninS ne_b10_b220_0 nin0)))).keep Kq243 (ninS ne_b10_b19 (ninS ne_b10_b25_0 nin0)))
     have q7_0'_v261 := (q7_0'_v245.keep Kq243)
     have q7_1'_v262 := ((q7_1'_v231.keep Kq239 (ninS ne_b4_b19 (ninS ne_b4_b25_0 (ninS ne_b4_b220_0 nin0)))).keep Kq243 (ninS ne_b4_b19 (ninS ne_b4_b25_0 nin0)))
     have q7_2'_v263 := ((q7_2'_v232.keep Kq239 (ninS ne_b4_b19 (ninS ne_b4_b25_0 (ninS ne_b4_b220_0 nin0)))).keep Kq243 (ninS ne_b4_b19 (ninS ne_b4_b25_0 nin0)))
     have q7_3'_v264 := (q7_3'_v246.keep Kq243 (ninS ne_b7_0_b19 (ninS ne_b7_0_b25_0 nin0)))
     have V_b8_v265 := (V_b8_v247.keep Kq243 (ninS ne_b8_b19 (ninS ne_b8_b25_0 nin0)))
     have S_C_v266 := (own_staKeep (own_staKeep S_C_v235 Kq239 (allS (own_plainE A19_v224) (allS (own_plainE q25_2'_v223) (allS (own_plainB q220_2) all0)))) Kq243 (allS (own_plainE A19_v241) (allS (own_plainE q25_2'_v242) all0)))
     have S_I_v267 := (own_staKeep (own_staKeep S_I_v236 Kq239 (allS (own_plainE A19_v224) (allS (own_plainE q25_2'_v223) (allS (own_plainB q220_2) all0)))) Kq243 (allS (own_plainE A19_v241) (allS (own_plainE q25_2'_v242) all0)))
     have S_U_v268 := (own_staKeep (own_staKeep S_U_v237 Kq239 (allS (own_plainE A19_v224) (allS (own_plainE q25_2'_v223) (allS (own_plainB q220_2) all0)))) Kq243 (allS (own_plainE A19_v241) (allS (own_plainE q25_2'_v242) all0)))
     have S_F_v269 := (own_staKeep (own_staKeep S_F_v238 Kq239 (allS (own_plainE A19_v224) (allS (own_plainE q25_2'_v223) (allS (own_plainB q220_2) all0)))) Kq243 (allS (own_plainE A19_v241) (allS (own_plainE q25_2'_v242) all0)))
     refine own_callVX X253 hx hZ (y := oy6) (z := oy6) hown (oW hw 105 rfl) (oW hw 106 rfl) (notFace_of_selects (args := #[]) (mvT hZ (oW hw 108 rfl))) (oW hw 108 rfl) (oW hw 107 rfl) (oW hw 109 rfl) (oW hw 57 rfl) (by decide) 0 A19_v251 [.ref b10] [] (own_add l Z a0 hw [] b25_0 b239_0 k239_0 cp239 0 0 b19 0 b10 b8 k8 q5 (p4 &&& 3) b4 u8 b7_0 k7_0 (p2 &&& 255) (p3 &&& 255) zc fm T243.heap n0 (Nat.le_trans Z0 K243.1) q243_0' q25_2'_v252 q243_3' q243_1' q239_2_v255 A19_v251 q243_2' A10_v256 q14_0'_v257 q14_2'_v258 q14_3'_v259 q14_1'_v260 q7_0'_v261 q7_1'_v262 q7_2'_v263 q7_3'_v264 V_b8_v265 S_C_v266 S_I_v267 S_U_v268 S_F_v269 hS254 hN254 g_b25_0 g_b239_0 ne_b25_0_b239_0 (own_m255 p2).1 (own_m255 p2).2 (own_m255 p3).1 (own_m255 p3).2 hz rG (own_n3 p4).2.2.1 g_b19 ne_b4_b25_0 ne_b4_b239_0 ne_b7_0_b25_0 ne_b7_0_b239_0 ne_b10_b25_0 ne_b10_b239_0 ne_b8_b25_0 ne_b8_b239_0 ne_b19_b25_0 ne_b19_b239_0) e253  (oB rfl) (oB rfl) (own_needR IC253 (oB rfl)) (own_needR IS253 (oB rfl)) (g := (mkF m 182 (oL p1 p2 p3 p4 q5 p6 b1 b4 b8 b10 b19 (oI 2) (oR b19) (oI 1) .unset) [.ref b10, .ref b19])) rfl (by rw [hml]; rfl) own_pd32 rfl rfl (by show 2 * 0 + _ ≤ _; exact Nat.le_of_eq rfl) (hb hby at_182) ?_
     intro T270 v270 L270 xc270 xs270 X270 hQ270
     have V3'_v271 := (V3'_v244.keep Kq243 (ninS ne_b1_b19 (ninS ne_b1_b25_0 nin0)))
     obtain ⟨b270_0, k270_0, cp270, z270, rfl, N270q, Kq270, zq270, hT270, hkC270, hkS270, q270_0, q270_1, q270_2, y270_0, y270_1⟩ := hQ270
     obtain ⟨sc270, sq270, sl270, su270⟩ := hT270
     have N270 := Fr.app N253 N270q
     have K270 := K243.trans Kq270 (allS (Or.inr sz_b19) (allS (Or.inr sz_b25_0) (allS (Or.inr sz_b239_0) all0)))
     have g_b270_0 : n0 ≤ b270_0 := own_sz2 zq270 g_b239_0 (Nat.le_trans Z0 K243.1)
     have sz_b270_0 : h0.size ≤ b270_0 := own_sz2 zq270 sz_b239_0 K243.1
     have ne_b1_b270_0 : b1 ≠ b270_0 := own_ne2 ne_b1_b239_0 V3'_v271.lt zq270
     have ne_b4_b270_0 : b4 ≠ b270_0 := own_ne2 ne_b4_b239_0 q7_0'_v261.lt zq270
     have ne_b7_0_b270_0 : b7_0 ≠ b270_0 := own_ne2 ne_b7_0_b239_0 q7_3'_v264.lt zq270
     have ne_b8_b270_0 : b8 ≠ b270_0 := own_ne2 ne_b8_b239_0 V_b8_v265.lt zq270
     have ne_b10_b270_0 : b10 ≠ b270_0 := own_ne2 ne_b10_b239_0 A10_v256.lt zq270
     have ne_b19_b270_0 : b19 ≠ b270_0 := own_ne2 ne_b19_b239_0 A19_v251.lt zq270
     have ne_b25_0_b270_0 : b25_0 ≠ b270_0 := own_ne2 ne_b25_0_b239_0 q25_2'_v252.lt zq270
     have IC270 := own_acc IC253 hkC270
     have IS270 := own_acc IS253 hkS270
     refine oS (fun t k => XS.pop X270.here hx rfl (hb hby at_185) rfl rfl k) ?_
     refine oS (fun t k => XS.iconst X270.here hx rfl (hb hby at_186) k) ?_
     refine oS (fun t k => XS.iload X270.here hx rfl (hb hby at_187) rfl k) ?_
     show oG _ _ _ _ T270 (mkF m 189 (oL p1 p2 p3 p4 q5 p6 b1 b4 b8 b10 b19 (oI 2) (oR b19) (oI 1) .unset) [(.int (p2 &&& 255)), .int 4])
     refine own_callS X270 hx hZ (y := oy0) hown (oW hw 177 rfl) (oW hw 178 rfl) (oW hw 179 rfl) (oW hw 180 rfl) (by decide) 1 [(.int (p2 &&& 255))] [.int 4] (own_ut8 l Z a0 hw [] (p2 &&& 255) T270.heap n0 (Nat.le_trans Z0 K270.1) ) rfl  (oB rfl) (oB rfl) (own_needRL IC270 (oB rfl)) (own_needRL IS270 (oB rfl)) (g := (mkF m 189 (oL p1 p2 p3 p4 q5 p6 b1 b4 b8 b10 b19 (oI 2) (oR b19) (oI 1) .unset) [(.int (p2 &&& 255)), .int 4])) rfl (by rw [hml]; rfl) own_pd33 rfl rfl (by show 2 * 0 + _ ≤ _; exact Nat.le_of_eq rfl) (hb hby at_189) ?_
     intro T272 v272 L272 X272 hQ272
     obtain ⟨rfl, N272q, e272⟩ := hQ272
     have N272 := Fr.app N270 N272q
     have IC272 := own_accL 0 IC270
     have IS272 := own_accL 0 IS270
     refine oS (fun t k => XS.iadd X272.here hx rfl (hb hby at_192) rfl k) ?_
     refine oS (fun t k => XS.iload X272.here hx rfl (hb hby at_193) rfl k) ?_
     show oG _ _ _ _ T272 (mkF m 195 (oL p1 p2 p3 p4 q5 p6 b1 b4 b8 b10 b19 (oI 2) (oR b19) (oI 1) .unset) [(.int (p3 &&& 255)), (.int ((4 : Int32) + (own_ui (p2 &&& 255))))])
     refine own_callS X272 hx hZ (y := oy0) hown (oW hw 177 rfl) (oW hw 178 rfl) (oW hw 179 rfl) (oW hw 180 rfl) (by decide) 1 [(.int (p3 &&& 255))] [(.int ((4 : Int32) + (own_ui (p2 &&& 255))))] (own_ut8 l Z a0 hw [] (p3 &&& 255) T270.heap n0 (Nat.le_trans Z0 K270.1) ) e272  (oB rfl) (oB rfl) (own_needRL IC272 (oB rfl)) (own_needRL IS272 (oB rfl)) (g := (mkF m 195 (oL p1 p2 p3 p4 q5 p6 b1 b4 b8 b10 b19 (oI 2) (oR b19) (oI 1) .unset) [(.int (p3 &&& 255)), (.int ((4 : Int32) + (own_ui (p2 &&& 255))))])) rfl (by rw [hml]; rfl) own_pd33 rfl rfl (by show 2 * 0 + _ ≤ _; exact Nat.le_of_eq rfl) (hb hby at_195) ?_
     intro T273 v273 L273 X273 hQ273
     obtain ⟨rfl, N273q, e273⟩ := hQ273
     have N273 := Fr.app N272 N273q
     have IC273 := own_accL 0 IC272
     have IS273 := own_accL 0 IS272
     refine oS (fun t k => XS.iadd X273.here hx rfl (hb hby at_198) rfl k) ?_
     refine oS (fun t k => XS.lload X273.here hx rfl (hb hby at_199) rfl k) ?_
     refine oS (fun t k => XS.lconst X273.here hx rfl (hb hby at_201) k) ?_
     show oG _ _ _ _ T273 (mkF m 202 (oL p1 p2 p3 p4 q5 p6 b1 b4 b8 b10 b19 (oI 2) (oR b19) (oI 1) .unset) [(.long (0 : Int64)), (.long q5), (.int (((4 : Int32) + (own_ui (p2 &&& 255))) + (own_ui (p3 &&& 255))))])
     refine oS (fun t k => XS.lcmp X273.here hx rfl (hb hby at_202) rfl k) ?_
     refine own_join (fun r274 => own_d q5 = r274.toInt) (fun r274 => (mkF m 212 (oL p1 p2 p3 p4 q5 p6 b1 b4 b8 b10 b19 (oI 2) (oR b19) (oI 1) .unset) [.int r274, (.int (((4 : Int32) + (own_ui (p2 &&& 255))) + (own_ui (p3 &&& 255))))])) ?_ ?_
     · intro r274 hr274
       show oG _ _ _ _ T273 (mkF m 212 (oL p1 p2 p3 p4 q5 p6 b1 b4 b8 b10 b19 (oI 2) (oR b19) (oI 1) .unset) [.int r274, (.int (((4 : Int32) + (own_ui (p2 &&& 255))) + (own_ui (p3 &&& 255))))])
       refine oS (fun t k => XS.iadd X273.here hx rfl (hb hby at_212) rfl k) ?_
       refine oS (fun t k => XS.iconst X273.here hx rfl (hb hby at_213) k) ?_
       refine oS (fun t k => XS.iadd X273.here hx rfl (hb hby at_214) rfl k) ?_
       refine oS (fun t k => XS.iconst X273.here hx rfl (hb hby at_215) k) ?_
       refine oS (fun t k => XS.iload X273.here hx rfl (hb hby at_216) rfl k) ?_
       refine oS (fun t k => XS.imul X273.here hx rfl (hb hby at_218) rfl k) ?_
       refine oS (fun t k => XS.iadd X273.here hx rfl (hb hby at_219) rfl k) ?_
       refine oS (fun t k => XS.istore X273.here hx rfl (hb hby at_220) rfl (l' := (oL p1 p2 p3 p4 q5 p6 b1 b4 b8 b10 b19 (oI 2) (oR b19) (oI 1) (oI ((((((4 : Int32) + (own_ui (p2 &&& 255))) + (own_ui (p3 &&& 255))) + r274) + (4 : Int32)) + ((4 : Int32) * (p4 &&& 3)))))) rfl k) ?_
       refine oS (fun t k => XS.iload X273.here hx rfl (hb hby at_222) rfl k) ?_
       show oG _ _ _ _ T273 (mkF m 224 (oL p1 p2 p3 p4 q5 p6 b1 b4 b8 b10 b19 (oI 2) (oR b19) (oI 1) (oI ((((((4 : Int32) + (own_ui (p2 &&& 255))) + (own_ui (p3 &&& 255))) + r274) + (4 : Int32)) + ((4 : Int32) * (p4 &&& 3))))) [.int 1])
       refine oS (fun t k => XS.ifNo X273.here hx rfl (hb hby at_224) rfl ((if0 _ _).trans (feq (show ¬ ((1 : Int32) = (0 : Int32)) from (by decide))).1) k) ?_
       refine oS (fun t k => XS.aload X273.here hx rfl (hb hby at_227) rfl rfl k) ?_
       show oG _ _ _ _ T273 (mkF m 229 (oL p1 p2 p3 p4 q5 p6 b1 b4 b8 b10 b19 (oI 2) (oR b19) (oI 1) (oI ((((((4 : Int32) + (own_ui (p2 &&& 255))) + (own_ui (p3 &&& 255))) + r274) + (4 : Int32)) + ((4 : Int32) * (p4 &&& 3))))) [.ref b19])
       have A19_v276 := (A19_v251.keep Kq270)
       refine own_callV X273 hx hZ (y := oy9) (z := oy9) hown (oW hw 90 rfl) (oW hw 91 rfl) (notFace_of_selects (args := #[]) (mvT hZ (oW hw 93 rfl))) (oW hw 93 rfl) (oW hw 92 rfl) (oW hw 94 rfl) (oW hw 57 rfl) (by decide) 0 A19_v276 [] [] (own_cnt l Z a0 hw [] b19 ((0 : Int32) + (1 : Int32)) T270.heap n0 (Nat.le_trans Z0 K270.1) y270_0) e273  (oB rfl) (oB rfl) (own_needRL IC273 (oB rfl)) (own_needRL IS273 (oB rfl)) (g := (mkF m 229 (oL p1 p2 p3 p4 q5 p6 b1 b4 b8 b10 b19 (oI 2) (oR b19) (oI 1) (oI ((((((4 : Int32) + (own_ui (p2 &&& 255))) + (own_ui (p3 &&& 255))) + r274) + (4 : Int32)) + ((4 : Int32) * (p4 &&& 3))))) [.ref b19])) rfl (by rw [hml]; rfl) own_pd17 rfl rfl (by show 2 * 0 + _ ≤ _; exact Nat.le_of_eq rfl) (hb hby at_229) ?_
       intro T275 v275 L275 X275 hQ275
       obtain ⟨rfl, N275q, e275⟩ := hQ275
       have N275 := Fr.app N273 N275q
       have IC275 := own_accL 0 IC273
       have IS275 := own_accL 0 IS273
       refine oS (fun t k => XS.iconst X275.here hx rfl (hb hby at_232) k) ?_
       show oG _ _ _ _ T275 (mkF m 233 (oL p1 p2 p3 p4 q5 p6 b1 b4 b8 b10 b19 (oI 2) (oR b19) (oI 1) (oI ((((((4 : Int32) + (own_ui (p2 &&& 255))) + (own_ui (p3 &&& 255))) + r274) + (4 : Int32)) + ((4 : Int32) * (p4 &&& 3))))) [.int 1, (.int ((0 : Int32) + (1 : Int32)))])
       refine oS (fun t k => XS.icmpNo X275.here hx rfl (hb hby at_233) rfl (teq (show ((0 : Int32) + (1 : Int32)) = (1 : Int32) from (by decide))).2 k) ?_
       refine oS (fun t k => XS.aload X275.here hx rfl (hb hby at_236) rfl rfl k) ?_
       show oG _ _ _ _ T275 (mkF m 238 (oL p1 p2 p3 p4 q5 p6 b1 b4 b8 b10 b19 (oI 2) (oR b19) (oI 1) (oI ((((((4 : Int32) + (own_ui (p2 &&& 255))) + (own_ui (p3 &&& 255))) + r274) + (4 : Int32)) + ((4 : Int32) * (p4 &&& 3))))) [.ref b19])
       have q25_2'_v277 := (q25_2'_v252.keep Kq270)
       refine own_callV X275 hx hZ (y := oy7) (z := oy7) hown (oW hw 95 rfl) (oW hw 96 rfl) (notFace_of_selects (args := #[]) (mvT hZ (oW hw 98 rfl))) (oW hw 98 rfl) (oW hw 97 rfl) (oW hw 99 rfl) (oW hw 57 rfl) (by decide) 0 A19_v276 [] [] (own_byt l Z a0 hw [] b19 b25_0 z270 T270.heap n0 (Nat.le_trans Z0 K270.1) y270_1 q25_2'_v277 q270_0) e275  (oB rfl) (oB rfl) (own_needRL IC275 (oB rfl)) (own_needRL IS275 (oB rfl)) (g := (mkF m 238 (oL p1 p2 p3 p4 q5 p6 b1 b4 b8 b10 b19 (oI 2) (oR b19) (oI 1) (oI ((((((4 : Int32) + (own_ui (p2 &&& 255))) + (own_ui (p3 &&& 255))) + r274) + (4 : Int32)) + ((4 : Int32) * (p4 &&& 3))))) [.ref b19])) rfl (by rw [hml]; rfl) own_pd17 rfl rfl (by show 2 * 0 + _ ≤ _; exact Nat.le_of_eq rfl) (hb hby at_238) ?_
       intro T278 v278 L278 X278 hQ278
       obtain ⟨rfl, N278q, e278⟩ := hQ278
       have N278 := Fr.app N275 N278q
       have IC278 := own_accL 0 IC275
       have IS278 := own_accL 0 IS275
       refine oS (fun t k => XS.iload X278.here hx rfl (hb hby at_241) rfl k) ?_
       show oG _ _ _ _ T278 (mkF m 243 (oL p1 p2 p3 p4 q5 p6 b1 b4 b8 b10 b19 (oI 2) (oR b19) (oI 1) (oI ((((((4 : Int32) + (own_ui (p2 &&& 255))) + (own_ui (p3 &&& 255))) + r274) + (4 : Int32)) + ((4 : Int32) * (p4 &&& 3))))) [(.int ((((((4 : Int32) + (own_ui (p2 &&& 255))) + (own_ui (p3 &&& 255))) + r274) + (4 : Int32)) + ((4 : Int32) * (p4 &&& 3)))), .int z270])
       refine oS (fun t k => XS.icmpNo X278.here hx rfl (hb hby at_243) rfl (teq (show z270 = ((((((4 : Int32) + (own_ui (p2 &&& 255))) + (own_ui (p3 &&& 255))) + r274) + (4 : Int32)) + ((4 : Int32) * (p4 &&& 3))) from (own_exp sq270 hr274 tn))).2 k) ?_
       refine oS (fun t k => XS.iconst X278.here hx rfl (hb hby at_246) k) ?_
       refine oS (fun t k => XS.goto X278.here hx rfl (pc0 := 247) (pc' := 251) rfl (hb hby at_247) (by decide) (by decide) k) ?_
       show oG _ _ _ _ T278 (mkF m 251 (oL p1 p2 p3 p4 q5 p6 b1 b4 b8 b10 b19 (oI 2) (oR b19) (oI 1) (oI ((((((4 : Int32) + (own_ui (p2 &&& 255))) + (own_ui (p3 &&& 255))) + r274) + (4 : Int32)) + ((4 : Int32) * (p4 &&& 3))))) [.int 1])
       exact own_retN X278 hx hlk (t := .boolean) hrt (by simp) (hb hby at_251) ⟨rfl, N278⟩ (own_finR IC278 (oB rfl)) (own_finR IS278 (oB rfl))
     · intro tail274
       by_cases hc203_279 : (lcmpW q5 (0 : Int64)) = (0 : Int32)
       · refine oS (fun t k => XS.ifYes X273.here hx rfl (pc0 := 203) (pc' := 211) rfl (hb hby at_203) rfl ((if0 _ _).trans (teq (show (lcmpW q5 (0 : Int64)) = (0 : Int32) from hc203_279)).1) (by decide) (by decide) k) ?_
         refine oS (fun t k => XS.iconst X273.here hx rfl (hb hby at_211) k) ?_
         exact tail274 _ ((own_d0 hc203_279).trans (by decide))
       · refine oS (fun t k => XS.ifNo X273.here hx rfl (hb hby at_203) rfl ((if0 _ _).trans (feq (show ¬ ((lcmpW q5 (0 : Int64)) = (0 : Int32)) from hc203_279)).1) k) ?_
         refine oS (fun t k => XS.bipush X273.here hx rfl (hb hby at_206) k) ?_
         refine oS (fun t k => XS.goto X273.here hx rfl (pc0 := 208) (pc' := 212) rfl (hb hby at_208) (by decide) (by decide) k) ?_
         exact tail274 _ ((own_d1 hc203_279).trans (by decide))
   · refine oS (fun t k => XS.ifNo X243.here hx rfl (hb hby at_138) rfl ((if0 _ _).trans (feq (show ¬ ((p6 &&& 1) = (0 : Int32)) from hc138_249)).1) k) ?_
     refine oS (fun t k => XS.aload X243.here hx rfl (hb hby at_141) rfl rfl k) ?_
     show oG _ _ _ _ T243 (mkF m 143 (oL p1 p2 p3 p4 q5 p6 b1 b4 b8 b10 b19 (oI 2) (oR b19) .unset .unset) [.ref b19])
     have A19_v280 := (A19_v241.keep Kq243)
     have q25_2'_v281 := (q25_2'_v242.keep Kq243)
     refine own_callV X243 hx hZ (y := oy8) (z := oy8) hown (oW hw 76 rfl) (oW hw 77 rfl) (notFace_of_selects (args := #[]) (mvT hZ (oW hw 79 rfl))) (oW hw 79 rfl) (oW hw 78 rfl) (oW hw 80 rfl) (oW hw 57 rfl) (by decide) 0 A19_v280 [] [] (own_clr l Z a0 hw [] b19 b25_0 0 0 b239_0 T243.heap n0 (Nat.le_trans Z0 K243.1) A19_v280 q243_0' q243_2' q25_2'_v281 q243_3' q243_1' g_b19 g_b25_0 ne_b19_b25_0) rfl  (oB rfl) (oB rfl) (own_needRL IC243 (oB rfl)) (own_needRL IS243 (oB rfl)) (g := (mkF m 143 (oL p1 p2 p3 p4 q5 p6 b1 b4 b8 b10 b19 (oI 2) (oR b19) .unset .unset) [.ref b19])) rfl (by rw [hml]; rfl) own_pd31 rfl rfl (by show 2 * 0 + _ ≤ _; exact Nat.le_of_eq rfl) (hb hby at_143) ?_
     intro T282 v282 L282 X282 hQ282
     have V3'_v283 := (V3'_v244.keep Kq243 (ninS ne_b1_b19 (ninS ne_b1_b25_0 nin0)))
     have q7_0'_v284 := (q7_0'_v245.keep Kq243)
     have q7_3'_v285 := (q7_3'_v246.keep Kq243 (ninS ne_b7_0_b19 (ninS ne_b7_0_b25_0 nin0)))
     have V_b8_v286 := (V_b8_v247.keep Kq243 (ninS ne_b8_b19 (ninS ne_b8_b25_0 nin0)))
     have A10_v287 := (A10_v248.keep Kq243)
     have q239_2_v288 := (q239_2.keep Kq243 (ninS (Ne.symm ne_b19_b239_0) (ninS (Ne.symm ne_b25_0_b239_0) nin0)))
     obtain ⟨rfl, N282q, Kq282, q282_0, q282_1, q282_2, q282_3⟩ := hQ282
     have N282 := Fr.app N243 N282q
     have K282 := K243.trans Kq282 (allS (Or.inr sz_b19) (allS (Or.inr sz_b25_0) all0))
     have q282_0' : Fld Z T282.heap b19 "com/example/ringshift/ringshift/data/RowBatch$Builder" "rows" "Lcom/example/ringshift/ringshift/io/BinaryWriter;" (.ref b25_0) := q282_0
     have q282_1' : Fld Z T282.heap b25_0 "com/example/ringshift/ringshift/io/BinaryWriter" "bytes" "[B" (.ref b239_0) := q282_1
     have q282_2' : Fld Z T282.heap b19 "com/example/ringshift/ringshift/data/RowBatch$Builder" "count" "I" (.int 0) := q282_2
     have q282_3' : Fld Z T282.heap b25_0 "com/example/ringshift/ringshift/io/BinaryWriter" "size" "I" (.int 0) := q282_3
     have IC282 := own_accL 0 IC243
     have IS282 := own_accL 0 IS243
     refine oS (fun t k => XS.astore X282.here hx rfl (hb hby at_146) rfl rfl (l' := (oL p1 p2 p3 p4 q5 p6 b1 b4 b8 b10 b19 (oI 2) (oR b19) .unset .unset)) rfl k) ?_
     refine oS (fun t k => XS.aload X282.here hx rfl (hb hby at_148) rfl rfl k) ?_
     refine oS (fun t k => XS.aload X282.here hx rfl (hb hby at_150) rfl rfl k) ?_
     show oG _ _ _ _ T282 (mkF m 152 (oL p1 p2 p3 p4 q5 p6 b1 b4 b8 b10 b19 (oI 2) (oR b19) .unset .unset) [.ref b19, .ref b19])
     refine oS (fun t k => Jvm.RoadKit.acmp (g := (mkF m 152 (oL p1 p2 p3 p4 q5 p6 b1 b4 b8 b10 b19 (oI 2) (oR b19) .unset .unset) [.ref b19, .ref b19])) X282 hx rfl rfl rfl (pc0 := 152) (pc' := 155) (same := true) rfl (hb hby at_152) rfl (decide_eq_true rfl) (by decide) (by decide) k) ?_
     refine oS (fun t k => XS.aload X282.here hx rfl (hb hby at_155) rfl rfl k) ?_
     show oG _ _ _ _ T282 (mkF m 157 (oL p1 p2 p3 p4 q5 p6 b1 b4 b8 b10 b19 (oI 2) (oR b19) .unset .unset) [.ref b19])
     have A19_v290 := (A19_v280.keep Kq282)
     refine own_callV X282 hx hZ (y := oy9) (z := oy9) hown (oW hw 90 rfl) (oW hw 91 rfl) (notFace_of_selects (args := #[]) (mvT hZ (oW hw 93 rfl))) (oW hw 93 rfl) (oW hw 92 rfl) (oW hw 94 rfl) (oW hw 57 rfl) (by decide) 0 A19_v290 [] [] (own_cnt l Z a0 hw [] b19 0 T282.heap n0 (Nat.le_trans Z0 K282.1) q282_2') rfl  (oB rfl) (oB rfl) (own_needRL IC282 (oB rfl)) (own_needRL IS282 (oB rfl)) (g := (mkF m 157 (oL p1 p2 p3 p4 q5 p6 b1 b4 b8 b10 b19 (oI 2) (oR b19) .unset .unset) [.ref b19])) rfl (by rw [hml]; rfl) own_pd17 rfl rfl (by show 2 * 0 + _ ≤ _; exact Nat.le_of_eq rfl) (hb hby at_157) ?_
     intro T289 v289 L289 X289 hQ289
     obtain ⟨rfl, N289q, e289⟩ := hQ289
     have N289 := Fr.app N282 N289q
     have IC289 := own_accL 0 IC282
     have IS289 := own_accL 0 IS282
     show oG _ _ _ _ T289 (mkF m 160 (oL p1 p2 p3 p4 q5 p6 b1 b4 b8 b10 b19 (oI 2) (oR b19) .unset .unset) [.int 0])
     refine oS (fun t k => XS.ifNo X289.here hx rfl (hb hby at_160) rfl ((if0 _ _).trans (teq (show (0 : Int32) = (0 : Int32) from (by decide))).2) k) ?_
     refine oS (fun t k => XS.aload X289.here hx rfl (hb hby at_163) rfl rfl k) ?_
     show oG _ _ _ _ T289 (mkF m 165 (oL p1 p2 p3 p4 q5 p6 b1 b4 b8 b10 b19 (oI 2) (oR b19) .unset .unset) [.ref b19])
     have q25_2'_v291 := (q25_2'_v281.keep Kq282)
     refine own_callV X289 hx hZ (y := oy7) (z := oy7) hown (oW hw 95 rfl) (oW hw 96 rfl) (notFace_of_selects (args := #[]) (mvT hZ (oW hw 98 rfl))) (oW hw 98 rfl) (oW hw 97 rfl) (oW hw 99 rfl) (oW hw 57 rfl) (by decide) 0 A19_v290 [] [] (own_byt l Z a0 hw [] b19 b25_0 0 T282.heap n0 (Nat.le_trans Z0 K282.1) q282_0' q25_2'_v291 q282_3') e289  (oB rfl) (oB rfl) (own_needRL IC289 (oB rfl)) (own_needRL IS289 (oB rfl)) (g := (mkF m 165 (oL p1 p2 p3 p4 q5 p6 b1 b4 b8 b10 b19 (oI 2) (oR b19) .unset .unset) [.ref b19])) rfl (by rw [hml]; rfl) own_pd17 rfl rfl (by show 2 * 0 + _ ≤ _; exact Nat.le_of_eq rfl) (hb hby at_165) ?_
     intro T292 v292 L292 X292 hQ292
     obtain ⟨rfl, N292q, e292⟩ := hQ292
     have N292 := Fr.app N289 N292q
     have IC292 := own_accL 0 IC289
     have IS292 := own_accL 0 IS289
     show oG _ _ _ _ T292 (mkF m 168 (oL p1 p2 p3 p4 q5 p6 b1 b4 b8 b10 b19 (oI 2) (oR b19) .unset .unset) [.int 0])
     refine oS (fun t k => XS.ifNo X292.here hx rfl (hb hby at_168) rfl ((if0 _ _).trans (teq (show (0 : Int32) = (0 : Int32) from (by decide))).2) k) ?_
     refine oS (fun t k => XS.iconst X292.here hx rfl (hb hby at_171) k) ?_
     refine oS (fun t k => XS.goto X292.here hx rfl (pc0 := 172) (pc' := 176) rfl (hb hby at_172) (by decide) (by decide) k) ?_
     refine oS (fun t k => XS.istore X292.here hx rfl (hb hby at_176) rfl (l' := (oL p1 p2 p3 p4 q5 p6 b1 b4 b8 b10 b19 (oI 2) (oR b19) (oI 1) .unset)) rfl k) ?_
     refine oS (fun t k => XS.aload X292.here hx rfl (hb hby at_178) rfl rfl k) ?_
     refine oS (fun t k => XS.aload X292.here hx rfl (hb hby at_180) rfl rfl k) ?_
     show oG _ _ _ _ T292 (mkF m 182 (oL p1 p2 p3 p4 q5 p6 b1 b4 b8 b10 b19 (oI 2) (oR b19) (oI 1) .unset) [.ref b10, .ref b19])
     have hS293 : own_St cp239 (0 : Int32) 0 := ⟨sc239, tz, by omega, by omega⟩
     have hN293 : 0 + ((4 + own_u (p2 &&& 255) + own_u (p3 &&& 255)) + (own_d q5 + 4 + 4 * (p4 &&& 3).toInt)) ≤ 128 := by omega
     have q239_2_v294 := (q239_2_v288.keep Kq282 (ninS (Ne.symm ne_b19_b239_0) (ninS (Ne.symm ne_b25_0_b239_0) nin0)))
     have A10_v295 := (A10_v287.keep Kq282)
     have q14_0'_v296 := (((q14_0'_v226.keep Kq239 (ninS ne_b10_b19 (ninS ne_b10_b25_0 (ninS ne_b10_b220_0 nin0)))).keep Kq243 (ninS ne_b10_b19 (ninS ne_b10_b25_0 nin0))).keep Kq282 (ninS ne_b10_b19 (ninS ne_b10_b25_0 nin0)))
     have q14_2'_v297 := (((q14_2'_v227.keep Kq239 (ninS ne_b10_b19 (ninS ne_b10_b25_0 (ninS ne_b10_b220_0 nin0)))).keep Kq243 (ninS ne_b10_b19 (ninS ne_b10_b25_0 nin0))).keep Kq282 (ninS ne_b10_b19 (ninS ne_b10_b25_0 nin0)))
     have q14_3'_v298 := (((q14_3'_v228.keep Kq239 (ninS ne_b10_b19 (ninS ne_b10_b25_0 (ninS ne_b10_b220_0 nin0)))).keep Kq243 (ninS ne_b10_b19 (ninS ne_b10_b25_0 nin0))).keep Kq282 (ninS ne_b10_b19 (ninS ne_b10_b25_0 nin0)))
     have q14_1'_v299 := (((q14_1'_v229.keep Kq239 (ninS ne_b10_b19 (ninS ne_b10_b25_0 (ninS ne_b10_b220_0 nin0)))).keep Kq243 (ninS ne_b10_b19 (ninS ne_b10_b25_0 nin0))).keep Kq282 (ninS ne_b10_b19 (ninS ne_b10_b25_0 nin0)))
     have q7_0'_v300 := (q7_0'_v284.keep Kq282)
     have q7_1'_v301 := (((q7_1'_v231.keep Kq239 (ninS ne_b4_b19 (ninS ne_b4_b25_0 (ninS ne_b4_b220_0 nin0)))).keep Kq243 (ninS ne_b4_b19 (ninS ne_b4_b25_0 nin0))).keep Kq282 (ninS ne_b4_b19 (ninS ne_b4_b25_0 nin0)))
     have q7_2'_v302 := (((q7_2'_v232.keep Kq239 (ninS ne_b4_b19 (ninS ne_b4_b25_0 (ninS ne_b4_b220_0 nin0)))).keep Kq243 (ninS ne_b4_b19 (ninS ne_b4_b25_0 nin0))).keep Kq282 (ninS ne_b4_b19 (ninS ne_b4_b25_0 nin0)))
     have q7_3'_v303 := (q7_3'_v285.keep Kq282 (ninS ne_b7_0_b19 (ninS ne_b7_0_b25_0 nin0)))
     have V_b8_v304 := (V_b8_v286.keep Kq282 (ninS ne_b8_b19 (ninS ne_b8_b25_0 nin0)))
     have S_C_v305 := (own_staKeep (own_staKeep (own_staKeep S_C_v235 Kq239 (allS (own_plainE A19_v224) (allS (own_plainE q25_2'_v223) (allS (own_plainB q220_2) all0)))) Kq243 (allS (own_plainE A19_v241) (allS (own_plainE q25_2'_v242) all0))) Kq282 (allS (own_plainE A19_v280) (allS (own_plainE q25_2'_v281) all0)))
     have S_I_v306 := (own_staKeep (own_staKeep (own_staKeep S_I_v236 Kq239 (allS (own_plainE A19_v224) (allS (own_plainE q25_2'_v223) (allS (own_plainB q220_2) all0)))) Kq243 (allS (own_plainE A19_v241) (allS (own_plainE q25_2'_v242) all0))) Kq282 (allS (own_plainE A19_v280) (allS (own_plainE q25_2'_v281) all0)))
     have S_U_v307 := (own_staKeep (own_staKeep (own_staKeep S_U_v237 Kq239 (allS (own_plainE A19_v224) (allS (own_plainE q25_2'_v223) (allS (own_plainB q220_2) all0)))) Kq243 (allS (own_plainE A19_v241) (allS (own_plainE q25_2'_v242) all0))) Kq282 (allS (own_plainE A19_v280) (allS (own_plainE q25_2'_v281) all0)))
     have S_F_v308 := (own_staKeep (own_staKeep (own_staKeep S_F_v238 Kq239 (allS (own_plainE A19_v224) (allS (own_plainE q25_2'_v223) (allS (own_plainB q220_2) all0)))) Kq243 (allS (own_plainE A19_v241) (allS (own_plainE q25_2'_v242) all0))) Kq282 (allS (own_plainE A19_v280) (allS (own_plainE q25_2'_v281) all0)))
     refine own_callVX X292 hx hZ (y := oy6) (z := oy6) hown (oW hw 105 rfl) (oW hw 106 rfl) (notFace_of_selects (args := #[]) (mvT hZ (oW hw 108 rfl))) (oW hw 108 rfl) (oW hw 107 rfl) (oW hw 109 rfl) (oW hw 57 rfl) (by decide) 0 A19_v290 [.ref b10] [] (own_add l Z a0 hw [] b25_0 b239_0 k239_0 cp239 0 0 b19 0 b10 b8 k8 q5 (p4 &&& 3) b4 u8 b7_0 k7_0 (p2 &&& 255) (p3 &&& 255) zc fm T282.heap n0 (Nat.le_trans Z0 K282.1) q282_0' q25_2'_v291 q282_3' q282_1' q239_2_v294 A19_v290 q282_2' A10_v295 q14_0'_v296 q14_2'_v297 q14_3'_v298 q14_1'_v299 q7_0'_v300 q7_1'_v301 q7_2'_v302 q7_3'_v303 V_b8_v304 S_C_v305 S_I_v306 S_U_v307 S_F_v308 hS293 hN293 g_b25_0 g_b239_0 ne_b25_0_b239_0 (own_m255 p2).1 (own_m255 p2).2 (own_m255 p3).1 (own_m255 p3).2 hz rG (own_n3 p4).2.2.1 g_b19 ne_b4_b25_0 ne_b4_b239_0 ne_b7_0_b25_0 ne_b7_0_b239_0 ne_b10_b25_0 ne_b10_b239_0 ne_b8_b25_0 ne_b8_b239_0 ne_b19_b25_0 ne_b19_b239_0) e292  (oB rfl) (oB rfl) (own_needR IC292 (oB rfl)) (own_needR IS292 (oB rfl)) (g := (mkF m 182 (oL p1 p2 p3 p4 q5 p6 b1 b4 b8 b10 b19 (oI 2) (oR b19) (oI 1) .unset) [.ref b10, .ref b19])) rfl (by rw [hml]; rfl) own_pd32 rfl rfl (by show 2 * 0 + _ ≤ _; exact Nat.le_of_eq rfl) (hb hby at_182) ?_
     intro T309 v309 L309 xc309 xs309 X309 hQ309
     have V3'_v310 := (V3'_v283.keep Kq282 (ninS ne_b1_b19 (ninS ne_b1_b25_0 nin0)))
     obtain ⟨b309_0, k309_0, cp309, z309, rfl, N309q, Kq309, zq309, hT309, hkC309, hkS309, q309_0, q309_1, q309_2, y309_0, y309_1⟩ := hQ309
     obtain ⟨sc309, sq309, sl309, su309⟩ := hT309
     have N309 := Fr.app N292 N309q
     have K309 := K282.trans Kq309 (allS (Or.inr sz_b19) (allS (Or.inr sz_b25_0) (allS (Or.inr sz_b239_0) all0)))
     have g_b309_0 : n0 ≤ b309_0 := own_sz2 zq309 g_b239_0 (Nat.le_trans Z0 K282.1)
     have sz_b309_0 : h0.size ≤ b309_0 := own_sz2 zq309 sz_b239_0 K282.1
     have ne_b1_b309_0 : b1 ≠ b309_0 := own_ne2 ne_b1_b239_0 V3'_v310.lt zq309
     have ne_b4_b309_0 : b4 ≠ b309_0 := own_ne2 ne_b4_b239_0 q7_0'_v300.lt zq309
     have ne_b7_0_b309_0 : b7_0 ≠ b309_0 := own_ne2 ne_b7_0_b239_0 q7_3'_v303.lt zq309
     have ne_b8_b309_0 : b8 ≠ b309_0 := own_ne2 ne_b8_b239_0 V_b8_v304.lt zq309
     have ne_b10_b309_0 : b10 ≠ b309_0 := own_ne2 ne_b10_b239_0 A10_v295.lt zq309
     have ne_b19_b309_0 : b19 ≠ b309_0 := own_ne2 ne_b19_b239_0 A19_v290.lt zq309
     have ne_b25_0_b309_0 : b25_0 ≠ b309_0 := own_ne2 ne_b25_0_b239_0 q25_2'_v291.lt zq309
     have IC309 := own_acc IC292 hkC309
     have IS309 := own_acc IS292 hkS309
     refine oS (fun t k => XS.pop X309.here hx rfl (hb hby at_185) rfl rfl k) ?_
     refine oS (fun t k => XS.iconst X309.here hx rfl (hb hby at_186) k) ?_
     refine oS (fun t k => XS.iload X309.here hx rfl (hb hby at_187) rfl k) ?_
     show oG _ _ _ _ T309 (mkF m 189 (oL p1 p2 p3 p4 q5 p6 b1 b4 b8 b10 b19 (oI 2) (oR b19) (oI 1) .unset) [(.int (p2 &&& 255)), .int 4])
     refine own_callS X309 hx hZ (y := oy0) hown (oW hw 177 rfl) (oW hw 178 rfl) (oW hw 179 rfl) (oW hw 180 rfl) (by decide) 1 [(.int (p2 &&& 255))] [.int 4] (own_ut8 l Z a0 hw [] (p2 &&& 255) T309.heap n0 (Nat.le_trans Z0 K309.1) ) rfl  (oB rfl) (oB rfl) (own_needRL IC309 (oB rfl)) (own_needRL IS309 (oB rfl)) (g := (mkF m 189 (oL p1 p2 p3 p4 q5 p6 b1 b4 b8 b10 b19 (oI 2) (oR b19) (oI 1) .unset) [(.int (p2 &&& 255)), .int 4])) rfl (by rw [hml]; rfl) own_pd33 rfl rfl (by show 2 * 0 + _ ≤ _; exact Nat.le_of_eq rfl) (hb hby at_189) ?_
     intro T311 v311 L311 X311 hQ311
     obtain ⟨rfl, N311q, e311⟩ := hQ311
     have N311 := Fr.app N309 N311q
     have IC311 := own_accL 0 IC309
     have IS311 := own_accL 0 IS309
     refine oS (fun t k => XS.iadd X311.here hx rfl (hb hby at_192) rfl k) ?_
     refine oS (fun t k => XS.iload X311.here hx rfl (hb hby at_193) rfl k) ?_
     show oG _ _ _ _ T311 (mkF m 195 (oL p1 p2 p3 p4 q5 p6 b1 b4 b8 b10 b19 (oI 2) (oR b19) (oI 1) .unset) [(.int (p3 &&& 255)), (.int ((4 : Int32) + (own_ui (p2 &&& 255))))])
     refine own_callS X311 hx hZ (y := oy0) hown (oW hw 177 rfl) (oW hw 178 rfl) (oW hw 179 rfl) (oW hw 180 rfl) (by decide) 1 [(.int (p3 &&& 255))] [(.int ((4 : Int32) + (own_ui (p2 &&& 255))))] (own_ut8 l Z a0 hw [] (p3 &&& 255) T309.heap n0 (Nat.le_trans Z0 K309.1) ) e311  (oB rfl) (oB rfl) (own_needRL IC311 (oB rfl)) (own_needRL IS311 (oB rfl)) (g := (mkF m 195 (oL p1 p2 p3 p4 q5 p6 b1 b4 b8 b10 b19 (oI 2) (oR b19) (oI 1) .unset) [(.int (p3 &&& 255)), (.int ((4 : Int32) + (own_ui (p2 &&& 255))))])) rfl (by rw [hml]; rfl) own_pd33 rfl rfl (by show 2 * 0 + _ ≤ _; exact Nat.le_of_eq rfl) (hb hby at_195) ?_
     intro T312 v312 L312 X312 hQ312
     obtain ⟨rfl, N312q, e312⟩ := hQ312
     have N312 := Fr.app N311 N312q
     have IC312 := own_accL 0 IC311
     have IS312 := own_accL 0 IS311
     refine oS (fun t k => XS.iadd X312.here hx rfl (hb hby at_198) rfl k) ?_
     refine oS (fun t k => XS.lload X312.here hx rfl (hb hby at_199) rfl k) ?_
     refine oS (fun t k => XS.lconst X312.here hx rfl (hb hby at_201) k) ?_
     show oG _ _ _ _ T312 (mkF m 202 (oL p1 p2 p3 p4 q5 p6 b1 b4 b8 b10 b19 (oI 2) (oR b19) (oI 1) .unset) [(.long (0 : Int64)), (.long q5), (.int (((4 : Int32) + (own_ui (p2 &&& 255))) + (own_ui (p3 &&& 255))))])
     refine oS (fun t k => XS.lcmp X312.here hx rfl (hb hby at_202) rfl k) ?_
     refine own_join (fun r313 => own_d q5 = r313.toInt) (fun r313 => (mkF m 212 (oL p1 p2 p3 p4 q5 p6 b1 b4 b8 b10 b19 (oI 2) (oR b19) (oI 1) .unset) [.int r313, (.int (((4 : Int32) + (own_ui (p2 &&& 255))) + (own_ui (p3 &&& 255))))])) ?_ ?_
     · intro r313 hr313
       show oG _ _ _ _ T312 (mkF m 212 (oL p1 p2 p3 p4 q5 p6 b1 b4 b8 b10 b19 (oI 2) (oR b19) (oI 1) .unset) [.int r313, (.int (((4 : Int32) + (own_ui (p2 &&& 255))) + (own_ui (p3 &&& 255))))])
       refine oS (fun t k => XS.iadd X312.here hx rfl (hb hby at_212) rfl k) ?_
       refine oS (fun t k => XS.iconst X312.here hx rfl (hb hby at_213) k) ?_
       refine oS (fun t k => XS.iadd X312.here hx rfl (hb hby at_214) rfl k) ?_
       refine oS (fun t k => XS.iconst X312.here hx rfl (hb hby at_215) k) ?_
       refine oS (fun t k => XS.iload X312.here hx rfl (hb hby at_216) rfl k) ?_
       refine oS (fun t k => XS.imul X312.here hx rfl (hb hby at_218) rfl k) ?_
       refine oS (fun t k => XS.iadd X312.here hx rfl (hb hby at_219) rfl k) ?_
       refine oS (fun t k => XS.istore X312.here hx rfl (hb hby at_220) rfl (l' := (oL p1 p2 p3 p4 q5 p6 b1 b4 b8 b10 b19 (oI 2) (oR b19) (oI 1) (oI ((((((4 : Int32) + (own_ui (p2 &&& 255))) + (own_ui (p3 &&& 255))) + r313) + (4 : Int32)) + ((4 : Int32) * (p4 &&& 3)))))) rfl k) ?_
       refine oS (fun t k => XS.iload X312.here hx rfl (hb hby at_222) rfl k) ?_
       show oG _ _ _ _ T312 (mkF m 224 (oL p1 p2 p3 p4 q5 p6 b1 b4 b8 b10 b19 (oI 2) (oR b19) (oI 1) (oI ((((((4 : Int32) + (own_ui (p2 &&& 255))) + (own_ui (p3 &&& 255))) + r313) + (4 : Int32)) + ((4 : Int32) * (p4 &&& 3))))) [.int 1])
       refine oS (fun t k => XS.ifNo X312.here hx rfl (hb hby at_224) rfl ((if0 _ _).trans (feq (show ¬ ((1 : Int32) = (0 : Int32)) from (by decide))).1) k) ?_
       refine oS (fun t k => XS.aload X312.here hx rfl (hb hby at_227) rfl rfl k) ?_
       show oG _ _ _ _ T312 (mkF m 229 (oL p1 p2 p3 p4 q5 p6 b1 b4 b8 b10 b19 (oI 2) (oR b19) (oI 1) (oI ((((((4 : Int32) + (own_ui (p2 &&& 255))) + (own_ui (p3 &&& 255))) + r313) + (4 : Int32)) + ((4 : Int32) * (p4 &&& 3))))) [.ref b19])
       have A19_v315 := (A19_v290.keep Kq309)
       refine own_callV X312 hx hZ (y := oy9) (z := oy9) hown (oW hw 90 rfl) (oW hw 91 rfl) (notFace_of_selects (args := #[]) (mvT hZ (oW hw 93 rfl))) (oW hw 93 rfl) (oW hw 92 rfl) (oW hw 94 rfl) (oW hw 57 rfl) (by decide) 0 A19_v315 [] [] (own_cnt l Z a0 hw [] b19 ((0 : Int32) + (1 : Int32)) T309.heap n0 (Nat.le_trans Z0 K309.1) y309_0) e312  (oB rfl) (oB rfl) (own_needRL IC312 (oB rfl)) (own_needRL IS312 (oB rfl)) (g := (mkF m 229 (oL p1 p2 p3 p4 q5 p6 b1 b4 b8 b10 b19 (oI 2) (oR b19) (oI 1) (oI ((((((4 : Int32) + (own_ui (p2 &&& 255))) + (own_ui (p3 &&& 255))) + r313) + (4 : Int32)) + ((4 : Int32) * (p4 &&& 3))))) [.ref b19])) rfl (by rw [hml]; rfl) own_pd17 rfl rfl (by show 2 * 0 + _ ≤ _; exact Nat.le_of_eq rfl) (hb hby at_229) ?_
       intro T314 v314 L314 X314 hQ314
       obtain ⟨rfl, N314q, e314⟩ := hQ314
       have N314 := Fr.app N312 N314q
       have IC314 := own_accL 0 IC312
       have IS314 := own_accL 0 IS312
       refine oS (fun t k => XS.iconst X314.here hx rfl (hb hby at_232) k) ?_
       show oG _ _ _ _ T314 (mkF m 233 (oL p1 p2 p3 p4 q5 p6 b1 b4 b8 b10 b19 (oI 2) (oR b19) (oI 1) (oI ((((((4 : Int32) + (own_ui (p2 &&& 255))) + (own_ui (p3 &&& 255))) + r313) + (4 : Int32)) + ((4 : Int32) * (p4 &&& 3))))) [.int 1, (.int ((0 : Int32) + (1 : Int32)))])
       refine oS (fun t k => XS.icmpNo X314.here hx rfl (hb hby at_233) rfl (teq (show ((0 : Int32) + (1 : Int32)) = (1 : Int32) from (by decide))).2 k) ?_
       refine oS (fun t k => XS.aload X314.here hx rfl (hb hby at_236) rfl rfl k) ?_
       show oG _ _ _ _ T314 (mkF m 238 (oL p1 p2 p3 p4 q5 p6 b1 b4 b8 b10 b19 (oI 2) (oR b19) (oI 1) (oI ((((((4 : Int32) + (own_ui (p2 &&& 255))) + (own_ui (p3 &&& 255))) + r313) + (4 : Int32)) + ((4 : Int32) * (p4 &&& 3))))) [.ref b19])
       have q25_2'_v316 := (q25_2'_v291.keep Kq309)
       refine own_callV X314 hx hZ (y := oy7) (z := oy7) hown (oW hw 95 rfl) (oW hw 96 rfl) (notFace_of_selects (args := #[]) (mvT hZ (oW hw 98 rfl))) (oW hw 98 rfl) (oW hw 97 rfl) (oW hw 99 rfl) (oW hw 57 rfl) (by decide) 0 A19_v315 [] [] (own_byt l Z a0 hw [] b19 b25_0 z309 T309.heap n0 (Nat.le_trans Z0 K309.1) y309_1 q25_2'_v316 q309_0) e314  (oB rfl) (oB rfl) (own_needRL IC314 (oB rfl)) (own_needRL IS314 (oB rfl)) (g := (mkF m 238 (oL p1 p2 p3 p4 q5 p6 b1 b4 b8 b10 b19 (oI 2) (oR b19) (oI 1) (oI ((((((4 : Int32) + (own_ui (p2 &&& 255))) + (own_ui (p3 &&& 255))) + r313) + (4 : Int32)) + ((4 : Int32) * (p4 &&& 3))))) [.ref b19])) rfl (by rw [hml]; rfl) own_pd17 rfl rfl (by show 2 * 0 + _ ≤ _; exact Nat.le_of_eq rfl) (hb hby at_238) ?_
       intro T317 v317 L317 X317 hQ317
       obtain ⟨rfl, N317q, e317⟩ := hQ317
       have N317 := Fr.app N314 N317q
       have IC317 := own_accL 0 IC314
       have IS317 := own_accL 0 IS314
       refine oS (fun t k => XS.iload X317.here hx rfl (hb hby at_241) rfl k) ?_
       show oG _ _ _ _ T317 (mkF m 243 (oL p1 p2 p3 p4 q5 p6 b1 b4 b8 b10 b19 (oI 2) (oR b19) (oI 1) (oI ((((((4 : Int32) + (own_ui (p2 &&& 255))) + (own_ui (p3 &&& 255))) + r313) + (4 : Int32)) + ((4 : Int32) * (p4 &&& 3))))) [(.int ((((((4 : Int32) + (own_ui (p2 &&& 255))) + (own_ui (p3 &&& 255))) + r313) + (4 : Int32)) + ((4 : Int32) * (p4 &&& 3)))), .int z309])
       refine oS (fun t k => XS.icmpNo X317.here hx rfl (hb hby at_243) rfl (teq (show z309 = ((((((4 : Int32) + (own_ui (p2 &&& 255))) + (own_ui (p3 &&& 255))) + r313) + (4 : Int32)) + ((4 : Int32) * (p4 &&& 3))) from (own_exp sq309 hr313 tn))).2 k) ?_
       refine oS (fun t k => XS.iconst X317.here hx rfl (hb hby at_246) k) ?_
       refine oS (fun t k => XS.goto X317.here hx rfl (pc0 := 247) (pc' := 251) rfl (hb hby at_247) (by decide) (by decide) k) ?_
       show oG _ _ _ _ T317 (mkF m 251 (oL p1 p2 p3 p4 q5 p6 b1 b4 b8 b10 b19 (oI 2) (oR b19) (oI 1) (oI ((((((4 : Int32) + (own_ui (p2 &&& 255))) + (own_ui (p3 &&& 255))) + r313) + (4 : Int32)) + ((4 : Int32) * (p4 &&& 3))))) [.int 1])
       exact own_retN X317 hx hlk (t := .boolean) hrt (by simp) (hb hby at_251) ⟨rfl, N317⟩ (own_finR IC317 (oB rfl)) (own_finR IS317 (oB rfl))
     · intro tail313
       by_cases hc203_318 : (lcmpW q5 (0 : Int64)) = (0 : Int32)
       · refine oS (fun t k => XS.ifYes X312.here hx rfl (pc0 := 203) (pc' := 211) rfl (hb hby at_203) rfl ((if0 _ _).trans (teq (show (lcmpW q5 (0 : Int64)) = (0 : Int32) from hc203_318)).1) (by decide) (by decide) k) ?_
         refine oS (fun t k => XS.iconst X312.here hx rfl (hb hby at_211) k) ?_
         exact tail313 _ ((own_d0 hc203_318).trans (by decide))
       · refine oS (fun t k => XS.ifNo X312.here hx rfl (hb hby at_203) rfl ((if0 _ _).trans (feq (show ¬ ((lcmpW q5 (0 : Int64)) = (0 : Int32)) from hc203_318)).1) k) ?_
         refine oS (fun t k => XS.bipush X312.here hx rfl (hb hby at_206) k) ?_
         refine oS (fun t k => XS.goto X312.here hx rfl (pc0 := 208) (pc' := 212) rfl (hb hby at_208) (by decide) (by decide) k) ?_
         exact tail313 _ ((own_d1 hc203_318).trans (by decide))
 · rw [hi]
   show oG _ _ _ _ T25 (mkF m 83 (oL p1 p2 p3 p4 q5 p6 b1 b4 b8 b10 b19 .unset .unset .unset .unset) [.int 3])
   refine oS (fun t k => XS.istore X25.here hx rfl (hb hby at_83) rfl (l' := (oL p1 p2 p3 p4 q5 p6 b1 b4 b8 b10 b19 (oI 3) .unset .unset .unset)) rfl k) ?_
   refine oS (fun t k => XS.iload X25.here hx rfl (hb hby at_85) rfl k) ?_
   refine oS (fun t k => XS.iconst X25.here hx rfl (hb hby at_87) k) ?_
   show oG _ _ _ _ T25 (mkF m 88 (oL p1 p2 p3 p4 q5 p6 b1 b4 b8 b10 b19 (oI 3) .unset .unset .unset) [.int 1, .int 3])
   refine oS (fun t k => XS.icmpNo X25.here hx rfl (hb hby at_88) rfl (flt (show ¬ ((3 : Int32) < (1 : Int32)) from (by decide))).1 k) ?_
   refine oS (fun t k => XS.aload X25.here hx rfl (hb hby at_91) rfl rfl k) ?_
   refine oS (fun t k => XS.aload X25.here hx rfl (hb hby at_93) rfl rfl k) ?_
   show oG _ _ _ _ T25 (mkF m 95 (oL p1 p2 p3 p4 q5 p6 b1 b4 b8 b10 b19 (oI 3) .unset .unset .unset) [.ref b10, .ref b19])
   have hS319 : own_St (64 : Int32) (0 : Int32) 0 := ⟨(Or.inl rfl), tz, by omega, by omega⟩
   have hN319 : 0 + ((4 + own_u (p2 &&& 255) + own_u (p3 &&& 255)) + (own_d q5 + 4 + 4 * (p4 &&& 3).toInt)) ≤ 128 := by omega
   have A19_v320 := (A19.keep Kq25)
   have A10_v321 := (A10_v30.keep Kq25)
   have q14_0'_v322 := ((q14_0'.ext E19).keep Kq25 (ninS ne_b10_b19 nin0))
   have q14_2'_v323 := ((q14_2'.ext E19).keep Kq25 (ninS ne_b10_b19 nin0))
   have q14_3'_v324 := ((q14_3'.ext E19).keep Kq25 (ninS ne_b10_b19 nin0))
   have q14_1'_v325 := ((q14_1'.ext E19).keep Kq25 (ninS ne_b10_b19 nin0))
   have q7_0'_v326 := (q7_0'_v27.keep Kq25)
   have q7_1'_v327 := (((((q7_1'.ext E8).ext E10).keep Kq14 (ninS ne_b4_b10 nin0)).ext E19).keep Kq25 (ninS ne_b4_b19 nin0))
   have q7_2'_v328 := (((((q7_2'.ext E8).ext E10).keep Kq14 (ninS ne_b4_b10 nin0)).ext E19).keep Kq25 (ninS ne_b4_b19 nin0))
   have q7_3'_v329 := (q7_3'_v28.keep Kq25 (ninS ne_b7_0_b19 nin0))
   have V_b8_v330 := (V_b8_v29.keep Kq25 (ninS ne_b8_b19 nin0))
   have S_C_v331 := (own_staKeep ((own_staKeep (((own_staKeep S_C_v6 Kq7 (allS (own_plainE A4) all0)).ext E8).ext E10) Kq14 (allS (own_plainE A10) all0)).ext E19) Kq25 (allS (own_plainE A19) all0))
   have S_I_v332 := (own_staKeep ((own_staKeep (((own_staKeep ((((S_I.ext E1).wr W2).wr W3).ext E4) Kq7 (allS (own_plainE A4) all0)).ext E8).ext E10) Kq14 (allS (own_plainE A10) all0)).ext E19) Kq25 (allS (own_plainE A19) all0))
   have S_U_v333 := (own_staKeep ((own_staKeep (((own_staKeep ((((S_U.ext E1).wr W2).wr W3).ext E4) Kq7 (allS (own_plainE A4) all0)).ext E8).ext E10) Kq14 (allS (own_plainE A10) all0)).ext E19) Kq25 (allS (own_plainE A19) all0))
   have S_F_v334 := (own_staKeep ((own_staKeep (((own_staKeep ((((S_F.ext E1).wr W2).wr W3).ext E4) Kq7 (allS (own_plainE A4) all0)).ext E8).ext E10) Kq14 (allS (own_plainE A10) all0)).ext E19) Kq25 (allS (own_plainE A19) all0))
   refine own_callVX X25 hx hZ (y := oy6) (z := oy6) hown (oW hw 105 rfl) (oW hw 106 rfl) (notFace_of_selects (args := #[]) (mvT hZ (oW hw 108 rfl))) (oW hw 108 rfl) (oW hw 107 rfl) (oW hw 109 rfl) (oW hw 57 rfl) (by decide) 0 A19_v320 [.ref b10] [] (own_add l Z a0 hw [] b25_0 b25_1 k25_0 64 0 0 b19 0 b10 b8 k8 q5 (p4 &&& 3) b4 u8 b7_0 k7_0 (p2 &&& 255) (p3 &&& 255) zc fm T25.heap n0 (Nat.le_trans Z0 K25.1) q25_0' q25_2' q25_4' q25_3' q25_5' A19_v320 q25_1' A10_v321 q14_0'_v322 q14_2'_v323 q14_3'_v324 q14_1'_v325 q7_0'_v326 q7_1'_v327 q7_2'_v328 q7_3'_v329 V_b8_v330 S_C_v331 S_I_v332 S_U_v333 S_F_v334 hS319 hN319 g_b25_0 g_b25_1 ne_b25_0_b25_1 (own_m255 p2).1 (own_m255 p2).2 (own_m255 p3).1 (own_m255 p3).2 hz rG (own_n3 p4).2.2.1 g_b19 ne_b4_b25_0 ne_b4_b25_1 ne_b7_0_b25_0 ne_b7_0_b25_1 ne_b10_b25_0 ne_b10_b25_1 ne_b8_b25_0 ne_b8_b25_1 ne_b19_b25_0 ne_b19_b25_1) rfl  (oB rfl) (oB rfl) (own_needR IC0 (oB rfl)) (own_needR IS0 (oB rfl)) (g := (mkF m 95 (oL p1 p2 p3 p4 q5 p6 b1 b4 b8 b10 b19 (oI 3) .unset .unset .unset) [.ref b10, .ref b19])) rfl (by rw [hml]; rfl) own_pd32 rfl rfl (by show 2 * 0 + _ ≤ _; exact Nat.le_of_eq rfl) (hb hby at_95) ?_
   intro T335 v335 L335 xc335 xs335 X335 hQ335
   have V3'_v336 := (V3'_v26.keep Kq25 (ninS ne_b1_b19 nin0))
   obtain ⟨b335_0, k335_0, cp335, z335, rfl, N335q, Kq335, zq335, hT335, hkC335, hkS335, q335_0, q335_1, q335_2, y335_0, y335_1⟩ := hQ335
   obtain ⟨sc335, sq335, sl335, su335⟩ := hT335
   have N335 := Fr.app N25 N335q
   have K335 := K25.trans Kq335 (allS (Or.inr sz_b19) (allS (Or.inr sz_b25_0) (allS (Or.inr sz_b25_1) all0)))
   have g_b335_0 : n0 ≤ b335_0 := own_sz2 zq335 g_b25_1 (Nat.le_trans Z0 K25.1)
   have sz_b335_0 : h0.size ≤ b335_0 := own_sz2 zq335 sz_b25_1 K25.1
   have ne_b1_b335_0 : b1 ≠ b335_0 := own_ne2 ne_b1_b25_1 V3'_v336.lt zq335
   have ne_b4_b335_0 : b4 ≠ b335_0 := own_ne2 ne_b4_b25_1 q7_0'_v326.lt zq335
   have ne_b7_0_b335_0 : b7_0 ≠ b335_0 := own_ne2 ne_b7_0_b25_1 q7_3'_v329.lt zq335
   have ne_b8_b335_0 : b8 ≠ b335_0 := own_ne2 ne_b8_b25_1 V_b8_v330.lt zq335
   have ne_b10_b335_0 : b10 ≠ b335_0 := own_ne2 ne_b10_b25_1 A10_v321.lt zq335
   have ne_b19_b335_0 : b19 ≠ b335_0 := own_ne2 ne_b19_b25_1 A19_v320.lt zq335
   have ne_b25_0_b335_0 : b25_0 ≠ b335_0 := own_ne2 ne_b25_0_b25_1 q25_2'.lt zq335
   have IC335 := own_acc IC0 hkC335
   have IS335 := own_acc IS0 hkS335
   refine oS (fun t k => XS.pop X335.here hx rfl (hb hby at_98) rfl rfl k) ?_
   refine oS (fun t k => XS.iload X335.here hx rfl (hb hby at_99) rfl k) ?_
   refine oS (fun t k => XS.iconst X335.here hx rfl (hb hby at_101) k) ?_
   show oG _ _ _ _ T335 (mkF m 102 (oL p1 p2 p3 p4 q5 p6 b1 b4 b8 b10 b19 (oI 3) .unset .unset .unset) [.int 2, .int 3])
   refine oS (fun t k => XS.icmpNo X335.here hx rfl (hb hby at_102) rfl (flt (show ¬ ((3 : Int32) < (2 : Int32)) from (by decide))).1 k) ?_
   refine oS (fun t k => XS.aload X335.here hx rfl (hb hby at_105) rfl rfl k) ?_
   refine oS (fun t k => XS.aload X335.here hx rfl (hb hby at_107) rfl rfl k) ?_
   show oG _ _ _ _ T335 (mkF m 109 (oL p1 p2 p3 p4 q5 p6 b1 b4 b8 b10 b19 (oI 3) .unset .unset .unset) [.ref b10, .ref b19])
   have hS337 : own_St cp335 z335 (0 + ((4 + own_u (p2 &&& 255) + own_u (p3 &&& 255)) + (own_d q5 + 4 + 4 * (p4 &&& 3).toInt))) := ⟨sc335, sq335, by omega, by omega⟩
   have hN337 : (0 + ((4 + own_u (p2 &&& 255) + own_u (p3 &&& 255)) + (own_d q5 + 4 + 4 * (p4 &&& 3).toInt))) + ((4 + own_u (p2 &&& 255) + own_u (p3 &&& 255)) + (own_d q5 + 4 + 4 * (p4 &&& 3).toInt)) ≤ 128 := by omega
   have q25_2'_v338 := (q25_2'.keep Kq335)
   have A19_v339 := (A19_v320.keep Kq335)
   have A10_v340 := (A10_v321.keep Kq335)
   have q14_0'_v341 := (q14_0'_v322.keep Kq335 (ninS ne_b10_b19 (ninS ne_b10_b25_0 (ninS ne_b10_b25_1 nin0))))
   have q14_2'_v342 := (q14_2'_v323.keep Kq335 (ninS ne_b10_b19 (ninS ne_b10_b25_0 (ninS ne_b10_b25_1 nin0))))
   have q14_3'_v343 := (q14_3'_v324.keep Kq335 (ninS ne_b10_b19 (ninS ne_b10_b25_0 (ninS ne_b10_b25_1 nin0))))
   have q14_1'_v344 := (q14_1'_v325.keep Kq335 (ninS ne_b10_b19 (ninS ne_b10_b25_0 (ninS ne_b10_b25_1 nin0))))
   have q7_0'_v345 := (q7_0'_v326.keep Kq335)
   have q7_1'_v346 := (q7_1'_v327.keep Kq335 (ninS ne_b4_b19 (ninS ne_b4_b25_0 (ninS ne_b4_b25_1 nin0))))
   have q7_2'_v347 := (q7_2'_v328.keep Kq335 (ninS ne_b4_b19 (ninS ne_b4_b25_0 (ninS ne_b4_b25_1 nin0))))
   have q7_3'_v348 := (q7_3'_v329.keep Kq335 (ninS ne_b7_0_b19 (ninS ne_b7_0_b25_0 (ninS ne_b7_0_b25_1 nin0))))
   have V_b8_v349 := (V_b8_v330.keep Kq335 (ninS ne_b8_b19 (ninS ne_b8_b25_0 (ninS ne_b8_b25_1 nin0))))
   have S_C_v350 := (own_staKeep S_C_v331 Kq335 (allS (own_plainE A19_v320) (allS (own_plainE q25_2') (allS (own_plainB q25_5') all0))))
   have S_I_v351 := (own_staKeep S_I_v332 Kq335 (allS (own_plainE A19_v320) (allS (own_plainE q25_2') (allS (own_plainB q25_5') all0))))
   have S_U_v352 := (own_staKeep S_U_v333 Kq335 (allS (own_plainE A19_v320) (allS (own_plainE q25_2') (allS (own_plainB q25_5') all0))))
   have S_F_v353 := (own_staKeep S_F_v334 Kq335 (allS (own_plainE A19_v320) (allS (own_plainE q25_2') (allS (own_plainB q25_5') all0))))
   refine own_callVX X335 hx hZ (y := oy6) (z := oy6) hown (oW hw 105 rfl) (oW hw 106 rfl) (notFace_of_selects (args := #[]) (mvT hZ (oW hw 108 rfl))) (oW hw 108 rfl) (oW hw 107 rfl) (oW hw 109 rfl) (oW hw 57 rfl) (by decide) 0 A19_v339 [.ref b10] [] (own_add l Z a0 hw [] b25_0 b335_0 k335_0 cp335 z335 (0 + ((4 + own_u (p2 &&& 255) + own_u (p3 &&& 255)) + (own_d q5 + 4 + 4 * (p4 &&& 3).toInt))) b19 ((0 : Int32) + (1 : Int32)) b10 b8 k8 q5 (p4 &&& 3) b4 u8 b7_0 k7_0 (p2 &&& 255) (p3 &&& 255) zc fm T335.heap n0 (Nat.le_trans Z0 K335.1) y335_1 q25_2'_v338 q335_0 q335_1 q335_2 A19_v339 y335_0 A10_v340 q14_0'_v341 q14_2'_v342 q14_3'_v343 q14_1'_v344 q7_0'_v345 q7_1'_v346 q7_2'_v347 q7_3'_v348 V_b8_v349 S_C_v350 S_I_v351 S_U_v352 S_F_v353 hS337 hN337 g_b25_0 g_b335_0 ne_b25_0_b335_0 (own_m255 p2).1 (own_m255 p2).2 (own_m255 p3).1 (own_m255 p3).2 hz rG (own_n3 p4).2.2.1 g_b19 ne_b4_b25_0 ne_b4_b335_0 ne_b7_0_b25_0 ne_b7_0_b335_0 ne_b10_b25_0 ne_b10_b335_0 ne_b8_b25_0 ne_b8_b335_0 ne_b19_b25_0 ne_b19_b335_0) rfl  (oB rfl) (oB rfl) (own_needR IC335 (oB rfl)) (own_needR IS335 (oB rfl)) (g := (mkF m 109 (oL p1 p2 p3 p4 q5 p6 b1 b4 b8 b10 b19 (oI 3) .unset .unset .unset) [.ref b10, .ref b19])) rfl (by rw [hml]; rfl) own_pd32 rfl rfl (by show 2 * 0 + _ ≤ _; exact Nat.le_of_eq rfl) (hb hby at_109) ?_
   intro T354 v354 L354 xc354 xs354 X354 hQ354
   have V3'_v355 := (V3'_v336.keep Kq335 (ninS ne_b1_b19 (ninS ne_b1_b25_0 (ninS ne_b1_b25_1 nin0))))
   obtain ⟨b354_0, k354_0, cp354, z354, rfl, N354q, Kq354, zq354, hT354, hkC354, hkS354, q354_0, q354_1, q354_2, y354_0, y354_1⟩ := hQ354
   obtain ⟨sc354, sq354, sl354, su354⟩ := hT354
   have N354 := Fr.app N335 N354q
   have K354 := K335.trans Kq354 (allS (Or.inr sz_b19) (allS (Or.inr sz_b25_0) (allS (Or.inr sz_b335_0) all0)))
   have g_b354_0 : n0 ≤ b354_0 := own_sz2 zq354 g_b335_0 (Nat.le_trans Z0 K335.1)
   have sz_b354_0 : h0.size ≤ b354_0 := own_sz2 zq354 sz_b335_0 K335.1
   have ne_b1_b354_0 : b1 ≠ b354_0 := own_ne2 ne_b1_b335_0 V3'_v355.lt zq354
   have ne_b4_b354_0 : b4 ≠ b354_0 := own_ne2 ne_b4_b335_0 q7_0'_v345.lt zq354
   have ne_b7_0_b354_0 : b7_0 ≠ b354_0 := own_ne2 ne_b7_0_b335_0 q7_3'_v348.lt zq354
   have ne_b8_b354_0 : b8 ≠ b354_0 := own_ne2 ne_b8_b335_0 V_b8_v349.lt zq354
   have ne_b10_b354_0 : b10 ≠ b354_0 := own_ne2 ne_b10_b335_0 A10_v340.lt zq354
   have ne_b19_b354_0 : b19 ≠ b354_0 := own_ne2 ne_b19_b335_0 A19_v339.lt zq354
   have ne_b25_0_b354_0 : b25_0 ≠ b354_0 := own_ne2 ne_b25_0_b335_0 q25_2'_v338.lt zq354
   have IC354 := own_acc IC335 hkC354
   have IS354 := own_acc IS335 hkS354
   refine oS (fun t k => XS.pop X354.here hx rfl (hb hby at_112) rfl rfl k) ?_
   refine oS (fun t k => XS.iload X354.here hx rfl (hb hby at_113) rfl k) ?_
   refine oS (fun t k => XS.iconst X354.here hx rfl (hb hby at_115) k) ?_
   show oG _ _ _ _ T354 (mkF m 116 (oL p1 p2 p3 p4 q5 p6 b1 b4 b8 b10 b19 (oI 3) .unset .unset .unset) [.int 3, .int 3])
   refine oS (fun t k => XS.icmpNo X354.here hx rfl (hb hby at_116) rfl (flt (show ¬ ((3 : Int32) < (3 : Int32)) from (by decide))).1 k) ?_
   refine oS (fun t k => XS.aload X354.here hx rfl (hb hby at_119) rfl rfl k) ?_
   refine oS (fun t k => XS.aload X354.here hx rfl (hb hby at_121) rfl rfl k) ?_
   show oG _ _ _ _ T354 (mkF m 123 (oL p1 p2 p3 p4 q5 p6 b1 b4 b8 b10 b19 (oI 3) .unset .unset .unset) [.ref b10, .ref b19])
   have hS356 : own_St cp354 z354 ((0 + ((4 + own_u (p2 &&& 255) + own_u (p3 &&& 255)) + (own_d q5 + 4 + 4 * (p4 &&& 3).toInt))) + ((4 + own_u (p2 &&& 255) + own_u (p3 &&& 255)) + (own_d q5 + 4 + 4 * (p4 &&& 3).toInt))) := ⟨sc354, sq354, by omega, by omega⟩
   have hN356 : ((0 + ((4 + own_u (p2 &&& 255) + own_u (p3 &&& 255)) + (own_d q5 + 4 + 4 * (p4 &&& 3).toInt))) + ((4 + own_u (p2 &&& 255) + own_u (p3 &&& 255)) + (own_d q5 + 4 + 4 * (p4 &&& 3).toInt))) + ((4 + own_u (p2 &&& 255) + own_u (p3 &&& 255)) + (own_d q5 + 4 + 4 * (p4 &&& 3).toInt)) ≤ 128 := by omega
   have q25_2'_v357 := (q25_2'_v338.keep Kq354)
   have A19_v358 := (A19_v339.keep Kq354)
   have A10_v359 := (A10_v340.keep Kq354)
   have q14_0'_v360 := (q14_0'_v341.keep Kq354 (ninS ne_b10_b19 (ninS ne_b10_b25_0 (ninS ne_b10_b335_0 nin0))))
   have q14_2'_v361 := (q14_2'_v342.keep Kq354 (ninS ne_b10_b19 (ninS ne_b10_b25_0 (ninS ne_b10_b335_0 nin0))))
   have q14_3'_v362 := (q14_3'_v343.keep Kq354 (ninS ne_b10_b19 (ninS ne_b10_b25_0 (ninS ne_b10_b335_0 nin0))))
   have q14_1'_v363 := (q14_1'_v344.keep Kq354 (ninS ne_b10_b19 (ninS ne_b10_b25_0 (ninS ne_b10_b335_0 nin0))))
   have q7_0'_v364 := (q7_0'_v345.keep Kq354)
   have q7_1'_v365 := (q7_1'_v346.keep Kq354 (ninS ne_b4_b19 (ninS ne_b4_b25_0 (ninS ne_b4_b335_0 nin0))))
   have q7_2'_v366 := (q7_2'_v347.keep Kq354 (ninS ne_b4_b19 (ninS ne_b4_b25_0 (ninS ne_b4_b335_0 nin0))))
   have q7_3'_v367 := (q7_3'_v348.keep Kq354 (ninS ne_b7_0_b19 (ninS ne_b7_0_b25_0 (ninS ne_b7_0_b335_0 nin0))))
   have V_b8_v368 := (V_b8_v349.keep Kq354 (ninS ne_b8_b19 (ninS ne_b8_b25_0 (ninS ne_b8_b335_0 nin0))))
   have S_C_v369 := (own_staKeep S_C_v350 Kq354 (allS (own_plainE A19_v339) (allS (own_plainE q25_2'_v338) (allS (own_plainB q335_2) all0))))
   have S_I_v370 := (own_staKeep S_I_v351 Kq354 (allS (own_plainE A19_v339) (allS (own_plainE q25_2'_v338) (allS (own_plainB q335_2) all0))))
   have S_U_v371 := (own_staKeep S_U_v352 Kq354 (allS (own_plainE A19_v339) (allS (own_plainE q25_2'_v338) (allS (own_plainB q335_2) all0))))
   have S_F_v372 := (own_staKeep S_F_v353 Kq354 (allS (own_plainE A19_v339) (allS (own_plainE q25_2'_v338) (allS (own_plainB q335_2) all0))))
   refine own_callVX X354 hx hZ (y := oy6) (z := oy6) hown (oW hw 105 rfl) (oW hw 106 rfl) (notFace_of_selects (args := #[]) (mvT hZ (oW hw 108 rfl))) (oW hw 108 rfl) (oW hw 107 rfl) (oW hw 109 rfl) (oW hw 57 rfl) (by decide) 0 A19_v358 [.ref b10] [] (own_add l Z a0 hw [] b25_0 b354_0 k354_0 cp354 z354 ((0 + ((4 + own_u (p2 &&& 255) + own_u (p3 &&& 255)) + (own_d q5 + 4 + 4 * (p4 &&& 3).toInt))) + ((4 + own_u (p2 &&& 255) + own_u (p3 &&& 255)) + (own_d q5 + 4 + 4 * (p4 &&& 3).toInt))) b19 (((0 : Int32) + (1 : Int32)) + (1 : Int32)) b10 b8 k8 q5 (p4 &&& 3) b4 u8 b7_0 k7_0 (p2 &&& 255) (p3 &&& 255) zc fm T354.heap n0 (Nat.le_trans Z0 K354.1) y354_1 q25_2'_v357 q354_0 q354_1 q354_2 A19_v358 y354_0 A10_v359 q14_0'_v360 q14_2'_v361 q14_3'_v362 q14_1'_v363 q7_0'_v364 q7_1'_v365 q7_2'_v366 q7_3'_v367 V_b8_v368 S_C_v369 S_I_v370 S_U_v371 S_F_v372 hS356 hN356 g_b25_0 g_b354_0 ne_b25_0_b354_0 (own_m255 p2).1 (own_m255 p2).2 (own_m255 p3).1 (own_m255 p3).2 hz rG (own_n3 p4).2.2.1 g_b19 ne_b4_b25_0 ne_b4_b354_0 ne_b7_0_b25_0 ne_b7_0_b354_0 ne_b10_b25_0 ne_b10_b354_0 ne_b8_b25_0 ne_b8_b354_0 ne_b19_b25_0 ne_b19_b354_0) rfl  (oB rfl) (oB rfl) (own_needR IC354 (oB rfl)) (own_needR IS354 (oB rfl)) (g := (mkF m 123 (oL p1 p2 p3 p4 q5 p6 b1 b4 b8 b10 b19 (oI 3) .unset .unset .unset) [.ref b10, .ref b19])) rfl (by rw [hml]; rfl) own_pd32 rfl rfl (by show 2 * 0 + _ ≤ _; exact Nat.le_of_eq rfl) (hb hby at_123) ?_
   intro T373 v373 L373 xc373 xs373 X373 hQ373
   have V3'_v374 := (V3'_v355.keep Kq354 (ninS ne_b1_b19 (ninS ne_b1_b25_0 (ninS ne_b1_b335_0 nin0))))
   obtain ⟨b373_0, k373_0, cp373, z373, rfl, N373q, Kq373, zq373, hT373, hkC373, hkS373, q373_0, q373_1, q373_2, y373_0, y373_1⟩ := hQ373
   obtain ⟨sc373, sq373, sl373, su373⟩ := hT373
   have N373 := Fr.app N354 N373q
   have K373 := K354.trans Kq373 (allS (Or.inr sz_b19) (allS (Or.inr sz_b25_0) (allS (Or.inr sz_b354_0) all0)))
   have g_b373_0 : n0 ≤ b373_0 := own_sz2 zq373 g_b354_0 (Nat.le_trans Z0 K354.1)
   have sz_b373_0 : h0.size ≤ b373_0 := own_sz2 zq373 sz_b354_0 K354.1
   have ne_b1_b373_0 : b1 ≠ b373_0 := own_ne2 ne_b1_b354_0 V3'_v374.lt zq373
   have ne_b4_b373_0 : b4 ≠ b373_0 := own_ne2 ne_b4_b354_0 q7_0'_v364.lt zq373
   have ne_b7_0_b373_0 : b7_0 ≠ b373_0 := own_ne2 ne_b7_0_b354_0 q7_3'_v367.lt zq373
   have ne_b8_b373_0 : b8 ≠ b373_0 := own_ne2 ne_b8_b354_0 V_b8_v368.lt zq373
   have ne_b10_b373_0 : b10 ≠ b373_0 := own_ne2 ne_b10_b354_0 A10_v359.lt zq373
   have ne_b19_b373_0 : b19 ≠ b373_0 := own_ne2 ne_b19_b354_0 A19_v358.lt zq373
   have ne_b25_0_b373_0 : b25_0 ≠ b373_0 := own_ne2 ne_b25_0_b354_0 q25_2'_v357.lt zq373
   have IC373 := own_acc IC354 hkC373
   have IS373 := own_acc IS354 hkS373
   refine oS (fun t k => XS.pop X373.here hx rfl (hb hby at_126) rfl rfl k) ?_
   refine oS (fun t k => XS.aload X373.here hx rfl (hb hby at_127) rfl rfl k) ?_
   show oG _ _ _ _ T373 (mkF m 129 (oL p1 p2 p3 p4 q5 p6 b1 b4 b8 b10 b19 (oI 3) .unset .unset .unset) [.ref b19])
   have A19_v375 := (A19_v358.keep Kq373)
   have q25_2'_v376 := (q25_2'_v357.keep Kq373)
   refine own_callV X373 hx hZ (y := oy8) (z := oy8) hown (oW hw 76 rfl) (oW hw 77 rfl) (notFace_of_selects (args := #[]) (mvT hZ (oW hw 79 rfl))) (oW hw 79 rfl) (oW hw 78 rfl) (oW hw 80 rfl) (oW hw 57 rfl) (by decide) 0 A19_v375 [] [] (own_clr l Z a0 hw [] b19 b25_0 ((((0 : Int32) + (1 : Int32)) + (1 : Int32)) + (1 : Int32)) z373 b373_0 T373.heap n0 (Nat.le_trans Z0 K373.1) A19_v375 y373_1 y373_0 q25_2'_v376 q373_0 q373_1 g_b19 g_b25_0 ne_b19_b25_0) rfl  (oB rfl) (oB rfl) (own_needRL IC373 (oB rfl)) (own_needRL IS373 (oB rfl)) (g := (mkF m 129 (oL p1 p2 p3 p4 q5 p6 b1 b4 b8 b10 b19 (oI 3) .unset .unset .unset) [.ref b19])) rfl (by rw [hml]; rfl) own_pd31 rfl rfl (by show 2 * 0 + _ ≤ _; exact Nat.le_of_eq rfl) (hb hby at_129) ?_
   intro T377 v377 L377 X377 hQ377
   have V3'_v378 := (V3'_v374.keep Kq373 (ninS ne_b1_b19 (ninS ne_b1_b25_0 (ninS ne_b1_b354_0 nin0))))
   have q7_0'_v379 := (q7_0'_v364.keep Kq373)
   have q7_3'_v380 := (q7_3'_v367.keep Kq373 (ninS ne_b7_0_b19 (ninS ne_b7_0_b25_0 (ninS ne_b7_0_b354_0 nin0))))
   have V_b8_v381 := (V_b8_v368.keep Kq373 (ninS ne_b8_b19 (ninS ne_b8_b25_0 (ninS ne_b8_b354_0 nin0))))
   have A10_v382 := (A10_v359.keep Kq373)
   obtain ⟨rfl, N377q, Kq377, q377_0, q377_1, q377_2, q377_3⟩ := hQ377
   have N377 := Fr.app N373 N377q
   have K377 := K373.trans Kq377 (allS (Or.inr sz_b19) (allS (Or.inr sz_b25_0) all0))
   have q377_0' : Fld Z T377.heap b19 "com/example/ringshift/ringshift/data/RowBatch$Builder" "rows" "Lcom/example/ringshift/ringshift/io/BinaryWriter;" (.ref b25_0) := q377_0
   have q377_1' : Fld Z T377.heap b25_0 "com/example/ringshift/ringshift/io/BinaryWriter" "bytes" "[B" (.ref b373_0) := q377_1
   have q377_2' : Fld Z T377.heap b19 "com/example/ringshift/ringshift/data/RowBatch$Builder" "count" "I" (.int 0) := q377_2
   have q377_3' : Fld Z T377.heap b25_0 "com/example/ringshift/ringshift/io/BinaryWriter" "size" "I" (.int 0) := q377_3
   have IC377 := own_accL 0 IC373
   have IS377 := own_accL 0 IS373
   refine oS (fun t k => XS.astore X377.here hx rfl (hb hby at_132) rfl rfl (l' := (oL p1 p2 p3 p4 q5 p6 b1 b4 b8 b10 b19 (oI 3) (oR b19) .unset .unset)) rfl k) ?_
   refine oS (fun t k => XS.iload X377.here hx rfl (hb hby at_134) rfl k) ?_
   refine oS (fun t k => XS.iconst X377.here hx rfl (hb hby at_136) k) ?_
   refine oS (fun t k => XS.iand X377.here hx rfl (hb hby at_137) rfl k) ?_
   show oG _ _ _ _ T377 (mkF m 138 (oL p1 p2 p3 p4 q5 p6 b1 b4 b8 b10 b19 (oI 3) (oR b19) .unset .unset) [(.int (p6 &&& 1))])
   by_cases hc138_383 : (p6 &&& 1) = (0 : Int32)
   · refine oS (fun t k => XS.ifYes X377.here hx rfl (pc0 := 138) (pc' := 148) rfl (hb hby at_138) rfl ((if0 _ _).trans (teq (show (p6 &&& 1) = (0 : Int32) from hc138_383)).1) (by decide) (by decide) k) ?_
     refine oS (fun t k => XS.aload X377.here hx rfl (hb hby at_148) rfl rfl k) ?_
     refine oS (fun t k => XS.aload X377.here hx rfl (hb hby at_150) rfl rfl k) ?_
     show oG _ _ _ _ T377 (mkF m 152 (oL p1 p2 p3 p4 q5 p6 b1 b4 b8 b10 b19 (oI 3) (oR b19) .unset .unset) [.ref b19, .ref b19])
     refine oS (fun t k => Jvm.RoadKit.acmp (g := (mkF m 152 (oL p1 p2 p3 p4 q5 p6 b1 b4 b8 b10 b19 (oI 3) (oR b19) .unset .unset) [.ref b19, .ref b19])) X377 hx rfl rfl rfl (pc0 := 152) (pc' := 155) (same := true) rfl (hb hby at_152) rfl (decide_eq_true rfl) (by decide) (by decide) k) ?_
     refine oS (fun t k => XS.aload X377.here hx rfl (hb hby at_155) rfl rfl k) ?_
     show oG _ _ _ _ T377 (mkF m 157 (oL p1 p2 p3 p4 q5 p6 b1 b4 b8 b10 b19 (oI 3) (oR b19) .unset .unset) [.ref b19])
     have A19_v385 := (A19_v375.keep Kq377)
     refine own_callV X377 hx hZ (y := oy9) (z := oy9) hown (oW hw 90 rfl) (oW hw 91 rfl) (notFace_of_selects (args := #[]) (mvT hZ (oW hw 93 rfl))) (oW hw 93 rfl) (oW hw 92 rfl) (oW hw 94 rfl) (oW hw 57 rfl) (by decide) 0 A19_v385 [] [] (own_cnt l Z a0 hw [] b19 0 T377.heap n0 (Nat.le_trans Z0 K377.1) q377_2') rfl  (oB rfl) (oB rfl) (own_needRL IC377 (oB rfl)) (own_needRL IS377 (oB rfl)) (g := (mkF m 157 (oL p1 p2 p3 p4 q5 p6 b1 b4 b8 b10 b19 (oI 3) (oR b19) .unset .unset) [.ref b19])) rfl (by rw [hml]; rfl) own_pd17 rfl rfl (by show 2 * 0 + _ ≤ _; exact Nat.le_of_eq rfl) (hb hby at_157) ?_
     intro T384 v384 L384 X384 hQ384
     obtain ⟨rfl, N384q, e384⟩ := hQ384
     have N384 := Fr.app N377 N384q
     have IC384 := own_accL 0 IC377
     have IS384 := own_accL 0 IS377
     show oG _ _ _ _ T384 (mkF m 160 (oL p1 p2 p3 p4 q5 p6 b1 b4 b8 b10 b19 (oI 3) (oR b19) .unset .unset) [.int 0])
     refine oS (fun t k => XS.ifNo X384.here hx rfl (hb hby at_160) rfl ((if0 _ _).trans (teq (show (0 : Int32) = (0 : Int32) from (by decide))).2) k) ?_
     refine oS (fun t k => XS.aload X384.here hx rfl (hb hby at_163) rfl rfl k) ?_
     show oG _ _ _ _ T384 (mkF m 165 (oL p1 p2 p3 p4 q5 p6 b1 b4 b8 b10 b19 (oI 3) (oR b19) .unset .unset) [.ref b19])
     have q25_2'_v386 := (q25_2'_v376.keep Kq377)
     refine own_callV X384 hx hZ (y := oy7) (z := oy7) hown (oW hw 95 rfl) (oW hw 96 rfl) (notFace_of_selects (args := #[]) (mvT hZ (oW hw 98 rfl))) (oW hw 98 rfl) (oW hw 97 rfl) (oW hw 99 rfl) (oW hw 57 rfl) (by decide) 0 A19_v385 [] [] (own_byt l Z a0 hw [] b19 b25_0 0 T377.heap n0 (Nat.le_trans Z0 K377.1) q377_0' q25_2'_v386 q377_3') e384  (oB rfl) (oB rfl) (own_needRL IC384 (oB rfl)) (own_needRL IS384 (oB rfl)) (g := (mkF m 165 (oL p1 p2 p3 p4 q5 p6 b1 b4 b8 b10 b19 (oI 3) (oR b19) .unset .unset) [.ref b19])) rfl (by rw [hml]; rfl) own_pd17 rfl rfl (by show 2 * 0 + _ ≤ _; exact Nat.le_of_eq rfl) (hb hby at_165) ?_
     intro T387 v387 L387 X387 hQ387
     obtain ⟨rfl, N387q, e387⟩ := hQ387
     have N387 := Fr.app N384 N387q
     have IC387 := own_accL 0 IC384
     have IS387 := own_accL 0 IS384
     show oG _ _ _ _ T387 (mkF m 168 (oL p1 p2 p3 p4 q5 p6 b1 b4 b8 b10 b19 (oI 3) (oR b19) .unset .unset) [.int 0])
     refine oS (fun t k => XS.ifNo X387.here hx rfl (hb hby at_168) rfl ((if0 _ _).trans (teq (show (0 : Int32) = (0 : Int32) from (by decide))).2) k) ?_
     refine oS (fun t k => XS.iconst X387.here hx rfl (hb hby at_171) k) ?_
     refine oS (fun t k => XS.goto X387.here hx rfl (pc0 := 172) (pc' := 176) rfl (hb hby at_172) (by decide) (by decide) k) ?_
     refine oS (fun t k => XS.istore X387.here hx rfl (hb hby at_176) rfl (l' := (oL p1 p2 p3 p4 q5 p6 b1 b4 b8 b10 b19 (oI 3) (oR b19) (oI 1) .unset)) rfl k) ?_
     refine oS (fun t k => XS.aload X387.here hx rfl (hb hby at_178) rfl rfl k) ?_
     refine oS (fun t k => XS.aload X387.here hx rfl (hb hby at_180) rfl rfl k) ?_
     show oG _ _ _ _ T387 (mkF m 182 (oL p1 p2 p3 p4 q5 p6 b1 b4 b8 b10 b19 (oI 3) (oR b19) (oI 1) .unset) [.ref b10, .ref b19])
     have hS388 : own_St cp373 (0 : Int32) 0 := ⟨sc373, tz, by omega, by omega⟩
     have hN388 : 0 + ((4 + own_u (p2 &&& 255) + own_u (p3 &&& 255)) + (own_d q5 + 4 + 4 * (p4 &&& 3).toInt)) ≤ 128 := by omega
     have q373_2_v389 := (q373_2.keep Kq377 (ninS (Ne.symm ne_b19_b373_0) (ninS (Ne.symm ne_b25_0_b373_0) nin0)))
     have A10_v390 := (A10_v382.keep Kq377)
     have q14_0'_v391 := ((q14_0'_v360.keep Kq373 (ninS ne_b10_b19 (ninS ne_b10_b25_0 (ninS ne_b10_b354_0 nin0)))).keep Kq377 (ninS ne_b10_b19 (ninS ne_b10_b25_0 nin0)))
     have q14_2'_v392 := ((q14_2'_v361.keep Kq373 (ninS ne_b10_b19 (ninS ne_b10_b25_0 (ninS ne_b10_b354_0 nin0)))).keep Kq377 (ninS ne_b10_b19 (ninS ne_b10_b25_0 nin0)))
     have q14_3'_v393 := ((q14_3'_v362.keep Kq373 (ninS ne_b10_b19 (ninS ne_b10_b25_0 (ninS ne_b10_b354_0 nin0)))).keep Kq377 (ninS ne_b10_b19 (ninS ne_b10_b25_0 nin0)))
     have q14_1'_v394 := ((q14_1'_v363.keep Kq373 (ninS ne_b10_b19 (ninS ne_b10_b25_0 (ninS ne_b10_b354_0 nin0)))).keep Kq377 (ninS ne_b10_b19 (ninS ne_b10_b25_0 nin0)))
     have q7_0'_v395 := (q7_0'_v379.keep Kq377)
     have q7_1'_v396 := ((q7_1'_v365.keep Kq373 (ninS ne_b4_b19 (ninS ne_b4_b25_0 (ninS ne_b4_b354_0 nin0)))).keep Kq377 (ninS ne_b4_b19 (ninS ne_b4_b25_0 nin0)))
     have q7_2'_v397 := ((q7_2'_v366.keep Kq373 (ninS ne_b4_b19 (ninS ne_b4_b25_0 (ninS ne_b4_b354_0 nin0)))).keep Kq377 (ninS ne_b4_b19 (ninS ne_b4_b25_0 nin0)))
     have q7_3'_v398 := (q7_3'_v380.keep Kq377 (ninS ne_b7_0_b19 (ninS ne_b7_0_b25_0 nin0)))
     have V_b8_v399 := (V_b8_v381.keep Kq377 (ninS ne_b8_b19 (ninS ne_b8_b25_0 nin0)))
     have S_C_v400 := (own_staKeep (own_staKeep S_C_v369 Kq373 (allS (own_plainE A19_v358) (allS (own_plainE q25_2'_v357) (allS (own_plainB q354_2) all0)))) Kq377 (allS (own_plainE A19_v375) (allS (own_plainE q25_2'_v376) all0)))
     have S_I_v401 := (own_staKeep (own_staKeep S_I_v370 Kq373 (allS (own_plainE A19_v358) (allS (own_plainE q25_2'_v357) (allS (own_plainB q354_2) all0)))) Kq377 (allS (own_plainE A19_v375) (allS (own_plainE q25_2'_v376) all0)))
     have S_U_v402 := (own_staKeep (own_staKeep S_U_v371 Kq373 (allS (own_plainE A19_v358) (allS (own_plainE q25_2'_v357) (allS (own_plainB q354_2) all0)))) Kq377 (allS (own_plainE A19_v375) (allS (own_plainE q25_2'_v376) all0)))
     have S_F_v403 := (own_staKeep (own_staKeep S_F_v372 Kq373 (allS (own_plainE A19_v358) (allS (own_plainE q25_2'_v357) (allS (own_plainB q354_2) all0)))) Kq377 (allS (own_plainE A19_v375) (allS (own_plainE q25_2'_v376) all0)))
     refine own_callVX X387 hx hZ (y := oy6) (z := oy6) hown (oW hw 105 rfl) (oW hw 106 rfl) (notFace_of_selects (args := #[]) (mvT hZ (oW hw 108 rfl))) (oW hw 108 rfl) (oW hw 107 rfl) (oW hw 109 rfl) (oW hw 57 rfl) (by decide) 0 A19_v385 [.ref b10] [] (own_add l Z a0 hw [] b25_0 b373_0 k373_0 cp373 0 0 b19 0 b10 b8 k8 q5 (p4 &&& 3) b4 u8 b7_0 k7_0 (p2 &&& 255) (p3 &&& 255) zc fm T377.heap n0 (Nat.le_trans Z0 K377.1) q377_0' q25_2'_v386 q377_3' q377_1' q373_2_v389 A19_v385 q377_2' A10_v390 q14_0'_v391 q14_2'_v392 q14_3'_v393 q14_1'_v394 q7_0'_v395 q7_1'_v396 q7_2'_v397 q7_3'_v398 V_b8_v399 S_C_v400 S_I_v401 S_U_v402 S_F_v403 hS388 hN388 g_b25_0 g_b373_0 ne_b25_0_b373_0 (own_m255 p2).1 (own_m255 p2).2 (own_m255 p3).1 (own_m255 p3).2 hz rG (own_n3 p4).2.2.1 g_b19 ne_b4_b25_0 ne_b4_b373_0 ne_b7_0_b25_0 ne_b7_0_b373_0 ne_b10_b25_0 ne_b10_b373_0 ne_b8_b25_0 ne_b8_b373_0 ne_b19_b25_0 ne_b19_b373_0) e387  (oB rfl) (oB rfl) (own_needR IC387 (oB rfl)) (own_needR IS387 (oB rfl)) (g := (mkF m 182 (oL p1 p2 p3 p4 q5 p6 b1 b4 b8 b10 b19 (oI 3) (oR b19) (oI 1) .unset) [.ref b10, .ref b19])) rfl (by rw [hml]; rfl) own_pd32 rfl rfl (by show 2 * 0 + _ ≤ _; exact Nat.le_of_eq rfl) (hb hby at_182) ?_
     intro T404 v404 L404 xc404 xs404 X404 hQ404
     have V3'_v405 := (V3'_v378.keep Kq377 (ninS ne_b1_b19 (ninS ne_b1_b25_0 nin0)))
     obtain ⟨b404_0, k404_0, cp404, z404, rfl, N404q, Kq404, zq404, hT404, hkC404, hkS404, q404_0, q404_1, q404_2, y404_0, y404_1⟩ := hQ404
     obtain ⟨sc404, sq404, sl404, su404⟩ := hT404
     have N404 := Fr.app N387 N404q
     have K404 := K377.trans Kq404 (allS (Or.inr sz_b19) (allS (Or.inr sz_b25_0) (allS (Or.inr sz_b373_0) all0)))
     have g_b404_0 : n0 ≤ b404_0 := own_sz2 zq404 g_b373_0 (Nat.le_trans Z0 K377.1)
     have sz_b404_0 : h0.size ≤ b404_0 := own_sz2 zq404 sz_b373_0 K377.1
     have ne_b1_b404_0 : b1 ≠ b404_0 := own_ne2 ne_b1_b373_0 V3'_v405.lt zq404
     have ne_b4_b404_0 : b4 ≠ b404_0 := own_ne2 ne_b4_b373_0 q7_0'_v395.lt zq404
     have ne_b7_0_b404_0 : b7_0 ≠ b404_0 := own_ne2 ne_b7_0_b373_0 q7_3'_v398.lt zq404
     have ne_b8_b404_0 : b8 ≠ b404_0 := own_ne2 ne_b8_b373_0 V_b8_v399.lt zq404
     have ne_b10_b404_0 : b10 ≠ b404_0 := own_ne2 ne_b10_b373_0 A10_v390.lt zq404
     have ne_b19_b404_0 : b19 ≠ b404_0 := own_ne2 ne_b19_b373_0 A19_v385.lt zq404
     have ne_b25_0_b404_0 : b25_0 ≠ b404_0 := own_ne2 ne_b25_0_b373_0 q25_2'_v386.lt zq404
     have IC404 := own_acc IC387 hkC404
     have IS404 := own_acc IS387 hkS404
     refine oS (fun t k => XS.pop X404.here hx rfl (hb hby at_185) rfl rfl k) ?_
     refine oS (fun t k => XS.iconst X404.here hx rfl (hb hby at_186) k) ?_
     refine oS (fun t k => XS.iload X404.here hx rfl (hb hby at_187) rfl k) ?_
     show oG _ _ _ _ T404 (mkF m 189 (oL p1 p2 p3 p4 q5 p6 b1 b4 b8 b10 b19 (oI 3) (oR b19) (oI 1) .unset) [(.int (p2 &&& 255)), .int 4])
     refine own_callS X404 hx hZ (y := oy0) hown (oW hw 177 rfl) (oW hw 178 rfl) (oW hw 179 rfl) (oW hw 180 rfl) (by decide) 1 [(.int (p2 &&& 255))] [.int 4] (own_ut8 l Z a0 hw [] (p2 &&& 255) T404.heap n0 (Nat.le_trans Z0 K404.1) ) rfl  (oB rfl) (oB rfl) (own_needRL IC404 (oB rfl)) (own_needRL IS404 (oB rfl)) (g := (mkF m 189 (oL p1 p2 p3 p4 q5 p6 b1 b4 b8 b10 b19 (oI 3) (oR b19) (oI 1) .unset) [(.int (p2 &&& 255)), .int 4])) rfl (by rw [hml]; rfl) own_pd33 rfl rfl (by show 2 * 0 + _ ≤ _; exact Nat.le_of_eq rfl) (hb hby at_189) ?_
     intro T406 v406 L406 X406 hQ406
     obtain ⟨rfl, N406q, e406⟩ := hQ406
     have N406 := Fr.app N404 N406q
     have IC406 := own_accL 0 IC404
     have IS406 := own_accL 0 IS404
     refine oS (fun t k => XS.iadd X406.here hx rfl (hb hby at_192) rfl k) ?_
     refine oS (fun t k => XS.iload X406.here hx rfl (hb hby at_193) rfl k) ?_
     show oG _ _ _ _ T406 (mkF m 195 (oL p1 p2 p3 p4 q5 p6 b1 b4 b8 b10 b19 (oI 3) (oR b19) (oI 1) .unset) [(.int (p3 &&& 255)), (.int ((4 : Int32) + (own_ui (p2 &&& 255))))])
     refine own_callS X406 hx hZ (y := oy0) hown (oW hw 177 rfl) (oW hw 178 rfl) (oW hw 179 rfl) (oW hw 180 rfl) (by decide) 1 [(.int (p3 &&& 255))] [(.int ((4 : Int32) + (own_ui (p2 &&& 255))))] (own_ut8 l Z a0 hw [] (p3 &&& 255) T404.heap n0 (Nat.le_trans Z0 K404.1) ) e406  (oB rfl) (oB rfl) (own_needRL IC406 (oB rfl)) (own_needRL IS406 (oB rfl)) (g := (mkF m 195 (oL p1 p2 p3 p4 q5 p6 b1 b4 b8 b10 b19 (oI 3) (oR b19) (oI 1) .unset) [(.int (p3 &&& 255)), (.int ((4 : Int32) + (own_ui (p2 &&& 255))))])) rfl (by rw [hml]; rfl) own_pd33 rfl rfl (by show 2 * 0 + _ ≤ _; exact Nat.le_of_eq rfl) (hb hby at_195) ?_
     intro T407 v407 L407 X407 hQ407
     obtain ⟨rfl, N407q, e407⟩ := hQ407
     have N407 := Fr.app N406 N407q
     have IC407 := own_accL 0 IC406
     have IS407 := own_accL 0 IS406
     refine oS (fun t k => XS.iadd X407.here hx rfl (hb hby at_198) rfl k) ?_
     refine oS (fun t k => XS.lload X407.here hx rfl (hb hby at_199) rfl k) ?_
     refine oS (fun t k => XS.lconst X407.here hx rfl (hb hby at_201) k) ?_
     show oG _ _ _ _ T407 (mkF m 202 (oL p1 p2 p3 p4 q5 p6 b1 b4 b8 b10 b19 (oI 3) (oR b19) (oI 1) .unset) [(.long (0 : Int64)), (.long q5), (.int (((4 : Int32) + (own_ui (p2 &&& 255))) + (own_ui (p3 &&& 255))))])
     refine oS (fun t k => XS.lcmp X407.here hx rfl (hb hby at_202) rfl k) ?_
     refine own_join (fun r408 => own_d q5 = r408.toInt) (fun r408 => (mkF m 212 (oL p1 p2 p3 p4 q5 p6 b1 b4 b8 b10 b19 (oI 3) (oR b19) (oI 1) .unset) [.int r408, (.int (((4 : Int32) + (own_ui (p2 &&& 255))) + (own_ui (p3 &&& 255))))])) ?_ ?_
     · intro r408 hr408
       show oG _ _ _ _ T407 (mkF m 212 (oL p1 p2 p3 p4 q5 p6 b1 b4 b8 b10 b19 (oI 3) (oR b19) (oI 1) .unset) [.int r408, (.int (((4 : Int32) + (own_ui (p2 &&& 255))) + (own_ui (p3 &&& 255))))])
       refine oS (fun t k => XS.iadd X407.here hx rfl (hb hby at_212) rfl k) ?_
       refine oS (fun t k => XS.iconst X407.here hx rfl (hb hby at_213) k) ?_
       refine oS (fun t k => XS.iadd X407.here hx rfl (hb hby at_214) rfl k) ?_
       refine oS (fun t k => XS.iconst X407.here hx rfl (hb hby at_215) k) ?_
       refine oS (fun t k => XS.iload X407.here hx rfl (hb hby at_216) rfl k) ?_
       refine oS (fun t k => XS.imul X407.here hx rfl (hb hby at_218) rfl k) ?_
       refine oS (fun t k => XS.iadd X407.here hx rfl (hb hby at_219) rfl k) ?_
       refine oS (fun t k => XS.istore X407.here hx rfl (hb hby at_220) rfl (l' := (oL p1 p2 p3 p4 q5 p6 b1 b4 b8 b10 b19 (oI 3) (oR b19) (oI 1) (oI ((((((4 : Int32) + (own_ui (p2 &&& 255))) + (own_ui (p3 &&& 255))) + r408) + (4 : Int32)) + ((4 : Int32) * (p4 &&& 3)))))) rfl k) ?_
       refine oS (fun t k => XS.iload X407.here hx rfl (hb hby at_222) rfl k) ?_
       show oG _ _ _ _ T407 (mkF m 224 (oL p1 p2 p3 p4 q5 p6 b1 b4 b8 b10 b19 (oI 3) (oR b19) (oI 1) (oI ((((((4 : Int32) + (own_ui (p2 &&& 255))) + (own_ui (p3 &&& 255))) + r408) + (4 : Int32)) + ((4 : Int32) * (p4 &&& 3))))) [.int 1])
       refine oS (fun t k => XS.ifNo X407.here hx rfl (hb hby at_224) rfl ((if0 _ _).trans (feq (show ¬ ((1 : Int32) = (0 : Int32)) from (by decide))).1) k) ?_
       refine oS (fun t k => XS.aload X407.here hx rfl (hb hby at_227) rfl rfl k) ?_
       show oG _ _ _ _ T407 (mkF m 229 (oL p1 p2 p3 p4 q5 p6 b1 b4 b8 b10 b19 (oI 3) (oR b19) (oI 1) (oI ((((((4 : Int32) + (own_ui (p2 &&& 255))) + (own_ui (p3 &&& 255))) + r408) + (4 : Int32)) + ((4 : Int32) * (p4 &&& 3))))) [.ref b19])
       have A19_v410 := (A19_v385.keep Kq404)
       refine own_callV X407 hx hZ (y := oy9) (z := oy9) hown (oW hw 90 rfl) (oW hw 91 rfl) (notFace_of_selects (args := #[]) (mvT hZ (oW hw 93 rfl))) (oW hw 93 rfl) (oW hw 92 rfl) (oW hw 94 rfl) (oW hw 57 rfl) (by decide) 0 A19_v410 [] [] (own_cnt l Z a0 hw [] b19 ((0 : Int32) + (1 : Int32)) T404.heap n0 (Nat.le_trans Z0 K404.1) y404_0) e407  (oB rfl) (oB rfl) (own_needRL IC407 (oB rfl)) (own_needRL IS407 (oB rfl)) (g := (mkF m 229 (oL p1 p2 p3 p4 q5 p6 b1 b4 b8 b10 b19 (oI 3) (oR b19) (oI 1) (oI ((((((4 : Int32) + (own_ui (p2 &&& 255))) + (own_ui (p3 &&& 255))) + r408) + (4 : Int32)) + ((4 : Int32) * (p4 &&& 3))))) [.ref b19])) rfl (by rw [hml]; rfl) own_pd17 rfl rfl (by show 2 * 0 + _ ≤ _; exact Nat.le_of_eq rfl) (hb hby at_229) ?_
       intro T409 v409 L409 X409 hQ409
       obtain ⟨rfl, N409q, e409⟩ := hQ409
       have N409 := Fr.app N407 N409q
       have IC409 := own_accL 0 IC407
       have IS409 := own_accL 0 IS407
       refine oS (fun t k => XS.iconst X409.here hx rfl (hb hby at_232) k) ?_
       show oG _ _ _ _ T409 (mkF m 233 (oL p1 p2 p3 p4 q5 p6 b1 b4 b8 b10 b19 (oI 3) (oR b19) (oI 1) (oI ((((((4 : Int32) + (own_ui (p2 &&& 255))) + (own_ui (p3 &&& 255))) + r408) + (4 : Int32)) + ((4 : Int32) * (p4 &&& 3))))) [.int 1, (.int ((0 : Int32) + (1 : Int32)))])
       refine oS (fun t k => XS.icmpNo X409.here hx rfl (hb hby at_233) rfl (teq (show ((0 : Int32) + (1 : Int32)) = (1 : Int32) from (by decide))).2 k) ?_
       refine oS (fun t k => XS.aload X409.here hx rfl (hb hby at_236) rfl rfl k) ?_
       show oG _ _ _ _ T409 (mkF m 238 (oL p1 p2 p3 p4 q5 p6 b1 b4 b8 b10 b19 (oI 3) (oR b19) (oI 1) (oI ((((((4 : Int32) + (own_ui (p2 &&& 255))) + (own_ui (p3 &&& 255))) + r408) + (4 : Int32)) + ((4 : Int32) * (p4 &&& 3))))) [.ref b19])
       have q25_2'_v411 := (q25_2'_v386.keep Kq404)
       refine own_callV X409 hx hZ (y := oy7) (z := oy7) hown (oW hw 95 rfl) (oW hw 96 rfl) (notFace_of_selects (args := #[]) (mvT hZ (oW hw 98 rfl))) (oW hw 98 rfl) (oW hw 97 rfl) (oW hw 99 rfl) (oW hw 57 rfl) (by decide) 0 A19_v410 [] [] (own_byt l Z a0 hw [] b19 b25_0 z404 T404.heap n0 (Nat.le_trans Z0 K404.1) y404_1 q25_2'_v411 q404_0) e409  (oB rfl) (oB rfl) (own_needRL IC409 (oB rfl)) (own_needRL IS409 (oB rfl)) (g := (mkF m 238 (oL p1 p2 p3 p4 q5 p6 b1 b4 b8 b10 b19 (oI 3) (oR b19) (oI 1) (oI ((((((4 : Int32) + (own_ui (p2 &&& 255))) + (own_ui (p3 &&& 255))) + r408) + (4 : Int32)) + ((4 : Int32) * (p4 &&& 3))))) [.ref b19])) rfl (by rw [hml]; rfl) own_pd17 rfl rfl (by show 2 * 0 + _ ≤ _; exact Nat.le_of_eq rfl) (hb hby at_238) ?_
       intro T412 v412 L412 X412 hQ412
       obtain ⟨rfl, N412q, e412⟩ := hQ412
       have N412 := Fr.app N409 N412q
       have IC412 := own_accL 0 IC409
       have IS412 := own_accL 0 IS409
       refine oS (fun t k => XS.iload X412.here hx rfl (hb hby at_241) rfl k) ?_
       show oG _ _ _ _ T412 (mkF m 243 (oL p1 p2 p3 p4 q5 p6 b1 b4 b8 b10 b19 (oI 3) (oR b19) (oI 1) (oI ((((((4 : Int32) + (own_ui (p2 &&& 255))) + (own_ui (p3 &&& 255))) + r408) + (4 : Int32)) + ((4 : Int32) * (p4 &&& 3))))) [(.int ((((((4 : Int32) + (own_ui (p2 &&& 255))) + (own_ui (p3 &&& 255))) + r408) + (4 : Int32)) + ((4 : Int32) * (p4 &&& 3)))), .int z404])
       refine oS (fun t k => XS.icmpNo X412.here hx rfl (hb hby at_243) rfl (teq (show z404 = ((((((4 : Int32) + (own_ui (p2 &&& 255))) + (own_ui (p3 &&& 255))) + r408) + (4 : Int32)) + ((4 : Int32) * (p4 &&& 3))) from (own_exp sq404 hr408 tn))).2 k) ?_
       refine oS (fun t k => XS.iconst X412.here hx rfl (hb hby at_246) k) ?_
       refine oS (fun t k => XS.goto X412.here hx rfl (pc0 := 247) (pc' := 251) rfl (hb hby at_247) (by decide) (by decide) k) ?_
       show oG _ _ _ _ T412 (mkF m 251 (oL p1 p2 p3 p4 q5 p6 b1 b4 b8 b10 b19 (oI 3) (oR b19) (oI 1) (oI ((((((4 : Int32) + (own_ui (p2 &&& 255))) + (own_ui (p3 &&& 255))) + r408) + (4 : Int32)) + ((4 : Int32) * (p4 &&& 3))))) [.int 1])
       exact own_retN X412 hx hlk (t := .boolean) hrt (by simp) (hb hby at_251) ⟨rfl, N412⟩ (own_finR IC412 (oB rfl)) (own_finR IS412 (oB rfl))
     · intro tail408
       by_cases hc203_413 : (lcmpW q5 (0 : Int64)) = (0 : Int32)
       · refine oS (fun t k => XS.ifYes X407.here hx rfl (pc0 := 203) (pc' := 211) rfl (hb hby at_203) rfl ((if0 _ _).trans (teq (show (lcmpW q5 (0 : Int64)) = (0 : Int32) from hc203_413)).1) (by decide) (by decide) k) ?_
         refine oS (fun t k => XS.iconst X407.here hx rfl (hb hby at_211) k) ?_
         exact tail408 _ ((own_d0 hc203_413).trans (by decide))
       · refine oS (fun t k => XS.ifNo X407.here hx rfl (hb hby at_203) rfl ((if0 _ _).trans (feq (show ¬ ((lcmpW q5 (0 : Int64)) = (0 : Int32)) from hc203_413)).1) k) ?_
         refine oS (fun t k => XS.bipush X407.here hx rfl (hb hby at_206) k) ?_
         refine oS (fun t k => XS.goto X407.here hx rfl (pc0 := 208) (pc' := 212) rfl (hb hby at_208) (by decide) (by decide) k) ?_
         exact tail408 _ ((own_d1 hc203_413).trans (by decide))
   · refine oS (fun t k => XS.ifNo X377.here hx rfl (hb hby at_138) rfl ((if0 _ _).trans (feq (show ¬ ((p6 &&& 1) = (0 : Int32)) from hc138_383)).1) k) ?_
     refine oS (fun t k => XS.aload X377.here hx rfl (hb hby at_141) rfl rfl k) ?_
     show oG _ _ _ _ T377 (mkF m 143 (oL p1 p2 p3 p4 q5 p6 b1 b4 b8 b10 b19 (oI 3) (oR b19) .unset .unset) [.ref b19])
     have A19_v414 := (A19_v375.keep Kq377)
     have q25_2'_v415 := (q25_2'_v376.keep Kq377)
     refine own_callV X377 hx hZ (y := oy8) (z := oy8) hown (oW hw 76 rfl) (oW hw 77 rfl) (notFace_of_selects (args := #[]) (mvT hZ (oW hw 79 rfl))) (oW hw 79 rfl) (oW hw 78 rfl) (oW hw 80 rfl) (oW hw 57 rfl) (by decide) 0 A19_v414 [] [] (own_clr l Z a0 hw [] b19 b25_0 0 0 b373_0 T377.heap n0 (Nat.le_trans Z0 K377.1) A19_v414 q377_0' q377_2' q25_2'_v415 q377_3' q377_1' g_b19 g_b25_0 ne_b19_b25_0) rfl  (oB rfl) (oB rfl) (own_needRL IC377 (oB rfl)) (own_needRL IS377 (oB rfl)) (g := (mkF m 143 (oL p1 p2 p3 p4 q5 p6 b1 b4 b8 b10 b19 (oI 3) (oR b19) .unset .unset) [.ref b19])) rfl (by rw [hml]; rfl) own_pd31 rfl rfl (by show 2 * 0 + _ ≤ _; exact Nat.le_of_eq rfl) (hb hby at_143) ?_
     intro T416 v416 L416 X416 hQ416
     have V3'_v417 := (V3'_v378.keep Kq377 (ninS ne_b1_b19 (ninS ne_b1_b25_0 nin0)))
     have q7_0'_v418 := (q7_0'_v379.keep Kq377)
     have q7_3'_v419 := (q7_3'_v380.keep Kq377 (ninS ne_b7_0_b19 (ninS ne_b7_0_b25_0 nin0)))
     have V_b8_v420 := (V_b8_v381.keep Kq377 (ninS ne_b8_b19 (ninS ne_b8_b25_0 nin0)))
     have A10_v421 := (A10_v382.keep Kq377)
     have q373_2_v422 := (q373_2.keep Kq377 (ninS (Ne.symm ne_b19_b373_0) (ninS (Ne.symm ne_b25_0_b373_0) nin0)))
     obtain ⟨rfl, N416q, Kq416, q416_0, q416_1, q416_2, q416_3⟩ := hQ416
     have N416 := Fr.app N377 N416q
     have K416 := K377.trans Kq416 (allS (Or.inr sz_b19) (allS (Or.inr sz_b25_0) all0))
     have q416_0' : Fld Z T416.heap b19 "com/example/ringshift/ringshift/data/RowBatch$Builder" "rows" "Lcom/example/ringshift/ringshift/io/BinaryWriter;" (.ref b25_0) := q416_0
     have q416_1' : Fld Z T416.heap b25_0 "com/example/ringshift/ringshift/io/BinaryWriter" "bytes" "[B" (.ref b373_0) := q416_1
     have q416_2' : Fld Z T416.heap b19 "com/example/ringshift/ringshift/data/RowBatch$Builder" "count" "I" (.int 0) := q416_2
     have q416_3' : Fld Z T416.heap b25_0 "com/example/ringshift/ringshift/io/BinaryWriter" "size" "I" (.int 0) := q416_3
     have IC416 := own_accL 0 IC377
     have IS416 := own_accL 0 IS377
     refine oS (fun t k => XS.astore X416.here hx rfl (hb hby at_146) rfl rfl (l' := (oL p1 p2 p3 p4 q5 p6 b1 b4 b8 b10 b19 (oI 3) (oR b19) .unset .unset)) rfl k) ?_
     refine oS (fun t k => XS.aload X416.here hx rfl (hb hby at_148) rfl rfl k) ?_
     refine oS (fun t k => XS.aload X416.here hx rfl (hb hby at_150) rfl rfl k) ?_
     show oG _ _ _ _ T416 (mkF m 152 (oL p1 p2 p3 p4 q5 p6 b1 b4 b8 b10 b19 (oI 3) (oR b19) .unset .unset) [.ref b19, .ref b19])
     refine oS (fun t k => Jvm.RoadKit.acmp (g := (mkF m 152 (oL p1 p2 p3 p4 q5 p6 b1 b4 b8 b10 b19 (oI 3) (oR b19) .unset .unset) [.ref b19, .ref b19])) X416 hx rfl rfl rfl (pc0 := 152) (pc' := 155) (same := true) rfl (hb hby at_152) rfl (decide_eq_true rfl) (by decide) (by decide) k) ?_
     refine oS (fun t k => XS.aload X416.here hx rfl (hb hby at_155) rfl rfl k) ?_
     show oG _ _ _ _ T416 (mkF m 157 (oL p1 p2 p3 p4 q5 p6 b1 b4 b8 b10 b19 (oI 3) (oR b19) .unset .unset) [.ref b19])
     have A19_v424 := (A19_v414.keep Kq416)
     refine own_callV X416 hx hZ (y := oy9) (z := oy9) hown (oW hw 90 rfl) (oW hw 91 rfl) (notFace_of_selects (args := #[]) (mvT hZ (oW hw 93 rfl))) (oW hw 93 rfl) (oW hw 92 rfl) (oW hw 94 rfl) (oW hw 57 rfl) (by decide) 0 A19_v424 [] [] (own_cnt l Z a0 hw [] b19 0 T416.heap n0 (Nat.le_trans Z0 K416.1) q416_2') rfl  (oB rfl) (oB rfl) (own_needRL IC416 (oB rfl)) (own_needRL IS416 (oB rfl)) (g := (mkF m 157 (oL p1 p2 p3 p4 q5 p6 b1 b4 b8 b10 b19 (oI 3) (oR b19) .unset .unset) [.ref b19])) rfl (by rw [hml]; rfl) own_pd17 rfl rfl (by show 2 * 0 + _ ≤ _; exact Nat.le_of_eq rfl) (hb hby at_157) ?_
     intro T423 v423 L423 X423 hQ423
     obtain ⟨rfl, N423q, e423⟩ := hQ423
     have N423 := Fr.app N416 N423q
     have IC423 := own_accL 0 IC416
     have IS423 := own_accL 0 IS416
     show oG _ _ _ _ T423 (mkF m 160 (oL p1 p2 p3 p4 q5 p6 b1 b4 b8 b10 b19 (oI 3) (oR b19) .unset .unset) [.int 0])
     refine oS (fun t k => XS.ifNo X423.here hx rfl (hb hby at_160) rfl ((if0 _ _).trans (teq (show (0 : Int32) = (0 : Int32) from (by decide))).2) k) ?_
     refine oS (fun t k => XS.aload X423.here hx rfl (hb hby at_163) rfl rfl k) ?_
     show oG _ _ _ _ T423 (mkF m 165 (oL p1 p2 p3 p4 q5 p6 b1 b4 b8 b10 b19 (oI 3) (oR b19) .unset .unset) [.ref b19])
     have q25_2'_v425 := (q25_2'_v415.keep Kq416)
     refine own_callV X423 hx hZ (y := oy7) (z := oy7) hown (oW hw 95 rfl) (oW hw 96 rfl) (notFace_of_selects (args := #[]) (mvT hZ (oW hw 98 rfl))) (oW hw 98 rfl) (oW hw 97 rfl) (oW hw 99 rfl) (oW hw 57 rfl) (by decide) 0 A19_v424 [] [] (own_byt l Z a0 hw [] b19 b25_0 0 T416.heap n0 (Nat.le_trans Z0 K416.1) q416_0' q25_2'_v425 q416_3') e423  (oB rfl) (oB rfl) (own_needRL IC423 (oB rfl)) (own_needRL IS423 (oB rfl)) (g := (mkF m 165 (oL p1 p2 p3 p4 q5 p6 b1 b4 b8 b10 b19 (oI 3) (oR b19) .unset .unset) [.ref b19])) rfl (by rw [hml]; rfl) own_pd17 rfl rfl (by show 2 * 0 + _ ≤ _; exact Nat.le_of_eq rfl) (hb hby at_165) ?_
     intro T426 v426 L426 X426 hQ426
     obtain ⟨rfl, N426q, e426⟩ := hQ426
     have N426 := Fr.app N423 N426q
     have IC426 := own_accL 0 IC423
     have IS426 := own_accL 0 IS423
     show oG _ _ _ _ T426 (mkF m 168 (oL p1 p2 p3 p4 q5 p6 b1 b4 b8 b10 b19 (oI 3) (oR b19) .unset .unset) [.int 0])
     refine oS (fun t k => XS.ifNo X426.here hx rfl (hb hby at_168) rfl ((if0 _ _).trans (teq (show (0 : Int32) = (0 : Int32) from (by decide))).2) k) ?_
     refine oS (fun t k => XS.iconst X426.here hx rfl (hb hby at_171) k) ?_
     refine oS (fun t k => XS.goto X426.here hx rfl (pc0 := 172) (pc' := 176) rfl (hb hby at_172) (by decide) (by decide) k) ?_
     refine oS (fun t k => XS.istore X426.here hx rfl (hb hby at_176) rfl (l' := (oL p1 p2 p3 p4 q5 p6 b1 b4 b8 b10 b19 (oI 3) (oR b19) (oI 1) .unset)) rfl k) ?_
     refine oS (fun t k => XS.aload X426.here hx rfl (hb hby at_178) rfl rfl k) ?_
     refine oS (fun t k => XS.aload X426.here hx rfl (hb hby at_180) rfl rfl k) ?_
     show oG _ _ _ _ T426 (mkF m 182 (oL p1 p2 p3 p4 q5 p6 b1 b4 b8 b10 b19 (oI 3) (oR b19) (oI 1) .unset) [.ref b10, .ref b19])
     have hS427 : own_St cp373 (0 : Int32) 0 := ⟨sc373, tz, by omega, by omega⟩
     have hN427 : 0 + ((4 + own_u (p2 &&& 255) + own_u (p3 &&& 255)) + (own_d q5 + 4 + 4 * (p4 &&& 3).toInt)) ≤ 128 := by omega
     have q373_2_v428 := (q373_2_v422.keep Kq416 (ninS (Ne.symm ne_b19_b373_0) (ninS (Ne.symm ne_b25_0_b373_0) nin0)))
     have A10_v429 := (A10_v421.keep Kq416)
     have q14_0'_v430 := (((q14_0'_v360.keep Kq373 (ninS ne_b10_b19 (ninS ne_b10_b25_0 (ninS ne_b10_b354_0 nin0)))).keep Kq377 (ninS ne_b10_b19 (ninS ne_b10_b25_0 nin0))).keep Kq416 (ninS ne_b10_b19 (ninS ne_b10_b25_0 nin0)))
     have q14_2'_v431 := (((q14_2'_v361.keep Kq373 (ninS ne_b10_b19 (ninS ne_b10_b25_0 (ninS ne_b10_b354_0 nin0)))).keep Kq377 (ninS ne_b10_b19 (ninS ne_b10_b25_0 nin0))).keep Kq416 (ninS ne_b10_b19 (ninS ne_b10_b25_0 nin0)))
     have q14_3'_v432 := (((q14_3'_v362.keep Kq373 (ninS ne_b10_b19 (ninS ne_b10_b25_0 (ninS ne_b10_b354_0 nin0)))).keep Kq377 (ninS ne_b10_b19 (ninS ne_b10_b25_0 nin0))).keep Kq416 (ninS ne_b10_b19 (ninS ne_b10_b25_0 nin0)))
     have q14_1'_v433 := (((q14_1'_v363.keep Kq373 (ninS ne_b10_b19 (ninS ne_b10_b25_0 (ninS ne_b10_b354_0 nin0)))).keep Kq377 (ninS ne_b10_b19 (ninS ne_b10_b25_0 nin0))).keep Kq416 (ninS ne_b10_b19 (ninS ne_b10_b25_0 nin0)))
     have q7_0'_v434 := (q7_0'_v418.keep Kq416)
     have q7_1'_v435 := (((q7_1'_v365.keep Kq373 (ninS ne_b4_b19 (ninS ne_b4_b25_0 (ninS ne_b4_b354_0 nin0)))).keep Kq377 (ninS ne_b4_b19 (ninS ne_b4_b25_0 nin0))).keep Kq416 (ninS ne_b4_b19 (ninS ne_b4_b25_0 nin0)))
     have q7_2'_v436 := (((q7_2'_v366.keep Kq373 (ninS ne_b4_b19 (ninS ne_b4_b25_0 (ninS ne_b4_b354_0 nin0)))).keep Kq377 (ninS ne_b4_b19 (ninS ne_b4_b25_0 nin0))).keep Kq416 (ninS ne_b4_b19 (ninS ne_b4_b25_0 nin0)))
     have q7_3'_v437 := (q7_3'_v419.keep Kq416 (ninS ne_b7_0_b19 (ninS ne_b7_0_b25_0 nin0)))
     have V_b8_v438 := (V_b8_v420.keep Kq416 (ninS ne_b8_b19 (ninS ne_b8_b25_0 nin0)))
     have S_C_v439 := (own_staKeep (own_staKeep (own_staKeep S_C_v369 Kq373 (allS (own_plainE A19_v358) (allS (own_plainE q25_2'_v357) (allS (own_plainB q354_2) all0)))) Kq377 (allS (own_plainE A19_v375) (allS (own_plainE q25_2'_v376) all0))) Kq416 (allS (own_plainE A19_v414) (allS (own_plainE q25_2'_v415) all0)))
     have S_I_v440 := (own_staKeep (own_staKeep (own_staKeep S_I_v370 Kq373 (allS (own_plainE A19_v358) (allS (own_plainE q25_2'_v357) (allS (own_plainB q354_2) all0)))) Kq377 (allS (own_plainE A19_v375) (allS (own_plainE q25_2'_v376) all0))) Kq416 (allS (own_plainE A19_v414) (allS (own_plainE q25_2'_v415) all0)))
     have S_U_v441 := (own_staKeep (own_staKeep (own_staKeep S_U_v371 Kq373 (allS (own_plainE A19_v358) (allS (own_plainE q25_2'_v357) (allS (own_plainB q354_2) all0)))) Kq377 (allS (own_plainE A19_v375) (allS (own_plainE q25_2'_v376) all0))) Kq416 (allS (own_plainE A19_v414) (allS (own_plainE q25_2'_v415) all0)))
     have S_F_v442 := (own_staKeep (own_staKeep (own_staKeep S_F_v372 Kq373 (allS (own_plainE A19_v358) (allS (own_plainE q25_2'_v357) (allS (own_plainB q354_2) all0)))) Kq377 (allS (own_plainE A19_v375) (allS (own_plainE q25_2'_v376) all0))) Kq416 (allS (own_plainE A19_v414) (allS (own_plainE q25_2'_v415) all0)))
     refine own_callVX X426 hx hZ (y := oy6) (z := oy6) hown (oW hw 105 rfl) (oW hw 106 rfl) (notFace_of_selects (args := #[]) (mvT hZ (oW hw 108 rfl))) (oW hw 108 rfl) (oW hw 107 rfl) (oW hw 109 rfl) (oW hw 57 rfl) (by decide) 0 A19_v424 [.ref b10] [] (own_add l Z a0 hw [] b25_0 b373_0 k373_0 cp373 0 0 b19 0 b10 b8 k8 q5 (p4 &&& 3) b4 u8 b7_0 k7_0 (p2 &&& 255) (p3 &&& 255) zc fm T416.heap n0 (Nat.le_trans Z0 K416.1) q416_0' q25_2'_v425 q416_3' q416_1' q373_2_v428 A19_v424 q416_2' A10_v429 q14_0'_v430 q14_2'_v431 q14_3'_v432 q14_1'_v433 q7_0'_v434 q7_1'_v435 q7_2'_v436 q7_3'_v437 V_b8_v438 S_C_v439 S_I_v440 S_U_v441 S_F_v442 hS427 hN427 g_b25_0 g_b373_0 ne_b25_0_b373_0 (own_m255 p2).1 (own_m255 p2).2 (own_m255 p3).1 (own_m255 p3).2 hz rG (own_n3 p4).2.2.1 g_b19 ne_b4_b25_0 ne_b4_b373_0 ne_b7_0_b25_0 ne_b7_0_b373_0 ne_b10_b25_0 ne_b10_b373_0 ne_b8_b25_0 ne_b8_b373_0 ne_b19_b25_0 ne_b19_b373_0) e426  (oB rfl) (oB rfl) (own_needR IC426 (oB rfl)) (own_needR IS426 (oB rfl)) (g := (mkF m 182 (oL p1 p2 p3 p4 q5 p6 b1 b4 b8 b10 b19 (oI 3) (oR b19) (oI 1) .unset) [.ref b10, .ref b19])) rfl (by rw [hml]; rfl) own_pd32 rfl rfl (by show 2 * 0 + _ ≤ _; exact Nat.le_of_eq rfl) (hb hby at_182) ?_
     intro T443 v443 L443 xc443 xs443 X443 hQ443
     have V3'_v444 := (V3'_v417.keep Kq416 (ninS ne_b1_b19 (ninS ne_b1_b25_0 nin0)))
     obtain ⟨b443_0, k443_0, cp443, z443, rfl, N443q, Kq443, zq443, hT443, hkC443, hkS443, q443_0, q443_1, q443_2, y443_0, y443_1⟩ := hQ443
     obtain ⟨sc443, sq443, sl443, su443⟩ := hT443
     have N443 := Fr.app N426 N443q
     have K443 := K416.trans Kq443 (allS (Or.inr sz_b19) (allS (Or.inr sz_b25_0) (allS (Or.inr sz_b373_0) all0)))
     have g_b443_0 : n0 ≤ b443_0 := own_sz2 zq443 g_b373_0 (Nat.le_trans Z0 K416.1)
     have sz_b443_0 : h0.size ≤ b443_0 := own_sz2 zq443 sz_b373_0 K416.1
     have ne_b1_b443_0 : b1 ≠ b443_0 := own_ne2 ne_b1_b373_0 V3'_v444.lt zq443
     have ne_b4_b443_0 : b4 ≠ b443_0 := own_ne2 ne_b4_b373_0 q7_0'_v434.lt zq443
     have ne_b7_0_b443_0 : b7_0 ≠ b443_0 := own_ne2 ne_b7_0_b373_0 q7_3'_v437.lt zq443
     have ne_b8_b443_0 : b8 ≠ b443_0 := own_ne2 ne_b8_b373_0 V_b8_v438.lt zq443
     have ne_b10_b443_0 : b10 ≠ b443_0 := own_ne2 ne_b10_b373_0 A10_v429.lt zq443
     have ne_b19_b443_0 : b19 ≠ b443_0 := own_ne2 ne_b19_b373_0 A19_v424.lt zq443
     have ne_b25_0_b443_0 : b25_0 ≠ b443_0 := own_ne2 ne_b25_0_b373_0 q25_2'_v425.lt zq443
     have IC443 := own_acc IC426 hkC443
     have IS443 := own_acc IS426 hkS443
     refine oS (fun t k => XS.pop X443.here hx rfl (hb hby at_185) rfl rfl k) ?_
     refine oS (fun t k => XS.iconst X443.here hx rfl (hb hby at_186) k) ?_
     refine oS (fun t k => XS.iload X443.here hx rfl (hb hby at_187) rfl k) ?_
     show oG _ _ _ _ T443 (mkF m 189 (oL p1 p2 p3 p4 q5 p6 b1 b4 b8 b10 b19 (oI 3) (oR b19) (oI 1) .unset) [(.int (p2 &&& 255)), .int 4])
     refine own_callS X443 hx hZ (y := oy0) hown (oW hw 177 rfl) (oW hw 178 rfl) (oW hw 179 rfl) (oW hw 180 rfl) (by decide) 1 [(.int (p2 &&& 255))] [.int 4] (own_ut8 l Z a0 hw [] (p2 &&& 255) T443.heap n0 (Nat.le_trans Z0 K443.1) ) rfl  (oB rfl) (oB rfl) (own_needRL IC443 (oB rfl)) (own_needRL IS443 (oB rfl)) (g := (mkF m 189 (oL p1 p2 p3 p4 q5 p6 b1 b4 b8 b10 b19 (oI 3) (oR b19) (oI 1) .unset) [(.int (p2 &&& 255)), .int 4])) rfl (by rw [hml]; rfl) own_pd33 rfl rfl (by show 2 * 0 + _ ≤ _; exact Nat.le_of_eq rfl) (hb hby at_189) ?_
     intro T445 v445 L445 X445 hQ445
     obtain ⟨rfl, N445q, e445⟩ := hQ445
     have N445 := Fr.app N443 N445q
     have IC445 := own_accL 0 IC443
     have IS445 := own_accL 0 IS443
     refine oS (fun t k => XS.iadd X445.here hx rfl (hb hby at_192) rfl k) ?_
     refine oS (fun t k => XS.iload X445.here hx rfl (hb hby at_193) rfl k) ?_
     show oG _ _ _ _ T445 (mkF m 195 (oL p1 p2 p3 p4 q5 p6 b1 b4 b8 b10 b19 (oI 3) (oR b19) (oI 1) .unset) [(.int (p3 &&& 255)), (.int ((4 : Int32) + (own_ui (p2 &&& 255))))])
     refine own_callS X445 hx hZ (y := oy0) hown (oW hw 177 rfl) (oW hw 178 rfl) (oW hw 179 rfl) (oW hw 180 rfl) (by decide) 1 [(.int (p3 &&& 255))] [(.int ((4 : Int32) + (own_ui (p2 &&& 255))))] (own_ut8 l Z a0 hw [] (p3 &&& 255) T443.heap n0 (Nat.le_trans Z0 K443.1) ) e445  (oB rfl) (oB rfl) (own_needRL IC445 (oB rfl)) (own_needRL IS445 (oB rfl)) (g := (mkF m 195 (oL p1 p2 p3 p4 q5 p6 b1 b4 b8 b10 b19 (oI 3) (oR b19) (oI 1) .unset) [(.int (p3 &&& 255)), (.int ((4 : Int32) + (own_ui (p2 &&& 255))))])) rfl (by rw [hml]; rfl) own_pd33 rfl rfl (by show 2 * 0 + _ ≤ _; exact Nat.le_of_eq rfl) (hb hby at_195) ?_
     intro T446 v446 L446 X446 hQ446
     obtain ⟨rfl, N446q, e446⟩ := hQ446
     have N446 := Fr.app N445 N446q
     have IC446 := own_accL 0 IC445
     have IS446 := own_accL 0 IS445
     refine oS (fun t k => XS.iadd X446.here hx rfl (hb hby at_198) rfl k) ?_
     refine oS (fun t k => XS.lload X446.here hx rfl (hb hby at_199) rfl k) ?_
     refine oS (fun t k => XS.lconst X446.here hx rfl (hb hby at_201) k) ?_
     show oG _ _ _ _ T446 (mkF m 202 (oL p1 p2 p3 p4 q5 p6 b1 b4 b8 b10 b19 (oI 3) (oR b19) (oI 1) .unset) [(.long (0 : Int64)), (.long q5), (.int (((4 : Int32) + (own_ui (p2 &&& 255))) + (own_ui (p3 &&& 255))))])
     refine oS (fun t k => XS.lcmp X446.here hx rfl (hb hby at_202) rfl k) ?_
     refine own_join (fun r447 => own_d q5 = r447.toInt) (fun r447 => (mkF m 212 (oL p1 p2 p3 p4 q5 p6 b1 b4 b8 b10 b19 (oI 3) (oR b19) (oI 1) .unset) [.int r447, (.int (((4 : Int32) + (own_ui (p2 &&& 255))) + (own_ui (p3 &&& 255))))])) ?_ ?_
     · intro r447 hr447
       show oG _ _ _ _ T446 (mkF m 212 (oL p1 p2 p3 p4 q5 p6 b1 b4 b8 b10 b19 (oI 3) (oR b19) (oI 1) .unset) [.int r447, (.int (((4 : Int32) + (own_ui (p2 &&& 255))) + (own_ui (p3 &&& 255))))])
       refine oS (fun t k => XS.iadd X446.here hx rfl (hb hby at_212) rfl k) ?_
       refine oS (fun t k => XS.iconst X446.here hx rfl (hb hby at_213) k) ?_
       refine oS (fun t k => XS.iadd X446.here hx rfl (hb hby at_214) rfl k) ?_
       refine oS (fun t k => XS.iconst X446.here hx rfl (hb hby at_215) k) ?_
       refine oS (fun t k => XS.iload X446.here hx rfl (hb hby at_216) rfl k) ?_
       refine oS (fun t k => XS.imul X446.here hx rfl (hb hby at_218) rfl k) ?_
       refine oS (fun t k => XS.iadd X446.here hx rfl (hb hby at_219) rfl k) ?_
       refine oS (fun t k => XS.istore X446.here hx rfl (hb hby at_220) rfl (l' := (oL p1 p2 p3 p4 q5 p6 b1 b4 b8 b10 b19 (oI 3) (oR b19) (oI 1) (oI ((((((4 : Int32) + (own_ui (p2 &&& 255))) + (own_ui (p3 &&& 255))) + r447) + (4 : Int32)) + ((4 : Int32) * (p4 &&& 3)))))) rfl k) ?_
       refine oS (fun t k => XS.iload X446.here hx rfl (hb hby at_222) rfl k) ?_
       show oG _ _ _ _ T446 (mkF m 224 (oL p1 p2 p3 p4 q5 p6 b1 b4 b8 b10 b19 (oI 3) (oR b19) (oI 1) (oI ((((((4 : Int32) + (own_ui (p2 &&& 255))) + (own_ui (p3 &&& 255))) + r447) + (4 : Int32)) + ((4 : Int32) * (p4 &&& 3))))) [.int 1])
       refine oS (fun t k => XS.ifNo X446.here hx rfl (hb hby at_224) rfl ((if0 _ _).trans (feq (show ¬ ((1 : Int32) = (0 : Int32)) from (by decide))).1) k) ?_
       refine oS (fun t k => XS.aload X446.here hx rfl (hb hby at_227) rfl rfl k) ?_
       show oG _ _ _ _ T446 (mkF m 229 (oL p1 p2 p3 p4 q5 p6 b1 b4 b8 b10 b19 (oI 3) (oR b19) (oI 1) (oI ((((((4 : Int32) + (own_ui (p2 &&& 255))) + (own_ui (p3 &&& 255))) + r447) + (4 : Int32)) + ((4 : Int32) * (p4 &&& 3))))) [.ref b19])
       have A19_v449 := (A19_v424.keep Kq443)
       refine own_callV X446 hx hZ (y := oy9) (z := oy9) hown (oW hw 90 rfl) (oW hw 91 rfl) (notFace_of_selects (args := #[]) (mvT hZ (oW hw 93 rfl))) (oW hw 93 rfl) (oW hw 92 rfl) (oW hw 94 rfl) (oW hw 57 rfl) (by decide) 0 A19_v449 [] [] (own_cnt l Z a0 hw [] b19 ((0 : Int32) + (1 : Int32)) T443.heap n0 (Nat.le_trans Z0 K443.1) y443_0) e446  (oB rfl) (oB rfl) (own_needRL IC446 (oB rfl)) (own_needRL IS446 (oB rfl)) (g := (mkF m 229 (oL p1 p2 p3 p4 q5 p6 b1 b4 b8 b10 b19 (oI 3) (oR b19) (oI 1) (oI ((((((4 : Int32) + (own_ui (p2 &&& 255))) + (own_ui (p3 &&& 255))) + r447) + (4 : Int32)) + ((4 : Int32) * (p4 &&& 3))))) [.ref b19])) rfl (by rw [hml]; rfl) own_pd17 rfl rfl (by show 2 * 0 + _ ≤ _; exact Nat.le_of_eq rfl) (hb hby at_229) ?_
       intro T448 v448 L448 X448 hQ448
       obtain ⟨rfl, N448q, e448⟩ := hQ448
       have N448 := Fr.app N446 N448q
       have IC448 := own_accL 0 IC446
       have IS448 := own_accL 0 IS446
       refine oS (fun t k => XS.iconst X448.here hx rfl (hb hby at_232) k) ?_
       show oG _ _ _ _ T448 (mkF m 233 (oL p1 p2 p3 p4 q5 p6 b1 b4 b8 b10 b19 (oI 3) (oR b19) (oI 1) (oI ((((((4 : Int32) + (own_ui (p2 &&& 255))) + (own_ui (p3 &&& 255))) + r447) + (4 : Int32)) + ((4 : Int32) * (p4 &&& 3))))) [.int 1, (.int ((0 : Int32) + (1 : Int32)))])
       refine oS (fun t k => XS.icmpNo X448.here hx rfl (hb hby at_233) rfl (teq (show ((0 : Int32) + (1 : Int32)) = (1 : Int32) from (by decide))).2 k) ?_
       refine oS (fun t k => XS.aload X448.here hx rfl (hb hby at_236) rfl rfl k) ?_
       show oG _ _ _ _ T448 (mkF m 238 (oL p1 p2 p3 p4 q5 p6 b1 b4 b8 b10 b19 (oI 3) (oR b19) (oI 1) (oI ((((((4 : Int32) + (own_ui (p2 &&& 255))) + (own_ui (p3 &&& 255))) + r447) + (4 : Int32)) + ((4 : Int32) * (p4 &&& 3))))) [.ref b19])
       have q25_2'_v450 := (q25_2'_v425.keep Kq443)
       refine own_callV X448 hx hZ (y := oy7) (z := oy7) hown (oW hw 95 rfl) (oW hw 96 rfl) (notFace_of_selects (args := #[]) (mvT hZ (oW hw 98 rfl))) (oW hw 98 rfl) (oW hw 97 rfl) (oW hw 99 rfl) (oW hw 57 rfl) (by decide) 0 A19_v449 [] [] (own_byt l Z a0 hw [] b19 b25_0 z443 T443.heap n0 (Nat.le_trans Z0 K443.1) y443_1 q25_2'_v450 q443_0) e448  (oB rfl) (oB rfl) (own_needRL IC448 (oB rfl)) (own_needRL IS448 (oB rfl)) (g := (mkF m 238 (oL p1 p2 p3 p4 q5 p6 b1 b4 b8 b10 b19 (oI 3) (oR b19) (oI 1) (oI ((((((4 : Int32) + (own_ui (p2 &&& 255))) + (own_ui (p3 &&& 255))) + r447) + (4 : Int32)) + ((4 : Int32) * (p4 &&& 3))))) [.ref b19])) rfl (by rw [hml]; rfl) own_pd17 rfl rfl (by show 2 * 0 + _ ≤ _; exact Nat.le_of_eq rfl) (hb hby at_238) ?_
       intro T451 v451 L451 X451 hQ451
       obtain ⟨rfl, N451q, e451⟩ := hQ451
       have N451 := Fr.app N448 N451q
       have IC451 := own_accL 0 IC448
       have IS451 := own_accL 0 IS448
       refine oS (fun t k => XS.iload X451.here hx rfl (hb hby at_241) rfl k) ?_
       show oG _ _ _ _ T451 (mkF m 243 (oL p1 p2 p3 p4 q5 p6 b1 b4 b8 b10 b19 (oI 3) (oR b19) (oI 1) (oI ((((((4 : Int32) + (own_ui (p2 &&& 255))) + (own_ui (p3 &&& 255))) + r447) + (4 : Int32)) + ((4 : Int32) * (p4 &&& 3))))) [(.int ((((((4 : Int32) + (own_ui (p2 &&& 255))) + (own_ui (p3 &&& 255))) + r447) + (4 : Int32)) + ((4 : Int32) * (p4 &&& 3)))), .int z443])
       refine oS (fun t k => XS.icmpNo X451.here hx rfl (hb hby at_243) rfl (teq (show z443 = ((((((4 : Int32) + (own_ui (p2 &&& 255))) + (own_ui (p3 &&& 255))) + r447) + (4 : Int32)) + ((4 : Int32) * (p4 &&& 3))) from (own_exp sq443 hr447 tn))).2 k) ?_
       refine oS (fun t k => XS.iconst X451.here hx rfl (hb hby at_246) k) ?_
       refine oS (fun t k => XS.goto X451.here hx rfl (pc0 := 247) (pc' := 251) rfl (hb hby at_247) (by decide) (by decide) k) ?_
       show oG _ _ _ _ T451 (mkF m 251 (oL p1 p2 p3 p4 q5 p6 b1 b4 b8 b10 b19 (oI 3) (oR b19) (oI 1) (oI ((((((4 : Int32) + (own_ui (p2 &&& 255))) + (own_ui (p3 &&& 255))) + r447) + (4 : Int32)) + ((4 : Int32) * (p4 &&& 3))))) [.int 1])
       exact own_retN X451 hx hlk (t := .boolean) hrt (by simp) (hb hby at_251) ⟨rfl, N451⟩ (own_finR IC451 (oB rfl)) (own_finR IS451 (oB rfl))
     · intro tail447
       by_cases hc203_452 : (lcmpW q5 (0 : Int64)) = (0 : Int32)
       · refine oS (fun t k => XS.ifYes X446.here hx rfl (pc0 := 203) (pc' := 211) rfl (hb hby at_203) rfl ((if0 _ _).trans (teq (show (lcmpW q5 (0 : Int64)) = (0 : Int32) from hc203_452)).1) (by decide) (by decide) k) ?_
         refine oS (fun t k => XS.iconst X446.here hx rfl (hb hby at_211) k) ?_
         exact tail447 _ ((own_d0 hc203_452).trans (by decide))
       · refine oS (fun t k => XS.ifNo X446.here hx rfl (hb hby at_203) rfl ((if0 _ _).trans (feq (show ¬ ((lcmpW q5 (0 : Int64)) = (0 : Int32)) from hc203_452)).1) k) ?_
         refine oS (fun t k => XS.bipush X446.here hx rfl (hb hby at_206) k) ?_
         refine oS (fun t k => XS.goto X446.here hx rfl (pc0 := 208) (pc' := 212) rfl (hb hby at_208) (by decide) (by decide) k) ?_
         exact tail447 _ ((own_d1 hc203_452).trans (by decide))
set_option maxRecDepth 65536 in
set_option maxHeartbeats 40000000 in
theorem comes_1 {Post : Tables → Env → Array Value → State → Outcome → State → Prop} (hpost : ∀ tb e args s v u, (limb_1_1.after args s (.returned v) u = true ∧ limb_1_2.after args s (.returned v) u = true ∧ True) → FrameEnd s (.returned v) u (Jvm.fieldLocs frame_1_writes args s ++ Jvm.arrayLocs frame_1_arrays args s ++ Jvm.staticLocs frame_1_statics s) 48 576 → Post tb e args s (.returned v) u) :
   ArmFor flags0 classFile x code maxLocals ret World_1 tables_1 room_1 Calls_1 rest_1 Pre_1 Post := by
 intro l hfl _ _ p e ha hc hk s m args below hf hA hF happ hP
 obtain ⟨hcalls, hrest, hpre⟩ := hP
 obtain ⟨-, -, -, hnamed, -, -, -, hat⟩ := (Spec.applies_iff hf).mp happ
 obtain ⟨hg, hn⟩ := and_e (Cond.before_iff.mp (show (Jvm.Cond.and given_1 narrow_1).before args s = true from hpre))
 obtain ⟨q1, q2⟩ := and_e hg
 obtain ⟨q3, q4⟩ := and_e q2
 obtain ⟨q5, q6⟩ := and_e q4
 obtain ⟨q7, q8⟩ := and_e q6
 obtain ⟨q9, q10⟩ := and_e q8
 obtain ⟨q11, q12⟩ := and_e q10
 obtain ⟨w0, w1, w2, w3, w4, w5, rfl⟩ : ∃ w0 w1 w2 w3 w4 w5 : Value, args = #[w0, w1, w2, w3, w4, w5] := by
   have hs : args.size = 6 := by simpa [Cond.value, given_1] using q1
   obtain ⟨L⟩ := args
   match L, hs with
   | [w0, w1, w2, w3, w4, w5], _ => exact ⟨w0, w1, w2, w3, w4, w5, rfl⟩
 have hw := fun d (hd : d ∈ tables_1) => atoms_spec (ws := Jvm.Cond.code x code maxLocals ret :: tables_1) hat d (List.mem_cons_of_mem _ hd)
 have hfit : Fit s := fun {y c} hc i hi => by
   obtain ⟨ha, rfl⟩ := Array.getElem?_eq_some_iff.mp hc
   have q := List.all_eq_true.mp ((Array.all_eq_true_iff_forall_mem.mp hF) _ (Array.getElem_mem ha)) i (List.mem_range.mpr hi)
   simpa [Array.getElem?_eq_getElem hi] using q
 obtain ⟨hsets, hown0⟩ := atoms_of _ (rest_1_c_eq ▸ (show rest_1_c.before _ s = true from hrest))
 have hr0 := Cond.before_iff.mp hown0
 obtain ⟨i0, ei0⟩ := is_v q3
 obtain rfl : w0 = (.int i0) := Option.some.inj ei0
 obtain ⟨i1, ei1⟩ := is_v q5
 obtain rfl : w1 = (.int i1) := Option.some.inj ei1
 obtain ⟨i2, ei2⟩ := is_v q7
 obtain rfl : w2 = (.int i2) := Option.some.inj ei2
 obtain ⟨i3, ei3⟩ := is_v q9
 obtain rfl : w3 = (.int i3) := Option.some.inj ei3
 obtain ⟨i4, ei4⟩ := isL_v q11
 obtain rfl : w4 = (.long i4) := Option.some.inj ei4
 obtain ⟨i5, ei5⟩ := is_v q12
 obtain rfl : w5 = (.int i5) := Option.some.inj ei5
 obtain ⟨zc, evc⟩ := is_v (Cond.before_iff.mp (hsets _ (List.mem_of_getElem? (i := 1) rfl)))
 have S_C : Sta s s.heap "java/lang/String" "COMPACT_STRINGS" "Z" (.int zc) := Sta.start evc (Or.inl (hsets _ (List.mem_of_getElem? (i := 0) rfl)))
 have hz : ¬ (zc = (0 : Int32)) := by
   have q := not_v (Cond.before_iff.mp (hsets _ (List.mem_of_getElem? (i := 2) rfl)))
   intro z
   subst z
   simp [Jvm.Cond.value, evc, Term.int_eval] at q
 obtain ⟨fm, evf, rG⟩ := isR_v (Cond.before_iff.mp (hsets _ (List.mem_of_getElem? (i := 8) rfl)))
 have S_F : Sta s s.heap "jdk/internal/util/Preconditions" "SIOOBE_FORMATTER" "Ljava/util/function/BiFunction;" fm := Sta.start evf (Or.inl (hsets _ (List.mem_of_getElem? (i := 7) rfl)))
 obtain ⟨u8, evu⟩ := exa_v (Cond.before_iff.mp (hsets _ (List.mem_of_getElem? (i := 17) rfl)))
 have S_I : Sta s s.heap "sun/nio/cs/UTF_8" "INSTANCE" "Lsun/nio/cs/UTF_8;" (.ref u8) := Sta.start evu (Or.inl (hsets _ (List.mem_of_getElem? (i := 16) rfl)))
 obtain ⟨u9, evs⟩ := exa_v (Cond.before_iff.mp (hsets _ (List.mem_of_getElem? (i := 14) rfl)))
 have hu : u9 = u8 := by
   have q := (Cond.before_iff.mp (hsets _ (List.mem_of_getElem? (i := 13) rfl)))
   simpa [Jvm.Cond.value, evu, evs] using q
 subst hu
 have S_U : Sta s s.heap "java/nio/charset/StandardCharsets" "UTF_8" "Ljava/nio/charset/Charset;" (.ref u9) := Sta.start evs (Or.inl (hsets _ (List.mem_of_getElem? (i := 10) rfl)))
 obtain ⟨n, o, h1, h2, h3, _, L, rfl, ⟨rfl, N⟩, hq⟩ := own_law l s _ hw tables_1 i0 i1 i2 i3 i4 i5 u9 zc fm s.heap s.heap.size (Nat.le_refl _) S_C S_I S_U S_F hz rG p e ha hc hk s m _ below hf ((Spec.applies_iff_loose hf).mp happ).1 ⟨rfl, State.Warmed39.refl s, rfl⟩ trivial
 refine ⟨n, _, h1, h2, h3, hpost _ _ _ _ _ _ ⟨Cond.after_iff.mpr rfl, Cond.after_iff.mpr (eq_i res_at (Term.int_eval (1)) rfl), trivial⟩ ⟨hq.1, hq.2.1, (hq.2.2.sift fun y hy => Or.inr (N y hy)).mono (by decide) (by decide)⟩⟩
theorem main_1_1 : Claimed_1_1 := comes_1 fun _ _ _ _ _ _ h hF => ⟨h.1, hF⟩
theorem main_1_2 : Claimed_1_2 := comes_1 fun _ _ _ _ _ _ h hF => ⟨h.2.1, hF⟩
end Jvm.Pilot.@@N@@
namespace Jvm.Pilot.@@N@@
open Jvm Jvm.ClassFile Sem Op Lib Jvm.Free Jvm.Stand Jvm.Pilot.@@N@@.Jvm.D
/-! MADE BY PROGRAM (witnessworld.py) out of the Statement's table words and the real class files: 34 classes; the members and pool entries that the words name. The judged class is class 1, her method 2. -/
namespace start1
open Jvm.ClassFile
def u (s : String) : CpInfo := .utf8 (stringToUtf16 s)
/-- a pool by its gaps: so many unusable entries, then the entry; so many at the end -/
def gap : Nat → List CpInfo → List CpInfo
 | 0, r => r
 | n + 1, r => .unusable :: gap n r
def poolList (es : List (Nat × CpInfo)) (last : Nat) : List CpInfo := es.foldr (fun e r => gap e.1 (e.2 :: r)) (gap last [])
def pool (es : List (Nat × CpInfo)) (last : Nat) : Array CpInfo := ⟨poolList es last⟩
def fileOf (pool : Array CpInfo) (this : Nat) (attrs : Array Attribute := #[]) (ms : Array MethodInfo := #[]) (fl : Nat := 33) (sup : Nat := 0) (ifs : Array Nat := #[]) (fds : Array FieldInfo := #[]) : ClassFile where
 minorVersion := 0
 majorVersion := 65
 constantPool := pool
 accessFlags := fl
 thisClass := this
 superClass := sup
 interfaces := ifs
 fields := fds
 methods := ms
 attributes := attrs
def plain (name : String) (sup : Option ClassId) : Class where
 name := name
 kind := .ordinary
 loader := none
 accessFlags := 33
 super := sup
 interfaces := #[]
 cf := none
 fields := #[]
 methods := #[]
 instanceTypes := #[]
 staticTypes := #[]
 resolved := #[]
 callSites := []
 init := .initialized
 statics := none
 mirror := none

def pool0 : Array CpInfo := pool [(5, u "<init>"), (0, u "()V"), (1, .class_ 10), (1, u "java/lang/Object")] 113

def k0c0 : Code := { maxStack := 0, maxLocals := 1, code := object_method_1_code, exceptionTable := #[], attributes := #[] }
def k0m0 : Method := { name := "<init>", desc := "()V", sig := { parameters := [], returnType := none }, accessFlags := 1, code := some k0c0 }
/-- java/lang/Object -/
def k0 : Class := { plain "java/lang/Object" none with
 accessFlags := 33
 interfaces := #[]
 cf := some (fileOf pool0 8 #[] #[{ accessFlags := 1, nameIndex := 5, descriptorIndex := 6, attributes := #[] }] 33 0 #[] #[])
 fields := #[]
 methods := #[k0m0]
 instanceTypes := #[]
 staticTypes := #[]
 resolved := Array.replicate 124 none
 statics := none }

def pool1 : Array CpInfo := pool [(2, .class_ 4), (0, .nameAndType 5 6), (0, u "java/lang/Object"), (0, u "<init>"), (0, u "()V"), (0, .class_ 8), (0, u "java/lang/String"), (0, .methodref 7 10), (0, .nameAndType 5 11), (0, u "([C)V"), (0, .class_ 13), (0, u "com/example/ringshift/ringshift/data/Cell"), (0, .class_ 15), (0, u "com/example/ringshift/ringshift/data/Row"), (0, .methodref 14 17), (0, .nameAndType 5 18), (0, u "(Ljava/lang/String;[Lcom/example/ringshift/ringshift/data/Cell;J)V"), (0, .class_ 20), (0, u "com/example/ringshift/ringshift/data/RowBatch$Builder"), (0, .methodref 19 3), (0, .methodref 19 23), (0, .nameAndType 24 25), (0, u "add"), (0, u "(Lcom/example/ringshift/ringshift/data/Row;)Lcom/example/ringshift/ringshift/data/RowBatch$Builder;"), (0, .methodref 19 27), (0, .nameAndType 28 29), (0, u "clear"), (0, u "()Lcom/example/ringshift/ringshift/data/RowBatch$Builder;"), (0, .methodref 19 31), (0, .nameAndType 32 33), (0, u "count"), (0, u "()I"), (0, .methodref 19 35), (0, .nameAndType 36 33), (0, u "bytes"), (0, .methodref 38 39), (0, .class_ 40), (0, .nameAndType 41 42), (0, u "com/example/ringshift/ringshift/data/BuilderClearPinLaw"), (0, u "utf8"), (0, u "(C)I"), (3, u "law"), (0, u "(IIIIJI)Z")] 10

def k1m0 : Method := { name := "<init>", desc := "()V", sig := { parameters := [], returnType := none }, accessFlags := 1, code := none }
def k1c1 : Code := { maxStack := 2, maxLocals := 1, code := method_2_code, exceptionTable := #[], attributes := #[] }
def k1m1 : Method := { name := "utf8", desc := "(C)I", sig := { parameters := [.char], returnType := some .int }, accessFlags := 10, code := some k1c1 }
def k1c2 : Code := { maxStack := 6, maxLocals := 19, code := code, exceptionTable := #[], attributes := #[] }
def k1m2 : Method := { name := "law", desc := "(IIIIJI)Z", sig := { parameters := [.int, .int, .int, .int, .long, .int], returnType := some .boolean }, accessFlags := 9, code := some k1c2 }
/-- com/example/ringshift/ringshift/data/BuilderClearPinLaw -/
def k1 : Class := { plain "com/example/ringshift/ringshift/data/BuilderClearPinLaw" (some 0) with
 accessFlags := 49
 interfaces := #[]
 cf := some (fileOf pool1 38 #[] #[{ accessFlags := 1, nameIndex := 5, descriptorIndex := 6, attributes := #[] }, { accessFlags := 10, nameIndex := 41, descriptorIndex := 42, attributes := #[] }, { accessFlags := 9, nameIndex := 46, descriptorIndex := 47, attributes := #[] }] 49 2 #[] #[])
 fields := #[]
 methods := #[k1m0, k1m1, k1m2]
 instanceTypes := #[]
 staticTypes := #[]
 resolved := Array.replicate 58 none
 statics := none }

def pool2 : Array CpInfo := pool [(1, .class_ 2), (0, u "java/io/Serializable"), (0, .class_ 4), (0, u "java/lang/Object")] 2

/-- java/io/Serializable -/
def k2 : Class := { plain "java/io/Serializable" (some 0) with
 accessFlags := 1537
 interfaces := #[]
 cf := some (fileOf pool2 1 #[] #[] 1537 3 #[] #[])
 fields := #[]
 methods := #[]
 instanceTypes := #[]
 staticTypes := #[]
 resolved := Array.replicate 7 none
 statics := none }

def pool3 : Array CpInfo := pool [(1, .class_ 2), (0, u "java/lang/Comparable"), (0, .class_ 4), (0, u "java/lang/Object")] 7

/-- java/lang/Comparable -/
def k3 : Class := { plain "java/lang/Comparable" (some 0) with
 accessFlags := 1537
 interfaces := #[]
 cf := some (fileOf pool3 1 #[] #[] 1537 3 #[] #[])
 fields := #[]
 methods := #[]
 instanceTypes := #[]
 staticTypes := #[]
 resolved := Array.replicate 12 none
 statics := none }

def pool4 : Array CpInfo := pool [(2, .class_ 4), (1, u "java/lang/CharSequence"), (42, .class_ 48), (0, u "java/lang/CharSequence$1CodePointIterator"), (10, .class_ 60), (0, u "java/lang/CharSequence$1CharIterator"), (5, .class_ 67), (0, u "java/lang/Object")] 63

/-- java/lang/CharSequence -/
def k4 : Class := { plain "java/lang/CharSequence" (some 0) with
 accessFlags := 1537
 interfaces := #[]
 cf := some (fileOf pool4 2 #[.nestMembers #[47, 59]] #[] 1537 66 #[] #[])
 fields := #[]
 methods := #[]
 instanceTypes := #[]
 staticTypes := #[]
 resolved := Array.replicate 131 none
 statics := none }

def pool5 : Array CpInfo := pool [(1, .class_ 2), (0, u "java/lang/constant/Constable"), (0, .class_ 4), (0, u "java/lang/Object")] 6

/-- java/lang/constant/Constable -/
def k5 : Class := { plain "java/lang/constant/Constable" (some 0) with
 accessFlags := 1537
 interfaces := #[]
 cf := some (fileOf pool5 1 #[] #[] 1537 3 #[] #[])
 fields := #[]
 methods := #[]
 instanceTypes := #[]
 staticTypes := #[]
 resolved := Array.replicate 11 none
 statics := none }

def pool6 : Array CpInfo := pool [(1, .class_ 2), (0, u "java/lang/constant/ConstantDesc"), (0, .class_ 4), (0, u "java/lang/Object")] 32

/-- java/lang/constant/ConstantDesc -/
def k6 : Class := { plain "java/lang/constant/ConstantDesc" (some 0) with
 accessFlags := 1537
 interfaces := #[]
 cf := some (fileOf pool6 1 #[] #[] 1537 3 #[] #[])
 fields := #[]
 methods := #[]
 instanceTypes := #[]
 staticTypes := #[]
 resolved := Array.replicate 37 none
 statics := none }

def pool7 : Array CpInfo := pool [(1, .methodref 2 3), (0, .class_ 4), (0, .nameAndType 5 6), (0, u "java/lang/Object"), (0, u "<init>"), (0, u "()V"), (2, .fieldref 10 11), (0, .class_ 12), (0, .nameAndType 13 14), (0, u "java/lang/String"), (0, u "value"), (0, u "[B"), (0, .fieldref 10 16), (0, .nameAndType 17 18), (0, u "coder"), (0, u "B"), (2, u "hash"), (0, u "I"), (2, u "hashIsZero"), (0, u "Z"), (0, .methodref 10 28), (0, .nameAndType 5 29), (0, u "([CIILjava/lang/Void;)V"), (8, .fieldref 10 39), (0, .nameAndType 40 26), (0, u "COMPACT_STRINGS"), (1, .class_ 44), (1, u "java/lang/StringUTF16"), (0, u "compress"), (1, .methodref 42 48), (0, .nameAndType 49 50), (0, u "coderFromArrayLen"), (0, u "([BI)B"), (4, .class_ 57), (1, u "java/util/Arrays"), (2, .methodref 42 61), (0, .nameAndType 62 63), (0, u "newBytesFor"), (0, u "(I)[B"), (22, .fieldref 87 88), (0, .class_ 89), (0, .nameAndType 90 91), (0, u "sun/nio/cs/UTF_8"), (0, u "INSTANCE"), (0, u "Lsun/nio/cs/UTF_8;"), (1, .class_ 95), (1, u "java/lang/StringCoding"), (6, .methodref 55 103), (0, .nameAndType 104 105), (0, u "copyOf"), (0, u "([BI)[B"), (1, .class_ 109), (1, u "java/lang/StringLatin1"), (18, .methodref 93 129), (0, .nameAndType 130 131), (0, u "hasNegatives"), (0, u "([BII)Z"), (10, u "()Z"), (34, .methodref 42 178), (0, .nameAndType 45 179), (0, u "([CII)[B"), (72, .methodref 10 253), (0, .nameAndType 254 255), (0, u "encodeUTF8"), (0, u "(B[BZ)[B"), (61, u "encode"), (16, u "()I"), (0, .methodref 10 336), (0, .nameAndType 17 337), (0, u "()B"), (25, u "([BI)C"), (27, u "(II)V"), (35, u "(I)C"), (64, .methodref 10 493), (0, .nameAndType 494 142), (0, u "isLatin1"), (0, .methodref 107 496), (0, .nameAndType 497 363), (0, u "charAt"), (3, u "checkIndex"), (5, u "length"), (24, u "getBytes"), (2, .methodref 10 536), (0, .nameAndType 317 537), (0, u "(Ljava/nio/charset/Charset;B[B)[B"), (37, .class_ 576), (0, u "java/lang/CharSequence"), (22, u "CASE_INSENSITIVE_ORDER"), (0, u "Ljava/util/Comparator;"), (409, u "([C)V"), (42, .fieldref 1054 1055), (0, .class_ 1056), (0, .nameAndType 1057 1058), (0, u "jdk/internal/util/Preconditions"), (0, u "SIOOBE_FORMATTER"), (0, u "Ljava/util/function/BiFunction;"), (0, .methodref 1054 1060), (0, .nameAndType 501 1061), (0, u "(IILjava/util/function/BiFunction;)I"), (39, u "serialPersistentFields"), (0, u "[Ljava/io/ObjectStreamField;"), (0, .class_ 1104), (0, u "java/lang/String$CaseInsensitiveComparator"), (1, .class_ 1107), (0, u "java/io/Serializable"), (0, .class_ 1109), (0, u "java/lang/Comparable"), (0, .class_ 1111), (0, u "java/lang/constant/Constable"), (0, .class_ 1113), (0, u "java/lang/constant/ConstantDesc"), (2, u "serialVersionUID"), (0, u "J"), (3, u "REPL"), (0, u "C"), (2, u "LATIN1"), (1, u "UTF16"), (117, u "(Ljava/nio/charset/Charset;)[B")] 205

def k7m0 : Method := { name := "<init>", desc := "()V", sig := { parameters := [], returnType := none }, accessFlags := 1, code := none }
def k7c1 : Code := { maxStack := 5, maxLocals := 2, code := jdk_42_method_3_code, exceptionTable := #[], attributes := #[] }
def k7m1 : Method := { name := "<init>", desc := "([C)V", sig := { parameters := [(.array .char)], returnType := none }, accessFlags := 1, code := some k7c1 }
def k7c2 : Code := { maxStack := 4, maxLocals := 3, code := jdk_42_method_18_code, exceptionTable := #[], attributes := #[] }
def k7m2 : Method := { name := "encode", desc := "(Ljava/nio/charset/Charset;B[B)[B", sig := { parameters := [(.object "java/nio/charset/Charset"), .byte, (.array .byte)], returnType := some (.array .byte) }, accessFlags := 10, code := some k7c2 }
def k7c3 : Code := { maxStack := 5, maxLocals := 9, code := jdk_42_method_46_code, exceptionTable := #[], attributes := #[] }
def k7m3 : Method := { name := "encodeUTF8", desc := "(B[BZ)[B", sig := { parameters := [.byte, (.array .byte), .boolean], returnType := some (.array .byte) }, accessFlags := 10, code := some k7c3 }
def k7c4 : Code := { maxStack := 2, maxLocals := 1, code := jdk_42_method_54_code, exceptionTable := #[], attributes := #[] }
def k7m4 : Method := { name := "length", desc := "()I", sig := { parameters := [], returnType := some .int }, accessFlags := 1, code := some k7c4 }
def k7c5 : Code := { maxStack := 2, maxLocals := 2, code := jdk_42_method_56_code, exceptionTable := #[], attributes := #[] }
def k7m5 : Method := { name := "charAt", desc := "(I)C", sig := { parameters := [.int], returnType := some .char }, accessFlags := 1, code := some k7c5 }
def k7c6 : Code := { maxStack := 3, maxLocals := 2, code := jdk_42_method_64_code, exceptionTable := #[], attributes := #[] }
def k7m6 : Method := { name := "getBytes", desc := "(Ljava/nio/charset/Charset;)[B", sig := { parameters := [(.object "java/nio/charset/Charset")], returnType := some (.array .byte) }, accessFlags := 1, code := some k7c6 }
def k7c7 : Code := { maxStack := 4, maxLocals := 6, code := jdk_42_method_149_code, exceptionTable := #[], attributes := #[] }
def k7m7 : Method := { name := "<init>", desc := "([CIILjava/lang/Void;)V", sig := { parameters := [(.array .char), .int, .int, (.object "java/lang/Void")], returnType := none }, accessFlags := 2, code := some k7c7 }
def k7c8 : Code := { maxStack := 1, maxLocals := 1, code := jdk_42_method_152_code, exceptionTable := #[], attributes := #[] }
def k7m8 : Method := { name := "coder", desc := "()B", sig := { parameters := [], returnType := some .byte }, accessFlags := 0, code := some k7c8 }
def k7c9 : Code := { maxStack := 1, maxLocals := 1, code := jdk_42_method_154_code, exceptionTable := #[], attributes := #[] }
def k7m9 : Method := { name := "isLatin1", desc := "()Z", sig := { parameters := [], returnType := some .boolean }, accessFlags := 0, code := some k7c9 }
def k7c10 : Code := { maxStack := 3, maxLocals := 2, code := jdk_42_method_155_code, exceptionTable := #[], attributes := #[] }
def k7m10 : Method := { name := "checkIndex", desc := "(II)V", sig := { parameters := [.int, .int], returnType := none }, accessFlags := 8, code := some k7c10 }
/-- java/lang/String -/
def k7 : Class := { plain "java/lang/String" (some 0) with
 accessFlags := 49
 interfaces := #[2, 3, 4, 5, 6]
 cf := some (fileOf pool7 10 #[.nestMembers #[1103]] #[{ accessFlags := 1, nameIndex := 5, descriptorIndex := 6, attributes := #[] }, { accessFlags := 1, nameIndex := 5, descriptorIndex := 1010, attributes := #[] }, { accessFlags := 10, nameIndex := 317, descriptorIndex := 537, attributes := #[] }, { accessFlags := 10, nameIndex := 254, descriptorIndex := 255, attributes := #[] }, { accessFlags := 1, nameIndex := 507, descriptorIndex := 334, attributes := #[] }, { accessFlags := 1, nameIndex := 497, descriptorIndex := 427, attributes := #[] }, { accessFlags := 1, nameIndex := 532, descriptorIndex := 1245, attributes := #[] }, { accessFlags := 2, nameIndex := 5, descriptorIndex := 29, attributes := #[] }, { accessFlags := 0, nameIndex := 17, descriptorIndex := 337, attributes := #[] }, { accessFlags := 0, nameIndex := 494, descriptorIndex := 142, attributes := #[] }, { accessFlags := 8, nameIndex := 501, descriptorIndex := 391, attributes := #[] }] 49 2 #[1106, 1108, 575, 1110, 1112] #[{ accessFlags := 18, nameIndex := 13, descriptorIndex := 14, attributes := #[] }, { accessFlags := 18, nameIndex := 17, descriptorIndex := 18, attributes := #[] }, { accessFlags := 2, nameIndex := 21, descriptorIndex := 22, attributes := #[] }, { accessFlags := 2, nameIndex := 25, descriptorIndex := 26, attributes := #[] }, { accessFlags := 26, nameIndex := 1116, descriptorIndex := 1117, attributes := #[] }, { accessFlags := 24, nameIndex := 40, descriptorIndex := 26, attributes := #[] }, { accessFlags := 26, nameIndex := 1101, descriptorIndex := 1102, attributes := #[] }, { accessFlags := 26, nameIndex := 1121, descriptorIndex := 1122, attributes := #[] }, { accessFlags := 25, nameIndex := 599, descriptorIndex := 600, attributes := #[] }, { accessFlags := 24, nameIndex := 1125, descriptorIndex := 18, attributes := #[] }, { accessFlags := 24, nameIndex := 1127, descriptorIndex := 18, attributes := #[] }])
 fields := #[{ name := "value", type := (.array .byte), accessFlags := 18, slot := 0, constantValue := 0 }, { name := "coder", type := .byte, accessFlags := 18, slot := 1, constantValue := 0 }, { name := "hash", type := .int, accessFlags := 2, slot := 2, constantValue := 0 }, { name := "hashIsZero", type := .boolean, accessFlags := 2, slot := 3, constantValue := 0 }, { name := "serialVersionUID", type := .long, accessFlags := 26, slot := 0, constantValue := 0 }, { name := "COMPACT_STRINGS", type := .boolean, accessFlags := 24, slot := 1, constantValue := 0 }, { name := "serialPersistentFields", type := (.array (.object "java/io/ObjectStreamField")), accessFlags := 26, slot := 2, constantValue := 0 }, { name := "REPL", type := .char, accessFlags := 26, slot := 3, constantValue := 0 }, { name := "CASE_INSENSITIVE_ORDER", type := (.object "java/util/Comparator"), accessFlags := 25, slot := 4, constantValue := 0 }, { name := "LATIN1", type := .byte, accessFlags := 24, slot := 5, constantValue := 0 }, { name := "UTF16", type := .byte, accessFlags := 24, slot := 6, constantValue := 0 }]
 methods := #[k7m0, k7m1, k7m2, k7m3, k7m4, k7m5, k7m6, k7m7, k7m8, k7m9, k7m10]
 instanceTypes := #[(.array .byte), .byte, .int, .boolean]
 staticTypes := #[.long, .boolean, (.array (.object "java/io/ObjectStreamField")), .char, (.object "java/util/Comparator"), .byte, .byte]
 resolved := Array.replicate 1451 none
 statics := some 0 }

def pool8 : Array CpInfo := pool [(6, .class_ 8), (1, u "java/lang/Object"), (0, u "<init>"), (0, u "()V"), (0, .methodref 12 13), (0, .class_ 14), (0, .nameAndType 15 16), (0, u "java/lang/StringUTF16"), (0, u "newBytesLength"), (0, u "(I)I"), (3, .integer 1073741823), (25, u "$assertionsDisabled"), (0, u "Z"), (13, u "HI_BYTE_SHIFT"), (0, u "I"), (2, u "LO_BYTE_SHIFT"), (43, u "newBytesFor"), (0, u "(I)[B"), (4, .methodref 12 116), (0, .nameAndType 117 118), (0, u "compress"), (0, u "([CI[BII)I"), (3, u "([CII)[B"), (138, u "coderFromArrayLen"), (0, u "([BI)B"), (106, .class_ 371), (1, u "java/lang/StringUTF16$LinesSpliterator"), (58, u "MAX_LENGTH"), (196, .class_ 628), (0, u "java/lang/StringUTF16$CodePointsSpliterator"), (0, .class_ 630), (0, u "java/lang/StringUTF16$CharsSpliterator")] 4

def k8m0 : Method := { name := "<init>", desc := "()V", sig := { parameters := [], returnType := none }, accessFlags := 0, code := none }
def k8c1 : Code := { maxStack := 1, maxLocals := 1, code := jdk_52_method_2_code, exceptionTable := #[], attributes := #[] }
def k8m1 : Method := { name := "newBytesFor", desc := "(I)[B", sig := { parameters := [.int], returnType := some (.array .byte) }, accessFlags := 9, code := some k8c1 }
def k8c2 : Code := { maxStack := 4, maxLocals := 1, code := jdk_52_method_3_code, exceptionTable := #[], attributes := #[] }
def k8m2 : Method := { name := "newBytesLength", desc := "(I)I", sig := { parameters := [.int], returnType := some .int }, accessFlags := 9, code := some k8c2 }
def k8c3 : Code := { maxStack := 2, maxLocals := 2, code := jdk_52_method_15_code, exceptionTable := #[], attributes := #[] }
def k8m3 : Method := { name := "coderFromArrayLen", desc := "([BI)B", sig := { parameters := [(.array .byte), .int], returnType := some .byte }, accessFlags := 8, code := some k8c3 }
def k8c4 : Code := { maxStack := 5, maxLocals := 6, code := jdk_52_method_16_code, exceptionTable := #[], attributes := #[] }
def k8m4 : Method := { name := "compress", desc := "([CII)[B", sig := { parameters := [(.array .char), .int, .int], returnType := some (.array .byte) }, accessFlags := 9, code := some k8c4 }
def k8c5 : Code := { maxStack := 3, maxLocals := 7, code := jdk_52_method_21_code, exceptionTable := #[], attributes := #[] }
def k8m5 : Method := { name := "compress", desc := "([CI[BII)I", sig := { parameters := [(.array .char), .int, (.array .byte), .int, .int], returnType := some .int }, accessFlags := 9, code := some k8c5 }
/-- java/lang/StringUTF16 -/
def k8 : Class := { plain "java/lang/StringUTF16" (some 0) with
 accessFlags := 48
 interfaces := #[]
 cf := some (fileOf pool8 12 #[.nestMembers #[627, 629, 369]] #[{ accessFlags := 0, nameIndex := 9, descriptorIndex := 10, attributes := #[] }, { accessFlags := 9, nameIndex := 109, descriptorIndex := 110, attributes := #[] }, { accessFlags := 9, nameIndex := 15, descriptorIndex := 16, attributes := #[] }, { accessFlags := 8, nameIndex := 261, descriptorIndex := 262, attributes := #[] }, { accessFlags := 9, nameIndex := 117, descriptorIndex := 122, attributes := #[] }, { accessFlags := 9, nameIndex := 117, descriptorIndex := 118, attributes := #[] }] 48 6 #[] #[{ accessFlags := 26, nameIndex := 61, descriptorIndex := 62, attributes := #[] }, { accessFlags := 26, nameIndex := 65, descriptorIndex := 62, attributes := #[] }, { accessFlags := 24, nameIndex := 430, descriptorIndex := 62, attributes := #[] }, { accessFlags := 4120, nameIndex := 46, descriptorIndex := 47, attributes := #[] }])
 fields := #[{ name := "HI_BYTE_SHIFT", type := .int, accessFlags := 26, slot := 0, constantValue := 0 }, { name := "LO_BYTE_SHIFT", type := .int, accessFlags := 26, slot := 1, constantValue := 0 }, { name := "MAX_LENGTH", type := .int, accessFlags := 24, slot := 2, constantValue := 0 }, { name := "$assertionsDisabled", type := .boolean, accessFlags := 4120, slot := 3, constantValue := 0 }]
 methods := #[k8m0, k8m1, k8m2, k8m3, k8m4, k8m5]
 instanceTypes := #[]
 staticTypes := #[.int, .int, .int, .boolean]
 resolved := Array.replicate 635 none
 statics := none }

def pool9 : Array CpInfo := pool [(1, .methodref 2 3), (0, .class_ 4), (0, .nameAndType 5 6), (0, u "java/lang/Object"), (0, u "<init>"), (0, u "()V"), (0, .class_ 8), (0, u "java/lang/Record")] 13

def k9c0 : Code := { maxStack := 1, maxLocals := 1, code := jdk_30_method_1_code, exceptionTable := #[], attributes := #[] }
def k9m0 : Method := { name := "<init>", desc := "()V", sig := { parameters := [], returnType := none }, accessFlags := 4, code := some k9c0 }
/-- java/lang/Record -/
def k9 : Class := { plain "java/lang/Record" (some 0) with
 accessFlags := 1057
 interfaces := #[]
 cf := some (fileOf pool9 7 #[] #[{ accessFlags := 4, nameIndex := 5, descriptorIndex := 6, attributes := #[] }] 1057 2 #[] #[])
 fields := #[]
 methods := #[k9m0]
 instanceTypes := #[]
 staticTypes := #[]
 resolved := Array.replicate 22 none
 statics := none }

def pool10 : Array CpInfo := pool [(2, .class_ 4), (1, u "java/lang/Record"), (3, .class_ 10), (1, u "com/example/ringshift/ringshift/data/Cell"), (0, u "value"), (0, u "Ljava/lang/String;"), (2, u "timestamp"), (0, u "J")] 50

/-- com/example/ringshift/ringshift/data/Cell -/
def k10 : Class := { plain "com/example/ringshift/ringshift/data/Cell" (some 9) with
 accessFlags := 49
 interfaces := #[]
 cf := some (fileOf pool10 8 #[] #[] 49 2 #[] #[{ accessFlags := 18, nameIndex := 11, descriptorIndex := 12, attributes := #[] }, { accessFlags := 18, nameIndex := 15, descriptorIndex := 16, attributes := #[] }])
 fields := #[{ name := "value", type := (.object "java/lang/String"), accessFlags := 18, slot := 0, constantValue := 0 }, { name := "timestamp", type := .long, accessFlags := 18, slot := 1, constantValue := 0 }]
 methods := #[]
 instanceTypes := #[(.object "java/lang/String"), .long]
 staticTypes := #[]
 resolved := Array.replicate 67 none
 statics := none }

def pool11 : Array CpInfo := pool [(1, .methodref 2 3), (0, .class_ 4), (0, .nameAndType 5 6), (0, u "java/lang/Record"), (0, u "<init>"), (0, u "()V"), (0, .fieldref 8 9), (0, .class_ 10), (0, .nameAndType 11 12), (0, u "com/example/ringshift/ringshift/data/Row"), (0, u "key"), (0, u "Ljava/lang/String;"), (0, .fieldref 8 14), (0, .nameAndType 15 16), (0, u "cells"), (0, u "[Lcom/example/ringshift/ringshift/data/Cell;"), (0, .fieldref 8 18), (0, .nameAndType 19 20), (0, u "deletedAt"), (0, u "J"), (0, .fieldref 8 22), (0, .nameAndType 23 24), (0, u "movedFrom"), (0, u "Lcom/example/ringshift/ringshift/data/MovedFrom;"), (2, u "(Ljava/lang/String;[Lcom/example/ringshift/ringshift/data/Cell;J)V"), (0, .methodref 8 29), (0, .nameAndType 5 30), (0, u "(Ljava/lang/String;[Lcom/example/ringshift/ringshift/data/Cell;JLcom/example/ringshift/ringshift/data/MovedFrom;)V"), (99, .methodref 131 132), (0, .class_ 133), (0, .nameAndType 134 135), (0, u "com/example/ringshift/ringshift/io/BinaryWriter"), (0, u "writeString"), (0, u "(Ljava/lang/String;)Lcom/example/ringshift/ringshift/io/BinaryWriter;"), (0, .methodref 8 137), (0, .nameAndType 138 139), (0, u "writeAfterKeyTo"), (0, u "(Lcom/example/ringshift/ringshift/io/BinaryWriter;)V"), (0, .methodref 131 141), (0, .nameAndType 142 143), (0, u "writeInt"), (0, u "(I)Lcom/example/ringshift/ringshift/io/BinaryWriter;"), (0, .methodref 131 145), (0, .nameAndType 146 147), (0, u "writeLong"), (0, u "(J)Lcom/example/ringshift/ringshift/io/BinaryWriter;"), (2, u "writeTo"), (0, .methodref 131 152), (0, .nameAndType 153 135), (0, u "writeNullableString"), (10, .class_ 166), (1, u "com/example/ringshift/ringshift/data/Row$Head"), (37, u "MAX_BYTES"), (0, u "I"), (2, u "DELETED"), (1, u "MOVED")] 95

def k11c0 : Code := { maxStack := 6, maxLocals := 5, code := prog_68_method_2_code, exceptionTable := #[], attributes := #[] }
def k11m0 : Method := { name := "<init>", desc := "(Ljava/lang/String;[Lcom/example/ringshift/ringshift/data/Cell;J)V", sig := { parameters := [(.object "java/lang/String"), (.array (.object "com/example/ringshift/ringshift/data/Cell")), .long], returnType := none }, accessFlags := 1, code := some k11c0 }
def k11c1 : Code := { maxStack := 3, maxLocals := 6, code := prog_68_method_3_code, exceptionTable := #[], attributes := #[] }
def k11m1 : Method := { name := "<init>", desc := "(Ljava/lang/String;[Lcom/example/ringshift/ringshift/data/Cell;JLcom/example/ringshift/ringshift/data/MovedFrom;)V", sig := { parameters := [(.object "java/lang/String"), (.array (.object "com/example/ringshift/ringshift/data/Cell")), .long, (.object "com/example/ringshift/ringshift/data/MovedFrom")], returnType := none }, accessFlags := 1, code := some k11c1 }
def k11c2 : Code := { maxStack := 3, maxLocals := 2, code := prog_68_method_14_code, exceptionTable := #[], attributes := #[] }
def k11m2 : Method := { name := "writeTo", desc := "(Lcom/example/ringshift/ringshift/io/BinaryWriter;)V", sig := { parameters := [(.object "com/example/ringshift/ringshift/io/BinaryWriter")], returnType := none }, accessFlags := 1, code := some k11c2 }
def k11c3 : Code := { maxStack := 4, maxLocals := 6, code := prog_68_method_15_code, exceptionTable := #[], attributes := #[] }
def k11m3 : Method := { name := "writeAfterKeyTo", desc := "(Lcom/example/ringshift/ringshift/io/BinaryWriter;)V", sig := { parameters := [(.object "com/example/ringshift/ringshift/io/BinaryWriter")], returnType := none }, accessFlags := 1, code := some k11c3 }
/-- com/example/ringshift/ringshift/data/Row -/
def k11 : Class := { plain "com/example/ringshift/ringshift/data/Row" (some 9) with
 accessFlags := 49
 interfaces := #[]
 cf := some (fileOf pool11 8 #[.nestMembers #[164]] #[{ accessFlags := 1, nameIndex := 5, descriptorIndex := 27, attributes := #[] }, { accessFlags := 1, nameIndex := 5, descriptorIndex := 30, attributes := #[] }, { accessFlags := 1, nameIndex := 150, descriptorIndex := 139, attributes := #[] }, { accessFlags := 1, nameIndex := 138, descriptorIndex := 139, attributes := #[] }] 49 2 #[] #[{ accessFlags := 18, nameIndex := 11, descriptorIndex := 12, attributes := #[] }, { accessFlags := 18, nameIndex := 15, descriptorIndex := 16, attributes := #[] }, { accessFlags := 18, nameIndex := 19, descriptorIndex := 20, attributes := #[] }, { accessFlags := 18, nameIndex := 23, descriptorIndex := 24, attributes := #[] }, { accessFlags := 25, nameIndex := 204, descriptorIndex := 205, attributes := #[] }, { accessFlags := 26, nameIndex := 208, descriptorIndex := 205, attributes := #[] }, { accessFlags := 26, nameIndex := 210, descriptorIndex := 205, attributes := #[] }])
 fields := #[{ name := "key", type := (.object "java/lang/String"), accessFlags := 18, slot := 0, constantValue := 0 }, { name := "cells", type := (.array (.object "com/example/ringshift/ringshift/data/Cell")), accessFlags := 18, slot := 1, constantValue := 0 }, { name := "deletedAt", type := .long, accessFlags := 18, slot := 2, constantValue := 0 }, { name := "movedFrom", type := (.object "com/example/ringshift/ringshift/data/MovedFrom"), accessFlags := 18, slot := 3, constantValue := 0 }, { name := "MAX_BYTES", type := .int, accessFlags := 25, slot := 0, constantValue := 0 }, { name := "DELETED", type := .int, accessFlags := 26, slot := 1, constantValue := 0 }, { name := "MOVED", type := .int, accessFlags := 26, slot := 2, constantValue := 0 }]
 methods := #[k11m0, k11m1, k11m2, k11m3]
 instanceTypes := #[(.object "java/lang/String"), (.array (.object "com/example/ringshift/ringshift/data/Cell")), .long, (.object "com/example/ringshift/ringshift/data/MovedFrom")]
 staticTypes := #[.int, .int, .int]
 resolved := Array.replicate 306 none
 statics := none }

def pool12 : Array CpInfo := pool [(1, .methodref 2 3), (0, .class_ 4), (0, .nameAndType 5 6), (0, u "java/lang/Object"), (0, u "<init>"), (0, u "()V"), (0, .class_ 8), (0, u "com/example/ringshift/ringshift/io/BinaryWriter"), (0, .methodref 7 3), (0, .fieldref 11 12), (0, .class_ 13), (0, .nameAndType 14 15), (0, u "com/example/ringshift/ringshift/data/RowBatch$Builder"), (0, u "rows"), (0, u "Lcom/example/ringshift/ringshift/io/BinaryWriter;"), (0, .methodref 17 18), (0, .class_ 19), (0, .nameAndType 20 21), (0, u "com/example/ringshift/ringshift/data/Row"), (0, u "writeTo"), (0, u "(Lcom/example/ringshift/ringshift/io/BinaryWriter;)V"), (0, .fieldref 11 23), (0, .nameAndType 24 25), (0, u "count"), (0, u "I"), (0, .methodref 7 27), (0, .nameAndType 28 29), (0, u "size"), (0, u "()I"), (0, .class_ 31), (0, u "com/example/ringshift/ringshift/data/RowBatch"), (7, .methodref 7 40), (0, .nameAndType 41 42), (0, u "clear"), (0, u "()Lcom/example/ringshift/ringshift/io/BinaryWriter;"), (2, u "add"), (0, u "(Lcom/example/ringshift/ringshift/data/Row;)Lcom/example/ringshift/ringshift/data/RowBatch$Builder;"), (0, u "bytes"), (2, u "()Lcom/example/ringshift/ringshift/data/RowBatch$Builder;")] 5

def k12c0 : Code := { maxStack := 3, maxLocals := 1, code := prog_71_method_1_code, exceptionTable := #[], attributes := #[] }
def k12m0 : Method := { name := "<init>", desc := "()V", sig := { parameters := [], returnType := none }, accessFlags := 1, code := some k12c0 }
def k12c1 : Code := { maxStack := 3, maxLocals := 2, code := prog_71_method_2_code, exceptionTable := #[], attributes := #[] }
def k12m1 : Method := { name := "add", desc := "(Lcom/example/ringshift/ringshift/data/Row;)Lcom/example/ringshift/ringshift/data/RowBatch$Builder;", sig := { parameters := [(.object "com/example/ringshift/ringshift/data/Row")], returnType := some (.object "com/example/ringshift/ringshift/data/RowBatch$Builder") }, accessFlags := 1, code := some k12c1 }
def k12c2 : Code := { maxStack := 1, maxLocals := 1, code := prog_71_method_3_code, exceptionTable := #[], attributes := #[] }
def k12m2 : Method := { name := "count", desc := "()I", sig := { parameters := [], returnType := some .int }, accessFlags := 1, code := some k12c2 }
def k12c3 : Code := { maxStack := 1, maxLocals := 1, code := prog_71_method_4_code, exceptionTable := #[], attributes := #[] }
def k12m3 : Method := { name := "bytes", desc := "()I", sig := { parameters := [], returnType := some .int }, accessFlags := 1, code := some k12c3 }
def k12c4 : Code := { maxStack := 2, maxLocals := 1, code := prog_71_method_6_code, exceptionTable := #[], attributes := #[] }
def k12m4 : Method := { name := "clear", desc := "()Lcom/example/ringshift/ringshift/data/RowBatch$Builder;", sig := { parameters := [], returnType := some (.object "com/example/ringshift/ringshift/data/RowBatch$Builder") }, accessFlags := 1, code := some k12c4 }
/-- com/example/ringshift/ringshift/data/RowBatch$Builder -/
def k12 : Class := { plain "com/example/ringshift/ringshift/data/RowBatch$Builder" (some 0) with
 accessFlags := 49
 interfaces := #[]
 cf := some (fileOf pool12 11 #[.nestHost 30] #[{ accessFlags := 1, nameIndex := 5, descriptorIndex := 6, attributes := #[] }, { accessFlags := 1, nameIndex := 45, descriptorIndex := 46, attributes := #[] }, { accessFlags := 1, nameIndex := 24, descriptorIndex := 29, attributes := #[] }, { accessFlags := 1, nameIndex := 47, descriptorIndex := 29, attributes := #[] }, { accessFlags := 1, nameIndex := 41, descriptorIndex := 50, attributes := #[] }] 49 2 #[] #[{ accessFlags := 18, nameIndex := 14, descriptorIndex := 15, attributes := #[] }, { accessFlags := 2, nameIndex := 24, descriptorIndex := 25, attributes := #[] }])
 fields := #[{ name := "rows", type := (.object "com/example/ringshift/ringshift/io/BinaryWriter"), accessFlags := 18, slot := 0, constantValue := 0 }, { name := "count", type := .int, accessFlags := 2, slot := 1, constantValue := 0 }]
 methods := #[k12m0, k12m1, k12m2, k12m3, k12m4]
 instanceTypes := #[(.object "com/example/ringshift/ringshift/io/BinaryWriter"), .int]
 staticTypes := #[]
 resolved := Array.replicate 56 none
 statics := none }

def pool13 : Array CpInfo := pool [(3, .methodref 4 5), (0, .class_ 6), (0, .nameAndType 7 8), (0, u "com/example/ringshift/ringshift/io/BinaryWriter"), (0, u "<init>"), (0, u "(I)V"), (0, .methodref 10 11), (0, .class_ 12), (0, .nameAndType 7 13), (0, u "java/lang/Object"), (0, u "()V"), (0, .fieldref 4 15), (0, .nameAndType 16 17), (0, u "bytes"), (0, u "[B"), (0, .methodref 4 19), (0, .nameAndType 20 8), (0, u "room"), (0, .fieldref 4 22), (0, .nameAndType 23 24), (0, u "size"), (0, u "I"), (3, u "(I)Lcom/example/ringshift/ringshift/io/BinaryWriter;"), (4, .methodref 34 35), (0, .class_ 36), (0, .nameAndType 37 38), (0, u "java/lang/String"), (0, u "length"), (0, u "()I"), (0, .methodref 4 40), (0, .nameAndType 41 28), (0, u "writeInt"), (0, .methodref 34 43), (0, .nameAndType 44 45), (0, u "charAt"), (0, u "(I)C"), (0, .methodref 4 47), (0, .nameAndType 48 49), (0, u "writeEncoded"), (0, u "(Ljava/lang/String;)Lcom/example/ringshift/ringshift/io/BinaryWriter;"), (0, .long 2), (17, .methodref 4 69), (0, .nameAndType 70 49), (0, u "writeString"), (15, u "writeLong"), (0, u "(J)Lcom/example/ringshift/ringshift/io/BinaryWriter;"), (12, .methodref 101 102), (0, .class_ 103), (0, .nameAndType 104 105), (0, u "java/util/Arrays"), (0, u "copyOf"), (0, u "([BI)[B"), (4, .fieldref 111 112), (0, .class_ 113), (0, .nameAndType 114 115), (0, u "java/nio/charset/StandardCharsets"), (0, u "UTF_8"), (0, u "Ljava/nio/charset/Charset;"), (0, .methodref 34 117), (0, .nameAndType 118 119), (0, u "getBytes"), (0, u "(Ljava/nio/charset/Charset;)[B"), (0, .methodref 121 122), (0, .class_ 123), (0, .nameAndType 124 125), (0, u "java/lang/System"), (0, u "arraycopy"), (0, u "(Ljava/lang/Object;ILjava/lang/Object;II)V"), (0, .integer 2147483639), (7, .long 2147483639), (1, .methodref 137 138), (0, .class_ 139), (0, .nameAndType 140 141), (0, u "java/lang/Math"), (0, u "max"), (0, u "(JJ)J"), (0, .methodref 137 143), (0, .nameAndType 144 141), (0, u "min"), (0, u "ABSENT"), (2, u "MAX_BYTES"), (7, u "writeNullableString"), (15, u "clear"), (0, u "()Lcom/example/ringshift/ringshift/io/BinaryWriter;")] 23

def k13c0 : Code := { maxStack := 2, maxLocals := 1, code := prog_81_method_1_code, exceptionTable := #[], attributes := #[] }
def k13m0 : Method := { name := "<init>", desc := "()V", sig := { parameters := [], returnType := none }, accessFlags := 1, code := some k13c0 }
def k13c1 : Code := { maxStack := 2, maxLocals := 2, code := prog_81_method_2_code, exceptionTable := #[], attributes := #[] }
def k13m1 : Method := { name := "<init>", desc := "(I)V", sig := { parameters := [.int], returnType := none }, accessFlags := 1, code := some k13c1 }
def k13c2 : Code := { maxStack := 5, maxLocals := 3, code := prog_81_method_5_code, exceptionTable := #[], attributes := #[] }
def k13m2 : Method := { name := "writeInt", desc := "(I)Lcom/example/ringshift/ringshift/io/BinaryWriter;", sig := { parameters := [.int], returnType := some (.object "com/example/ringshift/ringshift/io/BinaryWriter") }, accessFlags := 1, code := some k13c2 }
def k13c3 : Code := { maxStack := 5, maxLocals := 4, code := prog_81_method_6_code, exceptionTable := #[], attributes := #[] }
def k13m3 : Method := { name := "writeLong", desc := "(J)Lcom/example/ringshift/ringshift/io/BinaryWriter;", sig := { parameters := [.long], returnType := some (.object "com/example/ringshift/ringshift/io/BinaryWriter") }, accessFlags := 1, code := some k13c3 }
def k13c4 : Code := { maxStack := 3, maxLocals := 5, code := prog_81_method_7_code, exceptionTable := #[], attributes := #[] }
def k13m4 : Method := { name := "writeString", desc := "(Ljava/lang/String;)Lcom/example/ringshift/ringshift/io/BinaryWriter;", sig := { parameters := [(.object "java/lang/String")], returnType := some (.object "com/example/ringshift/ringshift/io/BinaryWriter") }, accessFlags := 1, code := some k13c4 }
def k13c5 : Code := { maxStack := 2, maxLocals := 2, code := prog_81_method_9_code, exceptionTable := #[], attributes := #[] }
def k13m5 : Method := { name := "writeNullableString", desc := "(Ljava/lang/String;)Lcom/example/ringshift/ringshift/io/BinaryWriter;", sig := { parameters := [(.object "java/lang/String")], returnType := some (.object "com/example/ringshift/ringshift/io/BinaryWriter") }, accessFlags := 1, code := some k13c5 }
def k13c6 : Code := { maxStack := 1, maxLocals := 1, code := prog_81_method_14_code, exceptionTable := #[], attributes := #[] }
def k13m6 : Method := { name := "size", desc := "()I", sig := { parameters := [], returnType := some .int }, accessFlags := 1, code := some k13c6 }
def k13c7 : Code := { maxStack := 2, maxLocals := 1, code := prog_81_method_17_code, exceptionTable := #[], attributes := #[] }
def k13m7 : Method := { name := "clear", desc := "()Lcom/example/ringshift/ringshift/io/BinaryWriter;", sig := { parameters := [], returnType := some (.object "com/example/ringshift/ringshift/io/BinaryWriter") }, accessFlags := 1, code := some k13c7 }
def k13c8 : Code := { maxStack := 5, maxLocals := 3, code := prog_81_method_18_code, exceptionTable := #[], attributes := #[] }
def k13m8 : Method := { name := "writeEncoded", desc := "(Ljava/lang/String;)Lcom/example/ringshift/ringshift/io/BinaryWriter;", sig := { parameters := [(.object "java/lang/String")], returnType := some (.object "com/example/ringshift/ringshift/io/BinaryWriter") }, accessFlags := 2, code := some k13c8 }
def k13c9 : Code := { maxStack := 8, maxLocals := 3, code := prog_81_method_19_code, exceptionTable := #[], attributes := #[] }
def k13m9 : Method := { name := "room", desc := "(I)V", sig := { parameters := [.int], returnType := none }, accessFlags := 2, code := some k13c9 }
/-- com/example/ringshift/ringshift/io/BinaryWriter -/
def k13 : Class := { plain "com/example/ringshift/ringshift/io/BinaryWriter" (some 0) with
 accessFlags := 49
 interfaces := #[]
 cf := some (fileOf pool13 4 #[] #[{ accessFlags := 1, nameIndex := 7, descriptorIndex := 13, attributes := #[] }, { accessFlags := 1, nameIndex := 7, descriptorIndex := 8, attributes := #[] }, { accessFlags := 1, nameIndex := 41, descriptorIndex := 28, attributes := #[] }, { accessFlags := 1, nameIndex := 86, descriptorIndex := 87, attributes := #[] }, { accessFlags := 1, nameIndex := 70, descriptorIndex := 49, attributes := #[] }, { accessFlags := 1, nameIndex := 156, descriptorIndex := 49, attributes := #[] }, { accessFlags := 1, nameIndex := 23, descriptorIndex := 38, attributes := #[] }, { accessFlags := 1, nameIndex := 172, descriptorIndex := 173, attributes := #[] }, { accessFlags := 2, nameIndex := 48, descriptorIndex := 49, attributes := #[] }, { accessFlags := 2, nameIndex := 20, descriptorIndex := 8, attributes := #[] }] 49 10 #[] #[{ accessFlags := 24, nameIndex := 145, descriptorIndex := 24, attributes := #[] }, { accessFlags := 26, nameIndex := 148, descriptorIndex := 24, attributes := #[] }, { accessFlags := 2, nameIndex := 16, descriptorIndex := 17, attributes := #[] }, { accessFlags := 2, nameIndex := 23, descriptorIndex := 24, attributes := #[] }])
 fields := #[{ name := "ABSENT", type := .int, accessFlags := 24, slot := 0, constantValue := 0 }, { name := "MAX_BYTES", type := .int, accessFlags := 26, slot := 1, constantValue := 0 }, { name := "bytes", type := (.array .byte), accessFlags := 2, slot := 0, constantValue := 0 }, { name := "size", type := .int, accessFlags := 2, slot := 1, constantValue := 0 }]
 methods := #[k13m0, k13m1, k13m2, k13m3, k13m4, k13m5, k13m6, k13m7, k13m8, k13m9]
 instanceTypes := #[(.array .byte), .int]
 staticTypes := #[.int, .int]
 resolved := Array.replicate 197 none
 statics := none }

def pool14 : Array CpInfo := pool [(1, .class_ 2), (0, u "java/lang/String"), (1, .class_ 6), (1, u "java/lang/Object"), (0, u "<init>"), (0, u "()V"), (0, .methodref 1 10), (0, .nameAndType 11 12), (0, u "checkIndex"), (0, u "(II)V"), (1, .class_ 16), (1, u "java/lang/StringLatin1"), (36, u "([BI)C"), (67, u "$assertionsDisabled"), (0, u "Z"), (98, .class_ 223), (1, u "java/lang/StringLatin1$LinesSpliterator"), (28, u "charAt"), (137, .class_ 391), (0, u "java/lang/StringLatin1$CharsSpliterator")] 3

def k14m0 : Method := { name := "<init>", desc := "()V", sig := { parameters := [], returnType := none }, accessFlags := 0, code := none }
def k14c1 : Code := { maxStack := 2, maxLocals := 2, code := jdk_43_method_2_code, exceptionTable := #[], attributes := #[] }
def k14m1 : Method := { name := "charAt", desc := "([BI)C", sig := { parameters := [(.array .byte), .int], returnType := some .char }, accessFlags := 9, code := some k14c1 }
/-- java/lang/StringLatin1 -/
def k14 : Class := { plain "java/lang/StringLatin1" (some 0) with
 accessFlags := 48
 interfaces := #[]
 cf := some (fileOf pool14 14 #[.nestMembers #[390, 221]] #[{ accessFlags := 0, nameIndex := 7, descriptorIndex := 8, attributes := #[] }, { accessFlags := 9, nameIndex := 252, descriptorIndex := 53, attributes := #[] }] 48 4 #[] #[{ accessFlags := 4120, nameIndex := 121, descriptorIndex := 122, attributes := #[] }])
 fields := #[{ name := "$assertionsDisabled", type := .boolean, accessFlags := 4120, slot := 0, constantValue := 0 }]
 methods := #[k14m0, k14m1]
 instanceTypes := #[]
 staticTypes := #[.boolean]
 resolved := Array.replicate 395 none
 statics := none }

def pool15 : Array CpInfo := pool [(2, .class_ 4), (1, u "java/lang/Object"), (0, u "<init>"), (0, u "()V"), (17, .class_ 26), (1, u "jdk/internal/util/Preconditions"), (6, u "checkIndex"), (21, .class_ 56), (0, u "jdk/internal/util/Preconditions$4"), (57, .class_ 115), (0, u "jdk/internal/util/Preconditions$1"), (7, u "SIOOBE_FORMATTER"), (0, u "Ljava/util/function/BiFunction;"), (0, .class_ 126), (0, u "jdk/internal/util/Preconditions$2"), (3, u "AIOOBE_FORMATTER"), (0, .class_ 132), (0, u "jdk/internal/util/Preconditions$3"), (3, u "IOOBE_FORMATTER"), (41, u "(IILjava/util/function/BiFunction;)I")] 15

def k15m0 : Method := { name := "<init>", desc := "()V", sig := { parameters := [], returnType := none }, accessFlags := 1, code := none }
def k15c1 : Code := { maxStack := 3, maxLocals := 3, code := jdk_41_method_11_code, exceptionTable := #[], attributes := #[] }
def k15m1 : Method := { name := "checkIndex", desc := "(IILjava/util/function/BiFunction;)I", sig := { parameters := [.int, .int, (.object "java/util/function/BiFunction")], returnType := some .int }, accessFlags := 9, code := some k15c1 }
/-- jdk/internal/util/Preconditions -/
def k15 : Class := { plain "jdk/internal/util/Preconditions" (some 0) with
 accessFlags := 33
 interfaces := #[]
 cf := some (fileOf pool15 24 #[.nestMembers #[55, 131, 125, 114]] #[{ accessFlags := 1, nameIndex := 5, descriptorIndex := 6, attributes := #[] }, { accessFlags := 9, nameIndex := 33, descriptorIndex := 178, attributes := #[] }] 33 2 #[] #[{ accessFlags := 25, nameIndex := 123, descriptorIndex := 124, attributes := #[] }, { accessFlags := 25, nameIndex := 130, descriptorIndex := 124, attributes := #[] }, { accessFlags := 25, nameIndex := 136, descriptorIndex := 124, attributes := #[] }])
 fields := #[{ name := "SIOOBE_FORMATTER", type := (.object "java/util/function/BiFunction"), accessFlags := 25, slot := 0, constantValue := 0 }, { name := "AIOOBE_FORMATTER", type := (.object "java/util/function/BiFunction"), accessFlags := 25, slot := 1, constantValue := 0 }, { name := "IOOBE_FORMATTER", type := (.object "java/util/function/BiFunction"), accessFlags := 25, slot := 2, constantValue := 0 }]
 methods := #[k15m0, k15m1]
 instanceTypes := #[]
 staticTypes := #[(.object "java/util/function/BiFunction"), (.object "java/util/function/BiFunction"), (.object "java/util/function/BiFunction")]
 resolved := Array.replicate 194 none
 statics := some 1 }

def pool16 : Array CpInfo := pool [(1, .class_ 2), (0, u "java/lang/Math"), (1, .class_ 6), (1, u "java/lang/Object"), (0, u "<init>"), (0, u "()V"), (89, .class_ 100), (1, u "java/lang/Math$RandomNumberGeneratorHolder"), (20, u "(JJ)J"), (50, u "negativeZeroFloatBits"), (0, u "J"), (2, u "negativeZeroDoubleBits"), (21, u "max"), (2, u "min"), (43, u "$assertionsDisabled"), (0, u "Z"), (88, u "(II)I"), (2, u "twoToTheDoubleScaleDown"), (0, u "D"), (4, u "twoToTheDoubleScaleUp"), (9, u "E"), (3, u "PI"), (2, u "TAU"), (2, u "DEGREES_TO_RADIANS"), (0, u "RADIANS_TO_DEGREES")] 94

def k16m0 : Method := { name := "<init>", desc := "()V", sig := { parameters := [], returnType := none }, accessFlags := 2, code := none }
def k16c1 : Code := { maxStack := 4, maxLocals := 4, code := jdk_29_method_66_code, exceptionTable := #[], attributes := #[] }
def k16m1 : Method := { name := "max", desc := "(JJ)J", sig := { parameters := [.long, .long], returnType := some .long }, accessFlags := 9, code := some k16c1 }
def k16c2 : Code := { maxStack := 2, maxLocals := 2, code := jdk_29_method_69_code, exceptionTable := #[], attributes := #[] }
def k16m2 : Method := { name := "min", desc := "(II)I", sig := { parameters := [.int, .int], returnType := some .int }, accessFlags := 9, code := some k16c2 }
def k16c3 : Code := { maxStack := 4, maxLocals := 4, code := jdk_29_method_70_code, exceptionTable := #[], attributes := #[] }
def k16m3 : Method := { name := "min", desc := "(JJ)J", sig := { parameters := [.long, .long], returnType := some .long }, accessFlags := 9, code := some k16c3 }
/-- java/lang/Math -/
def k16 : Class := { plain "java/lang/Math" (some 0) with
 accessFlags := 49
 interfaces := #[]
 cf := some (fileOf pool16 1 #[.nestMembers #[98]] #[{ accessFlags := 2, nameIndex := 7, descriptorIndex := 8, attributes := #[] }, { accessFlags := 9, nameIndex := 198, descriptorIndex := 121, attributes := #[] }, { accessFlags := 9, nameIndex := 201, descriptorIndex := 335, attributes := #[] }, { accessFlags := 9, nameIndex := 201, descriptorIndex := 121, attributes := #[] }] 49 4 #[] #[{ accessFlags := 25, nameIndex := 354, descriptorIndex := 339, attributes := #[] }, { accessFlags := 25, nameIndex := 358, descriptorIndex := 339, attributes := #[] }, { accessFlags := 25, nameIndex := 361, descriptorIndex := 339, attributes := #[] }, { accessFlags := 26, nameIndex := 364, descriptorIndex := 339, attributes := #[] }, { accessFlags := 26, nameIndex := 365, descriptorIndex := 339, attributes := #[] }, { accessFlags := 26, nameIndex := 172, descriptorIndex := 173, attributes := #[] }, { accessFlags := 26, nameIndex := 176, descriptorIndex := 173, attributes := #[] }, { accessFlags := 8, nameIndex := 344, descriptorIndex := 339, attributes := #[] }, { accessFlags := 8, nameIndex := 338, descriptorIndex := 339, attributes := #[] }, { accessFlags := 4120, nameIndex := 245, descriptorIndex := 246, attributes := #[] }])
 fields := #[{ name := "E", type := .double, accessFlags := 25, slot := 0, constantValue := 0 }, { name := "PI", type := .double, accessFlags := 25, slot := 1, constantValue := 0 }, { name := "TAU", type := .double, accessFlags := 25, slot := 2, constantValue := 0 }, { name := "DEGREES_TO_RADIANS", type := .double, accessFlags := 26, slot := 3, constantValue := 0 }, { name := "RADIANS_TO_DEGREES", type := .double, accessFlags := 26, slot := 4, constantValue := 0 }, { name := "negativeZeroFloatBits", type := .long, accessFlags := 26, slot := 5, constantValue := 0 }, { name := "negativeZeroDoubleBits", type := .long, accessFlags := 26, slot := 6, constantValue := 0 }, { name := "twoToTheDoubleScaleUp", type := .double, accessFlags := 8, slot := 7, constantValue := 0 }, { name := "twoToTheDoubleScaleDown", type := .double, accessFlags := 8, slot := 8, constantValue := 0 }, { name := "$assertionsDisabled", type := .boolean, accessFlags := 4120, slot := 9, constantValue := 0 }]
 methods := #[k16m0, k16m1, k16m2, k16m3]
 instanceTypes := #[]
 staticTypes := #[.double, .double, .double, .double, .double, .long, .long, .double, .double, .boolean]
 resolved := Array.replicate 460 none
 statics := none }

def pool17 : Array CpInfo := pool [(2, .class_ 4), (1, u "java/lang/Object"), (0, u "<init>"), (0, u "()V"), (7, .class_ 16), (1, u "java/util/Arrays"), (57, .class_ 76), (1, u "java/util/Arrays$NaturalOrder"), (36, .class_ 115), (1, u "java/util/Arrays$LegacyMergeSort"), (1, u "Z"), (32, .methodref 151 152), (0, .class_ 153), (0, .nameAndType 154 155), (0, u "java/lang/System"), (0, u "arraycopy"), (0, u "(Ljava/lang/Object;ILjava/lang/Object;II)V"), (146, u "copyOf"), (1, .methodref 305 306), (0, .class_ 307), (0, .nameAndType 308 309), (0, u "java/lang/Math"), (0, u "min"), (0, u "(II)I"), (65, .class_ 376), (0, u "java/util/Arrays$ArrayList"), (68, u "$assertionsDisabled"), (269, u "MIN_ARRAY_SORT_GRAN"), (0, u "I"), (2, u "INSERTIONSORT_THRESHOLD"), (149, u "([BI)[B"), (105, .class_ 976), (0, u "java/util/Arrays$ArrayItr")] 52

def k17m0 : Method := { name := "<init>", desc := "()V", sig := { parameters := [], returnType := none }, accessFlags := 2, code := none }
def k17c1 : Code := { maxStack := 6, maxLocals := 3, code := jdk_65_method_121_code, exceptionTable := #[], attributes := #[] }
def k17m1 : Method := { name := "copyOf", desc := "([BI)[B", sig := { parameters := [(.array .byte), .int], returnType := some (.array .byte) }, accessFlags := 9, code := some k17c1 }
/-- java/util/Arrays -/
def k17 : Class := { plain "java/util/Arrays" (some 0) with
 accessFlags := 49
 interfaces := #[]
 cf := some (fileOf pool17 14 #[.nestMembers #[975, 375, 113, 74]] #[{ accessFlags := 2, nameIndex := 5, descriptorIndex := 6, attributes := #[] }, { accessFlags := 9, nameIndex := 302, descriptorIndex := 869, attributes := #[] }] 49 2 #[] #[{ accessFlags := 26, nameIndex := 715, descriptorIndex := 716, attributes := #[] }, { accessFlags := 26, nameIndex := 719, descriptorIndex := 716, attributes := #[] }, { accessFlags := 4120, nameIndex := 445, descriptorIndex := 117, attributes := #[] }])
 fields := #[{ name := "MIN_ARRAY_SORT_GRAN", type := .int, accessFlags := 26, slot := 0, constantValue := 0 }, { name := "INSERTIONSORT_THRESHOLD", type := .int, accessFlags := 26, slot := 1, constantValue := 0 }, { name := "$assertionsDisabled", type := .boolean, accessFlags := 4120, slot := 2, constantValue := 0 }]
 methods := #[k17m0, k17m1]
 instanceTypes := #[]
 staticTypes := #[.int, .int, .boolean]
 resolved := Array.replicate 1029 none
 statics := none }

def pool18 : Array CpInfo := pool [(2, .class_ 4), (1, u "java/lang/Object"), (0, u "<init>"), (0, u "()V"), (1, .class_ 10), (1, u "java/lang/System"), (0, u "allowSecurityManager"), (0, u "I"), (16, u "cons"), (0, u "Ljava/io/Console;"), (77, .class_ 110), (1, u "java/lang/System$CallersHolder"), (43, u "initialErrStream"), (0, u "Ljava/io/PrintStream;"), (19, u "security"), (0, u "Ljava/lang/SecurityManager;"), (31, .class_ 209), (0, u "java/lang/System$1"), (7, u "props"), (0, u "Ljava/util/Properties;"), (2, u "lineSeparator"), (0, u "Ljava/lang/String;"), (96, .class_ 321), (1, u "java/lang/System$LoggerFinder"), (5, .class_ 328), (0, u "java/lang/System$Logger"), (67, u "err"), (2, u "out"), (91, u "notSupportedJnuEncoding"), (15, u "in"), (17, u "initialIn"), (0, u "Ljava/io/InputStream;"), (35, u "bootLayer"), (0, u "Ljava/lang/ModuleLayer;"), (99, .class_ 664), (0, u "java/lang/System$2"), (9, u "NEVER"), (2, u "MAYBE"), (49, u "arraycopy"), (0, u "(Ljava/lang/Object;ILjava/lang/Object;II)V"), (72, .class_ 802), (0, u "java/lang/System$Logger$Level")] 31

def k18m0 : Method := { name := "<init>", desc := "()V", sig := { parameters := [], returnType := none }, accessFlags := 2, code := none }
def k18m1 : Method := { name := "arraycopy", desc := "(Ljava/lang/Object;ILjava/lang/Object;II)V", sig := { parameters := [(.object "java/lang/Object"), .int, (.object "java/lang/Object"), .int, .int], returnType := none }, accessFlags := 265, code := none }
/-- java/lang/System -/
def k18 : Class := { plain "java/lang/System" (some 0) with
 accessFlags := 49
 interfaces := #[]
 cf := some (fileOf pool18 8 #[.nestMembers #[319, 327, 801, 108, 663, 208]] #[{ accessFlags := 2, nameIndex := 5, descriptorIndex := 6, attributes := #[] }, { accessFlags := 265, nameIndex := 727, descriptorIndex := 728, attributes := #[] }] 49 2 #[] #[{ accessFlags := 25, nameIndex := 507, descriptorIndex := 526, attributes := #[] }, { accessFlags := 25, nameIndex := 399, descriptorIndex := 155, attributes := #[] }, { accessFlags := 25, nameIndex := 396, descriptorIndex := 155, attributes := #[] }, { accessFlags := 10, nameIndex := 525, descriptorIndex := 526, attributes := #[] }, { accessFlags := 26, nameIndex := 674, descriptorIndex := 12, attributes := #[] }, { accessFlags := 26, nameIndex := 677, descriptorIndex := 12, attributes := #[] }, { accessFlags := 10, nameIndex := 11, descriptorIndex := 12, attributes := #[] }, { accessFlags := 74, nameIndex := 175, descriptorIndex := 176, attributes := #[] }, { accessFlags := 10, nameIndex := 491, descriptorIndex := 222, attributes := #[] }, { accessFlags := 74, nameIndex := 29, descriptorIndex := 30, attributes := #[] }, { accessFlags := 74, nameIndex := 154, descriptorIndex := 155, attributes := #[] }, { accessFlags := 10, nameIndex := 217, descriptorIndex := 218, attributes := #[] }, { accessFlags := 10, nameIndex := 221, descriptorIndex := 222, attributes := #[] }, { accessFlags := 8, nameIndex := 562, descriptorIndex := 563, attributes := #[] }])
 fields := #[{ name := "in", type := (.object "java/io/InputStream"), accessFlags := 25, slot := 0, constantValue := 0 }, { name := "out", type := (.object "java/io/PrintStream"), accessFlags := 25, slot := 1, constantValue := 0 }, { name := "err", type := (.object "java/io/PrintStream"), accessFlags := 25, slot := 2, constantValue := 0 }, { name := "initialIn", type := (.object "java/io/InputStream"), accessFlags := 10, slot := 3, constantValue := 0 }, { name := "NEVER", type := .int, accessFlags := 26, slot := 4, constantValue := 0 }, { name := "MAYBE", type := .int, accessFlags := 26, slot := 5, constantValue := 0 }, { name := "allowSecurityManager", type := .int, accessFlags := 10, slot := 6, constantValue := 0 }, { name := "security", type := (.object "java/lang/SecurityManager"), accessFlags := 74, slot := 7, constantValue := 0 }, { name := "notSupportedJnuEncoding", type := (.object "java/lang/String"), accessFlags := 10, slot := 8, constantValue := 0 }, { name := "cons", type := (.object "java/io/Console"), accessFlags := 74, slot := 9, constantValue := 0 }, { name := "initialErrStream", type := (.object "java/io/PrintStream"), accessFlags := 74, slot := 10, constantValue := 0 }, { name := "props", type := (.object "java/util/Properties"), accessFlags := 10, slot := 11, constantValue := 0 }, { name := "lineSeparator", type := (.object "java/lang/String"), accessFlags := 10, slot := 12, constantValue := 0 }, { name := "bootLayer", type := (.object "java/lang/ModuleLayer"), accessFlags := 8, slot := 13, constantValue := 0 }]
 methods := #[k18m0, k18m1]
 instanceTypes := #[]
 staticTypes := #[(.object "java/io/InputStream"), (.object "java/io/PrintStream"), (.object "java/io/PrintStream"), (.object "java/io/InputStream"), .int, .int, .int, (.object "java/lang/SecurityManager"), (.object "java/lang/String"), (.object "java/io/Console"), (.object "java/io/PrintStream"), (.object "java/util/Properties"), (.object "java/lang/String"), (.object "java/lang/ModuleLayer")]
 resolved := Array.replicate 834 none
 statics := none }

def pool19 : Array CpInfo := pool [(2, .class_ 4), (1, u "java/lang/Object"), (0, u "<init>"), (0, u "()V"), (14, .class_ 23), (1, u "java/nio/charset/StandardCharsets"), (0, u "US_ASCII"), (0, u "Ljava/nio/charset/Charset;"), (7, u "ISO_8859_1"), (7, u "UTF_8"), (5, u "UTF_16BE"), (5, u "UTF_16LE"), (5, u "UTF_16")] 8

def k19m0 : Method := { name := "<init>", desc := "()V", sig := { parameters := [], returnType := none }, accessFlags := 2, code := none }
/-- java/nio/charset/StandardCharsets -/
def k19 : Class := { plain "java/nio/charset/StandardCharsets" (some 0) with
 accessFlags := 49
 interfaces := #[]
 cf := some (fileOf pool19 21 #[] #[{ accessFlags := 2, nameIndex := 5, descriptorIndex := 6, attributes := #[] }] 49 2 #[] #[{ accessFlags := 25, nameIndex := 24, descriptorIndex := 25, attributes := #[] }, { accessFlags := 25, nameIndex := 33, descriptorIndex := 25, attributes := #[] }, { accessFlags := 25, nameIndex := 41, descriptorIndex := 25, attributes := #[] }, { accessFlags := 25, nameIndex := 47, descriptorIndex := 25, attributes := #[] }, { accessFlags := 25, nameIndex := 53, descriptorIndex := 25, attributes := #[] }, { accessFlags := 25, nameIndex := 59, descriptorIndex := 25, attributes := #[] }])
 fields := #[{ name := "US_ASCII", type := (.object "java/nio/charset/Charset"), accessFlags := 25, slot := 0, constantValue := 0 }, { name := "ISO_8859_1", type := (.object "java/nio/charset/Charset"), accessFlags := 25, slot := 1, constantValue := 0 }, { name := "UTF_8", type := (.object "java/nio/charset/Charset"), accessFlags := 25, slot := 2, constantValue := 0 }, { name := "UTF_16BE", type := (.object "java/nio/charset/Charset"), accessFlags := 25, slot := 3, constantValue := 0 }, { name := "UTF_16LE", type := (.object "java/nio/charset/Charset"), accessFlags := 25, slot := 4, constantValue := 0 }, { name := "UTF_16", type := (.object "java/nio/charset/Charset"), accessFlags := 25, slot := 5, constantValue := 0 }]
 methods := #[k19m0]
 instanceTypes := #[]
 staticTypes := #[(.object "java/nio/charset/Charset"), (.object "java/nio/charset/Charset"), (.object "java/nio/charset/Charset"), (.object "java/nio/charset/Charset"), (.object "java/nio/charset/Charset"), (.object "java/nio/charset/Charset")]
 resolved := Array.replicate 68 none
 statics := some 2 }

def pool20 : Array CpInfo := pool [(18, .class_ 20), (1, u "java/nio/charset/Charset"), (0, u "cache1"), (0, u "[Ljava/lang/Object;"), (2, u "cache2"), (0, .class_ 27), (0, u "java/lang/Object"), (0, .class_ 29), (0, u "java/nio/charset/Charset$1"), (4, .class_ 36), (1, u "java/nio/charset/Charset$ThreadTrackHolder"), (21, .class_ 59), (0, u "java/nio/charset/Charset$2"), (11, .class_ 73), (1, u "java/nio/charset/Charset$ExtendedProviderHolder"), (22, u "standardProvider"), (0, u "Ljava/nio/charset/spi/CharsetProvider;"), (29, u "name"), (7, .class_ 136), (0, u "java/nio/charset/Charset$3"), (5, u "defaultCharset"), (0, u "Ljava/nio/charset/Charset;"), (14, u "zeroAliases"), (0, u "[Ljava/lang/String;"), (29, u "Ljava/lang/String;"), (2, u "aliases"), (2, u "aliasSet"), (0, u "Ljava/util/Set;"), (82, .class_ 280), (0, u "java/lang/Comparable"), (84, .class_ 366), (0, u "java/nio/charset/Charset$ExtendedProviderHolder$1")] 3

/-- java/nio/charset/Charset -/
def k20 : Class := { plain "java/nio/charset/Charset" (some 0) with
 accessFlags := 1057
 interfaces := #[3]
 cf := some (fileOf pool20 18 #[.nestMembers #[71, 365, 34, 135, 58, 28]] #[] 1057 26 #[279] #[{ accessFlags := 26, nameIndex := 96, descriptorIndex := 97, attributes := #[] }, { accessFlags := 26, nameIndex := 158, descriptorIndex := 159, attributes := #[] }, { accessFlags := 74, nameIndex := 21, descriptorIndex := 22, attributes := #[] }, { accessFlags := 74, nameIndex := 25, descriptorIndex := 22, attributes := #[] }, { accessFlags := 10, nameIndex := 142, descriptorIndex := 143, attributes := #[] }, { accessFlags := 18, nameIndex := 127, descriptorIndex := 189, attributes := #[] }, { accessFlags := 18, nameIndex := 192, descriptorIndex := 159, attributes := #[] }, { accessFlags := 2, nameIndex := 195, descriptorIndex := 196, attributes := #[] }])
 fields := #[{ name := "standardProvider", type := (.object "java/nio/charset/spi/CharsetProvider"), accessFlags := 26, slot := 0, constantValue := 0 }, { name := "zeroAliases", type := (.array (.object "java/lang/String")), accessFlags := 26, slot := 1, constantValue := 0 }, { name := "cache1", type := (.array (.object "java/lang/Object")), accessFlags := 74, slot := 2, constantValue := 0 }, { name := "cache2", type := (.array (.object "java/lang/Object")), accessFlags := 74, slot := 3, constantValue := 0 }, { name := "defaultCharset", type := (.object "java/nio/charset/Charset"), accessFlags := 10, slot := 4, constantValue := 0 }, { name := "name", type := (.object "java/lang/String"), accessFlags := 18, slot := 0, constantValue := 0 }, { name := "aliases", type := (.array (.object "java/lang/String")), accessFlags := 18, slot := 1, constantValue := 0 }, { name := "aliasSet", type := (.object "java/util/Set"), accessFlags := 2, slot := 2, constantValue := 0 }]
 methods := #[]
 instanceTypes := #[(.object "java/lang/String"), (.array (.object "java/lang/String")), (.object "java/util/Set")]
 staticTypes := #[(.object "java/nio/charset/spi/CharsetProvider"), (.array (.object "java/lang/String")), (.array (.object "java/lang/Object")), (.array (.object "java/lang/Object")), (.object "java/nio/charset/Charset")]
 resolved := Array.replicate 370 none
 statics := none }

def pool21 : Array CpInfo := pool [(1, .class_ 2), (0, u "sun/nio/cs/HistoricallyNamedCharset"), (0, .class_ 4), (0, u "java/lang/Object")] 4

/-- sun/nio/cs/HistoricallyNamedCharset -/
def k21 : Class := { plain "sun/nio/cs/HistoricallyNamedCharset" (some 0) with
 accessFlags := 1537
 interfaces := #[]
 cf := some (fileOf pool21 1 #[] #[] 1537 3 #[] #[])
 fields := #[]
 methods := #[]
 instanceTypes := #[]
 staticTypes := #[]
 resolved := Array.replicate 9 none
 statics := none }

def pool22 : Array CpInfo := pool [(2, .class_ 4), (1, u "java/nio/charset/Charset"), (130, .class_ 136), (0, u "sun/nio/cs/Unicode"), (0, .class_ 138), (0, u "sun/nio/cs/HistoricallyNamedCharset")] 15

/-- sun/nio/cs/Unicode -/
def k22 : Class := { plain "sun/nio/cs/Unicode" (some 20) with
 accessFlags := 1056
 interfaces := #[21]
 cf := some (fileOf pool22 135 #[] #[] 1056 2 #[137] #[])
 fields := #[]
 methods := #[]
 instanceTypes := #[(.object "java/lang/String"), (.array (.object "java/lang/String")), (.object "java/util/Set")]
 staticTypes := #[]
 resolved := Array.replicate 154 none
 statics := none }

def pool23 : Array CpInfo := pool [(10, .class_ 12), (1, u "sun/nio/cs/Unicode"), (0, u "<init>"), (3, .class_ 18), (0, u "sun/nio/cs/UTF_8$Decoder"), (3, .class_ 23), (0, u "sun/nio/cs/UTF_8$Encoder"), (15, .class_ 40), (0, u "sun/nio/cs/UTF_8"), (2, u "()V"), (2, u "INSTANCE"), (0, u "Lsun/nio/cs/UTF_8;"), (8, u "JLA"), (0, u "Ljdk/internal/access/JavaLangAccess;")] 26

def k23m0 : Method := { name := "<init>", desc := "()V", sig := { parameters := [], returnType := none }, accessFlags := 1, code := none }
/-- sun/nio/cs/UTF_8 -/
def k23 : Class := { plain "sun/nio/cs/UTF_8" (some 22) with
 accessFlags := 49
 interfaces := #[]
 cf := some (fileOf pool23 39 #[.nestMembers #[22, 17]] #[{ accessFlags := 1, nameIndex := 13, descriptorIndex := 43, attributes := #[] }] 49 10 #[] #[{ accessFlags := 25, nameIndex := 46, descriptorIndex := 47, attributes := #[] }, { accessFlags := 26, nameIndex := 56, descriptorIndex := 57, attributes := #[] }])
 fields := #[{ name := "INSTANCE", type := (.object "sun/nio/cs/UTF_8"), accessFlags := 25, slot := 0, constantValue := 0 }, { name := "JLA", type := (.object "jdk/internal/access/JavaLangAccess"), accessFlags := 26, slot := 1, constantValue := 0 }]
 methods := #[k23m0]
 instanceTypes := #[(.object "java/lang/String"), (.array (.object "java/lang/String")), (.object "java/util/Set")]
 staticTypes := #[(.object "sun/nio/cs/UTF_8"), (.object "jdk/internal/access/JavaLangAccess")]
 resolved := Array.replicate 84 none
 statics := some 3 }

def pool24 : Array CpInfo := pool [(2, .class_ 4), (1, u "java/lang/Object"), (0, u "<init>"), (0, u "()V"), (0, .methodref 8 9), (0, .class_ 10), (0, .nameAndType 11 12), (0, u "java/lang/StringCoding"), (0, u "countPositives"), (0, u "([BII)I"), (11, u "hasNegatives"), (0, u "([BII)Z")] 23

def k24m0 : Method := { name := "<init>", desc := "()V", sig := { parameters := [], returnType := none }, accessFlags := 2, code := none }
def k24c1 : Code := { maxStack := 3, maxLocals := 3, code := jdk_123_method_2_code, exceptionTable := #[], attributes := #[] }
def k24m1 : Method := { name := "hasNegatives", desc := "([BII)Z", sig := { parameters := [(.array .byte), .int, .int], returnType := some .boolean }, accessFlags := 9, code := some k24c1 }
def k24c2 : Code := { maxStack := 2, maxLocals := 5, code := jdk_123_method_3_code, exceptionTable := #[], attributes := #[] }
def k24m2 : Method := { name := "countPositives", desc := "([BII)I", sig := { parameters := [(.array .byte), .int, .int], returnType := some .int }, accessFlags := 9, code := some k24c2 }
/-- java/lang/StringCoding -/
def k24 : Class := { plain "java/lang/StringCoding" (some 0) with
 accessFlags := 32
 interfaces := #[]
 cf := some (fileOf pool24 8 #[] #[{ accessFlags := 2, nameIndex := 5, descriptorIndex := 6, attributes := #[] }, { accessFlags := 9, nameIndex := 24, descriptorIndex := 25, attributes := #[] }, { accessFlags := 9, nameIndex := 11, descriptorIndex := 12, attributes := #[] }] 32 2 #[] #[])
 fields := #[]
 methods := #[k24m0, k24m1, k24m2]
 instanceTypes := #[]
 staticTypes := #[]
 resolved := Array.replicate 49 none
 statics := none }

def pool25 : Array CpInfo := pool [(9, u "<init>"), (6, .class_ 18), (1, u "java/lang/Object"), (0, u "()V"), (1, .class_ 23), (1, u "jdk/internal/util/ArraysSupport"), (0, u "LOG2_ARRAY_LONG_INDEX_SCALE"), (0, u "I"), (2, u "U"), (0, u "Ljdk/internal/misc/Unsafe;"), (8, u "BIG_ENDIAN"), (0, u "Z"), (8, u "LOG2_BYTE_BIT_SIZE"), (4, u "LOG2_ARRAY_INT_INDEX_SCALE"), (54, u "JLA"), (0, u "Ljdk/internal/access/JavaLangAccess;"), (11, u "LOG2_ARRAY_BOOLEAN_INDEX_SCALE"), (9, u "LOG2_ARRAY_BYTE_INDEX_SCALE"), (5, u "LOG2_ARRAY_CHAR_INDEX_SCALE"), (5, u "LOG2_ARRAY_SHORT_INDEX_SCALE"), (18, u "LOG2_ARRAY_FLOAT_INDEX_SCALE"), (24, u "LOG2_ARRAY_DOUBLE_INDEX_SCALE"), (89, u "T_BOOLEAN"), (2, u "T_CHAR"), (1, u "T_FLOAT"), (1, u "T_DOUBLE"), (1, u "T_BYTE"), (1, u "T_SHORT"), (1, u "T_INT"), (1, u "T_LONG"), (1, u "SOFT_MAX_ARRAY_LENGTH")] 83

def k25m0 : Method := { name := "<init>", desc := "()V", sig := { parameters := [], returnType := none }, accessFlags := 2, code := none }
/-- jdk/internal/util/ArraysSupport -/
def k25 : Class := { plain "jdk/internal/util/ArraysSupport" (some 0) with
 accessFlags := 33
 interfaces := #[]
 cf := some (fileOf pool25 21 #[] #[{ accessFlags := 2, nameIndex := 9, descriptorIndex := 19, attributes := #[] }] 33 16 #[] #[{ accessFlags := 24, nameIndex := 28, descriptorIndex := 29, attributes := #[] }, { accessFlags := 26, nameIndex := 38, descriptorIndex := 39, attributes := #[] }, { accessFlags := 25, nameIndex := 121, descriptorIndex := 25, attributes := #[] }, { accessFlags := 25, nameIndex := 131, descriptorIndex := 25, attributes := #[] }, { accessFlags := 25, nameIndex := 137, descriptorIndex := 25, attributes := #[] }, { accessFlags := 25, nameIndex := 143, descriptorIndex := 25, attributes := #[] }, { accessFlags := 25, nameIndex := 53, descriptorIndex := 25, attributes := #[] }, { accessFlags := 25, nameIndex := 24, descriptorIndex := 25, attributes := #[] }, { accessFlags := 25, nameIndex := 162, descriptorIndex := 25, attributes := #[] }, { accessFlags := 25, nameIndex := 187, descriptorIndex := 25, attributes := #[] }, { accessFlags := 26, nameIndex := 48, descriptorIndex := 25, attributes := #[] }, { accessFlags := 25, nameIndex := 277, descriptorIndex := 25, attributes := #[] }, { accessFlags := 25, nameIndex := 280, descriptorIndex := 25, attributes := #[] }, { accessFlags := 25, nameIndex := 282, descriptorIndex := 25, attributes := #[] }, { accessFlags := 25, nameIndex := 284, descriptorIndex := 25, attributes := #[] }, { accessFlags := 25, nameIndex := 286, descriptorIndex := 25, attributes := #[] }, { accessFlags := 25, nameIndex := 288, descriptorIndex := 25, attributes := #[] }, { accessFlags := 25, nameIndex := 290, descriptorIndex := 25, attributes := #[] }, { accessFlags := 25, nameIndex := 292, descriptorIndex := 25, attributes := #[] }, { accessFlags := 26, nameIndex := 108, descriptorIndex := 109, attributes := #[] }, { accessFlags := 25, nameIndex := 294, descriptorIndex := 25, attributes := #[] }])
 fields := #[{ name := "U", type := (.object "jdk/internal/misc/Unsafe"), accessFlags := 24, slot := 0, constantValue := 0 }, { name := "BIG_ENDIAN", type := .boolean, accessFlags := 26, slot := 1, constantValue := 0 }, { name := "LOG2_ARRAY_BOOLEAN_INDEX_SCALE", type := .int, accessFlags := 25, slot := 2, constantValue := 0 }, { name := "LOG2_ARRAY_BYTE_INDEX_SCALE", type := .int, accessFlags := 25, slot := 3, constantValue := 0 }, { name := "LOG2_ARRAY_CHAR_INDEX_SCALE", type := .int, accessFlags := 25, slot := 4, constantValue := 0 }, { name := "LOG2_ARRAY_SHORT_INDEX_SCALE", type := .int, accessFlags := 25, slot := 5, constantValue := 0 }, { name := "LOG2_ARRAY_INT_INDEX_SCALE", type := .int, accessFlags := 25, slot := 6, constantValue := 0 }, { name := "LOG2_ARRAY_LONG_INDEX_SCALE", type := .int, accessFlags := 25, slot := 7, constantValue := 0 }, { name := "LOG2_ARRAY_FLOAT_INDEX_SCALE", type := .int, accessFlags := 25, slot := 8, constantValue := 0 }, { name := "LOG2_ARRAY_DOUBLE_INDEX_SCALE", type := .int, accessFlags := 25, slot := 9, constantValue := 0 }, { name := "LOG2_BYTE_BIT_SIZE", type := .int, accessFlags := 26, slot := 10, constantValue := 0 }, { name := "T_BOOLEAN", type := .int, accessFlags := 25, slot := 11, constantValue := 0 }, { name := "T_CHAR", type := .int, accessFlags := 25, slot := 12, constantValue := 0 }, { name := "T_FLOAT", type := .int, accessFlags := 25, slot := 13, constantValue := 0 }, { name := "T_DOUBLE", type := .int, accessFlags := 25, slot := 14, constantValue := 0 }, { name := "T_BYTE", type := .int, accessFlags := 25, slot := 15, constantValue := 0 }, { name := "T_SHORT", type := .int, accessFlags := 25, slot := 16, constantValue := 0 }, { name := "T_INT", type := .int, accessFlags := 25, slot := 17, constantValue := 0 }, { name := "T_LONG", type := .int, accessFlags := 25, slot := 18, constantValue := 0 }, { name := "JLA", type := (.object "jdk/internal/access/JavaLangAccess"), accessFlags := 26, slot := 19, constantValue := 0 }, { name := "SOFT_MAX_ARRAY_LENGTH", type := .int, accessFlags := 25, slot := 20, constantValue := 0 }]
 methods := #[k25m0]
 instanceTypes := #[]
 staticTypes := #[(.object "jdk/internal/misc/Unsafe"), .boolean, .int, .int, .int, .int, .int, .int, .int, .int, .int, .int, .int, .int, .int, .int, .int, .int, .int, (.object "jdk/internal/access/JavaLangAccess"), .int]
 resolved := Array.replicate 378 none
 statics := none }

def pool26 : Array CpInfo := pool [(1, u "java/lang/Cloneable"), (0, .class_ 1), (0, u "java/lang/Object"), (0, .class_ 3)] 3

/-- java/lang/Cloneable -/
def k26 : Class := { plain "java/lang/Cloneable" (some 0) with
 accessFlags := 1537
 interfaces := #[]
 cf := some (fileOf pool26 2 #[] #[] 1537 4 #[] #[])
 fields := #[]
 methods := #[]
 instanceTypes := #[]
 staticTypes := #[]
 resolved := Array.replicate 8 none
 statics := none }

/-- the primitive byte -/
def k27 : Class := { plain "byte" none with kind := .primitive 'B', accessFlags := 0x411 }
/-- [B -/
def k28 : Class := { plain "[B" (some 0) with kind := .array 27 .byte, interfaces := #[26, 2], accessFlags := 1041 }

/-- the primitive char -/
def k29 : Class := { plain "char" none with kind := .primitive 'C', accessFlags := 0x411 }
/-- [C -/
def k30 : Class := { plain "[C" (some 0) with kind := .array 29 .char, interfaces := #[26, 2], accessFlags := 1041 }

/-- the primitive int -/
def k31 : Class := { plain "int" none with kind := .primitive 'I', accessFlags := 0x411 }
/-- [I -/
def k32 : Class := { plain "[I" (some 0) with kind := .array 31 .int, interfaces := #[26, 2], accessFlags := 1041 }

/-- [Lcom/example/ringshift/ringshift/data/Cell; -/
def k33 : Class := { plain "[Lcom/example/ringshift/ringshift/data/Cell;" (some 0) with kind := .array 10 (.object "com/example/ringshift/ringshift/data/Cell"), interfaces := #[26, 2], accessFlags := 1041 }

def heap : Heap := #[{ cls := 7, slots := #[.long 0, .int 1, .null, .int 0, .null, .int 0, .int 0], vm := .statics 7 },
 { cls := 15, slots := #[.null, .null, .null], vm := .statics 15 },
 { cls := 19, slots := #[.null, .null, .ref 4, .null, .null, .null], vm := .statics 19 },
 { cls := 23, slots := #[.ref 4, .null], vm := .statics 23 },
 { cls := 23, slots := #[.null, .null, .null], vm := .none }]
def classes : Array Class := #[k0, k1, k2, k3, k4, k5, k6, k7, k8, k9, k10, k11, k12, k13, k14, k15, k16, k17, k18, k19, k20, k21, k22, k23, k24, k25, k26, k27, k28, k29, k30, k31, k32, k33]
def interned : List (Array UInt16 × Addr) := []
def slotsUsed : Nat := 21
def theMethod : MethodId := ⟨1, 2⟩
def args0 : Array Value := #[.int 5, .int 6, .int 200, .int 3, .long 4, .int 1]
def aboutOver (below : List Frame) : State where
 vm := { classes := classes, interned := interned.toArray }
 heap := heap
 slotsUsed := slotsUsed
 threads := #[{ frames := .invoking theMethod args0 :: below }]
def below0 : List Frame := [.native { method := ⟨0, 0⟩, args := #[] }]
def about1 : State := aboutOver below0
def p0 : Program := .bare "" "" ""
def e0 : Env := launch0.env 0 0 0
theorem w_frames : about1.frames = Frame.invoking theMethod args0 :: below0 := rfl
set_option maxRecDepth 65536 in
theorem w_args : argsFit about1.vm theMethod args0 = true := by decide +kernel
set_option maxRecDepth 65536 in
theorem w_heap : heapFits about1 = true := by decide +kernel
set_option maxRecDepth 65536 in
theorem w_runnable : about1.curStatus? = some .runnable := by decide +kernel
set_option maxRecDepth 65536 in
theorem w_alone : about1.alone = true := by decide +kernel
set_option maxRecDepth 65536 in
theorem w_named : about1.methodNamed? x = some theMethod := by decide +kernel
set_option maxRecDepth 65536 in
theorem w_hears : about1.hears theMethod below0 = true := by decide +kernel
set_option maxRecDepth 65536 in
theorem w_ripe : about1.ripe theMethod args0 below0 = true := by decide +kernel
theorem w_running : about1.status = .running := rfl
set_option maxRecDepth 65536 in
theorem w_room : about1.hasRoom e0.platform room_1 = true :=
 launch0.hasRoom_least _ room_1 (by decide +kernel) (by decide +kernel) (by decide +kernel) (by decide +kernel) (by decide +kernel) (by decide +kernel)
theorem allAtoms_all (ts : List Jvm.Cond) (a : Array Jvm.Value) (st : Jvm.State) : (allAtoms ts).before a st = ts.all (fun c => c.before a st) := by
 induction ts with
 | nil => rfl
 | cons c t ih =>
   show (Jvm.Cond.and c (allAtoms t)).before a st = _
   rw [Jvm.Cond.before_and, ih, List.all_cons]
def words1 : List Jvm.Cond := Jvm.Cond.code x code maxLocals ret :: tables_1
/-- a 'code' word, met by the world's own term for the bytes: nothing is compared byte by byte -/
theorem code_word {y : MethodName} {bytes : ByteArray} {mx : Nat} {rt : Option FieldType} {a : Array Value} {s : State} {m : MethodId} {meth : Method} {c : Code} (h1 : s.methodNamed? y = some m) (h2 : s.vm.method? m = some meth) (h3 : meth.code = some c) (h4 : c.code = bytes)
   (h5 : (c.maxLocals == mx && c.exceptionTable.isEmpty && decide (c.maxStack ≤ mostOperands) && decide (meth.sig.returnType = rt) && !meth.locks && decide (parseMethodDescriptor y.desc = some meth.sig)) = true) : (Jvm.Cond.code y bytes mx rt).before a s = true := by
 simp only [Bool.and_eq_true, beq_iff_eq, Bool.not_eq_true', decide_eq_true_eq] at h5
 obtain ⟨⟨⟨⟨⟨g1, g2⟩, g3⟩, g4⟩, g5⟩, g6⟩ := h5
 simp [Cond.before, Cond.holds, Cond.value, h1, h2, h3, h4, g1, g2, g3, g4, g5, g6]
def isCode : Jvm.Cond → Bool
 | .code _ _ _ _ => true
 | _ => false
theorem all_split {L : List Jvm.Cond} {P : Jvm.Cond → Bool} (h1 : L.all (fun c => isCode c || P c) = true) (h2 : ∀ c ∈ L.filter isCode, P c = true) : L.all P = true := by
 refine List.all_eq_true.mpr fun c hc => ?_
 have h := List.all_eq_true.mp h1 c hc
 rcases Bool.eq_false_or_eq_true (isCode c) with hi | hi
 · exact h2 c (List.mem_filter.mpr ⟨hc, hi⟩)
 · simpa [hi] using h
set_option maxRecDepth 65536 in
theorem w_c0 : (Jvm.Cond.code x code maxLocals ret).before args0 about1 = true := code_word (m := ⟨1, 2⟩) (meth := k1m2) (c := k1c2) (by decide +kernel) rfl rfl rfl (by decide +kernel)
set_option maxRecDepth 65536 in
theorem w_c1 : (Jvm.Cond.code ({ cls := "java/lang/String", name := "<init>", desc := "([C)V" } : Jvm.MethodName) jdk_42_method_3_code (2 : Nat) (Option.none : Option Jvm.ClassFile.FieldType)).before args0 about1 = true := code_word (m := ⟨7, 1⟩) (meth := k7m1) (c := k7c1) (by decide +kernel) rfl rfl rfl (by decide +kernel)
set_option maxRecDepth 65536 in
theorem w_c2 : (Jvm.Cond.code ({ cls := "java/lang/String", name := "<init>", desc := "([CIILjava/lang/Void;)V" } : Jvm.MethodName) jdk_42_method_149_code (6 : Nat) (Option.none : Option Jvm.ClassFile.FieldType)).before args0 about1 = true := code_word (m := ⟨7, 7⟩) (meth := k7m7) (c := k7c7) (by decide +kernel) rfl rfl rfl (by decide +kernel)
set_option maxRecDepth 65536 in
theorem w_c3 : (Jvm.Cond.code ({ cls := "java/lang/Object", name := "<init>", desc := "()V" } : Jvm.MethodName) object_method_1_code (1 : Nat) (Option.none : Option Jvm.ClassFile.FieldType)).before args0 about1 = true := code_word (m := ⟨0, 0⟩) (meth := k0m0) (c := k0c0) (by decide +kernel) rfl rfl rfl (by decide +kernel)
set_option maxRecDepth 65536 in
theorem w_c4 : (Jvm.Cond.code ({ cls := "java/lang/StringUTF16", name := "compress", desc := "([CII)[B" } : Jvm.MethodName) jdk_52_method_16_code (6 : Nat) (Option.some (Jvm.ClassFile.FieldType.array Jvm.ClassFile.FieldType.byte))).before args0 about1 = true := code_word (m := ⟨8, 4⟩) (meth := k8m4) (c := k8c4) (by decide +kernel) rfl rfl rfl (by decide +kernel)
set_option maxRecDepth 65536 in
theorem w_c5 : (Jvm.Cond.code ({ cls := "java/lang/StringUTF16", name := "compress", desc := "([CI[BII)I" } : Jvm.MethodName) jdk_52_method_21_code (7 : Nat) (Option.some Jvm.ClassFile.FieldType.int)).before args0 about1 = true := code_word (m := ⟨8, 5⟩) (meth := k8m5) (c := k8c5) (by decide +kernel) rfl rfl rfl (by decide +kernel)
set_option maxRecDepth 65536 in
theorem w_c6 : (Jvm.Cond.code ({ cls := "java/lang/StringUTF16", name := "coderFromArrayLen", desc := "([BI)B" } : Jvm.MethodName) jdk_52_method_15_code (2 : Nat) (Option.some Jvm.ClassFile.FieldType.byte)).before args0 about1 = true := code_word (m := ⟨8, 3⟩) (meth := k8m3) (c := k8c3) (by decide +kernel) rfl rfl rfl (by decide +kernel)
set_option maxRecDepth 65536 in
theorem w_c7 : (Jvm.Cond.code ({ cls := "com/example/ringshift/ringshift/data/Row", name := "<init>", desc := "(Ljava/lang/String;[Lcom/example/ringshift/ringshift/data/Cell;J)V" } : Jvm.MethodName) prog_68_method_2_code (5 : Nat) (Option.none : Option Jvm.ClassFile.FieldType)).before args0 about1 = true := code_word (m := ⟨11, 0⟩) (meth := k11m0) (c := k11c0) (by decide +kernel) rfl rfl rfl (by decide +kernel)
set_option maxRecDepth 65536 in
theorem w_c8 : (Jvm.Cond.code ({ cls := "com/example/ringshift/ringshift/data/Row", name := "<init>", desc := "(Ljava/lang/String;[Lcom/example/ringshift/ringshift/data/Cell;JLcom/example/ringshift/ringshift/data/MovedFrom;)V" } : Jvm.MethodName) prog_68_method_3_code (6 : Nat) (Option.none : Option Jvm.ClassFile.FieldType)).before args0 about1 = true := code_word (m := ⟨11, 1⟩) (meth := k11m1) (c := k11c1) (by decide +kernel) rfl rfl rfl (by decide +kernel)
set_option maxRecDepth 65536 in
theorem w_c9 : (Jvm.Cond.code ({ cls := "java/lang/Record", name := "<init>", desc := "()V" } : Jvm.MethodName) jdk_30_method_1_code (1 : Nat) (Option.none : Option Jvm.ClassFile.FieldType)).before args0 about1 = true := code_word (m := ⟨9, 0⟩) (meth := k9m0) (c := k9c0) (by decide +kernel) rfl rfl rfl (by decide +kernel)
set_option maxRecDepth 65536 in
theorem w_c10 : (Jvm.Cond.code ({ cls := "com/example/ringshift/ringshift/data/RowBatch$Builder", name := "<init>", desc := "()V" } : Jvm.MethodName) prog_71_method_1_code (1 : Nat) (Option.none : Option Jvm.ClassFile.FieldType)).before args0 about1 = true := code_word (m := ⟨12, 0⟩) (meth := k12m0) (c := k12c0) (by decide +kernel) rfl rfl rfl (by decide +kernel)
set_option maxRecDepth 65536 in
theorem w_c11 : (Jvm.Cond.code ({ cls := "com/example/ringshift/ringshift/io/BinaryWriter", name := "<init>", desc := "()V" } : Jvm.MethodName) prog_81_method_1_code (1 : Nat) (Option.none : Option Jvm.ClassFile.FieldType)).before args0 about1 = true := code_word (m := ⟨13, 0⟩) (meth := k13m0) (c := k13c0) (by decide +kernel) rfl rfl rfl (by decide +kernel)
set_option maxRecDepth 65536 in
theorem w_c12 : (Jvm.Cond.code ({ cls := "com/example/ringshift/ringshift/io/BinaryWriter", name := "<init>", desc := "(I)V" } : Jvm.MethodName) prog_81_method_2_code (2 : Nat) (Option.none : Option Jvm.ClassFile.FieldType)).before args0 about1 = true := code_word (m := ⟨13, 1⟩) (meth := k13m1) (c := k13c1) (by decide +kernel) rfl rfl rfl (by decide +kernel)
set_option maxRecDepth 65536 in
theorem w_c13 : (Jvm.Cond.code ({ cls := "com/example/ringshift/ringshift/data/RowBatch$Builder", name := "clear", desc := "()Lcom/example/ringshift/ringshift/data/RowBatch$Builder;" } : Jvm.MethodName) prog_71_method_6_code (1 : Nat) (Option.some (Jvm.ClassFile.FieldType.object "com/example/ringshift/ringshift/data/RowBatch$Builder"))).before args0 about1 = true := code_word (m := ⟨12, 4⟩) (meth := k12m4) (c := k12c4) (by decide +kernel) rfl rfl rfl (by decide +kernel)
set_option maxRecDepth 65536 in
theorem w_c14 : (Jvm.Cond.code ({ cls := "com/example/ringshift/ringshift/io/BinaryWriter", name := "clear", desc := "()Lcom/example/ringshift/ringshift/io/BinaryWriter;" } : Jvm.MethodName) prog_81_method_17_code (1 : Nat) (Option.some (Jvm.ClassFile.FieldType.object "com/example/ringshift/ringshift/io/BinaryWriter"))).before args0 about1 = true := code_word (m := ⟨13, 7⟩) (meth := k13m7) (c := k13c7) (by decide +kernel) rfl rfl rfl (by decide +kernel)
set_option maxRecDepth 65536 in
theorem w_c15 : (Jvm.Cond.code ({ cls := "com/example/ringshift/ringshift/data/RowBatch$Builder", name := "count", desc := "()I" } : Jvm.MethodName) prog_71_method_3_code (1 : Nat) (Option.some Jvm.ClassFile.FieldType.int)).before args0 about1 = true := code_word (m := ⟨12, 2⟩) (meth := k12m2) (c := k12c2) (by decide +kernel) rfl rfl rfl (by decide +kernel)
set_option maxRecDepth 65536 in
theorem w_c16 : (Jvm.Cond.code ({ cls := "com/example/ringshift/ringshift/data/RowBatch$Builder", name := "bytes", desc := "()I" } : Jvm.MethodName) prog_71_method_4_code (1 : Nat) (Option.some Jvm.ClassFile.FieldType.int)).before args0 about1 = true := code_word (m := ⟨12, 3⟩) (meth := k12m3) (c := k12c3) (by decide +kernel) rfl rfl rfl (by decide +kernel)
set_option maxRecDepth 65536 in
theorem w_c17 : (Jvm.Cond.code ({ cls := "com/example/ringshift/ringshift/io/BinaryWriter", name := "size", desc := "()I" } : Jvm.MethodName) prog_81_method_14_code (1 : Nat) (Option.some Jvm.ClassFile.FieldType.int)).before args0 about1 = true := code_word (m := ⟨13, 6⟩) (meth := k13m6) (c := k13c6) (by decide +kernel) rfl rfl rfl (by decide +kernel)
set_option maxRecDepth 65536 in
theorem w_c18 : (Jvm.Cond.code ({ cls := "com/example/ringshift/ringshift/data/RowBatch$Builder", name := "add", desc := "(Lcom/example/ringshift/ringshift/data/Row;)Lcom/example/ringshift/ringshift/data/RowBatch$Builder;" } : Jvm.MethodName) prog_71_method_2_code (2 : Nat) (Option.some (Jvm.ClassFile.FieldType.object "com/example/ringshift/ringshift/data/RowBatch$Builder"))).before args0 about1 = true := code_word (m := ⟨12, 1⟩) (meth := k12m1) (c := k12c1) (by decide +kernel) rfl rfl rfl (by decide +kernel)
set_option maxRecDepth 65536 in
theorem w_c19 : (Jvm.Cond.code ({ cls := "com/example/ringshift/ringshift/data/Row", name := "writeTo", desc := "(Lcom/example/ringshift/ringshift/io/BinaryWriter;)V" } : Jvm.MethodName) prog_68_method_14_code (2 : Nat) (Option.none : Option Jvm.ClassFile.FieldType)).before args0 about1 = true := code_word (m := ⟨11, 2⟩) (meth := k11m2) (c := k11c2) (by decide +kernel) rfl rfl rfl (by decide +kernel)
set_option maxRecDepth 65536 in
theorem w_c20 : (Jvm.Cond.code ({ cls := "com/example/ringshift/ringshift/io/BinaryWriter", name := "writeString", desc := "(Ljava/lang/String;)Lcom/example/ringshift/ringshift/io/BinaryWriter;" } : Jvm.MethodName) prog_81_method_7_code (5 : Nat) (Option.some (Jvm.ClassFile.FieldType.object "com/example/ringshift/ringshift/io/BinaryWriter"))).before args0 about1 = true := code_word (m := ⟨13, 4⟩) (meth := k13m4) (c := k13c4) (by decide +kernel) rfl rfl rfl (by decide +kernel)
set_option maxRecDepth 65536 in
theorem w_c21 : (Jvm.Cond.code ({ cls := "java/lang/String", name := "length", desc := "()I" } : Jvm.MethodName) jdk_42_method_54_code (1 : Nat) (Option.some Jvm.ClassFile.FieldType.int)).before args0 about1 = true := code_word (m := ⟨7, 4⟩) (meth := k7m4) (c := k7c4) (by decide +kernel) rfl rfl rfl (by decide +kernel)
set_option maxRecDepth 65536 in
theorem w_c22 : (Jvm.Cond.code ({ cls := "java/lang/String", name := "coder", desc := "()B" } : Jvm.MethodName) jdk_42_method_152_code (1 : Nat) (Option.some Jvm.ClassFile.FieldType.byte)).before args0 about1 = true := code_word (m := ⟨7, 8⟩) (meth := k7m8) (c := k7c8) (by decide +kernel) rfl rfl rfl (by decide +kernel)
set_option maxRecDepth 65536 in
theorem w_c23 : (Jvm.Cond.code ({ cls := "com/example/ringshift/ringshift/io/BinaryWriter", name := "writeInt", desc := "(I)Lcom/example/ringshift/ringshift/io/BinaryWriter;" } : Jvm.MethodName) prog_81_method_5_code (3 : Nat) (Option.some (Jvm.ClassFile.FieldType.object "com/example/ringshift/ringshift/io/BinaryWriter"))).before args0 about1 = true := code_word (m := ⟨13, 2⟩) (meth := k13m2) (c := k13c2) (by decide +kernel) rfl rfl rfl (by decide +kernel)
set_option maxRecDepth 65536 in
theorem w_c24 : (Jvm.Cond.code ({ cls := "com/example/ringshift/ringshift/io/BinaryWriter", name := "room", desc := "(I)V" } : Jvm.MethodName) prog_81_method_19_code (3 : Nat) (Option.none : Option Jvm.ClassFile.FieldType)).before args0 about1 = true := code_word (m := ⟨13, 9⟩) (meth := k13m9) (c := k13c9) (by decide +kernel) rfl rfl rfl (by decide +kernel)
set_option maxRecDepth 65536 in
theorem w_c25 : (Jvm.Cond.code ({ cls := "java/lang/String", name := "charAt", desc := "(I)C" } : Jvm.MethodName) jdk_42_method_56_code (2 : Nat) (Option.some Jvm.ClassFile.FieldType.char)).before args0 about1 = true := code_word (m := ⟨7, 5⟩) (meth := k7m5) (c := k7c5) (by decide +kernel) rfl rfl rfl (by decide +kernel)
set_option maxRecDepth 65536 in
theorem w_c26 : (Jvm.Cond.code ({ cls := "java/lang/String", name := "isLatin1", desc := "()Z" } : Jvm.MethodName) jdk_42_method_154_code (1 : Nat) (Option.some Jvm.ClassFile.FieldType.boolean)).before args0 about1 = true := code_word (m := ⟨7, 9⟩) (meth := k7m9) (c := k7c9) (by decide +kernel) rfl rfl rfl (by decide +kernel)
set_option maxRecDepth 65536 in
theorem w_c27 : (Jvm.Cond.code ({ cls := "java/lang/StringLatin1", name := "charAt", desc := "([BI)C" } : Jvm.MethodName) jdk_43_method_2_code (2 : Nat) (Option.some Jvm.ClassFile.FieldType.char)).before args0 about1 = true := code_word (m := ⟨14, 1⟩) (meth := k14m1) (c := k14c1) (by decide +kernel) rfl rfl rfl (by decide +kernel)
set_option maxRecDepth 65536 in
theorem w_c28 : (Jvm.Cond.code ({ cls := "java/lang/String", name := "checkIndex", desc := "(II)V" } : Jvm.MethodName) jdk_42_method_155_code (2 : Nat) (Option.none : Option Jvm.ClassFile.FieldType)).before args0 about1 = true := code_word (m := ⟨7, 10⟩) (meth := k7m10) (c := k7c10) (by decide +kernel) rfl rfl rfl (by decide +kernel)
set_option maxRecDepth 65536 in
theorem w_c29 : (Jvm.Cond.code ({ cls := "jdk/internal/util/Preconditions", name := "checkIndex", desc := "(IILjava/util/function/BiFunction;)I" } : Jvm.MethodName) jdk_41_method_11_code (3 : Nat) (Option.some Jvm.ClassFile.FieldType.int)).before args0 about1 = true := code_word (m := ⟨15, 1⟩) (meth := k15m1) (c := k15c1) (by decide +kernel) rfl rfl rfl (by decide +kernel)
set_option maxRecDepth 65536 in
theorem w_c30 : (Jvm.Cond.code ({ cls := "com/example/ringshift/ringshift/data/Row", name := "writeAfterKeyTo", desc := "(Lcom/example/ringshift/ringshift/io/BinaryWriter;)V" } : Jvm.MethodName) prog_68_method_15_code (6 : Nat) (Option.none : Option Jvm.ClassFile.FieldType)).before args0 about1 = true := code_word (m := ⟨11, 3⟩) (meth := k11m3) (c := k11c3) (by decide +kernel) rfl rfl rfl (by decide +kernel)
set_option maxRecDepth 65536 in
theorem w_c31 : (Jvm.Cond.code ({ cls := "com/example/ringshift/ringshift/io/BinaryWriter", name := "writeLong", desc := "(J)Lcom/example/ringshift/ringshift/io/BinaryWriter;" } : Jvm.MethodName) prog_81_method_6_code (4 : Nat) (Option.some (Jvm.ClassFile.FieldType.object "com/example/ringshift/ringshift/io/BinaryWriter"))).before args0 about1 = true := code_word (m := ⟨13, 3⟩) (meth := k13m3) (c := k13c3) (by decide +kernel) rfl rfl rfl (by decide +kernel)
set_option maxRecDepth 65536 in
theorem w_c32 : (Jvm.Cond.code ({ cls := "com/example/ringshift/ringshift/io/BinaryWriter", name := "writeNullableString", desc := "(Ljava/lang/String;)Lcom/example/ringshift/ringshift/io/BinaryWriter;" } : Jvm.MethodName) prog_81_method_9_code (2 : Nat) (Option.some (Jvm.ClassFile.FieldType.object "com/example/ringshift/ringshift/io/BinaryWriter"))).before args0 about1 = true := code_word (m := ⟨13, 5⟩) (meth := k13m5) (c := k13c5) (by decide +kernel) rfl rfl rfl (by decide +kernel)
set_option maxRecDepth 65536 in
theorem w_c33 : (Jvm.Cond.code ({ cls := "com/example/ringshift/ringshift/data/BuilderClearPinLaw", name := "utf8", desc := "(C)I" } : Jvm.MethodName) method_2_code (1 : Nat) (Option.some Jvm.ClassFile.FieldType.int)).before args0 about1 = true := code_word (m := ⟨1, 1⟩) (meth := k1m1) (c := k1c1) (by decide +kernel) rfl rfl rfl (by decide +kernel)
set_option maxRecDepth 65536 in
theorem w_c34 : (Jvm.Cond.code ({ cls := "java/lang/Math", name := "max", desc := "(JJ)J" } : Jvm.MethodName) jdk_29_method_66_code (4 : Nat) (Option.some Jvm.ClassFile.FieldType.long)).before args0 about1 = true := code_word (m := ⟨16, 1⟩) (meth := k16m1) (c := k16c1) (by decide +kernel) rfl rfl rfl (by decide +kernel)
set_option maxRecDepth 65536 in
theorem w_c35 : (Jvm.Cond.code ({ cls := "java/lang/Math", name := "min", desc := "(JJ)J" } : Jvm.MethodName) jdk_29_method_70_code (4 : Nat) (Option.some Jvm.ClassFile.FieldType.long)).before args0 about1 = true := code_word (m := ⟨16, 3⟩) (meth := k16m3) (c := k16c3) (by decide +kernel) rfl rfl rfl (by decide +kernel)
set_option maxRecDepth 65536 in
theorem w_c36 : (Jvm.Cond.code ({ cls := "java/util/Arrays", name := "copyOf", desc := "([BI)[B" } : Jvm.MethodName) jdk_65_method_121_code (3 : Nat) (Option.some (Jvm.ClassFile.FieldType.array Jvm.ClassFile.FieldType.byte))).before args0 about1 = true := code_word (m := ⟨17, 1⟩) (meth := k17m1) (c := k17c1) (by decide +kernel) rfl rfl rfl (by decide +kernel)
set_option maxRecDepth 65536 in
theorem w_c37 : (Jvm.Cond.code ({ cls := "java/lang/Math", name := "min", desc := "(II)I" } : Jvm.MethodName) jdk_29_method_69_code (2 : Nat) (Option.some Jvm.ClassFile.FieldType.int)).before args0 about1 = true := code_word (m := ⟨16, 2⟩) (meth := k16m2) (c := k16c2) (by decide +kernel) rfl rfl rfl (by decide +kernel)
set_option maxRecDepth 65536 in
theorem w_c38 : (Jvm.Cond.code ({ cls := "com/example/ringshift/ringshift/io/BinaryWriter", name := "writeEncoded", desc := "(Ljava/lang/String;)Lcom/example/ringshift/ringshift/io/BinaryWriter;" } : Jvm.MethodName) prog_81_method_18_code (3 : Nat) (Option.some (Jvm.ClassFile.FieldType.object "com/example/ringshift/ringshift/io/BinaryWriter"))).before args0 about1 = true := code_word (m := ⟨13, 8⟩) (meth := k13m8) (c := k13c8) (by decide +kernel) rfl rfl rfl (by decide +kernel)
set_option maxRecDepth 65536 in
theorem w_c39 : (Jvm.Cond.code ({ cls := "java/lang/String", name := "getBytes", desc := "(Ljava/nio/charset/Charset;)[B" } : Jvm.MethodName) jdk_42_method_64_code (2 : Nat) (Option.some (Jvm.ClassFile.FieldType.array Jvm.ClassFile.FieldType.byte))).before args0 about1 = true := code_word (m := ⟨7, 6⟩) (meth := k7m6) (c := k7c6) (by decide +kernel) rfl rfl rfl (by decide +kernel)
set_option maxRecDepth 65536 in
theorem w_c40 : (Jvm.Cond.code ({ cls := "java/lang/String", name := "encode", desc := "(Ljava/nio/charset/Charset;B[B)[B" } : Jvm.MethodName) jdk_42_method_18_code (3 : Nat) (Option.some (Jvm.ClassFile.FieldType.array Jvm.ClassFile.FieldType.byte))).before args0 about1 = true := code_word (m := ⟨7, 2⟩) (meth := k7m2) (c := k7c2) (by decide +kernel) rfl rfl rfl (by decide +kernel)
set_option maxRecDepth 65536 in
theorem w_c41 : (Jvm.Cond.code ({ cls := "java/lang/String", name := "encodeUTF8", desc := "(B[BZ)[B" } : Jvm.MethodName) jdk_42_method_46_code (9 : Nat) (Option.some (Jvm.ClassFile.FieldType.array Jvm.ClassFile.FieldType.byte))).before args0 about1 = true := code_word (m := ⟨7, 3⟩) (meth := k7m3) (c := k7c3) (by decide +kernel) rfl rfl rfl (by decide +kernel)
set_option maxRecDepth 65536 in
theorem w_c42 : (Jvm.Cond.code ({ cls := "java/lang/StringCoding", name := "hasNegatives", desc := "([BII)Z" } : Jvm.MethodName) jdk_123_method_2_code (3 : Nat) (Option.some Jvm.ClassFile.FieldType.boolean)).before args0 about1 = true := code_word (m := ⟨24, 1⟩) (meth := k24m1) (c := k24c1) (by decide +kernel) rfl rfl rfl (by decide +kernel)
set_option maxRecDepth 65536 in
theorem w_c43 : (Jvm.Cond.code ({ cls := "java/lang/StringCoding", name := "countPositives", desc := "([BII)I" } : Jvm.MethodName) jdk_123_method_3_code (5 : Nat) (Option.some Jvm.ClassFile.FieldType.int)).before args0 about1 = true := code_word (m := ⟨24, 2⟩) (meth := k24m2) (c := k24c2) (by decide +kernel) rfl rfl rfl (by decide +kernel)
set_option maxRecDepth 65536 in
theorem w_c44 : (Jvm.Cond.code ({ cls := "java/lang/StringUTF16", name := "newBytesFor", desc := "(I)[B" } : Jvm.MethodName) jdk_52_method_2_code (1 : Nat) (Option.some (Jvm.ClassFile.FieldType.array Jvm.ClassFile.FieldType.byte))).before args0 about1 = true := code_word (m := ⟨8, 1⟩) (meth := k8m1) (c := k8c1) (by decide +kernel) rfl rfl rfl (by decide +kernel)
set_option maxRecDepth 65536 in
theorem w_c45 : (Jvm.Cond.code ({ cls := "java/lang/StringUTF16", name := "newBytesLength", desc := "(I)I" } : Jvm.MethodName) jdk_52_method_3_code (1 : Nat) (Option.some Jvm.ClassFile.FieldType.int)).before args0 about1 = true := code_word (m := ⟨8, 2⟩) (meth := k8m2) (c := k8c2) (by decide +kernel) rfl rfl rfl (by decide +kernel)
def codes1 : List Jvm.Cond := [Jvm.Cond.code x code maxLocals ret, Jvm.Cond.code ({ cls := "java/lang/String", name := "<init>", desc := "([C)V" } : Jvm.MethodName) jdk_42_method_3_code (2 : Nat) (Option.none : Option Jvm.ClassFile.FieldType), Jvm.Cond.code ({ cls := "java/lang/String", name := "<init>", desc := "([CIILjava/lang/Void;)V" } : Jvm.MethodName) jdk_42_method_149_code (6 : Nat) (Option.none : Option Jvm.ClassFile.FieldType), Jvm.Cond.code ({ cls := "java/lang/Object", name := "<init>", desc := "()V" } : Jvm.MethodName) object_method_1_code (1 : Nat) (Option.none : Option Jvm.ClassFile.FieldType), Jvm.Cond.code ({ cls := "java/lang/StringUTF16", name := "compress", desc := "([CII)[B" } : Jvm.MethodName) jdk_52_method_16_code (6 : Nat) (Option.some (Jvm.ClassFile.FieldType.array Jvm.ClassFile.FieldType.byte)), Jvm.Cond.code ({ cls := "java/lang/StringUTF16", name := "compress", desc := "([CI[BII)I" } : Jvm.MethodName) jdk_52_method_21_code (7 : Nat) (Option.some Jvm.ClassFile.FieldType.int), Jvm.Cond.code ({ cls := "java/lang/StringUTF16", name := "coderFromArrayLen", desc := "([BI)B" } : Jvm.MethodName) jdk_52_method_15_code (2 : Nat) (Option.some Jvm.ClassFile.FieldType.byte), Jvm.Cond.code ({ cls := "com/example/ringshift/ringshift/data/Row", name := "<init>", desc := "(Ljava/lang/String;[Lcom/example/ringshift/ringshift/data/Cell;J)V" } : Jvm.MethodName) prog_68_method_2_code (5 : Nat) (Option.none : Option Jvm.ClassFile.FieldType), Jvm.Cond.code ({ cls := "com/example/ringshift/ringshift/data/Row", name := "<init>", desc := "(Ljava/lang/String;[Lcom/example/ringshift/ringshift/data/Cell;JLcom/example/ringshift/ringshift/data/MovedFrom;)V" } : Jvm.MethodName) prog_68_method_3_code (6 : Nat) (Option.none : Option Jvm.ClassFile.FieldType), Jvm.Cond.code ({ cls := "java/lang/Record", name := "<init>", desc := "()V" } : Jvm.MethodName) jdk_30_method_1_code (1 : Nat) (Option.none : Option Jvm.ClassFile.FieldType), Jvm.Cond.code ({ cls := "com/example/ringshift/ringshift/data/RowBatch$Builder", name := "<init>", desc := "()V" } : Jvm.MethodName) prog_71_method_1_code (1 : Nat) (Option.none : Option Jvm.ClassFile.FieldType), Jvm.Cond.code ({ cls := "com/example/ringshift/ringshift/io/BinaryWriter", name := "<init>", desc := "()V" } : Jvm.MethodName) prog_81_method_1_code (1 : Nat) (Option.none : Option Jvm.ClassFile.FieldType), Jvm.Cond.code ({ cls := "com/example/ringshift/ringshift/io/BinaryWriter", name := "<init>", desc := "(I)V" } : Jvm.MethodName) prog_81_method_2_code (2 : Nat) (Option.none : Option Jvm.ClassFile.FieldType), Jvm.Cond.code ({ cls := "com/example/ringshift/ringshift/data/RowBatch$Builder", name := "clear", desc := "()Lcom/example/ringshift/ringshift/data/RowBatch$Builder;" } : Jvm.MethodName) prog_71_method_6_code (1 : Nat) (Option.some (Jvm.ClassFile.FieldType.object "com/example/ringshift/ringshift/data/RowBatch$Builder")), Jvm.Cond.code ({ cls := "com/example/ringshift/ringshift/io/BinaryWriter", name := "clear", desc := "()Lcom/example/ringshift/ringshift/io/BinaryWriter;" } : Jvm.MethodName) prog_81_method_17_code (1 : Nat) (Option.some (Jvm.ClassFile.FieldType.object "com/example/ringshift/ringshift/io/BinaryWriter")), Jvm.Cond.code ({ cls := "com/example/ringshift/ringshift/data/RowBatch$Builder", name := "count", desc := "()I" } : Jvm.MethodName) prog_71_method_3_code (1 : Nat) (Option.some Jvm.ClassFile.FieldType.int), Jvm.Cond.code ({ cls := "com/example/ringshift/ringshift/data/RowBatch$Builder", name := "bytes", desc := "()I" } : Jvm.MethodName) prog_71_method_4_code (1 : Nat) (Option.some Jvm.ClassFile.FieldType.int), Jvm.Cond.code ({ cls := "com/example/ringshift/ringshift/io/BinaryWriter", name := "size", desc := "()I" } : Jvm.MethodName) prog_81_method_14_code (1 : Nat) (Option.some Jvm.ClassFile.FieldType.int), Jvm.Cond.code ({ cls := "com/example/ringshift/ringshift/data/RowBatch$Builder", name := "add", desc := "(Lcom/example/ringshift/ringshift/data/Row;)Lcom/example/ringshift/ringshift/data/RowBatch$Builder;" } : Jvm.MethodName) prog_71_method_2_code (2 : Nat) (Option.some (Jvm.ClassFile.FieldType.object "com/example/ringshift/ringshift/data/RowBatch$Builder")), Jvm.Cond.code ({ cls := "com/example/ringshift/ringshift/data/Row", name := "writeTo", desc := "(Lcom/example/ringshift/ringshift/io/BinaryWriter;)V" } : Jvm.MethodName) prog_68_method_14_code (2 : Nat) (Option.none : Option Jvm.ClassFile.FieldType), Jvm.Cond.code ({ cls := "com/example/ringshift/ringshift/io/BinaryWriter", name := "writeString", desc := "(Ljava/lang/String;)Lcom/example/ringshift/ringshift/io/BinaryWriter;" } : Jvm.MethodName) prog_81_method_7_code (5 : Nat) (Option.some (Jvm.ClassFile.FieldType.object "com/example/ringshift/ringshift/io/BinaryWriter")), Jvm.Cond.code ({ cls := "java/lang/String", name := "length", desc := "()I" } : Jvm.MethodName) jdk_42_method_54_code (1 : Nat) (Option.some Jvm.ClassFile.FieldType.int), Jvm.Cond.code ({ cls := "java/lang/String", name := "coder", desc := "()B" } : Jvm.MethodName) jdk_42_method_152_code (1 : Nat) (Option.some Jvm.ClassFile.FieldType.byte), Jvm.Cond.code ({ cls := "com/example/ringshift/ringshift/io/BinaryWriter", name := "writeInt", desc := "(I)Lcom/example/ringshift/ringshift/io/BinaryWriter;" } : Jvm.MethodName) prog_81_method_5_code (3 : Nat) (Option.some (Jvm.ClassFile.FieldType.object "com/example/ringshift/ringshift/io/BinaryWriter")), Jvm.Cond.code ({ cls := "com/example/ringshift/ringshift/io/BinaryWriter", name := "room", desc := "(I)V" } : Jvm.MethodName) prog_81_method_19_code (3 : Nat) (Option.none : Option Jvm.ClassFile.FieldType), Jvm.Cond.code ({ cls := "java/lang/String", name := "charAt", desc := "(I)C" } : Jvm.MethodName) jdk_42_method_56_code (2 : Nat) (Option.some Jvm.ClassFile.FieldType.char), Jvm.Cond.code ({ cls := "java/lang/String", name := "isLatin1", desc := "()Z" } : Jvm.MethodName) jdk_42_method_154_code (1 : Nat) (Option.some Jvm.ClassFile.FieldType.boolean), Jvm.Cond.code ({ cls := "java/lang/StringLatin1", name := "charAt", desc := "([BI)C" } : Jvm.MethodName) jdk_43_method_2_code (2 : Nat) (Option.some Jvm.ClassFile.FieldType.char), Jvm.Cond.code ({ cls := "java/lang/String", name := "checkIndex", desc := "(II)V" } : Jvm.MethodName) jdk_42_method_155_code (2 : Nat) (Option.none : Option Jvm.ClassFile.FieldType), Jvm.Cond.code ({ cls := "jdk/internal/util/Preconditions", name := "checkIndex", desc := "(IILjava/util/function/BiFunction;)I" } : Jvm.MethodName) jdk_41_method_11_code (3 : Nat) (Option.some Jvm.ClassFile.FieldType.int), Jvm.Cond.code ({ cls := "com/example/ringshift/ringshift/data/Row", name := "writeAfterKeyTo", desc := "(Lcom/example/ringshift/ringshift/io/BinaryWriter;)V" } : Jvm.MethodName) prog_68_method_15_code (6 : Nat) (Option.none : Option Jvm.ClassFile.FieldType), Jvm.Cond.code ({ cls := "com/example/ringshift/ringshift/io/BinaryWriter", name := "writeLong", desc := "(J)Lcom/example/ringshift/ringshift/io/BinaryWriter;" } : Jvm.MethodName) prog_81_method_6_code (4 : Nat) (Option.some (Jvm.ClassFile.FieldType.object "com/example/ringshift/ringshift/io/BinaryWriter")), Jvm.Cond.code ({ cls := "com/example/ringshift/ringshift/io/BinaryWriter", name := "writeNullableString", desc := "(Ljava/lang/String;)Lcom/example/ringshift/ringshift/io/BinaryWriter;" } : Jvm.MethodName) prog_81_method_9_code (2 : Nat) (Option.some (Jvm.ClassFile.FieldType.object "com/example/ringshift/ringshift/io/BinaryWriter")), Jvm.Cond.code ({ cls := "com/example/ringshift/ringshift/data/BuilderClearPinLaw", name := "utf8", desc := "(C)I" } : Jvm.MethodName) method_2_code (1 : Nat) (Option.some Jvm.ClassFile.FieldType.int), Jvm.Cond.code ({ cls := "java/lang/Math", name := "max", desc := "(JJ)J" } : Jvm.MethodName) jdk_29_method_66_code (4 : Nat) (Option.some Jvm.ClassFile.FieldType.long), Jvm.Cond.code ({ cls := "java/lang/Math", name := "min", desc := "(JJ)J" } : Jvm.MethodName) jdk_29_method_70_code (4 : Nat) (Option.some Jvm.ClassFile.FieldType.long), Jvm.Cond.code ({ cls := "java/util/Arrays", name := "copyOf", desc := "([BI)[B" } : Jvm.MethodName) jdk_65_method_121_code (3 : Nat) (Option.some (Jvm.ClassFile.FieldType.array Jvm.ClassFile.FieldType.byte)), Jvm.Cond.code ({ cls := "java/lang/Math", name := "min", desc := "(II)I" } : Jvm.MethodName) jdk_29_method_69_code (2 : Nat) (Option.some Jvm.ClassFile.FieldType.int), Jvm.Cond.code ({ cls := "com/example/ringshift/ringshift/io/BinaryWriter", name := "writeEncoded", desc := "(Ljava/lang/String;)Lcom/example/ringshift/ringshift/io/BinaryWriter;" } : Jvm.MethodName) prog_81_method_18_code (3 : Nat) (Option.some (Jvm.ClassFile.FieldType.object "com/example/ringshift/ringshift/io/BinaryWriter")), Jvm.Cond.code ({ cls := "java/lang/String", name := "getBytes", desc := "(Ljava/nio/charset/Charset;)[B" } : Jvm.MethodName) jdk_42_method_64_code (2 : Nat) (Option.some (Jvm.ClassFile.FieldType.array Jvm.ClassFile.FieldType.byte)), Jvm.Cond.code ({ cls := "java/lang/String", name := "encode", desc := "(Ljava/nio/charset/Charset;B[B)[B" } : Jvm.MethodName) jdk_42_method_18_code (3 : Nat) (Option.some (Jvm.ClassFile.FieldType.array Jvm.ClassFile.FieldType.byte)), Jvm.Cond.code ({ cls := "java/lang/String", name := "encodeUTF8", desc := "(B[BZ)[B" } : Jvm.MethodName) jdk_42_method_46_code (9 : Nat) (Option.some (Jvm.ClassFile.FieldType.array Jvm.ClassFile.FieldType.byte)), Jvm.Cond.code ({ cls := "java/lang/StringCoding", name := "hasNegatives", desc := "([BII)Z" } : Jvm.MethodName) jdk_123_method_2_code (3 : Nat) (Option.some Jvm.ClassFile.FieldType.boolean), Jvm.Cond.code ({ cls := "java/lang/StringCoding", name := "countPositives", desc := "([BII)I" } : Jvm.MethodName) jdk_123_method_3_code (5 : Nat) (Option.some Jvm.ClassFile.FieldType.int), Jvm.Cond.code ({ cls := "java/lang/StringUTF16", name := "newBytesFor", desc := "(I)[B" } : Jvm.MethodName) jdk_52_method_2_code (1 : Nat) (Option.some (Jvm.ClassFile.FieldType.array Jvm.ClassFile.FieldType.byte)), Jvm.Cond.code ({ cls := "java/lang/StringUTF16", name := "newBytesLength", desc := "(I)I" } : Jvm.MethodName) jdk_52_method_3_code (1 : Nat) (Option.some Jvm.ClassFile.FieldType.int)]
set_option maxRecDepth 65536 in
theorem codes_eq : words1.filter isCode = codes1 := rfl
theorem w_codes : ∀ c ∈ words1.filter isCode, c.before args0 about1 = true := by
 rw [codes_eq]
 intro c hc
 simp only [codes1, List.mem_cons, List.not_mem_nil, or_false] at hc
 rcases hc with rfl | rfl | rfl | rfl | rfl | rfl | rfl | rfl | rfl | rfl | rfl | rfl | rfl | rfl | rfl | rfl | rfl | rfl | rfl | rfl | rfl | rfl | rfl | rfl | rfl | rfl | rfl | rfl | rfl | rfl | rfl | rfl | rfl | rfl | rfl | rfl | rfl | rfl | rfl | rfl | rfl | rfl | rfl | rfl | rfl | rfl
 · exact w_c0
 · exact w_c1
 · exact w_c2
 · exact w_c3
 · exact w_c4
 · exact w_c5
 · exact w_c6
 · exact w_c7
 · exact w_c8
 · exact w_c9
 · exact w_c10
 · exact w_c11
 · exact w_c12
 · exact w_c13
 · exact w_c14
 · exact w_c15
 · exact w_c16
 · exact w_c17
 · exact w_c18
 · exact w_c19
 · exact w_c20
 · exact w_c21
 · exact w_c22
 · exact w_c23
 · exact w_c24
 · exact w_c25
 · exact w_c26
 · exact w_c27
 · exact w_c28
 · exact w_c29
 · exact w_c30
 · exact w_c31
 · exact w_c32
 · exact w_c33
 · exact w_c34
 · exact w_c35
 · exact w_c36
 · exact w_c37
 · exact w_c38
 · exact w_c39
 · exact w_c40
 · exact w_c41
 · exact w_c42
 · exact w_c43
 · exact w_c44
 · exact w_c45
set_option maxRecDepth 65536 in
theorem w_t1 : (words1.take 24).all (fun c => isCode c || c.before args0 about1) = true := by decide +kernel
set_option maxRecDepth 65536 in
theorem w_t2 : ((words1.drop 24).take 24).all (fun c => isCode c || c.before args0 about1) = true := by decide +kernel
set_option maxRecDepth 65536 in
theorem w_t3 : (((words1.drop 24).drop 24).take 24).all (fun c => isCode c || c.before args0 about1) = true := by decide +kernel
set_option maxRecDepth 65536 in
theorem w_t4 : ((((words1.drop 24).drop 24).drop 24).take 24).all (fun c => isCode c || c.before args0 about1) = true := by decide +kernel
set_option maxRecDepth 65536 in
theorem w_t5 : (((((words1.drop 24).drop 24).drop 24).drop 24).take 24).all (fun c => isCode c || c.before args0 about1) = true := by decide +kernel
set_option maxRecDepth 65536 in
theorem w_t6 : ((((((words1.drop 24).drop 24).drop 24).drop 24).drop 24).take 24).all (fun c => isCode c || c.before args0 about1) = true := by decide +kernel
set_option maxRecDepth 65536 in
theorem w_t7 : (((((((words1.drop 24).drop 24).drop 24).drop 24).drop 24).drop 24).take 24).all (fun c => isCode c || c.before args0 about1) = true := by decide +kernel
set_option maxRecDepth 65536 in
theorem w_t8 : ((((((((words1.drop 24).drop 24).drop 24).drop 24).drop 24).drop 24).drop 24).take 24).all (fun c => isCode c || c.before args0 about1) = true := by decide +kernel
set_option maxRecDepth 65536 in
theorem w_t9 : (((((((((words1.drop 24).drop 24).drop 24).drop 24).drop 24).drop 24).drop 24).drop 24).take 24).all (fun c => isCode c || c.before args0 about1) = true := by decide +kernel
set_option maxRecDepth 65536 in
theorem w_t10 : (((((((((words1.drop 24).drop 24).drop 24).drop 24).drop 24).drop 24).drop 24).drop 24).drop 24).all (fun c => isCode c || c.before args0 about1) = true := by decide +kernel
theorem w_tables : (allAtoms (Jvm.Cond.code x code maxLocals ret :: tables_1)).before args0 about1 = true := by
 rw [allAtoms_all]
 show words1.all (fun c => c.before args0 about1) = true
 refine all_split ?_ w_codes
 rw [← List.take_append_drop 24 words1, List.all_append, w_t1, ← List.take_append_drop 24 (words1.drop 24), List.all_append, w_t2, ← List.take_append_drop 24 ((words1.drop 24).drop 24), List.all_append, w_t3, ← List.take_append_drop 24 (((words1.drop 24).drop 24).drop 24), List.all_append, w_t4, ← List.take_append_drop 24 ((((words1.drop 24).drop 24).drop 24).drop 24), List.all_append, w_t5, ← List.take_append_drop 24 (((((words1.drop 24).drop 24).drop 24).drop 24).drop 24), List.all_append, w_t6, ← List.take_append_drop 24 ((((((words1.drop 24).drop 24).drop 24).drop 24).drop 24).drop 24), List.all_append, w_t7, ← List.take_append_drop 24 (((((((words1.drop 24).drop 24).drop 24).drop 24).drop 24).drop 24).drop 24), List.all_append, w_t8, ← List.take_append_drop 24 ((((((((words1.drop 24).drop 24).drop 24).drop 24).drop 24).drop 24).drop 24).drop 24), List.all_append, w_t9, w_t10]
 rfl
set_option maxRecDepth 65536 in
theorem w_rest : rest_1_c.before args0 about1 = true := by decide +kernel
set_option maxRecDepth 65536 in
theorem w_case : (Jvm.Cond.and given_1 narrow_1).before args0 about1 = true := by decide +kernel
theorem w_applies : (headSpec (Jvm.Cond.code x code maxLocals ret :: tables_1) room_1).applies x e0.platform about1 = true :=
 (Spec.applies_iff w_frames).mpr ⟨w_running, w_runnable, w_alone, w_named, w_hears, w_ripe, w_room, w_tables⟩
theorem atStart : AtStart classFile x code maxLocals ret World_1 tables_1 room_1 Calls_1 rest_1 Pre_1 launch0 p0 e0 about1 theMethod args0 below0 :=
 ⟨lists_1, trivial, launch0.admits_env _ _ _, launch0.least_env, fairChoices_fair.cas, fairChoices_fair.clock, w_frames, w_args, w_heap, w_applies, trivial, w_rest, w_case⟩
end start1
theorem witness_1 : WitnessClaimed_1 := ⟨start1.p0, start1.e0, start1.about1, start1.theMethod, start1.args0, start1.below0, start1.atStart⟩
end Jvm.Pilot.@@N@@
