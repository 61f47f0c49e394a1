import JvmDerived
import JvmDerived.Pilot.@@N@@Statement
import JvmDerived.Pilot.@@N@@Code
set_option linter.unusedVariables false
set_option linter.unusedSimpArgs false
@@BLOCK:NumsL.lean.txt@@
@@BLOCK:Masks.lean.txt@@
namespace Jvm.RoadKit
open Sem ClassFile Op Lib Jvm.Stand Jvm.Free Jvm.LawKit
section New
variable {p : Program} {l : Launch} {e : Env} {R : Room} {s : State} {m : MethodId} {args : Array Value} {below : List Frame} {meth : Method} {c : Code} {T : State} {locs : List Loc} {cells slots : Nat}
theorem retI (X : Stand p l e R s m args below meth c T locs cells slots) (hx : p.tables.exec = Jvm.exec) {pc : Nat} {Ls : Array Slot} {z : Int32} {rest : List Value} (hret : meth.sig.returnType = some .int) (hd : decode c.code pc = .ok (.ireturn, 1)) {fs : List Frame}
    (hl : ∀ (f : JFrame) (acts : List Action), f.method = m → f.locked = none → f.entered = [] → (doReturn e (T.setTop f) acts (some (.int z))).1 = T.setFrames fs) : Steps p.tables e below (T.setTop (mkF m pc Ls (.int z :: rest))) (T.setFrames fs) := by
  have hm' : T.vm.method? m = some meth := X.method'
  have hn : narrow .int (.int z) = .int z := rfl
  show Steps p.tables e below (T.setTop { method := m, pc := pc, locals := Ls, stack := _ :: rest, locked := none }) _
  jvm_step X.here [X.here.top, hx, hd, hm', hret, hn]
  first | (intro acts; rw [hl _ acts rfl rfl rfl]) | rw [hl _ _ rfl rfl rfl]
  exact Steps.refl _
theorem own_retA (X : Stand p l e R s m args below meth c T locs cells slots) (hx : p.tables.exec = Jvm.exec) {pc : Nat} {Ls : Array Slot} {z : Value} {t : FieldType} {rest : List Value} (hret : meth.sig.returnType = some t) (ht : t.isReference = true) (hz : z.isRef = true) (hd : decode c.code pc = .ok (.areturn, 1)) {fs : List Frame}
    (hl : ∀ (f : JFrame) (acts : List Action), f.method = m → f.locked = none → f.entered = [] → (doReturn e (T.setTop f) acts (some z)).1 = T.setFrames fs) : Steps p.tables e below (T.setTop (mkF m pc Ls (z :: rest))) (T.setFrames fs) := by
  have hm' : T.vm.method? m = some meth := X.method'
  show Steps p.tables e below (T.setTop { method := m, pc := pc, locals := Ls, stack := z :: rest, locked := none }) _
  rcases ref_cases hz with rfl | ⟨a, rfl⟩ <;>
  · jvm_step X.here [X.here.top, hx, hd, hm', hret, ht, Value.isRef]
    first | (intro acts; rw [hl _ acts rfl rfl rfl]) | rw [hl _ _ rfl rfl rfl]
    exact Steps.refl _
end New
end Jvm.RoadKit
namespace Jvm.Pilot.@@N@@
open Jvm Jvm.ClassFile Sem Op Lib Jvm.Free Jvm.Stand Jvm.LawKit Jvm.RoadKit Bundle Jvm.Pilot.@@N@@.Jvm.D
set_option maxRecDepth 65536
set_option maxHeartbeats 40000000
abbrev Y0 : MethodName := ⟨"java/lang/StringLatin1", "canEncode", "(C)Z"⟩
abbrev Y1 : MethodName := ⟨"java/lang/StringLatin1", "toBytes", "(C)[B"⟩
abbrev Y2 : MethodName := ⟨"java/lang/String", "<init>", "([BB)V"⟩
abbrev Y3 : MethodName := ⟨"java/lang/String", "valueOf", "(C)Ljava/lang/String;"⟩
abbrev Y4 : MethodName := ⟨"jdk/internal/util/Preconditions", "checkIndex", "(IILjava/util/function/BiFunction;)I"⟩
abbrev Y5 : MethodName := ⟨"java/lang/String", "checkIndex", "(II)V"⟩
abbrev Y6 : MethodName := ⟨"java/lang/String", "isLatin1", "()Z"⟩
abbrev Y7 : MethodName := ⟨"java/lang/String", "coder", "()B"⟩
abbrev Y8 : MethodName := ⟨"java/lang/StringLatin1", "charAt", "([BI)C"⟩
abbrev Y9 : MethodName := ⟨"java/lang/String", "charAt", "(I)C"⟩
abbrev Y10 : MethodName := ⟨"java/lang/String", "length", "()I"⟩
abbrev Y11 : MethodName := ⟨"java/lang/StringLatin1", "equals", "([B[B)Z"⟩
abbrev Y12 : MethodName := ⟨"java/lang/String", "equals", "(Ljava/lang/Object;)Z"⟩
abbrev Y13 : MethodName := ⟨"java/lang/String", "isEmpty", "()Z"⟩
abbrev Y14 : MethodName := ⟨"java/lang/StringUTF16", "compress", "([CI[BII)I"⟩
abbrev Y15 : MethodName := ⟨"java/lang/StringUTF16", "coderFromArrayLen", "([BI)B"⟩
abbrev Y16 : MethodName := ⟨"java/lang/StringUTF16", "compress", "([CII)[B"⟩
abbrev Y17 : MethodName := ⟨"java/lang/String", "<init>", "([CIILjava/lang/Void;)V"⟩
abbrev Y18 : MethodName := ⟨"java/lang/String", "<init>", "([C)V"⟩
abbrev Y19 : MethodName := ⟨"jdk/internal/util/Preconditions", "checkFromIndexSize", "(IIILjava/util/function/BiFunction;)I"⟩
abbrev Y20 : MethodName := ⟨"java/lang/String", "checkBoundsOffCount", "(III)I"⟩
abbrev Y21 : MethodName := ⟨"java/lang/String", "rangeCheck", "([CII)Ljava/lang/Void;"⟩
abbrev Y22 : MethodName := ⟨"java/lang/String", "<init>", "([CII)V"⟩
abbrev Y23 : MethodName := ⟨"java/util/List", "of", "()Ljava/util/List;"⟩
abbrev Y24 : MethodName := ⟨"com/example/davka/davka/csv/Row", "<init>", "()V"⟩
abbrev Y25 : MethodName := ⟨"com/example/davka/davka/csv/Row", "room", "(I)V"⟩
abbrev Y26 : MethodName := ⟨"com/example/davka/davka/csv/Row", "end", "()V"⟩
abbrev Y27 : MethodName := ⟨"com/example/davka/davka/csv/Row", "append", "(C)Lcom/example/davka/davka/csv/Row;"⟩
abbrev Y28 : MethodName := ⟨"com/example/davka/davka/csv/Row", "add", "(Ljava/lang/CharSequence;)V"⟩
abbrev Y29 : MethodName := ⟨"java/lang/CharSequence", "length", "()I"⟩
abbrev Y30 : MethodName := ⟨"java/lang/CharSequence", "charAt", "(I)C"⟩
abbrev Y31 : MethodName := ⟨"com/example/davka/davka/csv/Row", "discard", "()V"⟩
abbrev Y32 : MethodName := ⟨"com/example/davka/davka/csv/Row", "size", "()I"⟩
abbrev Y33 : MethodName := ⟨"com/example/davka/davka/csv/Row", "end", "(I)I"⟩
abbrev Y34 : MethodName := ⟨"com/example/davka/davka/csv/Row", "start", "(I)I"⟩
abbrev Y35 : MethodName := ⟨"com/example/davka/davka/csv/Row", "length", "(I)I"⟩
abbrev Y36 : MethodName := ⟨"com/example/davka/davka/csv/Row", "value", "(I)Ljava/lang/String;"⟩
abbrev rr (f c s l : Nat) : Room := { frames := f, cells := c, slots := s, locals := l }
abbrev i_0 : Int32 := 0
abbrev i_1 : Int32 := 1
abbrev i_2 : Int32 := 2
abbrev i_3 : Int32 := 3
abbrev i_4 : Int32 := 4
abbrev i_5 : Int32 := 5
abbrev i_6 : Int32 := 6
abbrev i_31 : Int32 := 31
abbrev i_32 : Int32 := 32
abbrev i_253 : Int32 := 253
abbrev i_255 : Int32 := 255
abbrev i_256 : Int32 := 256
abbrev i_257 : Int32 := 257
abbrev i_259 : Int32 := 259
abbrev s_0 : String := "java/lang/String"
abbrev s_1 : String := "jdk/internal/util/Preconditions"
abbrev s_2 : String := "java/lang/StringUTF16"
abbrev s_3 : String := "com/example/davka/davka/csv/Row"
abbrev s_4 : String := "com/example/davka/davka/csv/RowDiscardPinLaw"
abbrev own_HW (a0 : Array Value) (Z : State) : Prop := ∀ d ∈ tables_1, d.before a0 Z = true
section OwnKit
variable {p : Program} {l : Launch} {e : Env} {R : Room} {s : State} {m : MethodId} {args : Array Value} {below : List Frame} {meth : Method} {c : Code} {T : State} {locs : List Loc} {cells slots : Nat} {Z : State} {a0 : Array Value} {h : Heap}
def own_G (tb : Tables) (e : Env) (below : List Frame) (Post : Outcome → State → Prop) (S : State) : Prop := ∃ s₂ o, Steps tb e below S s₂ ∧ s₂.status = .running ∧ Ended s₂ below o ∧ Post o s₂
theorem goo {tb : Tables} {Post : Outcome → State → Prop} {S S' : State} (k : ∀ t, Steps tb e below S' t → Steps tb e below S t) (h : own_G tb e below Post S') : own_G tb e below Post S := by
  obtain ⟨a, b, st, d⟩ := h
  exact ⟨a, b, k _ st, d⟩
theorem own_join {tb : Tables} {Post : Outcome → State → Prop} {S S' : State} (k : own_G tb e below Post S' → own_G tb e below Post S) (h : own_G tb e below Post S') : own_G tb e below Post S := k h
theorem own_refc {v : Value} (h : v.isRef = true) : v = .null ∨ ∃ a, v = .ref a := by cases v <;> simp [Value.isRef] at h ⊢
theorem own_end (X : Stand p l e R s m args below meth c T locs cells slots) (hlocks : meth.locks = false) {v : Option Value} (hv : meth.sig.returnType = none → v = none) {S : State} {Q : Option Value → Heap → List Loc → Prop} {rc rs : Nat} (hQ : Q v T.heap locs)
    (st : ∀ fs, (∀ (f : JFrame) (acts : List Action), f.method = m → f.locked = none → f.entered = [] → (doReturn e (T.setTop f) acts v).1 = T.setFrames fs) → Steps p.tables e below S (T.setFrames fs)) (hc : cells ≤ rc) (hs : slots ≤ rs) :
    own_G p.tables e below (fun o U' => ∃ v L, o = .returned v ∧ Q v U'.heap L ∧ FrameEnd s o U' L rc rs) S := by
  obtain ⟨fs, hr, hrun, hended, hW, hsame⟩ := X.leave (v := v) hv hlocks
  exact ⟨_, _, st fs hr, hrun, hended, _, _, rfl, hQ, ⟨_, rfl⟩, hW, hsame.mono hc hs⟩
theorem own_endW {vm₁ : Vm} (X : Stand p l e R (s.setVm vm₁) m args below meth c T locs cells slots) (hlocks : meth.locks = false) {n : Nat} (hS : s.Since vm₁ n) (hn : n ≤ T.heap.size) {v : Option Value} (hv : meth.sig.returnType = none → v = none) {S : State} {Q : Option Value → Heap → List Loc → Prop} {rc rs : Nat} (hQ : Q v T.heap locs)
    (st : ∀ fs, (∀ (f : JFrame) (acts : List Action), f.method = m → f.locked = none → f.entered = [] → (doReturn e (T.setTop f) acts v).1 = T.setFrames fs) → Steps p.tables e below S (T.setFrames fs)) (hc : cells ≤ rc) (hs : slots ≤ rs) :
    own_G p.tables e below (fun o U' => ∃ v L, o = .returned v ∧ Q v U'.heap L ∧ ReturnedEndW s o U' L rc rs) S := by
  obtain ⟨fs, hr, hrun, hended, h1, h2, h3, h4⟩ := X.leaveW hS hn (v := v) hv hlocks
  exact ⟨_, _, st fs hr, hrun, hended, _, _, rfl, hQ, h1, h2, h3, h4.mono hc hs⟩
def QP (r : Option Value) (h0 : Heap) (v : Option Value) (h : Heap) (L : List Loc) : Prop := v = r ∧ L = [] ∧ h = h0
def QL (r : Option Value) (n0 : Nat) (v : Option Value) (h : Heap) (L : List Loc) : Prop := v = r ∧ Fr n0 L
theorem own_staKeep {h' : Heap} {C n d : String} {v : Value} {ws : List Addr} (F : Sta Z h C n d v) (K : Keep h h' ws) (q : ∀ x ∈ ws, ∃ cell : Cell, h[x]? = some cell ∧ cell.vm.isStatics = false) : Sta Z h' C n d v := by
  obtain ⟨cf, i, k, f, st, cell, h1, h2, h3, h4, h5, h6, h7⟩ := F
  refine ⟨cf, i, k, f, st, cell, h1, h2, h3, h4, K.2.1 st cell h5 (fun z => ?_), h6, h7⟩
  obtain ⟨c', e1, e2⟩ := q st z
  cases e1.symm.trans h5
  rw [e2] at h6; cases h6
theorem own_callP (X : Stand p l e R s m args below meth c T locs cells slots) (hx : p.tables.exec = Jvm.exec) (hZ : Z.Warmed39 s.vm) {own : String} {index : Nat} {y : MethodName} {bytes : ByteArray} {maxL : Nat} {ret : Option FieldType} {rm : Room} {r : Option Value} {as' : Array Value}
    (hown : s.vm.findClass own = some m.cls) (w1 : (Jvm.Cond.methodLink own index y).before a0 Z = true) (w2 : (Jvm.Cond.static y).before a0 Z = true) (w3 : (Jvm.Cond.initialized y.cls).before a0 Z = true) (w4 : (Jvm.Cond.code y bytes maxL ret).before a0 Z = true)
    (hy : y.cls ≠ "java/lang/invoke/MethodHandle" ∧ y.cls ≠ "java/lang/invoke/VarHandle") {W : Nat}
    (hM : MetFree l y (head1 [Jvm.Cond.code y bytes maxL ret] rm) (fun a U => a = as' ∧ Z.Warmed39 U.vm ∧ U.heap = h) (fun _ _ _ _ _ => True) (fun _ U o U' => ∃ v L, o = .returned v ∧ QP r h v U'.heap L ∧ FrameEnd U o U' L rm.cells rm.slots))
    (hf : rm.frames + 1 ≤ R.frames) (hl : W + (maxL + 11) + rm.locals ≤ R.locals) (hc : rm.cells = 0) (hs0 : rm.slots = 0) (eT : T.heap = h)
    {g : JFrame} (hg : g.method = m) (hsize : g.locals.size = c.maxLocals) {argsL rest : List Value} (hlen : ∀ sig, parseMethodDescriptor y.desc = some sig → argsL.length = sig.parameters.length) (hstack : g.stack = argsL.reverse ++ rest) (ha : argsL.toArray = as')
    (hW : 2 * g.monitorRoom + (rest.map fun v => v.category).sum ≤ W) (hd : decode c.code g.pc = .ok (.invokestatic index, 3)) (hcr : cells ≤ R.cells) (hsr : slots ≤ R.slots) :
    ∃ T', Stand p l e R s m args below meth c T' locs cells slots ∧ T'.heap = h ∧ ∀ target, Steps p.tables e below (T'.setTop { g with pc := g.pc + 3, stack := r.toList ++ rest }) target → Steps p.tables e below (T.setTop g) target := by
  obtain ⟨_, _, ⟨T1, L1, k1, n1⟩, -, X1, ⟨Lc, hQ, l1, y1, z1⟩, st⟩ := Jvm.LawKit.callS X hx hown (mvT hZ w1) (mvT hZ w2) (mvT hZ w3) (mvT hZ w4) hy (backOf (W := W) hM hZ w4 w3 hf hl) hg hsize hlen hstack hW hd (fun _ _ => ⟨ha, eT, by rw [hc]; exact hcr, by rw [hs0]; exact hsr⟩)
  dsimp only [Pt.U, Pt.locs, Pt.cells, Pt.slots] at X1 l1 y1 z1 st hQ
  obtain ⟨rfl, rfl, e1⟩ := hQ
  rw [List.append_nil] at l1
  rw [hc] at y1
  rw [hs0] at z1
  subst l1 y1 z1
  exact ⟨T1, X1, e1, st⟩
theorem own_callV (X : Stand p l e R s m args below meth c T locs cells slots) (hx : p.tables.exec = Jvm.exec) (hZ : Z.Warmed39 s.vm) {own C : String} {index : Nat} {y : MethodName} {bytes : ByteArray} {maxL : Nat} {ret : Option FieldType} {rm : Room} {r : Option Value} {as' : Array Value} {a : Addr}
    (hown : s.vm.findClass own = some m.cls) (w1 : (Jvm.Cond.methodLink own index y).before a0 Z = true) (w2 : (Jvm.Cond.declares y).before a0 Z = true) (w3 : (Jvm.Cond.selects C y y).before a0 Z = true) (w4 : (Jvm.Cond.instanceMethod y).before a0 Z = true) (w5 : (Jvm.Cond.initialized y.cls).before a0 Z = true) (w6 : (Jvm.Cond.code y bytes maxL ret).before a0 Z = true)
    (hy : y.cls ≠ "java/lang/invoke/MethodHandle" ∧ y.cls ≠ "java/lang/invoke/VarHandle") {W : Nat}
    (hM : MetFree l y (head1 [Jvm.Cond.code y bytes maxL ret] rm) (fun a U => a = as' ∧ Z.Warmed39 U.vm ∧ U.heap = h) (fun _ _ _ _ _ => True) (fun _ U o U' => ∃ v L, o = .returned v ∧ QP r h v U'.heap L ∧ FrameEnd U o U' L rm.cells rm.slots))
    (hf : rm.frames + 1 ≤ R.frames) (hl : W + (maxL + 11) + rm.locals ≤ R.locals) (hc : rm.cells = 0) (hs0 : rm.slots = 0) (eT : T.heap = h) (Ex : Exa Z h a C)
    {g : JFrame} (hg : g.method = m) (hsize : g.locals.size = c.maxLocals) {argsL rest : List Value} (hlen : ∀ sig, parseMethodDescriptor y.desc = some sig → argsL.length = sig.parameters.length) (hstack : g.stack = argsL.reverse ++ .ref a :: rest) (ha : (.ref a :: argsL).toArray = as')
    (hW : 2 * g.monitorRoom + (rest.map fun v => v.category).sum ≤ W) (hd : decode c.code g.pc = .ok (.invokevirtual index, 3)) (hcr : cells ≤ R.cells) (hsr : slots ≤ R.slots) :
    ∃ T', Stand p l e R s m args below meth c T' locs cells slots ∧ T'.heap = h ∧ ∀ target, Steps p.tables e below (T'.setTop { g with pc := g.pc + 3, stack := r.toList ++ rest }) target → Steps p.tables e below (T.setTop g) target := by
  obtain ⟨cq, kq, qa, qb, qc⟩ := isOf hZ eT Ex
  obtain ⟨_, _, ⟨T1, L1, k1, n1⟩, -, X1, ⟨Lc, hQ, l1, y1, z1⟩, st⟩ := X.virtualBack hx hown (mvT hZ w1) (mvT hZ w2) (notFace_of_selects (args := #[]) (mvT hZ w3)) (mvT hZ w3) (mvT hZ w4) hy (backOf (W := W) hM hZ w6 w5 hf hl) qa qc hg hsize (Steps.refl _) hlen hstack hW hd (fun _ _ => ⟨ha, eT, by rw [hc]; exact hcr, by rw [hs0]; exact hsr⟩)
  dsimp only [Pt.U, Pt.locs, Pt.cells, Pt.slots] at X1 l1 y1 z1 st hQ
  obtain ⟨rfl, rfl, e1⟩ := hQ
  rw [List.append_nil] at l1
  rw [hc] at y1
  rw [hs0] at z1
  subst l1 y1 z1
  exact ⟨T1, X1, e1, fun target k => st.trans k⟩
theorem own_callF (X : Stand p l e R s m args below meth c T locs cells slots) (hx : p.tables.exec = Jvm.exec) (hZ : Z.Warmed39 s.vm) {own C : String} {index count : Nat} {xi y : MethodName} {bytes : ByteArray} {maxL : Nat} {ret : Option FieldType} {rm : Room} {r : Option Value} {as' : Array Value} {a : Addr}
    (hown : s.vm.findClass own = some m.cls) (w1 : (Jvm.Cond.methodLink own index xi).before a0 Z = true) (w2 : (Jvm.Cond.declares xi).before a0 Z = true) (w2' : (Jvm.Cond.interfaceMethod xi.cls xi.cls xi.name xi.desc).before args s = true) (w3 : (Jvm.Cond.selects C xi y).before a0 Z = true) (w4 : (Jvm.Cond.instanceMethod y).before a0 Z = true) (w7 : (Jvm.Cond.publicMethod y).before a0 Z = true) (w8 : (Jvm.Cond.unhidden C xi.name xi.desc).before a0 Z = true) (w9 : (Jvm.Cond.castable C xi.cls).before a0 Z = true) (w5 : (Jvm.Cond.initialized y.cls).before a0 Z = true) (w6 : (Jvm.Cond.code y bytes maxL ret).before a0 Z = true)
    (hy : xi.cls ≠ "java/lang/invoke/MethodHandle" ∧ xi.cls ≠ "java/lang/invoke/VarHandle") {W : Nat}
    (hM : MetFree l y (head1 [Jvm.Cond.code y bytes maxL ret] rm) (fun a U => a = as' ∧ Z.Warmed39 U.vm ∧ U.heap = h) (fun _ _ _ _ _ => True) (fun _ U o U' => ∃ v L, o = .returned v ∧ QP r h v U'.heap L ∧ FrameEnd U o U' L rm.cells rm.slots))
    (hf : rm.frames + 1 ≤ R.frames) (hl : W + (maxL + 11) + rm.locals ≤ R.locals) (hc : rm.cells = 0) (hs0 : rm.slots = 0) (eT : T.heap = h) (Ex : Exa Z h a C)
    {g : JFrame} (hg : g.method = m) (hsize : g.locals.size = c.maxLocals) {argsL rest : List Value} (hlen : ∀ sig, parseMethodDescriptor xi.desc = some sig → argsL.length = sig.parameters.length) (hstack : g.stack = argsL.reverse ++ .ref a :: rest) (ha : (.ref a :: argsL).toArray = as')
    (hW : 2 * g.monitorRoom + (rest.map fun v => v.category).sum ≤ W) (hd : decode c.code g.pc = .ok (.invokeinterface index count, 5)) (hcr : cells ≤ R.cells) (hsr : slots ≤ R.slots) :
    ∃ T', Stand p l e R s m args below meth c T' locs cells slots ∧ T'.heap = h ∧ ∀ target, Steps p.tables e below (T'.setTop { g with pc := g.pc + 5, stack := r.toList ++ rest }) target → Steps p.tables e below (T.setTop g) target := by
  obtain ⟨cq, kq, qa, qb, qc⟩ := isOf hZ eT Ex
  obtain ⟨_, _, ⟨T1, L1, k1, n1⟩, -, X1, ⟨Lc, hQ, l1, y1, z1⟩, st⟩ := X.interfaceBack hx hown (mvT hZ w1) (mvT hZ w2) w2' (mvT hZ w3) (mvT hZ w4) (mvT hZ w7) (mvT hZ w8) (mvT hZ w9) hy (backOf (W := W) hM hZ w6 w5 hf hl) qa qb qc hg hsize (Steps.refl _) hlen hstack hW hd (fun _ _ => ⟨ha, eT, by rw [hc]; exact hcr, by rw [hs0]; exact hsr⟩)
  dsimp only [Pt.U, Pt.locs, Pt.cells, Pt.slots] at X1 l1 y1 z1 st hQ
  obtain ⟨rfl, rfl, e1⟩ := hQ
  rw [List.append_nil] at l1
  rw [hc] at y1
  rw [hs0] at z1
  subst l1 y1 z1
  exact ⟨T1, X1, e1, fun target k => st.trans k⟩
theorem own_backI {y : MethodName} {bytes : ByteArray} {maxL : Nat} {ret : Option FieldType} {rm : Room} {len W : Nat} {as' : Array Value} {Q : Option Value → Heap → List Loc → Prop}
    (hM : MetFree l y (head1 [Jvm.Cond.code y bytes maxL ret] rm) (fun a U => a = as' ∧ Z.Warmed39 U.vm ∧ U.heap = h ∧ IB Z U.vm []) (fun _ _ _ _ _ => True) (fun _ U o U' => ∃ v L, o = .returned v ∧ Q v U'.heap L ∧ ReturnedEndW U o U' L rm.cells rm.slots))
    (hZ : Z.Warmed39 s.vm) (hI : IB Z s.vm []) (wc : (Jvm.Cond.code y bytes maxL ret).before a0 Z = true) (wz : (Jvm.Cond.initialized y.cls).before a0 Z = true) (hf : rm.frames + 1 ≤ R.frames) (hl : W + (maxL + 11) + rm.locals ≤ R.locals) :
    BackS l R p e below s args y len W (fun A a => a = as' ∧ A.U.heap = h ∧ A.cells + rm.cells ≤ R.cells ∧ A.slots + rm.slots ≤ R.slots)
      (fun A _ v B => ∃ L, Q v B.U.heap L ∧ B.locs = A.locs ++ L ∧ B.cells = A.cells + rm.cells ∧ B.slots = A.slots + rm.slots) := by
  refine BackS.of_freeW (bytes := bytes) (maxL := maxL) (ret := ret) (E := fun _ _ o t L k n => k = rm.cells ∧ n = rm.slots ∧ ∃ v, o = .returned v ∧ Q v t.heap L) hM hf hl ?_ ?_ (fun _ _ _ _ _ _ _ _ _ => trivial) ?_ ?_
  · intro m meth c A a Y hp
    have hU : Z.Warmed39 A.U.vm := wtrans hZ Y.warmed
    refine ⟨?_, mv hU wc, mv hU wz, hp.2.2.1, hp.2.2.2⟩
    show (Jvm.Cond.and _ .tt).before a A.U = true
    rw [Cond.before_and, mv hU wc]; rfl
  · intro m meth c A a g mk Y hp
    obtain ⟨more, e1, e2⟩ := hI
    exact ⟨hp.1, wtrans hZ Y.warmed, hp.2.1, more, Y.warmed.interned_eq.trans e1, e2⟩
  · rintro _ _ _ _ ⟨v, L, h1, h2, h3⟩
    exact ⟨L, _, _, h3, rfl, rfl, v, h1, h2⟩
  · rintro m meth c A a g mk v t L k n Y hp _ _ ⟨e1, e2, v', e3, e4⟩
    cases e3; subst e1 e2; exact ⟨L, e4, rfl, rfl, rfl⟩
theorem own_joinG {Post : Outcome → State → Prop} {S : State} (J : State → List Loc → Prop) (X : Stand p l e R s m args below meth c T locs cells slots) (g : JFrame)
    (k : (∀ T' L', Stand p l e R s m args below meth c T' L' cells slots → J T' L' → own_G p.tables e below Post (T'.setTop g)) → own_G p.tables e below Post S)
    (hj : ∀ T' L', Stand p l e R s m args below meth c T' L' cells slots → J T' L' → own_G p.tables e below Post (T'.setTop g)) : own_G p.tables e below Post S := k hj
theorem own_nsX {a : Addr} {C : String} (E : Exa Z h a C) : ∃ cell : Cell, h[a]? = some cell ∧ cell.vm.isStatics = false := by
  obtain ⟨cell, k, h1, -, -, h4, -⟩ := E
  exact ⟨cell, h1, h4⟩
theorem own_nsV {a : Addr} {k : ClassId} {ty : FieldType} {z : Int32} {vs : List Value} {d : Value} (V : Arv Z h a k ty z vs d) : ∃ cell : Cell, h[a]? = some cell ∧ cell.vm.isStatics = false := by
  obtain ⟨cell, A, -⟩ := V
  exact ⟨cell, A.1, A.plain⟩
theorem own_privB (X : Stand p l e R s m args below meth c T locs cells slots) (hexec : p.tables.exec = Jvm.exec) {own : String} {index kk : Nat} {y : MethodName} {bytes : ByteArray} {maxL : Nat} {ret : Option FieldType}
    (hown : s.vm.findClass own = some m.cls) (hlink : (Jvm.Cond.methodLink own index y).before args s = true) (hinst : (Jvm.Cond.instanceMethod y).before args s = true) (hmade : (Jvm.Cond.instantiable y.cls kk).before args s = true)
    (hpriv : s.PrivateAt y) (hcode : (Jvm.Cond.code y bytes maxL ret).before args s = true) (hy : y.cls ≠ "java/lang/invoke/MethodHandle" ∧ y.cls ≠ "java/lang/invoke/VarHandle")
    {W : Nat} {Pre : Pt → Array Value → Prop} {Post : Pt → Array Value → Option Value → Pt → Prop} (hK : Back l R p e below s args y 3 W Pre Post)
    {g : JFrame} (hg : g.method = m) (hsize : g.locals.size = c.maxLocals) {a : Addr} {cell : Cell} (hcell : T.heap[a]? = some cell) (hobj : ∀ q, cell.vm ≠ .statics q)
    {argsL rest : List Value} (hlen : ∀ sig, parseMethodDescriptor y.desc = some sig → argsL.length = sig.parameters.length)
    (hstack : g.stack = argsL.reverse ++ .ref a :: rest) (hW : 2 * g.monitorRoom + (rest.map fun v => v.category).sum ≤ W) (hdg : decode c.code g.pc = .ok (.invokevirtual index, 3))
    (hpre : ∀ vm₁, s.WarmedH vm₁ → Pre ⟨T.setVm vm₁, locs, cells, slots⟩ (.ref a :: argsL).toArray) :
    ∃ (v : Option Value) (vm₁ : Vm) (B : Pt), s.WarmedH vm₁ ∧ Stand p l e R s m args below meth c B.U B.locs B.cells B.slots ∧ Post ⟨T.setVm vm₁, locs, cells, slots⟩ (.ref a :: argsL).toArray v B ∧
      Steps p.tables e below (T.setTop g) (B.U.setTop { g with pc := g.pc + 3, stack := v.toList ++ rest }) := by
  obtain ⟨mk, methM, hnamed, hmethM, hstM, habM⟩ := Cond.instanceMethod_spec hinst
  obtain ⟨methM', cM, hmethM', -, -, -, -, -, -, hsigM⟩ := Cond.code_spec hnamed hcode
  cases hmethM.symm.trans hmethM'
  obtain ⟨cP, kP, hcP, hkP, -, hkI, -⟩ := Cond.instantiable_spec hmade
  cases (findClass_of_methodNamed hnamed).symm.trans hcP
  have hkPi : kP.isInterface = false := by simp only [Bool.or_eq_false_iff] at hkI; exact hkI.1
  have hselP : selectMethod e.platform s.vm cell.cls mk = .method mk := selectMethod_private hmethM (hpriv mk methM hnamed hmethM)
  obtain ⟨vm₁, X₁, hstep₁⟩ := X.invokevirtual hexec hown hlink hnamed hmethM hstM hkP hkPi hy (a := a) (cell := cell) hcell hobj hselP hmethM habM hkP hkPi (g := g) hg (argsL := argsL) (rest := rest) (hlen _ hsigM) hstack hdg
  obtain ⟨v, B, X', hpost, hsteps⟩ := hK m meth c ⟨T.setVm vm₁, locs, cells, slots⟩ { g with stack := rest } (.invokevirtual index) mk (.ref a :: argsL).toArray X₁ hg hsize hdg hW (X₁.named hnamed) (hpre vm₁ X₁.warmed)
  exact ⟨v, vm₁, B, X₁.warmed, X', hpost, (hstep₁ _ fun acts => by rw [doInvoke_state]; exact Steps.refl _).trans hsteps⟩
theorem own_callVp (X : Stand p l e R s m args below meth c T locs cells slots) (hx : p.tables.exec = Jvm.exec) (hZ : Z.Warmed39 s.vm) {own C : String} {index kk : Nat} {y : MethodName} {bytes : ByteArray} {maxL : Nat} {ret : Option FieldType} {rm : Room} {r : Option Value} {as' : Array Value} {a : Addr}
    (hown : s.vm.findClass own = some m.cls) (w1 : (Jvm.Cond.methodLink own index y).before a0 Z = true) (w2 : (Jvm.Cond.privateMethod y).before a0 Z = true) (w3 : (Jvm.Cond.instantiable y.cls kk).before a0 Z = true) (w4 : (Jvm.Cond.instanceMethod y).before a0 Z = true) (w5 : (Jvm.Cond.initialized y.cls).before a0 Z = true) (w6 : (Jvm.Cond.code y bytes maxL ret).before a0 Z = true)
    (hy : y.cls ≠ "java/lang/invoke/MethodHandle" ∧ y.cls ≠ "java/lang/invoke/VarHandle") {W : Nat}
    (hM : MetFree l y (head1 [Jvm.Cond.code y bytes maxL ret] rm) (fun a U => a = as' ∧ Z.Warmed39 U.vm ∧ U.heap = h) (fun _ _ _ _ _ => True) (fun _ U o U' => ∃ v L, o = .returned v ∧ QP r h v U'.heap L ∧ FrameEnd U o U' L rm.cells rm.slots))
    (hf : rm.frames + 1 ≤ R.frames) (hl : W + (maxL + 11) + rm.locals ≤ R.locals) (hc : rm.cells = 0) (hs0 : rm.slots = 0) (eT : T.heap = h) (Ex : Exa Z h a C)
    {g : JFrame} (hg : g.method = m) (hsize : g.locals.size = c.maxLocals) {argsL rest : List Value} (hlen : ∀ sig, parseMethodDescriptor y.desc = some sig → argsL.length = sig.parameters.length) (hstack : g.stack = argsL.reverse ++ .ref a :: rest) (ha : (.ref a :: argsL).toArray = as')
    (hW : 2 * g.monitorRoom + (rest.map fun v => v.category).sum ≤ W) (hd : decode c.code g.pc = .ok (.invokevirtual index, 3)) (hcr : cells ≤ R.cells) (hsr : slots ≤ R.slots) :
    ∃ T', Stand p l e R s m args below meth c T' locs cells slots ∧ T'.heap = h ∧ ∀ target, Steps p.tables e below (T'.setTop { g with pc := g.pc + 3, stack := r.toList ++ rest }) target → Steps p.tables e below (T.setTop g) target := by
  obtain ⟨cq, q1, q2⟩ := Ex.cell
  obtain ⟨_, _, ⟨T1, L1, k1, n1⟩, -, X1, ⟨Lc, hQ, l1, y1, z1⟩, st⟩ := own_privB X hx hown (mvT hZ w1) (mvT hZ w4) (mvT hZ w3) (Cond.privateMethod_at (mvP hZ w2 (args := #[]))) (mvT hZ w6) hy (backOf (W := W) hM hZ w6 w5 hf hl) hg hsize (by rw [eT]; exact q1) q2 hlen hstack hW hd (fun _ _ => ⟨ha, eT, by rw [hc]; exact hcr, by rw [hs0]; exact hsr⟩)
  dsimp only [Pt.U, Pt.locs, Pt.cells, Pt.slots] at X1 l1 y1 z1 st hQ
  obtain ⟨rfl, rfl, e1⟩ := hQ
  rw [List.append_nil] at l1
  rw [hc] at y1
  rw [hs0] at z1
  subst l1 y1 z1
  exact ⟨T1, X1, e1, fun target k => st.trans k⟩
end OwnKit
theorem own_ext {x : Int32} {n : Nat} (h : x.toInt = n) (hn : n < 2 ^ 31) : x = Int32.ofNat n := Int32.toInt_inj.mp (by rw [h, Int32.toInt_ofNat_of_lt hn])

theorem qw {a0 : Array Value} {Z : State} (hw : ∀ d ∈ tables_1, d.before a0 Z = true) (i : Nat) {d : Jvm.Cond} (q : tables_1[i]? = some d) : d.before a0 Z = true := hw d (List.mem_of_getElem? q)
theorem own_strA {Z : State} {a0 : Array Value} (hw : ∀ d ∈ tables_1, d.before a0 Z = true) : ∀ a ∈ Bundle.stringAtoms, a.before a0 Z = true := by
  intro a ha
  simp only [Bundle.stringAtoms, Bundle.sN, List.mem_cons, List.not_mem_nil, or_false] at ha
  rcases ha with rfl | rfl | rfl | rfl | rfl | rfl | rfl
  · exact qw hw 3 rfl
  · exact qw hw 11 rfl
  · exact qw hw 15 rfl
  · exact qw hw 24 rfl
  · exact qw hw 26 rfl
  · exact qw hw 121 rfl
  · exact qw hw 122 rfl
def F2 (x0 : Int32) : Int32 :=
  if (255 : Int32) < x0 then
    (nar .boolean (0 : Int32))
  else
    (nar .boolean (1 : Int32))
theorem d2_0 : decode jdk_43_method_3_code 0 = .ok (.iload_n 0, 1) := by decide +kernel
theorem d2_1 : decode jdk_43_method_3_code 1 = .ok (.sipush 255, 3) := by decide +kernel
theorem d2_4 : decode jdk_43_method_3_code 4 = .ok (.if_icmp .gt 7, 3) := by decide +kernel
theorem d2_7 : decode jdk_43_method_3_code 7 = .ok (.iconst 1, 1) := by decide +kernel
theorem d2_8 : decode jdk_43_method_3_code 8 = .ok (.goto 4, 3) := by decide +kernel
theorem d2_11 : decode jdk_43_method_3_code 11 = .ok (.iconst 0, 1) := by decide +kernel
theorem d2_12 : decode jdk_43_method_3_code 12 = .ok (.ireturn, 1) := by decide +kernel
theorem own_pn0 : plainName "java/lang/StringLatin1" = true := by first | (simp [plainName, overriddenIn]; done) | decide +kernel
theorem ef_2_I (m : MethodId) (x0 : Int32) : entryFrame m #[(.int x0)] 1 = mkF m 0 #[.val (.int x0)] [] := by
  first | (simp [entryFrame, mkF, argsToLocals, Value.category]; done) | rfl
theorem rm2 (l : Launch) (Z : State) (a0 : Array Value) (hw : own_HW a0 Z) (ws : List Jvm.Cond) (x0 : Int32)  (h0 : Heap)  :
  MetFree l Y0 (head1 (Jvm.Cond.code Y0 jdk_43_method_3_code 1 (some .boolean) :: ws) (rr 0 0 0 0)) (fun a U => a = #[.int x0] ∧ Z.Warmed39 U.vm ∧ U.heap = h0) (fun _ _ _ _ _ => True) (fun _ U o U' => ∃ v L, o = .returned v ∧ QP (some (.int (F2 x0))) h0 v U'.heap L ∧ FrameEnd U o U' L (rr 0 0 0 0).cells (rr 0 0 0 0).slots) := by
 refine MetFree.of_bodySF (plainFor_of_name own_pn0) hisR ?_
 intro p e s m args below meth c s₁ Bd hml0 hP hK
 obtain ⟨rfl, hZ, hh⟩ := hP
 have hx := Bd.exec
 have hby := Bd.bytes
 have hml : c.maxLocals = 1 := hml0
 have hown : s.vm.findClass "java/lang/StringLatin1" = some m.cls := findClass_of_methodNamed Bd.named
 have hnm := (name_of_methodNamed Bd.named Bd.method).1
 have X0 : Stand p l e (rr 0 0 0 0) s m #[.int x0] below meth c s₁ [] 0 0 := Stand.of_body Bd
 have e0 : s₁.heap = h0 := by rw [← hh, Bd.state]; rfl
 show own_G _ _ _ _ (s₁.setTop (entryFrame m #[.int x0] 1))
 refine goo (fun _ k => castTop (ef_2_I m x0) k) ?_
 refine goo (fun _ k => XS.iloadN X0.here hx rfl (hb hby d2_0) rfl <| XS.sipush X0.here hx rfl (hb hby d2_1) k) ?_
 by_cases hc4_1 : i_255 < x0
 ·refine goo (fun _ k => XS.icmpYes X0.here hx rfl (pc0 := 4) (pc' := 11) rfl (hb hby d2_4) rfl ((tlt hc4_1).2.2.1) (by decide) (by decide) k) ?_
  refine goo (fun _ k => XS.iconst X0.here hx rfl (hb hby d2_11) k) ?_
  show own_G _ _ _ _ (s₁.setTop (mkF m 12 #[iv x0] [.int i_0]))
  exact own_end X0 Bd.notSynchronized (v := some (.int (nar .boolean i_0))) (fun h => by rw [Bd.returns] at h; cases h) (Q := QP (some (.int (F2 x0))) h0) ⟨by unfold F2; simp only [if_pos hc4_1]; try rfl, rfl, e0⟩ (fun fs hr => retN X0 hx (t := .boolean) Bd.returns (by simp) (hb hby d2_12) hr) (by decide) (by decide)
 ·refine goo (fun _ k => XS.icmpNo X0.here hx rfl (hb hby d2_4) rfl ((flt hc4_1).2.2.1) k) ?_
  refine goo (fun _ k => XS.iconst X0.here hx rfl (hb hby d2_7) <| XS.goto X0.here hx rfl (pc0 := 8) (pc' := 12) rfl (hb hby d2_8) (by decide) (by decide) k) ?_
  show own_G _ _ _ _ (s₁.setTop (mkF m 12 #[iv x0] [.int i_1]))
  exact own_end X0 Bd.notSynchronized (v := some (.int (nar .boolean i_1))) (fun h => by rw [Bd.returns] at h; cases h) (Q := QP (some (.int (F2 x0))) h0) ⟨by unfold F2; simp only [if_neg hc4_1]; try rfl, rfl, e0⟩ (fun fs hr => retN X0 hx (t := .boolean) Bd.returns (by simp) (hb hby d2_12) hr) (by decide) (by decide)
def own_ok (c : Int32) : Prop := ∃ n : Nat, n < 256 ∧ c = Int32.ofNat n
def own_c (x : Int32) : Int32 := ((x &&& (255 : Int32)).toUInt32.toUInt16.toUInt32.toInt32)
def own_by (c : Int32) : Int32 := nar .byte (c.toInt8.toInt32)
theorem own_c_ok (x : Int32) : own_ok (own_c x) := by
  have e := Jvm.Kit.i32_mask x 255 (k := 8) (by decide) (by decide)
  have e2 : (x &&& (255 : Int32)) = Int32.ofNat (x &&& (255 : Int32)).toInt.toNat := own_ext (by omega) (by omega)
  refine ⟨(x &&& (255 : Int32)).toInt.toNat, by omega, ?_⟩
  unfold own_c
  have hn : (x &&& (255 : Int32)).toInt.toNat < 256 := by omega
  generalize (x &&& (255 : Int32)).toInt.toNat = n at e2 hn
  rw [e2]
  exact (by decide +kernel : ∀ n : Fin 256, (Int32.ofNat n.val).toUInt32.toUInt16.toUInt32.toInt32 = Int32.ofNat n.val) ⟨n, hn⟩
theorem own_enc {c : Int32} (h : own_ok c) : ¬ F2 c = (0 : Int32) := by
  obtain ⟨n, hn, rfl⟩ := h
  exact (by decide +kernel : ∀ n : Fin 256, ¬ F2 (Int32.ofNat n.val) = (0 : Int32)) ⟨n, hn⟩
theorem own_le {c : Int32} (h : own_ok c) : ¬ (255 : Int32) < c := by
  obtain ⟨n, hn, rfl⟩ := h
  exact (by decide +kernel : ∀ n : Fin 256, ¬ (255 : Int32) < Int32.ofNat n.val) ⟨n, hn⟩
theorem own_nar {c : Int32} (h : own_ok c) : nar .char c = c := by
  obtain ⟨n, hn, rfl⟩ := h
  exact (by decide +kernel : ∀ n : Fin 256, nar .char (Int32.ofNat n.val) = Int32.ofNat n.val) ⟨n, hn⟩
theorem own_chr {c : Int32} (h : own_ok c) : nar .char ((own_by c &&& (255 : Int32)).toUInt32.toUInt16.toUInt32.toInt32) = c := by
  obtain ⟨n, hn, rfl⟩ := h
  exact (by decide +kernel : ∀ n : Fin 256, nar .char ((own_by (Int32.ofNat n.val) &&& (255 : Int32)).toUInt32.toUInt16.toUInt32.toInt32) = Int32.ofNat n.val) ⟨n, hn⟩
theorem own_4 (x : Int32) : (x &&& (3 : Int32)) = 0 ∨ (x &&& (3 : Int32)) = 1 ∨ (x &&& (3 : Int32)) = 2 ∨ (x &&& (3 : Int32)) = 3 := by
  have e := Jvm.Kit.i32_mask x 3 (k := 2) (by decide) (by decide)
  have lit : ∀ (n : Nat), n < 4 → (x &&& (3 : Int32)).toInt = n → (x &&& (3 : Int32)) = Int32.ofNat n := fun n r q => own_ext q (by omega)
  have ev : (x &&& (3 : Int32)).toInt = 0 ∨ (x &&& (3 : Int32)).toInt = 1 ∨ (x &&& (3 : Int32)).toInt = 2 ∨ (x &&& (3 : Int32)).toInt = 3 := by omega
  rcases ev with q | q | q | q
  · exact Or.inl (lit 0 (by decide) q)
  · exact Or.inr (Or.inl (lit 1 (by decide) q))
  · exact Or.inr (Or.inr (Or.inl (lit 2 (by decide) q)))
  · exact Or.inr (Or.inr (Or.inr (lit 3 (by decide) q)))
def own_pre (x : Int32) : Int32 := x &&& (3 : Int32)
def own_pend (x : Int32) : Int32 := ((x.toUInt32 >>> ((2 : Int32) &&& 31).toUInt32).toInt32) &&& (3 : Int32)
theorem own_pre4 (x : Int32) : own_pre x = 0 ∨ own_pre x = 1 ∨ own_pre x = 2 ∨ own_pre x = 3 := own_4 x
theorem own_pend4 (x : Int32) : own_pend x = 0 ∨ own_pend x = 1 ∨ own_pend x = 2 ∨ own_pend x = 3 := own_4 _
def own_aft (x : Int32) : Int32 := if (((x.toUInt32 >>> ((4 : Int32) &&& 31).toUInt32).toInt32) &&& (1 : Int32)) = (0 : Int32) then 0 else 1

def Q_rm3 (Z : State) (x0 : Int32)  (h0 : Heap) (n0 : Nat) (v : Option Value) (h : Heap) (L : List Loc) : Prop := ∃ RET : Addr, v = some (.ref RET) ∧ Fr n0 L ∧ Keep h0 h [] ∧ h0.size ≤ RET ∧ ∃ k, Arv Z h RET k .byte i_1 [.int (own_by x0)] (.int i_0)
theorem d3_0 : decode jdk_43_method_46_code 0 = .ok (.iconst 1, 1) := by decide +kernel
theorem d3_1 : decode jdk_43_method_46_code 1 = .ok (.newarray .byte, 2) := by decide +kernel
theorem d3_3 : decode jdk_43_method_46_code 3 = .ok (.dup, 1) := by decide +kernel
theorem d3_4 : decode jdk_43_method_46_code 4 = .ok (.iconst 0, 1) := by decide +kernel
theorem d3_5 : decode jdk_43_method_46_code 5 = .ok (.iload_n 0, 1) := by decide +kernel
theorem d3_6 : decode jdk_43_method_46_code 6 = .ok (.i2b, 1) := by decide +kernel
theorem d3_7 : decode jdk_43_method_46_code 7 = .ok (.bastore, 1) := by decide +kernel
theorem d3_8 : decode jdk_43_method_46_code 8 = .ok (.areturn, 1) := by decide +kernel
theorem ef_3_I (m : MethodId) (x0 : Int32) : entryFrame m #[(.int x0)] 1 = mkF m 0 #[.val (.int x0)] [] := by
  first | (simp [entryFrame, mkF, argsToLocals, Value.category]; done) | rfl
theorem rm3 (l : Launch) (Z : State) (a0 : Array Value) (hw : own_HW a0 Z) (ws : List Jvm.Cond) (x0 : Int32)  (h0 : Heap) (n0 : Nat) (Z0 : n0 ≤ h0.size)   :
  MetFree l Y1 (head1 (Jvm.Cond.code Y1 jdk_43_method_46_code 1 (some (.array .byte)) :: ws) (rr 0 1 1 0)) (fun a U => a = #[.int x0] ∧ Z.Warmed39 U.vm ∧ U.heap = h0) (fun _ _ _ _ _ => True) (fun _ U o U' => ∃ v L, o = .returned v ∧ Q_rm3 Z x0 h0 n0 v U'.heap L ∧ FrameEnd U o U' L (rr 0 1 1 0).cells (rr 0 1 1 0).slots) := by
 refine MetFree.of_bodySF (plainFor_of_name own_pn0) hisR ?_
 intro p e s m args below meth c s₁ Bd hml0 hP hK
 obtain ⟨rfl, hZ, hh⟩ := hP
 have hx := Bd.exec
 have hby := Bd.bytes
 have hml : c.maxLocals = 1 := hml0
 have hown : s.vm.findClass "java/lang/StringLatin1" = some m.cls := findClass_of_methodNamed Bd.named
 have hnm := (name_of_methodNamed Bd.named Bd.method).1
 have X0 : Stand p l e (rr 0 1 1 0) s m #[.int x0] below meth c s₁ [] 0 0 := Stand.of_body Bd
 have e0 : s₁.heap = h0 := by rw [← hh, Bd.state]; rfl
 show own_G _ _ _ _ (s₁.setTop (entryFrame m #[.int x0] 1))
 refine goo (fun _ k => castTop (ef_3_I m x0) k) ?_
 have N0 := Fr.nil n0
 have KP0 := Keep.refl h0 []
 refine goo (fun _ k => XS.iconst X0.here hx rfl (hb hby d3_0) k) ?_
 obtain ⟨T2, h2, k2, X2, e2, E2, A2, st2⟩ := newP X0 hx hZ (qw hw 15 rfl) e0 (g := (mkF m 1 #[iv x0] [.int i_1])) rfl (hb hby d3_1) rfl (by decide) (cap := 1) (by decide) (by decide) (by decide) (by decide)
 obtain ⟨b2, g2⟩ : ∃ z, z = h0.size := ⟨_, rfl⟩
 rw [← g2] at A2 st2
 have ge_3 : n0 ≤ b2 := Nat.le_trans Z0 (Nat.le_of_eq g2.symm)
 have sz_4 : h0.size ≤ b2 := Nat.le_trans KP0.1 (Nat.le_of_eq g2.symm)
 have KP_6 : Keep h0 h2 [] := KP0.ext E2
 have V2 : Arv Z h2 b2 k2 .byte i_1 [.int i_0] (.int i_0) := (Arv.new A2 (by decide)).pad (pad_rep [] (.int i_0) 1)
 refine goo st2 ?_
 refine goo (fun _ k => XS.dup X2.here hx rfl (hb hby d3_3) rfl rfl <| XS.iconst X2.here hx rfl (hb hby d3_4) <| XS.iloadN X2.here hx rfl (hb hby d3_5) rfl k) ?_
 show own_G _ _ _ _ (T2.setTop (mkF m 6 #[iv x0] [.int x0, .int i_0, .ref b2, .ref b2]))
 refine goo (fun _ k => XS.i2b X2.here hx rfl (hb hby d3_6) rfl k) ?_
 obtain ⟨cl7, Ar7, q7, S7, N7, H7, G7⟩ := id V2
 obtain ⟨T7, h7, X7, e7, W7, st7⟩ := stB X2 hx hZ e2 Ar7 (j := i_0) (inb_of S7 ⟨by decide, by decide⟩) (g := (mkF m 7 #[iv x0] [(.int (x0.toInt8.toInt32)), .int i_0, .ref b2, .ref b2])) rfl rfl (hb hby d3_7)
 have V7 : Arv Z h7 b2 k2 .byte i_1 [(.int (nar .byte (x0.toInt8.toInt32)))] (.int i_0) := Arv.set Ar7 q7 S7 N7 H7 G7 (fits_nar_byte _) W7 0 rfl (Nat.le_of_ble_eq_true rfl)
 have KP_9 : Keep h0 h7 [] := KP_6.wr W7 (Or.inr sz_4)
 have N_7 := Fr.snoc X7 N0 ge_3
 refine goo st7 ?_
 show own_G _ _ _ _ (T7.setTop (mkF m 8 #[iv x0] [.ref b2]))
 exact own_end X7 Bd.notSynchronized (v := some (.ref b2)) (fun h => by rw [Bd.returns] at h; cases h) (Q := Q_rm3 Z x0 h0 n0) (by show Q_rm3 Z x0 h0 n0 (some (.ref b2)) T7.heap _; rw [e7]; exact ⟨b2, rfl, N_7, KP_9, sz_4, ⟨k2, V7⟩⟩) (fun fs hr => own_retA X7 hx Bd.returns rfl rfl (hb hby d3_8) hr) (by decide) (by decide)
def Q_rm4 (Z : State) (x0 : Addr) (x1 : Addr)  (h0 : Heap) (n0 : Nat) (v : Option Value) (h : Heap) (L : List Loc) : Prop := v = none ∧ Fr n0 L ∧ Keep h0 h [x0] ∧ Exa Z h x0 s_0 ∧ Fld Z h x0 s_0 "value" "[B" (.ref x1) ∧ Fld Z h x0 s_0 "coder" "B" (.int i_0)
theorem d4_0 : decode jdk_42_method_151_code 0 = .ok (.aload_n 0, 1) := by decide +kernel
theorem d4_1 : decode jdk_42_method_151_code 1 = .ok (.invokespecial 1, 3) := by decide +kernel
theorem d4_4 : decode jdk_42_method_151_code 4 = .ok (.aload_n 0, 1) := by decide +kernel
theorem d4_5 : decode jdk_42_method_151_code 5 = .ok (.aload_n 1, 1) := by decide +kernel
theorem d4_6 : decode jdk_42_method_151_code 6 = .ok (.putfield 9, 3) := by decide +kernel
theorem d4_9 : decode jdk_42_method_151_code 9 = .ok (.aload_n 0, 1) := by decide +kernel
theorem d4_10 : decode jdk_42_method_151_code 10 = .ok (.iload_n 2, 1) := by decide +kernel
theorem d4_11 : decode jdk_42_method_151_code 11 = .ok (.putfield 15, 3) := by decide +kernel
theorem d4_14 : decode jdk_42_method_151_code 14 = .ok (.return_, 1) := by decide +kernel
theorem own_pn1 : plainName "java/lang/String" = true := by first | (simp [plainName, overriddenIn]; done) | decide +kernel
theorem ef_4_RRI (m : MethodId) (x0 : Addr) (x1 : Addr) (x2 : Int32) : entryFrame m #[(.ref x0), (.ref x1), (.int x2)] 3 = mkF m 0 #[.val (.ref x0), .val (.ref x1), .val (.int x2)] [] := by
  first | (simp [entryFrame, mkF, argsToLocals, Value.category]; done) | rfl
theorem rm4 (l : Launch) (Z : State) (a0 : Array Value) (hw : own_HW a0 Z) (ws : List Jvm.Cond) (x0 : Addr) (x1 : Addr)  (h0 : Heap) (n0 : Nat) (Z0 : n0 ≤ h0.size) (p0_ : Exa Z h0 x0 s_0) (p1_ : n0 ≤ x0) (p2_ : Fld Z h0 x0 s_0 "value" "[B" .null) (p3_ : Fld Z h0 x0 s_0 "coder" "B" (.int i_0))  :
  MetFree l Y2 (head1 (Jvm.Cond.code Y2 jdk_42_method_151_code 3 none :: ws) (rr 1 0 0 12)) (fun a U => a = #[.ref x0, .ref x1, .int i_0] ∧ Z.Warmed39 U.vm ∧ U.heap = h0) (fun _ _ _ _ _ => True) (fun _ U o U' => ∃ v L, o = .returned v ∧ Q_rm4 Z x0 x1 h0 n0 v U'.heap L ∧ FrameEnd U o U' L (rr 1 0 0 12).cells (rr 1 0 0 12).slots) := by
 refine MetFree.of_bodySF (plainFor_of_name own_pn1) hisR ?_
 intro p e s m args below meth c s₁ Bd hml0 hP hK
 obtain ⟨rfl, hZ, hh⟩ := hP
 have hx := Bd.exec
 have hby := Bd.bytes
 have hml : c.maxLocals = 3 := hml0
 have hown : s.vm.findClass s_0 = some m.cls := findClass_of_methodNamed Bd.named
 have hnm := (name_of_methodNamed Bd.named Bd.method).1
 have X0 : Stand p l e (rr 1 0 0 12) s m #[.ref x0, .ref x1, .int i_0] below meth c s₁ [] 0 0 := Stand.of_body Bd
 have e0 : s₁.heap = h0 := by rw [← hh, Bd.state]; rfl
 show own_G _ _ _ _ (s₁.setTop (entryFrame m #[.ref x0, .ref x1, .int i_0] 3))
 refine goo (fun _ k => castTop (ef_4_RRI m x0 x1 i_0) k) ?_
 have N0 := Fr.nil n0
 have KP0 := Keep.refl h0 [x0]
 refine goo (fun _ k => XS.aloadN X0.here hx rfl (hb hby d4_0) rfl rfl k) ?_
 obtain ⟨T10, X10, e10, st10⟩ := initO X0 hx hZ hown (qw hw 20 rfl) (qw hw 21 rfl) (qw hw 22 rfl) e0 (g := (mkF m 1 #[rv x0, rv x1, iv i_0] [.ref x0])) rfl (by rw [hml]; rfl) rfl (hb hby d4_1) (by decide) (W := 0) (Nat.le_of_eq rfl) (by decide)
 refine goo st10 ?_
 refine goo (fun _ k => XS.aloadN X10.here hx rfl (hb hby d4_4) rfl rfl <| XS.aloadN X10.here hx rfl (hb hby d4_5) rfl rfl k) ?_
 obtain ⟨T11, h11, X11, e11, W11, st11⟩ := putF X10 hx hZ hown (host := "") (Or.inl (qw hw 23 rfl)) Via.refl e10 p2_ p0_ (Or.inr ⟨(qw hw 24 rfl), rfl, hnm⟩) (qw hw 11 rfl) (ty := (.array .byte)) (by decide) rfl rfl (g := (mkF m 6 #[rv x0, rv x1, iv i_0] [.ref x1, .ref x0])) rfl rfl (hb hby d4_6)
 have X_12 := p0_.wr W11
 have F_13 := p3_.other W11 (Or.inr (slot_ne (Or.inr (qw hw 26 rfl)) (Or.inr (qw hw 24 rfl)) (by decide) (t := .byte) (t' := (.array .byte)) (by decide) (by decide)))
 have F_14 := p2_.same W11
 have KP_16 : Keep h0 h11 [x0] := KP0.wr W11 (Or.inl (List.mem_of_getElem? (i := 0) rfl))
 have N_11 := Fr.snoc X11 N0 p1_
 refine goo st11 ?_
 show own_G _ _ _ _ (T11.setTop (mkF m 9 #[rv x0, rv x1, iv i_0] []))
 refine goo (fun _ k => XS.aloadN X11.here hx rfl (hb hby d4_9) rfl rfl <| XS.iloadN X11.here hx rfl (hb hby d4_10) rfl k) ?_
 obtain ⟨T17, h17, X17, e17, W17, st17⟩ := putFN X11 hx hZ hown (qw hw 25 rfl) Via.refl e11 F_13 X_12 (Or.inr ⟨(qw hw 26 rfl), rfl, hnm⟩) (qw hw 11 rfl) (ty := .byte) (v' := .int i_0) (by decide) rfl (by decide) (g := (mkF m 11 #[rv x0, rv x1, iv i_0] [.int i_0, .ref x0])) rfl rfl (hb hby d4_11)
 have X_18 := X_12.wr W17
 have F_19 := F_14.other W17 (Or.inr (slot_ne (Or.inr (qw hw 24 rfl)) (Or.inr (qw hw 26 rfl)) (by decide) (t := (.array .byte)) (t' := .byte) (by decide) (by decide)))
 have F_20 := F_13.same W17
 have KP_22 : Keep h0 h17 [x0] := KP_16.wr W17 (Or.inl (List.mem_of_getElem? (i := 0) rfl))
 have N_17 := Fr.snoc X17 N_11 p1_
 refine goo st17 ?_
 show own_G _ _ _ _ (T17.setTop (mkF m 14 #[rv x0, rv x1, iv i_0] []))
 exact own_end X17 Bd.notSynchronized (v := none) (fun _ => rfl) (Q := Q_rm4 Z x0 x1 h0 n0) (by show Q_rm4 Z x0 x1 h0 n0 (none) T17.heap _; rw [e17]; exact ⟨rfl, N_17, KP_22, X_18, F_19, F_20⟩) (fun fs hr => X17.returnOut hx Bd.returns (hb hby d4_14) hr) (by decide) (by decide)
def Q_rm1 (Z : State) (x0 : Int32) (cz : Int32) (h0 : Heap) (n0 : Nat) (v : Option Value) (h : Heap) (L : List Loc) : Prop := ∃ RET : Addr, v = some (.ref RET) ∧ Fr n0 L ∧ Keep h0 h [] ∧ h0.size ≤ RET ∧ Exa Z h RET s_0 ∧ Fld Z h RET s_0 "coder" "B" (.int i_0) ∧ ∃ b k, h0.size ≤ b ∧ Fld Z h RET s_0 "value" "[B" (.ref b) ∧ Arv Z h b k .byte i_1 [.int (own_by x0)] (.int i_0)
theorem own_pd0 : parseMethodDescriptor "(C)Z" = some ⟨[.char], some .boolean⟩ := by decide +kernel
theorem own_pd1 : parseMethodDescriptor "(C)[B" = some ⟨[.char], some (.array .byte)⟩ := by decide +kernel
theorem own_pd2 : parseMethodDescriptor "([BB)V" = some ⟨[(.array .byte), .byte], none⟩ := by decide +kernel
theorem d1_0 : decode jdk_42_method_139_code 0 = .ok (.getstatic 38, 3) := by decide +kernel
theorem d1_3 : decode jdk_42_method_139_code 3 = .ok (.ifCond .eq 23, 3) := by decide +kernel
theorem d1_6 : decode jdk_42_method_139_code 6 = .ok (.iload_n 0, 1) := by decide +kernel
theorem d1_7 : decode jdk_42_method_139_code 7 = .ok (.invokestatic 1015, 3) := by decide +kernel
theorem d1_10 : decode jdk_42_method_139_code 10 = .ok (.ifCond .eq 16, 3) := by decide +kernel
theorem d1_13 : decode jdk_42_method_139_code 13 = .ok (.new 10, 3) := by decide +kernel
theorem d1_16 : decode jdk_42_method_139_code 16 = .ok (.dup, 1) := by decide +kernel
theorem d1_17 : decode jdk_42_method_139_code 17 = .ok (.iload_n 0, 1) := by decide +kernel
theorem d1_18 : decode jdk_42_method_139_code 18 = .ok (.invokestatic 1018, 3) := by decide +kernel
theorem d1_21 : decode jdk_42_method_139_code 21 = .ok (.iconst 0, 1) := by decide +kernel
theorem d1_22 : decode jdk_42_method_139_code 22 = .ok (.invokespecial 209, 3) := by decide +kernel
theorem d1_25 : decode jdk_42_method_139_code 25 = .ok (.areturn, 1) := by decide +kernel
theorem ef_1_I (m : MethodId) (x0 : Int32) : entryFrame m #[(.int x0)] 1 = mkF m 0 #[.val (.int x0)] [] := by
  first | (simp [entryFrame, mkF, argsToLocals, Value.category]; done) | rfl
theorem rm1 (l : Launch) (Z : State) (a0 : Array Value) (hw : own_HW a0 Z) (ws : List Jvm.Cond) (x0 : Int32) (cz : Int32) (h0 : Heap) (n0 : Nat) (Z0 : n0 ≤ h0.size) (p0_ : Sta Z h0 s_0 "COMPACT_STRINGS" "Z" (.int cz)) (p1_ : ¬ cz = i_0) (p2_ : own_ok x0)  :
  MetFree l Y3 (head1 (Jvm.Cond.code Y3 jdk_42_method_139_code 1 (some (.object s_0)) :: ws) (rr 2 2 5 27)) (fun a U => a = #[.int x0] ∧ Z.Warmed39 U.vm ∧ U.heap = h0) (fun _ _ _ _ _ => True) (fun _ U o U' => ∃ v L, o = .returned v ∧ Q_rm1 Z x0 cz h0 n0 v U'.heap L ∧ FrameEnd U o U' L (rr 2 2 5 27).cells (rr 2 2 5 27).slots) := by
 refine MetFree.of_bodySF (plainFor_of_name own_pn1) hisR ?_
 intro p e s m args below meth c s₁ Bd hml0 hP hK
 obtain ⟨rfl, hZ, hh⟩ := hP
 have hx := Bd.exec
 have hby := Bd.bytes
 have hml : c.maxLocals = 1 := hml0
 have hown : s.vm.findClass s_0 = some m.cls := findClass_of_methodNamed Bd.named
 have hnm := (name_of_methodNamed Bd.named Bd.method).1
 have X0 : Stand p l e (rr 2 2 5 27) s m #[.int x0] below meth c s₁ [] 0 0 := Stand.of_body Bd
 have e0 : s₁.heap = h0 := by rw [← hh, Bd.state]; rfl
 show own_G _ _ _ _ (s₁.setTop (entryFrame m #[.int x0] 1))
 refine goo (fun _ k => castTop (ef_1_I m x0) k) ?_
 have N0 := Fr.nil n0
 have KP0 := Keep.refl h0 []
 obtain ⟨T23, X23, e23, st23⟩ := getS2 X0 hx hZ hown (host := "") (Or.inl (qw hw 5 rfl)) Via.refl e0 p0_ (g := (mkF m 0 #[iv x0] [])) rfl (hb hby d1_0)
 refine goo st23 ?_
 refine goo (fun _ k => XS.ifNo X23.here hx rfl (hb hby d1_3) rfl (((if0 _ _).trans (feq p1_).1)) <| XS.iloadN X23.here hx rfl (hb hby d1_6) rfl k) ?_
 obtain ⟨T24, X24, e24, st24⟩ := own_callP X23 hx hZ (y := Y0) hown (qw hw 6 rfl) (qw hw 7 rfl) (qw hw 8 rfl) (qw hw 9 rfl) (by decide) (W := 0) (rm2 l Z a0 hw [] x0  h0 ) (by decide) (by decide) rfl rfl e23 (g := (mkF m 7 #[iv x0] [.int x0])) rfl (by rw [hml]; rfl) (argsL := [.int x0]) (rest := []) (lenOf own_pd0 rfl) rfl rfl (Nat.le_of_eq rfl) (hb hby d1_7) (by decide) (by decide)
 refine goo st24 ?_
 refine goo (fun _ k => XS.ifNo X24.here hx rfl (hb hby d1_10) rfl (((if0 _ _).trans (feq (own_enc p2_)).1)) k) ?_
 show own_G _ _ _ _ (T24.setTop (mkF m 13 #[iv x0] []))
 obtain ⟨T25, h25, X25, e25, E25, A25, D25, -, st25⟩ := newO X24 hx hZ hown (qw hw 10 rfl) (qw hw 11 rfl) (qw hw 3 rfl) e24 (g := (mkF m 13 #[iv x0] [])) rfl (hb hby d1_13) (by decide) (by decide)
 obtain ⟨b25, g25⟩ : ∃ z, z = h0.size := ⟨_, rfl⟩
 rw [← g25] at A25 D25 st25
 have ge_26 : n0 ≤ b25 := Nat.le_trans Z0 (Nat.le_of_eq g25.symm)
 have sz_27 : h0.size ≤ b25 := Nat.le_trans KP0.1 (Nat.le_of_eq g25.symm)
 have Z_29 : n0 ≤ h25.size := Nat.le_trans Z0 E25.1
 have KP_30 : Keep h0 h25 [] := KP0.ext E25
 have F_31 : Fld Z h25 b25 s_0 "value" "[B" .null := D25 (Or.inr (qw hw 24 rfl)) (ty := (.array .byte)) (by decide)
 have F_32 : Fld Z h25 b25 s_0 "coder" "B" (.int i_0) := D25 (Or.inr (qw hw 26 rfl)) (ty := .byte) (by decide)
 refine goo st25 ?_
 refine goo (fun _ k => XS.dup X25.here hx rfl (hb hby d1_16) rfl rfl <| XS.iloadN X25.here hx rfl (hb hby d1_17) rfl k) ?_
 obtain ⟨_, _, ⟨T33, L33, k33, n33⟩, -, X33, ⟨Lc33, hQ33, l33, y33, z33⟩, st33⟩ := Jvm.LawKit.callS X25 hx (y := Y1) hown (mvT hZ (qw hw 12 rfl)) (mvT hZ (qw hw 13 rfl)) (mvT hZ (qw hw 8 rfl)) (mvT hZ (qw hw 14 rfl)) (by decide) (backOf (W := 2) (rm3 l Z a0 hw [] x0  h25 n0 Z_29 ) hZ (qw hw 14 rfl) (qw hw 8 rfl) (by decide) (by decide)) (g := (mkF m 18 #[iv x0] [.int x0, .ref b25, .ref b25])) rfl (by rw [hml]; rfl) (argsL := [.int x0]) (rest := [.ref b25, .ref b25]) (lenOf own_pd1 rfl) rfl (Nat.le_of_eq rfl) (hb hby d1_18) (fun _ _ => ⟨rfl, e25, (by decide : 1 + 1 ≤ _), (by decide : 4 + 1 ≤ _)⟩)
 dsimp only [Pt.U, Pt.locs, Pt.cells, Pt.slots] at X33 l33 y33 z33 st33 hQ33
 subst l33 y33 z33
 obtain ⟨b33, rfl, Nq33, K33, gz33, qx33⟩ := hQ33
 have ne_34 : b25 ≠ b33 := Nat.ne_of_lt (Nat.lt_of_lt_of_le A25.lt gz33)
 have sz_36 : h0.size ≤ b33 := Nat.le_trans KP_30.1 gz33
 obtain ⟨kv33, Vv33⟩ := qx33
 have X_38 := A25.keep K33
 have F_39 := F_31.keep K33 nin0
 have F_40 := F_32.keep K33 nin0
 have Z_41 : n0 ≤ T33.heap.size := Nat.le_trans Z_29 K33.1
 have KP_42 : Keep h0 T33.heap [] := KP_30.trans K33 all0
 have N_33 := Fr.app N0 Nq33
 refine goo (fun _ k => st33 _ k) ?_
 refine goo (fun _ k => XS.iconst X33.here hx rfl (hb hby d1_21) k) ?_
 obtain ⟨_, _, ⟨T43, L43, k43, n43⟩, -, X43, ⟨Lc43, hQ43, l43, y43, z43⟩, st43⟩ := X33.specialBack hx (y := Y2) rfl hown (mvT hZ (qw hw 16 rfl)) (mvT hZ (qw hw 17 rfl)) (mvT hZ (qw hw 19 rfl)) (by decide) (backOf (W := 1) (rm4 l Z a0 hw [] b25 b33  T33.heap n0 Z_41 X_38 ge_26 F_39 F_40) hZ (qw hw 19 rfl) (qw hw 3 rfl) (by decide) (by decide)) (g := (mkF m 22 #[iv x0] [.int i_0, .ref b33, .ref b25, .ref b25])) rfl (by rw [hml]; rfl) (Steps.refl _) (a := b25) (argsL := [.ref b33, .int i_0]) (rest := [.ref b25]) (lenOf own_pd2 rfl) rfl (Nat.le_of_eq rfl) (hb hby d1_22) (fun _ _ => ⟨rfl, rfl, (by decide : 2 + 0 ≤ _), (by decide : 5 + 0 ≤ _)⟩)
 dsimp only [Pt.U, Pt.locs, Pt.cells, Pt.slots] at X43 l43 y43 z43 st43 hQ43
 subst l43 y43 z43
 obtain ⟨rfl, Nq43, K43, G_44, G_45, G_46⟩ := hQ43
 have V_49 := Vv33.keep K43 (ninS (Ne.symm ne_34) nin0)
 have KP_51 : Keep h0 T43.heap [] := KP_42.trans K43 (allS (Or.inr sz_27) all0)
 have N_43 := Fr.app N_33 Nq43
 refine goo (fun _ k => st43.trans k) ?_
 show own_G _ _ _ _ (T43.setTop (mkF m 25 #[iv x0] [.ref b25]))
 exact own_end X43 Bd.notSynchronized (v := some (.ref b25)) (fun h => by rw [Bd.returns] at h; cases h) (Q := Q_rm1 Z x0 cz h0 n0) (by show Q_rm1 Z x0 cz h0 n0 (some (.ref b25)) T43.heap _; exact ⟨b25, rfl, N_43, KP_51, sz_27, G_44, G_46, ⟨b33, kv33, sz_36, G_45, V_49⟩⟩) (fun fs hr => own_retA X43 hx Bd.returns rfl rfl (hb hby d1_25) hr) (by decide) (by decide)
theorem d33_0 : decode jdk_41_method_11_code 0 = .ok (.iload_n 0, 1) := by decide +kernel
theorem d33_1 : decode jdk_41_method_11_code 1 = .ok (.ifCond .lt 8, 3) := by decide +kernel
theorem d33_4 : decode jdk_41_method_11_code 4 = .ok (.iload_n 0, 1) := by decide +kernel
theorem d33_5 : decode jdk_41_method_11_code 5 = .ok (.iload_n 1, 1) := by decide +kernel
theorem d33_6 : decode jdk_41_method_11_code 6 = .ok (.if_icmp .lt 10, 3) := by decide +kernel
theorem d33_16 : decode jdk_41_method_11_code 16 = .ok (.iload_n 0, 1) := by decide +kernel
theorem d33_17 : decode jdk_41_method_11_code 17 = .ok (.ireturn, 1) := by decide +kernel
theorem own_pn2 : plainName "jdk/internal/util/Preconditions" = true := by first | (simp [plainName, overriddenIn]; done) | decide +kernel
theorem ef_33_IIV (m : MethodId) (x0 : Int32) (x1 : Int32) (x2 : Value) (hr2 : x2.isRef = true) : entryFrame m #[(.int x0), (.int x1), x2] 3 = mkF m 0 #[.val (.int x0), .val (.int x1), .val x2] [] := by
  rcases own_refc hr2 with rfl | ⟨y2, rfl⟩ <;> first | (simp [entryFrame, mkF, argsToLocals, Value.category]; done) | rfl
theorem rm33 (l : Launch) (Z : State) (a0 : Array Value) (hw : own_HW a0 Z) (ws : List Jvm.Cond) (x0 : Int32) (x1 : Int32) (x2 : Value)  (h0 : Heap) (hx2 : x2.isRef = true) (h1_ : ¬ x0 < i_0) (h2_ : x0 < x1) :
  MetFree l Y4 (head1 (Jvm.Cond.code Y4 jdk_41_method_11_code 3 (some .int) :: ws) (rr 0 0 0 0)) (fun a U => a = #[.int x0, .int x1, x2] ∧ Z.Warmed39 U.vm ∧ U.heap = h0) (fun _ _ _ _ _ => True) (fun _ U o U' => ∃ v L, o = .returned v ∧ QP (some (.int x0)) h0 v U'.heap L ∧ FrameEnd U o U' L (rr 0 0 0 0).cells (rr 0 0 0 0).slots) := by
 refine MetFree.of_bodySF (plainFor_of_name own_pn2) hisR ?_
 intro p e s m args below meth c s₁ Bd hml0 hP hK
 obtain ⟨rfl, hZ, hh⟩ := hP
 have hx := Bd.exec
 have hby := Bd.bytes
 have hml : c.maxLocals = 3 := hml0
 have hown : s.vm.findClass s_1 = some m.cls := findClass_of_methodNamed Bd.named
 have hnm := (name_of_methodNamed Bd.named Bd.method).1
 have X0 : Stand p l e (rr 0 0 0 0) s m #[.int x0, .int x1, x2] below meth c s₁ [] 0 0 := Stand.of_body Bd
 have e0 : s₁.heap = h0 := by rw [← hh, Bd.state]; rfl
 show own_G _ _ _ _ (s₁.setTop (entryFrame m #[.int x0, .int x1, x2] 3))
 refine goo (fun _ k => castTop (ef_33_IIV m x0 x1 x2 hx2) k) ?_
 refine goo (fun _ k => XS.iloadN X0.here hx rfl (hb hby d33_0) rfl <| XS.ifNo X0.here hx rfl (hb hby d33_1) rfl (((if0 _ _).trans (flt h1_).1)) <| XS.iloadN X0.here hx rfl (hb hby d33_4) rfl <| XS.iloadN X0.here hx rfl (hb hby d33_5) rfl k) ?_
 refine goo (fun _ k => XS.icmpYes X0.here hx rfl (pc0 := 6) (pc' := 16) rfl (hb hby d33_6) rfl ((tlt h2_).1) (by decide) (by decide) k) ?_
 show own_G _ _ _ _ (s₁.setTop (mkF m 16 #[iv x0, iv x1, .val x2] []))
 refine goo (fun _ k => XS.iloadN X0.here hx rfl (hb hby d33_16) rfl k) ?_
 show own_G _ _ _ _ (s₁.setTop (mkF m 17 #[iv x0, iv x1, .val x2] [.int x0]))
 exact own_end X0 Bd.notSynchronized (v := some (.int x0)) (fun h => by rw [Bd.returns] at h; cases h) (Q := QP (some (.int x0)) h0) ⟨rfl, rfl, e0⟩ (fun fs hr => retI X0 hx Bd.returns (hb hby d33_17) hr) (by decide) (by decide)
theorem own_pd3 : parseMethodDescriptor "(IILjava/util/function/BiFunction;)I" = some ⟨[.int, .int, (.object "java/util/function/BiFunction")], some .int⟩ := by decide +kernel
theorem d32_0 : decode jdk_42_method_155_code 0 = .ok (.iload_n 0, 1) := by decide +kernel
theorem d32_1 : decode jdk_42_method_155_code 1 = .ok (.iload_n 1, 1) := by decide +kernel
theorem d32_2 : decode jdk_42_method_155_code 2 = .ok (.getstatic 1053, 3) := by decide +kernel
theorem d32_5 : decode jdk_42_method_155_code 5 = .ok (.invokestatic 1059, 3) := by decide +kernel
theorem d32_8 : decode jdk_42_method_155_code 8 = .ok (.pop, 1) := by decide +kernel
theorem d32_9 : decode jdk_42_method_155_code 9 = .ok (.return_, 1) := by decide +kernel
theorem ef_32_II (m : MethodId) (x0 : Int32) (x1 : Int32) : entryFrame m #[(.int x0), (.int x1)] 2 = mkF m 0 #[.val (.int x0), .val (.int x1)] [] := by
  first | (simp [entryFrame, mkF, argsToLocals, Value.category]; done) | rfl
theorem rm32 (l : Launch) (Z : State) (a0 : Array Value) (hw : own_HW a0 Z) (ws : List Jvm.Cond) (x0 : Int32) (x1 : Int32)  (fz : Value) (h0 : Heap) (Sf : Sta Z h0 s_1 "SIOOBE_FORMATTER" "Ljava/util/function/BiFunction;" fz) (hfz : fz.isRef = true) (h1_ : ¬ x0 < i_0) (h2_ : x0 < x1) :
  MetFree l Y5 (head1 (Jvm.Cond.code Y5 jdk_42_method_155_code 2 none :: ws) (rr 1 0 0 14)) (fun a U => a = #[.int x0, .int x1] ∧ Z.Warmed39 U.vm ∧ U.heap = h0) (fun _ _ _ _ _ => True) (fun _ U o U' => ∃ v L, o = .returned v ∧ QP (none) h0 v U'.heap L ∧ FrameEnd U o U' L (rr 1 0 0 14).cells (rr 1 0 0 14).slots) := by
 refine MetFree.of_bodySF (plainFor_of_name own_pn1) hisR ?_
 intro p e s m args below meth c s₁ Bd hml0 hP hK
 obtain ⟨rfl, hZ, hh⟩ := hP
 have hx := Bd.exec
 have hby := Bd.bytes
 have hml : c.maxLocals = 2 := hml0
 have hown : s.vm.findClass s_0 = some m.cls := findClass_of_methodNamed Bd.named
 have hnm := (name_of_methodNamed Bd.named Bd.method).1
 have X0 : Stand p l e (rr 1 0 0 14) s m #[.int x0, .int x1] below meth c s₁ [] 0 0 := Stand.of_body Bd
 have e0 : s₁.heap = h0 := by rw [← hh, Bd.state]; rfl
 show own_G _ _ _ _ (s₁.setTop (entryFrame m #[.int x0, .int x1] 2))
 refine goo (fun _ k => castTop (ef_32_II m x0 x1) k) ?_
 refine goo (fun _ k => XS.iloadN X0.here hx rfl (hb hby d32_0) rfl <| XS.iloadN X0.here hx rfl (hb hby d32_1) rfl k) ?_
 obtain ⟨T52, X52, e52, st52⟩ := getS2 X0 hx hZ hown (host := "") (Or.inl (qw hw 115 rfl)) Via.refl e0 Sf (g := (mkF m 2 #[iv x0, iv x1] [.int x1, .int x0])) rfl (hb hby d32_2)
 refine goo st52 ?_
 obtain ⟨T53, X53, e53, st53⟩ := own_callP X52 hx hZ (y := Y4) hown (qw hw 170 rfl) (qw hw 171 rfl) (qw hw 116 rfl) (qw hw 172 rfl) (by decide) (W := 0) (rm33 l Z a0 hw [] x0 x1 fz  h0 hfz h1_ h2_) (by decide) (by decide) rfl rfl e52 (g := (mkF m 5 #[iv x0, iv x1] [fz, .int x1, .int x0])) rfl (by rw [hml]; rfl) (argsL := [.int x0, .int x1, fz]) (rest := []) (lenOf own_pd3 rfl) rfl rfl (Nat.le_of_eq rfl) (hb hby d32_5) (by decide) (by decide)
 refine goo st53 ?_
 refine goo (fun _ k => XS.pop X53.here hx rfl (hb hby d32_8) rfl rfl k) ?_
 show own_G _ _ _ _ (T53.setTop (mkF m 9 #[iv x0, iv x1] []))
 exact own_end X53 Bd.notSynchronized (v := none) (fun _ => rfl) (Q := QP (none) h0) ⟨rfl, rfl, e53⟩ (fun fs hr => X53.returnOut hx Bd.returns (hb hby d32_9) hr) (by decide) (by decide)
theorem d30_0 : decode jdk_42_method_154_code 0 = .ok (.getstatic 38, 3) := by decide +kernel
theorem d30_3 : decode jdk_42_method_154_code 3 = .ok (.ifCond .eq 14, 3) := by decide +kernel
theorem d30_6 : decode jdk_42_method_154_code 6 = .ok (.aload_n 0, 1) := by decide +kernel
theorem d30_7 : decode jdk_42_method_154_code 7 = .ok (.getfield 15, 3) := by decide +kernel
theorem d30_10 : decode jdk_42_method_154_code 10 = .ok (.ifCond .ne 7, 3) := by decide +kernel
theorem d30_13 : decode jdk_42_method_154_code 13 = .ok (.iconst 1, 1) := by decide +kernel
theorem d30_14 : decode jdk_42_method_154_code 14 = .ok (.goto 4, 3) := by decide +kernel
theorem d30_18 : decode jdk_42_method_154_code 18 = .ok (.ireturn, 1) := by decide +kernel
theorem ef_30_R (m : MethodId) (x0 : Addr) : entryFrame m #[(.ref x0)] 1 = mkF m 0 #[.val (.ref x0)] [] := by
  first | (simp [entryFrame, mkF, argsToLocals, Value.category]; done) | rfl
theorem rm30 (l : Launch) (Z : State) (a0 : Array Value) (hw : own_HW a0 Z) (ws : List Jvm.Cond) (x0 : Addr)  (cz : Int32) (h0 : Heap) (Sc : Sta Z h0 s_0 "COMPACT_STRINGS" "Z" (.int cz)) (hcz : ¬ cz = i_0) (Fc : Fld Z h0 x0 s_0 "coder" "B" (.int i_0)) :
  MetFree l Y6 (head1 (Jvm.Cond.code Y6 jdk_42_method_154_code 1 (some .boolean) :: ws) (rr 0 0 0 0)) (fun a U => a = #[.ref x0] ∧ Z.Warmed39 U.vm ∧ U.heap = h0) (fun _ _ _ _ _ => True) (fun _ U o U' => ∃ v L, o = .returned v ∧ QP (some (.int i_1)) h0 v U'.heap L ∧ FrameEnd U o U' L (rr 0 0 0 0).cells (rr 0 0 0 0).slots) := by
 refine MetFree.of_bodySF (plainFor_of_name own_pn1) hisR ?_
 intro p e s m args below meth c s₁ Bd hml0 hP hK
 obtain ⟨rfl, hZ, hh⟩ := hP
 have hx := Bd.exec
 have hby := Bd.bytes
 have hml : c.maxLocals = 1 := hml0
 have hown : s.vm.findClass s_0 = some m.cls := findClass_of_methodNamed Bd.named
 have hnm := (name_of_methodNamed Bd.named Bd.method).1
 have X0 : Stand p l e (rr 0 0 0 0) s m #[.ref x0] below meth c s₁ [] 0 0 := Stand.of_body Bd
 have e0 : s₁.heap = h0 := by rw [← hh, Bd.state]; rfl
 show own_G _ _ _ _ (s₁.setTop (entryFrame m #[.ref x0] 1))
 refine goo (fun _ k => castTop (ef_30_R m x0) k) ?_
 obtain ⟨T54, X54, e54, st54⟩ := getS2 X0 hx hZ hown (host := "") (Or.inl (qw hw 5 rfl)) Via.refl e0 Sc (g := (mkF m 0 #[rv x0] [])) rfl (hb hby d30_0)
 refine goo st54 ?_
 refine goo (fun _ k => XS.ifNo X54.here hx rfl (hb hby d30_3) rfl (((if0 _ _).trans (feq hcz).1)) <| XS.aloadN X54.here hx rfl (hb hby d30_6) rfl rfl k) ?_
 obtain ⟨T55, X55, e55, st55⟩ := getF X54 hx hZ hown (host := "") (Or.inl (qw hw 25 rfl)) Via.refl e54 Fc (g := (mkF m 7 #[rv x0] [.ref x0])) rfl rfl (hb hby d30_7)
 refine goo st55 ?_
 refine goo (fun _ k => XS.ifNo X55.here hx rfl (hb hby d30_10) rfl (((if0 _ _).trans (teq (by decide : i_0 = i_0)).2)) k) ?_
 show own_G _ _ _ _ (T55.setTop (mkF m 13 #[rv x0] []))
 refine goo (fun _ k => XS.iconst X55.here hx rfl (hb hby d30_13) <| XS.goto X55.here hx rfl (pc0 := 14) (pc' := 18) rfl (hb hby d30_14) (by decide) (by decide) k) ?_
 show own_G _ _ _ _ (T55.setTop (mkF m 18 #[rv x0] [.int i_1]))
 exact own_end X55 Bd.notSynchronized (v := some (.int (nar .boolean i_1))) (fun h => by rw [Bd.returns] at h; cases h) (Q := QP (some (.int i_1)) h0) ⟨rfl, rfl, e55⟩ (fun fs hr => retN X55 hx (t := .boolean) Bd.returns (by simp) (hb hby d30_18) hr) (by decide) (by decide)
theorem d27_0 : decode jdk_42_method_152_code 0 = .ok (.getstatic 38, 3) := by decide +kernel
theorem d27_3 : decode jdk_42_method_152_code 3 = .ok (.ifCond .eq 10, 3) := by decide +kernel
theorem d27_6 : decode jdk_42_method_152_code 6 = .ok (.aload_n 0, 1) := by decide +kernel
theorem d27_7 : decode jdk_42_method_152_code 7 = .ok (.getfield 15, 3) := by decide +kernel
theorem d27_10 : decode jdk_42_method_152_code 10 = .ok (.goto 4, 3) := by decide +kernel
theorem d27_14 : decode jdk_42_method_152_code 14 = .ok (.ireturn, 1) := by decide +kernel
theorem ef_27_R (m : MethodId) (x0 : Addr) : entryFrame m #[(.ref x0)] 1 = mkF m 0 #[.val (.ref x0)] [] := by
  first | (simp [entryFrame, mkF, argsToLocals, Value.category]; done) | rfl
theorem rm27 (l : Launch) (Z : State) (a0 : Array Value) (hw : own_HW a0 Z) (ws : List Jvm.Cond) (x0 : Addr)  (cz : Int32) (h0 : Heap) (Sc : Sta Z h0 s_0 "COMPACT_STRINGS" "Z" (.int cz)) (hcz : ¬ cz = i_0) (Fc : Fld Z h0 x0 s_0 "coder" "B" (.int i_0)) :
  MetFree l Y7 (head1 (Jvm.Cond.code Y7 jdk_42_method_152_code 1 (some .byte) :: ws) (rr 0 0 0 0)) (fun a U => a = #[.ref x0] ∧ Z.Warmed39 U.vm ∧ U.heap = h0) (fun _ _ _ _ _ => True) (fun _ U o U' => ∃ v L, o = .returned v ∧ QP (some (.int i_0)) h0 v U'.heap L ∧ FrameEnd U o U' L (rr 0 0 0 0).cells (rr 0 0 0 0).slots) := by
 refine MetFree.of_bodySF (plainFor_of_name own_pn1) hisR ?_
 intro p e s m args below meth c s₁ Bd hml0 hP hK
 obtain ⟨rfl, hZ, hh⟩ := hP
 have hx := Bd.exec
 have hby := Bd.bytes
 have hml : c.maxLocals = 1 := hml0
 have hown : s.vm.findClass s_0 = some m.cls := findClass_of_methodNamed Bd.named
 have hnm := (name_of_methodNamed Bd.named Bd.method).1
 have X0 : Stand p l e (rr 0 0 0 0) s m #[.ref x0] below meth c s₁ [] 0 0 := Stand.of_body Bd
 have e0 : s₁.heap = h0 := by rw [← hh, Bd.state]; rfl
 show own_G _ _ _ _ (s₁.setTop (entryFrame m #[.ref x0] 1))
 refine goo (fun _ k => castTop (ef_27_R m x0) k) ?_
 obtain ⟨T56, X56, e56, st56⟩ := getS2 X0 hx hZ hown (host := "") (Or.inl (qw hw 5 rfl)) Via.refl e0 Sc (g := (mkF m 0 #[rv x0] [])) rfl (hb hby d27_0)
 refine goo st56 ?_
 refine goo (fun _ k => XS.ifNo X56.here hx rfl (hb hby d27_3) rfl (((if0 _ _).trans (feq hcz).1)) <| XS.aloadN X56.here hx rfl (hb hby d27_6) rfl rfl k) ?_
 obtain ⟨T57, X57, e57, st57⟩ := getF X56 hx hZ hown (host := "") (Or.inl (qw hw 25 rfl)) Via.refl e56 Fc (g := (mkF m 7 #[rv x0] [.ref x0])) rfl rfl (hb hby d27_7)
 refine goo st57 ?_
 refine goo (fun _ k => XS.goto X57.here hx rfl (pc0 := 10) (pc' := 14) rfl (hb hby d27_10) (by decide) (by decide) k) ?_
 show own_G _ _ _ _ (T57.setTop (mkF m 14 #[rv x0] [.int i_0]))
 exact own_end X57 Bd.notSynchronized (v := some (.int (nar .byte i_0))) (fun h => by rw [Bd.returns] at h; cases h) (Q := QP (some (.int i_0)) h0) ⟨rfl, rfl, e57⟩ (fun fs hr => retN X57 hx (t := .byte) Bd.returns (by simp) (hb hby d27_14) hr) (by decide) (by decide)
theorem own_pd4 : parseMethodDescriptor "(II)V" = some ⟨[.int, .int], none⟩ := by decide +kernel
theorem d31_0 : decode jdk_43_method_2_code 0 = .ok (.iload_n 1, 1) := by decide +kernel
theorem d31_1 : decode jdk_43_method_2_code 1 = .ok (.aload_n 0, 1) := by decide +kernel
theorem d31_2 : decode jdk_43_method_2_code 2 = .ok (.arraylength, 1) := by decide +kernel
theorem d31_3 : decode jdk_43_method_2_code 3 = .ok (.invokestatic 9, 3) := by decide +kernel
theorem d31_6 : decode jdk_43_method_2_code 6 = .ok (.aload_n 0, 1) := by decide +kernel
theorem d31_7 : decode jdk_43_method_2_code 7 = .ok (.iload_n 1, 1) := by decide +kernel
theorem d31_8 : decode jdk_43_method_2_code 8 = .ok (.baload, 1) := by decide +kernel
theorem d31_9 : decode jdk_43_method_2_code 9 = .ok (.sipush 255, 3) := by decide +kernel
theorem d31_12 : decode jdk_43_method_2_code 12 = .ok (.iand, 1) := by decide +kernel
theorem d31_13 : decode jdk_43_method_2_code 13 = .ok (.i2c, 1) := by decide +kernel
theorem d31_14 : decode jdk_43_method_2_code 14 = .ok (.ireturn, 1) := by decide +kernel
theorem ef_31_RI (m : MethodId) (x0 : Addr) (x1 : Int32) : entryFrame m #[(.ref x0), (.int x1)] 2 = mkF m 0 #[.val (.ref x0), .val (.int x1)] [] := by
  first | (simp [entryFrame, mkF, argsToLocals, Value.category]; done) | rfl
theorem rm_lch10 (l : Launch) (Z : State) (a0 : Array Value) (hw : own_HW a0 Z) (ws : List Jvm.Cond) (x0 : Addr)  (fz : Value) (kb : ClassId) (c0 : Int32) (h0 : Heap) (Sf : Sta Z h0 s_1 "SIOOBE_FORMATTER" "Ljava/util/function/BiFunction;" fz) (hfz : fz.isRef = true) (Vb : Arv Z h0 x0 kb .byte i_1 [.int (own_by c0)] (.int i_0)) (hk : own_ok c0) :
  MetFree l Y8 (head1 (Jvm.Cond.code Y8 jdk_43_method_2_code 2 (some .char) :: ws) (rr 2 0 0 27)) (fun a U => a = #[.ref x0, .int i_0] ∧ Z.Warmed39 U.vm ∧ U.heap = h0) (fun _ _ _ _ _ => True) (fun _ U o U' => ∃ v L, o = .returned v ∧ QP (some (.int c0)) h0 v U'.heap L ∧ FrameEnd U o U' L (rr 2 0 0 27).cells (rr 2 0 0 27).slots) := by
 refine MetFree.of_bodySF (plainFor_of_name own_pn0) hisR ?_
 intro p e s m args below meth c s₁ Bd hml0 hP hK
 obtain ⟨rfl, hZ, hh⟩ := hP
 have hx := Bd.exec
 have hby := Bd.bytes
 have hml : c.maxLocals = 2 := hml0
 have hown : s.vm.findClass "java/lang/StringLatin1" = some m.cls := findClass_of_methodNamed Bd.named
 have hnm := (name_of_methodNamed Bd.named Bd.method).1
 have X0 : Stand p l e (rr 2 0 0 27) s m #[.ref x0, .int i_0] below meth c s₁ [] 0 0 := Stand.of_body Bd
 have e0 : s₁.heap = h0 := by rw [← hh, Bd.state]; rfl
 show own_G _ _ _ _ (s₁.setTop (entryFrame m #[.ref x0, .int i_0] 2))
 refine goo (fun _ k => castTop (ef_31_RI m x0 i_0) k) ?_
 refine goo (fun _ k => XS.iloadN X0.here hx rfl (hb hby d31_0) rfl <| XS.aloadN X0.here hx rfl (hb hby d31_1) rfl rfl k) ?_
 obtain ⟨cl58, Ar58, -, S58, N58, -, -⟩ := id Vb
 refine goo (fun _ k => X0.arraylength hx (cell := cl58) (by rw [e0]; exact Ar58.1) (State.isArrayOf_alike hZ.alike Ar58.2.1) (g := (mkF m 2 #[rv x0, iv i_0] [.ref x0, .int i_0])) rfl rfl (hb hby d31_2) _ (by rw [len_of S58 N58]; exact k)) ?_
 obtain ⟨T59, X59, e59, st59⟩ := own_callP X0 hx hZ (y := Y5) hown (qw hw 167 rfl) (qw hw 168 rfl) (qw hw 3 rfl) (qw hw 169 rfl) (by decide) (W := 0) (rm32 l Z a0 hw [] i_0 i_1 fz h0 Sf hfz (by decide) (by decide)) (by decide) (by decide) rfl rfl e0 (g := (mkF m 3 #[rv x0, iv i_0] [.int i_1, .int i_0])) rfl (by rw [hml]; rfl) (argsL := [.int i_0, .int i_1]) (rest := []) (lenOf own_pd4 rfl) rfl rfl (Nat.le_of_eq rfl) (hb hby d31_3) (by decide) (by decide)
 refine goo st59 ?_
 refine goo (fun _ k => XS.aloadN X59.here hx rfl (hb hby d31_6) rfl rfl k) ?_
 show own_G _ _ _ _ (T59.setTop (mkF m 7 #[rv x0, iv i_0] [.ref x0]))
 refine goo (fun _ k => XS.iloadN X59.here hx rfl (hb hby d31_7) rfl k) ?_
 obtain ⟨cl60, Ar60, -, S60, -, H60, -⟩ := id Vb
 have hin60 := inb_of S60 (j := i_0) ⟨by decide, by decide⟩
 refine goo (fun _ k => X59.baloadBytes hx (j := i_0) (v := (.int (own_by c0))) (by rw [e59]; exact Ar60.1) (State.isArrayOf_alike hZ.alike Ar60.2.1) Ar60.2.2 hin60 (H60.at hin60 rfl) (g := (mkF m 8 #[rv x0, iv i_0] [.int i_0, .ref x0])) rfl rfl (hb hby d31_8) _ k) ?_
 refine goo (fun _ k => XS.sipush X59.here hx rfl (hb hby d31_9) <| XS.iand X59.here hx rfl (hb hby d31_12) rfl <| XS.i2c X59.here hx rfl (hb hby d31_13) rfl k) ?_
 show own_G _ _ _ _ (T59.setTop (mkF m 14 #[rv x0, iv i_0] [(.int (((own_by c0) &&& i_255).toUInt32.toUInt16.toUInt32.toInt32))]))
 exact own_end X59 Bd.notSynchronized (v := some (.int (nar .char (((own_by c0) &&& i_255).toUInt32.toUInt16.toUInt32.toInt32)))) (fun h => by rw [Bd.returns] at h; cases h) (Q := QP (some (.int c0)) h0) ⟨congrArg (fun z => some (Value.int z)) (own_chr hk), rfl, e59⟩ (fun fs hr => retN X59 hx (t := .char) Bd.returns (by simp) (hb hby d31_14) hr) (by decide) (by decide)
theorem rm_lch20 (l : Launch) (Z : State) (a0 : Array Value) (hw : own_HW a0 Z) (ws : List Jvm.Cond) (x0 : Addr)  (fz : Value) (kb : ClassId) (c0 c1 : Int32) (h0 : Heap) (Sf : Sta Z h0 s_1 "SIOOBE_FORMATTER" "Ljava/util/function/BiFunction;" fz) (hfz : fz.isRef = true) (Vb : Arv Z h0 x0 kb .byte i_2 [.int (own_by c0), .int (own_by c1)] (.int i_0)) (hk : own_ok c0) :
  MetFree l Y8 (head1 (Jvm.Cond.code Y8 jdk_43_method_2_code 2 (some .char) :: ws) (rr 2 0 0 27)) (fun a U => a = #[.ref x0, .int i_0] ∧ Z.Warmed39 U.vm ∧ U.heap = h0) (fun _ _ _ _ _ => True) (fun _ U o U' => ∃ v L, o = .returned v ∧ QP (some (.int c0)) h0 v U'.heap L ∧ FrameEnd U o U' L (rr 2 0 0 27).cells (rr 2 0 0 27).slots) := by
 refine MetFree.of_bodySF (plainFor_of_name own_pn0) hisR ?_
 intro p e s m args below meth c s₁ Bd hml0 hP hK
 obtain ⟨rfl, hZ, hh⟩ := hP
 have hx := Bd.exec
 have hby := Bd.bytes
 have hml : c.maxLocals = 2 := hml0
 have hown : s.vm.findClass "java/lang/StringLatin1" = some m.cls := findClass_of_methodNamed Bd.named
 have hnm := (name_of_methodNamed Bd.named Bd.method).1
 have X0 : Stand p l e (rr 2 0 0 27) s m #[.ref x0, .int i_0] below meth c s₁ [] 0 0 := Stand.of_body Bd
 have e0 : s₁.heap = h0 := by rw [← hh, Bd.state]; rfl
 show own_G _ _ _ _ (s₁.setTop (entryFrame m #[.ref x0, .int i_0] 2))
 refine goo (fun _ k => castTop (ef_31_RI m x0 i_0) k) ?_
 refine goo (fun _ k => XS.iloadN X0.here hx rfl (hb hby d31_0) rfl <| XS.aloadN X0.here hx rfl (hb hby d31_1) rfl rfl k) ?_
 obtain ⟨cl61, Ar61, -, S61, N61, -, -⟩ := id Vb
 refine goo (fun _ k => X0.arraylength hx (cell := cl61) (by rw [e0]; exact Ar61.1) (State.isArrayOf_alike hZ.alike Ar61.2.1) (g := (mkF m 2 #[rv x0, iv i_0] [.ref x0, .int i_0])) rfl rfl (hb hby d31_2) _ (by rw [len_of S61 N61]; exact k)) ?_
 obtain ⟨T62, X62, e62, st62⟩ := own_callP X0 hx hZ (y := Y5) hown (qw hw 167 rfl) (qw hw 168 rfl) (qw hw 3 rfl) (qw hw 169 rfl) (by decide) (W := 0) (rm32 l Z a0 hw [] i_0 i_2 fz h0 Sf hfz (by decide) (by decide)) (by decide) (by decide) rfl rfl e0 (g := (mkF m 3 #[rv x0, iv i_0] [.int i_2, .int i_0])) rfl (by rw [hml]; rfl) (argsL := [.int i_0, .int i_2]) (rest := []) (lenOf own_pd4 rfl) rfl rfl (Nat.le_of_eq rfl) (hb hby d31_3) (by decide) (by decide)
 refine goo st62 ?_
 refine goo (fun _ k => XS.aloadN X62.here hx rfl (hb hby d31_6) rfl rfl k) ?_
 show own_G _ _ _ _ (T62.setTop (mkF m 7 #[rv x0, iv i_0] [.ref x0]))
 refine goo (fun _ k => XS.iloadN X62.here hx rfl (hb hby d31_7) rfl k) ?_
 obtain ⟨cl63, Ar63, -, S63, -, H63, -⟩ := id Vb
 have hin63 := inb_of S63 (j := i_0) ⟨by decide, by decide⟩
 refine goo (fun _ k => X62.baloadBytes hx (j := i_0) (v := (.int (own_by c0))) (by rw [e62]; exact Ar63.1) (State.isArrayOf_alike hZ.alike Ar63.2.1) Ar63.2.2 hin63 (H63.at hin63 rfl) (g := (mkF m 8 #[rv x0, iv i_0] [.int i_0, .ref x0])) rfl rfl (hb hby d31_8) _ k) ?_
 refine goo (fun _ k => XS.sipush X62.here hx rfl (hb hby d31_9) <| XS.iand X62.here hx rfl (hb hby d31_12) rfl <| XS.i2c X62.here hx rfl (hb hby d31_13) rfl k) ?_
 show own_G _ _ _ _ (T62.setTop (mkF m 14 #[rv x0, iv i_0] [(.int (((own_by c0) &&& i_255).toUInt32.toUInt16.toUInt32.toInt32))]))
 exact own_end X62 Bd.notSynchronized (v := some (.int (nar .char (((own_by c0) &&& i_255).toUInt32.toUInt16.toUInt32.toInt32)))) (fun h => by rw [Bd.returns] at h; cases h) (Q := QP (some (.int c0)) h0) ⟨congrArg (fun z => some (Value.int z)) (own_chr hk), rfl, e62⟩ (fun fs hr => retN X62 hx (t := .char) Bd.returns (by simp) (hb hby d31_14) hr) (by decide) (by decide)
theorem rm_lch21 (l : Launch) (Z : State) (a0 : Array Value) (hw : own_HW a0 Z) (ws : List Jvm.Cond) (x0 : Addr)  (fz : Value) (kb : ClassId) (c0 c1 : Int32) (h0 : Heap) (Sf : Sta Z h0 s_1 "SIOOBE_FORMATTER" "Ljava/util/function/BiFunction;" fz) (hfz : fz.isRef = true) (Vb : Arv Z h0 x0 kb .byte i_2 [.int (own_by c0), .int (own_by c1)] (.int i_0)) (hk : own_ok c1) :
  MetFree l Y8 (head1 (Jvm.Cond.code Y8 jdk_43_method_2_code 2 (some .char) :: ws) (rr 2 0 0 27)) (fun a U => a = #[.ref x0, .int i_1] ∧ Z.Warmed39 U.vm ∧ U.heap = h0) (fun _ _ _ _ _ => True) (fun _ U o U' => ∃ v L, o = .returned v ∧ QP (some (.int c1)) h0 v U'.heap L ∧ FrameEnd U o U' L (rr 2 0 0 27).cells (rr 2 0 0 27).slots) := by
 refine MetFree.of_bodySF (plainFor_of_name own_pn0) hisR ?_
 intro p e s m args below meth c s₁ Bd hml0 hP hK
 obtain ⟨rfl, hZ, hh⟩ := hP
 have hx := Bd.exec
 have hby := Bd.bytes
 have hml : c.maxLocals = 2 := hml0
 have hown : s.vm.findClass "java/lang/StringLatin1" = some m.cls := findClass_of_methodNamed Bd.named
 have hnm := (name_of_methodNamed Bd.named Bd.method).1
 have X0 : Stand p l e (rr 2 0 0 27) s m #[.ref x0, .int i_1] below meth c s₁ [] 0 0 := Stand.of_body Bd
 have e0 : s₁.heap = h0 := by rw [← hh, Bd.state]; rfl
 show own_G _ _ _ _ (s₁.setTop (entryFrame m #[.ref x0, .int i_1] 2))
 refine goo (fun _ k => castTop (ef_31_RI m x0 i_1) k) ?_
 refine goo (fun _ k => XS.iloadN X0.here hx rfl (hb hby d31_0) rfl <| XS.aloadN X0.here hx rfl (hb hby d31_1) rfl rfl k) ?_
 obtain ⟨cl64, Ar64, -, S64, N64, -, -⟩ := id Vb
 refine goo (fun _ k => X0.arraylength hx (cell := cl64) (by rw [e0]; exact Ar64.1) (State.isArrayOf_alike hZ.alike Ar64.2.1) (g := (mkF m 2 #[rv x0, iv i_1] [.ref x0, .int i_1])) rfl rfl (hb hby d31_2) _ (by rw [len_of S64 N64]; exact k)) ?_
 obtain ⟨T65, X65, e65, st65⟩ := own_callP X0 hx hZ (y := Y5) hown (qw hw 167 rfl) (qw hw 168 rfl) (qw hw 3 rfl) (qw hw 169 rfl) (by decide) (W := 0) (rm32 l Z a0 hw [] i_1 i_2 fz h0 Sf hfz (by decide) (by decide)) (by decide) (by decide) rfl rfl e0 (g := (mkF m 3 #[rv x0, iv i_1] [.int i_2, .int i_1])) rfl (by rw [hml]; rfl) (argsL := [.int i_1, .int i_2]) (rest := []) (lenOf own_pd4 rfl) rfl rfl (Nat.le_of_eq rfl) (hb hby d31_3) (by decide) (by decide)
 refine goo st65 ?_
 refine goo (fun _ k => XS.aloadN X65.here hx rfl (hb hby d31_6) rfl rfl k) ?_
 show own_G _ _ _ _ (T65.setTop (mkF m 7 #[rv x0, iv i_1] [.ref x0]))
 refine goo (fun _ k => XS.iloadN X65.here hx rfl (hb hby d31_7) rfl k) ?_
 obtain ⟨cl66, Ar66, -, S66, -, H66, -⟩ := id Vb
 have hin66 := inb_of S66 (j := i_1) ⟨by decide, by decide⟩
 refine goo (fun _ k => X65.baloadBytes hx (j := i_1) (v := (.int (own_by c1))) (by rw [e65]; exact Ar66.1) (State.isArrayOf_alike hZ.alike Ar66.2.1) Ar66.2.2 hin66 (H66.at hin66 rfl) (g := (mkF m 8 #[rv x0, iv i_1] [.int i_1, .ref x0])) rfl rfl (hb hby d31_8) _ k) ?_
 refine goo (fun _ k => XS.sipush X65.here hx rfl (hb hby d31_9) <| XS.iand X65.here hx rfl (hb hby d31_12) rfl <| XS.i2c X65.here hx rfl (hb hby d31_13) rfl k) ?_
 show own_G _ _ _ _ (T65.setTop (mkF m 14 #[rv x0, iv i_1] [(.int (((own_by c1) &&& i_255).toUInt32.toUInt16.toUInt32.toInt32))]))
 exact own_end X65 Bd.notSynchronized (v := some (.int (nar .char (((own_by c1) &&& i_255).toUInt32.toUInt16.toUInt32.toInt32)))) (fun h => by rw [Bd.returns] at h; cases h) (Q := QP (some (.int c1)) h0) ⟨congrArg (fun z => some (Value.int z)) (own_chr hk), rfl, e65⟩ (fun fs hr => retN X65 hx (t := .char) Bd.returns (by simp) (hb hby d31_14) hr) (by decide) (by decide)
theorem own_pd5 : parseMethodDescriptor "()Z" = some ⟨[], some .boolean⟩ := by decide +kernel
theorem own_pd6 : parseMethodDescriptor "([BI)C" = some ⟨[(.array .byte), .int], some .char⟩ := by decide +kernel
theorem d29_0 : decode jdk_42_method_56_code 0 = .ok (.aload_n 0, 1) := by decide +kernel
theorem d29_1 : decode jdk_42_method_56_code 1 = .ok (.invokevirtual 492, 3) := by decide +kernel
theorem d29_4 : decode jdk_42_method_56_code 4 = .ok (.ifCond .eq 12, 3) := by decide +kernel
theorem d29_7 : decode jdk_42_method_56_code 7 = .ok (.aload_n 0, 1) := by decide +kernel
theorem d29_8 : decode jdk_42_method_56_code 8 = .ok (.getfield 9, 3) := by decide +kernel
theorem d29_11 : decode jdk_42_method_56_code 11 = .ok (.iload_n 1, 1) := by decide +kernel
theorem d29_12 : decode jdk_42_method_56_code 12 = .ok (.invokestatic 495, 3) := by decide +kernel
theorem d29_15 : decode jdk_42_method_56_code 15 = .ok (.ireturn, 1) := by decide +kernel
theorem ef_29_RI (m : MethodId) (x0 : Addr) (x1 : Int32) : entryFrame m #[(.ref x0), (.int x1)] 2 = mkF m 0 #[.val (.ref x0), .val (.int x1)] [] := by
  first | (simp [entryFrame, mkF, argsToLocals, Value.category]; done) | rfl
theorem rm_ch10 (l : Launch) (Z : State) (a0 : Array Value) (hw : own_HW a0 Z) (ws : List Jvm.Cond) (x0 : Addr)  (cz : Int32) (fz : Value) (vba : Addr) (kba : ClassId) (c0 : Int32) (h0 : Heap) (Sc : Sta Z h0 s_0 "COMPACT_STRINGS" "Z" (.int cz)) (hcz : ¬ cz = i_0) (Sf : Sta Z h0 s_1 "SIOOBE_FORMATTER" "Ljava/util/function/BiFunction;" fz) (hfz : fz.isRef = true) (Xs : Exa Z h0 x0 s_0) (Fca : Fld Z h0 x0 s_0 "coder" "B" (.int i_0)) (Fva : Fld Z h0 x0 s_0 "value" "[B" (.ref vba)) (Vba : Arv Z h0 vba kba .byte i_1 [.int (own_by c0)] (.int i_0)) (hk : own_ok c0) :
  MetFree l Y9 (head1 (Jvm.Cond.code Y9 jdk_42_method_56_code 2 (some .char) :: ws) (rr 3 0 0 40)) (fun a U => a = #[.ref x0, .int i_0] ∧ Z.Warmed39 U.vm ∧ U.heap = h0) (fun _ _ _ _ _ => True) (fun _ U o U' => ∃ v L, o = .returned v ∧ QP (some (.int c0)) h0 v U'.heap L ∧ FrameEnd U o U' L (rr 3 0 0 40).cells (rr 3 0 0 40).slots) := by
 refine MetFree.of_bodySF (plainFor_of_name own_pn1) hisR ?_
 intro p e s m args below meth c s₁ Bd hml0 hP hK
 obtain ⟨rfl, hZ, hh⟩ := hP
 have hx := Bd.exec
 have hby := Bd.bytes
 have hml : c.maxLocals = 2 := hml0
 have hown : s.vm.findClass s_0 = some m.cls := findClass_of_methodNamed Bd.named
 have hnm := (name_of_methodNamed Bd.named Bd.method).1
 have X0 : Stand p l e (rr 3 0 0 40) s m #[.ref x0, .int i_0] below meth c s₁ [] 0 0 := Stand.of_body Bd
 have e0 : s₁.heap = h0 := by rw [← hh, Bd.state]; rfl
 show own_G _ _ _ _ (s₁.setTop (entryFrame m #[.ref x0, .int i_0] 2))
 refine goo (fun _ k => castTop (ef_29_RI m x0 i_0) k) ?_
 refine goo (fun _ k => XS.aloadN X0.here hx rfl (hb hby d29_0) rfl rfl k) ?_
 obtain ⟨T67, X67, e67, st67⟩ := own_callV X0 hx hZ (y := Y6) hown (qw hw 159 rfl) (qw hw 160 rfl) (qw hw 162 rfl) (qw hw 161 rfl) (qw hw 3 rfl) (qw hw 163 rfl) (by decide) (W := 0) (rm30 l Z a0 hw [] x0 cz h0 Sc hcz Fca) (by decide) (by decide) rfl rfl e0 Xs (g := (mkF m 1 #[rv x0, iv i_0] [.ref x0])) rfl (by rw [hml]; rfl) (argsL := []) (rest := []) (lenOf own_pd5 rfl) rfl rfl (Nat.le_of_eq rfl) (hb hby d29_1) (by decide) (by decide)
 refine goo st67 ?_
 refine goo (fun _ k => XS.ifNo X67.here hx rfl (hb hby d29_4) rfl (((if0 _ _).trans (feq (by decide : ¬ (i_1 = i_0))).1)) <| XS.aloadN X67.here hx rfl (hb hby d29_7) rfl rfl k) ?_
 obtain ⟨T68, X68, e68, st68⟩ := getF X67 hx hZ hown (host := "") (Or.inl (qw hw 23 rfl)) Via.refl e67 Fva (g := (mkF m 8 #[rv x0, iv i_0] [.ref x0])) rfl rfl (hb hby d29_8)
 refine goo st68 ?_
 show own_G _ _ _ _ (T68.setTop (mkF m 11 #[rv x0, iv i_0] [.ref vba]))
 refine goo (fun _ k => XS.iloadN X68.here hx rfl (hb hby d29_11) rfl k) ?_
 obtain ⟨T69, X69, e69, st69⟩ := own_callP X68 hx hZ (y := Y8) hown (qw hw 164 rfl) (qw hw 165 rfl) (qw hw 8 rfl) (qw hw 166 rfl) (by decide) (W := 0) (rm_lch10 l Z a0 hw [] vba fz kba c0 h0 Sf hfz Vba hk) (by decide) (by decide) rfl rfl e68 (g := (mkF m 12 #[rv x0, iv i_0] [.int i_0, .ref vba])) rfl (by rw [hml]; rfl) (argsL := [.ref vba, .int i_0]) (rest := []) (lenOf own_pd6 rfl) rfl rfl (Nat.le_of_eq rfl) (hb hby d29_12) (by decide) (by decide)
 refine goo st69 ?_
 show own_G _ _ _ _ (T69.setTop (mkF m 15 #[rv x0, iv i_0] [.int c0]))
 exact own_end X69 Bd.notSynchronized (v := some (.int (nar .char c0))) (fun h => by rw [Bd.returns] at h; cases h) (Q := QP (some (.int c0)) h0) ⟨congrArg (fun z => some (Value.int z)) (own_nar hk), rfl, e69⟩ (fun fs hr => retN X69 hx (t := .char) Bd.returns (by simp) (hb hby d29_15) hr) (by decide) (by decide)
theorem own_pd7 : parseMethodDescriptor "()B" = some ⟨[], some .byte⟩ := by decide +kernel
theorem d26_0 : decode jdk_42_method_54_code 0 = .ok (.aload_n 0, 1) := by decide +kernel
theorem d26_1 : decode jdk_42_method_54_code 1 = .ok (.getfield 9, 3) := by decide +kernel
theorem d26_4 : decode jdk_42_method_54_code 4 = .ok (.arraylength, 1) := by decide +kernel
theorem d26_5 : decode jdk_42_method_54_code 5 = .ok (.aload_n 0, 1) := by decide +kernel
theorem d26_6 : decode jdk_42_method_54_code 6 = .ok (.invokevirtual 335, 3) := by decide +kernel
theorem d26_9 : decode jdk_42_method_54_code 9 = .ok (.ishr, 1) := by decide +kernel
theorem d26_10 : decode jdk_42_method_54_code 10 = .ok (.ireturn, 1) := by decide +kernel
theorem ef_26_R (m : MethodId) (x0 : Addr) : entryFrame m #[(.ref x0)] 1 = mkF m 0 #[.val (.ref x0)] [] := by
  first | (simp [entryFrame, mkF, argsToLocals, Value.category]; done) | rfl
theorem rm_len1 (l : Launch) (Z : State) (a0 : Array Value) (hw : own_HW a0 Z) (ws : List Jvm.Cond) (x0 : Addr)  (cz : Int32) (vba : Addr) (kba : ClassId) (c0 : Int32) (h0 : Heap) (Sc : Sta Z h0 s_0 "COMPACT_STRINGS" "Z" (.int cz)) (hcz : ¬ cz = i_0) (Xs : Exa Z h0 x0 s_0) (Fca : Fld Z h0 x0 s_0 "coder" "B" (.int i_0)) (Fva : Fld Z h0 x0 s_0 "value" "[B" (.ref vba)) (Vba : Arv Z h0 vba kba .byte i_1 [.int (own_by c0)] (.int i_0)) :
  MetFree l Y10 (head1 (Jvm.Cond.code Y10 jdk_42_method_54_code 1 (some .int) :: ws) (rr 1 0 0 13)) (fun a U => a = #[.ref x0] ∧ Z.Warmed39 U.vm ∧ U.heap = h0) (fun _ _ _ _ _ => True) (fun _ U o U' => ∃ v L, o = .returned v ∧ QP (some (.int i_1)) h0 v U'.heap L ∧ FrameEnd U o U' L (rr 1 0 0 13).cells (rr 1 0 0 13).slots) := by
 refine MetFree.of_bodySF (plainFor_of_name own_pn1) hisR ?_
 intro p e s m args below meth c s₁ Bd hml0 hP hK
 obtain ⟨rfl, hZ, hh⟩ := hP
 have hx := Bd.exec
 have hby := Bd.bytes
 have hml : c.maxLocals = 1 := hml0
 have hown : s.vm.findClass s_0 = some m.cls := findClass_of_methodNamed Bd.named
 have hnm := (name_of_methodNamed Bd.named Bd.method).1
 have X0 : Stand p l e (rr 1 0 0 13) s m #[.ref x0] below meth c s₁ [] 0 0 := Stand.of_body Bd
 have e0 : s₁.heap = h0 := by rw [← hh, Bd.state]; rfl
 show own_G _ _ _ _ (s₁.setTop (entryFrame m #[.ref x0] 1))
 refine goo (fun _ k => castTop (ef_26_R m x0) k) ?_
 refine goo (fun _ k => XS.aloadN X0.here hx rfl (hb hby d26_0) rfl rfl k) ?_
 obtain ⟨T70, X70, e70, st70⟩ := getF X0 hx hZ hown (host := "") (Or.inl (qw hw 23 rfl)) Via.refl e0 Fva (g := (mkF m 1 #[rv x0] [.ref x0])) rfl rfl (hb hby d26_1)
 refine goo st70 ?_
 obtain ⟨cl71, Ar71, -, S71, N71, -, -⟩ := id Vba
 refine goo (fun _ k => X70.arraylength hx (cell := cl71) (by rw [e70]; exact Ar71.1) (State.isArrayOf_alike hZ.alike Ar71.2.1) (g := (mkF m 4 #[rv x0] [.ref vba])) rfl rfl (hb hby d26_4) _ (by rw [len_of S71 N71]; exact k)) ?_
 refine goo (fun _ k => XS.aloadN X70.here hx rfl (hb hby d26_5) rfl rfl k) ?_
 obtain ⟨T72, X72, e72, st72⟩ := own_callV X70 hx hZ (y := Y7) hown (qw hw 142 rfl) (qw hw 143 rfl) (qw hw 145 rfl) (qw hw 144 rfl) (qw hw 3 rfl) (qw hw 146 rfl) (by decide) (W := 1) (rm27 l Z a0 hw [] x0 cz h0 Sc hcz Fca) (by decide) (by decide) rfl rfl e70 Xs (g := (mkF m 6 #[rv x0] [.ref x0, .int i_1])) rfl (by rw [hml]; rfl) (argsL := []) (rest := [.int i_1]) (lenOf own_pd7 rfl) rfl rfl (Nat.le_of_eq rfl) (hb hby d26_6) (by decide) (by decide)
 refine goo st72 ?_
 show own_G _ _ _ _ (T72.setTop (mkF m 9 #[rv x0] [.int i_0, .int i_1]))
 refine goo (fun _ k => XS.ishr X72.here hx rfl (hb hby d26_9) rfl k) ?_
 show own_G _ _ _ _ (T72.setTop (mkF m 10 #[rv x0] [.int i_1]))
 exact own_end X72 Bd.notSynchronized (v := some (.int i_1)) (fun h => by rw [Bd.returns] at h; cases h) (Q := QP (some (.int i_1)) h0) ⟨rfl, rfl, e72⟩ (fun fs hr => retI X72 hx Bd.returns (hb hby d26_10) hr) (by decide) (by decide)
theorem rm_ch20 (l : Launch) (Z : State) (a0 : Array Value) (hw : own_HW a0 Z) (ws : List Jvm.Cond) (x0 : Addr)  (cz : Int32) (fz : Value) (vba : Addr) (kba : ClassId) (c0 c1 : Int32) (h0 : Heap) (Sc : Sta Z h0 s_0 "COMPACT_STRINGS" "Z" (.int cz)) (hcz : ¬ cz = i_0) (Sf : Sta Z h0 s_1 "SIOOBE_FORMATTER" "Ljava/util/function/BiFunction;" fz) (hfz : fz.isRef = true) (Xs : Exa Z h0 x0 s_0) (Fca : Fld Z h0 x0 s_0 "coder" "B" (.int i_0)) (Fva : Fld Z h0 x0 s_0 "value" "[B" (.ref vba)) (Vba : Arv Z h0 vba kba .byte i_2 [.int (own_by c0), .int (own_by c1)] (.int i_0)) (hk : own_ok c0) :
  MetFree l Y9 (head1 (Jvm.Cond.code Y9 jdk_42_method_56_code 2 (some .char) :: ws) (rr 3 0 0 40)) (fun a U => a = #[.ref x0, .int i_0] ∧ Z.Warmed39 U.vm ∧ U.heap = h0) (fun _ _ _ _ _ => True) (fun _ U o U' => ∃ v L, o = .returned v ∧ QP (some (.int c0)) h0 v U'.heap L ∧ FrameEnd U o U' L (rr 3 0 0 40).cells (rr 3 0 0 40).slots) := by
 refine MetFree.of_bodySF (plainFor_of_name own_pn1) hisR ?_
 intro p e s m args below meth c s₁ Bd hml0 hP hK
 obtain ⟨rfl, hZ, hh⟩ := hP
 have hx := Bd.exec
 have hby := Bd.bytes
 have hml : c.maxLocals = 2 := hml0
 have hown : s.vm.findClass s_0 = some m.cls := findClass_of_methodNamed Bd.named
 have hnm := (name_of_methodNamed Bd.named Bd.method).1
 have X0 : Stand p l e (rr 3 0 0 40) s m #[.ref x0, .int i_0] below meth c s₁ [] 0 0 := Stand.of_body Bd
 have e0 : s₁.heap = h0 := by rw [← hh, Bd.state]; rfl
 show own_G _ _ _ _ (s₁.setTop (entryFrame m #[.ref x0, .int i_0] 2))
 refine goo (fun _ k => castTop (ef_29_RI m x0 i_0) k) ?_
 refine goo (fun _ k => XS.aloadN X0.here hx rfl (hb hby d29_0) rfl rfl k) ?_
 obtain ⟨T73, X73, e73, st73⟩ := own_callV X0 hx hZ (y := Y6) hown (qw hw 159 rfl) (qw hw 160 rfl) (qw hw 162 rfl) (qw hw 161 rfl) (qw hw 3 rfl) (qw hw 163 rfl) (by decide) (W := 0) (rm30 l Z a0 hw [] x0 cz h0 Sc hcz Fca) (by decide) (by decide) rfl rfl e0 Xs (g := (mkF m 1 #[rv x0, iv i_0] [.ref x0])) rfl (by rw [hml]; rfl) (argsL := []) (rest := []) (lenOf own_pd5 rfl) rfl rfl (Nat.le_of_eq rfl) (hb hby d29_1) (by decide) (by decide)
 refine goo st73 ?_
 refine goo (fun _ k => XS.ifNo X73.here hx rfl (hb hby d29_4) rfl (((if0 _ _).trans (feq (by decide : ¬ (i_1 = i_0))).1)) <| XS.aloadN X73.here hx rfl (hb hby d29_7) rfl rfl k) ?_
 obtain ⟨T74, X74, e74, st74⟩ := getF X73 hx hZ hown (host := "") (Or.inl (qw hw 23 rfl)) Via.refl e73 Fva (g := (mkF m 8 #[rv x0, iv i_0] [.ref x0])) rfl rfl (hb hby d29_8)
 refine goo st74 ?_
 show own_G _ _ _ _ (T74.setTop (mkF m 11 #[rv x0, iv i_0] [.ref vba]))
 refine goo (fun _ k => XS.iloadN X74.here hx rfl (hb hby d29_11) rfl k) ?_
 obtain ⟨T75, X75, e75, st75⟩ := own_callP X74 hx hZ (y := Y8) hown (qw hw 164 rfl) (qw hw 165 rfl) (qw hw 8 rfl) (qw hw 166 rfl) (by decide) (W := 0) (rm_lch20 l Z a0 hw [] vba fz kba c0 c1 h0 Sf hfz Vba hk) (by decide) (by decide) rfl rfl e74 (g := (mkF m 12 #[rv x0, iv i_0] [.int i_0, .ref vba])) rfl (by rw [hml]; rfl) (argsL := [.ref vba, .int i_0]) (rest := []) (lenOf own_pd6 rfl) rfl rfl (Nat.le_of_eq rfl) (hb hby d29_12) (by decide) (by decide)
 refine goo st75 ?_
 show own_G _ _ _ _ (T75.setTop (mkF m 15 #[rv x0, iv i_0] [.int c0]))
 exact own_end X75 Bd.notSynchronized (v := some (.int (nar .char c0))) (fun h => by rw [Bd.returns] at h; cases h) (Q := QP (some (.int c0)) h0) ⟨congrArg (fun z => some (Value.int z)) (own_nar hk), rfl, e75⟩ (fun fs hr => retN X75 hx (t := .char) Bd.returns (by simp) (hb hby d29_15) hr) (by decide) (by decide)
theorem rm_ch21 (l : Launch) (Z : State) (a0 : Array Value) (hw : own_HW a0 Z) (ws : List Jvm.Cond) (x0 : Addr)  (cz : Int32) (fz : Value) (vba : Addr) (kba : ClassId) (c0 c1 : Int32) (h0 : Heap) (Sc : Sta Z h0 s_0 "COMPACT_STRINGS" "Z" (.int cz)) (hcz : ¬ cz = i_0) (Sf : Sta Z h0 s_1 "SIOOBE_FORMATTER" "Ljava/util/function/BiFunction;" fz) (hfz : fz.isRef = true) (Xs : Exa Z h0 x0 s_0) (Fca : Fld Z h0 x0 s_0 "coder" "B" (.int i_0)) (Fva : Fld Z h0 x0 s_0 "value" "[B" (.ref vba)) (Vba : Arv Z h0 vba kba .byte i_2 [.int (own_by c0), .int (own_by c1)] (.int i_0)) (hk : own_ok c1) :
  MetFree l Y9 (head1 (Jvm.Cond.code Y9 jdk_42_method_56_code 2 (some .char) :: ws) (rr 3 0 0 40)) (fun a U => a = #[.ref x0, .int i_1] ∧ Z.Warmed39 U.vm ∧ U.heap = h0) (fun _ _ _ _ _ => True) (fun _ U o U' => ∃ v L, o = .returned v ∧ QP (some (.int c1)) h0 v U'.heap L ∧ FrameEnd U o U' L (rr 3 0 0 40).cells (rr 3 0 0 40).slots) := by
 refine MetFree.of_bodySF (plainFor_of_name own_pn1) hisR ?_
 intro p e s m args below meth c s₁ Bd hml0 hP hK
 obtain ⟨rfl, hZ, hh⟩ := hP
 have hx := Bd.exec
 have hby := Bd.bytes
 have hml : c.maxLocals = 2 := hml0
 have hown : s.vm.findClass s_0 = some m.cls := findClass_of_methodNamed Bd.named
 have hnm := (name_of_methodNamed Bd.named Bd.method).1
 have X0 : Stand p l e (rr 3 0 0 40) s m #[.ref x0, .int i_1] below meth c s₁ [] 0 0 := Stand.of_body Bd
 have e0 : s₁.heap = h0 := by rw [← hh, Bd.state]; rfl
 show own_G _ _ _ _ (s₁.setTop (entryFrame m #[.ref x0, .int i_1] 2))
 refine goo (fun _ k => castTop (ef_29_RI m x0 i_1) k) ?_
 refine goo (fun _ k => XS.aloadN X0.here hx rfl (hb hby d29_0) rfl rfl k) ?_
 obtain ⟨T76, X76, e76, st76⟩ := own_callV X0 hx hZ (y := Y6) hown (qw hw 159 rfl) (qw hw 160 rfl) (qw hw 162 rfl) (qw hw 161 rfl) (qw hw 3 rfl) (qw hw 163 rfl) (by decide) (W := 0) (rm30 l Z a0 hw [] x0 cz h0 Sc hcz Fca) (by decide) (by decide) rfl rfl e0 Xs (g := (mkF m 1 #[rv x0, iv i_1] [.ref x0])) rfl (by rw [hml]; rfl) (argsL := []) (rest := []) (lenOf own_pd5 rfl) rfl rfl (Nat.le_of_eq rfl) (hb hby d29_1) (by decide) (by decide)
 refine goo st76 ?_
 refine goo (fun _ k => XS.ifNo X76.here hx rfl (hb hby d29_4) rfl (((if0 _ _).trans (feq (by decide : ¬ (i_1 = i_0))).1)) <| XS.aloadN X76.here hx rfl (hb hby d29_7) rfl rfl k) ?_
 obtain ⟨T77, X77, e77, st77⟩ := getF X76 hx hZ hown (host := "") (Or.inl (qw hw 23 rfl)) Via.refl e76 Fva (g := (mkF m 8 #[rv x0, iv i_1] [.ref x0])) rfl rfl (hb hby d29_8)
 refine goo st77 ?_
 show own_G _ _ _ _ (T77.setTop (mkF m 11 #[rv x0, iv i_1] [.ref vba]))
 refine goo (fun _ k => XS.iloadN X77.here hx rfl (hb hby d29_11) rfl k) ?_
 obtain ⟨T78, X78, e78, st78⟩ := own_callP X77 hx hZ (y := Y8) hown (qw hw 164 rfl) (qw hw 165 rfl) (qw hw 8 rfl) (qw hw 166 rfl) (by decide) (W := 0) (rm_lch21 l Z a0 hw [] vba fz kba c0 c1 h0 Sf hfz Vba hk) (by decide) (by decide) rfl rfl e77 (g := (mkF m 12 #[rv x0, iv i_1] [.int i_1, .ref vba])) rfl (by rw [hml]; rfl) (argsL := [.ref vba, .int i_1]) (rest := []) (lenOf own_pd6 rfl) rfl rfl (Nat.le_of_eq rfl) (hb hby d29_12) (by decide) (by decide)
 refine goo st78 ?_
 show own_G _ _ _ _ (T78.setTop (mkF m 15 #[rv x0, iv i_1] [.int c1]))
 exact own_end X78 Bd.notSynchronized (v := some (.int (nar .char c1))) (fun h => by rw [Bd.returns] at h; cases h) (Q := QP (some (.int c1)) h0) ⟨congrArg (fun z => some (Value.int z)) (own_nar hk), rfl, e78⟩ (fun fs hr => retN X78 hx (t := .char) Bd.returns (by simp) (hb hby d29_15) hr) (by decide) (by decide)
theorem rm_len2 (l : Launch) (Z : State) (a0 : Array Value) (hw : own_HW a0 Z) (ws : List Jvm.Cond) (x0 : Addr)  (cz : Int32) (vba : Addr) (kba : ClassId) (c0 c1 : Int32) (h0 : Heap) (Sc : Sta Z h0 s_0 "COMPACT_STRINGS" "Z" (.int cz)) (hcz : ¬ cz = i_0) (Xs : Exa Z h0 x0 s_0) (Fca : Fld Z h0 x0 s_0 "coder" "B" (.int i_0)) (Fva : Fld Z h0 x0 s_0 "value" "[B" (.ref vba)) (Vba : Arv Z h0 vba kba .byte i_2 [.int (own_by c0), .int (own_by c1)] (.int i_0)) :
  MetFree l Y10 (head1 (Jvm.Cond.code Y10 jdk_42_method_54_code 1 (some .int) :: ws) (rr 1 0 0 13)) (fun a U => a = #[.ref x0] ∧ Z.Warmed39 U.vm ∧ U.heap = h0) (fun _ _ _ _ _ => True) (fun _ U o U' => ∃ v L, o = .returned v ∧ QP (some (.int i_2)) h0 v U'.heap L ∧ FrameEnd U o U' L (rr 1 0 0 13).cells (rr 1 0 0 13).slots) := by
 refine MetFree.of_bodySF (plainFor_of_name own_pn1) hisR ?_
 intro p e s m args below meth c s₁ Bd hml0 hP hK
 obtain ⟨rfl, hZ, hh⟩ := hP
 have hx := Bd.exec
 have hby := Bd.bytes
 have hml : c.maxLocals = 1 := hml0
 have hown : s.vm.findClass s_0 = some m.cls := findClass_of_methodNamed Bd.named
 have hnm := (name_of_methodNamed Bd.named Bd.method).1
 have X0 : Stand p l e (rr 1 0 0 13) s m #[.ref x0] below meth c s₁ [] 0 0 := Stand.of_body Bd
 have e0 : s₁.heap = h0 := by rw [← hh, Bd.state]; rfl
 show own_G _ _ _ _ (s₁.setTop (entryFrame m #[.ref x0] 1))
 refine goo (fun _ k => castTop (ef_26_R m x0) k) ?_
 refine goo (fun _ k => XS.aloadN X0.here hx rfl (hb hby d26_0) rfl rfl k) ?_
 obtain ⟨T79, X79, e79, st79⟩ := getF X0 hx hZ hown (host := "") (Or.inl (qw hw 23 rfl)) Via.refl e0 Fva (g := (mkF m 1 #[rv x0] [.ref x0])) rfl rfl (hb hby d26_1)
 refine goo st79 ?_
 obtain ⟨cl80, Ar80, -, S80, N80, -, -⟩ := id Vba
 refine goo (fun _ k => X79.arraylength hx (cell := cl80) (by rw [e79]; exact Ar80.1) (State.isArrayOf_alike hZ.alike Ar80.2.1) (g := (mkF m 4 #[rv x0] [.ref vba])) rfl rfl (hb hby d26_4) _ (by rw [len_of S80 N80]; exact k)) ?_
 refine goo (fun _ k => XS.aloadN X79.here hx rfl (hb hby d26_5) rfl rfl k) ?_
 obtain ⟨T81, X81, e81, st81⟩ := own_callV X79 hx hZ (y := Y7) hown (qw hw 142 rfl) (qw hw 143 rfl) (qw hw 145 rfl) (qw hw 144 rfl) (qw hw 3 rfl) (qw hw 146 rfl) (by decide) (W := 1) (rm27 l Z a0 hw [] x0 cz h0 Sc hcz Fca) (by decide) (by decide) rfl rfl e79 Xs (g := (mkF m 6 #[rv x0] [.ref x0, .int i_2])) rfl (by rw [hml]; rfl) (argsL := []) (rest := [.int i_2]) (lenOf own_pd7 rfl) rfl rfl (Nat.le_of_eq rfl) (hb hby d26_6) (by decide) (by decide)
 refine goo st81 ?_
 show own_G _ _ _ _ (T81.setTop (mkF m 9 #[rv x0] [.int i_0, .int i_2]))
 refine goo (fun _ k => XS.ishr X81.here hx rfl (hb hby d26_9) rfl k) ?_
 show own_G _ _ _ _ (T81.setTop (mkF m 10 #[rv x0] [.int i_2]))
 exact own_end X81 Bd.notSynchronized (v := some (.int i_2)) (fun h => by rw [Bd.returns] at h; cases h) (Q := QP (some (.int i_2)) h0) ⟨rfl, rfl, e81⟩ (fun fs hr => retI X81 hx Bd.returns (hb hby d26_10) hr) (by decide) (by decide)
theorem d36_0 : decode jdk_43_method_13_code 0 = .ok (.aload_n 0, 1) := by decide +kernel
theorem d36_1 : decode jdk_43_method_13_code 1 = .ok (.arraylength, 1) := by decide +kernel
theorem d36_2 : decode jdk_43_method_13_code 2 = .ok (.aload_n 1, 1) := by decide +kernel
theorem d36_3 : decode jdk_43_method_13_code 3 = .ok (.arraylength, 1) := by decide +kernel
theorem d36_4 : decode jdk_43_method_13_code 4 = .ok (.if_icmp .ne 30, 3) := by decide +kernel
theorem d36_7 : decode jdk_43_method_13_code 7 = .ok (.iconst 0, 1) := by decide +kernel
theorem d36_8 : decode jdk_43_method_13_code 8 = .ok (.istore_n 2, 1) := by decide +kernel
theorem d36_9 : decode jdk_43_method_13_code 9 = .ok (.iload_n 2, 1) := by decide +kernel
theorem d36_10 : decode jdk_43_method_13_code 10 = .ok (.aload_n 0, 1) := by decide +kernel
theorem d36_11 : decode jdk_43_method_13_code 11 = .ok (.arraylength, 1) := by decide +kernel
theorem d36_12 : decode jdk_43_method_13_code 12 = .ok (.if_icmp .ge 20, 3) := by decide +kernel
theorem d36_15 : decode jdk_43_method_13_code 15 = .ok (.aload_n 0, 1) := by decide +kernel
theorem d36_16 : decode jdk_43_method_13_code 16 = .ok (.iload_n 2, 1) := by decide +kernel
theorem d36_17 : decode jdk_43_method_13_code 17 = .ok (.baload, 1) := by decide +kernel
theorem d36_18 : decode jdk_43_method_13_code 18 = .ok (.aload_n 1, 1) := by decide +kernel
theorem d36_19 : decode jdk_43_method_13_code 19 = .ok (.iload_n 2, 1) := by decide +kernel
theorem d36_20 : decode jdk_43_method_13_code 20 = .ok (.baload, 1) := by decide +kernel
theorem d36_21 : decode jdk_43_method_13_code 21 = .ok (.if_icmp .eq 5, 3) := by decide +kernel
theorem d36_26 : decode jdk_43_method_13_code 26 = .ok (.iinc 2 1, 3) := by decide +kernel
theorem d36_29 : decode jdk_43_method_13_code 29 = .ok (.goto (-20), 3) := by decide +kernel
theorem d36_32 : decode jdk_43_method_13_code 32 = .ok (.iconst 1, 1) := by decide +kernel
theorem d36_33 : decode jdk_43_method_13_code 33 = .ok (.ireturn, 1) := by decide +kernel
theorem ef_36_RR (m : MethodId) (x0 : Addr) (x1 : Addr) : entryFrame m #[(.ref x0), (.ref x1)] 3 = mkF m 0 #[.val (.ref x0), .val (.ref x1), .unset] [] := by
  first | (simp [entryFrame, mkF, argsToLocals, Value.category]; done) | rfl
theorem rm_leq1 (l : Launch) (Z : State) (a0 : Array Value) (hw : own_HW a0 Z) (ws : List Jvm.Cond) (x0 : Addr) (x1 : Addr)  (kba kbb : ClassId) (y0 : Int32) (h0 : Heap) (Vba : Arv Z h0 x0 kba .byte i_1 [.int y0] (.int i_0)) (Vbb : Arv Z h0 x1 kbb .byte i_1 [.int y0] (.int i_0)) :
  MetFree l Y11 (head1 (Jvm.Cond.code Y11 jdk_43_method_13_code 3 (some .boolean) :: ws) (rr 0 0 0 0)) (fun a U => a = #[.ref x0, .ref x1] ∧ Z.Warmed39 U.vm ∧ U.heap = h0) (fun _ _ _ _ _ => True) (fun _ U o U' => ∃ v L, o = .returned v ∧ QP (some (.int i_1)) h0 v U'.heap L ∧ FrameEnd U o U' L (rr 0 0 0 0).cells (rr 0 0 0 0).slots) := by
 refine MetFree.of_bodySF (plainFor_of_name own_pn0) hisR ?_
 intro p e s m args below meth c s₁ Bd hml0 hP hK
 obtain ⟨rfl, hZ, hh⟩ := hP
 have hx := Bd.exec
 have hby := Bd.bytes
 have hml : c.maxLocals = 3 := hml0
 have hown : s.vm.findClass "java/lang/StringLatin1" = some m.cls := findClass_of_methodNamed Bd.named
 have hnm := (name_of_methodNamed Bd.named Bd.method).1
 have X0 : Stand p l e (rr 0 0 0 0) s m #[.ref x0, .ref x1] below meth c s₁ [] 0 0 := Stand.of_body Bd
 have e0 : s₁.heap = h0 := by rw [← hh, Bd.state]; rfl
 show own_G _ _ _ _ (s₁.setTop (entryFrame m #[.ref x0, .ref x1] 3))
 refine goo (fun _ k => castTop (ef_36_RR m x0 x1) k) ?_
 refine goo (fun _ k => XS.aloadN X0.here hx rfl (hb hby d36_0) rfl rfl k) ?_
 obtain ⟨cl82, Ar82, -, S82, N82, -, -⟩ := id Vba
 refine goo (fun _ k => X0.arraylength hx (cell := cl82) (by rw [e0]; exact Ar82.1) (State.isArrayOf_alike hZ.alike Ar82.2.1) (g := (mkF m 1 #[rv x0, rv x1, .unset] [.ref x0])) rfl rfl (hb hby d36_1) _ (by rw [len_of S82 N82]; exact k)) ?_
 refine goo (fun _ k => XS.aloadN X0.here hx rfl (hb hby d36_2) rfl rfl k) ?_
 obtain ⟨cl83, Ar83, -, S83, N83, -, -⟩ := id Vbb
 refine goo (fun _ k => X0.arraylength hx (cell := cl83) (by rw [e0]; exact Ar83.1) (State.isArrayOf_alike hZ.alike Ar83.2.1) (g := (mkF m 3 #[rv x0, rv x1, .unset] [.ref x1, .int i_1])) rfl rfl (hb hby d36_3) _ (by rw [len_of S83 N83]; exact k)) ?_
 refine goo (fun _ k => XS.icmpNo X0.here hx rfl (hb hby d36_4) rfl ((teq (by decide : i_1 = i_1)).2) k) ?_
 show own_G _ _ _ _ (s₁.setTop (mkF m 7 #[rv x0, rv x1, .unset] []))
 refine goo (fun _ k => XS.iconst X0.here hx rfl (hb hby d36_7) <| XS.istoreN X0.here hx rfl (hb hby d36_8) rfl (l' := #[rv x0, rv x1, iv i_0]) rfl <| XS.iloadN X0.here hx rfl (hb hby d36_9) rfl <| XS.aloadN X0.here hx rfl (hb hby d36_10) rfl rfl k) ?_
 obtain ⟨cl84, Ar84, -, S84, N84, -, -⟩ := id Vba
 refine goo (fun _ k => X0.arraylength hx (cell := cl84) (by rw [e0]; exact Ar84.1) (State.isArrayOf_alike hZ.alike Ar84.2.1) (g := (mkF m 11 #[rv x0, rv x1, iv i_0] [.ref x0, .int i_0])) rfl rfl (hb hby d36_11) _ (by rw [len_of S84 N84]; exact k)) ?_
 refine goo (fun _ k => XS.icmpNo X0.here hx rfl (hb hby d36_12) rfl ((tlt (by decide : i_0 < i_1)).2.1) k) ?_
 show own_G _ _ _ _ (s₁.setTop (mkF m 15 #[rv x0, rv x1, iv i_0] []))
 refine goo (fun _ k => XS.aloadN X0.here hx rfl (hb hby d36_15) rfl rfl <| XS.iloadN X0.here hx rfl (hb hby d36_16) rfl k) ?_
 obtain ⟨cl85, Ar85, -, S85, -, H85, -⟩ := id Vba
 have hin85 := inb_of S85 (j := i_0) ⟨by decide, by decide⟩
 refine goo (fun _ k => X0.baloadBytes hx (j := i_0) (v := (.int y0)) (by rw [e0]; exact Ar85.1) (State.isArrayOf_alike hZ.alike Ar85.2.1) Ar85.2.2 hin85 (H85.at hin85 rfl) (g := (mkF m 17 #[rv x0, rv x1, iv i_0] [.int i_0, .ref x0])) rfl rfl (hb hby d36_17) _ k) ?_
 refine goo (fun _ k => XS.aloadN X0.here hx rfl (hb hby d36_18) rfl rfl <| XS.iloadN X0.here hx rfl (hb hby d36_19) rfl k) ?_
 obtain ⟨cl86, Ar86, -, S86, -, H86, -⟩ := id Vbb
 have hin86 := inb_of S86 (j := i_0) ⟨by decide, by decide⟩
 refine goo (fun _ k => X0.baloadBytes hx (j := i_0) (v := (.int y0)) (by rw [e0]; exact Ar86.1) (State.isArrayOf_alike hZ.alike Ar86.2.1) Ar86.2.2 hin86 (H86.at hin86 rfl) (g := (mkF m 20 #[rv x0, rv x1, iv i_0] [.int i_0, .ref x1, .int y0])) rfl rfl (hb hby d36_20) _ k) ?_
 show own_G _ _ _ _ (s₁.setTop (mkF m 21 #[rv x0, rv x1, iv i_0] [.int y0, .int y0]))
 refine goo (fun _ k => XS.icmpYes X0.here hx rfl (pc0 := 21) (pc' := 26) rfl (hb hby d36_21) rfl ((teq (rfl : y0 = y0)).1) (by decide) (by decide) <| XS.iinc X0.here hx rfl (hb hby d36_26) rfl (l' := #[rv x0, rv x1, iv i_1]) rfl <| XS.goto X0.here hx rfl (pc0 := 29) (pc' := 9) rfl (hb hby d36_29) (by decide) (by decide) <| XS.iloadN X0.here hx rfl (hb hby d36_9) rfl k) ?_
 refine goo (fun _ k => XS.aloadN X0.here hx rfl (hb hby d36_10) rfl rfl k) ?_
 obtain ⟨cl87, Ar87, -, S87, N87, -, -⟩ := id Vba
 refine goo (fun _ k => X0.arraylength hx (cell := cl87) (by rw [e0]; exact Ar87.1) (State.isArrayOf_alike hZ.alike Ar87.2.1) (g := (mkF m 11 #[rv x0, rv x1, iv i_1] [.ref x0, .int i_1])) rfl rfl (hb hby d36_11) _ (by rw [len_of S87 N87]; exact k)) ?_
 show own_G _ _ _ _ (s₁.setTop (mkF m 12 #[rv x0, rv x1, iv i_1] [.int i_1, .int i_1]))
 refine goo (fun _ k => XS.icmpYes X0.here hx rfl (pc0 := 12) (pc' := 32) rfl (hb hby d36_12) rfl ((flt (by decide : ¬ (i_1 < i_1))).2.1) (by decide) (by decide) <| XS.iconst X0.here hx rfl (hb hby d36_32) k) ?_
 show own_G _ _ _ _ (s₁.setTop (mkF m 33 #[rv x0, rv x1, iv i_1] [.int i_1]))
 exact own_end X0 Bd.notSynchronized (v := some (.int (nar .boolean i_1))) (fun h => by rw [Bd.returns] at h; cases h) (Q := QP (some (.int i_1)) h0) ⟨rfl, rfl, e0⟩ (fun fs hr => retN X0 hx (t := .boolean) Bd.returns (by simp) (hb hby d36_33) hr) (by decide) (by decide)
theorem rm_leq2 (l : Launch) (Z : State) (a0 : Array Value) (hw : own_HW a0 Z) (ws : List Jvm.Cond) (x0 : Addr) (x1 : Addr)  (kba kbb : ClassId) (y0 y1 : Int32) (h0 : Heap) (Vba : Arv Z h0 x0 kba .byte i_2 [.int y0, .int y1] (.int i_0)) (Vbb : Arv Z h0 x1 kbb .byte i_2 [.int y0, .int y1] (.int i_0)) :
  MetFree l Y11 (head1 (Jvm.Cond.code Y11 jdk_43_method_13_code 3 (some .boolean) :: ws) (rr 0 0 0 0)) (fun a U => a = #[.ref x0, .ref x1] ∧ Z.Warmed39 U.vm ∧ U.heap = h0) (fun _ _ _ _ _ => True) (fun _ U o U' => ∃ v L, o = .returned v ∧ QP (some (.int i_1)) h0 v U'.heap L ∧ FrameEnd U o U' L (rr 0 0 0 0).cells (rr 0 0 0 0).slots) := by
 refine MetFree.of_bodySF (plainFor_of_name own_pn0) hisR ?_
 intro p e s m args below meth c s₁ Bd hml0 hP hK
 obtain ⟨rfl, hZ, hh⟩ := hP
 have hx := Bd.exec
 have hby := Bd.bytes
 have hml : c.maxLocals = 3 := hml0
 have hown : s.vm.findClass "java/lang/StringLatin1" = some m.cls := findClass_of_methodNamed Bd.named
 have hnm := (name_of_methodNamed Bd.named Bd.method).1
 have X0 : Stand p l e (rr 0 0 0 0) s m #[.ref x0, .ref x1] below meth c s₁ [] 0 0 := Stand.of_body Bd
 have e0 : s₁.heap = h0 := by rw [← hh, Bd.state]; rfl
 show own_G _ _ _ _ (s₁.setTop (entryFrame m #[.ref x0, .ref x1] 3))
 refine goo (fun _ k => castTop (ef_36_RR m x0 x1) k) ?_
 refine goo (fun _ k => XS.aloadN X0.here hx rfl (hb hby d36_0) rfl rfl k) ?_
 obtain ⟨cl88, Ar88, -, S88, N88, -, -⟩ := id Vba
 refine goo (fun _ k => X0.arraylength hx (cell := cl88) (by rw [e0]; exact Ar88.1) (State.isArrayOf_alike hZ.alike Ar88.2.1) (g := (mkF m 1 #[rv x0, rv x1, .unset] [.ref x0])) rfl rfl (hb hby d36_1) _ (by rw [len_of S88 N88]; exact k)) ?_
 refine goo (fun _ k => XS.aloadN X0.here hx rfl (hb hby d36_2) rfl rfl k) ?_
 obtain ⟨cl89, Ar89, -, S89, N89, -, -⟩ := id Vbb
 refine goo (fun _ k => X0.arraylength hx (cell := cl89) (by rw [e0]; exact Ar89.1) (State.isArrayOf_alike hZ.alike Ar89.2.1) (g := (mkF m 3 #[rv x0, rv x1, .unset] [.ref x1, .int i_2])) rfl rfl (hb hby d36_3) _ (by rw [len_of S89 N89]; exact k)) ?_
 refine goo (fun _ k => XS.icmpNo X0.here hx rfl (hb hby d36_4) rfl ((teq (by decide : i_2 = i_2)).2) k) ?_
 show own_G _ _ _ _ (s₁.setTop (mkF m 7 #[rv x0, rv x1, .unset] []))
 refine goo (fun _ k => XS.iconst X0.here hx rfl (hb hby d36_7) <| XS.istoreN X0.here hx rfl (hb hby d36_8) rfl (l' := #[rv x0, rv x1, iv i_0]) rfl <| XS.iloadN X0.here hx rfl (hb hby d36_9) rfl <| XS.aloadN X0.here hx rfl (hb hby d36_10) rfl rfl k) ?_
 obtain ⟨cl90, Ar90, -, S90, N90, -, -⟩ := id Vba
 refine goo (fun _ k => X0.arraylength hx (cell := cl90) (by rw [e0]; exact Ar90.1) (State.isArrayOf_alike hZ.alike Ar90.2.1) (g := (mkF m 11 #[rv x0, rv x1, iv i_0] [.ref x0, .int i_0])) rfl rfl (hb hby d36_11) _ (by rw [len_of S90 N90]; exact k)) ?_
 refine goo (fun _ k => XS.icmpNo X0.here hx rfl (hb hby d36_12) rfl ((tlt (by decide : i_0 < i_2)).2.1) k) ?_
 show own_G _ _ _ _ (s₁.setTop (mkF m 15 #[rv x0, rv x1, iv i_0] []))
 refine goo (fun _ k => XS.aloadN X0.here hx rfl (hb hby d36_15) rfl rfl <| XS.iloadN X0.here hx rfl (hb hby d36_16) rfl k) ?_
 obtain ⟨cl91, Ar91, -, S91, -, H91, -⟩ := id Vba
 have hin91 := inb_of S91 (j := i_0) ⟨by decide, by decide⟩
 refine goo (fun _ k => X0.baloadBytes hx (j := i_0) (v := (.int y0)) (by rw [e0]; exact Ar91.1) (State.isArrayOf_alike hZ.alike Ar91.2.1) Ar91.2.2 hin91 (H91.at hin91 rfl) (g := (mkF m 17 #[rv x0, rv x1, iv i_0] [.int i_0, .ref x0])) rfl rfl (hb hby d36_17) _ k) ?_
 refine goo (fun _ k => XS.aloadN X0.here hx rfl (hb hby d36_18) rfl rfl <| XS.iloadN X0.here hx rfl (hb hby d36_19) rfl k) ?_
 obtain ⟨cl92, Ar92, -, S92, -, H92, -⟩ := id Vbb
 have hin92 := inb_of S92 (j := i_0) ⟨by decide, by decide⟩
 refine goo (fun _ k => X0.baloadBytes hx (j := i_0) (v := (.int y0)) (by rw [e0]; exact Ar92.1) (State.isArrayOf_alike hZ.alike Ar92.2.1) Ar92.2.2 hin92 (H92.at hin92 rfl) (g := (mkF m 20 #[rv x0, rv x1, iv i_0] [.int i_0, .ref x1, .int y0])) rfl rfl (hb hby d36_20) _ k) ?_
 show own_G _ _ _ _ (s₁.setTop (mkF m 21 #[rv x0, rv x1, iv i_0] [.int y0, .int y0]))
 refine goo (fun _ k => XS.icmpYes X0.here hx rfl (pc0 := 21) (pc' := 26) rfl (hb hby d36_21) rfl ((teq (rfl : y0 = y0)).1) (by decide) (by decide) <| XS.iinc X0.here hx rfl (hb hby d36_26) rfl (l' := #[rv x0, rv x1, iv i_1]) rfl <| XS.goto X0.here hx rfl (pc0 := 29) (pc' := 9) rfl (hb hby d36_29) (by decide) (by decide) <| XS.iloadN X0.here hx rfl (hb hby d36_9) rfl k) ?_
 refine goo (fun _ k => XS.aloadN X0.here hx rfl (hb hby d36_10) rfl rfl k) ?_
 obtain ⟨cl93, Ar93, -, S93, N93, -, -⟩ := id Vba
 refine goo (fun _ k => X0.arraylength hx (cell := cl93) (by rw [e0]; exact Ar93.1) (State.isArrayOf_alike hZ.alike Ar93.2.1) (g := (mkF m 11 #[rv x0, rv x1, iv i_1] [.ref x0, .int i_1])) rfl rfl (hb hby d36_11) _ (by rw [len_of S93 N93]; exact k)) ?_
 show own_G _ _ _ _ (s₁.setTop (mkF m 12 #[rv x0, rv x1, iv i_1] [.int i_2, .int i_1]))
 refine goo (fun _ k => XS.icmpNo X0.here hx rfl (hb hby d36_12) rfl ((tlt (by decide : i_1 < i_2)).2.1) <| XS.aloadN X0.here hx rfl (hb hby d36_15) rfl rfl <| XS.iloadN X0.here hx rfl (hb hby d36_16) rfl k) ?_
 obtain ⟨cl94, Ar94, -, S94, -, H94, -⟩ := id Vba
 have hin94 := inb_of S94 (j := i_1) ⟨by decide, by decide⟩
 refine goo (fun _ k => X0.baloadBytes hx (j := i_1) (v := (.int y1)) (by rw [e0]; exact Ar94.1) (State.isArrayOf_alike hZ.alike Ar94.2.1) Ar94.2.2 hin94 (H94.at hin94 rfl) (g := (mkF m 17 #[rv x0, rv x1, iv i_1] [.int i_1, .ref x0])) rfl rfl (hb hby d36_17) _ k) ?_
 refine goo (fun _ k => XS.aloadN X0.here hx rfl (hb hby d36_18) rfl rfl <| XS.iloadN X0.here hx rfl (hb hby d36_19) rfl k) ?_
 show own_G _ _ _ _ (s₁.setTop (mkF m 20 #[rv x0, rv x1, iv i_1] [.int i_1, .ref x1, .int y1]))
 obtain ⟨cl95, Ar95, -, S95, -, H95, -⟩ := id Vbb
 have hin95 := inb_of S95 (j := i_1) ⟨by decide, by decide⟩
 refine goo (fun _ k => X0.baloadBytes hx (j := i_1) (v := (.int y1)) (by rw [e0]; exact Ar95.1) (State.isArrayOf_alike hZ.alike Ar95.2.1) Ar95.2.2 hin95 (H95.at hin95 rfl) (g := (mkF m 20 #[rv x0, rv x1, iv i_1] [.int i_1, .ref x1, .int y1])) rfl rfl (hb hby d36_20) _ k) ?_
 refine goo (fun _ k => XS.icmpYes X0.here hx rfl (pc0 := 21) (pc' := 26) rfl (hb hby d36_21) rfl ((teq (rfl : y1 = y1)).1) (by decide) (by decide) <| XS.iinc X0.here hx rfl (hb hby d36_26) rfl (l' := #[rv x0, rv x1, iv i_2]) rfl <| XS.goto X0.here hx rfl (pc0 := 29) (pc' := 9) rfl (hb hby d36_29) (by decide) (by decide) <| XS.iloadN X0.here hx rfl (hb hby d36_9) rfl k) ?_
 refine goo (fun _ k => XS.aloadN X0.here hx rfl (hb hby d36_10) rfl rfl k) ?_
 show own_G _ _ _ _ (s₁.setTop (mkF m 11 #[rv x0, rv x1, iv i_2] [.ref x0, .int i_2]))
 obtain ⟨cl96, Ar96, -, S96, N96, -, -⟩ := id Vba
 refine goo (fun _ k => X0.arraylength hx (cell := cl96) (by rw [e0]; exact Ar96.1) (State.isArrayOf_alike hZ.alike Ar96.2.1) (g := (mkF m 11 #[rv x0, rv x1, iv i_2] [.ref x0, .int i_2])) rfl rfl (hb hby d36_11) _ (by rw [len_of S96 N96]; exact k)) ?_
 refine goo (fun _ k => XS.icmpYes X0.here hx rfl (pc0 := 12) (pc' := 32) rfl (hb hby d36_12) rfl ((flt (by decide : ¬ (i_2 < i_2))).2.1) (by decide) (by decide) <| XS.iconst X0.here hx rfl (hb hby d36_32) k) ?_
 show own_G _ _ _ _ (s₁.setTop (mkF m 33 #[rv x0, rv x1, iv i_2] [.int i_1]))
 exact own_end X0 Bd.notSynchronized (v := some (.int (nar .boolean i_1))) (fun h => by rw [Bd.returns] at h; cases h) (Q := QP (some (.int i_1)) h0) ⟨rfl, rfl, e0⟩ (fun fs hr => retN X0 hx (t := .boolean) Bd.returns (by simp) (hb hby d36_33) hr) (by decide) (by decide)
theorem own_pd8 : parseMethodDescriptor "([B[B)Z" = some ⟨[(.array .byte), (.array .byte)], some .boolean⟩ := by decide +kernel
theorem d35_0 : decode jdk_42_method_66_code 0 = .ok (.aload_n 0, 1) := by decide +kernel
theorem d35_1 : decode jdk_42_method_66_code 1 = .ok (.aload_n 1, 1) := by decide +kernel
theorem d35_2 : decode jdk_42_method_66_code 2 = .ok (.if_acmp .ne 5, 3) := by decide +kernel
theorem d35_7 : decode jdk_42_method_66_code 7 = .ok (.aload_n 1, 1) := by decide +kernel
theorem d35_8 : decode jdk_42_method_66_code 8 = .ok (.instanceof 10, 3) := by decide +kernel
theorem d35_11 : decode jdk_42_method_66_code 11 = .ok (.ifCond .eq 43, 3) := by decide +kernel
theorem d35_14 : decode jdk_42_method_66_code 14 = .ok (.aload_n 1, 1) := by decide +kernel
theorem d35_15 : decode jdk_42_method_66_code 15 = .ok (.checkcast 10, 3) := by decide +kernel
theorem d35_18 : decode jdk_42_method_66_code 18 = .ok (.astore_n 2, 1) := by decide +kernel
theorem d35_19 : decode jdk_42_method_66_code 19 = .ok (.getstatic 38, 3) := by decide +kernel
theorem d35_22 : decode jdk_42_method_66_code 22 = .ok (.ifCond .eq 14, 3) := by decide +kernel
theorem d35_25 : decode jdk_42_method_66_code 25 = .ok (.aload_n 0, 1) := by decide +kernel
theorem d35_26 : decode jdk_42_method_66_code 26 = .ok (.getfield 15, 3) := by decide +kernel
theorem d35_29 : decode jdk_42_method_66_code 29 = .ok (.aload_n 2, 1) := by decide +kernel
theorem d35_30 : decode jdk_42_method_66_code 30 = .ok (.getfield 15, 3) := by decide +kernel
theorem d35_33 : decode jdk_42_method_66_code 33 = .ok (.if_icmp .ne 21, 3) := by decide +kernel
theorem d35_36 : decode jdk_42_method_66_code 36 = .ok (.aload_n 0, 1) := by decide +kernel
theorem d35_37 : decode jdk_42_method_66_code 37 = .ok (.getfield 9, 3) := by decide +kernel
theorem d35_40 : decode jdk_42_method_66_code 40 = .ok (.aload_n 2, 1) := by decide +kernel
theorem d35_41 : decode jdk_42_method_66_code 41 = .ok (.getfield 9, 3) := by decide +kernel
theorem d35_44 : decode jdk_42_method_66_code 44 = .ok (.invokestatic 541, 3) := by decide +kernel
theorem d35_47 : decode jdk_42_method_66_code 47 = .ok (.ifCond .eq 7, 3) := by decide +kernel
theorem d35_50 : decode jdk_42_method_66_code 50 = .ok (.iconst 1, 1) := by decide +kernel
theorem d35_51 : decode jdk_42_method_66_code 51 = .ok (.goto 4, 3) := by decide +kernel
theorem d35_55 : decode jdk_42_method_66_code 55 = .ok (.ireturn, 1) := by decide +kernel
theorem ef_35_RR (m : MethodId) (x0 : Addr) (x1 : Addr) : entryFrame m #[(.ref x0), (.ref x1)] 3 = mkF m 0 #[.val (.ref x0), .val (.ref x1), .unset] [] := by
  first | (simp [entryFrame, mkF, argsToLocals, Value.category]; done) | rfl
theorem rm_eq1 (l : Launch) (Z : State) (a0 : Array Value) (hw : own_HW a0 Z) (ws : List Jvm.Cond) (x0 : Addr) (x1 : Addr)  (cz : Int32) (vba vbb : Addr) (kba kbb : ClassId) (y0 : Int32) (h0 : Heap) (Sc : Sta Z h0 s_0 "COMPACT_STRINGS" "Z" (.int cz)) (hcz : ¬ cz = i_0) (Fca : Fld Z h0 x0 s_0 "coder" "B" (.int i_0)) (Fva : Fld Z h0 x0 s_0 "value" "[B" (.ref vba)) (Vba : Arv Z h0 vba kba .byte i_1 [.int y0] (.int i_0)) (Fcb : Fld Z h0 x1 s_0 "coder" "B" (.int i_0)) (Fvb : Fld Z h0 x1 s_0 "value" "[B" (.ref vbb)) (Vbb : Arv Z h0 vbb kbb .byte i_1 [.int y0] (.int i_0)) (Xb : Exa Z h0 x1 s_0) (hne : x0 ≠ x1) :
  MetFree l Y12 (head1 (Jvm.Cond.code Y12 jdk_42_method_66_code 3 (some .boolean) :: ws) (rr 1 0 0 14)) (fun a U => a = #[.ref x0, .ref x1] ∧ Z.Warmed39 U.vm ∧ U.heap = h0) (fun _ _ _ _ _ => True) (fun _ U o U' => ∃ v L, o = .returned v ∧ QP (some (.int i_1)) h0 v U'.heap L ∧ FrameEnd U o U' L (rr 1 0 0 14).cells (rr 1 0 0 14).slots) := by
 refine MetFree.of_bodySF (plainFor_of_name own_pn1) hisR ?_
 intro p e s m args below meth c s₁ Bd hml0 hP hK
 obtain ⟨rfl, hZ, hh⟩ := hP
 have hx := Bd.exec
 have hby := Bd.bytes
 have hml : c.maxLocals = 3 := hml0
 have hown : s.vm.findClass s_0 = some m.cls := findClass_of_methodNamed Bd.named
 have hnm := (name_of_methodNamed Bd.named Bd.method).1
 have X0 : Stand p l e (rr 1 0 0 14) s m #[.ref x0, .ref x1] below meth c s₁ [] 0 0 := Stand.of_body Bd
 have e0 : s₁.heap = h0 := by rw [← hh, Bd.state]; rfl
 show own_G _ _ _ _ (s₁.setTop (entryFrame m #[.ref x0, .ref x1] 3))
 refine goo (fun _ k => castTop (ef_35_RR m x0 x1) k) ?_
 refine goo (fun _ k => XS.aloadN X0.here hx rfl (hb hby d35_0) rfl rfl <| XS.aloadN X0.here hx rfl (hb hby d35_1) rfl rfl k) ?_
 refine goo (fun _ k => Jvm.RoadKit.acmp (g := (mkF m 2 #[rv x0, rv x1, .unset] [.ref x1, .ref x0])) X0 hx rfl rfl rfl (pc0 := 2) (pc' := 7) (same := false) rfl (hb hby d35_2) rfl (decide_eq_false fun q => hne (Value.ref.inj q)) (by decide) (by decide) k) ?_
 refine goo (fun _ k => XS.aloadN X0.here hx rfl (hb hby d35_7) rfl rfl k) ?_
 obtain ⟨T97, X97, e97, st97⟩ := instY X0 hx hZ hown (qw hw 10 rfl) e0 (Ins.self Xb) (g := (mkF m 8 #[rv x0, rv x1, .unset] [.ref x1])) rfl rfl (hb hby d35_8)
 refine goo st97 ?_
 show own_G _ _ _ _ (T97.setTop (mkF m 11 #[rv x0, rv x1, .unset] [.int i_1]))
 refine goo (fun _ k => XS.ifNo X97.here hx rfl (hb hby d35_11) rfl (((if0 _ _).trans (feq (by decide : ¬ (i_1 = i_0))).1)) <| XS.aloadN X97.here hx rfl (hb hby d35_14) rfl rfl k) ?_
 obtain ⟨T98, X98, e98, st98⟩ := castY X97 hx hZ hown (qw hw 10 rfl) e97 (Ins.self Xb) (g := (mkF m 15 #[rv x0, rv x1, .unset] [.ref x1])) rfl rfl (hb hby d35_15)
 refine goo st98 ?_
 refine goo (fun _ k => XS.astoreN X98.here hx rfl (hb hby d35_18) rfl rfl (l' := #[rv x0, rv x1, rv x1]) rfl k) ?_
 obtain ⟨T99, X99, e99, st99⟩ := getS2 X98 hx hZ hown (host := "") (Or.inl (qw hw 5 rfl)) Via.refl e98 Sc (g := (mkF m 19 #[rv x0, rv x1, rv x1] [])) rfl (hb hby d35_19)
 refine goo st99 ?_
 refine goo (fun _ k => XS.ifNo X99.here hx rfl (hb hby d35_22) rfl (((if0 _ _).trans (feq hcz).1)) k) ?_
 show own_G _ _ _ _ (T99.setTop (mkF m 25 #[rv x0, rv x1, rv x1] []))
 refine goo (fun _ k => XS.aloadN X99.here hx rfl (hb hby d35_25) rfl rfl k) ?_
 obtain ⟨T'0, X'0, e'0, st'0⟩ := getF X99 hx hZ hown (host := "") (Or.inl (qw hw 25 rfl)) Via.refl e99 Fca (g := (mkF m 26 #[rv x0, rv x1, rv x1] [.ref x0])) rfl rfl (hb hby d35_26)
 refine goo st'0 ?_
 refine goo (fun _ k => XS.aloadN X'0.here hx rfl (hb hby d35_29) rfl rfl k) ?_
 obtain ⟨T'1, X'1, e'1, st'1⟩ := getF X'0 hx hZ hown (host := "") (Or.inl (qw hw 25 rfl)) Via.refl e'0 Fcb (g := (mkF m 30 #[rv x0, rv x1, rv x1] [.ref x1, .int i_0])) rfl rfl (hb hby d35_30)
 refine goo st'1 ?_
 refine goo (fun _ k => XS.icmpNo X'1.here hx rfl (hb hby d35_33) rfl ((teq (by decide : i_0 = i_0)).2) <| XS.aloadN X'1.here hx rfl (hb hby d35_36) rfl rfl k) ?_
 show own_G _ _ _ _ (T'1.setTop (mkF m 37 #[rv x0, rv x1, rv x1] [.ref x0]))
 obtain ⟨T'2, X'2, e'2, st'2⟩ := getF X'1 hx hZ hown (host := "") (Or.inl (qw hw 23 rfl)) Via.refl e'1 Fva (g := (mkF m 37 #[rv x0, rv x1, rv x1] [.ref x0])) rfl rfl (hb hby d35_37)
 refine goo st'2 ?_
 refine goo (fun _ k => XS.aloadN X'2.here hx rfl (hb hby d35_40) rfl rfl k) ?_
 obtain ⟨T'3, X'3, e'3, st'3⟩ := getF X'2 hx hZ hown (host := "") (Or.inl (qw hw 23 rfl)) Via.refl e'2 Fvb (g := (mkF m 41 #[rv x0, rv x1, rv x1] [.ref x1, .ref vba])) rfl rfl (hb hby d35_41)
 refine goo st'3 ?_
 obtain ⟨T'4, X'4, e'4, st'4⟩ := own_callP X'3 hx hZ (y := Y11) hown (qw hw 184 rfl) (qw hw 185 rfl) (qw hw 8 rfl) (qw hw 186 rfl) (by decide) (W := 0) (rm_leq1 l Z a0 hw [] vba vbb kba kbb y0 h0 Vba Vbb) (by decide) (by decide) rfl rfl e'3 (g := (mkF m 44 #[rv x0, rv x1, rv x1] [.ref vbb, .ref vba])) rfl (by rw [hml]; rfl) (argsL := [.ref vba, .ref vbb]) (rest := []) (lenOf own_pd8 rfl) rfl rfl (Nat.le_of_eq rfl) (hb hby d35_44) (by decide) (by decide)
 refine goo st'4 ?_
 refine goo (fun _ k => XS.ifNo X'4.here hx rfl (hb hby d35_47) rfl (((if0 _ _).trans (feq (by decide : ¬ (i_1 = i_0))).1)) <| XS.iconst X'4.here hx rfl (hb hby d35_50) k) ?_
 show own_G _ _ _ _ (T'4.setTop (mkF m 51 #[rv x0, rv x1, rv x1] [.int i_1]))
 refine goo (fun _ k => XS.goto X'4.here hx rfl (pc0 := 51) (pc' := 55) rfl (hb hby d35_51) (by decide) (by decide) k) ?_
 show own_G _ _ _ _ (T'4.setTop (mkF m 55 #[rv x0, rv x1, rv x1] [.int i_1]))
 exact own_end X'4 Bd.notSynchronized (v := some (.int (nar .boolean i_1))) (fun h => by rw [Bd.returns] at h; cases h) (Q := QP (some (.int i_1)) h0) ⟨rfl, rfl, e'4⟩ (fun fs hr => retN X'4 hx (t := .boolean) Bd.returns (by simp) (hb hby d35_55) hr) (by decide) (by decide)
theorem rm_eq2 (l : Launch) (Z : State) (a0 : Array Value) (hw : own_HW a0 Z) (ws : List Jvm.Cond) (x0 : Addr) (x1 : Addr)  (cz : Int32) (vba vbb : Addr) (kba kbb : ClassId) (y0 y1 : Int32) (h0 : Heap) (Sc : Sta Z h0 s_0 "COMPACT_STRINGS" "Z" (.int cz)) (hcz : ¬ cz = i_0) (Fca : Fld Z h0 x0 s_0 "coder" "B" (.int i_0)) (Fva : Fld Z h0 x0 s_0 "value" "[B" (.ref vba)) (Vba : Arv Z h0 vba kba .byte i_2 [.int y0, .int y1] (.int i_0)) (Fcb : Fld Z h0 x1 s_0 "coder" "B" (.int i_0)) (Fvb : Fld Z h0 x1 s_0 "value" "[B" (.ref vbb)) (Vbb : Arv Z h0 vbb kbb .byte i_2 [.int y0, .int y1] (.int i_0)) (Xb : Exa Z h0 x1 s_0) (hne : x0 ≠ x1) :
  MetFree l Y12 (head1 (Jvm.Cond.code Y12 jdk_42_method_66_code 3 (some .boolean) :: ws) (rr 1 0 0 14)) (fun a U => a = #[.ref x0, .ref x1] ∧ Z.Warmed39 U.vm ∧ U.heap = h0) (fun _ _ _ _ _ => True) (fun _ U o U' => ∃ v L, o = .returned v ∧ QP (some (.int i_1)) h0 v U'.heap L ∧ FrameEnd U o U' L (rr 1 0 0 14).cells (rr 1 0 0 14).slots) := by
 refine MetFree.of_bodySF (plainFor_of_name own_pn1) hisR ?_
 intro p e s m args below meth c s₁ Bd hml0 hP hK
 obtain ⟨rfl, hZ, hh⟩ := hP
 have hx := Bd.exec
 have hby := Bd.bytes
 have hml : c.maxLocals = 3 := hml0
 have hown : s.vm.findClass s_0 = some m.cls := findClass_of_methodNamed Bd.named
 have hnm := (name_of_methodNamed Bd.named Bd.method).1
 have X0 : Stand p l e (rr 1 0 0 14) s m #[.ref x0, .ref x1] below meth c s₁ [] 0 0 := Stand.of_body Bd
 have e0 : s₁.heap = h0 := by rw [← hh, Bd.state]; rfl
 show own_G _ _ _ _ (s₁.setTop (entryFrame m #[.ref x0, .ref x1] 3))
 refine goo (fun _ k => castTop (ef_35_RR m x0 x1) k) ?_
 refine goo (fun _ k => XS.aloadN X0.here hx rfl (hb hby d35_0) rfl rfl <| XS.aloadN X0.here hx rfl (hb hby d35_1) rfl rfl k) ?_
 refine goo (fun _ k => Jvm.RoadKit.acmp (g := (mkF m 2 #[rv x0, rv x1, .unset] [.ref x1, .ref x0])) X0 hx rfl rfl rfl (pc0 := 2) (pc' := 7) (same := false) rfl (hb hby d35_2) rfl (decide_eq_false fun q => hne (Value.ref.inj q)) (by decide) (by decide) k) ?_
 refine goo (fun _ k => XS.aloadN X0.here hx rfl (hb hby d35_7) rfl rfl k) ?_
 obtain ⟨T'0, X'0, e'0, st'0⟩ := instY X0 hx hZ hown (qw hw 10 rfl) e0 (Ins.self Xb) (g := (mkF m 8 #[rv x0, rv x1, .unset] [.ref x1])) rfl rfl (hb hby d35_8)
 refine goo st'0 ?_
 show own_G _ _ _ _ (T'0.setTop (mkF m 11 #[rv x0, rv x1, .unset] [.int i_1]))
 refine goo (fun _ k => XS.ifNo X'0.here hx rfl (hb hby d35_11) rfl (((if0 _ _).trans (feq (by decide : ¬ (i_1 = i_0))).1)) <| XS.aloadN X'0.here hx rfl (hb hby d35_14) rfl rfl k) ?_
 obtain ⟨T'1, X'1, e'1, st'1⟩ := castY X'0 hx hZ hown (qw hw 10 rfl) e'0 (Ins.self Xb) (g := (mkF m 15 #[rv x0, rv x1, .unset] [.ref x1])) rfl rfl (hb hby d35_15)
 refine goo st'1 ?_
 refine goo (fun _ k => XS.astoreN X'1.here hx rfl (hb hby d35_18) rfl rfl (l' := #[rv x0, rv x1, rv x1]) rfl k) ?_
 obtain ⟨T'2, X'2, e'2, st'2⟩ := getS2 X'1 hx hZ hown (host := "") (Or.inl (qw hw 5 rfl)) Via.refl e'1 Sc (g := (mkF m 19 #[rv x0, rv x1, rv x1] [])) rfl (hb hby d35_19)
 refine goo st'2 ?_
 refine goo (fun _ k => XS.ifNo X'2.here hx rfl (hb hby d35_22) rfl (((if0 _ _).trans (feq hcz).1)) k) ?_
 show own_G _ _ _ _ (T'2.setTop (mkF m 25 #[rv x0, rv x1, rv x1] []))
 refine goo (fun _ k => XS.aloadN X'2.here hx rfl (hb hby d35_25) rfl rfl k) ?_
 obtain ⟨T'3, X'3, e'3, st'3⟩ := getF X'2 hx hZ hown (host := "") (Or.inl (qw hw 25 rfl)) Via.refl e'2 Fca (g := (mkF m 26 #[rv x0, rv x1, rv x1] [.ref x0])) rfl rfl (hb hby d35_26)
 refine goo st'3 ?_
 refine goo (fun _ k => XS.aloadN X'3.here hx rfl (hb hby d35_29) rfl rfl k) ?_
 obtain ⟨T'4, X'4, e'4, st'4⟩ := getF X'3 hx hZ hown (host := "") (Or.inl (qw hw 25 rfl)) Via.refl e'3 Fcb (g := (mkF m 30 #[rv x0, rv x1, rv x1] [.ref x1, .int i_0])) rfl rfl (hb hby d35_30)
 refine goo st'4 ?_
 refine goo (fun _ k => XS.icmpNo X'4.here hx rfl (hb hby d35_33) rfl ((teq (by decide : i_0 = i_0)).2) <| XS.aloadN X'4.here hx rfl (hb hby d35_36) rfl rfl k) ?_
 show own_G _ _ _ _ (T'4.setTop (mkF m 37 #[rv x0, rv x1, rv x1] [.ref x0]))
 obtain ⟨T'5, X'5, e'5, st'5⟩ := getF X'4 hx hZ hown (host := "") (Or.inl (qw hw 23 rfl)) Via.refl e'4 Fva (g := (mkF m 37 #[rv x0, rv x1, rv x1] [.ref x0])) rfl rfl (hb hby d35_37)
 refine goo st'5 ?_
 refine goo (fun _ k => XS.aloadN X'5.here hx rfl (hb hby d35_40) rfl rfl k) ?_
 obtain ⟨T'6, X'6, e'6, st'6⟩ := getF X'5 hx hZ hown (host := "") (Or.inl (qw hw 23 rfl)) Via.refl e'5 Fvb (g := (mkF m 41 #[rv x0, rv x1, rv x1] [.ref x1, .ref vba])) rfl rfl (hb hby d35_41)
 refine goo st'6 ?_
 obtain ⟨T'7, X'7, e'7, st'7⟩ := own_callP X'6 hx hZ (y := Y11) hown (qw hw 184 rfl) (qw hw 185 rfl) (qw hw 8 rfl) (qw hw 186 rfl) (by decide) (W := 0) (rm_leq2 l Z a0 hw [] vba vbb kba kbb y0 y1 h0 Vba Vbb) (by decide) (by decide) rfl rfl e'6 (g := (mkF m 44 #[rv x0, rv x1, rv x1] [.ref vbb, .ref vba])) rfl (by rw [hml]; rfl) (argsL := [.ref vba, .ref vbb]) (rest := []) (lenOf own_pd8 rfl) rfl rfl (Nat.le_of_eq rfl) (hb hby d35_44) (by decide) (by decide)
 refine goo st'7 ?_
 refine goo (fun _ k => XS.ifNo X'7.here hx rfl (hb hby d35_47) rfl (((if0 _ _).trans (feq (by decide : ¬ (i_1 = i_0))).1)) <| XS.iconst X'7.here hx rfl (hb hby d35_50) k) ?_
 show own_G _ _ _ _ (T'7.setTop (mkF m 51 #[rv x0, rv x1, rv x1] [.int i_1]))
 refine goo (fun _ k => XS.goto X'7.here hx rfl (pc0 := 51) (pc' := 55) rfl (hb hby d35_51) (by decide) (by decide) k) ?_
 show own_G _ _ _ _ (T'7.setTop (mkF m 55 #[rv x0, rv x1, rv x1] [.int i_1]))
 exact own_end X'7 Bd.notSynchronized (v := some (.int (nar .boolean i_1))) (fun h => by rw [Bd.returns] at h; cases h) (Q := QP (some (.int i_1)) h0) ⟨rfl, rfl, e'7⟩ (fun fs hr => retN X'7 hx (t := .boolean) Bd.returns (by simp) (hb hby d35_55) hr) (by decide) (by decide)
theorem d24_0 : decode jdk_42_method_55_code 0 = .ok (.aload_n 0, 1) := by decide +kernel
theorem d24_1 : decode jdk_42_method_55_code 1 = .ok (.getfield 9, 3) := by decide +kernel
theorem d24_4 : decode jdk_42_method_55_code 4 = .ok (.arraylength, 1) := by decide +kernel
theorem d24_5 : decode jdk_42_method_55_code 5 = .ok (.ifCond .ne 7, 3) := by decide +kernel
theorem d24_8 : decode jdk_42_method_55_code 8 = .ok (.iconst 1, 1) := by decide +kernel
theorem d24_9 : decode jdk_42_method_55_code 9 = .ok (.goto 4, 3) := by decide +kernel
theorem d24_13 : decode jdk_42_method_55_code 13 = .ok (.ireturn, 1) := by decide +kernel
theorem ef_24_R (m : MethodId) (x0 : Addr) : entryFrame m #[(.ref x0)] 1 = mkF m 0 #[.val (.ref x0)] [] := by
  first | (simp [entryFrame, mkF, argsToLocals, Value.category]; done) | rfl
theorem rm24 (l : Launch) (Z : State) (a0 : Array Value) (hw : own_HW a0 Z) (ws : List Jvm.Cond) (x0 : Addr)  (vb : Addr) (kb : ClassId) (h0 : Heap) (Fv : Fld Z h0 x0 s_0 "value" "[B" (.ref vb)) (Vb : Arv Z h0 vb kb .byte i_0 [] (.int i_0)) :
  MetFree l Y13 (head1 (Jvm.Cond.code Y13 jdk_42_method_55_code 1 (some .boolean) :: ws) (rr 0 0 0 0)) (fun a U => a = #[.ref x0] ∧ Z.Warmed39 U.vm ∧ U.heap = h0) (fun _ _ _ _ _ => True) (fun _ U o U' => ∃ v L, o = .returned v ∧ QP (some (.int i_1)) h0 v U'.heap L ∧ FrameEnd U o U' L (rr 0 0 0 0).cells (rr 0 0 0 0).slots) := by
 refine MetFree.of_bodySF (plainFor_of_name own_pn1) hisR ?_
 intro p e s m args below meth c s₁ Bd hml0 hP hK
 obtain ⟨rfl, hZ, hh⟩ := hP
 have hx := Bd.exec
 have hby := Bd.bytes
 have hml : c.maxLocals = 1 := hml0
 have hown : s.vm.findClass s_0 = some m.cls := findClass_of_methodNamed Bd.named
 have hnm := (name_of_methodNamed Bd.named Bd.method).1
 have X0 : Stand p l e (rr 0 0 0 0) s m #[.ref x0] below meth c s₁ [] 0 0 := Stand.of_body Bd
 have e0 : s₁.heap = h0 := by rw [← hh, Bd.state]; rfl
 show own_G _ _ _ _ (s₁.setTop (entryFrame m #[.ref x0] 1))
 refine goo (fun _ k => castTop (ef_24_R m x0) k) ?_
 refine goo (fun _ k => XS.aloadN X0.here hx rfl (hb hby d24_0) rfl rfl k) ?_
 obtain ⟨T'0, X'0, e'0, st'0⟩ := getF X0 hx hZ hown (host := "") (Or.inl (qw hw 23 rfl)) Via.refl e0 Fv (g := (mkF m 1 #[rv x0] [.ref x0])) rfl rfl (hb hby d24_1)
 refine goo st'0 ?_
 obtain ⟨cl114, Ar114, -, S114, N114, -, -⟩ := id Vb
 refine goo (fun _ k => X'0.arraylength hx (cell := cl114) (by rw [e'0]; exact Ar114.1) (State.isArrayOf_alike hZ.alike Ar114.2.1) (g := (mkF m 4 #[rv x0] [.ref vb])) rfl rfl (hb hby d24_4) _ (by rw [len_of S114 N114]; exact k)) ?_
 refine goo (fun _ k => XS.ifNo X'0.here hx rfl (hb hby d24_5) rfl (((if0 _ _).trans (teq (by decide : i_0 = i_0)).2)) <| XS.iconst X'0.here hx rfl (hb hby d24_8) k) ?_
 show own_G _ _ _ _ (T'0.setTop (mkF m 9 #[rv x0] [.int i_1]))
 refine goo (fun _ k => XS.goto X'0.here hx rfl (pc0 := 9) (pc' := 13) rfl (hb hby d24_9) (by decide) (by decide) k) ?_
 show own_G _ _ _ _ (T'0.setTop (mkF m 13 #[rv x0] [.int i_1]))
 exact own_end X'0 Bd.notSynchronized (v := some (.int (nar .boolean i_1))) (fun h => by rw [Bd.returns] at h; cases h) (Q := QP (some (.int i_1)) h0) ⟨rfl, rfl, e'0⟩ (fun fs hr => retN X'0 hx (t := .boolean) Bd.returns (by simp) (hb hby d24_13) hr) (by decide) (by decide)
def Q_rm_c5_2_0_2 (Z : State) (x0 : Addr) (x2 : Addr) (kc kb : ClassId) (w0 w1 : Int32) (h0 : Heap) (n0 : Nat) (v : Option Value) (h : Heap) (L : List Loc) : Prop := v = some (.int i_2) ∧ Fr n0 L ∧ Keep h0 h [x2] ∧ Arv Z h x2 kb .byte i_2 [(.int (own_by w0)), (.int (own_by w1))] (.int i_0)
theorem d9_0 : decode jdk_52_method_21_code 0 = .ok (.iconst 0, 1) := by decide +kernel
theorem d9_1 : decode jdk_52_method_21_code 1 = .ok (.istore 5, 2) := by decide +kernel
theorem d9_3 : decode jdk_52_method_21_code 3 = .ok (.iload 5, 2) := by decide +kernel
theorem d9_5 : decode jdk_52_method_21_code 5 = .ok (.iload 4, 2) := by decide +kernel
theorem d9_7 : decode jdk_52_method_21_code 7 = .ok (.if_icmp .ge 37, 3) := by decide +kernel
theorem d9_10 : decode jdk_52_method_21_code 10 = .ok (.aload_n 0, 1) := by decide +kernel
theorem d9_11 : decode jdk_52_method_21_code 11 = .ok (.iload_n 1, 1) := by decide +kernel
theorem d9_12 : decode jdk_52_method_21_code 12 = .ok (.caload, 1) := by decide +kernel
theorem d9_13 : decode jdk_52_method_21_code 13 = .ok (.istore 6, 2) := by decide +kernel
theorem d9_15 : decode jdk_52_method_21_code 15 = .ok (.iload 6, 2) := by decide +kernel
theorem d9_17 : decode jdk_52_method_21_code 17 = .ok (.sipush 255, 3) := by decide +kernel
theorem d9_20 : decode jdk_52_method_21_code 20 = .ok (.if_icmp .le 6, 3) := by decide +kernel
theorem d9_26 : decode jdk_52_method_21_code 26 = .ok (.aload_n 2, 1) := by decide +kernel
theorem d9_27 : decode jdk_52_method_21_code 27 = .ok (.iload_n 3, 1) := by decide +kernel
theorem d9_28 : decode jdk_52_method_21_code 28 = .ok (.iload 6, 2) := by decide +kernel
theorem d9_30 : decode jdk_52_method_21_code 30 = .ok (.i2b, 1) := by decide +kernel
theorem d9_31 : decode jdk_52_method_21_code 31 = .ok (.bastore, 1) := by decide +kernel
theorem d9_32 : decode jdk_52_method_21_code 32 = .ok (.iinc 1 1, 3) := by decide +kernel
theorem d9_35 : decode jdk_52_method_21_code 35 = .ok (.iinc 3 1, 3) := by decide +kernel
theorem d9_38 : decode jdk_52_method_21_code 38 = .ok (.iinc 5 1, 3) := by decide +kernel
theorem d9_41 : decode jdk_52_method_21_code 41 = .ok (.goto (-38), 3) := by decide +kernel
theorem d9_44 : decode jdk_52_method_21_code 44 = .ok (.iload 4, 2) := by decide +kernel
theorem d9_46 : decode jdk_52_method_21_code 46 = .ok (.ireturn, 1) := by decide +kernel
theorem own_pn3 : plainName "java/lang/StringUTF16" = true := by first | (simp [plainName, overriddenIn]; done) | decide +kernel
theorem ef_9_RIRII (m : MethodId) (x0 : Addr) (x1 : Int32) (x2 : Addr) (x3 : Int32) (x4 : Int32) : entryFrame m #[(.ref x0), (.int x1), (.ref x2), (.int x3), (.int x4)] 7 = mkF m 0 #[.val (.ref x0), .val (.int x1), .val (.ref x2), .val (.int x3), .val (.int x4), .unset, .unset] [] := by
  first | (simp [entryFrame, mkF, argsToLocals, Value.category]; done) | rfl
theorem rm_c5_2_0_2 (l : Launch) (Z : State) (a0 : Array Value) (hw : own_HW a0 Z) (ws : List Jvm.Cond) (x0 : Addr) (x2 : Addr) (kc kb : ClassId) (w0 w1 : Int32) (h0 : Heap) (n0 : Nat) (Z0 : n0 ≤ h0.size) (p0_ : Arv Z h0 x0 kc .char i_2 [.int w0, .int w1] (.int i_0)) (p1_ : Arv Z h0 x2 kb .byte i_2 [.int i_0, .int i_0] (.int i_0)) (p2_ : n0 ≤ x2) (p3_ : x0 ≠ x2) (p4_ : own_ok w0) (p5_ : own_ok w1)  :
  MetFree l Y14 (head1 (Jvm.Cond.code Y14 jdk_52_method_21_code 7 (some .int) :: ws) (rr 0 0 0 0)) (fun a U => a = #[.ref x0, .int i_0, .ref x2, .int i_0, .int i_2] ∧ Z.Warmed39 U.vm ∧ U.heap = h0) (fun _ _ _ _ _ => True) (fun _ U o U' => ∃ v L, o = .returned v ∧ Q_rm_c5_2_0_2 Z x0 x2 kc kb w0 w1 h0 n0 v U'.heap L ∧ FrameEnd U o U' L (rr 0 0 0 0).cells (rr 0 0 0 0).slots) := by
 refine MetFree.of_bodySF (plainFor_of_name own_pn3) hisR ?_
 intro p e s m args below meth c s₁ Bd hml0 hP hK
 obtain ⟨rfl, hZ, hh⟩ := hP
 have hx := Bd.exec
 have hby := Bd.bytes
 have hml : c.maxLocals = 7 := hml0
 have hown : s.vm.findClass s_2 = some m.cls := findClass_of_methodNamed Bd.named
 have hnm := (name_of_methodNamed Bd.named Bd.method).1
 have X0 : Stand p l e (rr 0 0 0 0) s m #[.ref x0, .int i_0, .ref x2, .int i_0, .int i_2] below meth c s₁ [] 0 0 := Stand.of_body Bd
 have e0 : s₁.heap = h0 := by rw [← hh, Bd.state]; rfl
 show own_G _ _ _ _ (s₁.setTop (entryFrame m #[.ref x0, .int i_0, .ref x2, .int i_0, .int i_2] 7))
 refine goo (fun _ k => castTop (ef_9_RIRII m x0 i_0 x2 i_0 i_2) k) ?_
 have N0 := Fr.nil n0
 have KP0 := Keep.refl h0 [x2]
 refine goo (fun _ k => XS.iconst X0.here hx rfl (hb hby d9_0) <| XS.istore X0.here hx rfl (hb hby d9_1) rfl (l' := #[rv x0, iv i_0, rv x2, iv i_0, iv i_2, iv i_0, .unset]) rfl <| XS.iload X0.here hx rfl (hb hby d9_3) rfl <| XS.iload X0.here hx rfl (hb hby d9_5) rfl k) ?_
 refine goo (fun _ k => XS.icmpNo X0.here hx rfl (hb hby d9_7) rfl ((tlt (by decide : i_0 < i_2)).2.1) k) ?_
 show own_G _ _ _ _ (s₁.setTop (mkF m 10 #[rv x0, iv i_0, rv x2, iv i_0, iv i_2, iv i_0, .unset] []))
 refine goo (fun _ k => XS.aloadN X0.here hx rfl (hb hby d9_10) rfl rfl <| XS.iloadN X0.here hx rfl (hb hby d9_11) rfl k) ?_
 obtain ⟨cl115, Ar115, -, S115, -, H115, -⟩ := id p0_
 have hin115 := inb_of S115 (j := i_0) ⟨by decide, by decide⟩
 refine goo (fun _ k => X0.caload hx (j := i_0) (v := (.int w0)) (by rw [e0]; exact Ar115.1) (State.isArrayOf_alike hZ.alike Ar115.2.1) Ar115.2.2 hin115 (H115.at hin115 rfl) (g := (mkF m 12 #[rv x0, iv i_0, rv x2, iv i_0, iv i_2, iv i_0, .unset] [.int i_0, .ref x0])) rfl rfl (hb hby d9_12) _ k) ?_
 refine goo (fun _ k => XS.istore X0.here hx rfl (hb hby d9_13) rfl (l' := #[rv x0, iv i_0, rv x2, iv i_0, iv i_2, iv i_0, iv w0]) rfl <| XS.iload X0.here hx rfl (hb hby d9_15) rfl <| XS.sipush X0.here hx rfl (hb hby d9_17) k) ?_
 show own_G _ _ _ _ (s₁.setTop (mkF m 20 #[rv x0, iv i_0, rv x2, iv i_0, iv i_2, iv i_0, iv w0] [.int i_255, .int w0]))
 refine goo (fun _ k => XS.icmpYes X0.here hx rfl (pc0 := 20) (pc' := 26) rfl (hb hby d9_20) rfl ((flt (own_le p4_)).2.2.2) (by decide) (by decide) <| XS.aloadN X0.here hx rfl (hb hby d9_26) rfl rfl <| XS.iloadN X0.here hx rfl (hb hby d9_27) rfl <| XS.iload X0.here hx rfl (hb hby d9_28) rfl k) ?_
 refine goo (fun _ k => XS.i2b X0.here hx rfl (hb hby d9_30) rfl k) ?_
 obtain ⟨cl116, Ar116, q'0, S116, N116, H116, G116⟩ := id p1_
 obtain ⟨T'0, h'0, X'0, e'0, W'0, st'0⟩ := stB X0 hx hZ e0 Ar116 (j := i_0) (inb_of S116 ⟨by decide, by decide⟩) (g := (mkF m 31 #[rv x0, iv i_0, rv x2, iv i_0, iv i_2, iv i_0, iv w0] [(.int (w0.toInt8.toInt32)), .int i_0, .ref x2])) rfl rfl (hb hby d9_31)
 have V_1 := p0_.other W'0 p3_
 have V116 : Arv Z h'0 x2 kb .byte i_2 [(.int (nar .byte (w0.toInt8.toInt32))), .int i_0] (.int i_0) := Arv.set Ar116 q'0 S116 N116 H116 G116 (fits_nar_byte _) W'0 0 rfl (Nat.le_of_ble_eq_true rfl)
 have KP_2 : Keep h0 h'0 [x2] := KP0.wr W'0 (Or.inl (List.mem_of_getElem? (i := 0) rfl))
 have N_0 := Fr.snoc X'0 N0 p2_
 refine goo st'0 ?_
 show own_G _ _ _ _ (T'0.setTop (mkF m 32 #[rv x0, iv i_0, rv x2, iv i_0, iv i_2, iv i_0, iv w0] []))
 refine goo (fun _ k => XS.iinc X'0.here hx rfl (hb hby d9_32) rfl (l' := #[rv x0, iv i_1, rv x2, iv i_0, iv i_2, iv i_0, iv w0]) rfl <| XS.iinc X'0.here hx rfl (hb hby d9_35) rfl (l' := #[rv x0, iv i_1, rv x2, iv i_1, iv i_2, iv i_0, iv w0]) rfl <| XS.iinc X'0.here hx rfl (hb hby d9_38) rfl (l' := #[rv x0, iv i_1, rv x2, iv i_1, iv i_2, iv i_1, iv w0]) rfl <| XS.goto X'0.here hx rfl (pc0 := 41) (pc' := 3) rfl (hb hby d9_41) (by decide) (by decide) k) ?_
 refine goo (fun _ k => XS.iload X'0.here hx rfl (hb hby d9_3) rfl <| XS.iload X'0.here hx rfl (hb hby d9_5) rfl k) ?_
 show own_G _ _ _ _ (T'0.setTop (mkF m 7 #[rv x0, iv i_1, rv x2, iv i_1, iv i_2, iv i_1, iv w0] [.int i_2, .int i_1]))
 refine goo (fun _ k => XS.icmpNo X'0.here hx rfl (hb hby d9_7) rfl ((tlt (by decide : i_1 < i_2)).2.1) <| XS.aloadN X'0.here hx rfl (hb hby d9_10) rfl rfl <| XS.iloadN X'0.here hx rfl (hb hby d9_11) rfl k) ?_
 obtain ⟨cl120, Ar120, -, S120, -, H120, -⟩ := id V_1
 have hin120 := inb_of S120 (j := i_1) ⟨by decide, by decide⟩
 refine goo (fun _ k => X'0.caload hx (j := i_1) (v := (.int w1)) (by rw [e'0]; exact Ar120.1) (State.isArrayOf_alike hZ.alike Ar120.2.1) Ar120.2.2 hin120 (H120.at hin120 rfl) (g := (mkF m 12 #[rv x0, iv i_1, rv x2, iv i_1, iv i_2, iv i_1, iv w0] [.int i_1, .ref x0])) rfl rfl (hb hby d9_12) _ k) ?_
 refine goo (fun _ k => XS.istore X'0.here hx rfl (hb hby d9_13) rfl (l' := #[rv x0, iv i_1, rv x2, iv i_1, iv i_2, iv i_1, iv w1]) rfl <| XS.iload X'0.here hx rfl (hb hby d9_15) rfl k) ?_
 show own_G _ _ _ _ (T'0.setTop (mkF m 17 #[rv x0, iv i_1, rv x2, iv i_1, iv i_2, iv i_1, iv w1] [.int w1]))
 refine goo (fun _ k => XS.sipush X'0.here hx rfl (hb hby d9_17) <| XS.icmpYes X'0.here hx rfl (pc0 := 20) (pc' := 26) rfl (hb hby d9_20) rfl ((flt (own_le p5_)).2.2.2) (by decide) (by decide) <| XS.aloadN X'0.here hx rfl (hb hby d9_26) rfl rfl <| XS.iloadN X'0.here hx rfl (hb hby d9_27) rfl k) ?_
 refine goo (fun _ k => XS.iload X'0.here hx rfl (hb hby d9_28) rfl <| XS.i2b X'0.here hx rfl (hb hby d9_30) rfl k) ?_
 show own_G _ _ _ _ (T'0.setTop (mkF m 31 #[rv x0, iv i_1, rv x2, iv i_1, iv i_2, iv i_1, iv w1] [(.int (w1.toInt8.toInt32)), .int i_1, .ref x2]))
 obtain ⟨cl121, Ar121, q'3, S121, N121, H121, G121⟩ := id V116
 obtain ⟨T'3, h'3, X'3, e'3, W'3, st'3⟩ := stB X'0 hx hZ e'0 Ar121 (j := i_1) (inb_of S121 ⟨by decide, by decide⟩) (g := (mkF m 31 #[rv x0, iv i_1, rv x2, iv i_1, iv i_2, iv i_1, iv w1] [(.int (w1.toInt8.toInt32)), .int i_1, .ref x2])) rfl rfl (hb hby d9_31)
 have V121 : Arv Z h'3 x2 kb .byte i_2 [(.int (nar .byte (w0.toInt8.toInt32))), (.int (nar .byte (w1.toInt8.toInt32)))] (.int i_0) := Arv.set Ar121 q'3 S121 N121 H121 G121 (fits_nar_byte _) W'3 1 rfl (Nat.le_of_ble_eq_true rfl)
 have KP_4 : Keep h0 h'3 [x2] := KP_2.wr W'3 (Or.inl (List.mem_of_getElem? (i := 0) rfl))
 have N_3 := Fr.snoc X'3 N_0 p2_
 refine goo st'3 ?_
 refine goo (fun _ k => XS.iinc X'3.here hx rfl (hb hby d9_32) rfl (l' := #[rv x0, iv i_2, rv x2, iv i_1, iv i_2, iv i_1, iv w1]) rfl <| XS.iinc X'3.here hx rfl (hb hby d9_35) rfl (l' := #[rv x0, iv i_2, rv x2, iv i_2, iv i_2, iv i_1, iv w1]) rfl <| XS.iinc X'3.here hx rfl (hb hby d9_38) rfl (l' := #[rv x0, iv i_2, rv x2, iv i_2, iv i_2, iv i_2, iv w1]) rfl <| XS.goto X'3.here hx rfl (pc0 := 41) (pc' := 3) rfl (hb hby d9_41) (by decide) (by decide) k) ?_
 refine goo (fun _ k => XS.iload X'3.here hx rfl (hb hby d9_3) rfl k) ?_
 show own_G _ _ _ _ (T'3.setTop (mkF m 5 #[rv x0, iv i_2, rv x2, iv i_2, iv i_2, iv i_2, iv w1] [.int i_2]))
 refine goo (fun _ k => XS.iload X'3.here hx rfl (hb hby d9_5) rfl <| XS.icmpYes X'3.here hx rfl (pc0 := 7) (pc' := 44) rfl (hb hby d9_7) rfl ((flt (by decide : ¬ (i_2 < i_2))).2.1) (by decide) (by decide) <| XS.iload X'3.here hx rfl (hb hby d9_44) rfl k) ?_
 show own_G _ _ _ _ (T'3.setTop (mkF m 46 #[rv x0, iv i_2, rv x2, iv i_2, iv i_2, iv i_2, iv w1] [.int i_2]))
 exact own_end X'3 Bd.notSynchronized (v := some (.int i_2)) (fun h => by rw [Bd.returns] at h; cases h) (Q := Q_rm_c5_2_0_2 Z x0 x2 kc kb w0 w1 h0 n0) (by show Q_rm_c5_2_0_2 Z x0 x2 kc kb w0 w1 h0 n0 (some (.int i_2)) T'3.heap _; rw [e'3]; exact ⟨rfl, N_3, KP_4, V121⟩) (fun fs hr => retI X'3 hx Bd.returns (hb hby d9_46) hr) (by decide) (by decide)
def Q_rm_c5_256_0_1 (Z : State) (x0 : Addr) (x2 : Addr) (kc kb : ClassId) (w0 w1 w2 w3 w4 w5 : Int32) (h0 : Heap) (n0 : Nat) (v : Option Value) (h : Heap) (L : List Loc) : Prop := v = some (.int i_1) ∧ Fr n0 L ∧ Keep h0 h [x2] ∧ Arv Z h x2 kb .byte i_1 [(.int (own_by w0))] (.int i_0)
theorem rm_c5_256_0_1 (l : Launch) (Z : State) (a0 : Array Value) (hw : own_HW a0 Z) (ws : List Jvm.Cond) (x0 : Addr) (x2 : Addr) (kc kb : ClassId) (w0 w1 w2 w3 w4 w5 : Int32) (h0 : Heap) (n0 : Nat) (Z0 : n0 ≤ h0.size) (p0_ : Arv Z h0 x0 kc .char i_256 [.int w0, .int w1, .int w2, .int w3, .int w4, .int w5] (.int i_0)) (p1_ : Arv Z h0 x2 kb .byte i_1 [.int i_0] (.int i_0)) (p2_ : n0 ≤ x2) (p3_ : x0 ≠ x2) (p4_ : own_ok w0)  :
  MetFree l Y14 (head1 (Jvm.Cond.code Y14 jdk_52_method_21_code 7 (some .int) :: ws) (rr 0 0 0 0)) (fun a U => a = #[.ref x0, .int i_0, .ref x2, .int i_0, .int i_1] ∧ Z.Warmed39 U.vm ∧ U.heap = h0) (fun _ _ _ _ _ => True) (fun _ U o U' => ∃ v L, o = .returned v ∧ Q_rm_c5_256_0_1 Z x0 x2 kc kb w0 w1 w2 w3 w4 w5 h0 n0 v U'.heap L ∧ FrameEnd U o U' L (rr 0 0 0 0).cells (rr 0 0 0 0).slots) := by
 refine MetFree.of_bodySF (plainFor_of_name own_pn3) hisR ?_
 intro p e s m args below meth c s₁ Bd hml0 hP hK
 obtain ⟨rfl, hZ, hh⟩ := hP
 have hx := Bd.exec
 have hby := Bd.bytes
 have hml : c.maxLocals = 7 := hml0
 have hown : s.vm.findClass s_2 = some m.cls := findClass_of_methodNamed Bd.named
 have hnm := (name_of_methodNamed Bd.named Bd.method).1
 have X0 : Stand p l e (rr 0 0 0 0) s m #[.ref x0, .int i_0, .ref x2, .int i_0, .int i_1] below meth c s₁ [] 0 0 := Stand.of_body Bd
 have e0 : s₁.heap = h0 := by rw [← hh, Bd.state]; rfl
 show own_G _ _ _ _ (s₁.setTop (entryFrame m #[.ref x0, .int i_0, .ref x2, .int i_0, .int i_1] 7))
 refine goo (fun _ k => castTop (ef_9_RIRII m x0 i_0 x2 i_0 i_1) k) ?_
 have N0 := Fr.nil n0
 have KP0 := Keep.refl h0 [x2]
 refine goo (fun _ k => XS.iconst X0.here hx rfl (hb hby d9_0) <| XS.istore X0.here hx rfl (hb hby d9_1) rfl (l' := #[rv x0, iv i_0, rv x2, iv i_0, iv i_1, iv i_0, .unset]) rfl <| XS.iload X0.here hx rfl (hb hby d9_3) rfl <| XS.iload X0.here hx rfl (hb hby d9_5) rfl k) ?_
 refine goo (fun _ k => XS.icmpNo X0.here hx rfl (hb hby d9_7) rfl ((tlt (by decide : i_0 < i_1)).2.1) k) ?_
 show own_G _ _ _ _ (s₁.setTop (mkF m 10 #[rv x0, iv i_0, rv x2, iv i_0, iv i_1, iv i_0, .unset] []))
 refine goo (fun _ k => XS.aloadN X0.here hx rfl (hb hby d9_10) rfl rfl <| XS.iloadN X0.here hx rfl (hb hby d9_11) rfl k) ?_
 obtain ⟨cl125, Ar125, -, S125, -, H125, -⟩ := id p0_
 have hin125 := inb_of S125 (j := i_0) ⟨by decide, by decide⟩
 refine goo (fun _ k => X0.caload hx (j := i_0) (v := (.int w0)) (by rw [e0]; exact Ar125.1) (State.isArrayOf_alike hZ.alike Ar125.2.1) Ar125.2.2 hin125 (H125.at hin125 rfl) (g := (mkF m 12 #[rv x0, iv i_0, rv x2, iv i_0, iv i_1, iv i_0, .unset] [.int i_0, .ref x0])) rfl rfl (hb hby d9_12) _ k) ?_
 refine goo (fun _ k => XS.istore X0.here hx rfl (hb hby d9_13) rfl (l' := #[rv x0, iv i_0, rv x2, iv i_0, iv i_1, iv i_0, iv w0]) rfl <| XS.iload X0.here hx rfl (hb hby d9_15) rfl <| XS.sipush X0.here hx rfl (hb hby d9_17) k) ?_
 show own_G _ _ _ _ (s₁.setTop (mkF m 20 #[rv x0, iv i_0, rv x2, iv i_0, iv i_1, iv i_0, iv w0] [.int i_255, .int w0]))
 refine goo (fun _ k => XS.icmpYes X0.here hx rfl (pc0 := 20) (pc' := 26) rfl (hb hby d9_20) rfl ((flt (own_le p4_)).2.2.2) (by decide) (by decide) <| XS.aloadN X0.here hx rfl (hb hby d9_26) rfl rfl <| XS.iloadN X0.here hx rfl (hb hby d9_27) rfl <| XS.iload X0.here hx rfl (hb hby d9_28) rfl k) ?_
 refine goo (fun _ k => XS.i2b X0.here hx rfl (hb hby d9_30) rfl k) ?_
 obtain ⟨cl126, Ar126, q'0, S126, N126, H126, G126⟩ := id p1_
 obtain ⟨T'0, h'0, X'0, e'0, W'0, st'0⟩ := stB X0 hx hZ e0 Ar126 (j := i_0) (inb_of S126 ⟨by decide, by decide⟩) (g := (mkF m 31 #[rv x0, iv i_0, rv x2, iv i_0, iv i_1, iv i_0, iv w0] [(.int (w0.toInt8.toInt32)), .int i_0, .ref x2])) rfl rfl (hb hby d9_31)
 have V126 : Arv Z h'0 x2 kb .byte i_1 [(.int (nar .byte (w0.toInt8.toInt32)))] (.int i_0) := Arv.set Ar126 q'0 S126 N126 H126 G126 (fits_nar_byte _) W'0 0 rfl (Nat.le_of_ble_eq_true rfl)
 have KP_1 : Keep h0 h'0 [x2] := KP0.wr W'0 (Or.inl (List.mem_of_getElem? (i := 0) rfl))
 have N_0 := Fr.snoc X'0 N0 p2_
 refine goo st'0 ?_
 show own_G _ _ _ _ (T'0.setTop (mkF m 32 #[rv x0, iv i_0, rv x2, iv i_0, iv i_1, iv i_0, iv w0] []))
 refine goo (fun _ k => XS.iinc X'0.here hx rfl (hb hby d9_32) rfl (l' := #[rv x0, iv i_1, rv x2, iv i_0, iv i_1, iv i_0, iv w0]) rfl <| XS.iinc X'0.here hx rfl (hb hby d9_35) rfl (l' := #[rv x0, iv i_1, rv x2, iv i_1, iv i_1, iv i_0, iv w0]) rfl <| XS.iinc X'0.here hx rfl (hb hby d9_38) rfl (l' := #[rv x0, iv i_1, rv x2, iv i_1, iv i_1, iv i_1, iv w0]) rfl <| XS.goto X'0.here hx rfl (pc0 := 41) (pc' := 3) rfl (hb hby d9_41) (by decide) (by decide) k) ?_
 refine goo (fun _ k => XS.iload X'0.here hx rfl (hb hby d9_3) rfl <| XS.iload X'0.here hx rfl (hb hby d9_5) rfl k) ?_
 show own_G _ _ _ _ (T'0.setTop (mkF m 7 #[rv x0, iv i_1, rv x2, iv i_1, iv i_1, iv i_1, iv w0] [.int i_1, .int i_1]))
 refine goo (fun _ k => XS.icmpYes X'0.here hx rfl (pc0 := 7) (pc' := 44) rfl (hb hby d9_7) rfl ((flt (by decide : ¬ (i_1 < i_1))).2.1) (by decide) (by decide) <| XS.iload X'0.here hx rfl (hb hby d9_44) rfl k) ?_
 show own_G _ _ _ _ (T'0.setTop (mkF m 46 #[rv x0, iv i_1, rv x2, iv i_1, iv i_1, iv i_1, iv w0] [.int i_1]))
 exact own_end X'0 Bd.notSynchronized (v := some (.int i_1)) (fun h => by rw [Bd.returns] at h; cases h) (Q := Q_rm_c5_256_0_1 Z x0 x2 kc kb w0 w1 w2 w3 w4 w5 h0 n0) (by show Q_rm_c5_256_0_1 Z x0 x2 kc kb w0 w1 w2 w3 w4 w5 h0 n0 (some (.int i_1)) T'0.heap _; rw [e'0]; exact ⟨rfl, N_0, KP_1, V126⟩) (fun fs hr => retI X'0 hx Bd.returns (hb hby d9_46) hr) (by decide) (by decide)
def Q_rm_c5_256_1_1 (Z : State) (x0 : Addr) (x2 : Addr) (kc kb : ClassId) (w0 w1 w2 w3 w4 w5 : Int32) (h0 : Heap) (n0 : Nat) (v : Option Value) (h : Heap) (L : List Loc) : Prop := v = some (.int i_1) ∧ Fr n0 L ∧ Keep h0 h [x2] ∧ Arv Z h x2 kb .byte i_1 [(.int (own_by w1))] (.int i_0)
theorem rm_c5_256_1_1 (l : Launch) (Z : State) (a0 : Array Value) (hw : own_HW a0 Z) (ws : List Jvm.Cond) (x0 : Addr) (x2 : Addr) (kc kb : ClassId) (w0 w1 w2 w3 w4 w5 : Int32) (h0 : Heap) (n0 : Nat) (Z0 : n0 ≤ h0.size) (p0_ : Arv Z h0 x0 kc .char i_256 [.int w0, .int w1, .int w2, .int w3, .int w4, .int w5] (.int i_0)) (p1_ : Arv Z h0 x2 kb .byte i_1 [.int i_0] (.int i_0)) (p2_ : n0 ≤ x2) (p3_ : x0 ≠ x2) (p4_ : own_ok w1)  :
  MetFree l Y14 (head1 (Jvm.Cond.code Y14 jdk_52_method_21_code 7 (some .int) :: ws) (rr 0 0 0 0)) (fun a U => a = #[.ref x0, .int i_1, .ref x2, .int i_0, .int i_1] ∧ Z.Warmed39 U.vm ∧ U.heap = h0) (fun _ _ _ _ _ => True) (fun _ U o U' => ∃ v L, o = .returned v ∧ Q_rm_c5_256_1_1 Z x0 x2 kc kb w0 w1 w2 w3 w4 w5 h0 n0 v U'.heap L ∧ FrameEnd U o U' L (rr 0 0 0 0).cells (rr 0 0 0 0).slots) := by
 refine MetFree.of_bodySF (plainFor_of_name own_pn3) hisR ?_
 intro p e s m args below meth c s₁ Bd hml0 hP hK
 obtain ⟨rfl, hZ, hh⟩ := hP
 have hx := Bd.exec
 have hby := Bd.bytes
 have hml : c.maxLocals = 7 := hml0
 have hown : s.vm.findClass s_2 = some m.cls := findClass_of_methodNamed Bd.named
 have hnm := (name_of_methodNamed Bd.named Bd.method).1
 have X0 : Stand p l e (rr 0 0 0 0) s m #[.ref x0, .int i_1, .ref x2, .int i_0, .int i_1] below meth c s₁ [] 0 0 := Stand.of_body Bd
 have e0 : s₁.heap = h0 := by rw [← hh, Bd.state]; rfl
 show own_G _ _ _ _ (s₁.setTop (entryFrame m #[.ref x0, .int i_1, .ref x2, .int i_0, .int i_1] 7))
 refine goo (fun _ k => castTop (ef_9_RIRII m x0 i_1 x2 i_0 i_1) k) ?_
 have N0 := Fr.nil n0
 have KP0 := Keep.refl h0 [x2]
 refine goo (fun _ k => XS.iconst X0.here hx rfl (hb hby d9_0) <| XS.istore X0.here hx rfl (hb hby d9_1) rfl (l' := #[rv x0, iv i_1, rv x2, iv i_0, iv i_1, iv i_0, .unset]) rfl <| XS.iload X0.here hx rfl (hb hby d9_3) rfl <| XS.iload X0.here hx rfl (hb hby d9_5) rfl k) ?_
 refine goo (fun _ k => XS.icmpNo X0.here hx rfl (hb hby d9_7) rfl ((tlt (by decide : i_0 < i_1)).2.1) k) ?_
 show own_G _ _ _ _ (s₁.setTop (mkF m 10 #[rv x0, iv i_1, rv x2, iv i_0, iv i_1, iv i_0, .unset] []))
 refine goo (fun _ k => XS.aloadN X0.here hx rfl (hb hby d9_10) rfl rfl <| XS.iloadN X0.here hx rfl (hb hby d9_11) rfl k) ?_
 obtain ⟨cl130, Ar130, -, S130, -, H130, -⟩ := id p0_
 have hin130 := inb_of S130 (j := i_1) ⟨by decide, by decide⟩
 refine goo (fun _ k => X0.caload hx (j := i_1) (v := (.int w1)) (by rw [e0]; exact Ar130.1) (State.isArrayOf_alike hZ.alike Ar130.2.1) Ar130.2.2 hin130 (H130.at hin130 rfl) (g := (mkF m 12 #[rv x0, iv i_1, rv x2, iv i_0, iv i_1, iv i_0, .unset] [.int i_1, .ref x0])) rfl rfl (hb hby d9_12) _ k) ?_
 refine goo (fun _ k => XS.istore X0.here hx rfl (hb hby d9_13) rfl (l' := #[rv x0, iv i_1, rv x2, iv i_0, iv i_1, iv i_0, iv w1]) rfl <| XS.iload X0.here hx rfl (hb hby d9_15) rfl <| XS.sipush X0.here hx rfl (hb hby d9_17) k) ?_
 show own_G _ _ _ _ (s₁.setTop (mkF m 20 #[rv x0, iv i_1, rv x2, iv i_0, iv i_1, iv i_0, iv w1] [.int i_255, .int w1]))
 refine goo (fun _ k => XS.icmpYes X0.here hx rfl (pc0 := 20) (pc' := 26) rfl (hb hby d9_20) rfl ((flt (own_le p4_)).2.2.2) (by decide) (by decide) <| XS.aloadN X0.here hx rfl (hb hby d9_26) rfl rfl <| XS.iloadN X0.here hx rfl (hb hby d9_27) rfl <| XS.iload X0.here hx rfl (hb hby d9_28) rfl k) ?_
 refine goo (fun _ k => XS.i2b X0.here hx rfl (hb hby d9_30) rfl k) ?_
 obtain ⟨cl131, Ar131, q'0, S131, N131, H131, G131⟩ := id p1_
 obtain ⟨T'0, h'0, X'0, e'0, W'0, st'0⟩ := stB X0 hx hZ e0 Ar131 (j := i_0) (inb_of S131 ⟨by decide, by decide⟩) (g := (mkF m 31 #[rv x0, iv i_1, rv x2, iv i_0, iv i_1, iv i_0, iv w1] [(.int (w1.toInt8.toInt32)), .int i_0, .ref x2])) rfl rfl (hb hby d9_31)
 have V131 : Arv Z h'0 x2 kb .byte i_1 [(.int (nar .byte (w1.toInt8.toInt32)))] (.int i_0) := Arv.set Ar131 q'0 S131 N131 H131 G131 (fits_nar_byte _) W'0 0 rfl (Nat.le_of_ble_eq_true rfl)
 have KP_1 : Keep h0 h'0 [x2] := KP0.wr W'0 (Or.inl (List.mem_of_getElem? (i := 0) rfl))
 have N_0 := Fr.snoc X'0 N0 p2_
 refine goo st'0 ?_
 show own_G _ _ _ _ (T'0.setTop (mkF m 32 #[rv x0, iv i_1, rv x2, iv i_0, iv i_1, iv i_0, iv w1] []))
 refine goo (fun _ k => XS.iinc X'0.here hx rfl (hb hby d9_32) rfl (l' := #[rv x0, iv i_2, rv x2, iv i_0, iv i_1, iv i_0, iv w1]) rfl <| XS.iinc X'0.here hx rfl (hb hby d9_35) rfl (l' := #[rv x0, iv i_2, rv x2, iv i_1, iv i_1, iv i_0, iv w1]) rfl <| XS.iinc X'0.here hx rfl (hb hby d9_38) rfl (l' := #[rv x0, iv i_2, rv x2, iv i_1, iv i_1, iv i_1, iv w1]) rfl <| XS.goto X'0.here hx rfl (pc0 := 41) (pc' := 3) rfl (hb hby d9_41) (by decide) (by decide) k) ?_
 refine goo (fun _ k => XS.iload X'0.here hx rfl (hb hby d9_3) rfl <| XS.iload X'0.here hx rfl (hb hby d9_5) rfl k) ?_
 show own_G _ _ _ _ (T'0.setTop (mkF m 7 #[rv x0, iv i_2, rv x2, iv i_1, iv i_1, iv i_1, iv w1] [.int i_1, .int i_1]))
 refine goo (fun _ k => XS.icmpYes X'0.here hx rfl (pc0 := 7) (pc' := 44) rfl (hb hby d9_7) rfl ((flt (by decide : ¬ (i_1 < i_1))).2.1) (by decide) (by decide) <| XS.iload X'0.here hx rfl (hb hby d9_44) rfl k) ?_
 show own_G _ _ _ _ (T'0.setTop (mkF m 46 #[rv x0, iv i_2, rv x2, iv i_1, iv i_1, iv i_1, iv w1] [.int i_1]))
 exact own_end X'0 Bd.notSynchronized (v := some (.int i_1)) (fun h => by rw [Bd.returns] at h; cases h) (Q := Q_rm_c5_256_1_1 Z x0 x2 kc kb w0 w1 w2 w3 w4 w5 h0 n0) (by show Q_rm_c5_256_1_1 Z x0 x2 kc kb w0 w1 w2 w3 w4 w5 h0 n0 (some (.int i_1)) T'0.heap _; rw [e'0]; exact ⟨rfl, N_0, KP_1, V131⟩) (fun fs hr => retI X'0 hx Bd.returns (hb hby d9_46) hr) (by decide) (by decide)
def Q_rm_c5_256_3_1 (Z : State) (x0 : Addr) (x2 : Addr) (kc kb : ClassId) (w0 w1 w2 w3 w4 w5 : Int32) (h0 : Heap) (n0 : Nat) (v : Option Value) (h : Heap) (L : List Loc) : Prop := v = some (.int i_1) ∧ Fr n0 L ∧ Keep h0 h [x2] ∧ Arv Z h x2 kb .byte i_1 [(.int (own_by w3))] (.int i_0)
theorem rm_c5_256_3_1 (l : Launch) (Z : State) (a0 : Array Value) (hw : own_HW a0 Z) (ws : List Jvm.Cond) (x0 : Addr) (x2 : Addr) (kc kb : ClassId) (w0 w1 w2 w3 w4 w5 : Int32) (h0 : Heap) (n0 : Nat) (Z0 : n0 ≤ h0.size) (p0_ : Arv Z h0 x0 kc .char i_256 [.int w0, .int w1, .int w2, .int w3, .int w4, .int w5] (.int i_0)) (p1_ : Arv Z h0 x2 kb .byte i_1 [.int i_0] (.int i_0)) (p2_ : n0 ≤ x2) (p3_ : x0 ≠ x2) (p4_ : own_ok w3)  :
  MetFree l Y14 (head1 (Jvm.Cond.code Y14 jdk_52_method_21_code 7 (some .int) :: ws) (rr 0 0 0 0)) (fun a U => a = #[.ref x0, .int i_3, .ref x2, .int i_0, .int i_1] ∧ Z.Warmed39 U.vm ∧ U.heap = h0) (fun _ _ _ _ _ => True) (fun _ U o U' => ∃ v L, o = .returned v ∧ Q_rm_c5_256_3_1 Z x0 x2 kc kb w0 w1 w2 w3 w4 w5 h0 n0 v U'.heap L ∧ FrameEnd U o U' L (rr 0 0 0 0).cells (rr 0 0 0 0).slots) := by
 refine MetFree.of_bodySF (plainFor_of_name own_pn3) hisR ?_
 intro p e s m args below meth c s₁ Bd hml0 hP hK
 obtain ⟨rfl, hZ, hh⟩ := hP
 have hx := Bd.exec
 have hby := Bd.bytes
 have hml : c.maxLocals = 7 := hml0
 have hown : s.vm.findClass s_2 = some m.cls := findClass_of_methodNamed Bd.named
 have hnm := (name_of_methodNamed Bd.named Bd.method).1
 have X0 : Stand p l e (rr 0 0 0 0) s m #[.ref x0, .int i_3, .ref x2, .int i_0, .int i_1] below meth c s₁ [] 0 0 := Stand.of_body Bd
 have e0 : s₁.heap = h0 := by rw [← hh, Bd.state]; rfl
 show own_G _ _ _ _ (s₁.setTop (entryFrame m #[.ref x0, .int i_3, .ref x2, .int i_0, .int i_1] 7))
 refine goo (fun _ k => castTop (ef_9_RIRII m x0 i_3 x2 i_0 i_1) k) ?_
 have N0 := Fr.nil n0
 have KP0 := Keep.refl h0 [x2]
 refine goo (fun _ k => XS.iconst X0.here hx rfl (hb hby d9_0) <| XS.istore X0.here hx rfl (hb hby d9_1) rfl (l' := #[rv x0, iv i_3, rv x2, iv i_0, iv i_1, iv i_0, .unset]) rfl <| XS.iload X0.here hx rfl (hb hby d9_3) rfl <| XS.iload X0.here hx rfl (hb hby d9_5) rfl k) ?_
 refine goo (fun _ k => XS.icmpNo X0.here hx rfl (hb hby d9_7) rfl ((tlt (by decide : i_0 < i_1)).2.1) k) ?_
 show own_G _ _ _ _ (s₁.setTop (mkF m 10 #[rv x0, iv i_3, rv x2, iv i_0, iv i_1, iv i_0, .unset] []))
 refine goo (fun _ k => XS.aloadN X0.here hx rfl (hb hby d9_10) rfl rfl <| XS.iloadN X0.here hx rfl (hb hby d9_11) rfl k) ?_
 obtain ⟨cl135, Ar135, -, S135, -, H135, -⟩ := id p0_
 have hin135 := inb_of S135 (j := i_3) ⟨by decide, by decide⟩
 refine goo (fun _ k => X0.caload hx (j := i_3) (v := (.int w3)) (by rw [e0]; exact Ar135.1) (State.isArrayOf_alike hZ.alike Ar135.2.1) Ar135.2.2 hin135 (H135.at hin135 rfl) (g := (mkF m 12 #[rv x0, iv i_3, rv x2, iv i_0, iv i_1, iv i_0, .unset] [.int i_3, .ref x0])) rfl rfl (hb hby d9_12) _ k) ?_
 refine goo (fun _ k => XS.istore X0.here hx rfl (hb hby d9_13) rfl (l' := #[rv x0, iv i_3, rv x2, iv i_0, iv i_1, iv i_0, iv w3]) rfl <| XS.iload X0.here hx rfl (hb hby d9_15) rfl <| XS.sipush X0.here hx rfl (hb hby d9_17) k) ?_
 show own_G _ _ _ _ (s₁.setTop (mkF m 20 #[rv x0, iv i_3, rv x2, iv i_0, iv i_1, iv i_0, iv w3] [.int i_255, .int w3]))
 refine goo (fun _ k => XS.icmpYes X0.here hx rfl (pc0 := 20) (pc' := 26) rfl (hb hby d9_20) rfl ((flt (own_le p4_)).2.2.2) (by decide) (by decide) <| XS.aloadN X0.here hx rfl (hb hby d9_26) rfl rfl <| XS.iloadN X0.here hx rfl (hb hby d9_27) rfl <| XS.iload X0.here hx rfl (hb hby d9_28) rfl k) ?_
 refine goo (fun _ k => XS.i2b X0.here hx rfl (hb hby d9_30) rfl k) ?_
 obtain ⟨cl136, Ar136, q'0, S136, N136, H136, G136⟩ := id p1_
 obtain ⟨T'0, h'0, X'0, e'0, W'0, st'0⟩ := stB X0 hx hZ e0 Ar136 (j := i_0) (inb_of S136 ⟨by decide, by decide⟩) (g := (mkF m 31 #[rv x0, iv i_3, rv x2, iv i_0, iv i_1, iv i_0, iv w3] [(.int (w3.toInt8.toInt32)), .int i_0, .ref x2])) rfl rfl (hb hby d9_31)
 have V136 : Arv Z h'0 x2 kb .byte i_1 [(.int (nar .byte (w3.toInt8.toInt32)))] (.int i_0) := Arv.set Ar136 q'0 S136 N136 H136 G136 (fits_nar_byte _) W'0 0 rfl (Nat.le_of_ble_eq_true rfl)
 have KP_1 : Keep h0 h'0 [x2] := KP0.wr W'0 (Or.inl (List.mem_of_getElem? (i := 0) rfl))
 have N_0 := Fr.snoc X'0 N0 p2_
 refine goo st'0 ?_
 show own_G _ _ _ _ (T'0.setTop (mkF m 32 #[rv x0, iv i_3, rv x2, iv i_0, iv i_1, iv i_0, iv w3] []))
 refine goo (fun _ k => XS.iinc X'0.here hx rfl (hb hby d9_32) rfl (l' := #[rv x0, iv i_4, rv x2, iv i_0, iv i_1, iv i_0, iv w3]) rfl <| XS.iinc X'0.here hx rfl (hb hby d9_35) rfl (l' := #[rv x0, iv i_4, rv x2, iv i_1, iv i_1, iv i_0, iv w3]) rfl <| XS.iinc X'0.here hx rfl (hb hby d9_38) rfl (l' := #[rv x0, iv i_4, rv x2, iv i_1, iv i_1, iv i_1, iv w3]) rfl <| XS.goto X'0.here hx rfl (pc0 := 41) (pc' := 3) rfl (hb hby d9_41) (by decide) (by decide) k) ?_
 refine goo (fun _ k => XS.iload X'0.here hx rfl (hb hby d9_3) rfl <| XS.iload X'0.here hx rfl (hb hby d9_5) rfl k) ?_
 show own_G _ _ _ _ (T'0.setTop (mkF m 7 #[rv x0, iv i_4, rv x2, iv i_1, iv i_1, iv i_1, iv w3] [.int i_1, .int i_1]))
 refine goo (fun _ k => XS.icmpYes X'0.here hx rfl (pc0 := 7) (pc' := 44) rfl (hb hby d9_7) rfl ((flt (by decide : ¬ (i_1 < i_1))).2.1) (by decide) (by decide) <| XS.iload X'0.here hx rfl (hb hby d9_44) rfl k) ?_
 show own_G _ _ _ _ (T'0.setTop (mkF m 46 #[rv x0, iv i_4, rv x2, iv i_1, iv i_1, iv i_1, iv w3] [.int i_1]))
 exact own_end X'0 Bd.notSynchronized (v := some (.int i_1)) (fun h => by rw [Bd.returns] at h; cases h) (Q := Q_rm_c5_256_3_1 Z x0 x2 kc kb w0 w1 w2 w3 w4 w5 h0 n0) (by show Q_rm_c5_256_3_1 Z x0 x2 kc kb w0 w1 w2 w3 w4 w5 h0 n0 (some (.int i_1)) T'0.heap _; rw [e'0]; exact ⟨rfl, N_0, KP_1, V136⟩) (fun fs hr => retI X'0 hx Bd.returns (hb hby d9_46) hr) (by decide) (by decide)
def Q_rm_c5_256_1_2 (Z : State) (x0 : Addr) (x2 : Addr) (kc kb : ClassId) (w0 w1 w2 w3 w4 w5 : Int32) (h0 : Heap) (n0 : Nat) (v : Option Value) (h : Heap) (L : List Loc) : Prop := v = some (.int i_2) ∧ Fr n0 L ∧ Keep h0 h [x2] ∧ Arv Z h x2 kb .byte i_2 [(.int (own_by w1)), (.int (own_by w2))] (.int i_0)
theorem rm_c5_256_1_2 (l : Launch) (Z : State) (a0 : Array Value) (hw : own_HW a0 Z) (ws : List Jvm.Cond) (x0 : Addr) (x2 : Addr) (kc kb : ClassId) (w0 w1 w2 w3 w4 w5 : Int32) (h0 : Heap) (n0 : Nat) (Z0 : n0 ≤ h0.size) (p0_ : Arv Z h0 x0 kc .char i_256 [.int w0, .int w1, .int w2, .int w3, .int w4, .int w5] (.int i_0)) (p1_ : Arv Z h0 x2 kb .byte i_2 [.int i_0, .int i_0] (.int i_0)) (p2_ : n0 ≤ x2) (p3_ : x0 ≠ x2) (p4_ : own_ok w1) (p5_ : own_ok w2)  :
  MetFree l Y14 (head1 (Jvm.Cond.code Y14 jdk_52_method_21_code 7 (some .int) :: ws) (rr 0 0 0 0)) (fun a U => a = #[.ref x0, .int i_1, .ref x2, .int i_0, .int i_2] ∧ Z.Warmed39 U.vm ∧ U.heap = h0) (fun _ _ _ _ _ => True) (fun _ U o U' => ∃ v L, o = .returned v ∧ Q_rm_c5_256_1_2 Z x0 x2 kc kb w0 w1 w2 w3 w4 w5 h0 n0 v U'.heap L ∧ FrameEnd U o U' L (rr 0 0 0 0).cells (rr 0 0 0 0).slots) := by
 refine MetFree.of_bodySF (plainFor_of_name own_pn3) hisR ?_
 intro p e s m args below meth c s₁ Bd hml0 hP hK
 obtain ⟨rfl, hZ, hh⟩ := hP
 have hx := Bd.exec
 have hby := Bd.bytes
 have hml : c.maxLocals = 7 := hml0
 have hown : s.vm.findClass s_2 = some m.cls := findClass_of_methodNamed Bd.named
 have hnm := (name_of_methodNamed Bd.named Bd.method).1
 have X0 : Stand p l e (rr 0 0 0 0) s m #[.ref x0, .int i_1, .ref x2, .int i_0, .int i_2] below meth c s₁ [] 0 0 := Stand.of_body Bd
 have e0 : s₁.heap = h0 := by rw [← hh, Bd.state]; rfl
 show own_G _ _ _ _ (s₁.setTop (entryFrame m #[.ref x0, .int i_1, .ref x2, .int i_0, .int i_2] 7))
 refine goo (fun _ k => castTop (ef_9_RIRII m x0 i_1 x2 i_0 i_2) k) ?_
 have N0 := Fr.nil n0
 have KP0 := Keep.refl h0 [x2]
 refine goo (fun _ k => XS.iconst X0.here hx rfl (hb hby d9_0) <| XS.istore X0.here hx rfl (hb hby d9_1) rfl (l' := #[rv x0, iv i_1, rv x2, iv i_0, iv i_2, iv i_0, .unset]) rfl <| XS.iload X0.here hx rfl (hb hby d9_3) rfl <| XS.iload X0.here hx rfl (hb hby d9_5) rfl k) ?_
 refine goo (fun _ k => XS.icmpNo X0.here hx rfl (hb hby d9_7) rfl ((tlt (by decide : i_0 < i_2)).2.1) k) ?_
 show own_G _ _ _ _ (s₁.setTop (mkF m 10 #[rv x0, iv i_1, rv x2, iv i_0, iv i_2, iv i_0, .unset] []))
 refine goo (fun _ k => XS.aloadN X0.here hx rfl (hb hby d9_10) rfl rfl <| XS.iloadN X0.here hx rfl (hb hby d9_11) rfl k) ?_
 obtain ⟨cl140, Ar140, -, S140, -, H140, -⟩ := id p0_
 have hin140 := inb_of S140 (j := i_1) ⟨by decide, by decide⟩
 refine goo (fun _ k => X0.caload hx (j := i_1) (v := (.int w1)) (by rw [e0]; exact Ar140.1) (State.isArrayOf_alike hZ.alike Ar140.2.1) Ar140.2.2 hin140 (H140.at hin140 rfl) (g := (mkF m 12 #[rv x0, iv i_1, rv x2, iv i_0, iv i_2, iv i_0, .unset] [.int i_1, .ref x0])) rfl rfl (hb hby d9_12) _ k) ?_
 refine goo (fun _ k => XS.istore X0.here hx rfl (hb hby d9_13) rfl (l' := #[rv x0, iv i_1, rv x2, iv i_0, iv i_2, iv i_0, iv w1]) rfl <| XS.iload X0.here hx rfl (hb hby d9_15) rfl <| XS.sipush X0.here hx rfl (hb hby d9_17) k) ?_
 show own_G _ _ _ _ (s₁.setTop (mkF m 20 #[rv x0, iv i_1, rv x2, iv i_0, iv i_2, iv i_0, iv w1] [.int i_255, .int w1]))
 refine goo (fun _ k => XS.icmpYes X0.here hx rfl (pc0 := 20) (pc' := 26) rfl (hb hby d9_20) rfl ((flt (own_le p4_)).2.2.2) (by decide) (by decide) <| XS.aloadN X0.here hx rfl (hb hby d9_26) rfl rfl <| XS.iloadN X0.here hx rfl (hb hby d9_27) rfl <| XS.iload X0.here hx rfl (hb hby d9_28) rfl k) ?_
 refine goo (fun _ k => XS.i2b X0.here hx rfl (hb hby d9_30) rfl k) ?_
 obtain ⟨cl141, Ar141, q'0, S141, N141, H141, G141⟩ := id p1_
 obtain ⟨T'0, h'0, X'0, e'0, W'0, st'0⟩ := stB X0 hx hZ e0 Ar141 (j := i_0) (inb_of S141 ⟨by decide, by decide⟩) (g := (mkF m 31 #[rv x0, iv i_1, rv x2, iv i_0, iv i_2, iv i_0, iv w1] [(.int (w1.toInt8.toInt32)), .int i_0, .ref x2])) rfl rfl (hb hby d9_31)
 have V_1 := p0_.other W'0 p3_
 have V141 : Arv Z h'0 x2 kb .byte i_2 [(.int (nar .byte (w1.toInt8.toInt32))), .int i_0] (.int i_0) := Arv.set Ar141 q'0 S141 N141 H141 G141 (fits_nar_byte _) W'0 0 rfl (Nat.le_of_ble_eq_true rfl)
 have KP_2 : Keep h0 h'0 [x2] := KP0.wr W'0 (Or.inl (List.mem_of_getElem? (i := 0) rfl))
 have N_0 := Fr.snoc X'0 N0 p2_
 refine goo st'0 ?_
 show own_G _ _ _ _ (T'0.setTop (mkF m 32 #[rv x0, iv i_1, rv x2, iv i_0, iv i_2, iv i_0, iv w1] []))
 refine goo (fun _ k => XS.iinc X'0.here hx rfl (hb hby d9_32) rfl (l' := #[rv x0, iv i_2, rv x2, iv i_0, iv i_2, iv i_0, iv w1]) rfl <| XS.iinc X'0.here hx rfl (hb hby d9_35) rfl (l' := #[rv x0, iv i_2, rv x2, iv i_1, iv i_2, iv i_0, iv w1]) rfl <| XS.iinc X'0.here hx rfl (hb hby d9_38) rfl (l' := #[rv x0, iv i_2, rv x2, iv i_1, iv i_2, iv i_1, iv w1]) rfl <| XS.goto X'0.here hx rfl (pc0 := 41) (pc' := 3) rfl (hb hby d9_41) (by decide) (by decide) k) ?_
 refine goo (fun _ k => XS.iload X'0.here hx rfl (hb hby d9_3) rfl <| XS.iload X'0.here hx rfl (hb hby d9_5) rfl k) ?_
 show own_G _ _ _ _ (T'0.setTop (mkF m 7 #[rv x0, iv i_2, rv x2, iv i_1, iv i_2, iv i_1, iv w1] [.int i_2, .int i_1]))
 refine goo (fun _ k => XS.icmpNo X'0.here hx rfl (hb hby d9_7) rfl ((tlt (by decide : i_1 < i_2)).2.1) <| XS.aloadN X'0.here hx rfl (hb hby d9_10) rfl rfl <| XS.iloadN X'0.here hx rfl (hb hby d9_11) rfl k) ?_
 obtain ⟨cl145, Ar145, -, S145, -, H145, -⟩ := id V_1
 have hin145 := inb_of S145 (j := i_2) ⟨by decide, by decide⟩
 refine goo (fun _ k => X'0.caload hx (j := i_2) (v := (.int w2)) (by rw [e'0]; exact Ar145.1) (State.isArrayOf_alike hZ.alike Ar145.2.1) Ar145.2.2 hin145 (H145.at hin145 rfl) (g := (mkF m 12 #[rv x0, iv i_2, rv x2, iv i_1, iv i_2, iv i_1, iv w1] [.int i_2, .ref x0])) rfl rfl (hb hby d9_12) _ k) ?_
 refine goo (fun _ k => XS.istore X'0.here hx rfl (hb hby d9_13) rfl (l' := #[rv x0, iv i_2, rv x2, iv i_1, iv i_2, iv i_1, iv w2]) rfl <| XS.iload X'0.here hx rfl (hb hby d9_15) rfl k) ?_
 show own_G _ _ _ _ (T'0.setTop (mkF m 17 #[rv x0, iv i_2, rv x2, iv i_1, iv i_2, iv i_1, iv w2] [.int w2]))
 refine goo (fun _ k => XS.sipush X'0.here hx rfl (hb hby d9_17) <| XS.icmpYes X'0.here hx rfl (pc0 := 20) (pc' := 26) rfl (hb hby d9_20) rfl ((flt (own_le p5_)).2.2.2) (by decide) (by decide) <| XS.aloadN X'0.here hx rfl (hb hby d9_26) rfl rfl <| XS.iloadN X'0.here hx rfl (hb hby d9_27) rfl k) ?_
 refine goo (fun _ k => XS.iload X'0.here hx rfl (hb hby d9_28) rfl <| XS.i2b X'0.here hx rfl (hb hby d9_30) rfl k) ?_
 show own_G _ _ _ _ (T'0.setTop (mkF m 31 #[rv x0, iv i_2, rv x2, iv i_1, iv i_2, iv i_1, iv w2] [(.int (w2.toInt8.toInt32)), .int i_1, .ref x2]))
 obtain ⟨cl146, Ar146, q'3, S146, N146, H146, G146⟩ := id V141
 obtain ⟨T'3, h'3, X'3, e'3, W'3, st'3⟩ := stB X'0 hx hZ e'0 Ar146 (j := i_1) (inb_of S146 ⟨by decide, by decide⟩) (g := (mkF m 31 #[rv x0, iv i_2, rv x2, iv i_1, iv i_2, iv i_1, iv w2] [(.int (w2.toInt8.toInt32)), .int i_1, .ref x2])) rfl rfl (hb hby d9_31)
 have V146 : Arv Z h'3 x2 kb .byte i_2 [(.int (nar .byte (w1.toInt8.toInt32))), (.int (nar .byte (w2.toInt8.toInt32)))] (.int i_0) := Arv.set Ar146 q'3 S146 N146 H146 G146 (fits_nar_byte _) W'3 1 rfl (Nat.le_of_ble_eq_true rfl)
 have KP_4 : Keep h0 h'3 [x2] := KP_2.wr W'3 (Or.inl (List.mem_of_getElem? (i := 0) rfl))
 have N_3 := Fr.snoc X'3 N_0 p2_
 refine goo st'3 ?_
 refine goo (fun _ k => XS.iinc X'3.here hx rfl (hb hby d9_32) rfl (l' := #[rv x0, iv i_3, rv x2, iv i_1, iv i_2, iv i_1, iv w2]) rfl <| XS.iinc X'3.here hx rfl (hb hby d9_35) rfl (l' := #[rv x0, iv i_3, rv x2, iv i_2, iv i_2, iv i_1, iv w2]) rfl <| XS.iinc X'3.here hx rfl (hb hby d9_38) rfl (l' := #[rv x0, iv i_3, rv x2, iv i_2, iv i_2, iv i_2, iv w2]) rfl <| XS.goto X'3.here hx rfl (pc0 := 41) (pc' := 3) rfl (hb hby d9_41) (by decide) (by decide) k) ?_
 refine goo (fun _ k => XS.iload X'3.here hx rfl (hb hby d9_3) rfl k) ?_
 show own_G _ _ _ _ (T'3.setTop (mkF m 5 #[rv x0, iv i_3, rv x2, iv i_2, iv i_2, iv i_2, iv w2] [.int i_2]))
 refine goo (fun _ k => XS.iload X'3.here hx rfl (hb hby d9_5) rfl <| XS.icmpYes X'3.here hx rfl (pc0 := 7) (pc' := 44) rfl (hb hby d9_7) rfl ((flt (by decide : ¬ (i_2 < i_2))).2.1) (by decide) (by decide) <| XS.iload X'3.here hx rfl (hb hby d9_44) rfl k) ?_
 show own_G _ _ _ _ (T'3.setTop (mkF m 46 #[rv x0, iv i_3, rv x2, iv i_2, iv i_2, iv i_2, iv w2] [.int i_2]))
 exact own_end X'3 Bd.notSynchronized (v := some (.int i_2)) (fun h => by rw [Bd.returns] at h; cases h) (Q := Q_rm_c5_256_1_2 Z x0 x2 kc kb w0 w1 w2 w3 w4 w5 h0 n0) (by show Q_rm_c5_256_1_2 Z x0 x2 kc kb w0 w1 w2 w3 w4 w5 h0 n0 (some (.int i_2)) T'3.heap _; rw [e'3]; exact ⟨rfl, N_3, KP_4, V146⟩) (fun fs hr => retI X'3 hx Bd.returns (hb hby d9_46) hr) (by decide) (by decide)
theorem d10_0 : decode jdk_52_method_15_code 0 = .ok (.iload_n 1, 1) := by decide +kernel
theorem d10_1 : decode jdk_52_method_15_code 1 = .ok (.aload_n 0, 1) := by decide +kernel
theorem d10_2 : decode jdk_52_method_15_code 2 = .ok (.arraylength, 1) := by decide +kernel
theorem d10_3 : decode jdk_52_method_15_code 3 = .ok (.isub, 1) := by decide +kernel
theorem d10_4 : decode jdk_52_method_15_code 4 = .ok (.bipush 31, 2) := by decide +kernel
theorem d10_6 : decode jdk_52_method_15_code 6 = .ok (.iushr, 1) := by decide +kernel
theorem d10_7 : decode jdk_52_method_15_code 7 = .ok (.i2b, 1) := by decide +kernel
theorem d10_8 : decode jdk_52_method_15_code 8 = .ok (.ireturn, 1) := by decide +kernel
theorem ef_10_RI (m : MethodId) (x0 : Addr) (x1 : Int32) : entryFrame m #[(.ref x0), (.int x1)] 2 = mkF m 0 #[.val (.ref x0), .val (.int x1)] [] := by
  first | (simp [entryFrame, mkF, argsToLocals, Value.category]; done) | rfl
theorem rm_cf1 (l : Launch) (Z : State) (a0 : Array Value) (hw : own_HW a0 Z) (ws : List Jvm.Cond) (x0 : Addr)  (kb : ClassId) (y0 : Int32) (h0 : Heap) (Vb : Arv Z h0 x0 kb .byte i_1 [.int y0] (.int i_0)) :
  MetFree l Y15 (head1 (Jvm.Cond.code Y15 jdk_52_method_15_code 2 (some .byte) :: ws) (rr 0 0 0 0)) (fun a U => a = #[.ref x0, .int i_1] ∧ Z.Warmed39 U.vm ∧ U.heap = h0) (fun _ _ _ _ _ => True) (fun _ U o U' => ∃ v L, o = .returned v ∧ QP (some (.int i_0)) h0 v U'.heap L ∧ FrameEnd U o U' L (rr 0 0 0 0).cells (rr 0 0 0 0).slots) := by
 refine MetFree.of_bodySF (plainFor_of_name own_pn3) hisR ?_
 intro p e s m args below meth c s₁ Bd hml0 hP hK
 obtain ⟨rfl, hZ, hh⟩ := hP
 have hx := Bd.exec
 have hby := Bd.bytes
 have hml : c.maxLocals = 2 := hml0
 have hown : s.vm.findClass s_2 = some m.cls := findClass_of_methodNamed Bd.named
 have hnm := (name_of_methodNamed Bd.named Bd.method).1
 have X0 : Stand p l e (rr 0 0 0 0) s m #[.ref x0, .int i_1] below meth c s₁ [] 0 0 := Stand.of_body Bd
 have e0 : s₁.heap = h0 := by rw [← hh, Bd.state]; rfl
 show own_G _ _ _ _ (s₁.setTop (entryFrame m #[.ref x0, .int i_1] 2))
 refine goo (fun _ k => castTop (ef_10_RI m x0 i_1) k) ?_
 refine goo (fun _ k => XS.iloadN X0.here hx rfl (hb hby d10_0) rfl <| XS.aloadN X0.here hx rfl (hb hby d10_1) rfl rfl k) ?_
 obtain ⟨cl150, Ar150, -, S150, N150, -, -⟩ := id Vb
 refine goo (fun _ k => X0.arraylength hx (cell := cl150) (by rw [e0]; exact Ar150.1) (State.isArrayOf_alike hZ.alike Ar150.2.1) (g := (mkF m 2 #[rv x0, iv i_1] [.ref x0, .int i_1])) rfl rfl (hb hby d10_2) _ (by rw [len_of S150 N150]; exact k)) ?_
 refine goo (fun _ k => XS.isub X0.here hx rfl (hb hby d10_3) rfl <| XS.bipush X0.here hx rfl (hb hby d10_4) k) ?_
 show own_G _ _ _ _ (s₁.setTop (mkF m 6 #[rv x0, iv i_1] [.int i_31, .int i_0]))
 refine goo (fun _ k => XS.iushr X0.here hx rfl (hb hby d10_6) rfl <| XS.i2b X0.here hx rfl (hb hby d10_7) rfl k) ?_
 show own_G _ _ _ _ (s₁.setTop (mkF m 8 #[rv x0, iv i_1] [.int i_0]))
 exact own_end X0 Bd.notSynchronized (v := some (.int (nar .byte i_0))) (fun h => by rw [Bd.returns] at h; cases h) (Q := QP (some (.int i_0)) h0) ⟨rfl, rfl, e0⟩ (fun fs hr => retN X0 hx (t := .byte) Bd.returns (by simp) (hb hby d10_8) hr) (by decide) (by decide)
theorem rm_cf2 (l : Launch) (Z : State) (a0 : Array Value) (hw : own_HW a0 Z) (ws : List Jvm.Cond) (x0 : Addr)  (kb : ClassId) (y0 y1 : Int32) (h0 : Heap) (Vb : Arv Z h0 x0 kb .byte i_2 [.int y0, .int y1] (.int i_0)) :
  MetFree l Y15 (head1 (Jvm.Cond.code Y15 jdk_52_method_15_code 2 (some .byte) :: ws) (rr 0 0 0 0)) (fun a U => a = #[.ref x0, .int i_2] ∧ Z.Warmed39 U.vm ∧ U.heap = h0) (fun _ _ _ _ _ => True) (fun _ U o U' => ∃ v L, o = .returned v ∧ QP (some (.int i_0)) h0 v U'.heap L ∧ FrameEnd U o U' L (rr 0 0 0 0).cells (rr 0 0 0 0).slots) := by
 refine MetFree.of_bodySF (plainFor_of_name own_pn3) hisR ?_
 intro p e s m args below meth c s₁ Bd hml0 hP hK
 obtain ⟨rfl, hZ, hh⟩ := hP
 have hx := Bd.exec
 have hby := Bd.bytes
 have hml : c.maxLocals = 2 := hml0
 have hown : s.vm.findClass s_2 = some m.cls := findClass_of_methodNamed Bd.named
 have hnm := (name_of_methodNamed Bd.named Bd.method).1
 have X0 : Stand p l e (rr 0 0 0 0) s m #[.ref x0, .int i_2] below meth c s₁ [] 0 0 := Stand.of_body Bd
 have e0 : s₁.heap = h0 := by rw [← hh, Bd.state]; rfl
 show own_G _ _ _ _ (s₁.setTop (entryFrame m #[.ref x0, .int i_2] 2))
 refine goo (fun _ k => castTop (ef_10_RI m x0 i_2) k) ?_
 refine goo (fun _ k => XS.iloadN X0.here hx rfl (hb hby d10_0) rfl <| XS.aloadN X0.here hx rfl (hb hby d10_1) rfl rfl k) ?_
 obtain ⟨cl151, Ar151, -, S151, N151, -, -⟩ := id Vb
 refine goo (fun _ k => X0.arraylength hx (cell := cl151) (by rw [e0]; exact Ar151.1) (State.isArrayOf_alike hZ.alike Ar151.2.1) (g := (mkF m 2 #[rv x0, iv i_2] [.ref x0, .int i_2])) rfl rfl (hb hby d10_2) _ (by rw [len_of S151 N151]; exact k)) ?_
 refine goo (fun _ k => XS.isub X0.here hx rfl (hb hby d10_3) rfl <| XS.bipush X0.here hx rfl (hb hby d10_4) k) ?_
 show own_G _ _ _ _ (s₁.setTop (mkF m 6 #[rv x0, iv i_2] [.int i_31, .int i_0]))
 refine goo (fun _ k => XS.iushr X0.here hx rfl (hb hby d10_6) rfl <| XS.i2b X0.here hx rfl (hb hby d10_7) rfl k) ?_
 show own_G _ _ _ _ (s₁.setTop (mkF m 8 #[rv x0, iv i_2] [.int i_0]))
 exact own_end X0 Bd.notSynchronized (v := some (.int (nar .byte i_0))) (fun h => by rw [Bd.returns] at h; cases h) (Q := QP (some (.int i_0)) h0) ⟨rfl, rfl, e0⟩ (fun fs hr => retN X0 hx (t := .byte) Bd.returns (by simp) (hb hby d10_8) hr) (by decide) (by decide)
def Q_rm_c3_2_0_2 (Z : State) (x0 : Addr) (kc : ClassId) (w0 w1 : Int32) (h0 : Heap) (n0 : Nat) (v : Option Value) (h : Heap) (L : List Loc) : Prop := ∃ RET : Addr, v = some (.ref RET) ∧ Fr n0 L ∧ Keep h0 h [] ∧ h0.size ≤ RET ∧ ∃ k, Arv Z h RET k .byte i_2 [.int (own_by w0), .int (own_by w1)] (.int i_0)
theorem own_pd9 : parseMethodDescriptor "([CI[BII)I" = some ⟨[(.array .char), .int, (.array .byte), .int, .int], some .int⟩ := by decide +kernel
theorem d8_0 : decode jdk_52_method_16_code 0 = .ok (.iload_n 2, 1) := by decide +kernel
theorem d8_1 : decode jdk_52_method_16_code 1 = .ok (.newarray .byte, 2) := by decide +kernel
theorem d8_3 : decode jdk_52_method_16_code 3 = .ok (.astore_n 3, 1) := by decide +kernel
theorem d8_4 : decode jdk_52_method_16_code 4 = .ok (.aload_n 0, 1) := by decide +kernel
theorem d8_5 : decode jdk_52_method_16_code 5 = .ok (.iload_n 1, 1) := by decide +kernel
theorem d8_6 : decode jdk_52_method_16_code 6 = .ok (.aload_n 3, 1) := by decide +kernel
theorem d8_7 : decode jdk_52_method_16_code 7 = .ok (.iconst 0, 1) := by decide +kernel
theorem d8_8 : decode jdk_52_method_16_code 8 = .ok (.iload_n 2, 1) := by decide +kernel
theorem d8_9 : decode jdk_52_method_16_code 9 = .ok (.invokestatic 115, 3) := by decide +kernel
theorem d8_12 : decode jdk_52_method_16_code 12 = .ok (.istore 4, 2) := by decide +kernel
theorem d8_14 : decode jdk_52_method_16_code 14 = .ok (.iload 4, 2) := by decide +kernel
theorem d8_16 : decode jdk_52_method_16_code 16 = .ok (.iload_n 2, 1) := by decide +kernel
theorem d8_17 : decode jdk_52_method_16_code 17 = .ok (.if_icmp .eq 40, 3) := by decide +kernel
theorem d8_57 : decode jdk_52_method_16_code 57 = .ok (.aload_n 3, 1) := by decide +kernel
theorem d8_58 : decode jdk_52_method_16_code 58 = .ok (.areturn, 1) := by decide +kernel
theorem ef_8_RII (m : MethodId) (x0 : Addr) (x1 : Int32) (x2 : Int32) : entryFrame m #[(.ref x0), (.int x1), (.int x2)] 6 = mkF m 0 #[.val (.ref x0), .val (.int x1), .val (.int x2), .unset, .unset, .unset] [] := by
  first | (simp [entryFrame, mkF, argsToLocals, Value.category]; done) | rfl
theorem rm_c3_2_0_2 (l : Launch) (Z : State) (a0 : Array Value) (hw : own_HW a0 Z) (ws : List Jvm.Cond) (x0 : Addr) (kc : ClassId) (w0 w1 : Int32) (h0 : Heap) (n0 : Nat) (Z0 : n0 ≤ h0.size) (p0_ : Arv Z h0 x0 kc .char i_2 [.int w0, .int w1] (.int i_0)) (p1_ : own_ok w0) (p2_ : own_ok w1)  :
  MetFree l Y16 (head1 (Jvm.Cond.code Y16 jdk_52_method_16_code 6 (some (.array .byte)) :: ws) (rr 1 1 2 18)) (fun a U => a = #[.ref x0, .int i_0, .int i_2] ∧ Z.Warmed39 U.vm ∧ U.heap = h0) (fun _ _ _ _ _ => True) (fun _ U o U' => ∃ v L, o = .returned v ∧ Q_rm_c3_2_0_2 Z x0 kc w0 w1 h0 n0 v U'.heap L ∧ FrameEnd U o U' L (rr 1 1 2 18).cells (rr 1 1 2 18).slots) := by
 refine MetFree.of_bodySF (plainFor_of_name own_pn3) hisR ?_
 intro p e s m args below meth c s₁ Bd hml0 hP hK
 obtain ⟨rfl, hZ, hh⟩ := hP
 have hx := Bd.exec
 have hby := Bd.bytes
 have hml : c.maxLocals = 6 := hml0
 have hown : s.vm.findClass s_2 = some m.cls := findClass_of_methodNamed Bd.named
 have hnm := (name_of_methodNamed Bd.named Bd.method).1
 have X0 : Stand p l e (rr 1 1 2 18) s m #[.ref x0, .int i_0, .int i_2] below meth c s₁ [] 0 0 := Stand.of_body Bd
 have e0 : s₁.heap = h0 := by rw [← hh, Bd.state]; rfl
 show own_G _ _ _ _ (s₁.setTop (entryFrame m #[.ref x0, .int i_0, .int i_2] 6))
 refine goo (fun _ k => castTop (ef_8_RII m x0 i_0 i_2) k) ?_
 have N0 := Fr.nil n0
 have KP0 := Keep.refl h0 []
 refine goo (fun _ k => XS.iloadN X0.here hx rfl (hb hby d8_0) rfl k) ?_
 obtain ⟨T'0, h'0, k'0, X'0, e'0, E'0, A'0, st'0⟩ := newP X0 hx hZ (qw hw 15 rfl) e0 (g := (mkF m 1 #[rv x0, iv i_0, iv i_2, .unset, .unset, .unset] [.int i_2])) rfl (hb hby d8_1) rfl (by decide) (cap := 2) (by decide) (by decide) (by decide) (by decide)
 obtain ⟨b'0, g'0⟩ : ∃ z, z = h0.size := ⟨_, rfl⟩
 rw [← g'0] at A'0 st'0
 have ne_1 : x0 ≠ b'0 := Nat.ne_of_lt (Nat.lt_of_lt_of_le p0_.lt (Nat.le_of_eq g'0.symm))
 have ge_2 : n0 ≤ b'0 := Nat.le_trans Z0 (Nat.le_of_eq g'0.symm)
 have sz_155 : h0.size ≤ b'0 := Nat.le_trans KP0.1 (Nat.le_of_eq g'0.symm)
 have V_3 := p0_.ext E'0
 have Z_4 : n0 ≤ h'0.size := Nat.le_trans Z0 E'0.1
 have KP_5 : Keep h0 h'0 [] := KP0.ext E'0
 have V152 : Arv Z h'0 b'0 k'0 .byte i_2 [.int i_0, .int i_0] (.int i_0) := (Arv.new A'0 (by decide)).pad (pad_rep [] (.int i_0) 2)
 refine goo st'0 ?_
 refine goo (fun _ k => XS.astoreN X'0.here hx rfl (hb hby d8_3) rfl rfl (l' := #[rv x0, iv i_0, iv i_2, rv b'0, .unset, .unset]) rfl <| XS.aloadN X'0.here hx rfl (hb hby d8_4) rfl rfl <| XS.iloadN X'0.here hx rfl (hb hby d8_5) rfl k) ?_
 show own_G _ _ _ _ (T'0.setTop (mkF m 6 #[rv x0, iv i_0, iv i_2, rv b'0, .unset, .unset] [.int i_0, .ref x0]))
 refine goo (fun _ k => XS.aloadN X'0.here hx rfl (hb hby d8_6) rfl rfl <| XS.iconst X'0.here hx rfl (hb hby d8_7) <| XS.iloadN X'0.here hx rfl (hb hby d8_8) rfl k) ?_
 obtain ⟨_, _, ⟨T'6, L'6, k'6, n'6⟩, -, X'6, ⟨Lc'6, hQ'6, l'6, y'6, z'6⟩, st'6⟩ := Jvm.LawKit.callS X'0 hx (y := Y14) hown (mvT hZ (qw hw 38 rfl)) (mvT hZ (qw hw 39 rfl)) (mvT hZ (qw hw 36 rfl)) (mvT hZ (qw hw 40 rfl)) (by decide) (backOf (W := 0) (rm_c5_2_0_2 l Z a0 hw [] x0 b'0 kc k'0 w0 w1 h'0 n0 Z_4 V_3 V152 ge_2 ne_1 p1_ p2_) hZ (qw hw 40 rfl) (qw hw 36 rfl) (by decide) (by decide)) (g := (mkF m 9 #[rv x0, iv i_0, iv i_2, rv b'0, .unset, .unset] [.int i_2, .int i_0, .ref b'0, .int i_0, .ref x0])) rfl (by rw [hml]; rfl) (argsL := [.ref x0, .int i_0, .ref b'0, .int i_0, .int i_2]) (rest := []) (lenOf own_pd9 rfl) rfl (Nat.le_of_eq rfl) (hb hby d8_9) (fun _ _ => ⟨rfl, e'0, (by decide : 1 + 0 ≤ _), (by decide : 2 + 0 ≤ _)⟩)
 dsimp only [Pt.U, Pt.locs, Pt.cells, Pt.slots] at X'6 l'6 y'6 z'6 st'6 hQ'6
 subst l'6 y'6 z'6
 obtain ⟨rfl, Nq'6, K'6, G_7⟩ := hQ'6
 have KP_8 : Keep h0 T'6.heap [] := KP_5.trans K'6 (allS (Or.inr sz_155) all0)
 have N_6 := Fr.app N0 Nq'6
 refine goo (fun _ k => st'6 _ k) ?_
 refine goo (fun _ k => XS.istore X'6.here hx rfl (hb hby d8_12) rfl (l' := #[rv x0, iv i_0, iv i_2, rv b'0, iv i_2, .unset]) rfl <| XS.iload X'6.here hx rfl (hb hby d8_14) rfl k) ?_
 show own_G _ _ _ _ (T'6.setTop (mkF m 16 #[rv x0, iv i_0, iv i_2, rv b'0, iv i_2, .unset] [.int i_2]))
 refine goo (fun _ k => XS.iloadN X'6.here hx rfl (hb hby d8_16) rfl <| XS.icmpYes X'6.here hx rfl (pc0 := 17) (pc' := 57) rfl (hb hby d8_17) rfl ((teq (by decide : i_2 = i_2)).1) (by decide) (by decide) <| XS.aloadN X'6.here hx rfl (hb hby d8_57) rfl rfl k) ?_
 show own_G _ _ _ _ (T'6.setTop (mkF m 58 #[rv x0, iv i_0, iv i_2, rv b'0, iv i_2, .unset] [.ref b'0]))
 exact own_end X'6 Bd.notSynchronized (v := some (.ref b'0)) (fun h => by rw [Bd.returns] at h; cases h) (Q := Q_rm_c3_2_0_2 Z x0 kc w0 w1 h0 n0) (by show Q_rm_c3_2_0_2 Z x0 kc w0 w1 h0 n0 (some (.ref b'0)) T'6.heap _; exact ⟨b'0, rfl, N_6, KP_8, sz_155, ⟨k'0, G_7⟩⟩) (fun fs hr => own_retA X'6 hx Bd.returns rfl rfl (hb hby d8_58) hr) (by decide) (by decide)
def Q_rm_c3_256_0_1 (Z : State) (x0 : Addr) (kc : ClassId) (w0 w1 w2 w3 w4 w5 : Int32) (h0 : Heap) (n0 : Nat) (v : Option Value) (h : Heap) (L : List Loc) : Prop := ∃ RET : Addr, v = some (.ref RET) ∧ Fr n0 L ∧ Keep h0 h [] ∧ h0.size ≤ RET ∧ ∃ k, Arv Z h RET k .byte i_1 [.int (own_by w0)] (.int i_0)
theorem rm_c3_256_0_1 (l : Launch) (Z : State) (a0 : Array Value) (hw : own_HW a0 Z) (ws : List Jvm.Cond) (x0 : Addr) (kc : ClassId) (w0 w1 w2 w3 w4 w5 : Int32) (h0 : Heap) (n0 : Nat) (Z0 : n0 ≤ h0.size) (p0_ : Arv Z h0 x0 kc .char i_256 [.int w0, .int w1, .int w2, .int w3, .int w4, .int w5] (.int i_0)) (p1_ : own_ok w0)  :
  MetFree l Y16 (head1 (Jvm.Cond.code Y16 jdk_52_method_16_code 6 (some (.array .byte)) :: ws) (rr 1 1 1 18)) (fun a U => a = #[.ref x0, .int i_0, .int i_1] ∧ Z.Warmed39 U.vm ∧ U.heap = h0) (fun _ _ _ _ _ => True) (fun _ U o U' => ∃ v L, o = .returned v ∧ Q_rm_c3_256_0_1 Z x0 kc w0 w1 w2 w3 w4 w5 h0 n0 v U'.heap L ∧ FrameEnd U o U' L (rr 1 1 1 18).cells (rr 1 1 1 18).slots) := by
 refine MetFree.of_bodySF (plainFor_of_name own_pn3) hisR ?_
 intro p e s m args below meth c s₁ Bd hml0 hP hK
 obtain ⟨rfl, hZ, hh⟩ := hP
 have hx := Bd.exec
 have hby := Bd.bytes
 have hml : c.maxLocals = 6 := hml0
 have hown : s.vm.findClass s_2 = some m.cls := findClass_of_methodNamed Bd.named
 have hnm := (name_of_methodNamed Bd.named Bd.method).1
 have X0 : Stand p l e (rr 1 1 1 18) s m #[.ref x0, .int i_0, .int i_1] below meth c s₁ [] 0 0 := Stand.of_body Bd
 have e0 : s₁.heap = h0 := by rw [← hh, Bd.state]; rfl
 show own_G _ _ _ _ (s₁.setTop (entryFrame m #[.ref x0, .int i_0, .int i_1] 6))
 refine goo (fun _ k => castTop (ef_8_RII m x0 i_0 i_1) k) ?_
 have N0 := Fr.nil n0
 have KP0 := Keep.refl h0 []
 refine goo (fun _ k => XS.iloadN X0.here hx rfl (hb hby d8_0) rfl k) ?_
 obtain ⟨T'0, h'0, k'0, X'0, e'0, E'0, A'0, st'0⟩ := newP X0 hx hZ (qw hw 15 rfl) e0 (g := (mkF m 1 #[rv x0, iv i_0, iv i_1, .unset, .unset, .unset] [.int i_1])) rfl (hb hby d8_1) rfl (by decide) (cap := 1) (by decide) (by decide) (by decide) (by decide)
 obtain ⟨b'0, g'0⟩ : ∃ z, z = h0.size := ⟨_, rfl⟩
 rw [← g'0] at A'0 st'0
 have ne_1 : x0 ≠ b'0 := Nat.ne_of_lt (Nat.lt_of_lt_of_le p0_.lt (Nat.le_of_eq g'0.symm))
 have ge_2 : n0 ≤ b'0 := Nat.le_trans Z0 (Nat.le_of_eq g'0.symm)
 have sz_167 : h0.size ≤ b'0 := Nat.le_trans KP0.1 (Nat.le_of_eq g'0.symm)
 have V_3 := p0_.ext E'0
 have Z_4 : n0 ≤ h'0.size := Nat.le_trans Z0 E'0.1
 have KP_5 : Keep h0 h'0 [] := KP0.ext E'0
 have V164 : Arv Z h'0 b'0 k'0 .byte i_1 [.int i_0] (.int i_0) := (Arv.new A'0 (by decide)).pad (pad_rep [] (.int i_0) 1)
 refine goo st'0 ?_
 refine goo (fun _ k => XS.astoreN X'0.here hx rfl (hb hby d8_3) rfl rfl (l' := #[rv x0, iv i_0, iv i_1, rv b'0, .unset, .unset]) rfl <| XS.aloadN X'0.here hx rfl (hb hby d8_4) rfl rfl <| XS.iloadN X'0.here hx rfl (hb hby d8_5) rfl k) ?_
 show own_G _ _ _ _ (T'0.setTop (mkF m 6 #[rv x0, iv i_0, iv i_1, rv b'0, .unset, .unset] [.int i_0, .ref x0]))
 refine goo (fun _ k => XS.aloadN X'0.here hx rfl (hb hby d8_6) rfl rfl <| XS.iconst X'0.here hx rfl (hb hby d8_7) <| XS.iloadN X'0.here hx rfl (hb hby d8_8) rfl k) ?_
 obtain ⟨_, _, ⟨T'6, L'6, k'6, n'6⟩, -, X'6, ⟨Lc'6, hQ'6, l'6, y'6, z'6⟩, st'6⟩ := Jvm.LawKit.callS X'0 hx (y := Y14) hown (mvT hZ (qw hw 38 rfl)) (mvT hZ (qw hw 39 rfl)) (mvT hZ (qw hw 36 rfl)) (mvT hZ (qw hw 40 rfl)) (by decide) (backOf (W := 0) (rm_c5_256_0_1 l Z a0 hw [] x0 b'0 kc k'0 w0 w1 w2 w3 w4 w5 h'0 n0 Z_4 V_3 V164 ge_2 ne_1 p1_) hZ (qw hw 40 rfl) (qw hw 36 rfl) (by decide) (by decide)) (g := (mkF m 9 #[rv x0, iv i_0, iv i_1, rv b'0, .unset, .unset] [.int i_1, .int i_0, .ref b'0, .int i_0, .ref x0])) rfl (by rw [hml]; rfl) (argsL := [.ref x0, .int i_0, .ref b'0, .int i_0, .int i_1]) (rest := []) (lenOf own_pd9 rfl) rfl (Nat.le_of_eq rfl) (hb hby d8_9) (fun _ _ => ⟨rfl, e'0, (by decide : 1 + 0 ≤ _), (by decide : 1 + 0 ≤ _)⟩)
 dsimp only [Pt.U, Pt.locs, Pt.cells, Pt.slots] at X'6 l'6 y'6 z'6 st'6 hQ'6
 subst l'6 y'6 z'6
 obtain ⟨rfl, Nq'6, K'6, G_7⟩ := hQ'6
 have KP_8 : Keep h0 T'6.heap [] := KP_5.trans K'6 (allS (Or.inr sz_167) all0)
 have N_6 := Fr.app N0 Nq'6
 refine goo (fun _ k => st'6 _ k) ?_
 refine goo (fun _ k => XS.istore X'6.here hx rfl (hb hby d8_12) rfl (l' := #[rv x0, iv i_0, iv i_1, rv b'0, iv i_1, .unset]) rfl <| XS.iload X'6.here hx rfl (hb hby d8_14) rfl k) ?_
 show own_G _ _ _ _ (T'6.setTop (mkF m 16 #[rv x0, iv i_0, iv i_1, rv b'0, iv i_1, .unset] [.int i_1]))
 refine goo (fun _ k => XS.iloadN X'6.here hx rfl (hb hby d8_16) rfl <| XS.icmpYes X'6.here hx rfl (pc0 := 17) (pc' := 57) rfl (hb hby d8_17) rfl ((teq (by decide : i_1 = i_1)).1) (by decide) (by decide) <| XS.aloadN X'6.here hx rfl (hb hby d8_57) rfl rfl k) ?_
 show own_G _ _ _ _ (T'6.setTop (mkF m 58 #[rv x0, iv i_0, iv i_1, rv b'0, iv i_1, .unset] [.ref b'0]))
 exact own_end X'6 Bd.notSynchronized (v := some (.ref b'0)) (fun h => by rw [Bd.returns] at h; cases h) (Q := Q_rm_c3_256_0_1 Z x0 kc w0 w1 w2 w3 w4 w5 h0 n0) (by show Q_rm_c3_256_0_1 Z x0 kc w0 w1 w2 w3 w4 w5 h0 n0 (some (.ref b'0)) T'6.heap _; exact ⟨b'0, rfl, N_6, KP_8, sz_167, ⟨k'0, G_7⟩⟩) (fun fs hr => own_retA X'6 hx Bd.returns rfl rfl (hb hby d8_58) hr) (by decide) (by decide)
def Q_rm_c3_256_1_1 (Z : State) (x0 : Addr) (kc : ClassId) (w0 w1 w2 w3 w4 w5 : Int32) (h0 : Heap) (n0 : Nat) (v : Option Value) (h : Heap) (L : List Loc) : Prop := ∃ RET : Addr, v = some (.ref RET) ∧ Fr n0 L ∧ Keep h0 h [] ∧ h0.size ≤ RET ∧ ∃ k, Arv Z h RET k .byte i_1 [.int (own_by w1)] (.int i_0)
theorem rm_c3_256_1_1 (l : Launch) (Z : State) (a0 : Array Value) (hw : own_HW a0 Z) (ws : List Jvm.Cond) (x0 : Addr) (kc : ClassId) (w0 w1 w2 w3 w4 w5 : Int32) (h0 : Heap) (n0 : Nat) (Z0 : n0 ≤ h0.size) (p0_ : Arv Z h0 x0 kc .char i_256 [.int w0, .int w1, .int w2, .int w3, .int w4, .int w5] (.int i_0)) (p1_ : own_ok w1)  :
  MetFree l Y16 (head1 (Jvm.Cond.code Y16 jdk_52_method_16_code 6 (some (.array .byte)) :: ws) (rr 1 1 1 18)) (fun a U => a = #[.ref x0, .int i_1, .int i_1] ∧ Z.Warmed39 U.vm ∧ U.heap = h0) (fun _ _ _ _ _ => True) (fun _ U o U' => ∃ v L, o = .returned v ∧ Q_rm_c3_256_1_1 Z x0 kc w0 w1 w2 w3 w4 w5 h0 n0 v U'.heap L ∧ FrameEnd U o U' L (rr 1 1 1 18).cells (rr 1 1 1 18).slots) := by
 refine MetFree.of_bodySF (plainFor_of_name own_pn3) hisR ?_
 intro p e s m args below meth c s₁ Bd hml0 hP hK
 obtain ⟨rfl, hZ, hh⟩ := hP
 have hx := Bd.exec
 have hby := Bd.bytes
 have hml : c.maxLocals = 6 := hml0
 have hown : s.vm.findClass s_2 = some m.cls := findClass_of_methodNamed Bd.named
 have hnm := (name_of_methodNamed Bd.named Bd.method).1
 have X0 : Stand p l e (rr 1 1 1 18) s m #[.ref x0, .int i_1, .int i_1] below meth c s₁ [] 0 0 := Stand.of_body Bd
 have e0 : s₁.heap = h0 := by rw [← hh, Bd.state]; rfl
 show own_G _ _ _ _ (s₁.setTop (entryFrame m #[.ref x0, .int i_1, .int i_1] 6))
 refine goo (fun _ k => castTop (ef_8_RII m x0 i_1 i_1) k) ?_
 have N0 := Fr.nil n0
 have KP0 := Keep.refl h0 []
 refine goo (fun _ k => XS.iloadN X0.here hx rfl (hb hby d8_0) rfl k) ?_
 obtain ⟨T'0, h'0, k'0, X'0, e'0, E'0, A'0, st'0⟩ := newP X0 hx hZ (qw hw 15 rfl) e0 (g := (mkF m 1 #[rv x0, iv i_1, iv i_1, .unset, .unset, .unset] [.int i_1])) rfl (hb hby d8_1) rfl (by decide) (cap := 1) (by decide) (by decide) (by decide) (by decide)
 obtain ⟨b'0, g'0⟩ : ∃ z, z = h0.size := ⟨_, rfl⟩
 rw [← g'0] at A'0 st'0
 have ne_1 : x0 ≠ b'0 := Nat.ne_of_lt (Nat.lt_of_lt_of_le p0_.lt (Nat.le_of_eq g'0.symm))
 have ge_2 : n0 ≤ b'0 := Nat.le_trans Z0 (Nat.le_of_eq g'0.symm)
 have sz_179 : h0.size ≤ b'0 := Nat.le_trans KP0.1 (Nat.le_of_eq g'0.symm)
 have V_3 := p0_.ext E'0
 have Z_4 : n0 ≤ h'0.size := Nat.le_trans Z0 E'0.1
 have KP_5 : Keep h0 h'0 [] := KP0.ext E'0
 have V176 : Arv Z h'0 b'0 k'0 .byte i_1 [.int i_0] (.int i_0) := (Arv.new A'0 (by decide)).pad (pad_rep [] (.int i_0) 1)
 refine goo st'0 ?_
 refine goo (fun _ k => XS.astoreN X'0.here hx rfl (hb hby d8_3) rfl rfl (l' := #[rv x0, iv i_1, iv i_1, rv b'0, .unset, .unset]) rfl <| XS.aloadN X'0.here hx rfl (hb hby d8_4) rfl rfl <| XS.iloadN X'0.here hx rfl (hb hby d8_5) rfl k) ?_
 show own_G _ _ _ _ (T'0.setTop (mkF m 6 #[rv x0, iv i_1, iv i_1, rv b'0, .unset, .unset] [.int i_1, .ref x0]))
 refine goo (fun _ k => XS.aloadN X'0.here hx rfl (hb hby d8_6) rfl rfl <| XS.iconst X'0.here hx rfl (hb hby d8_7) <| XS.iloadN X'0.here hx rfl (hb hby d8_8) rfl k) ?_
 obtain ⟨_, _, ⟨T'6, L'6, k'6, n'6⟩, -, X'6, ⟨Lc'6, hQ'6, l'6, y'6, z'6⟩, st'6⟩ := Jvm.LawKit.callS X'0 hx (y := Y14) hown (mvT hZ (qw hw 38 rfl)) (mvT hZ (qw hw 39 rfl)) (mvT hZ (qw hw 36 rfl)) (mvT hZ (qw hw 40 rfl)) (by decide) (backOf (W := 0) (rm_c5_256_1_1 l Z a0 hw [] x0 b'0 kc k'0 w0 w1 w2 w3 w4 w5 h'0 n0 Z_4 V_3 V176 ge_2 ne_1 p1_) hZ (qw hw 40 rfl) (qw hw 36 rfl) (by decide) (by decide)) (g := (mkF m 9 #[rv x0, iv i_1, iv i_1, rv b'0, .unset, .unset] [.int i_1, .int i_0, .ref b'0, .int i_1, .ref x0])) rfl (by rw [hml]; rfl) (argsL := [.ref x0, .int i_1, .ref b'0, .int i_0, .int i_1]) (rest := []) (lenOf own_pd9 rfl) rfl (Nat.le_of_eq rfl) (hb hby d8_9) (fun _ _ => ⟨rfl, e'0, (by decide : 1 + 0 ≤ _), (by decide : 1 + 0 ≤ _)⟩)
 dsimp only [Pt.U, Pt.locs, Pt.cells, Pt.slots] at X'6 l'6 y'6 z'6 st'6 hQ'6
 subst l'6 y'6 z'6
 obtain ⟨rfl, Nq'6, K'6, G_7⟩ := hQ'6
 have KP_8 : Keep h0 T'6.heap [] := KP_5.trans K'6 (allS (Or.inr sz_179) all0)
 have N_6 := Fr.app N0 Nq'6
 refine goo (fun _ k => st'6 _ k) ?_
 refine goo (fun _ k => XS.istore X'6.here hx rfl (hb hby d8_12) rfl (l' := #[rv x0, iv i_1, iv i_1, rv b'0, iv i_1, .unset]) rfl <| XS.iload X'6.here hx rfl (hb hby d8_14) rfl k) ?_
 show own_G _ _ _ _ (T'6.setTop (mkF m 16 #[rv x0, iv i_1, iv i_1, rv b'0, iv i_1, .unset] [.int i_1]))
 refine goo (fun _ k => XS.iloadN X'6.here hx rfl (hb hby d8_16) rfl <| XS.icmpYes X'6.here hx rfl (pc0 := 17) (pc' := 57) rfl (hb hby d8_17) rfl ((teq (by decide : i_1 = i_1)).1) (by decide) (by decide) <| XS.aloadN X'6.here hx rfl (hb hby d8_57) rfl rfl k) ?_
 show own_G _ _ _ _ (T'6.setTop (mkF m 58 #[rv x0, iv i_1, iv i_1, rv b'0, iv i_1, .unset] [.ref b'0]))
 exact own_end X'6 Bd.notSynchronized (v := some (.ref b'0)) (fun h => by rw [Bd.returns] at h; cases h) (Q := Q_rm_c3_256_1_1 Z x0 kc w0 w1 w2 w3 w4 w5 h0 n0) (by show Q_rm_c3_256_1_1 Z x0 kc w0 w1 w2 w3 w4 w5 h0 n0 (some (.ref b'0)) T'6.heap _; exact ⟨b'0, rfl, N_6, KP_8, sz_179, ⟨k'0, G_7⟩⟩) (fun fs hr => own_retA X'6 hx Bd.returns rfl rfl (hb hby d8_58) hr) (by decide) (by decide)
def Q_rm_c3_256_3_1 (Z : State) (x0 : Addr) (kc : ClassId) (w0 w1 w2 w3 w4 w5 : Int32) (h0 : Heap) (n0 : Nat) (v : Option Value) (h : Heap) (L : List Loc) : Prop := ∃ RET : Addr, v = some (.ref RET) ∧ Fr n0 L ∧ Keep h0 h [] ∧ h0.size ≤ RET ∧ ∃ k, Arv Z h RET k .byte i_1 [.int (own_by w3)] (.int i_0)
theorem rm_c3_256_3_1 (l : Launch) (Z : State) (a0 : Array Value) (hw : own_HW a0 Z) (ws : List Jvm.Cond) (x0 : Addr) (kc : ClassId) (w0 w1 w2 w3 w4 w5 : Int32) (h0 : Heap) (n0 : Nat) (Z0 : n0 ≤ h0.size) (p0_ : Arv Z h0 x0 kc .char i_256 [.int w0, .int w1, .int w2, .int w3, .int w4, .int w5] (.int i_0)) (p1_ : own_ok w3)  :
  MetFree l Y16 (head1 (Jvm.Cond.code Y16 jdk_52_method_16_code 6 (some (.array .byte)) :: ws) (rr 1 1 1 18)) (fun a U => a = #[.ref x0, .int i_3, .int i_1] ∧ Z.Warmed39 U.vm ∧ U.heap = h0) (fun _ _ _ _ _ => True) (fun _ U o U' => ∃ v L, o = .returned v ∧ Q_rm_c3_256_3_1 Z x0 kc w0 w1 w2 w3 w4 w5 h0 n0 v U'.heap L ∧ FrameEnd U o U' L (rr 1 1 1 18).cells (rr 1 1 1 18).slots) := by
 refine MetFree.of_bodySF (plainFor_of_name own_pn3) hisR ?_
 intro p e s m args below meth c s₁ Bd hml0 hP hK
 obtain ⟨rfl, hZ, hh⟩ := hP
 have hx := Bd.exec
 have hby := Bd.bytes
 have hml : c.maxLocals = 6 := hml0
 have hown : s.vm.findClass s_2 = some m.cls := findClass_of_methodNamed Bd.named
 have hnm := (name_of_methodNamed Bd.named Bd.method).1
 have X0 : Stand p l e (rr 1 1 1 18) s m #[.ref x0, .int i_3, .int i_1] below meth c s₁ [] 0 0 := Stand.of_body Bd
 have e0 : s₁.heap = h0 := by rw [← hh, Bd.state]; rfl
 show own_G _ _ _ _ (s₁.setTop (entryFrame m #[.ref x0, .int i_3, .int i_1] 6))
 refine goo (fun _ k => castTop (ef_8_RII m x0 i_3 i_1) k) ?_
 have N0 := Fr.nil n0
 have KP0 := Keep.refl h0 []
 refine goo (fun _ k => XS.iloadN X0.here hx rfl (hb hby d8_0) rfl k) ?_
 obtain ⟨T'0, h'0, k'0, X'0, e'0, E'0, A'0, st'0⟩ := newP X0 hx hZ (qw hw 15 rfl) e0 (g := (mkF m 1 #[rv x0, iv i_3, iv i_1, .unset, .unset, .unset] [.int i_1])) rfl (hb hby d8_1) rfl (by decide) (cap := 1) (by decide) (by decide) (by decide) (by decide)
 obtain ⟨b'0, g'0⟩ : ∃ z, z = h0.size := ⟨_, rfl⟩
 rw [← g'0] at A'0 st'0
 have ne_1 : x0 ≠ b'0 := Nat.ne_of_lt (Nat.lt_of_lt_of_le p0_.lt (Nat.le_of_eq g'0.symm))
 have ge_2 : n0 ≤ b'0 := Nat.le_trans Z0 (Nat.le_of_eq g'0.symm)
 have sz_191 : h0.size ≤ b'0 := Nat.le_trans KP0.1 (Nat.le_of_eq g'0.symm)
 have V_3 := p0_.ext E'0
 have Z_4 : n0 ≤ h'0.size := Nat.le_trans Z0 E'0.1
 have KP_5 : Keep h0 h'0 [] := KP0.ext E'0
 have V188 : Arv Z h'0 b'0 k'0 .byte i_1 [.int i_0] (.int i_0) := (Arv.new A'0 (by decide)).pad (pad_rep [] (.int i_0) 1)
 refine goo st'0 ?_
 refine goo (fun _ k => XS.astoreN X'0.here hx rfl (hb hby d8_3) rfl rfl (l' := #[rv x0, iv i_3, iv i_1, rv b'0, .unset, .unset]) rfl <| XS.aloadN X'0.here hx rfl (hb hby d8_4) rfl rfl <| XS.iloadN X'0.here hx rfl (hb hby d8_5) rfl k) ?_
 show own_G _ _ _ _ (T'0.setTop (mkF m 6 #[rv x0, iv i_3, iv i_1, rv b'0, .unset, .unset] [.int i_3, .ref x0]))
 refine goo (fun _ k => XS.aloadN X'0.here hx rfl (hb hby d8_6) rfl rfl <| XS.iconst X'0.here hx rfl (hb hby d8_7) <| XS.iloadN X'0.here hx rfl (hb hby d8_8) rfl k) ?_
 obtain ⟨_, _, ⟨T'6, L'6, k'6, n'6⟩, -, X'6, ⟨Lc'6, hQ'6, l'6, y'6, z'6⟩, st'6⟩ := Jvm.LawKit.callS X'0 hx (y := Y14) hown (mvT hZ (qw hw 38 rfl)) (mvT hZ (qw hw 39 rfl)) (mvT hZ (qw hw 36 rfl)) (mvT hZ (qw hw 40 rfl)) (by decide) (backOf (W := 0) (rm_c5_256_3_1 l Z a0 hw [] x0 b'0 kc k'0 w0 w1 w2 w3 w4 w5 h'0 n0 Z_4 V_3 V188 ge_2 ne_1 p1_) hZ (qw hw 40 rfl) (qw hw 36 rfl) (by decide) (by decide)) (g := (mkF m 9 #[rv x0, iv i_3, iv i_1, rv b'0, .unset, .unset] [.int i_1, .int i_0, .ref b'0, .int i_3, .ref x0])) rfl (by rw [hml]; rfl) (argsL := [.ref x0, .int i_3, .ref b'0, .int i_0, .int i_1]) (rest := []) (lenOf own_pd9 rfl) rfl (Nat.le_of_eq rfl) (hb hby d8_9) (fun _ _ => ⟨rfl, e'0, (by decide : 1 + 0 ≤ _), (by decide : 1 + 0 ≤ _)⟩)
 dsimp only [Pt.U, Pt.locs, Pt.cells, Pt.slots] at X'6 l'6 y'6 z'6 st'6 hQ'6
 subst l'6 y'6 z'6
 obtain ⟨rfl, Nq'6, K'6, G_7⟩ := hQ'6
 have KP_8 : Keep h0 T'6.heap [] := KP_5.trans K'6 (allS (Or.inr sz_191) all0)
 have N_6 := Fr.app N0 Nq'6
 refine goo (fun _ k => st'6 _ k) ?_
 refine goo (fun _ k => XS.istore X'6.here hx rfl (hb hby d8_12) rfl (l' := #[rv x0, iv i_3, iv i_1, rv b'0, iv i_1, .unset]) rfl <| XS.iload X'6.here hx rfl (hb hby d8_14) rfl k) ?_
 show own_G _ _ _ _ (T'6.setTop (mkF m 16 #[rv x0, iv i_3, iv i_1, rv b'0, iv i_1, .unset] [.int i_1]))
 refine goo (fun _ k => XS.iloadN X'6.here hx rfl (hb hby d8_16) rfl <| XS.icmpYes X'6.here hx rfl (pc0 := 17) (pc' := 57) rfl (hb hby d8_17) rfl ((teq (by decide : i_1 = i_1)).1) (by decide) (by decide) <| XS.aloadN X'6.here hx rfl (hb hby d8_57) rfl rfl k) ?_
 show own_G _ _ _ _ (T'6.setTop (mkF m 58 #[rv x0, iv i_3, iv i_1, rv b'0, iv i_1, .unset] [.ref b'0]))
 exact own_end X'6 Bd.notSynchronized (v := some (.ref b'0)) (fun h => by rw [Bd.returns] at h; cases h) (Q := Q_rm_c3_256_3_1 Z x0 kc w0 w1 w2 w3 w4 w5 h0 n0) (by show Q_rm_c3_256_3_1 Z x0 kc w0 w1 w2 w3 w4 w5 h0 n0 (some (.ref b'0)) T'6.heap _; exact ⟨b'0, rfl, N_6, KP_8, sz_191, ⟨k'0, G_7⟩⟩) (fun fs hr => own_retA X'6 hx Bd.returns rfl rfl (hb hby d8_58) hr) (by decide) (by decide)
def Q_rm_c3_256_1_2 (Z : State) (x0 : Addr) (kc : ClassId) (w0 w1 w2 w3 w4 w5 : Int32) (h0 : Heap) (n0 : Nat) (v : Option Value) (h : Heap) (L : List Loc) : Prop := ∃ RET : Addr, v = some (.ref RET) ∧ Fr n0 L ∧ Keep h0 h [] ∧ h0.size ≤ RET ∧ ∃ k, Arv Z h RET k .byte i_2 [.int (own_by w1), .int (own_by w2)] (.int i_0)
theorem rm_c3_256_1_2 (l : Launch) (Z : State) (a0 : Array Value) (hw : own_HW a0 Z) (ws : List Jvm.Cond) (x0 : Addr) (kc : ClassId) (w0 w1 w2 w3 w4 w5 : Int32) (h0 : Heap) (n0 : Nat) (Z0 : n0 ≤ h0.size) (p0_ : Arv Z h0 x0 kc .char i_256 [.int w0, .int w1, .int w2, .int w3, .int w4, .int w5] (.int i_0)) (p1_ : own_ok w1) (p2_ : own_ok w2)  :
  MetFree l Y16 (head1 (Jvm.Cond.code Y16 jdk_52_method_16_code 6 (some (.array .byte)) :: ws) (rr 1 1 2 18)) (fun a U => a = #[.ref x0, .int i_1, .int i_2] ∧ Z.Warmed39 U.vm ∧ U.heap = h0) (fun _ _ _ _ _ => True) (fun _ U o U' => ∃ v L, o = .returned v ∧ Q_rm_c3_256_1_2 Z x0 kc w0 w1 w2 w3 w4 w5 h0 n0 v U'.heap L ∧ FrameEnd U o U' L (rr 1 1 2 18).cells (rr 1 1 2 18).slots) := by
 refine MetFree.of_bodySF (plainFor_of_name own_pn3) hisR ?_
 intro p e s m args below meth c s₁ Bd hml0 hP hK
 obtain ⟨rfl, hZ, hh⟩ := hP
 have hx := Bd.exec
 have hby := Bd.bytes
 have hml : c.maxLocals = 6 := hml0
 have hown : s.vm.findClass s_2 = some m.cls := findClass_of_methodNamed Bd.named
 have hnm := (name_of_methodNamed Bd.named Bd.method).1
 have X0 : Stand p l e (rr 1 1 2 18) s m #[.ref x0, .int i_1, .int i_2] below meth c s₁ [] 0 0 := Stand.of_body Bd
 have e0 : s₁.heap = h0 := by rw [← hh, Bd.state]; rfl
 show own_G _ _ _ _ (s₁.setTop (entryFrame m #[.ref x0, .int i_1, .int i_2] 6))
 refine goo (fun _ k => castTop (ef_8_RII m x0 i_1 i_2) k) ?_
 have N0 := Fr.nil n0
 have KP0 := Keep.refl h0 []
 refine goo (fun _ k => XS.iloadN X0.here hx rfl (hb hby d8_0) rfl k) ?_
 obtain ⟨T'0, h'0, k'0, X'0, e'0, E'0, A'0, st'0⟩ := newP X0 hx hZ (qw hw 15 rfl) e0 (g := (mkF m 1 #[rv x0, iv i_1, iv i_2, .unset, .unset, .unset] [.int i_2])) rfl (hb hby d8_1) rfl (by decide) (cap := 2) (by decide) (by decide) (by decide) (by decide)
 obtain ⟨b'0, g'0⟩ : ∃ z, z = h0.size := ⟨_, rfl⟩
 rw [← g'0] at A'0 st'0
 have ne_1 : x0 ≠ b'0 := Nat.ne_of_lt (Nat.lt_of_lt_of_le p0_.lt (Nat.le_of_eq g'0.symm))
 have ge_2 : n0 ≤ b'0 := Nat.le_trans Z0 (Nat.le_of_eq g'0.symm)
 have sz_203 : h0.size ≤ b'0 := Nat.le_trans KP0.1 (Nat.le_of_eq g'0.symm)
 have V_3 := p0_.ext E'0
 have Z_4 : n0 ≤ h'0.size := Nat.le_trans Z0 E'0.1
 have KP_5 : Keep h0 h'0 [] := KP0.ext E'0
 have V200 : Arv Z h'0 b'0 k'0 .byte i_2 [.int i_0, .int i_0] (.int i_0) := (Arv.new A'0 (by decide)).pad (pad_rep [] (.int i_0) 2)
 refine goo st'0 ?_
 refine goo (fun _ k => XS.astoreN X'0.here hx rfl (hb hby d8_3) rfl rfl (l' := #[rv x0, iv i_1, iv i_2, rv b'0, .unset, .unset]) rfl <| XS.aloadN X'0.here hx rfl (hb hby d8_4) rfl rfl <| XS.iloadN X'0.here hx rfl (hb hby d8_5) rfl k) ?_
 show own_G _ _ _ _ (T'0.setTop (mkF m 6 #[rv x0, iv i_1, iv i_2, rv b'0, .unset, .unset] [.int i_1, .ref x0]))
 refine goo (fun _ k => XS.aloadN X'0.here hx rfl (hb hby d8_6) rfl rfl <| XS.iconst X'0.here hx rfl (hb hby d8_7) <| XS.iloadN X'0.here hx rfl (hb hby d8_8) rfl k) ?_
 obtain ⟨_, _, ⟨T'6, L'6, k'6, n'6⟩, -, X'6, ⟨Lc'6, hQ'6, l'6, y'6, z'6⟩, st'6⟩ := Jvm.LawKit.callS X'0 hx (y := Y14) hown (mvT hZ (qw hw 38 rfl)) (mvT hZ (qw hw 39 rfl)) (mvT hZ (qw hw 36 rfl)) (mvT hZ (qw hw 40 rfl)) (by decide) (backOf (W := 0) (rm_c5_256_1_2 l Z a0 hw [] x0 b'0 kc k'0 w0 w1 w2 w3 w4 w5 h'0 n0 Z_4 V_3 V200 ge_2 ne_1 p1_ p2_) hZ (qw hw 40 rfl) (qw hw 36 rfl) (by decide) (by decide)) (g := (mkF m 9 #[rv x0, iv i_1, iv i_2, rv b'0, .unset, .unset] [.int i_2, .int i_0, .ref b'0, .int i_1, .ref x0])) rfl (by rw [hml]; rfl) (argsL := [.ref x0, .int i_1, .ref b'0, .int i_0, .int i_2]) (rest := []) (lenOf own_pd9 rfl) rfl (Nat.le_of_eq rfl) (hb hby d8_9) (fun _ _ => ⟨rfl, e'0, (by decide : 1 + 0 ≤ _), (by decide : 2 + 0 ≤ _)⟩)
 dsimp only [Pt.U, Pt.locs, Pt.cells, Pt.slots] at X'6 l'6 y'6 z'6 st'6 hQ'6
 subst l'6 y'6 z'6
 obtain ⟨rfl, Nq'6, K'6, G_7⟩ := hQ'6
 have KP_8 : Keep h0 T'6.heap [] := KP_5.trans K'6 (allS (Or.inr sz_203) all0)
 have N_6 := Fr.app N0 Nq'6
 refine goo (fun _ k => st'6 _ k) ?_
 refine goo (fun _ k => XS.istore X'6.here hx rfl (hb hby d8_12) rfl (l' := #[rv x0, iv i_1, iv i_2, rv b'0, iv i_2, .unset]) rfl <| XS.iload X'6.here hx rfl (hb hby d8_14) rfl k) ?_
 show own_G _ _ _ _ (T'6.setTop (mkF m 16 #[rv x0, iv i_1, iv i_2, rv b'0, iv i_2, .unset] [.int i_2]))
 refine goo (fun _ k => XS.iloadN X'6.here hx rfl (hb hby d8_16) rfl <| XS.icmpYes X'6.here hx rfl (pc0 := 17) (pc' := 57) rfl (hb hby d8_17) rfl ((teq (by decide : i_2 = i_2)).1) (by decide) (by decide) <| XS.aloadN X'6.here hx rfl (hb hby d8_57) rfl rfl k) ?_
 show own_G _ _ _ _ (T'6.setTop (mkF m 58 #[rv x0, iv i_1, iv i_2, rv b'0, iv i_2, .unset] [.ref b'0]))
 exact own_end X'6 Bd.notSynchronized (v := some (.ref b'0)) (fun h => by rw [Bd.returns] at h; cases h) (Q := Q_rm_c3_256_1_2 Z x0 kc w0 w1 w2 w3 w4 w5 h0 n0) (by show Q_rm_c3_256_1_2 Z x0 kc w0 w1 w2 w3 w4 w5 h0 n0 (some (.ref b'0)) T'6.heap _; exact ⟨b'0, rfl, N_6, KP_8, sz_203, ⟨k'0, G_7⟩⟩) (fun fs hr => own_retA X'6 hx Bd.returns rfl rfl (hb hby d8_58) hr) (by decide) (by decide)
def Q_rm_sv_2_0_2 (Z : State) (x0 : Addr) (x1 : Addr) (cz : Int32) (kc : ClassId) (w0 w1 : Int32) (h0 : Heap) (n0 : Nat) (v : Option Value) (h : Heap) (L : List Loc) : Prop := v = none ∧ Fr n0 L ∧ Keep h0 h [x0] ∧ Exa Z h x0 s_0 ∧ Fld Z h x0 s_0 "coder" "B" (.int i_0) ∧ ∃ b k, h0.size ≤ b ∧ Fld Z h x0 s_0 "value" "[B" (.ref b) ∧ Arv Z h b k .byte i_2 [.int (own_by w0), .int (own_by w1)] (.int i_0)
theorem own_pd10 : parseMethodDescriptor "([CII)[B" = some ⟨[(.array .char), .int, .int], some (.array .byte)⟩ := by decide +kernel
theorem own_pd11 : parseMethodDescriptor "([BI)B" = some ⟨[(.array .byte), .int], some .byte⟩ := by decide +kernel
theorem d7_0 : decode jdk_42_method_149_code 0 = .ok (.aload_n 0, 1) := by decide +kernel
theorem d7_1 : decode jdk_42_method_149_code 1 = .ok (.invokespecial 1, 3) := by decide +kernel
theorem d7_4 : decode jdk_42_method_149_code 4 = .ok (.iload_n 3, 1) := by decide +kernel
theorem d7_5 : decode jdk_42_method_149_code 5 = .ok (.ifCond .ne 22, 3) := by decide +kernel
theorem d7_8 : decode jdk_42_method_149_code 8 = .ok (.aload_n 0, 1) := by decide +kernel
theorem d7_9 : decode jdk_42_method_149_code 9 = .ok (.ldc 7, 2) := by decide +kernel
theorem d7_11 : decode jdk_42_method_149_code 11 = .ok (.getfield 9, 3) := by decide +kernel
theorem d7_14 : decode jdk_42_method_149_code 14 = .ok (.putfield 9, 3) := by decide +kernel
theorem d7_17 : decode jdk_42_method_149_code 17 = .ok (.aload_n 0, 1) := by decide +kernel
theorem d7_18 : decode jdk_42_method_149_code 18 = .ok (.ldc 7, 2) := by decide +kernel
theorem d7_20 : decode jdk_42_method_149_code 20 = .ok (.getfield 15, 3) := by decide +kernel
theorem d7_23 : decode jdk_42_method_149_code 23 = .ok (.putfield 15, 3) := by decide +kernel
theorem d7_26 : decode jdk_42_method_149_code 26 = .ok (.return_, 1) := by decide +kernel
theorem d7_27 : decode jdk_42_method_149_code 27 = .ok (.getstatic 38, 3) := by decide +kernel
theorem d7_30 : decode jdk_42_method_149_code 30 = .ok (.ifCond .eq 28, 3) := by decide +kernel
theorem d7_33 : decode jdk_42_method_149_code 33 = .ok (.aload_n 1, 1) := by decide +kernel
theorem d7_34 : decode jdk_42_method_149_code 34 = .ok (.iload_n 2, 1) := by decide +kernel
theorem d7_35 : decode jdk_42_method_149_code 35 = .ok (.iload_n 3, 1) := by decide +kernel
theorem d7_36 : decode jdk_42_method_149_code 36 = .ok (.invokestatic 177, 3) := by decide +kernel
theorem d7_39 : decode jdk_42_method_149_code 39 = .ok (.astore 5, 2) := by decide +kernel
theorem d7_41 : decode jdk_42_method_149_code 41 = .ok (.aload_n 0, 1) := by decide +kernel
theorem d7_42 : decode jdk_42_method_149_code 42 = .ok (.aload 5, 2) := by decide +kernel
theorem d7_44 : decode jdk_42_method_149_code 44 = .ok (.iload_n 3, 1) := by decide +kernel
theorem d7_45 : decode jdk_42_method_149_code 45 = .ok (.invokestatic 47, 3) := by decide +kernel
theorem d7_48 : decode jdk_42_method_149_code 48 = .ok (.putfield 15, 3) := by decide +kernel
theorem d7_51 : decode jdk_42_method_149_code 51 = .ok (.aload_n 0, 1) := by decide +kernel
theorem d7_52 : decode jdk_42_method_149_code 52 = .ok (.aload 5, 2) := by decide +kernel
theorem d7_54 : decode jdk_42_method_149_code 54 = .ok (.putfield 9, 3) := by decide +kernel
theorem d7_57 : decode jdk_42_method_149_code 57 = .ok (.return_, 1) := by decide +kernel
theorem ef_7_RRIIn (m : MethodId) (x0 : Addr) (x1 : Addr) (x2 : Int32) (x3 : Int32) : entryFrame m #[(.ref x0), (.ref x1), (.int x2), (.int x3), .null] 6 = mkF m 0 #[.val (.ref x0), .val (.ref x1), .val (.int x2), .val (.int x3), .val .null, .unset] [] := by
  first | (simp [entryFrame, mkF, argsToLocals, Value.category]; done) | rfl
theorem rm_sv_2_0_2 (l : Launch) (Z : State) (a0 : Array Value) (hw : own_HW a0 Z) (ws : List Jvm.Cond) (x0 : Addr) (x1 : Addr) (cz : Int32) (kc : ClassId) (w0 w1 : Int32) (h0 : Heap) (n0 : Nat) (Z0 : n0 ≤ h0.size) (p0_ : Exa Z h0 x0 s_0) (p1_ : n0 ≤ x0) (p2_ : Fld Z h0 x0 s_0 "value" "[B" .null) (p3_ : Fld Z h0 x0 s_0 "coder" "B" (.int i_0)) (p4_ : Arv Z h0 x1 kc .char i_2 [.int w0, .int w1] (.int i_0)) (p5_ : Sta Z h0 s_0 "COMPACT_STRINGS" "Z" (.int cz)) (p6_ : ¬ cz = i_0) (p7_ : x0 ≠ x1) (p8_ : own_ok w0) (p9_ : own_ok w1)  :
  MetFree l Y17 (head1 (Jvm.Cond.code Y17 jdk_42_method_149_code 6 none :: ws) (rr 2 1 2 35)) (fun a U => a = #[.ref x0, .ref x1, .int i_0, .int i_2, .null] ∧ Z.Warmed39 U.vm ∧ U.heap = h0) (fun _ _ _ _ _ => True) (fun _ U o U' => ∃ v L, o = .returned v ∧ Q_rm_sv_2_0_2 Z x0 x1 cz kc w0 w1 h0 n0 v U'.heap L ∧ FrameEnd U o U' L (rr 2 1 2 35).cells (rr 2 1 2 35).slots) := by
 refine MetFree.of_bodySF (plainFor_of_name own_pn1) hisR ?_
 intro p e s m args below meth c s₁ Bd hml0 hP hK
 obtain ⟨rfl, hZ, hh⟩ := hP
 have hx := Bd.exec
 have hby := Bd.bytes
 have hml : c.maxLocals = 6 := hml0
 have hown : s.vm.findClass s_0 = some m.cls := findClass_of_methodNamed Bd.named
 have hnm := (name_of_methodNamed Bd.named Bd.method).1
 have X0 : Stand p l e (rr 2 1 2 35) s m #[.ref x0, .ref x1, .int i_0, .int i_2, .null] below meth c s₁ [] 0 0 := Stand.of_body Bd
 have e0 : s₁.heap = h0 := by rw [← hh, Bd.state]; rfl
 show own_G _ _ _ _ (s₁.setTop (entryFrame m #[.ref x0, .ref x1, .int i_0, .int i_2, .null] 6))
 refine goo (fun _ k => castTop (ef_7_RRIIn m x0 x1 i_0 i_2) k) ?_
 have N0 := Fr.nil n0
 have KP0 := Keep.refl h0 [x0]
 refine goo (fun _ k => XS.aloadN X0.here hx rfl (hb hby d7_0) rfl rfl k) ?_
 obtain ⟨T'0, X'0, e'0, st'0⟩ := initO X0 hx hZ hown (qw hw 20 rfl) (qw hw 21 rfl) (qw hw 22 rfl) e0 (g := (mkF m 1 #[rv x0, rv x1, iv i_0, iv i_2, .val .null, .unset] [.ref x0])) rfl (by rw [hml]; rfl) rfl (hb hby d7_1) (by decide) (W := 0) (Nat.le_of_eq rfl) (by decide)
 refine goo st'0 ?_
 refine goo (fun _ k => XS.iloadN X'0.here hx rfl (hb hby d7_4) rfl <| XS.ifYes X'0.here hx rfl (pc0 := 5) (pc' := 27) rfl (hb hby d7_5) rfl (((if0 _ _).trans (feq (by decide : ¬ (i_2 = i_0))).2)) (by decide) (by decide) k) ?_
 obtain ⟨T'1, X'1, e'1, st'1⟩ := getS2 X'0 hx hZ hown (host := "") (Or.inl (qw hw 5 rfl)) Via.refl e'0 p5_ (g := (mkF m 27 #[rv x0, rv x1, iv i_0, iv i_2, .val .null, .unset] [])) rfl (hb hby d7_27)
 refine goo st'1 ?_
 show own_G _ _ _ _ (T'1.setTop (mkF m 30 #[rv x0, rv x1, iv i_0, iv i_2, .val .null, .unset] [.int cz]))
 refine goo (fun _ k => XS.ifNo X'1.here hx rfl (hb hby d7_30) rfl (((if0 _ _).trans (feq p6_).1)) <| XS.aloadN X'1.here hx rfl (hb hby d7_33) rfl rfl <| XS.iloadN X'1.here hx rfl (hb hby d7_34) rfl <| XS.iloadN X'1.here hx rfl (hb hby d7_35) rfl k) ?_
 obtain ⟨_, _, ⟨T'2, L'2, k'2, n'2⟩, -, X'2, ⟨Lc'2, hQ'2, l'2, y'2, z'2⟩, st'2⟩ := Jvm.LawKit.callS X'1 hx (y := Y16) hown (mvT hZ (qw hw 34 rfl)) (mvT hZ (qw hw 35 rfl)) (mvT hZ (qw hw 36 rfl)) (mvT hZ (qw hw 37 rfl)) (by decide) (backOf (W := 0) (rm_c3_2_0_2 l Z a0 hw [] x1 kc w0 w1 h0 n0 Z0 p4_ p8_ p9_) hZ (qw hw 37 rfl) (qw hw 36 rfl) (by decide) (by decide)) (g := (mkF m 36 #[rv x0, rv x1, iv i_0, iv i_2, .val .null, .unset] [.int i_2, .int i_0, .ref x1])) rfl (by rw [hml]; rfl) (argsL := [.ref x1, .int i_0, .int i_2]) (rest := []) (lenOf own_pd10 rfl) rfl (Nat.le_of_eq rfl) (hb hby d7_36) (fun _ _ => ⟨rfl, e'1, (by decide : 0 + 1 ≤ _), (by decide : 0 + 2 ≤ _)⟩)
 dsimp only [Pt.U, Pt.locs, Pt.cells, Pt.slots] at X'2 l'2 y'2 z'2 st'2 hQ'2
 subst l'2 y'2 z'2
 obtain ⟨b'2, rfl, Nq'2, K'2, gz'2, qx'2⟩ := hQ'2
 have ne_3 : x0 ≠ b'2 := Nat.ne_of_lt (Nat.lt_of_lt_of_le p0_.lt gz'2)
 have sz_218 : h0.size ≤ b'2 := Nat.le_trans KP0.1 gz'2
 obtain ⟨kv'2, Vv'2⟩ := qx'2
 have X_4 := p0_.keep K'2
 have F_5 := p2_.keep K'2 nin0
 have F_6 := p3_.keep K'2 nin0
 have KP_7 : Keep h0 T'2.heap [x0] := KP0.trans K'2 all0
 have N_2 := Fr.app N0 Nq'2
 refine goo (fun _ k => st'2 _ k) ?_
 refine goo (fun _ k => XS.astore X'2.here hx rfl (hb hby d7_39) rfl rfl (l' := #[rv x0, rv x1, iv i_0, iv i_2, .val .null, rv b'2]) rfl k) ?_
 show own_G _ _ _ _ (T'2.setTop (mkF m 41 #[rv x0, rv x1, iv i_0, iv i_2, .val .null, rv b'2] []))
 refine goo (fun _ k => XS.aloadN X'2.here hx rfl (hb hby d7_41) rfl rfl <| XS.aload X'2.here hx rfl (hb hby d7_42) rfl rfl <| XS.iloadN X'2.here hx rfl (hb hby d7_44) rfl k) ?_
 obtain ⟨T'8, X'8, e'8, st'8⟩ := own_callP X'2 hx hZ (y := Y15) hown (qw hw 41 rfl) (qw hw 42 rfl) (qw hw 36 rfl) (qw hw 43 rfl) (by decide) (W := 1) (rm_cf2 l Z a0 hw [] b'2 kv'2 (own_by w0) (own_by w1) T'2.heap Vv'2) (by decide) (by decide) rfl rfl rfl (g := (mkF m 45 #[rv x0, rv x1, iv i_0, iv i_2, .val .null, rv b'2] [.int i_2, .ref b'2, .ref x0])) rfl (by rw [hml]; rfl) (argsL := [.ref b'2, .int i_2]) (rest := [.ref x0]) (lenOf own_pd11 rfl) rfl rfl (Nat.le_of_eq rfl) (hb hby d7_45) (by decide) (by decide)
 refine goo st'8 ?_
 obtain ⟨T'9, h'9, X'9, e'9, W'9, st'9⟩ := putFN X'8 hx hZ hown (qw hw 25 rfl) Via.refl e'8 F_6 X_4 (Or.inr ⟨(qw hw 26 rfl), rfl, hnm⟩) (qw hw 11 rfl) (ty := .byte) (v' := .int i_0) (by decide) rfl (by decide) (g := (mkF m 48 #[rv x0, rv x1, iv i_0, iv i_2, .val .null, rv b'2] [.int i_0, .ref x0])) rfl rfl (hb hby d7_48)
 have X_a := X_4.wr W'9
 have F_b := F_5.other W'9 (Or.inr (slot_ne (Or.inr (qw hw 24 rfl)) (Or.inr (qw hw 26 rfl)) (by decide) (t := (.array .byte)) (t' := .byte) (by decide) (by decide)))
 have V_c := Vv'2.other W'9 (Ne.symm ne_3)
 have F_d := F_6.same W'9
 have KP_e : Keep h0 h'9 [x0] := KP_7.wr W'9 (Or.inl (List.mem_of_getElem? (i := 0) rfl))
 have N_9 := Fr.snoc X'9 N_2 p1_
 refine goo st'9 ?_
 refine goo (fun _ k => XS.aloadN X'9.here hx rfl (hb hby d7_51) rfl rfl k) ?_
 show own_G _ _ _ _ (T'9.setTop (mkF m 52 #[rv x0, rv x1, iv i_0, iv i_2, .val .null, rv b'2] [.ref x0]))
 refine goo (fun _ k => XS.aload X'9.here hx rfl (hb hby d7_52) rfl rfl k) ?_
 obtain ⟨T'f, h'f, X'f, e'f, W'f, st'f⟩ := putF X'9 hx hZ hown (host := "") (Or.inl (qw hw 23 rfl)) Via.refl e'9 F_b X_a (Or.inr ⟨(qw hw 24 rfl), rfl, hnm⟩) (qw hw 11 rfl) (ty := (.array .byte)) (by decide) rfl rfl (g := (mkF m 54 #[rv x0, rv x1, iv i_0, iv i_2, .val .null, rv b'2] [.ref b'2, .ref x0])) rfl rfl (hb hby d7_54)
 have X_g := X_a.wr W'f
 have F_h := F_d.other W'f (Or.inr (slot_ne (Or.inr (qw hw 26 rfl)) (Or.inr (qw hw 24 rfl)) (by decide) (t := .byte) (t' := (.array .byte)) (by decide) (by decide)))
 have V_i := V_c.other W'f (Ne.symm ne_3)
 have F_j := F_b.same W'f
 have KP_k : Keep h0 h'f [x0] := KP_e.wr W'f (Or.inl (List.mem_of_getElem? (i := 0) rfl))
 have N_f := Fr.snoc X'f N_9 p1_
 refine goo st'f ?_
 show own_G _ _ _ _ (T'f.setTop (mkF m 57 #[rv x0, rv x1, iv i_0, iv i_2, .val .null, rv b'2] []))
 exact own_end X'f Bd.notSynchronized (v := none) (fun _ => rfl) (Q := Q_rm_sv_2_0_2 Z x0 x1 cz kc w0 w1 h0 n0) (by show Q_rm_sv_2_0_2 Z x0 x1 cz kc w0 w1 h0 n0 (none) T'f.heap _; rw [e'f]; exact ⟨rfl, N_f, KP_k, X_g, F_h, ⟨b'2, kv'2, sz_218, F_j, V_i⟩⟩) (fun fs hr => X'f.returnOut hx Bd.returns (hb hby d7_57) hr) (by decide) (by decide)
def Q_rm_sv_256_0_1 (Z : State) (x0 : Addr) (x1 : Addr) (cz : Int32) (kc : ClassId) (w0 w1 w2 w3 w4 w5 : Int32) (h0 : Heap) (n0 : Nat) (v : Option Value) (h : Heap) (L : List Loc) : Prop := v = none ∧ Fr n0 L ∧ Keep h0 h [x0] ∧ Exa Z h x0 s_0 ∧ Fld Z h x0 s_0 "coder" "B" (.int i_0) ∧ ∃ b k, h0.size ≤ b ∧ Fld Z h x0 s_0 "value" "[B" (.ref b) ∧ Arv Z h b k .byte i_1 [.int (own_by w0)] (.int i_0)
theorem rm_sv_256_0_1 (l : Launch) (Z : State) (a0 : Array Value) (hw : own_HW a0 Z) (ws : List Jvm.Cond) (x0 : Addr) (x1 : Addr) (cz : Int32) (kc : ClassId) (w0 w1 w2 w3 w4 w5 : Int32) (h0 : Heap) (n0 : Nat) (Z0 : n0 ≤ h0.size) (p0_ : Exa Z h0 x0 s_0) (p1_ : n0 ≤ x0) (p2_ : Fld Z h0 x0 s_0 "value" "[B" .null) (p3_ : Fld Z h0 x0 s_0 "coder" "B" (.int i_0)) (p4_ : Arv Z h0 x1 kc .char i_256 [.int w0, .int w1, .int w2, .int w3, .int w4, .int w5] (.int i_0)) (p5_ : Sta Z h0 s_0 "COMPACT_STRINGS" "Z" (.int cz)) (p6_ : ¬ cz = i_0) (p7_ : x0 ≠ x1) (p8_ : own_ok w0)  :
  MetFree l Y17 (head1 (Jvm.Cond.code Y17 jdk_42_method_149_code 6 none :: ws) (rr 2 1 1 35)) (fun a U => a = #[.ref x0, .ref x1, .int i_0, .int i_1, .null] ∧ Z.Warmed39 U.vm ∧ U.heap = h0) (fun _ _ _ _ _ => True) (fun _ U o U' => ∃ v L, o = .returned v ∧ Q_rm_sv_256_0_1 Z x0 x1 cz kc w0 w1 w2 w3 w4 w5 h0 n0 v U'.heap L ∧ FrameEnd U o U' L (rr 2 1 1 35).cells (rr 2 1 1 35).slots) := by
 refine MetFree.of_bodySF (plainFor_of_name own_pn1) hisR ?_
 intro p e s m args below meth c s₁ Bd hml0 hP hK
 obtain ⟨rfl, hZ, hh⟩ := hP
 have hx := Bd.exec
 have hby := Bd.bytes
 have hml : c.maxLocals = 6 := hml0
 have hown : s.vm.findClass s_0 = some m.cls := findClass_of_methodNamed Bd.named
 have hnm := (name_of_methodNamed Bd.named Bd.method).1
 have X0 : Stand p l e (rr 2 1 1 35) s m #[.ref x0, .ref x1, .int i_0, .int i_1, .null] below meth c s₁ [] 0 0 := Stand.of_body Bd
 have e0 : s₁.heap = h0 := by rw [← hh, Bd.state]; rfl
 show own_G _ _ _ _ (s₁.setTop (entryFrame m #[.ref x0, .ref x1, .int i_0, .int i_1, .null] 6))
 refine goo (fun _ k => castTop (ef_7_RRIIn m x0 x1 i_0 i_1) k) ?_
 have N0 := Fr.nil n0
 have KP0 := Keep.refl h0 [x0]
 refine goo (fun _ k => XS.aloadN X0.here hx rfl (hb hby d7_0) rfl rfl k) ?_
 obtain ⟨T'0, X'0, e'0, st'0⟩ := initO X0 hx hZ hown (qw hw 20 rfl) (qw hw 21 rfl) (qw hw 22 rfl) e0 (g := (mkF m 1 #[rv x0, rv x1, iv i_0, iv i_1, .val .null, .unset] [.ref x0])) rfl (by rw [hml]; rfl) rfl (hb hby d7_1) (by decide) (W := 0) (Nat.le_of_eq rfl) (by decide)
 refine goo st'0 ?_
 refine goo (fun _ k => XS.iloadN X'0.here hx rfl (hb hby d7_4) rfl <| XS.ifYes X'0.here hx rfl (pc0 := 5) (pc' := 27) rfl (hb hby d7_5) rfl (((if0 _ _).trans (feq (by decide : ¬ (i_1 = i_0))).2)) (by decide) (by decide) k) ?_
 obtain ⟨T'1, X'1, e'1, st'1⟩ := getS2 X'0 hx hZ hown (host := "") (Or.inl (qw hw 5 rfl)) Via.refl e'0 p5_ (g := (mkF m 27 #[rv x0, rv x1, iv i_0, iv i_1, .val .null, .unset] [])) rfl (hb hby d7_27)
 refine goo st'1 ?_
 show own_G _ _ _ _ (T'1.setTop (mkF m 30 #[rv x0, rv x1, iv i_0, iv i_1, .val .null, .unset] [.int cz]))
 refine goo (fun _ k => XS.ifNo X'1.here hx rfl (hb hby d7_30) rfl (((if0 _ _).trans (feq p6_).1)) <| XS.aloadN X'1.here hx rfl (hb hby d7_33) rfl rfl <| XS.iloadN X'1.here hx rfl (hb hby d7_34) rfl <| XS.iloadN X'1.here hx rfl (hb hby d7_35) rfl k) ?_
 obtain ⟨_, _, ⟨T'2, L'2, k'2, n'2⟩, -, X'2, ⟨Lc'2, hQ'2, l'2, y'2, z'2⟩, st'2⟩ := Jvm.LawKit.callS X'1 hx (y := Y16) hown (mvT hZ (qw hw 34 rfl)) (mvT hZ (qw hw 35 rfl)) (mvT hZ (qw hw 36 rfl)) (mvT hZ (qw hw 37 rfl)) (by decide) (backOf (W := 0) (rm_c3_256_0_1 l Z a0 hw [] x1 kc w0 w1 w2 w3 w4 w5 h0 n0 Z0 p4_ p8_) hZ (qw hw 37 rfl) (qw hw 36 rfl) (by decide) (by decide)) (g := (mkF m 36 #[rv x0, rv x1, iv i_0, iv i_1, .val .null, .unset] [.int i_1, .int i_0, .ref x1])) rfl (by rw [hml]; rfl) (argsL := [.ref x1, .int i_0, .int i_1]) (rest := []) (lenOf own_pd10 rfl) rfl (Nat.le_of_eq rfl) (hb hby d7_36) (fun _ _ => ⟨rfl, e'1, (by decide : 0 + 1 ≤ _), (by decide : 0 + 1 ≤ _)⟩)
 dsimp only [Pt.U, Pt.locs, Pt.cells, Pt.slots] at X'2 l'2 y'2 z'2 st'2 hQ'2
 subst l'2 y'2 z'2
 obtain ⟨b'2, rfl, Nq'2, K'2, gz'2, qx'2⟩ := hQ'2
 have ne_3 : x0 ≠ b'2 := Nat.ne_of_lt (Nat.lt_of_lt_of_le p0_.lt gz'2)
 have sz_251 : h0.size ≤ b'2 := Nat.le_trans KP0.1 gz'2
 obtain ⟨kv'2, Vv'2⟩ := qx'2
 have X_4 := p0_.keep K'2
 have F_5 := p2_.keep K'2 nin0
 have F_6 := p3_.keep K'2 nin0
 have KP_7 : Keep h0 T'2.heap [x0] := KP0.trans K'2 all0
 have N_2 := Fr.app N0 Nq'2
 refine goo (fun _ k => st'2 _ k) ?_
 refine goo (fun _ k => XS.astore X'2.here hx rfl (hb hby d7_39) rfl rfl (l' := #[rv x0, rv x1, iv i_0, iv i_1, .val .null, rv b'2]) rfl k) ?_
 show own_G _ _ _ _ (T'2.setTop (mkF m 41 #[rv x0, rv x1, iv i_0, iv i_1, .val .null, rv b'2] []))
 refine goo (fun _ k => XS.aloadN X'2.here hx rfl (hb hby d7_41) rfl rfl <| XS.aload X'2.here hx rfl (hb hby d7_42) rfl rfl <| XS.iloadN X'2.here hx rfl (hb hby d7_44) rfl k) ?_
 obtain ⟨T'8, X'8, e'8, st'8⟩ := own_callP X'2 hx hZ (y := Y15) hown (qw hw 41 rfl) (qw hw 42 rfl) (qw hw 36 rfl) (qw hw 43 rfl) (by decide) (W := 1) (rm_cf1 l Z a0 hw [] b'2 kv'2 (own_by w0) T'2.heap Vv'2) (by decide) (by decide) rfl rfl rfl (g := (mkF m 45 #[rv x0, rv x1, iv i_0, iv i_1, .val .null, rv b'2] [.int i_1, .ref b'2, .ref x0])) rfl (by rw [hml]; rfl) (argsL := [.ref b'2, .int i_1]) (rest := [.ref x0]) (lenOf own_pd11 rfl) rfl rfl (Nat.le_of_eq rfl) (hb hby d7_45) (by decide) (by decide)
 refine goo st'8 ?_
 obtain ⟨T'9, h'9, X'9, e'9, W'9, st'9⟩ := putFN X'8 hx hZ hown (qw hw 25 rfl) Via.refl e'8 F_6 X_4 (Or.inr ⟨(qw hw 26 rfl), rfl, hnm⟩) (qw hw 11 rfl) (ty := .byte) (v' := .int i_0) (by decide) rfl (by decide) (g := (mkF m 48 #[rv x0, rv x1, iv i_0, iv i_1, .val .null, rv b'2] [.int i_0, .ref x0])) rfl rfl (hb hby d7_48)
 have X_a := X_4.wr W'9
 have F_b := F_5.other W'9 (Or.inr (slot_ne (Or.inr (qw hw 24 rfl)) (Or.inr (qw hw 26 rfl)) (by decide) (t := (.array .byte)) (t' := .byte) (by decide) (by decide)))
 have V_c := Vv'2.other W'9 (Ne.symm ne_3)
 have F_d := F_6.same W'9
 have KP_e : Keep h0 h'9 [x0] := KP_7.wr W'9 (Or.inl (List.mem_of_getElem? (i := 0) rfl))
 have N_9 := Fr.snoc X'9 N_2 p1_
 refine goo st'9 ?_
 refine goo (fun _ k => XS.aloadN X'9.here hx rfl (hb hby d7_51) rfl rfl k) ?_
 show own_G _ _ _ _ (T'9.setTop (mkF m 52 #[rv x0, rv x1, iv i_0, iv i_1, .val .null, rv b'2] [.ref x0]))
 refine goo (fun _ k => XS.aload X'9.here hx rfl (hb hby d7_52) rfl rfl k) ?_
 obtain ⟨T'f, h'f, X'f, e'f, W'f, st'f⟩ := putF X'9 hx hZ hown (host := "") (Or.inl (qw hw 23 rfl)) Via.refl e'9 F_b X_a (Or.inr ⟨(qw hw 24 rfl), rfl, hnm⟩) (qw hw 11 rfl) (ty := (.array .byte)) (by decide) rfl rfl (g := (mkF m 54 #[rv x0, rv x1, iv i_0, iv i_1, .val .null, rv b'2] [.ref b'2, .ref x0])) rfl rfl (hb hby d7_54)
 have X_g := X_a.wr W'f
 have F_h := F_d.other W'f (Or.inr (slot_ne (Or.inr (qw hw 26 rfl)) (Or.inr (qw hw 24 rfl)) (by decide) (t := .byte) (t' := (.array .byte)) (by decide) (by decide)))
 have V_i := V_c.other W'f (Ne.symm ne_3)
 have F_j := F_b.same W'f
 have KP_k : Keep h0 h'f [x0] := KP_e.wr W'f (Or.inl (List.mem_of_getElem? (i := 0) rfl))
 have N_f := Fr.snoc X'f N_9 p1_
 refine goo st'f ?_
 show own_G _ _ _ _ (T'f.setTop (mkF m 57 #[rv x0, rv x1, iv i_0, iv i_1, .val .null, rv b'2] []))
 exact own_end X'f Bd.notSynchronized (v := none) (fun _ => rfl) (Q := Q_rm_sv_256_0_1 Z x0 x1 cz kc w0 w1 w2 w3 w4 w5 h0 n0) (by show Q_rm_sv_256_0_1 Z x0 x1 cz kc w0 w1 w2 w3 w4 w5 h0 n0 (none) T'f.heap _; rw [e'f]; exact ⟨rfl, N_f, KP_k, X_g, F_h, ⟨b'2, kv'2, sz_251, F_j, V_i⟩⟩) (fun fs hr => X'f.returnOut hx Bd.returns (hb hby d7_57) hr) (by decide) (by decide)
def Q_rm_sv_256_1_1 (Z : State) (x0 : Addr) (x1 : Addr) (cz : Int32) (kc : ClassId) (w0 w1 w2 w3 w4 w5 : Int32) (h0 : Heap) (n0 : Nat) (v : Option Value) (h : Heap) (L : List Loc) : Prop := v = none ∧ Fr n0 L ∧ Keep h0 h [x0] ∧ Exa Z h x0 s_0 ∧ Fld Z h x0 s_0 "coder" "B" (.int i_0) ∧ ∃ b k, h0.size ≤ b ∧ Fld Z h x0 s_0 "value" "[B" (.ref b) ∧ Arv Z h b k .byte i_1 [.int (own_by w1)] (.int i_0)
theorem rm_sv_256_1_1 (l : Launch) (Z : State) (a0 : Array Value) (hw : own_HW a0 Z) (ws : List Jvm.Cond) (x0 : Addr) (x1 : Addr) (cz : Int32) (kc : ClassId) (w0 w1 w2 w3 w4 w5 : Int32) (h0 : Heap) (n0 : Nat) (Z0 : n0 ≤ h0.size) (p0_ : Exa Z h0 x0 s_0) (p1_ : n0 ≤ x0) (p2_ : Fld Z h0 x0 s_0 "value" "[B" .null) (p3_ : Fld Z h0 x0 s_0 "coder" "B" (.int i_0)) (p4_ : Arv Z h0 x1 kc .char i_256 [.int w0, .int w1, .int w2, .int w3, .int w4, .int w5] (.int i_0)) (p5_ : Sta Z h0 s_0 "COMPACT_STRINGS" "Z" (.int cz)) (p6_ : ¬ cz = i_0) (p7_ : x0 ≠ x1) (p8_ : own_ok w1)  :
  MetFree l Y17 (head1 (Jvm.Cond.code Y17 jdk_42_method_149_code 6 none :: ws) (rr 2 1 1 35)) (fun a U => a = #[.ref x0, .ref x1, .int i_1, .int i_1, .null] ∧ Z.Warmed39 U.vm ∧ U.heap = h0) (fun _ _ _ _ _ => True) (fun _ U o U' => ∃ v L, o = .returned v ∧ Q_rm_sv_256_1_1 Z x0 x1 cz kc w0 w1 w2 w3 w4 w5 h0 n0 v U'.heap L ∧ FrameEnd U o U' L (rr 2 1 1 35).cells (rr 2 1 1 35).slots) := by
 refine MetFree.of_bodySF (plainFor_of_name own_pn1) hisR ?_
 intro p e s m args below meth c s₁ Bd hml0 hP hK
 obtain ⟨rfl, hZ, hh⟩ := hP
 have hx := Bd.exec
 have hby := Bd.bytes
 have hml : c.maxLocals = 6 := hml0
 have hown : s.vm.findClass s_0 = some m.cls := findClass_of_methodNamed Bd.named
 have hnm := (name_of_methodNamed Bd.named Bd.method).1
 have X0 : Stand p l e (rr 2 1 1 35) s m #[.ref x0, .ref x1, .int i_1, .int i_1, .null] below meth c s₁ [] 0 0 := Stand.of_body Bd
 have e0 : s₁.heap = h0 := by rw [← hh, Bd.state]; rfl
 show own_G _ _ _ _ (s₁.setTop (entryFrame m #[.ref x0, .ref x1, .int i_1, .int i_1, .null] 6))
 refine goo (fun _ k => castTop (ef_7_RRIIn m x0 x1 i_1 i_1) k) ?_
 have N0 := Fr.nil n0
 have KP0 := Keep.refl h0 [x0]
 refine goo (fun _ k => XS.aloadN X0.here hx rfl (hb hby d7_0) rfl rfl k) ?_
 obtain ⟨T'0, X'0, e'0, st'0⟩ := initO X0 hx hZ hown (qw hw 20 rfl) (qw hw 21 rfl) (qw hw 22 rfl) e0 (g := (mkF m 1 #[rv x0, rv x1, iv i_1, iv i_1, .val .null, .unset] [.ref x0])) rfl (by rw [hml]; rfl) rfl (hb hby d7_1) (by decide) (W := 0) (Nat.le_of_eq rfl) (by decide)
 refine goo st'0 ?_
 refine goo (fun _ k => XS.iloadN X'0.here hx rfl (hb hby d7_4) rfl <| XS.ifYes X'0.here hx rfl (pc0 := 5) (pc' := 27) rfl (hb hby d7_5) rfl (((if0 _ _).trans (feq (by decide : ¬ (i_1 = i_0))).2)) (by decide) (by decide) k) ?_
 obtain ⟨T'1, X'1, e'1, st'1⟩ := getS2 X'0 hx hZ hown (host := "") (Or.inl (qw hw 5 rfl)) Via.refl e'0 p5_ (g := (mkF m 27 #[rv x0, rv x1, iv i_1, iv i_1, .val .null, .unset] [])) rfl (hb hby d7_27)
 refine goo st'1 ?_
 show own_G _ _ _ _ (T'1.setTop (mkF m 30 #[rv x0, rv x1, iv i_1, iv i_1, .val .null, .unset] [.int cz]))
 refine goo (fun _ k => XS.ifNo X'1.here hx rfl (hb hby d7_30) rfl (((if0 _ _).trans (feq p6_).1)) <| XS.aloadN X'1.here hx rfl (hb hby d7_33) rfl rfl <| XS.iloadN X'1.here hx rfl (hb hby d7_34) rfl <| XS.iloadN X'1.here hx rfl (hb hby d7_35) rfl k) ?_
 obtain ⟨_, _, ⟨T'2, L'2, k'2, n'2⟩, -, X'2, ⟨Lc'2, hQ'2, l'2, y'2, z'2⟩, st'2⟩ := Jvm.LawKit.callS X'1 hx (y := Y16) hown (mvT hZ (qw hw 34 rfl)) (mvT hZ (qw hw 35 rfl)) (mvT hZ (qw hw 36 rfl)) (mvT hZ (qw hw 37 rfl)) (by decide) (backOf (W := 0) (rm_c3_256_1_1 l Z a0 hw [] x1 kc w0 w1 w2 w3 w4 w5 h0 n0 Z0 p4_ p8_) hZ (qw hw 37 rfl) (qw hw 36 rfl) (by decide) (by decide)) (g := (mkF m 36 #[rv x0, rv x1, iv i_1, iv i_1, .val .null, .unset] [.int i_1, .int i_1, .ref x1])) rfl (by rw [hml]; rfl) (argsL := [.ref x1, .int i_1, .int i_1]) (rest := []) (lenOf own_pd10 rfl) rfl (Nat.le_of_eq rfl) (hb hby d7_36) (fun _ _ => ⟨rfl, e'1, (by decide : 0 + 1 ≤ _), (by decide : 0 + 1 ≤ _)⟩)
 dsimp only [Pt.U, Pt.locs, Pt.cells, Pt.slots] at X'2 l'2 y'2 z'2 st'2 hQ'2
 subst l'2 y'2 z'2
 obtain ⟨b'2, rfl, Nq'2, K'2, gz'2, qx'2⟩ := hQ'2
 have ne_3 : x0 ≠ b'2 := Nat.ne_of_lt (Nat.lt_of_lt_of_le p0_.lt gz'2)
 have sz_284 : h0.size ≤ b'2 := Nat.le_trans KP0.1 gz'2
 obtain ⟨kv'2, Vv'2⟩ := qx'2
 have X_4 := p0_.keep K'2
 have F_5 := p2_.keep K'2 nin0
 have F_6 := p3_.keep K'2 nin0
 have KP_7 : Keep h0 T'2.heap [x0] := KP0.trans K'2 all0
 have N_2 := Fr.app N0 Nq'2
 refine goo (fun _ k => st'2 _ k) ?_
 refine goo (fun _ k => XS.astore X'2.here hx rfl (hb hby d7_39) rfl rfl (l' := #[rv x0, rv x1, iv i_1, iv i_1, .val .null, rv b'2]) rfl k) ?_
 show own_G _ _ _ _ (T'2.setTop (mkF m 41 #[rv x0, rv x1, iv i_1, iv i_1, .val .null, rv b'2] []))
 refine goo (fun _ k => XS.aloadN X'2.here hx rfl (hb hby d7_41) rfl rfl <| XS.aload X'2.here hx rfl (hb hby d7_42) rfl rfl <| XS.iloadN X'2.here hx rfl (hb hby d7_44) rfl k) ?_
 obtain ⟨T'8, X'8, e'8, st'8⟩ := own_callP X'2 hx hZ (y := Y15) hown (qw hw 41 rfl) (qw hw 42 rfl) (qw hw 36 rfl) (qw hw 43 rfl) (by decide) (W := 1) (rm_cf1 l Z a0 hw [] b'2 kv'2 (own_by w1) T'2.heap Vv'2) (by decide) (by decide) rfl rfl rfl (g := (mkF m 45 #[rv x0, rv x1, iv i_1, iv i_1, .val .null, rv b'2] [.int i_1, .ref b'2, .ref x0])) rfl (by rw [hml]; rfl) (argsL := [.ref b'2, .int i_1]) (rest := [.ref x0]) (lenOf own_pd11 rfl) rfl rfl (Nat.le_of_eq rfl) (hb hby d7_45) (by decide) (by decide)
 refine goo st'8 ?_
 obtain ⟨T'9, h'9, X'9, e'9, W'9, st'9⟩ := putFN X'8 hx hZ hown (qw hw 25 rfl) Via.refl e'8 F_6 X_4 (Or.inr ⟨(qw hw 26 rfl), rfl, hnm⟩) (qw hw 11 rfl) (ty := .byte) (v' := .int i_0) (by decide) rfl (by decide) (g := (mkF m 48 #[rv x0, rv x1, iv i_1, iv i_1, .val .null, rv b'2] [.int i_0, .ref x0])) rfl rfl (hb hby d7_48)
 have X_a := X_4.wr W'9
 have F_b := F_5.other W'9 (Or.inr (slot_ne (Or.inr (qw hw 24 rfl)) (Or.inr (qw hw 26 rfl)) (by decide) (t := (.array .byte)) (t' := .byte) (by decide) (by decide)))
 have V_c := Vv'2.other W'9 (Ne.symm ne_3)
 have F_d := F_6.same W'9
 have KP_e : Keep h0 h'9 [x0] := KP_7.wr W'9 (Or.inl (List.mem_of_getElem? (i := 0) rfl))
 have N_9 := Fr.snoc X'9 N_2 p1_
 refine goo st'9 ?_
 refine goo (fun _ k => XS.aloadN X'9.here hx rfl (hb hby d7_51) rfl rfl k) ?_
 show own_G _ _ _ _ (T'9.setTop (mkF m 52 #[rv x0, rv x1, iv i_1, iv i_1, .val .null, rv b'2] [.ref x0]))
 refine goo (fun _ k => XS.aload X'9.here hx rfl (hb hby d7_52) rfl rfl k) ?_
 obtain ⟨T'f, h'f, X'f, e'f, W'f, st'f⟩ := putF X'9 hx hZ hown (host := "") (Or.inl (qw hw 23 rfl)) Via.refl e'9 F_b X_a (Or.inr ⟨(qw hw 24 rfl), rfl, hnm⟩) (qw hw 11 rfl) (ty := (.array .byte)) (by decide) rfl rfl (g := (mkF m 54 #[rv x0, rv x1, iv i_1, iv i_1, .val .null, rv b'2] [.ref b'2, .ref x0])) rfl rfl (hb hby d7_54)
 have X_g := X_a.wr W'f
 have F_h := F_d.other W'f (Or.inr (slot_ne (Or.inr (qw hw 26 rfl)) (Or.inr (qw hw 24 rfl)) (by decide) (t := .byte) (t' := (.array .byte)) (by decide) (by decide)))
 have V_i := V_c.other W'f (Ne.symm ne_3)
 have F_j := F_b.same W'f
 have KP_k : Keep h0 h'f [x0] := KP_e.wr W'f (Or.inl (List.mem_of_getElem? (i := 0) rfl))
 have N_f := Fr.snoc X'f N_9 p1_
 refine goo st'f ?_
 show own_G _ _ _ _ (T'f.setTop (mkF m 57 #[rv x0, rv x1, iv i_1, iv i_1, .val .null, rv b'2] []))
 exact own_end X'f Bd.notSynchronized (v := none) (fun _ => rfl) (Q := Q_rm_sv_256_1_1 Z x0 x1 cz kc w0 w1 w2 w3 w4 w5 h0 n0) (by show Q_rm_sv_256_1_1 Z x0 x1 cz kc w0 w1 w2 w3 w4 w5 h0 n0 (none) T'f.heap _; rw [e'f]; exact ⟨rfl, N_f, KP_k, X_g, F_h, ⟨b'2, kv'2, sz_284, F_j, V_i⟩⟩) (fun fs hr => X'f.returnOut hx Bd.returns (hb hby d7_57) hr) (by decide) (by decide)
def Q_rm_sv_256_3_1 (Z : State) (x0 : Addr) (x1 : Addr) (cz : Int32) (kc : ClassId) (w0 w1 w2 w3 w4 w5 : Int32) (h0 : Heap) (n0 : Nat) (v : Option Value) (h : Heap) (L : List Loc) : Prop := v = none ∧ Fr n0 L ∧ Keep h0 h [x0] ∧ Exa Z h x0 s_0 ∧ Fld Z h x0 s_0 "coder" "B" (.int i_0) ∧ ∃ b k, h0.size ≤ b ∧ Fld Z h x0 s_0 "value" "[B" (.ref b) ∧ Arv Z h b k .byte i_1 [.int (own_by w3)] (.int i_0)
theorem rm_sv_256_3_1 (l : Launch) (Z : State) (a0 : Array Value) (hw : own_HW a0 Z) (ws : List Jvm.Cond) (x0 : Addr) (x1 : Addr) (cz : Int32) (kc : ClassId) (w0 w1 w2 w3 w4 w5 : Int32) (h0 : Heap) (n0 : Nat) (Z0 : n0 ≤ h0.size) (p0_ : Exa Z h0 x0 s_0) (p1_ : n0 ≤ x0) (p2_ : Fld Z h0 x0 s_0 "value" "[B" .null) (p3_ : Fld Z h0 x0 s_0 "coder" "B" (.int i_0)) (p4_ : Arv Z h0 x1 kc .char i_256 [.int w0, .int w1, .int w2, .int w3, .int w4, .int w5] (.int i_0)) (p5_ : Sta Z h0 s_0 "COMPACT_STRINGS" "Z" (.int cz)) (p6_ : ¬ cz = i_0) (p7_ : x0 ≠ x1) (p8_ : own_ok w3)  :
  MetFree l Y17 (head1 (Jvm.Cond.code Y17 jdk_42_method_149_code 6 none :: ws) (rr 2 1 1 35)) (fun a U => a = #[.ref x0, .ref x1, .int i_3, .int i_1, .null] ∧ Z.Warmed39 U.vm ∧ U.heap = h0) (fun _ _ _ _ _ => True) (fun _ U o U' => ∃ v L, o = .returned v ∧ Q_rm_sv_256_3_1 Z x0 x1 cz kc w0 w1 w2 w3 w4 w5 h0 n0 v U'.heap L ∧ FrameEnd U o U' L (rr 2 1 1 35).cells (rr 2 1 1 35).slots) := by
 refine MetFree.of_bodySF (plainFor_of_name own_pn1) hisR ?_
 intro p e s m args below meth c s₁ Bd hml0 hP hK
 obtain ⟨rfl, hZ, hh⟩ := hP
 have hx := Bd.exec
 have hby := Bd.bytes
 have hml : c.maxLocals = 6 := hml0
 have hown : s.vm.findClass s_0 = some m.cls := findClass_of_methodNamed Bd.named
 have hnm := (name_of_methodNamed Bd.named Bd.method).1
 have X0 : Stand p l e (rr 2 1 1 35) s m #[.ref x0, .ref x1, .int i_3, .int i_1, .null] below meth c s₁ [] 0 0 := Stand.of_body Bd
 have e0 : s₁.heap = h0 := by rw [← hh, Bd.state]; rfl
 show own_G _ _ _ _ (s₁.setTop (entryFrame m #[.ref x0, .ref x1, .int i_3, .int i_1, .null] 6))
 refine goo (fun _ k => castTop (ef_7_RRIIn m x0 x1 i_3 i_1) k) ?_
 have N0 := Fr.nil n0
 have KP0 := Keep.refl h0 [x0]
 refine goo (fun _ k => XS.aloadN X0.here hx rfl (hb hby d7_0) rfl rfl k) ?_
 obtain ⟨T'0, X'0, e'0, st'0⟩ := initO X0 hx hZ hown (qw hw 20 rfl) (qw hw 21 rfl) (qw hw 22 rfl) e0 (g := (mkF m 1 #[rv x0, rv x1, iv i_3, iv i_1, .val .null, .unset] [.ref x0])) rfl (by rw [hml]; rfl) rfl (hb hby d7_1) (by decide) (W := 0) (Nat.le_of_eq rfl) (by decide)
 refine goo st'0 ?_
 refine goo (fun _ k => XS.iloadN X'0.here hx rfl (hb hby d7_4) rfl <| XS.ifYes X'0.here hx rfl (pc0 := 5) (pc' := 27) rfl (hb hby d7_5) rfl (((if0 _ _).trans (feq (by decide : ¬ (i_1 = i_0))).2)) (by decide) (by decide) k) ?_
 obtain ⟨T'1, X'1, e'1, st'1⟩ := getS2 X'0 hx hZ hown (host := "") (Or.inl (qw hw 5 rfl)) Via.refl e'0 p5_ (g := (mkF m 27 #[rv x0, rv x1, iv i_3, iv i_1, .val .null, .unset] [])) rfl (hb hby d7_27)
 refine goo st'1 ?_
 show own_G _ _ _ _ (T'1.setTop (mkF m 30 #[rv x0, rv x1, iv i_3, iv i_1, .val .null, .unset] [.int cz]))
 refine goo (fun _ k => XS.ifNo X'1.here hx rfl (hb hby d7_30) rfl (((if0 _ _).trans (feq p6_).1)) <| XS.aloadN X'1.here hx rfl (hb hby d7_33) rfl rfl <| XS.iloadN X'1.here hx rfl (hb hby d7_34) rfl <| XS.iloadN X'1.here hx rfl (hb hby d7_35) rfl k) ?_
 obtain ⟨_, _, ⟨T'2, L'2, k'2, n'2⟩, -, X'2, ⟨Lc'2, hQ'2, l'2, y'2, z'2⟩, st'2⟩ := Jvm.LawKit.callS X'1 hx (y := Y16) hown (mvT hZ (qw hw 34 rfl)) (mvT hZ (qw hw 35 rfl)) (mvT hZ (qw hw 36 rfl)) (mvT hZ (qw hw 37 rfl)) (by decide) (backOf (W := 0) (rm_c3_256_3_1 l Z a0 hw [] x1 kc w0 w1 w2 w3 w4 w5 h0 n0 Z0 p4_ p8_) hZ (qw hw 37 rfl) (qw hw 36 rfl) (by decide) (by decide)) (g := (mkF m 36 #[rv x0, rv x1, iv i_3, iv i_1, .val .null, .unset] [.int i_1, .int i_3, .ref x1])) rfl (by rw [hml]; rfl) (argsL := [.ref x1, .int i_3, .int i_1]) (rest := []) (lenOf own_pd10 rfl) rfl (Nat.le_of_eq rfl) (hb hby d7_36) (fun _ _ => ⟨rfl, e'1, (by decide : 0 + 1 ≤ _), (by decide : 0 + 1 ≤ _)⟩)
 dsimp only [Pt.U, Pt.locs, Pt.cells, Pt.slots] at X'2 l'2 y'2 z'2 st'2 hQ'2
 subst l'2 y'2 z'2
 obtain ⟨b'2, rfl, Nq'2, K'2, gz'2, qx'2⟩ := hQ'2
 have ne_3 : x0 ≠ b'2 := Nat.ne_of_lt (Nat.lt_of_lt_of_le p0_.lt gz'2)
 have sz_317 : h0.size ≤ b'2 := Nat.le_trans KP0.1 gz'2
 obtain ⟨kv'2, Vv'2⟩ := qx'2
 have X_4 := p0_.keep K'2
 have F_5 := p2_.keep K'2 nin0
 have F_6 := p3_.keep K'2 nin0
 have KP_7 : Keep h0 T'2.heap [x0] := KP0.trans K'2 all0
 have N_2 := Fr.app N0 Nq'2
 refine goo (fun _ k => st'2 _ k) ?_
 refine goo (fun _ k => XS.astore X'2.here hx rfl (hb hby d7_39) rfl rfl (l' := #[rv x0, rv x1, iv i_3, iv i_1, .val .null, rv b'2]) rfl k) ?_
 show own_G _ _ _ _ (T'2.setTop (mkF m 41 #[rv x0, rv x1, iv i_3, iv i_1, .val .null, rv b'2] []))
 refine goo (fun _ k => XS.aloadN X'2.here hx rfl (hb hby d7_41) rfl rfl <| XS.aload X'2.here hx rfl (hb hby d7_42) rfl rfl <| XS.iloadN X'2.here hx rfl (hb hby d7_44) rfl k) ?_
 obtain ⟨T'8, X'8, e'8, st'8⟩ := own_callP X'2 hx hZ (y := Y15) hown (qw hw 41 rfl) (qw hw 42 rfl) (qw hw 36 rfl) (qw hw 43 rfl) (by decide) (W := 1) (rm_cf1 l Z a0 hw [] b'2 kv'2 (own_by w3) T'2.heap Vv'2) (by decide) (by decide) rfl rfl rfl (g := (mkF m 45 #[rv x0, rv x1, iv i_3, iv i_1, .val .null, rv b'2] [.int i_1, .ref b'2, .ref x0])) rfl (by rw [hml]; rfl) (argsL := [.ref b'2, .int i_1]) (rest := [.ref x0]) (lenOf own_pd11 rfl) rfl rfl (Nat.le_of_eq rfl) (hb hby d7_45) (by decide) (by decide)
 refine goo st'8 ?_
 obtain ⟨T'9, h'9, X'9, e'9, W'9, st'9⟩ := putFN X'8 hx hZ hown (qw hw 25 rfl) Via.refl e'8 F_6 X_4 (Or.inr ⟨(qw hw 26 rfl), rfl, hnm⟩) (qw hw 11 rfl) (ty := .byte) (v' := .int i_0) (by decide) rfl (by decide) (g := (mkF m 48 #[rv x0, rv x1, iv i_3, iv i_1, .val .null, rv b'2] [.int i_0, .ref x0])) rfl rfl (hb hby d7_48)
 have X_a := X_4.wr W'9
 have F_b := F_5.other W'9 (Or.inr (slot_ne (Or.inr (qw hw 24 rfl)) (Or.inr (qw hw 26 rfl)) (by decide) (t := (.array .byte)) (t' := .byte) (by decide) (by decide)))
 have V_c := Vv'2.other W'9 (Ne.symm ne_3)
 have F_d := F_6.same W'9
 have KP_e : Keep h0 h'9 [x0] := KP_7.wr W'9 (Or.inl (List.mem_of_getElem? (i := 0) rfl))
 have N_9 := Fr.snoc X'9 N_2 p1_
 refine goo st'9 ?_
 refine goo (fun _ k => XS.aloadN X'9.here hx rfl (hb hby d7_51) rfl rfl k) ?_
 show own_G _ _ _ _ (T'9.setTop (mkF m 52 #[rv x0, rv x1, iv i_3, iv i_1, .val .null, rv b'2] [.ref x0]))
 refine goo (fun _ k => XS.aload X'9.here hx rfl (hb hby d7_52) rfl rfl k) ?_
 obtain ⟨T'f, h'f, X'f, e'f, W'f, st'f⟩ := putF X'9 hx hZ hown (host := "") (Or.inl (qw hw 23 rfl)) Via.refl e'9 F_b X_a (Or.inr ⟨(qw hw 24 rfl), rfl, hnm⟩) (qw hw 11 rfl) (ty := (.array .byte)) (by decide) rfl rfl (g := (mkF m 54 #[rv x0, rv x1, iv i_3, iv i_1, .val .null, rv b'2] [.ref b'2, .ref x0])) rfl rfl (hb hby d7_54)
 have X_g := X_a.wr W'f
 have F_h := F_d.other W'f (Or.inr (slot_ne (Or.inr (qw hw 26 rfl)) (Or.inr (qw hw 24 rfl)) (by decide) (t := .byte) (t' := (.array .byte)) (by decide) (by decide)))
 have V_i := V_c.other W'f (Ne.symm ne_3)
 have F_j := F_b.same W'f
 have KP_k : Keep h0 h'f [x0] := KP_e.wr W'f (Or.inl (List.mem_of_getElem? (i := 0) rfl))
 have N_f := Fr.snoc X'f N_9 p1_
 refine goo st'f ?_
 show own_G _ _ _ _ (T'f.setTop (mkF m 57 #[rv x0, rv x1, iv i_3, iv i_1, .val .null, rv b'2] []))
 exact own_end X'f Bd.notSynchronized (v := none) (fun _ => rfl) (Q := Q_rm_sv_256_3_1 Z x0 x1 cz kc w0 w1 w2 w3 w4 w5 h0 n0) (by show Q_rm_sv_256_3_1 Z x0 x1 cz kc w0 w1 w2 w3 w4 w5 h0 n0 (none) T'f.heap _; rw [e'f]; exact ⟨rfl, N_f, KP_k, X_g, F_h, ⟨b'2, kv'2, sz_317, F_j, V_i⟩⟩) (fun fs hr => X'f.returnOut hx Bd.returns (hb hby d7_57) hr) (by decide) (by decide)
def Q_rm_sv_256_1_2 (Z : State) (x0 : Addr) (x1 : Addr) (cz : Int32) (kc : ClassId) (w0 w1 w2 w3 w4 w5 : Int32) (h0 : Heap) (n0 : Nat) (v : Option Value) (h : Heap) (L : List Loc) : Prop := v = none ∧ Fr n0 L ∧ Keep h0 h [x0] ∧ Exa Z h x0 s_0 ∧ Fld Z h x0 s_0 "coder" "B" (.int i_0) ∧ ∃ b k, h0.size ≤ b ∧ Fld Z h x0 s_0 "value" "[B" (.ref b) ∧ Arv Z h b k .byte i_2 [.int (own_by w1), .int (own_by w2)] (.int i_0)
theorem rm_sv_256_1_2 (l : Launch) (Z : State) (a0 : Array Value) (hw : own_HW a0 Z) (ws : List Jvm.Cond) (x0 : Addr) (x1 : Addr) (cz : Int32) (kc : ClassId) (w0 w1 w2 w3 w4 w5 : Int32) (h0 : Heap) (n0 : Nat) (Z0 : n0 ≤ h0.size) (p0_ : Exa Z h0 x0 s_0) (p1_ : n0 ≤ x0) (p2_ : Fld Z h0 x0 s_0 "value" "[B" .null) (p3_ : Fld Z h0 x0 s_0 "coder" "B" (.int i_0)) (p4_ : Arv Z h0 x1 kc .char i_256 [.int w0, .int w1, .int w2, .int w3, .int w4, .int w5] (.int i_0)) (p5_ : Sta Z h0 s_0 "COMPACT_STRINGS" "Z" (.int cz)) (p6_ : ¬ cz = i_0) (p7_ : x0 ≠ x1) (p8_ : own_ok w1) (p9_ : own_ok w2)  :
  MetFree l Y17 (head1 (Jvm.Cond.code Y17 jdk_42_method_149_code 6 none :: ws) (rr 2 1 2 35)) (fun a U => a = #[.ref x0, .ref x1, .int i_1, .int i_2, .null] ∧ Z.Warmed39 U.vm ∧ U.heap = h0) (fun _ _ _ _ _ => True) (fun _ U o U' => ∃ v L, o = .returned v ∧ Q_rm_sv_256_1_2 Z x0 x1 cz kc w0 w1 w2 w3 w4 w5 h0 n0 v U'.heap L ∧ FrameEnd U o U' L (rr 2 1 2 35).cells (rr 2 1 2 35).slots) := by
 refine MetFree.of_bodySF (plainFor_of_name own_pn1) hisR ?_
 intro p e s m args below meth c s₁ Bd hml0 hP hK
 obtain ⟨rfl, hZ, hh⟩ := hP
 have hx := Bd.exec
 have hby := Bd.bytes
 have hml : c.maxLocals = 6 := hml0
 have hown : s.vm.findClass s_0 = some m.cls := findClass_of_methodNamed Bd.named
 have hnm := (name_of_methodNamed Bd.named Bd.method).1
 have X0 : Stand p l e (rr 2 1 2 35) s m #[.ref x0, .ref x1, .int i_1, .int i_2, .null] below meth c s₁ [] 0 0 := Stand.of_body Bd
 have e0 : s₁.heap = h0 := by rw [← hh, Bd.state]; rfl
 show own_G _ _ _ _ (s₁.setTop (entryFrame m #[.ref x0, .ref x1, .int i_1, .int i_2, .null] 6))
 refine goo (fun _ k => castTop (ef_7_RRIIn m x0 x1 i_1 i_2) k) ?_
 have N0 := Fr.nil n0
 have KP0 := Keep.refl h0 [x0]
 refine goo (fun _ k => XS.aloadN X0.here hx rfl (hb hby d7_0) rfl rfl k) ?_
 obtain ⟨T'0, X'0, e'0, st'0⟩ := initO X0 hx hZ hown (qw hw 20 rfl) (qw hw 21 rfl) (qw hw 22 rfl) e0 (g := (mkF m 1 #[rv x0, rv x1, iv i_1, iv i_2, .val .null, .unset] [.ref x0])) rfl (by rw [hml]; rfl) rfl (hb hby d7_1) (by decide) (W := 0) (Nat.le_of_eq rfl) (by decide)
 refine goo st'0 ?_
 refine goo (fun _ k => XS.iloadN X'0.here hx rfl (hb hby d7_4) rfl <| XS.ifYes X'0.here hx rfl (pc0 := 5) (pc' := 27) rfl (hb hby d7_5) rfl (((if0 _ _).trans (feq (by decide : ¬ (i_2 = i_0))).2)) (by decide) (by decide) k) ?_
 obtain ⟨T'1, X'1, e'1, st'1⟩ := getS2 X'0 hx hZ hown (host := "") (Or.inl (qw hw 5 rfl)) Via.refl e'0 p5_ (g := (mkF m 27 #[rv x0, rv x1, iv i_1, iv i_2, .val .null, .unset] [])) rfl (hb hby d7_27)
 refine goo st'1 ?_
 show own_G _ _ _ _ (T'1.setTop (mkF m 30 #[rv x0, rv x1, iv i_1, iv i_2, .val .null, .unset] [.int cz]))
 refine goo (fun _ k => XS.ifNo X'1.here hx rfl (hb hby d7_30) rfl (((if0 _ _).trans (feq p6_).1)) <| XS.aloadN X'1.here hx rfl (hb hby d7_33) rfl rfl <| XS.iloadN X'1.here hx rfl (hb hby d7_34) rfl <| XS.iloadN X'1.here hx rfl (hb hby d7_35) rfl k) ?_
 obtain ⟨_, _, ⟨T'2, L'2, k'2, n'2⟩, -, X'2, ⟨Lc'2, hQ'2, l'2, y'2, z'2⟩, st'2⟩ := Jvm.LawKit.callS X'1 hx (y := Y16) hown (mvT hZ (qw hw 34 rfl)) (mvT hZ (qw hw 35 rfl)) (mvT hZ (qw hw 36 rfl)) (mvT hZ (qw hw 37 rfl)) (by decide) (backOf (W := 0) (rm_c3_256_1_2 l Z a0 hw [] x1 kc w0 w1 w2 w3 w4 w5 h0 n0 Z0 p4_ p8_ p9_) hZ (qw hw 37 rfl) (qw hw 36 rfl) (by decide) (by decide)) (g := (mkF m 36 #[rv x0, rv x1, iv i_1, iv i_2, .val .null, .unset] [.int i_2, .int i_1, .ref x1])) rfl (by rw [hml]; rfl) (argsL := [.ref x1, .int i_1, .int i_2]) (rest := []) (lenOf own_pd10 rfl) rfl (Nat.le_of_eq rfl) (hb hby d7_36) (fun _ _ => ⟨rfl, e'1, (by decide : 0 + 1 ≤ _), (by decide : 0 + 2 ≤ _)⟩)
 dsimp only [Pt.U, Pt.locs, Pt.cells, Pt.slots] at X'2 l'2 y'2 z'2 st'2 hQ'2
 subst l'2 y'2 z'2
 obtain ⟨b'2, rfl, Nq'2, K'2, gz'2, qx'2⟩ := hQ'2
 have ne_3 : x0 ≠ b'2 := Nat.ne_of_lt (Nat.lt_of_lt_of_le p0_.lt gz'2)
 have sz_350 : h0.size ≤ b'2 := Nat.le_trans KP0.1 gz'2
 obtain ⟨kv'2, Vv'2⟩ := qx'2
 have X_4 := p0_.keep K'2
 have F_5 := p2_.keep K'2 nin0
 have F_6 := p3_.keep K'2 nin0
 have KP_7 : Keep h0 T'2.heap [x0] := KP0.trans K'2 all0
 have N_2 := Fr.app N0 Nq'2
 refine goo (fun _ k => st'2 _ k) ?_
 refine goo (fun _ k => XS.astore X'2.here hx rfl (hb hby d7_39) rfl rfl (l' := #[rv x0, rv x1, iv i_1, iv i_2, .val .null, rv b'2]) rfl k) ?_
 show own_G _ _ _ _ (T'2.setTop (mkF m 41 #[rv x0, rv x1, iv i_1, iv i_2, .val .null, rv b'2] []))
 refine goo (fun _ k => XS.aloadN X'2.here hx rfl (hb hby d7_41) rfl rfl <| XS.aload X'2.here hx rfl (hb hby d7_42) rfl rfl <| XS.iloadN X'2.here hx rfl (hb hby d7_44) rfl k) ?_
 obtain ⟨T'8, X'8, e'8, st'8⟩ := own_callP X'2 hx hZ (y := Y15) hown (qw hw 41 rfl) (qw hw 42 rfl) (qw hw 36 rfl) (qw hw 43 rfl) (by decide) (W := 1) (rm_cf2 l Z a0 hw [] b'2 kv'2 (own_by w1) (own_by w2) T'2.heap Vv'2) (by decide) (by decide) rfl rfl rfl (g := (mkF m 45 #[rv x0, rv x1, iv i_1, iv i_2, .val .null, rv b'2] [.int i_2, .ref b'2, .ref x0])) rfl (by rw [hml]; rfl) (argsL := [.ref b'2, .int i_2]) (rest := [.ref x0]) (lenOf own_pd11 rfl) rfl rfl (Nat.le_of_eq rfl) (hb hby d7_45) (by decide) (by decide)
 refine goo st'8 ?_
 obtain ⟨T'9, h'9, X'9, e'9, W'9, st'9⟩ := putFN X'8 hx hZ hown (qw hw 25 rfl) Via.refl e'8 F_6 X_4 (Or.inr ⟨(qw hw 26 rfl), rfl, hnm⟩) (qw hw 11 rfl) (ty := .byte) (v' := .int i_0) (by decide) rfl (by decide) (g := (mkF m 48 #[rv x0, rv x1, iv i_1, iv i_2, .val .null, rv b'2] [.int i_0, .ref x0])) rfl rfl (hb hby d7_48)
 have X_a := X_4.wr W'9
 have F_b := F_5.other W'9 (Or.inr (slot_ne (Or.inr (qw hw 24 rfl)) (Or.inr (qw hw 26 rfl)) (by decide) (t := (.array .byte)) (t' := .byte) (by decide) (by decide)))
 have V_c := Vv'2.other W'9 (Ne.symm ne_3)
 have F_d := F_6.same W'9
 have KP_e : Keep h0 h'9 [x0] := KP_7.wr W'9 (Or.inl (List.mem_of_getElem? (i := 0) rfl))
 have N_9 := Fr.snoc X'9 N_2 p1_
 refine goo st'9 ?_
 refine goo (fun _ k => XS.aloadN X'9.here hx rfl (hb hby d7_51) rfl rfl k) ?_
 show own_G _ _ _ _ (T'9.setTop (mkF m 52 #[rv x0, rv x1, iv i_1, iv i_2, .val .null, rv b'2] [.ref x0]))
 refine goo (fun _ k => XS.aload X'9.here hx rfl (hb hby d7_52) rfl rfl k) ?_
 obtain ⟨T'f, h'f, X'f, e'f, W'f, st'f⟩ := putF X'9 hx hZ hown (host := "") (Or.inl (qw hw 23 rfl)) Via.refl e'9 F_b X_a (Or.inr ⟨(qw hw 24 rfl), rfl, hnm⟩) (qw hw 11 rfl) (ty := (.array .byte)) (by decide) rfl rfl (g := (mkF m 54 #[rv x0, rv x1, iv i_1, iv i_2, .val .null, rv b'2] [.ref b'2, .ref x0])) rfl rfl (hb hby d7_54)
 have X_g := X_a.wr W'f
 have F_h := F_d.other W'f (Or.inr (slot_ne (Or.inr (qw hw 26 rfl)) (Or.inr (qw hw 24 rfl)) (by decide) (t := .byte) (t' := (.array .byte)) (by decide) (by decide)))
 have V_i := V_c.other W'f (Ne.symm ne_3)
 have F_j := F_b.same W'f
 have KP_k : Keep h0 h'f [x0] := KP_e.wr W'f (Or.inl (List.mem_of_getElem? (i := 0) rfl))
 have N_f := Fr.snoc X'f N_9 p1_
 refine goo st'f ?_
 show own_G _ _ _ _ (T'f.setTop (mkF m 57 #[rv x0, rv x1, iv i_1, iv i_2, .val .null, rv b'2] []))
 exact own_end X'f Bd.notSynchronized (v := none) (fun _ => rfl) (Q := Q_rm_sv_256_1_2 Z x0 x1 cz kc w0 w1 w2 w3 w4 w5 h0 n0) (by show Q_rm_sv_256_1_2 Z x0 x1 cz kc w0 w1 w2 w3 w4 w5 h0 n0 (none) T'f.heap _; rw [e'f]; exact ⟨rfl, N_f, KP_k, X_g, F_h, ⟨b'2, kv'2, sz_350, F_j, V_i⟩⟩) (fun fs hr => X'f.returnOut hx Bd.returns (hb hby d7_57) hr) (by decide) (by decide)
def Q_rm_sv0 (Z : State) (x0 : Addr) (x1 : Addr) (x2 : Int32)  (h0 : Heap) (n0 : Nat) (v : Option Value) (h : Heap) (L : List Loc) : Prop := v = none ∧ Fr n0 L ∧ Keep h0 h [x0] ∧ Exa Z h x0 s_0 ∧ Fld Z h x0 s_0 "coder" "B" (.int i_0) ∧ ∃ b k, Fld Z h x0 s_0 "value" "[B" (.ref b) ∧ Arv Z h b k .byte i_0 [] (.int i_0)
theorem rm_sv0 (l : Launch) (Z : State) (a0 : Array Value) (hw : own_HW a0 Z) (ws : List Jvm.Cond) (x0 : Addr) (x1 : Addr) (x2 : Int32)  (h0 : Heap) (n0 : Nat) (Z0 : n0 ≤ h0.size) (p0_ : Exa Z h0 x0 s_0) (p1_ : n0 ≤ x0) (p2_ : Fld Z h0 x0 s_0 "value" "[B" .null) (p3_ : Fld Z h0 x0 s_0 "coder" "B" (.int i_0)) (p4_ : Old Z n0 h0) (p5_ : Jvm.Lit.constHeld Z s_0 7) (p6_ : Jvm.Lit.compactW.before a0 Z = true)  :
  MetFree l Y17 (head1 (Jvm.Cond.code Y17 jdk_42_method_149_code 6 none :: ws) (rr 1 2 4 12)) (fun a U => a = #[.ref x0, .ref x1, .int x2, .int i_0, .null] ∧ Z.Warmed39 U.vm ∧ U.heap = h0 ∧ IB Z U.vm []) (fun _ _ _ _ _ => True) (fun _ U o U' => ∃ v L, o = .returned v ∧ Q_rm_sv0 Z x0 x1 x2 h0 n0 v U'.heap L ∧ ReturnedEndW U o U' L (rr 1 2 4 12).cells (rr 1 2 4 12).slots) := by
 refine MetFree.of_bodySF (plainFor_of_name own_pn1) hisR ?_
 intro p e s m args below meth c s₁ Bd hml0 hP hK
 obtain ⟨rfl, hZ, hh, hI⟩ := hP
 have hx := Bd.exec
 have hby := Bd.bytes
 have hml : c.maxLocals = 6 := hml0
 have hown : s.vm.findClass s_0 = some m.cls := findClass_of_methodNamed Bd.named
 have hnm := (name_of_methodNamed Bd.named Bd.method).1
 have X0 : Stand p l e (rr 1 2 4 12) s m #[.ref x0, .ref x1, .int x2, .int i_0, .null] below meth c s₁ [] 0 0 := Stand.of_body Bd
 have e0 : s₁.heap = h0 := by rw [← hh, Bd.state]; rfl
 show own_G _ _ _ _ (s₁.setTop (entryFrame m #[.ref x0, .ref x1, .int x2, .int i_0, .null] 6))
 refine goo (fun _ k => castTop (ef_7_RRIIn m x0 x1 x2 i_0) k) ?_
 have N0 := Fr.nil n0
 have KP0 := Keep.refl h0 [x0]
 have hS : s.Since s.vm h0.size := (State.WarmedH.refl s).since _
 have hk : h0.size ≤ h0.size := Nat.le_refl _
 have own_sA : ∀ a ∈ Bundle.stringAtoms, a.before a0 Z = true := own_strA hw
 refine goo (fun _ k => XS.aloadN X0.here hx rfl (hb hby d7_0) rfl rfl k) ?_
 obtain ⟨T'0, X'0, e'0, st'0⟩ := initO X0 hx hZ hown (qw hw 20 rfl) (qw hw 21 rfl) (qw hw 22 rfl) e0 (g := (mkF m 1 #[rv x0, rv x1, iv x2, iv i_0, .val .null, .unset] [.ref x0])) rfl (by rw [hml]; rfl) rfl (hb hby d7_1) (by decide) (W := 0) (Nat.le_of_eq rfl) (by decide)
 refine goo st'0 ?_
 refine goo (fun _ k => XS.iloadN X'0.here hx rfl (hb hby d7_4) rfl <| XS.ifNo X'0.here hx rfl (hb hby d7_5) rfl (((if0 _ _).trans (teq (by decide : i_0 = i_0)).2)) <| XS.aloadN X'0.here hx rfl (hb hby d7_8) rfl rfl k) ?_
 show own_G _ _ _ _ (T'0.setTop (mkF m 9 #[rv x0, rv x1, iv x2, iv i_0, .val .null, .unset] [.ref x0]))
 obtain ⟨b'1, T'1, h'1, k'1, vb'1, kb378, X'1, e'1, E'1, hS, hk'1, hZ, hown, Xa378, Fc378, Fv'1, Va'1, -, -, -, Lit378, st'1⟩ := ldcSVL (s := s) (vm0 := s.vm) (Ts := []) X'0 hx hZ hown (qw hw 120 rfl) own_sA e'0 hS hk (Fr.nil _) (fun b cl q => by rw [hh]; exact p4_.2.2 b cl q) hI (by simp) p5_ p6_ (vs := []) (z := i_0) ⟨by simp, rfl⟩ (by decide) rfl (g := (mkF m 9 #[rv x0, rv x1, iv x2, iv i_0, .val .null, .unset] [.ref x0])) rfl (hb hby d7_9) (n := 0) (by decide) (by decide) (by decide) (by decide)
 have X_2 := p0_.ext E'1
 have F_3 := p2_.ext E'1
 have F_4 := p3_.ext E'1
 have KP_5 : Keep h0 h'1 [x0] := KP0.ext E'1
 have ne_1 : b'1 ≠ x0 := Fld.ne Fv'1 F_3 (fun q => by cases q)
 obtain ⟨cv378, Av378, -⟩ := id Va'1
 have nv_378 : vb'1 ≠ x0 := Ne.symm (ne_arr X_2 (qw hw 11 rfl) Av378)
 refine goo st'1 ?_
 obtain ⟨T'6, X'6, e'6, st'6⟩ := getF X'1 hx hZ hown (host := "") (Or.inl (qw hw 23 rfl)) Via.refl e'1 Fv'1 (g := (mkF m 11 #[rv x0, rv x1, iv x2, iv i_0, .val .null, .unset] [.ref b'1, .ref x0])) rfl rfl (hb hby d7_11)
 refine goo st'6 ?_
 obtain ⟨T'7, h'7, X'7, e'7, W'7, st'7⟩ := putF X'6 hx hZ hown (host := "") (Or.inl (qw hw 23 rfl)) Via.refl e'6 F_3 X_2 (Or.inr ⟨(qw hw 24 rfl), rfl, hnm⟩) (qw hw 11 rfl) (ty := (.array .byte)) (by decide) rfl rfl (g := (mkF m 14 #[rv x0, rv x1, iv x2, iv i_0, .val .null, .unset] [.ref vb'1, .ref x0])) rfl rfl (hb hby d7_14)
 have X_8 := X_2.wr W'7
 have F_9 := F_4.other W'7 (Or.inr (slot_ne (Or.inr (qw hw 26 rfl)) (Or.inr (qw hw 24 rfl)) (by decide) (t := .byte) (t' := (.array .byte)) (by decide) (by decide)))
 have F_a := Fc378.other W'7 (Or.inl ne_1)
 have V_b := Va'1.other W'7 nv_378
 have F_c := F_3.same W'7
 have hk_d := Nat.le_trans hk'1 (Nat.le_of_eq W'7.size.symm)
 have KP_e : Keep h0 h'7 [x0] := KP_5.wr W'7 (Or.inl (List.mem_of_getElem? (i := 0) rfl))
 have N_7 := Fr.snoc X'7 N0 p1_
 refine goo st'7 ?_
 refine goo (fun _ k => XS.aloadN X'7.here hx rfl (hb hby d7_17) rfl rfl k) ?_
 refine goo (fun _ k => ldcAgain (s := s) (vm0 := T'1.vm) X'7 hx hZ hown (qw hw 120 rfl) Lit378 (g := (mkF m 18 #[rv x0, rv x1, iv x2, iv i_0, .val .null, .unset] [.ref x0])) rfl (hb hby d7_18) _ k) ?_
 obtain ⟨T'f, X'f, e'f, st'f⟩ := getF X'7 hx hZ hown (host := "") (Or.inl (qw hw 25 rfl)) Via.refl e'7 F_a (g := (mkF m 20 #[rv x0, rv x1, iv x2, iv i_0, .val .null, .unset] [.ref b'1, .ref x0])) rfl rfl (hb hby d7_20)
 refine goo st'f ?_
 show own_G _ _ _ _ (T'f.setTop (mkF m 23 #[rv x0, rv x1, iv x2, iv i_0, .val .null, .unset] [.int i_0, .ref x0]))
 obtain ⟨T'g, h'g, X'g, e'g, W'g, st'g⟩ := putFN X'f hx hZ hown (qw hw 25 rfl) Via.refl e'f F_9 X_8 (Or.inr ⟨(qw hw 26 rfl), rfl, hnm⟩) (qw hw 11 rfl) (ty := .byte) (v' := .int i_0) (by decide) rfl (by decide) (g := (mkF m 23 #[rv x0, rv x1, iv x2, iv i_0, .val .null, .unset] [.int i_0, .ref x0])) rfl rfl (hb hby d7_23)
 have X_h := X_8.wr W'g
 have F_i := F_c.other W'g (Or.inr (slot_ne (Or.inr (qw hw 24 rfl)) (Or.inr (qw hw 26 rfl)) (by decide) (t := (.array .byte)) (t' := .byte) (by decide) (by decide)))
 have V_j := V_b.other W'g nv_378
 have F_k := F_9.same W'g
 have hk_l := Nat.le_trans hk_d (Nat.le_of_eq W'g.size.symm)
 have KP_m : Keep h0 h'g [x0] := KP_e.wr W'g (Or.inl (List.mem_of_getElem? (i := 0) rfl))
 have N_g := Fr.snoc X'g N_7 p1_
 refine goo st'g ?_
 show own_G _ _ _ _ (T'g.setTop (mkF m 26 #[rv x0, rv x1, iv x2, iv i_0, .val .null, .unset] []))
 exact own_endW X'g Bd.notSynchronized hS (by rw [e'g]; exact hk_l) (v := none) (fun _ => rfl) (Q := Q_rm_sv0 Z x0 x1 x2 h0 n0) (by show Q_rm_sv0 Z x0 x1 x2 h0 n0 (none) T'g.heap _; rw [e'g]; exact ⟨rfl, N_g, KP_m, X_h, F_k, ⟨vb'1, kb378, F_i, V_j⟩⟩) (fun fs hr => X'g.returnOut hx Bd.returns (hb hby d7_26) hr) (by decide) (by decide)
def Q_rm6 (Z : State) (x0 : Addr) (x1 : Addr) (cz : Int32) (kc : ClassId) (w0 w1 : Int32) (h0 : Heap) (n0 : Nat) (v : Option Value) (h : Heap) (L : List Loc) : Prop := v = none ∧ Fr n0 L ∧ Keep h0 h [x0] ∧ Exa Z h x0 s_0 ∧ Fld Z h x0 s_0 "coder" "B" (.int i_0) ∧ ∃ b k, h0.size ≤ b ∧ Fld Z h x0 s_0 "value" "[B" (.ref b) ∧ Arv Z h b k .byte i_2 [.int (own_by w0), .int (own_by w1)] (.int i_0)
theorem own_pd12 : parseMethodDescriptor "([CIILjava/lang/Void;)V" = some ⟨[(.array .char), .int, .int, (.object "java/lang/Void")], none⟩ := by decide +kernel
theorem d6_0 : decode jdk_42_method_3_code 0 = .ok (.aload_n 0, 1) := by decide +kernel
theorem d6_1 : decode jdk_42_method_3_code 1 = .ok (.aload_n 1, 1) := by decide +kernel
theorem d6_2 : decode jdk_42_method_3_code 2 = .ok (.iconst 0, 1) := by decide +kernel
theorem d6_3 : decode jdk_42_method_3_code 3 = .ok (.aload_n 1, 1) := by decide +kernel
theorem d6_4 : decode jdk_42_method_3_code 4 = .ok (.arraylength, 1) := by decide +kernel
theorem d6_5 : decode jdk_42_method_3_code 5 = .ok (.aconst_null, 1) := by decide +kernel
theorem d6_6 : decode jdk_42_method_3_code 6 = .ok (.invokespecial 27, 3) := by decide +kernel
theorem d6_9 : decode jdk_42_method_3_code 9 = .ok (.return_, 1) := by decide +kernel
theorem ef_6_RR (m : MethodId) (x0 : Addr) (x1 : Addr) : entryFrame m #[(.ref x0), (.ref x1)] 2 = mkF m 0 #[.val (.ref x0), .val (.ref x1)] [] := by
  first | (simp [entryFrame, mkF, argsToLocals, Value.category]; done) | rfl
theorem rm6 (l : Launch) (Z : State) (a0 : Array Value) (hw : own_HW a0 Z) (ws : List Jvm.Cond) (x0 : Addr) (x1 : Addr) (cz : Int32) (kc : ClassId) (w0 w1 : Int32) (h0 : Heap) (n0 : Nat) (Z0 : n0 ≤ h0.size) (p0_ : Exa Z h0 x0 s_0) (p1_ : n0 ≤ x0) (p2_ : Fld Z h0 x0 s_0 "value" "[B" .null) (p3_ : Fld Z h0 x0 s_0 "coder" "B" (.int i_0)) (p4_ : Arv Z h0 x1 kc .char i_2 [.int w0, .int w1] (.int i_0)) (p5_ : Sta Z h0 s_0 "COMPACT_STRINGS" "Z" (.int cz)) (p6_ : ¬ cz = i_0) (p7_ : x0 ≠ x1) (p8_ : own_ok w0) (p9_ : own_ok w1)  :
  MetFree l Y18 (head1 (Jvm.Cond.code Y18 jdk_42_method_3_code 2 none :: ws) (rr 3 1 2 52)) (fun a U => a = #[.ref x0, .ref x1] ∧ Z.Warmed39 U.vm ∧ U.heap = h0) (fun _ _ _ _ _ => True) (fun _ U o U' => ∃ v L, o = .returned v ∧ Q_rm6 Z x0 x1 cz kc w0 w1 h0 n0 v U'.heap L ∧ FrameEnd U o U' L (rr 3 1 2 52).cells (rr 3 1 2 52).slots) := by
 refine MetFree.of_bodySF (plainFor_of_name own_pn1) hisR ?_
 intro p e s m args below meth c s₁ Bd hml0 hP hK
 obtain ⟨rfl, hZ, hh⟩ := hP
 have hx := Bd.exec
 have hby := Bd.bytes
 have hml : c.maxLocals = 2 := hml0
 have hown : s.vm.findClass s_0 = some m.cls := findClass_of_methodNamed Bd.named
 have hnm := (name_of_methodNamed Bd.named Bd.method).1
 have X0 : Stand p l e (rr 3 1 2 52) s m #[.ref x0, .ref x1] below meth c s₁ [] 0 0 := Stand.of_body Bd
 have e0 : s₁.heap = h0 := by rw [← hh, Bd.state]; rfl
 show own_G _ _ _ _ (s₁.setTop (entryFrame m #[.ref x0, .ref x1] 2))
 refine goo (fun _ k => castTop (ef_6_RR m x0 x1) k) ?_
 have N0 := Fr.nil n0
 have KP0 := Keep.refl h0 [x0]
 refine goo (fun _ k => XS.aloadN X0.here hx rfl (hb hby d6_0) rfl rfl <| XS.aloadN X0.here hx rfl (hb hby d6_1) rfl rfl <| XS.iconst X0.here hx rfl (hb hby d6_2) <| XS.aloadN X0.here hx rfl (hb hby d6_3) rfl rfl k) ?_
 obtain ⟨cl412, Ar412, -, S412, N412, -, -⟩ := id p4_
 refine goo (fun _ k => X0.arraylength hx (cell := cl412) (by rw [e0]; exact Ar412.1) (State.isArrayOf_alike hZ.alike Ar412.2.1) (g := (mkF m 4 #[rv x0, rv x1] [.ref x1, .int i_0, .ref x1, .ref x0])) rfl rfl (hb hby d6_4) _ (by rw [len_of S412 N412]; exact k)) ?_
 show own_G _ _ _ _ (s₁.setTop (mkF m 5 #[rv x0, rv x1] [.int i_2, .int i_0, .ref x1, .ref x0]))
 refine goo (fun _ k => XS.aconstNull X0.here hx rfl (hb hby d6_5) k) ?_
 obtain ⟨_, _, ⟨T'0, L'0, k'0, n'0⟩, -, X'0, ⟨Lc'0, hQ'0, l'0, y'0, z'0⟩, st'0⟩ := X0.specialBack hx (y := Y17) rfl hown (mvT hZ (qw hw 31 rfl)) (mvT hZ (qw hw 32 rfl)) (mvT hZ (qw hw 33 rfl)) (by decide) (backOf (W := 0) (rm_sv_2_0_2 l Z a0 hw [] x0 x1 cz kc w0 w1 h0 n0 Z0 p0_ p1_ p2_ p3_ p4_ p5_ p6_ p7_ p8_ p9_) hZ (qw hw 33 rfl) (qw hw 3 rfl) (by decide) (by decide)) (g := (mkF m 6 #[rv x0, rv x1] [.null, .int i_2, .int i_0, .ref x1, .ref x0])) rfl (by rw [hml]; rfl) (Steps.refl _) (a := x0) (argsL := [.ref x1, .int i_0, .int i_2, .null]) (rest := []) (lenOf own_pd12 rfl) rfl (Nat.le_of_eq rfl) (hb hby d6_6) (fun _ _ => ⟨rfl, e0, (by decide : 0 + 1 ≤ _), (by decide : 0 + 2 ≤ _)⟩)
 dsimp only [Pt.U, Pt.locs, Pt.cells, Pt.slots] at X'0 l'0 y'0 z'0 st'0 hQ'0
 subst l'0 y'0 z'0
 obtain ⟨rfl, Nq'0, K'0, G_1, G_2, qx'0⟩ := hQ'0
 obtain ⟨vb'0, kv'0, gv'0, Fv'0, Vv'0⟩ := qx'0
 have sz_419 : h0.size ≤ vb'0 := Nat.le_trans KP0.1 gv'0
 have KP_3 : Keep h0 T'0.heap [x0] := KP0.trans K'0 (allS (Or.inl (List.mem_of_getElem? (i := 0) rfl)) all0)
 have N_0 := Fr.app N0 Nq'0
 refine goo (fun _ k => st'0.trans k) ?_
 show own_G _ _ _ _ (T'0.setTop (mkF m 9 #[rv x0, rv x1] []))
 exact own_end X'0 Bd.notSynchronized (v := none) (fun _ => rfl) (Q := Q_rm6 Z x0 x1 cz kc w0 w1 h0 n0) (by show Q_rm6 Z x0 x1 cz kc w0 w1 h0 n0 (none) T'0.heap _; exact ⟨rfl, N_0, KP_3, G_1, G_2, ⟨vb'0, kv'0, sz_419, Fv'0, Vv'0⟩⟩) (fun fs hr => X'0.returnOut hx Bd.returns (hb hby d6_9) hr) (by decide) (by decide)
theorem d23_0 : decode jdk_41_method_13_code 0 = .ok (.iload_n 2, 1) := by decide +kernel
theorem d23_1 : decode jdk_41_method_13_code 1 = .ok (.iload_n 0, 1) := by decide +kernel
theorem d23_2 : decode jdk_41_method_13_code 2 = .ok (.ior, 1) := by decide +kernel
theorem d23_3 : decode jdk_41_method_13_code 3 = .ok (.iload_n 1, 1) := by decide +kernel
theorem d23_4 : decode jdk_41_method_13_code 4 = .ok (.ior, 1) := by decide +kernel
theorem d23_5 : decode jdk_41_method_13_code 5 = .ok (.ifCond .lt 10, 3) := by decide +kernel
theorem d23_8 : decode jdk_41_method_13_code 8 = .ok (.iload_n 1, 1) := by decide +kernel
theorem d23_9 : decode jdk_41_method_13_code 9 = .ok (.iload_n 2, 1) := by decide +kernel
theorem d23_10 : decode jdk_41_method_13_code 10 = .ok (.iload_n 0, 1) := by decide +kernel
theorem d23_11 : decode jdk_41_method_13_code 11 = .ok (.isub, 1) := by decide +kernel
theorem d23_12 : decode jdk_41_method_13_code 12 = .ok (.if_icmp .le 11, 3) := by decide +kernel
theorem d23_23 : decode jdk_41_method_13_code 23 = .ok (.iload_n 0, 1) := by decide +kernel
theorem d23_24 : decode jdk_41_method_13_code 24 = .ok (.ireturn, 1) := by decide +kernel
theorem ef_23_IIIV (m : MethodId) (x0 : Int32) (x1 : Int32) (x2 : Int32) (x3 : Value) (hr3 : x3.isRef = true) : entryFrame m #[(.int x0), (.int x1), (.int x2), x3] 4 = mkF m 0 #[.val (.int x0), .val (.int x1), .val (.int x2), .val x3] [] := by
  rcases own_refc hr3 with rfl | ⟨y3, rfl⟩ <;> first | (simp [entryFrame, mkF, argsToLocals, Value.category]; done) | rfl
theorem rm_fi00 (l : Launch) (Z : State) (a0 : Array Value) (hw : own_HW a0 Z) (ws : List Jvm.Cond) (x3 : Value)  (h0 : Heap) (hx3 : x3.isRef = true) :
  MetFree l Y19 (head1 (Jvm.Cond.code Y19 jdk_41_method_13_code 4 (some .int) :: ws) (rr 0 0 0 0)) (fun a U => a = #[.int i_0, .int i_0, .int i_256, x3] ∧ Z.Warmed39 U.vm ∧ U.heap = h0) (fun _ _ _ _ _ => True) (fun _ U o U' => ∃ v L, o = .returned v ∧ QP (some (.int i_0)) h0 v U'.heap L ∧ FrameEnd U o U' L (rr 0 0 0 0).cells (rr 0 0 0 0).slots) := by
 refine MetFree.of_bodySF (plainFor_of_name own_pn2) hisR ?_
 intro p e s m args below meth c s₁ Bd hml0 hP hK
 obtain ⟨rfl, hZ, hh⟩ := hP
 have hx := Bd.exec
 have hby := Bd.bytes
 have hml : c.maxLocals = 4 := hml0
 have hown : s.vm.findClass s_1 = some m.cls := findClass_of_methodNamed Bd.named
 have hnm := (name_of_methodNamed Bd.named Bd.method).1
 have X0 : Stand p l e (rr 0 0 0 0) s m #[.int i_0, .int i_0, .int i_256, x3] below meth c s₁ [] 0 0 := Stand.of_body Bd
 have e0 : s₁.heap = h0 := by rw [← hh, Bd.state]; rfl
 show own_G _ _ _ _ (s₁.setTop (entryFrame m #[.int i_0, .int i_0, .int i_256, x3] 4))
 refine goo (fun _ k => castTop (ef_23_IIIV m i_0 i_0 i_256 x3 hx3) k) ?_
 refine goo (fun _ k => XS.iloadN X0.here hx rfl (hb hby d23_0) rfl <| XS.iloadN X0.here hx rfl (hb hby d23_1) rfl <| XS.ior X0.here hx rfl (hb hby d23_2) rfl <| XS.iloadN X0.here hx rfl (hb hby d23_3) rfl k) ?_
 refine goo (fun _ k => XS.ior X0.here hx rfl (hb hby d23_4) rfl k) ?_
 show own_G _ _ _ _ (s₁.setTop (mkF m 5 #[iv i_0, iv i_0, iv i_256, .val x3] [.int i_256]))
 refine goo (fun _ k => XS.ifNo X0.here hx rfl (hb hby d23_5) rfl (((if0 _ _).trans (flt (by decide : ¬ (i_256 < i_0))).1)) <| XS.iloadN X0.here hx rfl (hb hby d23_8) rfl <| XS.iloadN X0.here hx rfl (hb hby d23_9) rfl <| XS.iloadN X0.here hx rfl (hb hby d23_10) rfl k) ?_
 refine goo (fun _ k => XS.isub X0.here hx rfl (hb hby d23_11) rfl <| XS.icmpYes X0.here hx rfl (pc0 := 12) (pc' := 23) rfl (hb hby d23_12) rfl ((flt (by decide : ¬ (i_256 < i_0))).2.2.2) (by decide) (by decide) k) ?_
 show own_G _ _ _ _ (s₁.setTop (mkF m 23 #[iv i_0, iv i_0, iv i_256, .val x3] []))
 refine goo (fun _ k => XS.iloadN X0.here hx rfl (hb hby d23_23) rfl k) ?_
 show own_G _ _ _ _ (s₁.setTop (mkF m 24 #[iv i_0, iv i_0, iv i_256, .val x3] [.int i_0]))
 exact own_end X0 Bd.notSynchronized (v := some (.int i_0)) (fun h => by rw [Bd.returns] at h; cases h) (Q := QP (some (.int i_0)) h0) ⟨rfl, rfl, e0⟩ (fun fs hr => retI X0 hx Bd.returns (hb hby d23_24) hr) (by decide) (by decide)
theorem rm_fi10 (l : Launch) (Z : State) (a0 : Array Value) (hw : own_HW a0 Z) (ws : List Jvm.Cond) (x3 : Value)  (h0 : Heap) (hx3 : x3.isRef = true) :
  MetFree l Y19 (head1 (Jvm.Cond.code Y19 jdk_41_method_13_code 4 (some .int) :: ws) (rr 0 0 0 0)) (fun a U => a = #[.int i_1, .int i_0, .int i_256, x3] ∧ Z.Warmed39 U.vm ∧ U.heap = h0) (fun _ _ _ _ _ => True) (fun _ U o U' => ∃ v L, o = .returned v ∧ QP (some (.int i_1)) h0 v U'.heap L ∧ FrameEnd U o U' L (rr 0 0 0 0).cells (rr 0 0 0 0).slots) := by
 refine MetFree.of_bodySF (plainFor_of_name own_pn2) hisR ?_
 intro p e s m args below meth c s₁ Bd hml0 hP hK
 obtain ⟨rfl, hZ, hh⟩ := hP
 have hx := Bd.exec
 have hby := Bd.bytes
 have hml : c.maxLocals = 4 := hml0
 have hown : s.vm.findClass s_1 = some m.cls := findClass_of_methodNamed Bd.named
 have hnm := (name_of_methodNamed Bd.named Bd.method).1
 have X0 : Stand p l e (rr 0 0 0 0) s m #[.int i_1, .int i_0, .int i_256, x3] below meth c s₁ [] 0 0 := Stand.of_body Bd
 have e0 : s₁.heap = h0 := by rw [← hh, Bd.state]; rfl
 show own_G _ _ _ _ (s₁.setTop (entryFrame m #[.int i_1, .int i_0, .int i_256, x3] 4))
 refine goo (fun _ k => castTop (ef_23_IIIV m i_1 i_0 i_256 x3 hx3) k) ?_
 refine goo (fun _ k => XS.iloadN X0.here hx rfl (hb hby d23_0) rfl <| XS.iloadN X0.here hx rfl (hb hby d23_1) rfl <| XS.ior X0.here hx rfl (hb hby d23_2) rfl <| XS.iloadN X0.here hx rfl (hb hby d23_3) rfl k) ?_
 refine goo (fun _ k => XS.ior X0.here hx rfl (hb hby d23_4) rfl k) ?_
 show own_G _ _ _ _ (s₁.setTop (mkF m 5 #[iv i_1, iv i_0, iv i_256, .val x3] [.int i_257]))
 refine goo (fun _ k => XS.ifNo X0.here hx rfl (hb hby d23_5) rfl (((if0 _ _).trans (flt (by decide : ¬ (i_257 < i_0))).1)) <| XS.iloadN X0.here hx rfl (hb hby d23_8) rfl <| XS.iloadN X0.here hx rfl (hb hby d23_9) rfl <| XS.iloadN X0.here hx rfl (hb hby d23_10) rfl k) ?_
 refine goo (fun _ k => XS.isub X0.here hx rfl (hb hby d23_11) rfl <| XS.icmpYes X0.here hx rfl (pc0 := 12) (pc' := 23) rfl (hb hby d23_12) rfl ((flt (by decide : ¬ (i_255 < i_0))).2.2.2) (by decide) (by decide) k) ?_
 show own_G _ _ _ _ (s₁.setTop (mkF m 23 #[iv i_1, iv i_0, iv i_256, .val x3] []))
 refine goo (fun _ k => XS.iloadN X0.here hx rfl (hb hby d23_23) rfl k) ?_
 show own_G _ _ _ _ (s₁.setTop (mkF m 24 #[iv i_1, iv i_0, iv i_256, .val x3] [.int i_1]))
 exact own_end X0 Bd.notSynchronized (v := some (.int i_1)) (fun h => by rw [Bd.returns] at h; cases h) (Q := QP (some (.int i_1)) h0) ⟨rfl, rfl, e0⟩ (fun fs hr => retI X0 hx Bd.returns (hb hby d23_24) hr) (by decide) (by decide)
theorem rm_fi30 (l : Launch) (Z : State) (a0 : Array Value) (hw : own_HW a0 Z) (ws : List Jvm.Cond) (x3 : Value)  (h0 : Heap) (hx3 : x3.isRef = true) :
  MetFree l Y19 (head1 (Jvm.Cond.code Y19 jdk_41_method_13_code 4 (some .int) :: ws) (rr 0 0 0 0)) (fun a U => a = #[.int i_3, .int i_0, .int i_256, x3] ∧ Z.Warmed39 U.vm ∧ U.heap = h0) (fun _ _ _ _ _ => True) (fun _ U o U' => ∃ v L, o = .returned v ∧ QP (some (.int i_3)) h0 v U'.heap L ∧ FrameEnd U o U' L (rr 0 0 0 0).cells (rr 0 0 0 0).slots) := by
 refine MetFree.of_bodySF (plainFor_of_name own_pn2) hisR ?_
 intro p e s m args below meth c s₁ Bd hml0 hP hK
 obtain ⟨rfl, hZ, hh⟩ := hP
 have hx := Bd.exec
 have hby := Bd.bytes
 have hml : c.maxLocals = 4 := hml0
 have hown : s.vm.findClass s_1 = some m.cls := findClass_of_methodNamed Bd.named
 have hnm := (name_of_methodNamed Bd.named Bd.method).1
 have X0 : Stand p l e (rr 0 0 0 0) s m #[.int i_3, .int i_0, .int i_256, x3] below meth c s₁ [] 0 0 := Stand.of_body Bd
 have e0 : s₁.heap = h0 := by rw [← hh, Bd.state]; rfl
 show own_G _ _ _ _ (s₁.setTop (entryFrame m #[.int i_3, .int i_0, .int i_256, x3] 4))
 refine goo (fun _ k => castTop (ef_23_IIIV m i_3 i_0 i_256 x3 hx3) k) ?_
 refine goo (fun _ k => XS.iloadN X0.here hx rfl (hb hby d23_0) rfl <| XS.iloadN X0.here hx rfl (hb hby d23_1) rfl <| XS.ior X0.here hx rfl (hb hby d23_2) rfl <| XS.iloadN X0.here hx rfl (hb hby d23_3) rfl k) ?_
 refine goo (fun _ k => XS.ior X0.here hx rfl (hb hby d23_4) rfl k) ?_
 show own_G _ _ _ _ (s₁.setTop (mkF m 5 #[iv i_3, iv i_0, iv i_256, .val x3] [.int i_259]))
 refine goo (fun _ k => XS.ifNo X0.here hx rfl (hb hby d23_5) rfl (((if0 _ _).trans (flt (by decide : ¬ (i_259 < i_0))).1)) <| XS.iloadN X0.here hx rfl (hb hby d23_8) rfl <| XS.iloadN X0.here hx rfl (hb hby d23_9) rfl <| XS.iloadN X0.here hx rfl (hb hby d23_10) rfl k) ?_
 refine goo (fun _ k => XS.isub X0.here hx rfl (hb hby d23_11) rfl <| XS.icmpYes X0.here hx rfl (pc0 := 12) (pc' := 23) rfl (hb hby d23_12) rfl ((flt (by decide : ¬ (i_253 < i_0))).2.2.2) (by decide) (by decide) k) ?_
 show own_G _ _ _ _ (s₁.setTop (mkF m 23 #[iv i_3, iv i_0, iv i_256, .val x3] []))
 refine goo (fun _ k => XS.iloadN X0.here hx rfl (hb hby d23_23) rfl k) ?_
 show own_G _ _ _ _ (s₁.setTop (mkF m 24 #[iv i_3, iv i_0, iv i_256, .val x3] [.int i_3]))
 exact own_end X0 Bd.notSynchronized (v := some (.int i_3)) (fun h => by rw [Bd.returns] at h; cases h) (Q := QP (some (.int i_3)) h0) ⟨rfl, rfl, e0⟩ (fun fs hr => retI X0 hx Bd.returns (hb hby d23_24) hr) (by decide) (by decide)
theorem rm_fi01 (l : Launch) (Z : State) (a0 : Array Value) (hw : own_HW a0 Z) (ws : List Jvm.Cond) (x3 : Value)  (h0 : Heap) (hx3 : x3.isRef = true) :
  MetFree l Y19 (head1 (Jvm.Cond.code Y19 jdk_41_method_13_code 4 (some .int) :: ws) (rr 0 0 0 0)) (fun a U => a = #[.int i_0, .int i_1, .int i_256, x3] ∧ Z.Warmed39 U.vm ∧ U.heap = h0) (fun _ _ _ _ _ => True) (fun _ U o U' => ∃ v L, o = .returned v ∧ QP (some (.int i_0)) h0 v U'.heap L ∧ FrameEnd U o U' L (rr 0 0 0 0).cells (rr 0 0 0 0).slots) := by
 refine MetFree.of_bodySF (plainFor_of_name own_pn2) hisR ?_
 intro p e s m args below meth c s₁ Bd hml0 hP hK
 obtain ⟨rfl, hZ, hh⟩ := hP
 have hx := Bd.exec
 have hby := Bd.bytes
 have hml : c.maxLocals = 4 := hml0
 have hown : s.vm.findClass s_1 = some m.cls := findClass_of_methodNamed Bd.named
 have hnm := (name_of_methodNamed Bd.named Bd.method).1
 have X0 : Stand p l e (rr 0 0 0 0) s m #[.int i_0, .int i_1, .int i_256, x3] below meth c s₁ [] 0 0 := Stand.of_body Bd
 have e0 : s₁.heap = h0 := by rw [← hh, Bd.state]; rfl
 show own_G _ _ _ _ (s₁.setTop (entryFrame m #[.int i_0, .int i_1, .int i_256, x3] 4))
 refine goo (fun _ k => castTop (ef_23_IIIV m i_0 i_1 i_256 x3 hx3) k) ?_
 refine goo (fun _ k => XS.iloadN X0.here hx rfl (hb hby d23_0) rfl <| XS.iloadN X0.here hx rfl (hb hby d23_1) rfl <| XS.ior X0.here hx rfl (hb hby d23_2) rfl <| XS.iloadN X0.here hx rfl (hb hby d23_3) rfl k) ?_
 refine goo (fun _ k => XS.ior X0.here hx rfl (hb hby d23_4) rfl k) ?_
 show own_G _ _ _ _ (s₁.setTop (mkF m 5 #[iv i_0, iv i_1, iv i_256, .val x3] [.int i_257]))
 refine goo (fun _ k => XS.ifNo X0.here hx rfl (hb hby d23_5) rfl (((if0 _ _).trans (flt (by decide : ¬ (i_257 < i_0))).1)) <| XS.iloadN X0.here hx rfl (hb hby d23_8) rfl <| XS.iloadN X0.here hx rfl (hb hby d23_9) rfl <| XS.iloadN X0.here hx rfl (hb hby d23_10) rfl k) ?_
 refine goo (fun _ k => XS.isub X0.here hx rfl (hb hby d23_11) rfl <| XS.icmpYes X0.here hx rfl (pc0 := 12) (pc' := 23) rfl (hb hby d23_12) rfl ((flt (by decide : ¬ (i_256 < i_1))).2.2.2) (by decide) (by decide) k) ?_
 show own_G _ _ _ _ (s₁.setTop (mkF m 23 #[iv i_0, iv i_1, iv i_256, .val x3] []))
 refine goo (fun _ k => XS.iloadN X0.here hx rfl (hb hby d23_23) rfl k) ?_
 show own_G _ _ _ _ (s₁.setTop (mkF m 24 #[iv i_0, iv i_1, iv i_256, .val x3] [.int i_0]))
 exact own_end X0 Bd.notSynchronized (v := some (.int i_0)) (fun h => by rw [Bd.returns] at h; cases h) (Q := QP (some (.int i_0)) h0) ⟨rfl, rfl, e0⟩ (fun fs hr => retI X0 hx Bd.returns (hb hby d23_24) hr) (by decide) (by decide)
theorem rm_fi11 (l : Launch) (Z : State) (a0 : Array Value) (hw : own_HW a0 Z) (ws : List Jvm.Cond) (x3 : Value)  (h0 : Heap) (hx3 : x3.isRef = true) :
  MetFree l Y19 (head1 (Jvm.Cond.code Y19 jdk_41_method_13_code 4 (some .int) :: ws) (rr 0 0 0 0)) (fun a U => a = #[.int i_1, .int i_1, .int i_256, x3] ∧ Z.Warmed39 U.vm ∧ U.heap = h0) (fun _ _ _ _ _ => True) (fun _ U o U' => ∃ v L, o = .returned v ∧ QP (some (.int i_1)) h0 v U'.heap L ∧ FrameEnd U o U' L (rr 0 0 0 0).cells (rr 0 0 0 0).slots) := by
 refine MetFree.of_bodySF (plainFor_of_name own_pn2) hisR ?_
 intro p e s m args below meth c s₁ Bd hml0 hP hK
 obtain ⟨rfl, hZ, hh⟩ := hP
 have hx := Bd.exec
 have hby := Bd.bytes
 have hml : c.maxLocals = 4 := hml0
 have hown : s.vm.findClass s_1 = some m.cls := findClass_of_methodNamed Bd.named
 have hnm := (name_of_methodNamed Bd.named Bd.method).1
 have X0 : Stand p l e (rr 0 0 0 0) s m #[.int i_1, .int i_1, .int i_256, x3] below meth c s₁ [] 0 0 := Stand.of_body Bd
 have e0 : s₁.heap = h0 := by rw [← hh, Bd.state]; rfl
 show own_G _ _ _ _ (s₁.setTop (entryFrame m #[.int i_1, .int i_1, .int i_256, x3] 4))
 refine goo (fun _ k => castTop (ef_23_IIIV m i_1 i_1 i_256 x3 hx3) k) ?_
 refine goo (fun _ k => XS.iloadN X0.here hx rfl (hb hby d23_0) rfl <| XS.iloadN X0.here hx rfl (hb hby d23_1) rfl <| XS.ior X0.here hx rfl (hb hby d23_2) rfl <| XS.iloadN X0.here hx rfl (hb hby d23_3) rfl k) ?_
 refine goo (fun _ k => XS.ior X0.here hx rfl (hb hby d23_4) rfl k) ?_
 show own_G _ _ _ _ (s₁.setTop (mkF m 5 #[iv i_1, iv i_1, iv i_256, .val x3] [.int i_257]))
 refine goo (fun _ k => XS.ifNo X0.here hx rfl (hb hby d23_5) rfl (((if0 _ _).trans (flt (by decide : ¬ (i_257 < i_0))).1)) <| XS.iloadN X0.here hx rfl (hb hby d23_8) rfl <| XS.iloadN X0.here hx rfl (hb hby d23_9) rfl <| XS.iloadN X0.here hx rfl (hb hby d23_10) rfl k) ?_
 refine goo (fun _ k => XS.isub X0.here hx rfl (hb hby d23_11) rfl <| XS.icmpYes X0.here hx rfl (pc0 := 12) (pc' := 23) rfl (hb hby d23_12) rfl ((flt (by decide : ¬ (i_255 < i_1))).2.2.2) (by decide) (by decide) k) ?_
 show own_G _ _ _ _ (s₁.setTop (mkF m 23 #[iv i_1, iv i_1, iv i_256, .val x3] []))
 refine goo (fun _ k => XS.iloadN X0.here hx rfl (hb hby d23_23) rfl k) ?_
 show own_G _ _ _ _ (s₁.setTop (mkF m 24 #[iv i_1, iv i_1, iv i_256, .val x3] [.int i_1]))
 exact own_end X0 Bd.notSynchronized (v := some (.int i_1)) (fun h => by rw [Bd.returns] at h; cases h) (Q := QP (some (.int i_1)) h0) ⟨rfl, rfl, e0⟩ (fun fs hr => retI X0 hx Bd.returns (hb hby d23_24) hr) (by decide) (by decide)
theorem rm_fi31 (l : Launch) (Z : State) (a0 : Array Value) (hw : own_HW a0 Z) (ws : List Jvm.Cond) (x3 : Value)  (h0 : Heap) (hx3 : x3.isRef = true) :
  MetFree l Y19 (head1 (Jvm.Cond.code Y19 jdk_41_method_13_code 4 (some .int) :: ws) (rr 0 0 0 0)) (fun a U => a = #[.int i_3, .int i_1, .int i_256, x3] ∧ Z.Warmed39 U.vm ∧ U.heap = h0) (fun _ _ _ _ _ => True) (fun _ U o U' => ∃ v L, o = .returned v ∧ QP (some (.int i_3)) h0 v U'.heap L ∧ FrameEnd U o U' L (rr 0 0 0 0).cells (rr 0 0 0 0).slots) := by
 refine MetFree.of_bodySF (plainFor_of_name own_pn2) hisR ?_
 intro p e s m args below meth c s₁ Bd hml0 hP hK
 obtain ⟨rfl, hZ, hh⟩ := hP
 have hx := Bd.exec
 have hby := Bd.bytes
 have hml : c.maxLocals = 4 := hml0
 have hown : s.vm.findClass s_1 = some m.cls := findClass_of_methodNamed Bd.named
 have hnm := (name_of_methodNamed Bd.named Bd.method).1
 have X0 : Stand p l e (rr 0 0 0 0) s m #[.int i_3, .int i_1, .int i_256, x3] below meth c s₁ [] 0 0 := Stand.of_body Bd
 have e0 : s₁.heap = h0 := by rw [← hh, Bd.state]; rfl
 show own_G _ _ _ _ (s₁.setTop (entryFrame m #[.int i_3, .int i_1, .int i_256, x3] 4))
 refine goo (fun _ k => castTop (ef_23_IIIV m i_3 i_1 i_256 x3 hx3) k) ?_
 refine goo (fun _ k => XS.iloadN X0.here hx rfl (hb hby d23_0) rfl <| XS.iloadN X0.here hx rfl (hb hby d23_1) rfl <| XS.ior X0.here hx rfl (hb hby d23_2) rfl <| XS.iloadN X0.here hx rfl (hb hby d23_3) rfl k) ?_
 refine goo (fun _ k => XS.ior X0.here hx rfl (hb hby d23_4) rfl k) ?_
 show own_G _ _ _ _ (s₁.setTop (mkF m 5 #[iv i_3, iv i_1, iv i_256, .val x3] [.int i_259]))
 refine goo (fun _ k => XS.ifNo X0.here hx rfl (hb hby d23_5) rfl (((if0 _ _).trans (flt (by decide : ¬ (i_259 < i_0))).1)) <| XS.iloadN X0.here hx rfl (hb hby d23_8) rfl <| XS.iloadN X0.here hx rfl (hb hby d23_9) rfl <| XS.iloadN X0.here hx rfl (hb hby d23_10) rfl k) ?_
 refine goo (fun _ k => XS.isub X0.here hx rfl (hb hby d23_11) rfl <| XS.icmpYes X0.here hx rfl (pc0 := 12) (pc' := 23) rfl (hb hby d23_12) rfl ((flt (by decide : ¬ (i_253 < i_1))).2.2.2) (by decide) (by decide) k) ?_
 show own_G _ _ _ _ (s₁.setTop (mkF m 23 #[iv i_3, iv i_1, iv i_256, .val x3] []))
 refine goo (fun _ k => XS.iloadN X0.here hx rfl (hb hby d23_23) rfl k) ?_
 show own_G _ _ _ _ (s₁.setTop (mkF m 24 #[iv i_3, iv i_1, iv i_256, .val x3] [.int i_3]))
 exact own_end X0 Bd.notSynchronized (v := some (.int i_3)) (fun h => by rw [Bd.returns] at h; cases h) (Q := QP (some (.int i_3)) h0) ⟨rfl, rfl, e0⟩ (fun fs hr => retI X0 hx Bd.returns (hb hby d23_24) hr) (by decide) (by decide)
theorem rm_fi12 (l : Launch) (Z : State) (a0 : Array Value) (hw : own_HW a0 Z) (ws : List Jvm.Cond) (x3 : Value)  (h0 : Heap) (hx3 : x3.isRef = true) :
  MetFree l Y19 (head1 (Jvm.Cond.code Y19 jdk_41_method_13_code 4 (some .int) :: ws) (rr 0 0 0 0)) (fun a U => a = #[.int i_1, .int i_2, .int i_256, x3] ∧ Z.Warmed39 U.vm ∧ U.heap = h0) (fun _ _ _ _ _ => True) (fun _ U o U' => ∃ v L, o = .returned v ∧ QP (some (.int i_1)) h0 v U'.heap L ∧ FrameEnd U o U' L (rr 0 0 0 0).cells (rr 0 0 0 0).slots) := by
 refine MetFree.of_bodySF (plainFor_of_name own_pn2) hisR ?_
 intro p e s m args below meth c s₁ Bd hml0 hP hK
 obtain ⟨rfl, hZ, hh⟩ := hP
 have hx := Bd.exec
 have hby := Bd.bytes
 have hml : c.maxLocals = 4 := hml0
 have hown : s.vm.findClass s_1 = some m.cls := findClass_of_methodNamed Bd.named
 have hnm := (name_of_methodNamed Bd.named Bd.method).1
 have X0 : Stand p l e (rr 0 0 0 0) s m #[.int i_1, .int i_2, .int i_256, x3] below meth c s₁ [] 0 0 := Stand.of_body Bd
 have e0 : s₁.heap = h0 := by rw [← hh, Bd.state]; rfl
 show own_G _ _ _ _ (s₁.setTop (entryFrame m #[.int i_1, .int i_2, .int i_256, x3] 4))
 refine goo (fun _ k => castTop (ef_23_IIIV m i_1 i_2 i_256 x3 hx3) k) ?_
 refine goo (fun _ k => XS.iloadN X0.here hx rfl (hb hby d23_0) rfl <| XS.iloadN X0.here hx rfl (hb hby d23_1) rfl <| XS.ior X0.here hx rfl (hb hby d23_2) rfl <| XS.iloadN X0.here hx rfl (hb hby d23_3) rfl k) ?_
 refine goo (fun _ k => XS.ior X0.here hx rfl (hb hby d23_4) rfl k) ?_
 show own_G _ _ _ _ (s₁.setTop (mkF m 5 #[iv i_1, iv i_2, iv i_256, .val x3] [.int i_259]))
 refine goo (fun _ k => XS.ifNo X0.here hx rfl (hb hby d23_5) rfl (((if0 _ _).trans (flt (by decide : ¬ (i_259 < i_0))).1)) <| XS.iloadN X0.here hx rfl (hb hby d23_8) rfl <| XS.iloadN X0.here hx rfl (hb hby d23_9) rfl <| XS.iloadN X0.here hx rfl (hb hby d23_10) rfl k) ?_
 refine goo (fun _ k => XS.isub X0.here hx rfl (hb hby d23_11) rfl <| XS.icmpYes X0.here hx rfl (pc0 := 12) (pc' := 23) rfl (hb hby d23_12) rfl ((flt (by decide : ¬ (i_255 < i_2))).2.2.2) (by decide) (by decide) k) ?_
 show own_G _ _ _ _ (s₁.setTop (mkF m 23 #[iv i_1, iv i_2, iv i_256, .val x3] []))
 refine goo (fun _ k => XS.iloadN X0.here hx rfl (hb hby d23_23) rfl k) ?_
 show own_G _ _ _ _ (s₁.setTop (mkF m 24 #[iv i_1, iv i_2, iv i_256, .val x3] [.int i_1]))
 exact own_end X0 Bd.notSynchronized (v := some (.int i_1)) (fun h => by rw [Bd.returns] at h; cases h) (Q := QP (some (.int i_1)) h0) ⟨rfl, rfl, e0⟩ (fun fs hr => retI X0 hx Bd.returns (hb hby d23_24) hr) (by decide) (by decide)
theorem own_pd13 : parseMethodDescriptor "(IIILjava/util/function/BiFunction;)I" = some ⟨[.int, .int, .int, (.object "java/util/function/BiFunction")], some .int⟩ := by decide +kernel
theorem d22_0 : decode jdk_42_method_157_code 0 = .ok (.iload_n 0, 1) := by decide +kernel
theorem d22_1 : decode jdk_42_method_157_code 1 = .ok (.iload_n 1, 1) := by decide +kernel
theorem d22_2 : decode jdk_42_method_157_code 2 = .ok (.iload_n 2, 1) := by decide +kernel
theorem d22_3 : decode jdk_42_method_157_code 3 = .ok (.getstatic 1053, 3) := by decide +kernel
theorem d22_6 : decode jdk_42_method_157_code 6 = .ok (.invokestatic 1065, 3) := by decide +kernel
theorem d22_9 : decode jdk_42_method_157_code 9 = .ok (.ireturn, 1) := by decide +kernel
theorem ef_22_III (m : MethodId) (x0 : Int32) (x1 : Int32) (x2 : Int32) : entryFrame m #[(.int x0), (.int x1), (.int x2)] 3 = mkF m 0 #[.val (.int x0), .val (.int x1), .val (.int x2)] [] := by
  first | (simp [entryFrame, mkF, argsToLocals, Value.category]; done) | rfl
theorem rm_bo00 (l : Launch) (Z : State) (a0 : Array Value) (hw : own_HW a0 Z) (ws : List Jvm.Cond)   (fz : Value) (h0 : Heap) (Sf : Sta Z h0 s_1 "SIOOBE_FORMATTER" "Ljava/util/function/BiFunction;" fz) (hfz : fz.isRef = true) :
  MetFree l Y20 (head1 (Jvm.Cond.code Y20 jdk_42_method_157_code 3 (some .int) :: ws) (rr 1 0 0 15)) (fun a U => a = #[.int i_0, .int i_0, .int i_256] ∧ Z.Warmed39 U.vm ∧ U.heap = h0) (fun _ _ _ _ _ => True) (fun _ U o U' => ∃ v L, o = .returned v ∧ QP (some (.int i_0)) h0 v U'.heap L ∧ FrameEnd U o U' L (rr 1 0 0 15).cells (rr 1 0 0 15).slots) := by
 refine MetFree.of_bodySF (plainFor_of_name own_pn1) hisR ?_
 intro p e s m args below meth c s₁ Bd hml0 hP hK
 obtain ⟨rfl, hZ, hh⟩ := hP
 have hx := Bd.exec
 have hby := Bd.bytes
 have hml : c.maxLocals = 3 := hml0
 have hown : s.vm.findClass s_0 = some m.cls := findClass_of_methodNamed Bd.named
 have hnm := (name_of_methodNamed Bd.named Bd.method).1
 have X0 : Stand p l e (rr 1 0 0 15) s m #[.int i_0, .int i_0, .int i_256] below meth c s₁ [] 0 0 := Stand.of_body Bd
 have e0 : s₁.heap = h0 := by rw [← hh, Bd.state]; rfl
 show own_G _ _ _ _ (s₁.setTop (entryFrame m #[.int i_0, .int i_0, .int i_256] 3))
 refine goo (fun _ k => castTop (ef_22_III m i_0 i_0 i_256) k) ?_
 refine goo (fun _ k => XS.iloadN X0.here hx rfl (hb hby d22_0) rfl <| XS.iloadN X0.here hx rfl (hb hby d22_1) rfl <| XS.iloadN X0.here hx rfl (hb hby d22_2) rfl k) ?_
 obtain ⟨T'0, X'0, e'0, st'0⟩ := getS2 X0 hx hZ hown (host := "") (Or.inl (qw hw 115 rfl)) Via.refl e0 Sf (g := (mkF m 3 #[iv i_0, iv i_0, iv i_256] [.int i_256, .int i_0, .int i_0])) rfl (hb hby d22_3)
 refine goo st'0 ?_
 obtain ⟨T'1, X'1, e'1, st'1⟩ := own_callP X'0 hx hZ (y := Y19) hown (qw hw 117 rfl) (qw hw 118 rfl) (qw hw 116 rfl) (qw hw 119 rfl) (by decide) (W := 0) (rm_fi00 l Z a0 hw [] fz  h0 hfz) (by decide) (by decide) rfl rfl e'0 (g := (mkF m 6 #[iv i_0, iv i_0, iv i_256] [fz, .int i_256, .int i_0, .int i_0])) rfl (by rw [hml]; rfl) (argsL := [.int i_0, .int i_0, .int i_256, fz]) (rest := []) (lenOf own_pd13 rfl) rfl rfl (Nat.le_of_eq rfl) (hb hby d22_6) (by decide) (by decide)
 refine goo st'1 ?_
 show own_G _ _ _ _ (T'1.setTop (mkF m 9 #[iv i_0, iv i_0, iv i_256] [.int i_0]))
 exact own_end X'1 Bd.notSynchronized (v := some (.int i_0)) (fun h => by rw [Bd.returns] at h; cases h) (Q := QP (some (.int i_0)) h0) ⟨rfl, rfl, e'1⟩ (fun fs hr => retI X'1 hx Bd.returns (hb hby d22_9) hr) (by decide) (by decide)
theorem rm_bo10 (l : Launch) (Z : State) (a0 : Array Value) (hw : own_HW a0 Z) (ws : List Jvm.Cond)   (fz : Value) (h0 : Heap) (Sf : Sta Z h0 s_1 "SIOOBE_FORMATTER" "Ljava/util/function/BiFunction;" fz) (hfz : fz.isRef = true) :
  MetFree l Y20 (head1 (Jvm.Cond.code Y20 jdk_42_method_157_code 3 (some .int) :: ws) (rr 1 0 0 15)) (fun a U => a = #[.int i_1, .int i_0, .int i_256] ∧ Z.Warmed39 U.vm ∧ U.heap = h0) (fun _ _ _ _ _ => True) (fun _ U o U' => ∃ v L, o = .returned v ∧ QP (some (.int i_1)) h0 v U'.heap L ∧ FrameEnd U o U' L (rr 1 0 0 15).cells (rr 1 0 0 15).slots) := by
 refine MetFree.of_bodySF (plainFor_of_name own_pn1) hisR ?_
 intro p e s m args below meth c s₁ Bd hml0 hP hK
 obtain ⟨rfl, hZ, hh⟩ := hP
 have hx := Bd.exec
 have hby := Bd.bytes
 have hml : c.maxLocals = 3 := hml0
 have hown : s.vm.findClass s_0 = some m.cls := findClass_of_methodNamed Bd.named
 have hnm := (name_of_methodNamed Bd.named Bd.method).1
 have X0 : Stand p l e (rr 1 0 0 15) s m #[.int i_1, .int i_0, .int i_256] below meth c s₁ [] 0 0 := Stand.of_body Bd
 have e0 : s₁.heap = h0 := by rw [← hh, Bd.state]; rfl
 show own_G _ _ _ _ (s₁.setTop (entryFrame m #[.int i_1, .int i_0, .int i_256] 3))
 refine goo (fun _ k => castTop (ef_22_III m i_1 i_0 i_256) k) ?_
 refine goo (fun _ k => XS.iloadN X0.here hx rfl (hb hby d22_0) rfl <| XS.iloadN X0.here hx rfl (hb hby d22_1) rfl <| XS.iloadN X0.here hx rfl (hb hby d22_2) rfl k) ?_
 obtain ⟨T'0, X'0, e'0, st'0⟩ := getS2 X0 hx hZ hown (host := "") (Or.inl (qw hw 115 rfl)) Via.refl e0 Sf (g := (mkF m 3 #[iv i_1, iv i_0, iv i_256] [.int i_256, .int i_0, .int i_1])) rfl (hb hby d22_3)
 refine goo st'0 ?_
 obtain ⟨T'1, X'1, e'1, st'1⟩ := own_callP X'0 hx hZ (y := Y19) hown (qw hw 117 rfl) (qw hw 118 rfl) (qw hw 116 rfl) (qw hw 119 rfl) (by decide) (W := 0) (rm_fi10 l Z a0 hw [] fz  h0 hfz) (by decide) (by decide) rfl rfl e'0 (g := (mkF m 6 #[iv i_1, iv i_0, iv i_256] [fz, .int i_256, .int i_0, .int i_1])) rfl (by rw [hml]; rfl) (argsL := [.int i_1, .int i_0, .int i_256, fz]) (rest := []) (lenOf own_pd13 rfl) rfl rfl (Nat.le_of_eq rfl) (hb hby d22_6) (by decide) (by decide)
 refine goo st'1 ?_
 show own_G _ _ _ _ (T'1.setTop (mkF m 9 #[iv i_1, iv i_0, iv i_256] [.int i_1]))
 exact own_end X'1 Bd.notSynchronized (v := some (.int i_1)) (fun h => by rw [Bd.returns] at h; cases h) (Q := QP (some (.int i_1)) h0) ⟨rfl, rfl, e'1⟩ (fun fs hr => retI X'1 hx Bd.returns (hb hby d22_9) hr) (by decide) (by decide)
theorem rm_bo30 (l : Launch) (Z : State) (a0 : Array Value) (hw : own_HW a0 Z) (ws : List Jvm.Cond)   (fz : Value) (h0 : Heap) (Sf : Sta Z h0 s_1 "SIOOBE_FORMATTER" "Ljava/util/function/BiFunction;" fz) (hfz : fz.isRef = true) :
  MetFree l Y20 (head1 (Jvm.Cond.code Y20 jdk_42_method_157_code 3 (some .int) :: ws) (rr 1 0 0 15)) (fun a U => a = #[.int i_3, .int i_0, .int i_256] ∧ Z.Warmed39 U.vm ∧ U.heap = h0) (fun _ _ _ _ _ => True) (fun _ U o U' => ∃ v L, o = .returned v ∧ QP (some (.int i_3)) h0 v U'.heap L ∧ FrameEnd U o U' L (rr 1 0 0 15).cells (rr 1 0 0 15).slots) := by
 refine MetFree.of_bodySF (plainFor_of_name own_pn1) hisR ?_
 intro p e s m args below meth c s₁ Bd hml0 hP hK
 obtain ⟨rfl, hZ, hh⟩ := hP
 have hx := Bd.exec
 have hby := Bd.bytes
 have hml : c.maxLocals = 3 := hml0
 have hown : s.vm.findClass s_0 = some m.cls := findClass_of_methodNamed Bd.named
 have hnm := (name_of_methodNamed Bd.named Bd.method).1
 have X0 : Stand p l e (rr 1 0 0 15) s m #[.int i_3, .int i_0, .int i_256] below meth c s₁ [] 0 0 := Stand.of_body Bd
 have e0 : s₁.heap = h0 := by rw [← hh, Bd.state]; rfl
 show own_G _ _ _ _ (s₁.setTop (entryFrame m #[.int i_3, .int i_0, .int i_256] 3))
 refine goo (fun _ k => castTop (ef_22_III m i_3 i_0 i_256) k) ?_
 refine goo (fun _ k => XS.iloadN X0.here hx rfl (hb hby d22_0) rfl <| XS.iloadN X0.here hx rfl (hb hby d22_1) rfl <| XS.iloadN X0.here hx rfl (hb hby d22_2) rfl k) ?_
 obtain ⟨T'0, X'0, e'0, st'0⟩ := getS2 X0 hx hZ hown (host := "") (Or.inl (qw hw 115 rfl)) Via.refl e0 Sf (g := (mkF m 3 #[iv i_3, iv i_0, iv i_256] [.int i_256, .int i_0, .int i_3])) rfl (hb hby d22_3)
 refine goo st'0 ?_
 obtain ⟨T'1, X'1, e'1, st'1⟩ := own_callP X'0 hx hZ (y := Y19) hown (qw hw 117 rfl) (qw hw 118 rfl) (qw hw 116 rfl) (qw hw 119 rfl) (by decide) (W := 0) (rm_fi30 l Z a0 hw [] fz  h0 hfz) (by decide) (by decide) rfl rfl e'0 (g := (mkF m 6 #[iv i_3, iv i_0, iv i_256] [fz, .int i_256, .int i_0, .int i_3])) rfl (by rw [hml]; rfl) (argsL := [.int i_3, .int i_0, .int i_256, fz]) (rest := []) (lenOf own_pd13 rfl) rfl rfl (Nat.le_of_eq rfl) (hb hby d22_6) (by decide) (by decide)
 refine goo st'1 ?_
 show own_G _ _ _ _ (T'1.setTop (mkF m 9 #[iv i_3, iv i_0, iv i_256] [.int i_3]))
 exact own_end X'1 Bd.notSynchronized (v := some (.int i_3)) (fun h => by rw [Bd.returns] at h; cases h) (Q := QP (some (.int i_3)) h0) ⟨rfl, rfl, e'1⟩ (fun fs hr => retI X'1 hx Bd.returns (hb hby d22_9) hr) (by decide) (by decide)
theorem rm_bo01 (l : Launch) (Z : State) (a0 : Array Value) (hw : own_HW a0 Z) (ws : List Jvm.Cond)   (fz : Value) (h0 : Heap) (Sf : Sta Z h0 s_1 "SIOOBE_FORMATTER" "Ljava/util/function/BiFunction;" fz) (hfz : fz.isRef = true) :
  MetFree l Y20 (head1 (Jvm.Cond.code Y20 jdk_42_method_157_code 3 (some .int) :: ws) (rr 1 0 0 15)) (fun a U => a = #[.int i_0, .int i_1, .int i_256] ∧ Z.Warmed39 U.vm ∧ U.heap = h0) (fun _ _ _ _ _ => True) (fun _ U o U' => ∃ v L, o = .returned v ∧ QP (some (.int i_0)) h0 v U'.heap L ∧ FrameEnd U o U' L (rr 1 0 0 15).cells (rr 1 0 0 15).slots) := by
 refine MetFree.of_bodySF (plainFor_of_name own_pn1) hisR ?_
 intro p e s m args below meth c s₁ Bd hml0 hP hK
 obtain ⟨rfl, hZ, hh⟩ := hP
 have hx := Bd.exec
 have hby := Bd.bytes
 have hml : c.maxLocals = 3 := hml0
 have hown : s.vm.findClass s_0 = some m.cls := findClass_of_methodNamed Bd.named
 have hnm := (name_of_methodNamed Bd.named Bd.method).1
 have X0 : Stand p l e (rr 1 0 0 15) s m #[.int i_0, .int i_1, .int i_256] below meth c s₁ [] 0 0 := Stand.of_body Bd
 have e0 : s₁.heap = h0 := by rw [← hh, Bd.state]; rfl
 show own_G _ _ _ _ (s₁.setTop (entryFrame m #[.int i_0, .int i_1, .int i_256] 3))
 refine goo (fun _ k => castTop (ef_22_III m i_0 i_1 i_256) k) ?_
 refine goo (fun _ k => XS.iloadN X0.here hx rfl (hb hby d22_0) rfl <| XS.iloadN X0.here hx rfl (hb hby d22_1) rfl <| XS.iloadN X0.here hx rfl (hb hby d22_2) rfl k) ?_
 obtain ⟨T'0, X'0, e'0, st'0⟩ := getS2 X0 hx hZ hown (host := "") (Or.inl (qw hw 115 rfl)) Via.refl e0 Sf (g := (mkF m 3 #[iv i_0, iv i_1, iv i_256] [.int i_256, .int i_1, .int i_0])) rfl (hb hby d22_3)
 refine goo st'0 ?_
 obtain ⟨T'1, X'1, e'1, st'1⟩ := own_callP X'0 hx hZ (y := Y19) hown (qw hw 117 rfl) (qw hw 118 rfl) (qw hw 116 rfl) (qw hw 119 rfl) (by decide) (W := 0) (rm_fi01 l Z a0 hw [] fz  h0 hfz) (by decide) (by decide) rfl rfl e'0 (g := (mkF m 6 #[iv i_0, iv i_1, iv i_256] [fz, .int i_256, .int i_1, .int i_0])) rfl (by rw [hml]; rfl) (argsL := [.int i_0, .int i_1, .int i_256, fz]) (rest := []) (lenOf own_pd13 rfl) rfl rfl (Nat.le_of_eq rfl) (hb hby d22_6) (by decide) (by decide)
 refine goo st'1 ?_
 show own_G _ _ _ _ (T'1.setTop (mkF m 9 #[iv i_0, iv i_1, iv i_256] [.int i_0]))
 exact own_end X'1 Bd.notSynchronized (v := some (.int i_0)) (fun h => by rw [Bd.returns] at h; cases h) (Q := QP (some (.int i_0)) h0) ⟨rfl, rfl, e'1⟩ (fun fs hr => retI X'1 hx Bd.returns (hb hby d22_9) hr) (by decide) (by decide)
theorem rm_bo11 (l : Launch) (Z : State) (a0 : Array Value) (hw : own_HW a0 Z) (ws : List Jvm.Cond)   (fz : Value) (h0 : Heap) (Sf : Sta Z h0 s_1 "SIOOBE_FORMATTER" "Ljava/util/function/BiFunction;" fz) (hfz : fz.isRef = true) :
  MetFree l Y20 (head1 (Jvm.Cond.code Y20 jdk_42_method_157_code 3 (some .int) :: ws) (rr 1 0 0 15)) (fun a U => a = #[.int i_1, .int i_1, .int i_256] ∧ Z.Warmed39 U.vm ∧ U.heap = h0) (fun _ _ _ _ _ => True) (fun _ U o U' => ∃ v L, o = .returned v ∧ QP (some (.int i_1)) h0 v U'.heap L ∧ FrameEnd U o U' L (rr 1 0 0 15).cells (rr 1 0 0 15).slots) := by
 refine MetFree.of_bodySF (plainFor_of_name own_pn1) hisR ?_
 intro p e s m args below meth c s₁ Bd hml0 hP hK
 obtain ⟨rfl, hZ, hh⟩ := hP
 have hx := Bd.exec
 have hby := Bd.bytes
 have hml : c.maxLocals = 3 := hml0
 have hown : s.vm.findClass s_0 = some m.cls := findClass_of_methodNamed Bd.named
 have hnm := (name_of_methodNamed Bd.named Bd.method).1
 have X0 : Stand p l e (rr 1 0 0 15) s m #[.int i_1, .int i_1, .int i_256] below meth c s₁ [] 0 0 := Stand.of_body Bd
 have e0 : s₁.heap = h0 := by rw [← hh, Bd.state]; rfl
 show own_G _ _ _ _ (s₁.setTop (entryFrame m #[.int i_1, .int i_1, .int i_256] 3))
 refine goo (fun _ k => castTop (ef_22_III m i_1 i_1 i_256) k) ?_
 refine goo (fun _ k => XS.iloadN X0.here hx rfl (hb hby d22_0) rfl <| XS.iloadN X0.here hx rfl (hb hby d22_1) rfl <| XS.iloadN X0.here hx rfl (hb hby d22_2) rfl k) ?_
 obtain ⟨T'0, X'0, e'0, st'0⟩ := getS2 X0 hx hZ hown (host := "") (Or.inl (qw hw 115 rfl)) Via.refl e0 Sf (g := (mkF m 3 #[iv i_1, iv i_1, iv i_256] [.int i_256, .int i_1, .int i_1])) rfl (hb hby d22_3)
 refine goo st'0 ?_
 obtain ⟨T'1, X'1, e'1, st'1⟩ := own_callP X'0 hx hZ (y := Y19) hown (qw hw 117 rfl) (qw hw 118 rfl) (qw hw 116 rfl) (qw hw 119 rfl) (by decide) (W := 0) (rm_fi11 l Z a0 hw [] fz  h0 hfz) (by decide) (by decide) rfl rfl e'0 (g := (mkF m 6 #[iv i_1, iv i_1, iv i_256] [fz, .int i_256, .int i_1, .int i_1])) rfl (by rw [hml]; rfl) (argsL := [.int i_1, .int i_1, .int i_256, fz]) (rest := []) (lenOf own_pd13 rfl) rfl rfl (Nat.le_of_eq rfl) (hb hby d22_6) (by decide) (by decide)
 refine goo st'1 ?_
 show own_G _ _ _ _ (T'1.setTop (mkF m 9 #[iv i_1, iv i_1, iv i_256] [.int i_1]))
 exact own_end X'1 Bd.notSynchronized (v := some (.int i_1)) (fun h => by rw [Bd.returns] at h; cases h) (Q := QP (some (.int i_1)) h0) ⟨rfl, rfl, e'1⟩ (fun fs hr => retI X'1 hx Bd.returns (hb hby d22_9) hr) (by decide) (by decide)
theorem rm_bo31 (l : Launch) (Z : State) (a0 : Array Value) (hw : own_HW a0 Z) (ws : List Jvm.Cond)   (fz : Value) (h0 : Heap) (Sf : Sta Z h0 s_1 "SIOOBE_FORMATTER" "Ljava/util/function/BiFunction;" fz) (hfz : fz.isRef = true) :
  MetFree l Y20 (head1 (Jvm.Cond.code Y20 jdk_42_method_157_code 3 (some .int) :: ws) (rr 1 0 0 15)) (fun a U => a = #[.int i_3, .int i_1, .int i_256] ∧ Z.Warmed39 U.vm ∧ U.heap = h0) (fun _ _ _ _ _ => True) (fun _ U o U' => ∃ v L, o = .returned v ∧ QP (some (.int i_3)) h0 v U'.heap L ∧ FrameEnd U o U' L (rr 1 0 0 15).cells (rr 1 0 0 15).slots) := by
 refine MetFree.of_bodySF (plainFor_of_name own_pn1) hisR ?_
 intro p e s m args below meth c s₁ Bd hml0 hP hK
 obtain ⟨rfl, hZ, hh⟩ := hP
 have hx := Bd.exec
 have hby := Bd.bytes
 have hml : c.maxLocals = 3 := hml0
 have hown : s.vm.findClass s_0 = some m.cls := findClass_of_methodNamed Bd.named
 have hnm := (name_of_methodNamed Bd.named Bd.method).1
 have X0 : Stand p l e (rr 1 0 0 15) s m #[.int i_3, .int i_1, .int i_256] below meth c s₁ [] 0 0 := Stand.of_body Bd
 have e0 : s₁.heap = h0 := by rw [← hh, Bd.state]; rfl
 show own_G _ _ _ _ (s₁.setTop (entryFrame m #[.int i_3, .int i_1, .int i_256] 3))
 refine goo (fun _ k => castTop (ef_22_III m i_3 i_1 i_256) k) ?_
 refine goo (fun _ k => XS.iloadN X0.here hx rfl (hb hby d22_0) rfl <| XS.iloadN X0.here hx rfl (hb hby d22_1) rfl <| XS.iloadN X0.here hx rfl (hb hby d22_2) rfl k) ?_
 obtain ⟨T'0, X'0, e'0, st'0⟩ := getS2 X0 hx hZ hown (host := "") (Or.inl (qw hw 115 rfl)) Via.refl e0 Sf (g := (mkF m 3 #[iv i_3, iv i_1, iv i_256] [.int i_256, .int i_1, .int i_3])) rfl (hb hby d22_3)
 refine goo st'0 ?_
 obtain ⟨T'1, X'1, e'1, st'1⟩ := own_callP X'0 hx hZ (y := Y19) hown (qw hw 117 rfl) (qw hw 118 rfl) (qw hw 116 rfl) (qw hw 119 rfl) (by decide) (W := 0) (rm_fi31 l Z a0 hw [] fz  h0 hfz) (by decide) (by decide) rfl rfl e'0 (g := (mkF m 6 #[iv i_3, iv i_1, iv i_256] [fz, .int i_256, .int i_1, .int i_3])) rfl (by rw [hml]; rfl) (argsL := [.int i_3, .int i_1, .int i_256, fz]) (rest := []) (lenOf own_pd13 rfl) rfl rfl (Nat.le_of_eq rfl) (hb hby d22_6) (by decide) (by decide)
 refine goo st'1 ?_
 show own_G _ _ _ _ (T'1.setTop (mkF m 9 #[iv i_3, iv i_1, iv i_256] [.int i_3]))
 exact own_end X'1 Bd.notSynchronized (v := some (.int i_3)) (fun h => by rw [Bd.returns] at h; cases h) (Q := QP (some (.int i_3)) h0) ⟨rfl, rfl, e'1⟩ (fun fs hr => retI X'1 hx Bd.returns (hb hby d22_9) hr) (by decide) (by decide)
theorem rm_bo12 (l : Launch) (Z : State) (a0 : Array Value) (hw : own_HW a0 Z) (ws : List Jvm.Cond)   (fz : Value) (h0 : Heap) (Sf : Sta Z h0 s_1 "SIOOBE_FORMATTER" "Ljava/util/function/BiFunction;" fz) (hfz : fz.isRef = true) :
  MetFree l Y20 (head1 (Jvm.Cond.code Y20 jdk_42_method_157_code 3 (some .int) :: ws) (rr 1 0 0 15)) (fun a U => a = #[.int i_1, .int i_2, .int i_256] ∧ Z.Warmed39 U.vm ∧ U.heap = h0) (fun _ _ _ _ _ => True) (fun _ U o U' => ∃ v L, o = .returned v ∧ QP (some (.int i_1)) h0 v U'.heap L ∧ FrameEnd U o U' L (rr 1 0 0 15).cells (rr 1 0 0 15).slots) := by
 refine MetFree.of_bodySF (plainFor_of_name own_pn1) hisR ?_
 intro p e s m args below meth c s₁ Bd hml0 hP hK
 obtain ⟨rfl, hZ, hh⟩ := hP
 have hx := Bd.exec
 have hby := Bd.bytes
 have hml : c.maxLocals = 3 := hml0
 have hown : s.vm.findClass s_0 = some m.cls := findClass_of_methodNamed Bd.named
 have hnm := (name_of_methodNamed Bd.named Bd.method).1
 have X0 : Stand p l e (rr 1 0 0 15) s m #[.int i_1, .int i_2, .int i_256] below meth c s₁ [] 0 0 := Stand.of_body Bd
 have e0 : s₁.heap = h0 := by rw [← hh, Bd.state]; rfl
 show own_G _ _ _ _ (s₁.setTop (entryFrame m #[.int i_1, .int i_2, .int i_256] 3))
 refine goo (fun _ k => castTop (ef_22_III m i_1 i_2 i_256) k) ?_
 refine goo (fun _ k => XS.iloadN X0.here hx rfl (hb hby d22_0) rfl <| XS.iloadN X0.here hx rfl (hb hby d22_1) rfl <| XS.iloadN X0.here hx rfl (hb hby d22_2) rfl k) ?_
 obtain ⟨T'0, X'0, e'0, st'0⟩ := getS2 X0 hx hZ hown (host := "") (Or.inl (qw hw 115 rfl)) Via.refl e0 Sf (g := (mkF m 3 #[iv i_1, iv i_2, iv i_256] [.int i_256, .int i_2, .int i_1])) rfl (hb hby d22_3)
 refine goo st'0 ?_
 obtain ⟨T'1, X'1, e'1, st'1⟩ := own_callP X'0 hx hZ (y := Y19) hown (qw hw 117 rfl) (qw hw 118 rfl) (qw hw 116 rfl) (qw hw 119 rfl) (by decide) (W := 0) (rm_fi12 l Z a0 hw [] fz  h0 hfz) (by decide) (by decide) rfl rfl e'0 (g := (mkF m 6 #[iv i_1, iv i_2, iv i_256] [fz, .int i_256, .int i_2, .int i_1])) rfl (by rw [hml]; rfl) (argsL := [.int i_1, .int i_2, .int i_256, fz]) (rest := []) (lenOf own_pd13 rfl) rfl rfl (Nat.le_of_eq rfl) (hb hby d22_6) (by decide) (by decide)
 refine goo st'1 ?_
 show own_G _ _ _ _ (T'1.setTop (mkF m 9 #[iv i_1, iv i_2, iv i_256] [.int i_1]))
 exact own_end X'1 Bd.notSynchronized (v := some (.int i_1)) (fun h => by rw [Bd.returns] at h; cases h) (Q := QP (some (.int i_1)) h0) ⟨rfl, rfl, e'1⟩ (fun fs hr => retI X'1 hx Bd.returns (hb hby d22_9) hr) (by decide) (by decide)
theorem own_pd14 : parseMethodDescriptor "(III)I" = some ⟨[.int, .int, .int], some .int⟩ := by decide +kernel
theorem d21_0 : decode jdk_42_method_5_code 0 = .ok (.iload_n 1, 1) := by decide +kernel
theorem d21_1 : decode jdk_42_method_5_code 1 = .ok (.iload_n 2, 1) := by decide +kernel
theorem d21_2 : decode jdk_42_method_5_code 2 = .ok (.aload_n 0, 1) := by decide +kernel
theorem d21_3 : decode jdk_42_method_5_code 3 = .ok (.arraylength, 1) := by decide +kernel
theorem d21_4 : decode jdk_42_method_5_code 4 = .ok (.invokestatic 34, 3) := by decide +kernel
theorem d21_7 : decode jdk_42_method_5_code 7 = .ok (.pop, 1) := by decide +kernel
theorem d21_8 : decode jdk_42_method_5_code 8 = .ok (.aconst_null, 1) := by decide +kernel
theorem d21_9 : decode jdk_42_method_5_code 9 = .ok (.areturn, 1) := by decide +kernel
theorem ef_21_RII (m : MethodId) (x0 : Addr) (x1 : Int32) (x2 : Int32) : entryFrame m #[(.ref x0), (.int x1), (.int x2)] 3 = mkF m 0 #[.val (.ref x0), .val (.int x1), .val (.int x2)] [] := by
  first | (simp [entryFrame, mkF, argsToLocals, Value.category]; done) | rfl
theorem rm_rc00 (l : Launch) (Z : State) (a0 : Array Value) (hw : own_HW a0 Z) (ws : List Jvm.Cond) (x0 : Addr)  (fz : Value) (kc : ClassId) (w0 w1 w2 w3 w4 w5 : Int32) (h0 : Heap) (Sf : Sta Z h0 s_1 "SIOOBE_FORMATTER" "Ljava/util/function/BiFunction;" fz) (hfz : fz.isRef = true) (Vc : Arv Z h0 x0 kc .char i_256 [.int w0, .int w1, .int w2, .int w3, .int w4, .int w5] (.int i_0)) :
  MetFree l Y21 (head1 (Jvm.Cond.code Y21 jdk_42_method_5_code 3 (some (.object "java/lang/Void")) :: ws) (rr 2 0 0 29)) (fun a U => a = #[.ref x0, .int i_0, .int i_0] ∧ Z.Warmed39 U.vm ∧ U.heap = h0) (fun _ _ _ _ _ => True) (fun _ U o U' => ∃ v L, o = .returned v ∧ QP (some .null) h0 v U'.heap L ∧ FrameEnd U o U' L (rr 2 0 0 29).cells (rr 2 0 0 29).slots) := by
 refine MetFree.of_bodySF (plainFor_of_name own_pn1) hisR ?_
 intro p e s m args below meth c s₁ Bd hml0 hP hK
 obtain ⟨rfl, hZ, hh⟩ := hP
 have hx := Bd.exec
 have hby := Bd.bytes
 have hml : c.maxLocals = 3 := hml0
 have hown : s.vm.findClass s_0 = some m.cls := findClass_of_methodNamed Bd.named
 have hnm := (name_of_methodNamed Bd.named Bd.method).1
 have X0 : Stand p l e (rr 2 0 0 29) s m #[.ref x0, .int i_0, .int i_0] below meth c s₁ [] 0 0 := Stand.of_body Bd
 have e0 : s₁.heap = h0 := by rw [← hh, Bd.state]; rfl
 show own_G _ _ _ _ (s₁.setTop (entryFrame m #[.ref x0, .int i_0, .int i_0] 3))
 refine goo (fun _ k => castTop (ef_21_RII m x0 i_0 i_0) k) ?_
 refine goo (fun _ k => XS.iloadN X0.here hx rfl (hb hby d21_0) rfl <| XS.iloadN X0.here hx rfl (hb hby d21_1) rfl <| XS.aloadN X0.here hx rfl (hb hby d21_2) rfl rfl k) ?_
 obtain ⟨cl439, Ar439, -, S439, N439, -, -⟩ := id Vc
 refine goo (fun _ k => X0.arraylength hx (cell := cl439) (by rw [e0]; exact Ar439.1) (State.isArrayOf_alike hZ.alike Ar439.2.1) (g := (mkF m 3 #[rv x0, iv i_0, iv i_0] [.ref x0, .int i_0, .int i_0])) rfl rfl (hb hby d21_3) _ (by rw [len_of S439 N439]; exact k)) ?_
 obtain ⟨T'0, X'0, e'0, st'0⟩ := own_callP X0 hx hZ (y := Y20) hown (qw hw 112 rfl) (qw hw 113 rfl) (qw hw 3 rfl) (qw hw 114 rfl) (by decide) (W := 0) (rm_bo00 l Z a0 hw []  fz h0 Sf hfz) (by decide) (by decide) rfl rfl e0 (g := (mkF m 4 #[rv x0, iv i_0, iv i_0] [.int i_256, .int i_0, .int i_0])) rfl (by rw [hml]; rfl) (argsL := [.int i_0, .int i_0, .int i_256]) (rest := []) (lenOf own_pd14 rfl) rfl rfl (Nat.le_of_eq rfl) (hb hby d21_4) (by decide) (by decide)
 refine goo st'0 ?_
 show own_G _ _ _ _ (T'0.setTop (mkF m 7 #[rv x0, iv i_0, iv i_0] [.int i_0]))
 refine goo (fun _ k => XS.pop X'0.here hx rfl (hb hby d21_7) rfl rfl <| XS.aconstNull X'0.here hx rfl (hb hby d21_8) k) ?_
 show own_G _ _ _ _ (T'0.setTop (mkF m 9 #[rv x0, iv i_0, iv i_0] [.null]))
 exact own_end X'0 Bd.notSynchronized (v := some .null) (fun h => by rw [Bd.returns] at h; cases h) (Q := QP (some .null) h0) ⟨rfl, rfl, e'0⟩ (fun fs hr => own_retA X'0 hx Bd.returns rfl rfl (hb hby d21_9) hr) (by decide) (by decide)
theorem rm_rc10 (l : Launch) (Z : State) (a0 : Array Value) (hw : own_HW a0 Z) (ws : List Jvm.Cond) (x0 : Addr)  (fz : Value) (kc : ClassId) (w0 w1 w2 w3 w4 w5 : Int32) (h0 : Heap) (Sf : Sta Z h0 s_1 "SIOOBE_FORMATTER" "Ljava/util/function/BiFunction;" fz) (hfz : fz.isRef = true) (Vc : Arv Z h0 x0 kc .char i_256 [.int w0, .int w1, .int w2, .int w3, .int w4, .int w5] (.int i_0)) :
  MetFree l Y21 (head1 (Jvm.Cond.code Y21 jdk_42_method_5_code 3 (some (.object "java/lang/Void")) :: ws) (rr 2 0 0 29)) (fun a U => a = #[.ref x0, .int i_1, .int i_0] ∧ Z.Warmed39 U.vm ∧ U.heap = h0) (fun _ _ _ _ _ => True) (fun _ U o U' => ∃ v L, o = .returned v ∧ QP (some .null) h0 v U'.heap L ∧ FrameEnd U o U' L (rr 2 0 0 29).cells (rr 2 0 0 29).slots) := by
 refine MetFree.of_bodySF (plainFor_of_name own_pn1) hisR ?_
 intro p e s m args below meth c s₁ Bd hml0 hP hK
 obtain ⟨rfl, hZ, hh⟩ := hP
 have hx := Bd.exec
 have hby := Bd.bytes
 have hml : c.maxLocals = 3 := hml0
 have hown : s.vm.findClass s_0 = some m.cls := findClass_of_methodNamed Bd.named
 have hnm := (name_of_methodNamed Bd.named Bd.method).1
 have X0 : Stand p l e (rr 2 0 0 29) s m #[.ref x0, .int i_1, .int i_0] below meth c s₁ [] 0 0 := Stand.of_body Bd
 have e0 : s₁.heap = h0 := by rw [← hh, Bd.state]; rfl
 show own_G _ _ _ _ (s₁.setTop (entryFrame m #[.ref x0, .int i_1, .int i_0] 3))
 refine goo (fun _ k => castTop (ef_21_RII m x0 i_1 i_0) k) ?_
 refine goo (fun _ k => XS.iloadN X0.here hx rfl (hb hby d21_0) rfl <| XS.iloadN X0.here hx rfl (hb hby d21_1) rfl <| XS.aloadN X0.here hx rfl (hb hby d21_2) rfl rfl k) ?_
 obtain ⟨cl441, Ar441, -, S441, N441, -, -⟩ := id Vc
 refine goo (fun _ k => X0.arraylength hx (cell := cl441) (by rw [e0]; exact Ar441.1) (State.isArrayOf_alike hZ.alike Ar441.2.1) (g := (mkF m 3 #[rv x0, iv i_1, iv i_0] [.ref x0, .int i_0, .int i_1])) rfl rfl (hb hby d21_3) _ (by rw [len_of S441 N441]; exact k)) ?_
 obtain ⟨T'0, X'0, e'0, st'0⟩ := own_callP X0 hx hZ (y := Y20) hown (qw hw 112 rfl) (qw hw 113 rfl) (qw hw 3 rfl) (qw hw 114 rfl) (by decide) (W := 0) (rm_bo10 l Z a0 hw []  fz h0 Sf hfz) (by decide) (by decide) rfl rfl e0 (g := (mkF m 4 #[rv x0, iv i_1, iv i_0] [.int i_256, .int i_0, .int i_1])) rfl (by rw [hml]; rfl) (argsL := [.int i_1, .int i_0, .int i_256]) (rest := []) (lenOf own_pd14 rfl) rfl rfl (Nat.le_of_eq rfl) (hb hby d21_4) (by decide) (by decide)
 refine goo st'0 ?_
 show own_G _ _ _ _ (T'0.setTop (mkF m 7 #[rv x0, iv i_1, iv i_0] [.int i_1]))
 refine goo (fun _ k => XS.pop X'0.here hx rfl (hb hby d21_7) rfl rfl <| XS.aconstNull X'0.here hx rfl (hb hby d21_8) k) ?_
 show own_G _ _ _ _ (T'0.setTop (mkF m 9 #[rv x0, iv i_1, iv i_0] [.null]))
 exact own_end X'0 Bd.notSynchronized (v := some .null) (fun h => by rw [Bd.returns] at h; cases h) (Q := QP (some .null) h0) ⟨rfl, rfl, e'0⟩ (fun fs hr => own_retA X'0 hx Bd.returns rfl rfl (hb hby d21_9) hr) (by decide) (by decide)
theorem rm_rc30 (l : Launch) (Z : State) (a0 : Array Value) (hw : own_HW a0 Z) (ws : List Jvm.Cond) (x0 : Addr)  (fz : Value) (kc : ClassId) (w0 w1 w2 w3 w4 w5 : Int32) (h0 : Heap) (Sf : Sta Z h0 s_1 "SIOOBE_FORMATTER" "Ljava/util/function/BiFunction;" fz) (hfz : fz.isRef = true) (Vc : Arv Z h0 x0 kc .char i_256 [.int w0, .int w1, .int w2, .int w3, .int w4, .int w5] (.int i_0)) :
  MetFree l Y21 (head1 (Jvm.Cond.code Y21 jdk_42_method_5_code 3 (some (.object "java/lang/Void")) :: ws) (rr 2 0 0 29)) (fun a U => a = #[.ref x0, .int i_3, .int i_0] ∧ Z.Warmed39 U.vm ∧ U.heap = h0) (fun _ _ _ _ _ => True) (fun _ U o U' => ∃ v L, o = .returned v ∧ QP (some .null) h0 v U'.heap L ∧ FrameEnd U o U' L (rr 2 0 0 29).cells (rr 2 0 0 29).slots) := by
 refine MetFree.of_bodySF (plainFor_of_name own_pn1) hisR ?_
 intro p e s m args below meth c s₁ Bd hml0 hP hK
 obtain ⟨rfl, hZ, hh⟩ := hP
 have hx := Bd.exec
 have hby := Bd.bytes
 have hml : c.maxLocals = 3 := hml0
 have hown : s.vm.findClass s_0 = some m.cls := findClass_of_methodNamed Bd.named
 have hnm := (name_of_methodNamed Bd.named Bd.method).1
 have X0 : Stand p l e (rr 2 0 0 29) s m #[.ref x0, .int i_3, .int i_0] below meth c s₁ [] 0 0 := Stand.of_body Bd
 have e0 : s₁.heap = h0 := by rw [← hh, Bd.state]; rfl
 show own_G _ _ _ _ (s₁.setTop (entryFrame m #[.ref x0, .int i_3, .int i_0] 3))
 refine goo (fun _ k => castTop (ef_21_RII m x0 i_3 i_0) k) ?_
 refine goo (fun _ k => XS.iloadN X0.here hx rfl (hb hby d21_0) rfl <| XS.iloadN X0.here hx rfl (hb hby d21_1) rfl <| XS.aloadN X0.here hx rfl (hb hby d21_2) rfl rfl k) ?_
 obtain ⟨cl443, Ar443, -, S443, N443, -, -⟩ := id Vc
 refine goo (fun _ k => X0.arraylength hx (cell := cl443) (by rw [e0]; exact Ar443.1) (State.isArrayOf_alike hZ.alike Ar443.2.1) (g := (mkF m 3 #[rv x0, iv i_3, iv i_0] [.ref x0, .int i_0, .int i_3])) rfl rfl (hb hby d21_3) _ (by rw [len_of S443 N443]; exact k)) ?_
 obtain ⟨T'0, X'0, e'0, st'0⟩ := own_callP X0 hx hZ (y := Y20) hown (qw hw 112 rfl) (qw hw 113 rfl) (qw hw 3 rfl) (qw hw 114 rfl) (by decide) (W := 0) (rm_bo30 l Z a0 hw []  fz h0 Sf hfz) (by decide) (by decide) rfl rfl e0 (g := (mkF m 4 #[rv x0, iv i_3, iv i_0] [.int i_256, .int i_0, .int i_3])) rfl (by rw [hml]; rfl) (argsL := [.int i_3, .int i_0, .int i_256]) (rest := []) (lenOf own_pd14 rfl) rfl rfl (Nat.le_of_eq rfl) (hb hby d21_4) (by decide) (by decide)
 refine goo st'0 ?_
 show own_G _ _ _ _ (T'0.setTop (mkF m 7 #[rv x0, iv i_3, iv i_0] [.int i_3]))
 refine goo (fun _ k => XS.pop X'0.here hx rfl (hb hby d21_7) rfl rfl <| XS.aconstNull X'0.here hx rfl (hb hby d21_8) k) ?_
 show own_G _ _ _ _ (T'0.setTop (mkF m 9 #[rv x0, iv i_3, iv i_0] [.null]))
 exact own_end X'0 Bd.notSynchronized (v := some .null) (fun h => by rw [Bd.returns] at h; cases h) (Q := QP (some .null) h0) ⟨rfl, rfl, e'0⟩ (fun fs hr => own_retA X'0 hx Bd.returns rfl rfl (hb hby d21_9) hr) (by decide) (by decide)
theorem rm_rc01 (l : Launch) (Z : State) (a0 : Array Value) (hw : own_HW a0 Z) (ws : List Jvm.Cond) (x0 : Addr)  (fz : Value) (kc : ClassId) (w0 w1 w2 w3 w4 w5 : Int32) (h0 : Heap) (Sf : Sta Z h0 s_1 "SIOOBE_FORMATTER" "Ljava/util/function/BiFunction;" fz) (hfz : fz.isRef = true) (Vc : Arv Z h0 x0 kc .char i_256 [.int w0, .int w1, .int w2, .int w3, .int w4, .int w5] (.int i_0)) :
  MetFree l Y21 (head1 (Jvm.Cond.code Y21 jdk_42_method_5_code 3 (some (.object "java/lang/Void")) :: ws) (rr 2 0 0 29)) (fun a U => a = #[.ref x0, .int i_0, .int i_1] ∧ Z.Warmed39 U.vm ∧ U.heap = h0) (fun _ _ _ _ _ => True) (fun _ U o U' => ∃ v L, o = .returned v ∧ QP (some .null) h0 v U'.heap L ∧ FrameEnd U o U' L (rr 2 0 0 29).cells (rr 2 0 0 29).slots) := by
 refine MetFree.of_bodySF (plainFor_of_name own_pn1) hisR ?_
 intro p e s m args below meth c s₁ Bd hml0 hP hK
 obtain ⟨rfl, hZ, hh⟩ := hP
 have hx := Bd.exec
 have hby := Bd.bytes
 have hml : c.maxLocals = 3 := hml0
 have hown : s.vm.findClass s_0 = some m.cls := findClass_of_methodNamed Bd.named
 have hnm := (name_of_methodNamed Bd.named Bd.method).1
 have X0 : Stand p l e (rr 2 0 0 29) s m #[.ref x0, .int i_0, .int i_1] below meth c s₁ [] 0 0 := Stand.of_body Bd
 have e0 : s₁.heap = h0 := by rw [← hh, Bd.state]; rfl
 show own_G _ _ _ _ (s₁.setTop (entryFrame m #[.ref x0, .int i_0, .int i_1] 3))
 refine goo (fun _ k => castTop (ef_21_RII m x0 i_0 i_1) k) ?_
 refine goo (fun _ k => XS.iloadN X0.here hx rfl (hb hby d21_0) rfl <| XS.iloadN X0.here hx rfl (hb hby d21_1) rfl <| XS.aloadN X0.here hx rfl (hb hby d21_2) rfl rfl k) ?_
 obtain ⟨cl445, Ar445, -, S445, N445, -, -⟩ := id Vc
 refine goo (fun _ k => X0.arraylength hx (cell := cl445) (by rw [e0]; exact Ar445.1) (State.isArrayOf_alike hZ.alike Ar445.2.1) (g := (mkF m 3 #[rv x0, iv i_0, iv i_1] [.ref x0, .int i_1, .int i_0])) rfl rfl (hb hby d21_3) _ (by rw [len_of S445 N445]; exact k)) ?_
 obtain ⟨T'0, X'0, e'0, st'0⟩ := own_callP X0 hx hZ (y := Y20) hown (qw hw 112 rfl) (qw hw 113 rfl) (qw hw 3 rfl) (qw hw 114 rfl) (by decide) (W := 0) (rm_bo01 l Z a0 hw []  fz h0 Sf hfz) (by decide) (by decide) rfl rfl e0 (g := (mkF m 4 #[rv x0, iv i_0, iv i_1] [.int i_256, .int i_1, .int i_0])) rfl (by rw [hml]; rfl) (argsL := [.int i_0, .int i_1, .int i_256]) (rest := []) (lenOf own_pd14 rfl) rfl rfl (Nat.le_of_eq rfl) (hb hby d21_4) (by decide) (by decide)
 refine goo st'0 ?_
 show own_G _ _ _ _ (T'0.setTop (mkF m 7 #[rv x0, iv i_0, iv i_1] [.int i_0]))
 refine goo (fun _ k => XS.pop X'0.here hx rfl (hb hby d21_7) rfl rfl <| XS.aconstNull X'0.here hx rfl (hb hby d21_8) k) ?_
 show own_G _ _ _ _ (T'0.setTop (mkF m 9 #[rv x0, iv i_0, iv i_1] [.null]))
 exact own_end X'0 Bd.notSynchronized (v := some .null) (fun h => by rw [Bd.returns] at h; cases h) (Q := QP (some .null) h0) ⟨rfl, rfl, e'0⟩ (fun fs hr => own_retA X'0 hx Bd.returns rfl rfl (hb hby d21_9) hr) (by decide) (by decide)
theorem rm_rc11 (l : Launch) (Z : State) (a0 : Array Value) (hw : own_HW a0 Z) (ws : List Jvm.Cond) (x0 : Addr)  (fz : Value) (kc : ClassId) (w0 w1 w2 w3 w4 w5 : Int32) (h0 : Heap) (Sf : Sta Z h0 s_1 "SIOOBE_FORMATTER" "Ljava/util/function/BiFunction;" fz) (hfz : fz.isRef = true) (Vc : Arv Z h0 x0 kc .char i_256 [.int w0, .int w1, .int w2, .int w3, .int w4, .int w5] (.int i_0)) :
  MetFree l Y21 (head1 (Jvm.Cond.code Y21 jdk_42_method_5_code 3 (some (.object "java/lang/Void")) :: ws) (rr 2 0 0 29)) (fun a U => a = #[.ref x0, .int i_1, .int i_1] ∧ Z.Warmed39 U.vm ∧ U.heap = h0) (fun _ _ _ _ _ => True) (fun _ U o U' => ∃ v L, o = .returned v ∧ QP (some .null) h0 v U'.heap L ∧ FrameEnd U o U' L (rr 2 0 0 29).cells (rr 2 0 0 29).slots) := by
 refine MetFree.of_bodySF (plainFor_of_name own_pn1) hisR ?_
 intro p e s m args below meth c s₁ Bd hml0 hP hK
 obtain ⟨rfl, hZ, hh⟩ := hP
 have hx := Bd.exec
 have hby := Bd.bytes
 have hml : c.maxLocals = 3 := hml0
 have hown : s.vm.findClass s_0 = some m.cls := findClass_of_methodNamed Bd.named
 have hnm := (name_of_methodNamed Bd.named Bd.method).1
 have X0 : Stand p l e (rr 2 0 0 29) s m #[.ref x0, .int i_1, .int i_1] below meth c s₁ [] 0 0 := Stand.of_body Bd
 have e0 : s₁.heap = h0 := by rw [← hh, Bd.state]; rfl
 show own_G _ _ _ _ (s₁.setTop (entryFrame m #[.ref x0, .int i_1, .int i_1] 3))
 refine goo (fun _ k => castTop (ef_21_RII m x0 i_1 i_1) k) ?_
 refine goo (fun _ k => XS.iloadN X0.here hx rfl (hb hby d21_0) rfl <| XS.iloadN X0.here hx rfl (hb hby d21_1) rfl <| XS.aloadN X0.here hx rfl (hb hby d21_2) rfl rfl k) ?_
 obtain ⟨cl447, Ar447, -, S447, N447, -, -⟩ := id Vc
 refine goo (fun _ k => X0.arraylength hx (cell := cl447) (by rw [e0]; exact Ar447.1) (State.isArrayOf_alike hZ.alike Ar447.2.1) (g := (mkF m 3 #[rv x0, iv i_1, iv i_1] [.ref x0, .int i_1, .int i_1])) rfl rfl (hb hby d21_3) _ (by rw [len_of S447 N447]; exact k)) ?_
 obtain ⟨T'0, X'0, e'0, st'0⟩ := own_callP X0 hx hZ (y := Y20) hown (qw hw 112 rfl) (qw hw 113 rfl) (qw hw 3 rfl) (qw hw 114 rfl) (by decide) (W := 0) (rm_bo11 l Z a0 hw []  fz h0 Sf hfz) (by decide) (by decide) rfl rfl e0 (g := (mkF m 4 #[rv x0, iv i_1, iv i_1] [.int i_256, .int i_1, .int i_1])) rfl (by rw [hml]; rfl) (argsL := [.int i_1, .int i_1, .int i_256]) (rest := []) (lenOf own_pd14 rfl) rfl rfl (Nat.le_of_eq rfl) (hb hby d21_4) (by decide) (by decide)
 refine goo st'0 ?_
 show own_G _ _ _ _ (T'0.setTop (mkF m 7 #[rv x0, iv i_1, iv i_1] [.int i_1]))
 refine goo (fun _ k => XS.pop X'0.here hx rfl (hb hby d21_7) rfl rfl <| XS.aconstNull X'0.here hx rfl (hb hby d21_8) k) ?_
 show own_G _ _ _ _ (T'0.setTop (mkF m 9 #[rv x0, iv i_1, iv i_1] [.null]))
 exact own_end X'0 Bd.notSynchronized (v := some .null) (fun h => by rw [Bd.returns] at h; cases h) (Q := QP (some .null) h0) ⟨rfl, rfl, e'0⟩ (fun fs hr => own_retA X'0 hx Bd.returns rfl rfl (hb hby d21_9) hr) (by decide) (by decide)
theorem rm_rc31 (l : Launch) (Z : State) (a0 : Array Value) (hw : own_HW a0 Z) (ws : List Jvm.Cond) (x0 : Addr)  (fz : Value) (kc : ClassId) (w0 w1 w2 w3 w4 w5 : Int32) (h0 : Heap) (Sf : Sta Z h0 s_1 "SIOOBE_FORMATTER" "Ljava/util/function/BiFunction;" fz) (hfz : fz.isRef = true) (Vc : Arv Z h0 x0 kc .char i_256 [.int w0, .int w1, .int w2, .int w3, .int w4, .int w5] (.int i_0)) :
  MetFree l Y21 (head1 (Jvm.Cond.code Y21 jdk_42_method_5_code 3 (some (.object "java/lang/Void")) :: ws) (rr 2 0 0 29)) (fun a U => a = #[.ref x0, .int i_3, .int i_1] ∧ Z.Warmed39 U.vm ∧ U.heap = h0) (fun _ _ _ _ _ => True) (fun _ U o U' => ∃ v L, o = .returned v ∧ QP (some .null) h0 v U'.heap L ∧ FrameEnd U o U' L (rr 2 0 0 29).cells (rr 2 0 0 29).slots) := by
 refine MetFree.of_bodySF (plainFor_of_name own_pn1) hisR ?_
 intro p e s m args below meth c s₁ Bd hml0 hP hK
 obtain ⟨rfl, hZ, hh⟩ := hP
 have hx := Bd.exec
 have hby := Bd.bytes
 have hml : c.maxLocals = 3 := hml0
 have hown : s.vm.findClass s_0 = some m.cls := findClass_of_methodNamed Bd.named
 have hnm := (name_of_methodNamed Bd.named Bd.method).1
 have X0 : Stand p l e (rr 2 0 0 29) s m #[.ref x0, .int i_3, .int i_1] below meth c s₁ [] 0 0 := Stand.of_body Bd
 have e0 : s₁.heap = h0 := by rw [← hh, Bd.state]; rfl
 show own_G _ _ _ _ (s₁.setTop (entryFrame m #[.ref x0, .int i_3, .int i_1] 3))
 refine goo (fun _ k => castTop (ef_21_RII m x0 i_3 i_1) k) ?_
 refine goo (fun _ k => XS.iloadN X0.here hx rfl (hb hby d21_0) rfl <| XS.iloadN X0.here hx rfl (hb hby d21_1) rfl <| XS.aloadN X0.here hx rfl (hb hby d21_2) rfl rfl k) ?_
 obtain ⟨cl449, Ar449, -, S449, N449, -, -⟩ := id Vc
 refine goo (fun _ k => X0.arraylength hx (cell := cl449) (by rw [e0]; exact Ar449.1) (State.isArrayOf_alike hZ.alike Ar449.2.1) (g := (mkF m 3 #[rv x0, iv i_3, iv i_1] [.ref x0, .int i_1, .int i_3])) rfl rfl (hb hby d21_3) _ (by rw [len_of S449 N449]; exact k)) ?_
 obtain ⟨T'0, X'0, e'0, st'0⟩ := own_callP X0 hx hZ (y := Y20) hown (qw hw 112 rfl) (qw hw 113 rfl) (qw hw 3 rfl) (qw hw 114 rfl) (by decide) (W := 0) (rm_bo31 l Z a0 hw []  fz h0 Sf hfz) (by decide) (by decide) rfl rfl e0 (g := (mkF m 4 #[rv x0, iv i_3, iv i_1] [.int i_256, .int i_1, .int i_3])) rfl (by rw [hml]; rfl) (argsL := [.int i_3, .int i_1, .int i_256]) (rest := []) (lenOf own_pd14 rfl) rfl rfl (Nat.le_of_eq rfl) (hb hby d21_4) (by decide) (by decide)
 refine goo st'0 ?_
 show own_G _ _ _ _ (T'0.setTop (mkF m 7 #[rv x0, iv i_3, iv i_1] [.int i_3]))
 refine goo (fun _ k => XS.pop X'0.here hx rfl (hb hby d21_7) rfl rfl <| XS.aconstNull X'0.here hx rfl (hb hby d21_8) k) ?_
 show own_G _ _ _ _ (T'0.setTop (mkF m 9 #[rv x0, iv i_3, iv i_1] [.null]))
 exact own_end X'0 Bd.notSynchronized (v := some .null) (fun h => by rw [Bd.returns] at h; cases h) (Q := QP (some .null) h0) ⟨rfl, rfl, e'0⟩ (fun fs hr => own_retA X'0 hx Bd.returns rfl rfl (hb hby d21_9) hr) (by decide) (by decide)
theorem rm_rc12 (l : Launch) (Z : State) (a0 : Array Value) (hw : own_HW a0 Z) (ws : List Jvm.Cond) (x0 : Addr)  (fz : Value) (kc : ClassId) (w0 w1 w2 w3 w4 w5 : Int32) (h0 : Heap) (Sf : Sta Z h0 s_1 "SIOOBE_FORMATTER" "Ljava/util/function/BiFunction;" fz) (hfz : fz.isRef = true) (Vc : Arv Z h0 x0 kc .char i_256 [.int w0, .int w1, .int w2, .int w3, .int w4, .int w5] (.int i_0)) :
  MetFree l Y21 (head1 (Jvm.Cond.code Y21 jdk_42_method_5_code 3 (some (.object "java/lang/Void")) :: ws) (rr 2 0 0 29)) (fun a U => a = #[.ref x0, .int i_1, .int i_2] ∧ Z.Warmed39 U.vm ∧ U.heap = h0) (fun _ _ _ _ _ => True) (fun _ U o U' => ∃ v L, o = .returned v ∧ QP (some .null) h0 v U'.heap L ∧ FrameEnd U o U' L (rr 2 0 0 29).cells (rr 2 0 0 29).slots) := by
 refine MetFree.of_bodySF (plainFor_of_name own_pn1) hisR ?_
 intro p e s m args below meth c s₁ Bd hml0 hP hK
 obtain ⟨rfl, hZ, hh⟩ := hP
 have hx := Bd.exec
 have hby := Bd.bytes
 have hml : c.maxLocals = 3 := hml0
 have hown : s.vm.findClass s_0 = some m.cls := findClass_of_methodNamed Bd.named
 have hnm := (name_of_methodNamed Bd.named Bd.method).1
 have X0 : Stand p l e (rr 2 0 0 29) s m #[.ref x0, .int i_1, .int i_2] below meth c s₁ [] 0 0 := Stand.of_body Bd
 have e0 : s₁.heap = h0 := by rw [← hh, Bd.state]; rfl
 show own_G _ _ _ _ (s₁.setTop (entryFrame m #[.ref x0, .int i_1, .int i_2] 3))
 refine goo (fun _ k => castTop (ef_21_RII m x0 i_1 i_2) k) ?_
 refine goo (fun _ k => XS.iloadN X0.here hx rfl (hb hby d21_0) rfl <| XS.iloadN X0.here hx rfl (hb hby d21_1) rfl <| XS.aloadN X0.here hx rfl (hb hby d21_2) rfl rfl k) ?_
 obtain ⟨cl451, Ar451, -, S451, N451, -, -⟩ := id Vc
 refine goo (fun _ k => X0.arraylength hx (cell := cl451) (by rw [e0]; exact Ar451.1) (State.isArrayOf_alike hZ.alike Ar451.2.1) (g := (mkF m 3 #[rv x0, iv i_1, iv i_2] [.ref x0, .int i_2, .int i_1])) rfl rfl (hb hby d21_3) _ (by rw [len_of S451 N451]; exact k)) ?_
 obtain ⟨T'0, X'0, e'0, st'0⟩ := own_callP X0 hx hZ (y := Y20) hown (qw hw 112 rfl) (qw hw 113 rfl) (qw hw 3 rfl) (qw hw 114 rfl) (by decide) (W := 0) (rm_bo12 l Z a0 hw []  fz h0 Sf hfz) (by decide) (by decide) rfl rfl e0 (g := (mkF m 4 #[rv x0, iv i_1, iv i_2] [.int i_256, .int i_2, .int i_1])) rfl (by rw [hml]; rfl) (argsL := [.int i_1, .int i_2, .int i_256]) (rest := []) (lenOf own_pd14 rfl) rfl rfl (Nat.le_of_eq rfl) (hb hby d21_4) (by decide) (by decide)
 refine goo st'0 ?_
 show own_G _ _ _ _ (T'0.setTop (mkF m 7 #[rv x0, iv i_1, iv i_2] [.int i_1]))
 refine goo (fun _ k => XS.pop X'0.here hx rfl (hb hby d21_7) rfl rfl <| XS.aconstNull X'0.here hx rfl (hb hby d21_8) k) ?_
 show own_G _ _ _ _ (T'0.setTop (mkF m 9 #[rv x0, iv i_1, iv i_2] [.null]))
 exact own_end X'0 Bd.notSynchronized (v := some .null) (fun h => by rw [Bd.returns] at h; cases h) (Q := QP (some .null) h0) ⟨rfl, rfl, e'0⟩ (fun fs hr => own_retA X'0 hx Bd.returns rfl rfl (hb hby d21_9) hr) (by decide) (by decide)
def Q_rm_sc00 (Z : State) (x0 : Addr) (x1 : Addr) (cz : Int32) (fz : Value) (kc : ClassId) (w0 w1 w2 w3 w4 w5 : Int32) (h0 : Heap) (n0 : Nat) (v : Option Value) (h : Heap) (L : List Loc) : Prop := v = none ∧ Fr n0 L ∧ Keep h0 h [x0] ∧ Exa Z h x0 s_0 ∧ Fld Z h x0 s_0 "coder" "B" (.int i_0) ∧ ∃ b k, Fld Z h x0 s_0 "value" "[B" (.ref b) ∧ Arv Z h b k .byte i_0 [] (.int i_0)
theorem own_pd15 : parseMethodDescriptor "([CII)Ljava/lang/Void;" = some ⟨[(.array .char), .int, .int], some (.object "java/lang/Void")⟩ := by decide +kernel
theorem d20_0 : decode jdk_42_method_4_code 0 = .ok (.aload_n 0, 1) := by decide +kernel
theorem d20_1 : decode jdk_42_method_4_code 1 = .ok (.aload_n 1, 1) := by decide +kernel
theorem d20_2 : decode jdk_42_method_4_code 2 = .ok (.iload_n 2, 1) := by decide +kernel
theorem d20_3 : decode jdk_42_method_4_code 3 = .ok (.iload_n 3, 1) := by decide +kernel
theorem d20_4 : decode jdk_42_method_4_code 4 = .ok (.aload_n 1, 1) := by decide +kernel
theorem d20_5 : decode jdk_42_method_4_code 5 = .ok (.iload_n 2, 1) := by decide +kernel
theorem d20_6 : decode jdk_42_method_4_code 6 = .ok (.iload_n 3, 1) := by decide +kernel
theorem d20_7 : decode jdk_42_method_4_code 7 = .ok (.invokestatic 30, 3) := by decide +kernel
theorem d20_10 : decode jdk_42_method_4_code 10 = .ok (.invokespecial 27, 3) := by decide +kernel
theorem d20_13 : decode jdk_42_method_4_code 13 = .ok (.return_, 1) := by decide +kernel
theorem ef_20_RRII (m : MethodId) (x0 : Addr) (x1 : Addr) (x2 : Int32) (x3 : Int32) : entryFrame m #[(.ref x0), (.ref x1), (.int x2), (.int x3)] 4 = mkF m 0 #[.val (.ref x0), .val (.ref x1), .val (.int x2), .val (.int x3)] [] := by
  first | (simp [entryFrame, mkF, argsToLocals, Value.category]; done) | rfl
theorem rm_sc00 (l : Launch) (Z : State) (a0 : Array Value) (hw : own_HW a0 Z) (ws : List Jvm.Cond) (x0 : Addr) (x1 : Addr) (cz : Int32) (fz : Value) (kc : ClassId) (w0 w1 w2 w3 w4 w5 : Int32) (h0 : Heap) (n0 : Nat) (Z0 : n0 ≤ h0.size) (p0_ : Exa Z h0 x0 s_0) (p1_ : n0 ≤ x0) (p2_ : Fld Z h0 x0 s_0 "value" "[B" .null) (p3_ : Fld Z h0 x0 s_0 "coder" "B" (.int i_0)) (p4_ : Arv Z h0 x1 kc .char i_256 [.int w0, .int w1, .int w2, .int w3, .int w4, .int w5] (.int i_0)) (p5_ : Sta Z h0 s_0 "COMPACT_STRINGS" "Z" (.int cz)) (p6_ : ¬ cz = i_0) (p7_ : Sta Z h0 s_1 "SIOOBE_FORMATTER" "Ljava/util/function/BiFunction;" fz) (p8_ : x0 ≠ x1) (p9_ : Old Z n0 h0) (p10_ : Jvm.Lit.constHeld Z s_0 7) (p11_ : Jvm.Lit.compactW.before a0 Z = true) (hfz : fz.isRef = true) :
  MetFree l Y22 (head1 (Jvm.Cond.code Y22 jdk_42_method_4_code 4 none :: ws) (rr 3 2 4 47)) (fun a U => a = #[.ref x0, .ref x1, .int i_0, .int i_0] ∧ Z.Warmed39 U.vm ∧ U.heap = h0 ∧ IB Z U.vm []) (fun _ _ _ _ _ => True) (fun _ U o U' => ∃ v L, o = .returned v ∧ Q_rm_sc00 Z x0 x1 cz fz kc w0 w1 w2 w3 w4 w5 h0 n0 v U'.heap L ∧ ReturnedEndW U o U' L (rr 3 2 4 47).cells (rr 3 2 4 47).slots) := by
 refine MetFree.of_bodySF (plainFor_of_name own_pn1) hisR ?_
 intro p e s m args below meth c s₁ Bd hml0 hP hK
 obtain ⟨rfl, hZ, hh, hI⟩ := hP
 have hx := Bd.exec
 have hby := Bd.bytes
 have hml : c.maxLocals = 4 := hml0
 have hown : s.vm.findClass s_0 = some m.cls := findClass_of_methodNamed Bd.named
 have hnm := (name_of_methodNamed Bd.named Bd.method).1
 have X0 : Stand p l e (rr 3 2 4 47) s m #[.ref x0, .ref x1, .int i_0, .int i_0] below meth c s₁ [] 0 0 := Stand.of_body Bd
 have e0 : s₁.heap = h0 := by rw [← hh, Bd.state]; rfl
 show own_G _ _ _ _ (s₁.setTop (entryFrame m #[.ref x0, .ref x1, .int i_0, .int i_0] 4))
 refine goo (fun _ k => castTop (ef_20_RRII m x0 x1 i_0 i_0) k) ?_
 have N0 := Fr.nil n0
 have KP0 := Keep.refl h0 [x0]
 have hS : s.Since s.vm h0.size := (State.WarmedH.refl s).since _
 have hk : h0.size ≤ h0.size := Nat.le_refl _
 have own_sA : ∀ a ∈ Bundle.stringAtoms, a.before a0 Z = true := own_strA hw
 refine goo (fun _ k => XS.aloadN X0.here hx rfl (hb hby d20_0) rfl rfl <| XS.aloadN X0.here hx rfl (hb hby d20_1) rfl rfl <| XS.iloadN X0.here hx rfl (hb hby d20_2) rfl <| XS.iloadN X0.here hx rfl (hb hby d20_3) rfl k) ?_
 refine goo (fun _ k => XS.aloadN X0.here hx rfl (hb hby d20_4) rfl rfl k) ?_
 show own_G _ _ _ _ (s₁.setTop (mkF m 5 #[rv x0, rv x1, iv i_0, iv i_0] [.ref x1, .int i_0, .int i_0, .ref x1, .ref x0]))
 refine goo (fun _ k => XS.iloadN X0.here hx rfl (hb hby d20_5) rfl <| XS.iloadN X0.here hx rfl (hb hby d20_6) rfl k) ?_
 obtain ⟨T'0, X'0, e'0, st'0⟩ := own_callP X0 hx hZ (y := Y21) hown (qw hw 109 rfl) (qw hw 110 rfl) (qw hw 3 rfl) (qw hw 111 rfl) (by decide) (W := 4) (rm_rc00 l Z a0 hw [] x1 fz kc w0 w1 w2 w3 w4 w5 h0 p7_ hfz p4_) (by decide) (by decide) rfl rfl e0 (g := (mkF m 7 #[rv x0, rv x1, iv i_0, iv i_0] [.int i_0, .int i_0, .ref x1, .int i_0, .int i_0, .ref x1, .ref x0])) rfl (by rw [hml]; rfl) (argsL := [.ref x1, .int i_0, .int i_0]) (rest := [.int i_0, .int i_0, .ref x1, .ref x0]) (lenOf own_pd15 rfl) rfl rfl (Nat.le_of_eq rfl) (hb hby d20_7) (by decide) (by decide)
 refine goo st'0 ?_
 obtain ⟨_, _, ⟨T'1, L'1, k'1, n'1⟩, -, X'1, hSn, hgr, ⟨Lc'1, hQ'1, l'1, y'1, z'1⟩, st'1⟩ := X'0.specialBackS hx (y := Y17) rfl hown (mvT hZ (qw hw 31 rfl)) (mvT hZ (qw hw 32 rfl)) (mvT hZ (qw hw 33 rfl)) (by decide) (own_backI (W := 0) (rm_sv0 l Z a0 hw [] x0 x1 i_0  h0 n0 Z0 p0_ p1_ p2_ p3_ p9_ p10_ p11_) hZ hI (qw hw 33 rfl) (qw hw 3 rfl) (by decide) (by decide)) (g := (mkF m 10 #[rv x0, rv x1, iv i_0, iv i_0] [.null, .int i_0, .int i_0, .ref x1, .ref x0])) rfl (by rw [hml]; rfl) (Steps.refl _) (a := x0) (argsL := [.ref x1, .int i_0, .int i_0, .null]) (rest := []) (lenOf own_pd12 rfl) rfl (Nat.le_of_eq rfl) (hb hby d20_10) (fun _ _ => ⟨rfl, e'0, (by decide : 0 + 2 ≤ _), (by decide : 0 + 4 ≤ _)⟩)
 dsimp only [Pt.U, Pt.locs, Pt.cells, Pt.slots] at X'1 l'1 y'1 z'1 st'1 hQ'1 hSn hgr
 subst l'1 y'1 z'1
 obtain ⟨rfl, Nq'1, K'1, G_2, G_3, qx'1⟩ := hQ'1
 obtain ⟨vb'1, kv'1, Fv'1, Vv'1⟩ := qx'1
 have hS := foldS (s := s) hS (by rw [e'0]; exact hk) hSn hgr
 have hZ := State.Warmed39.trans (t := s) hZ hSn.1
 have hown : (s.setVm T'1.vm).vm.findClass s_0 = some m.cls := by rw [show (s.setVm T'1.vm).vm = T'1.vm from rfl, hSn.1.alike.findClass]; exact hown
 have KP_4 : Keep h0 T'1.heap [x0] := KP0.trans K'1 (allS (Or.inl (List.mem_of_getElem? (i := 0) rfl)) all0)
 have hk'1 : T'1.heap.size ≤ T'1.heap.size := Nat.le_refl _
 have N_1 := Fr.app N0 Nq'1
 have X'1 : Stand p l e _ (s.setVm T'1.vm) m _ below meth c T'1 _ _ _ := X'1
 refine goo (fun _ k => st'1.trans k) ?_
 show own_G _ _ _ _ (T'1.setTop (mkF m 13 #[rv x0, rv x1, iv i_0, iv i_0] []))
 exact own_endW X'1 Bd.notSynchronized hS hk'1 (v := none) (fun _ => rfl) (Q := Q_rm_sc00 Z x0 x1 cz fz kc w0 w1 w2 w3 w4 w5 h0 n0) (by show Q_rm_sc00 Z x0 x1 cz fz kc w0 w1 w2 w3 w4 w5 h0 n0 (none) T'1.heap _; exact ⟨rfl, N_1, KP_4, G_2, G_3, ⟨vb'1, kv'1, Fv'1, Vv'1⟩⟩) (fun fs hr => X'1.returnOut hx Bd.returns (hb hby d20_13) hr) (by decide) (by decide)
def Q_rm_sc10 (Z : State) (x0 : Addr) (x1 : Addr) (cz : Int32) (fz : Value) (kc : ClassId) (w0 w1 w2 w3 w4 w5 : Int32) (h0 : Heap) (n0 : Nat) (v : Option Value) (h : Heap) (L : List Loc) : Prop := v = none ∧ Fr n0 L ∧ Keep h0 h [x0] ∧ Exa Z h x0 s_0 ∧ Fld Z h x0 s_0 "coder" "B" (.int i_0) ∧ ∃ b k, Fld Z h x0 s_0 "value" "[B" (.ref b) ∧ Arv Z h b k .byte i_0 [] (.int i_0)
theorem rm_sc10 (l : Launch) (Z : State) (a0 : Array Value) (hw : own_HW a0 Z) (ws : List Jvm.Cond) (x0 : Addr) (x1 : Addr) (cz : Int32) (fz : Value) (kc : ClassId) (w0 w1 w2 w3 w4 w5 : Int32) (h0 : Heap) (n0 : Nat) (Z0 : n0 ≤ h0.size) (p0_ : Exa Z h0 x0 s_0) (p1_ : n0 ≤ x0) (p2_ : Fld Z h0 x0 s_0 "value" "[B" .null) (p3_ : Fld Z h0 x0 s_0 "coder" "B" (.int i_0)) (p4_ : Arv Z h0 x1 kc .char i_256 [.int w0, .int w1, .int w2, .int w3, .int w4, .int w5] (.int i_0)) (p5_ : Sta Z h0 s_0 "COMPACT_STRINGS" "Z" (.int cz)) (p6_ : ¬ cz = i_0) (p7_ : Sta Z h0 s_1 "SIOOBE_FORMATTER" "Ljava/util/function/BiFunction;" fz) (p8_ : x0 ≠ x1) (p9_ : Old Z n0 h0) (p10_ : Jvm.Lit.constHeld Z s_0 7) (p11_ : Jvm.Lit.compactW.before a0 Z = true) (hfz : fz.isRef = true) :
  MetFree l Y22 (head1 (Jvm.Cond.code Y22 jdk_42_method_4_code 4 none :: ws) (rr 3 2 4 47)) (fun a U => a = #[.ref x0, .ref x1, .int i_1, .int i_0] ∧ Z.Warmed39 U.vm ∧ U.heap = h0 ∧ IB Z U.vm []) (fun _ _ _ _ _ => True) (fun _ U o U' => ∃ v L, o = .returned v ∧ Q_rm_sc10 Z x0 x1 cz fz kc w0 w1 w2 w3 w4 w5 h0 n0 v U'.heap L ∧ ReturnedEndW U o U' L (rr 3 2 4 47).cells (rr 3 2 4 47).slots) := by
 refine MetFree.of_bodySF (plainFor_of_name own_pn1) hisR ?_
 intro p e s m args below meth c s₁ Bd hml0 hP hK
 obtain ⟨rfl, hZ, hh, hI⟩ := hP
 have hx := Bd.exec
 have hby := Bd.bytes
 have hml : c.maxLocals = 4 := hml0
 have hown : s.vm.findClass s_0 = some m.cls := findClass_of_methodNamed Bd.named
 have hnm := (name_of_methodNamed Bd.named Bd.method).1
 have X0 : Stand p l e (rr 3 2 4 47) s m #[.ref x0, .ref x1, .int i_1, .int i_0] below meth c s₁ [] 0 0 := Stand.of_body Bd
 have e0 : s₁.heap = h0 := by rw [← hh, Bd.state]; rfl
 show own_G _ _ _ _ (s₁.setTop (entryFrame m #[.ref x0, .ref x1, .int i_1, .int i_0] 4))
 refine goo (fun _ k => castTop (ef_20_RRII m x0 x1 i_1 i_0) k) ?_
 have N0 := Fr.nil n0
 have KP0 := Keep.refl h0 [x0]
 have hS : s.Since s.vm h0.size := (State.WarmedH.refl s).since _
 have hk : h0.size ≤ h0.size := Nat.le_refl _
 have own_sA : ∀ a ∈ Bundle.stringAtoms, a.before a0 Z = true := own_strA hw
 refine goo (fun _ k => XS.aloadN X0.here hx rfl (hb hby d20_0) rfl rfl <| XS.aloadN X0.here hx rfl (hb hby d20_1) rfl rfl <| XS.iloadN X0.here hx rfl (hb hby d20_2) rfl <| XS.iloadN X0.here hx rfl (hb hby d20_3) rfl k) ?_
 refine goo (fun _ k => XS.aloadN X0.here hx rfl (hb hby d20_4) rfl rfl k) ?_
 show own_G _ _ _ _ (s₁.setTop (mkF m 5 #[rv x0, rv x1, iv i_1, iv i_0] [.ref x1, .int i_0, .int i_1, .ref x1, .ref x0]))
 refine goo (fun _ k => XS.iloadN X0.here hx rfl (hb hby d20_5) rfl <| XS.iloadN X0.here hx rfl (hb hby d20_6) rfl k) ?_
 obtain ⟨T'0, X'0, e'0, st'0⟩ := own_callP X0 hx hZ (y := Y21) hown (qw hw 109 rfl) (qw hw 110 rfl) (qw hw 3 rfl) (qw hw 111 rfl) (by decide) (W := 4) (rm_rc10 l Z a0 hw [] x1 fz kc w0 w1 w2 w3 w4 w5 h0 p7_ hfz p4_) (by decide) (by decide) rfl rfl e0 (g := (mkF m 7 #[rv x0, rv x1, iv i_1, iv i_0] [.int i_0, .int i_1, .ref x1, .int i_0, .int i_1, .ref x1, .ref x0])) rfl (by rw [hml]; rfl) (argsL := [.ref x1, .int i_1, .int i_0]) (rest := [.int i_0, .int i_1, .ref x1, .ref x0]) (lenOf own_pd15 rfl) rfl rfl (Nat.le_of_eq rfl) (hb hby d20_7) (by decide) (by decide)
 refine goo st'0 ?_
 obtain ⟨_, _, ⟨T'1, L'1, k'1, n'1⟩, -, X'1, hSn, hgr, ⟨Lc'1, hQ'1, l'1, y'1, z'1⟩, st'1⟩ := X'0.specialBackS hx (y := Y17) rfl hown (mvT hZ (qw hw 31 rfl)) (mvT hZ (qw hw 32 rfl)) (mvT hZ (qw hw 33 rfl)) (by decide) (own_backI (W := 0) (rm_sv0 l Z a0 hw [] x0 x1 i_1  h0 n0 Z0 p0_ p1_ p2_ p3_ p9_ p10_ p11_) hZ hI (qw hw 33 rfl) (qw hw 3 rfl) (by decide) (by decide)) (g := (mkF m 10 #[rv x0, rv x1, iv i_1, iv i_0] [.null, .int i_0, .int i_1, .ref x1, .ref x0])) rfl (by rw [hml]; rfl) (Steps.refl _) (a := x0) (argsL := [.ref x1, .int i_1, .int i_0, .null]) (rest := []) (lenOf own_pd12 rfl) rfl (Nat.le_of_eq rfl) (hb hby d20_10) (fun _ _ => ⟨rfl, e'0, (by decide : 0 + 2 ≤ _), (by decide : 0 + 4 ≤ _)⟩)
 dsimp only [Pt.U, Pt.locs, Pt.cells, Pt.slots] at X'1 l'1 y'1 z'1 st'1 hQ'1 hSn hgr
 subst l'1 y'1 z'1
 obtain ⟨rfl, Nq'1, K'1, G_2, G_3, qx'1⟩ := hQ'1
 obtain ⟨vb'1, kv'1, Fv'1, Vv'1⟩ := qx'1
 have hS := foldS (s := s) hS (by rw [e'0]; exact hk) hSn hgr
 have hZ := State.Warmed39.trans (t := s) hZ hSn.1
 have hown : (s.setVm T'1.vm).vm.findClass s_0 = some m.cls := by rw [show (s.setVm T'1.vm).vm = T'1.vm from rfl, hSn.1.alike.findClass]; exact hown
 have KP_4 : Keep h0 T'1.heap [x0] := KP0.trans K'1 (allS (Or.inl (List.mem_of_getElem? (i := 0) rfl)) all0)
 have hk'1 : T'1.heap.size ≤ T'1.heap.size := Nat.le_refl _
 have N_1 := Fr.app N0 Nq'1
 have X'1 : Stand p l e _ (s.setVm T'1.vm) m _ below meth c T'1 _ _ _ := X'1
 refine goo (fun _ k => st'1.trans k) ?_
 show own_G _ _ _ _ (T'1.setTop (mkF m 13 #[rv x0, rv x1, iv i_1, iv i_0] []))
 exact own_endW X'1 Bd.notSynchronized hS hk'1 (v := none) (fun _ => rfl) (Q := Q_rm_sc10 Z x0 x1 cz fz kc w0 w1 w2 w3 w4 w5 h0 n0) (by show Q_rm_sc10 Z x0 x1 cz fz kc w0 w1 w2 w3 w4 w5 h0 n0 (none) T'1.heap _; exact ⟨rfl, N_1, KP_4, G_2, G_3, ⟨vb'1, kv'1, Fv'1, Vv'1⟩⟩) (fun fs hr => X'1.returnOut hx Bd.returns (hb hby d20_13) hr) (by decide) (by decide)
def Q_rm_sc30 (Z : State) (x0 : Addr) (x1 : Addr) (cz : Int32) (fz : Value) (kc : ClassId) (w0 w1 w2 w3 w4 w5 : Int32) (h0 : Heap) (n0 : Nat) (v : Option Value) (h : Heap) (L : List Loc) : Prop := v = none ∧ Fr n0 L ∧ Keep h0 h [x0] ∧ Exa Z h x0 s_0 ∧ Fld Z h x0 s_0 "coder" "B" (.int i_0) ∧ ∃ b k, Fld Z h x0 s_0 "value" "[B" (.ref b) ∧ Arv Z h b k .byte i_0 [] (.int i_0)
theorem rm_sc30 (l : Launch) (Z : State) (a0 : Array Value) (hw : own_HW a0 Z) (ws : List Jvm.Cond) (x0 : Addr) (x1 : Addr) (cz : Int32) (fz : Value) (kc : ClassId) (w0 w1 w2 w3 w4 w5 : Int32) (h0 : Heap) (n0 : Nat) (Z0 : n0 ≤ h0.size) (p0_ : Exa Z h0 x0 s_0) (p1_ : n0 ≤ x0) (p2_ : Fld Z h0 x0 s_0 "value" "[B" .null) (p3_ : Fld Z h0 x0 s_0 "coder" "B" (.int i_0)) (p4_ : Arv Z h0 x1 kc .char i_256 [.int w0, .int w1, .int w2, .int w3, .int w4, .int w5] (.int i_0)) (p5_ : Sta Z h0 s_0 "COMPACT_STRINGS" "Z" (.int cz)) (p6_ : ¬ cz = i_0) (p7_ : Sta Z h0 s_1 "SIOOBE_FORMATTER" "Ljava/util/function/BiFunction;" fz) (p8_ : x0 ≠ x1) (p9_ : Old Z n0 h0) (p10_ : Jvm.Lit.constHeld Z s_0 7) (p11_ : Jvm.Lit.compactW.before a0 Z = true) (hfz : fz.isRef = true) :
  MetFree l Y22 (head1 (Jvm.Cond.code Y22 jdk_42_method_4_code 4 none :: ws) (rr 3 2 4 47)) (fun a U => a = #[.ref x0, .ref x1, .int i_3, .int i_0] ∧ Z.Warmed39 U.vm ∧ U.heap = h0 ∧ IB Z U.vm []) (fun _ _ _ _ _ => True) (fun _ U o U' => ∃ v L, o = .returned v ∧ Q_rm_sc30 Z x0 x1 cz fz kc w0 w1 w2 w3 w4 w5 h0 n0 v U'.heap L ∧ ReturnedEndW U o U' L (rr 3 2 4 47).cells (rr 3 2 4 47).slots) := by
 refine MetFree.of_bodySF (plainFor_of_name own_pn1) hisR ?_
 intro p e s m args below meth c s₁ Bd hml0 hP hK
 obtain ⟨rfl, hZ, hh, hI⟩ := hP
 have hx := Bd.exec
 have hby := Bd.bytes
 have hml : c.maxLocals = 4 := hml0
 have hown : s.vm.findClass s_0 = some m.cls := findClass_of_methodNamed Bd.named
 have hnm := (name_of_methodNamed Bd.named Bd.method).1
 have X0 : Stand p l e (rr 3 2 4 47) s m #[.ref x0, .ref x1, .int i_3, .int i_0] below meth c s₁ [] 0 0 := Stand.of_body Bd
 have e0 : s₁.heap = h0 := by rw [← hh, Bd.state]; rfl
 show own_G _ _ _ _ (s₁.setTop (entryFrame m #[.ref x0, .ref x1, .int i_3, .int i_0] 4))
 refine goo (fun _ k => castTop (ef_20_RRII m x0 x1 i_3 i_0) k) ?_
 have N0 := Fr.nil n0
 have KP0 := Keep.refl h0 [x0]
 have hS : s.Since s.vm h0.size := (State.WarmedH.refl s).since _
 have hk : h0.size ≤ h0.size := Nat.le_refl _
 have own_sA : ∀ a ∈ Bundle.stringAtoms, a.before a0 Z = true := own_strA hw
 refine goo (fun _ k => XS.aloadN X0.here hx rfl (hb hby d20_0) rfl rfl <| XS.aloadN X0.here hx rfl (hb hby d20_1) rfl rfl <| XS.iloadN X0.here hx rfl (hb hby d20_2) rfl <| XS.iloadN X0.here hx rfl (hb hby d20_3) rfl k) ?_
 refine goo (fun _ k => XS.aloadN X0.here hx rfl (hb hby d20_4) rfl rfl k) ?_
 show own_G _ _ _ _ (s₁.setTop (mkF m 5 #[rv x0, rv x1, iv i_3, iv i_0] [.ref x1, .int i_0, .int i_3, .ref x1, .ref x0]))
 refine goo (fun _ k => XS.iloadN X0.here hx rfl (hb hby d20_5) rfl <| XS.iloadN X0.here hx rfl (hb hby d20_6) rfl k) ?_
 obtain ⟨T'0, X'0, e'0, st'0⟩ := own_callP X0 hx hZ (y := Y21) hown (qw hw 109 rfl) (qw hw 110 rfl) (qw hw 3 rfl) (qw hw 111 rfl) (by decide) (W := 4) (rm_rc30 l Z a0 hw [] x1 fz kc w0 w1 w2 w3 w4 w5 h0 p7_ hfz p4_) (by decide) (by decide) rfl rfl e0 (g := (mkF m 7 #[rv x0, rv x1, iv i_3, iv i_0] [.int i_0, .int i_3, .ref x1, .int i_0, .int i_3, .ref x1, .ref x0])) rfl (by rw [hml]; rfl) (argsL := [.ref x1, .int i_3, .int i_0]) (rest := [.int i_0, .int i_3, .ref x1, .ref x0]) (lenOf own_pd15 rfl) rfl rfl (Nat.le_of_eq rfl) (hb hby d20_7) (by decide) (by decide)
 refine goo st'0 ?_
 obtain ⟨_, _, ⟨T'1, L'1, k'1, n'1⟩, -, X'1, hSn, hgr, ⟨Lc'1, hQ'1, l'1, y'1, z'1⟩, st'1⟩ := X'0.specialBackS hx (y := Y17) rfl hown (mvT hZ (qw hw 31 rfl)) (mvT hZ (qw hw 32 rfl)) (mvT hZ (qw hw 33 rfl)) (by decide) (own_backI (W := 0) (rm_sv0 l Z a0 hw [] x0 x1 i_3  h0 n0 Z0 p0_ p1_ p2_ p3_ p9_ p10_ p11_) hZ hI (qw hw 33 rfl) (qw hw 3 rfl) (by decide) (by decide)) (g := (mkF m 10 #[rv x0, rv x1, iv i_3, iv i_0] [.null, .int i_0, .int i_3, .ref x1, .ref x0])) rfl (by rw [hml]; rfl) (Steps.refl _) (a := x0) (argsL := [.ref x1, .int i_3, .int i_0, .null]) (rest := []) (lenOf own_pd12 rfl) rfl (Nat.le_of_eq rfl) (hb hby d20_10) (fun _ _ => ⟨rfl, e'0, (by decide : 0 + 2 ≤ _), (by decide : 0 + 4 ≤ _)⟩)
 dsimp only [Pt.U, Pt.locs, Pt.cells, Pt.slots] at X'1 l'1 y'1 z'1 st'1 hQ'1 hSn hgr
 subst l'1 y'1 z'1
 obtain ⟨rfl, Nq'1, K'1, G_2, G_3, qx'1⟩ := hQ'1
 obtain ⟨vb'1, kv'1, Fv'1, Vv'1⟩ := qx'1
 have hS := foldS (s := s) hS (by rw [e'0]; exact hk) hSn hgr
 have hZ := State.Warmed39.trans (t := s) hZ hSn.1
 have hown : (s.setVm T'1.vm).vm.findClass s_0 = some m.cls := by rw [show (s.setVm T'1.vm).vm = T'1.vm from rfl, hSn.1.alike.findClass]; exact hown
 have KP_4 : Keep h0 T'1.heap [x0] := KP0.trans K'1 (allS (Or.inl (List.mem_of_getElem? (i := 0) rfl)) all0)
 have hk'1 : T'1.heap.size ≤ T'1.heap.size := Nat.le_refl _
 have N_1 := Fr.app N0 Nq'1
 have X'1 : Stand p l e _ (s.setVm T'1.vm) m _ below meth c T'1 _ _ _ := X'1
 refine goo (fun _ k => st'1.trans k) ?_
 show own_G _ _ _ _ (T'1.setTop (mkF m 13 #[rv x0, rv x1, iv i_3, iv i_0] []))
 exact own_endW X'1 Bd.notSynchronized hS hk'1 (v := none) (fun _ => rfl) (Q := Q_rm_sc30 Z x0 x1 cz fz kc w0 w1 w2 w3 w4 w5 h0 n0) (by show Q_rm_sc30 Z x0 x1 cz fz kc w0 w1 w2 w3 w4 w5 h0 n0 (none) T'1.heap _; exact ⟨rfl, N_1, KP_4, G_2, G_3, ⟨vb'1, kv'1, Fv'1, Vv'1⟩⟩) (fun fs hr => X'1.returnOut hx Bd.returns (hb hby d20_13) hr) (by decide) (by decide)
def Q_rm_sc01 (Z : State) (x0 : Addr) (x1 : Addr) (cz : Int32) (fz : Value) (kc : ClassId) (w0 w1 w2 w3 w4 w5 : Int32) (h0 : Heap) (n0 : Nat) (v : Option Value) (h : Heap) (L : List Loc) : Prop := v = none ∧ Fr n0 L ∧ Keep h0 h [x0] ∧ Exa Z h x0 s_0 ∧ Fld Z h x0 s_0 "coder" "B" (.int i_0) ∧ ∃ b k, h0.size ≤ b ∧ Fld Z h x0 s_0 "value" "[B" (.ref b) ∧ Arv Z h b k .byte i_1 [.int (own_by w0)] (.int i_0)
theorem rm_sc01 (l : Launch) (Z : State) (a0 : Array Value) (hw : own_HW a0 Z) (ws : List Jvm.Cond) (x0 : Addr) (x1 : Addr) (cz : Int32) (fz : Value) (kc : ClassId) (w0 w1 w2 w3 w4 w5 : Int32) (h0 : Heap) (n0 : Nat) (Z0 : n0 ≤ h0.size) (p0_ : Exa Z h0 x0 s_0) (p1_ : n0 ≤ x0) (p2_ : Fld Z h0 x0 s_0 "value" "[B" .null) (p3_ : Fld Z h0 x0 s_0 "coder" "B" (.int i_0)) (p4_ : Arv Z h0 x1 kc .char i_256 [.int w0, .int w1, .int w2, .int w3, .int w4, .int w5] (.int i_0)) (p5_ : Sta Z h0 s_0 "COMPACT_STRINGS" "Z" (.int cz)) (p6_ : ¬ cz = i_0) (p7_ : Sta Z h0 s_1 "SIOOBE_FORMATTER" "Ljava/util/function/BiFunction;" fz) (p8_ : x0 ≠ x1) (p9_ : own_ok w0) (hfz : fz.isRef = true) :
  MetFree l Y22 (head1 (Jvm.Cond.code Y22 jdk_42_method_4_code 4 none :: ws) (rr 3 1 1 52)) (fun a U => a = #[.ref x0, .ref x1, .int i_0, .int i_1] ∧ Z.Warmed39 U.vm ∧ U.heap = h0) (fun _ _ _ _ _ => True) (fun _ U o U' => ∃ v L, o = .returned v ∧ Q_rm_sc01 Z x0 x1 cz fz kc w0 w1 w2 w3 w4 w5 h0 n0 v U'.heap L ∧ FrameEnd U o U' L (rr 3 1 1 52).cells (rr 3 1 1 52).slots) := by
 refine MetFree.of_bodySF (plainFor_of_name own_pn1) hisR ?_
 intro p e s m args below meth c s₁ Bd hml0 hP hK
 obtain ⟨rfl, hZ, hh⟩ := hP
 have hx := Bd.exec
 have hby := Bd.bytes
 have hml : c.maxLocals = 4 := hml0
 have hown : s.vm.findClass s_0 = some m.cls := findClass_of_methodNamed Bd.named
 have hnm := (name_of_methodNamed Bd.named Bd.method).1
 have X0 : Stand p l e (rr 3 1 1 52) s m #[.ref x0, .ref x1, .int i_0, .int i_1] below meth c s₁ [] 0 0 := Stand.of_body Bd
 have e0 : s₁.heap = h0 := by rw [← hh, Bd.state]; rfl
 show own_G _ _ _ _ (s₁.setTop (entryFrame m #[.ref x0, .ref x1, .int i_0, .int i_1] 4))
 refine goo (fun _ k => castTop (ef_20_RRII m x0 x1 i_0 i_1) k) ?_
 have N0 := Fr.nil n0
 have KP0 := Keep.refl h0 [x0]
 refine goo (fun _ k => XS.aloadN X0.here hx rfl (hb hby d20_0) rfl rfl <| XS.aloadN X0.here hx rfl (hb hby d20_1) rfl rfl <| XS.iloadN X0.here hx rfl (hb hby d20_2) rfl <| XS.iloadN X0.here hx rfl (hb hby d20_3) rfl k) ?_
 refine goo (fun _ k => XS.aloadN X0.here hx rfl (hb hby d20_4) rfl rfl k) ?_
 show own_G _ _ _ _ (s₁.setTop (mkF m 5 #[rv x0, rv x1, iv i_0, iv i_1] [.ref x1, .int i_1, .int i_0, .ref x1, .ref x0]))
 refine goo (fun _ k => XS.iloadN X0.here hx rfl (hb hby d20_5) rfl <| XS.iloadN X0.here hx rfl (hb hby d20_6) rfl k) ?_
 obtain ⟨T'0, X'0, e'0, st'0⟩ := own_callP X0 hx hZ (y := Y21) hown (qw hw 109 rfl) (qw hw 110 rfl) (qw hw 3 rfl) (qw hw 111 rfl) (by decide) (W := 4) (rm_rc01 l Z a0 hw [] x1 fz kc w0 w1 w2 w3 w4 w5 h0 p7_ hfz p4_) (by decide) (by decide) rfl rfl e0 (g := (mkF m 7 #[rv x0, rv x1, iv i_0, iv i_1] [.int i_1, .int i_0, .ref x1, .int i_1, .int i_0, .ref x1, .ref x0])) rfl (by rw [hml]; rfl) (argsL := [.ref x1, .int i_0, .int i_1]) (rest := [.int i_1, .int i_0, .ref x1, .ref x0]) (lenOf own_pd15 rfl) rfl rfl (Nat.le_of_eq rfl) (hb hby d20_7) (by decide) (by decide)
 refine goo st'0 ?_
 obtain ⟨_, _, ⟨T'1, L'1, k'1, n'1⟩, -, X'1, ⟨Lc'1, hQ'1, l'1, y'1, z'1⟩, st'1⟩ := X'0.specialBack hx (y := Y17) rfl hown (mvT hZ (qw hw 31 rfl)) (mvT hZ (qw hw 32 rfl)) (mvT hZ (qw hw 33 rfl)) (by decide) (backOf (W := 0) (rm_sv_256_0_1 l Z a0 hw [] x0 x1 cz kc w0 w1 w2 w3 w4 w5 h0 n0 Z0 p0_ p1_ p2_ p3_ p4_ p5_ p6_ p8_ p9_) hZ (qw hw 33 rfl) (qw hw 3 rfl) (by decide) (by decide)) (g := (mkF m 10 #[rv x0, rv x1, iv i_0, iv i_1] [.null, .int i_1, .int i_0, .ref x1, .ref x0])) rfl (by rw [hml]; rfl) (Steps.refl _) (a := x0) (argsL := [.ref x1, .int i_0, .int i_1, .null]) (rest := []) (lenOf own_pd12 rfl) rfl (Nat.le_of_eq rfl) (hb hby d20_10) (fun _ _ => ⟨rfl, e'0, (by decide : 0 + 1 ≤ _), (by decide : 0 + 1 ≤ _)⟩)
 dsimp only [Pt.U, Pt.locs, Pt.cells, Pt.slots] at X'1 l'1 y'1 z'1 st'1 hQ'1
 subst l'1 y'1 z'1
 obtain ⟨rfl, Nq'1, K'1, G_2, G_3, qx'1⟩ := hQ'1
 obtain ⟨vb'1, kv'1, gv'1, Fv'1, Vv'1⟩ := qx'1
 have sz_496 : h0.size ≤ vb'1 := Nat.le_trans KP0.1 gv'1
 have KP_4 : Keep h0 T'1.heap [x0] := KP0.trans K'1 (allS (Or.inl (List.mem_of_getElem? (i := 0) rfl)) all0)
 have N_1 := Fr.app N0 Nq'1
 refine goo (fun _ k => st'1.trans k) ?_
 show own_G _ _ _ _ (T'1.setTop (mkF m 13 #[rv x0, rv x1, iv i_0, iv i_1] []))
 exact own_end X'1 Bd.notSynchronized (v := none) (fun _ => rfl) (Q := Q_rm_sc01 Z x0 x1 cz fz kc w0 w1 w2 w3 w4 w5 h0 n0) (by show Q_rm_sc01 Z x0 x1 cz fz kc w0 w1 w2 w3 w4 w5 h0 n0 (none) T'1.heap _; exact ⟨rfl, N_1, KP_4, G_2, G_3, ⟨vb'1, kv'1, sz_496, Fv'1, Vv'1⟩⟩) (fun fs hr => X'1.returnOut hx Bd.returns (hb hby d20_13) hr) (by decide) (by decide)
def Q_rm_sc11 (Z : State) (x0 : Addr) (x1 : Addr) (cz : Int32) (fz : Value) (kc : ClassId) (w0 w1 w2 w3 w4 w5 : Int32) (h0 : Heap) (n0 : Nat) (v : Option Value) (h : Heap) (L : List Loc) : Prop := v = none ∧ Fr n0 L ∧ Keep h0 h [x0] ∧ Exa Z h x0 s_0 ∧ Fld Z h x0 s_0 "coder" "B" (.int i_0) ∧ ∃ b k, h0.size ≤ b ∧ Fld Z h x0 s_0 "value" "[B" (.ref b) ∧ Arv Z h b k .byte i_1 [.int (own_by w1)] (.int i_0)
theorem rm_sc11 (l : Launch) (Z : State) (a0 : Array Value) (hw : own_HW a0 Z) (ws : List Jvm.Cond) (x0 : Addr) (x1 : Addr) (cz : Int32) (fz : Value) (kc : ClassId) (w0 w1 w2 w3 w4 w5 : Int32) (h0 : Heap) (n0 : Nat) (Z0 : n0 ≤ h0.size) (p0_ : Exa Z h0 x0 s_0) (p1_ : n0 ≤ x0) (p2_ : Fld Z h0 x0 s_0 "value" "[B" .null) (p3_ : Fld Z h0 x0 s_0 "coder" "B" (.int i_0)) (p4_ : Arv Z h0 x1 kc .char i_256 [.int w0, .int w1, .int w2, .int w3, .int w4, .int w5] (.int i_0)) (p5_ : Sta Z h0 s_0 "COMPACT_STRINGS" "Z" (.int cz)) (p6_ : ¬ cz = i_0) (p7_ : Sta Z h0 s_1 "SIOOBE_FORMATTER" "Ljava/util/function/BiFunction;" fz) (p8_ : x0 ≠ x1) (p9_ : own_ok w1) (hfz : fz.isRef = true) :
  MetFree l Y22 (head1 (Jvm.Cond.code Y22 jdk_42_method_4_code 4 none :: ws) (rr 3 1 1 52)) (fun a U => a = #[.ref x0, .ref x1, .int i_1, .int i_1] ∧ Z.Warmed39 U.vm ∧ U.heap = h0) (fun _ _ _ _ _ => True) (fun _ U o U' => ∃ v L, o = .returned v ∧ Q_rm_sc11 Z x0 x1 cz fz kc w0 w1 w2 w3 w4 w5 h0 n0 v U'.heap L ∧ FrameEnd U o U' L (rr 3 1 1 52).cells (rr 3 1 1 52).slots) := by
 refine MetFree.of_bodySF (plainFor_of_name own_pn1) hisR ?_
 intro p e s m args below meth c s₁ Bd hml0 hP hK
 obtain ⟨rfl, hZ, hh⟩ := hP
 have hx := Bd.exec
 have hby := Bd.bytes
 have hml : c.maxLocals = 4 := hml0
 have hown : s.vm.findClass s_0 = some m.cls := findClass_of_methodNamed Bd.named
 have hnm := (name_of_methodNamed Bd.named Bd.method).1
 have X0 : Stand p l e (rr 3 1 1 52) s m #[.ref x0, .ref x1, .int i_1, .int i_1] below meth c s₁ [] 0 0 := Stand.of_body Bd
 have e0 : s₁.heap = h0 := by rw [← hh, Bd.state]; rfl
 show own_G _ _ _ _ (s₁.setTop (entryFrame m #[.ref x0, .ref x1, .int i_1, .int i_1] 4))
 refine goo (fun _ k => castTop (ef_20_RRII m x0 x1 i_1 i_1) k) ?_
 have N0 := Fr.nil n0
 have KP0 := Keep.refl h0 [x0]
 refine goo (fun _ k => XS.aloadN X0.here hx rfl (hb hby d20_0) rfl rfl <| XS.aloadN X0.here hx rfl (hb hby d20_1) rfl rfl <| XS.iloadN X0.here hx rfl (hb hby d20_2) rfl <| XS.iloadN X0.here hx rfl (hb hby d20_3) rfl k) ?_
 refine goo (fun _ k => XS.aloadN X0.here hx rfl (hb hby d20_4) rfl rfl k) ?_
 show own_G _ _ _ _ (s₁.setTop (mkF m 5 #[rv x0, rv x1, iv i_1, iv i_1] [.ref x1, .int i_1, .int i_1, .ref x1, .ref x0]))
 refine goo (fun _ k => XS.iloadN X0.here hx rfl (hb hby d20_5) rfl <| XS.iloadN X0.here hx rfl (hb hby d20_6) rfl k) ?_
 obtain ⟨T'0, X'0, e'0, st'0⟩ := own_callP X0 hx hZ (y := Y21) hown (qw hw 109 rfl) (qw hw 110 rfl) (qw hw 3 rfl) (qw hw 111 rfl) (by decide) (W := 4) (rm_rc11 l Z a0 hw [] x1 fz kc w0 w1 w2 w3 w4 w5 h0 p7_ hfz p4_) (by decide) (by decide) rfl rfl e0 (g := (mkF m 7 #[rv x0, rv x1, iv i_1, iv i_1] [.int i_1, .int i_1, .ref x1, .int i_1, .int i_1, .ref x1, .ref x0])) rfl (by rw [hml]; rfl) (argsL := [.ref x1, .int i_1, .int i_1]) (rest := [.int i_1, .int i_1, .ref x1, .ref x0]) (lenOf own_pd15 rfl) rfl rfl (Nat.le_of_eq rfl) (hb hby d20_7) (by decide) (by decide)
 refine goo st'0 ?_
 obtain ⟨_, _, ⟨T'1, L'1, k'1, n'1⟩, -, X'1, ⟨Lc'1, hQ'1, l'1, y'1, z'1⟩, st'1⟩ := X'0.specialBack hx (y := Y17) rfl hown (mvT hZ (qw hw 31 rfl)) (mvT hZ (qw hw 32 rfl)) (mvT hZ (qw hw 33 rfl)) (by decide) (backOf (W := 0) (rm_sv_256_1_1 l Z a0 hw [] x0 x1 cz kc w0 w1 w2 w3 w4 w5 h0 n0 Z0 p0_ p1_ p2_ p3_ p4_ p5_ p6_ p8_ p9_) hZ (qw hw 33 rfl) (qw hw 3 rfl) (by decide) (by decide)) (g := (mkF m 10 #[rv x0, rv x1, iv i_1, iv i_1] [.null, .int i_1, .int i_1, .ref x1, .ref x0])) rfl (by rw [hml]; rfl) (Steps.refl _) (a := x0) (argsL := [.ref x1, .int i_1, .int i_1, .null]) (rest := []) (lenOf own_pd12 rfl) rfl (Nat.le_of_eq rfl) (hb hby d20_10) (fun _ _ => ⟨rfl, e'0, (by decide : 0 + 1 ≤ _), (by decide : 0 + 1 ≤ _)⟩)
 dsimp only [Pt.U, Pt.locs, Pt.cells, Pt.slots] at X'1 l'1 y'1 z'1 st'1 hQ'1
 subst l'1 y'1 z'1
 obtain ⟨rfl, Nq'1, K'1, G_2, G_3, qx'1⟩ := hQ'1
 obtain ⟨vb'1, kv'1, gv'1, Fv'1, Vv'1⟩ := qx'1
 have sz_510 : h0.size ≤ vb'1 := Nat.le_trans KP0.1 gv'1
 have KP_4 : Keep h0 T'1.heap [x0] := KP0.trans K'1 (allS (Or.inl (List.mem_of_getElem? (i := 0) rfl)) all0)
 have N_1 := Fr.app N0 Nq'1
 refine goo (fun _ k => st'1.trans k) ?_
 show own_G _ _ _ _ (T'1.setTop (mkF m 13 #[rv x0, rv x1, iv i_1, iv i_1] []))
 exact own_end X'1 Bd.notSynchronized (v := none) (fun _ => rfl) (Q := Q_rm_sc11 Z x0 x1 cz fz kc w0 w1 w2 w3 w4 w5 h0 n0) (by show Q_rm_sc11 Z x0 x1 cz fz kc w0 w1 w2 w3 w4 w5 h0 n0 (none) T'1.heap _; exact ⟨rfl, N_1, KP_4, G_2, G_3, ⟨vb'1, kv'1, sz_510, Fv'1, Vv'1⟩⟩) (fun fs hr => X'1.returnOut hx Bd.returns (hb hby d20_13) hr) (by decide) (by decide)
def Q_rm_sc31 (Z : State) (x0 : Addr) (x1 : Addr) (cz : Int32) (fz : Value) (kc : ClassId) (w0 w1 w2 w3 w4 w5 : Int32) (h0 : Heap) (n0 : Nat) (v : Option Value) (h : Heap) (L : List Loc) : Prop := v = none ∧ Fr n0 L ∧ Keep h0 h [x0] ∧ Exa Z h x0 s_0 ∧ Fld Z h x0 s_0 "coder" "B" (.int i_0) ∧ ∃ b k, h0.size ≤ b ∧ Fld Z h x0 s_0 "value" "[B" (.ref b) ∧ Arv Z h b k .byte i_1 [.int (own_by w3)] (.int i_0)
theorem rm_sc31 (l : Launch) (Z : State) (a0 : Array Value) (hw : own_HW a0 Z) (ws : List Jvm.Cond) (x0 : Addr) (x1 : Addr) (cz : Int32) (fz : Value) (kc : ClassId) (w0 w1 w2 w3 w4 w5 : Int32) (h0 : Heap) (n0 : Nat) (Z0 : n0 ≤ h0.size) (p0_ : Exa Z h0 x0 s_0) (p1_ : n0 ≤ x0) (p2_ : Fld Z h0 x0 s_0 "value" "[B" .null) (p3_ : Fld Z h0 x0 s_0 "coder" "B" (.int i_0)) (p4_ : Arv Z h0 x1 kc .char i_256 [.int w0, .int w1, .int w2, .int w3, .int w4, .int w5] (.int i_0)) (p5_ : Sta Z h0 s_0 "COMPACT_STRINGS" "Z" (.int cz)) (p6_ : ¬ cz = i_0) (p7_ : Sta Z h0 s_1 "SIOOBE_FORMATTER" "Ljava/util/function/BiFunction;" fz) (p8_ : x0 ≠ x1) (p9_ : own_ok w3) (hfz : fz.isRef = true) :
  MetFree l Y22 (head1 (Jvm.Cond.code Y22 jdk_42_method_4_code 4 none :: ws) (rr 3 1 1 52)) (fun a U => a = #[.ref x0, .ref x1, .int i_3, .int i_1] ∧ Z.Warmed39 U.vm ∧ U.heap = h0) (fun _ _ _ _ _ => True) (fun _ U o U' => ∃ v L, o = .returned v ∧ Q_rm_sc31 Z x0 x1 cz fz kc w0 w1 w2 w3 w4 w5 h0 n0 v U'.heap L ∧ FrameEnd U o U' L (rr 3 1 1 52).cells (rr 3 1 1 52).slots) := by
 refine MetFree.of_bodySF (plainFor_of_name own_pn1) hisR ?_
 intro p e s m args below meth c s₁ Bd hml0 hP hK
 obtain ⟨rfl, hZ, hh⟩ := hP
 have hx := Bd.exec
 have hby := Bd.bytes
 have hml : c.maxLocals = 4 := hml0
 have hown : s.vm.findClass s_0 = some m.cls := findClass_of_methodNamed Bd.named
 have hnm := (name_of_methodNamed Bd.named Bd.method).1
 have X0 : Stand p l e (rr 3 1 1 52) s m #[.ref x0, .ref x1, .int i_3, .int i_1] below meth c s₁ [] 0 0 := Stand.of_body Bd
 have e0 : s₁.heap = h0 := by rw [← hh, Bd.state]; rfl
 show own_G _ _ _ _ (s₁.setTop (entryFrame m #[.ref x0, .ref x1, .int i_3, .int i_1] 4))
 refine goo (fun _ k => castTop (ef_20_RRII m x0 x1 i_3 i_1) k) ?_
 have N0 := Fr.nil n0
 have KP0 := Keep.refl h0 [x0]
 refine goo (fun _ k => XS.aloadN X0.here hx rfl (hb hby d20_0) rfl rfl <| XS.aloadN X0.here hx rfl (hb hby d20_1) rfl rfl <| XS.iloadN X0.here hx rfl (hb hby d20_2) rfl <| XS.iloadN X0.here hx rfl (hb hby d20_3) rfl k) ?_
 refine goo (fun _ k => XS.aloadN X0.here hx rfl (hb hby d20_4) rfl rfl k) ?_
 show own_G _ _ _ _ (s₁.setTop (mkF m 5 #[rv x0, rv x1, iv i_3, iv i_1] [.ref x1, .int i_1, .int i_3, .ref x1, .ref x0]))
 refine goo (fun _ k => XS.iloadN X0.here hx rfl (hb hby d20_5) rfl <| XS.iloadN X0.here hx rfl (hb hby d20_6) rfl k) ?_
 obtain ⟨T'0, X'0, e'0, st'0⟩ := own_callP X0 hx hZ (y := Y21) hown (qw hw 109 rfl) (qw hw 110 rfl) (qw hw 3 rfl) (qw hw 111 rfl) (by decide) (W := 4) (rm_rc31 l Z a0 hw [] x1 fz kc w0 w1 w2 w3 w4 w5 h0 p7_ hfz p4_) (by decide) (by decide) rfl rfl e0 (g := (mkF m 7 #[rv x0, rv x1, iv i_3, iv i_1] [.int i_1, .int i_3, .ref x1, .int i_1, .int i_3, .ref x1, .ref x0])) rfl (by rw [hml]; rfl) (argsL := [.ref x1, .int i_3, .int i_1]) (rest := [.int i_1, .int i_3, .ref x1, .ref x0]) (lenOf own_pd15 rfl) rfl rfl (Nat.le_of_eq rfl) (hb hby d20_7) (by decide) (by decide)
 refine goo st'0 ?_
 obtain ⟨_, _, ⟨T'1, L'1, k'1, n'1⟩, -, X'1, ⟨Lc'1, hQ'1, l'1, y'1, z'1⟩, st'1⟩ := X'0.specialBack hx (y := Y17) rfl hown (mvT hZ (qw hw 31 rfl)) (mvT hZ (qw hw 32 rfl)) (mvT hZ (qw hw 33 rfl)) (by decide) (backOf (W := 0) (rm_sv_256_3_1 l Z a0 hw [] x0 x1 cz kc w0 w1 w2 w3 w4 w5 h0 n0 Z0 p0_ p1_ p2_ p3_ p4_ p5_ p6_ p8_ p9_) hZ (qw hw 33 rfl) (qw hw 3 rfl) (by decide) (by decide)) (g := (mkF m 10 #[rv x0, rv x1, iv i_3, iv i_1] [.null, .int i_1, .int i_3, .ref x1, .ref x0])) rfl (by rw [hml]; rfl) (Steps.refl _) (a := x0) (argsL := [.ref x1, .int i_3, .int i_1, .null]) (rest := []) (lenOf own_pd12 rfl) rfl (Nat.le_of_eq rfl) (hb hby d20_10) (fun _ _ => ⟨rfl, e'0, (by decide : 0 + 1 ≤ _), (by decide : 0 + 1 ≤ _)⟩)
 dsimp only [Pt.U, Pt.locs, Pt.cells, Pt.slots] at X'1 l'1 y'1 z'1 st'1 hQ'1
 subst l'1 y'1 z'1
 obtain ⟨rfl, Nq'1, K'1, G_2, G_3, qx'1⟩ := hQ'1
 obtain ⟨vb'1, kv'1, gv'1, Fv'1, Vv'1⟩ := qx'1
 have sz_524 : h0.size ≤ vb'1 := Nat.le_trans KP0.1 gv'1
 have KP_4 : Keep h0 T'1.heap [x0] := KP0.trans K'1 (allS (Or.inl (List.mem_of_getElem? (i := 0) rfl)) all0)
 have N_1 := Fr.app N0 Nq'1
 refine goo (fun _ k => st'1.trans k) ?_
 show own_G _ _ _ _ (T'1.setTop (mkF m 13 #[rv x0, rv x1, iv i_3, iv i_1] []))
 exact own_end X'1 Bd.notSynchronized (v := none) (fun _ => rfl) (Q := Q_rm_sc31 Z x0 x1 cz fz kc w0 w1 w2 w3 w4 w5 h0 n0) (by show Q_rm_sc31 Z x0 x1 cz fz kc w0 w1 w2 w3 w4 w5 h0 n0 (none) T'1.heap _; exact ⟨rfl, N_1, KP_4, G_2, G_3, ⟨vb'1, kv'1, sz_524, Fv'1, Vv'1⟩⟩) (fun fs hr => X'1.returnOut hx Bd.returns (hb hby d20_13) hr) (by decide) (by decide)
def Q_rm_sc12 (Z : State) (x0 : Addr) (x1 : Addr) (cz : Int32) (fz : Value) (kc : ClassId) (w0 w1 w2 w3 w4 w5 : Int32) (h0 : Heap) (n0 : Nat) (v : Option Value) (h : Heap) (L : List Loc) : Prop := v = none ∧ Fr n0 L ∧ Keep h0 h [x0] ∧ Exa Z h x0 s_0 ∧ Fld Z h x0 s_0 "coder" "B" (.int i_0) ∧ ∃ b k, h0.size ≤ b ∧ Fld Z h x0 s_0 "value" "[B" (.ref b) ∧ Arv Z h b k .byte i_2 [.int (own_by w1), .int (own_by w2)] (.int i_0)
theorem rm_sc12 (l : Launch) (Z : State) (a0 : Array Value) (hw : own_HW a0 Z) (ws : List Jvm.Cond) (x0 : Addr) (x1 : Addr) (cz : Int32) (fz : Value) (kc : ClassId) (w0 w1 w2 w3 w4 w5 : Int32) (h0 : Heap) (n0 : Nat) (Z0 : n0 ≤ h0.size) (p0_ : Exa Z h0 x0 s_0) (p1_ : n0 ≤ x0) (p2_ : Fld Z h0 x0 s_0 "value" "[B" .null) (p3_ : Fld Z h0 x0 s_0 "coder" "B" (.int i_0)) (p4_ : Arv Z h0 x1 kc .char i_256 [.int w0, .int w1, .int w2, .int w3, .int w4, .int w5] (.int i_0)) (p5_ : Sta Z h0 s_0 "COMPACT_STRINGS" "Z" (.int cz)) (p6_ : ¬ cz = i_0) (p7_ : Sta Z h0 s_1 "SIOOBE_FORMATTER" "Ljava/util/function/BiFunction;" fz) (p8_ : x0 ≠ x1) (p9_ : own_ok w1) (p10_ : own_ok w2) (hfz : fz.isRef = true) :
  MetFree l Y22 (head1 (Jvm.Cond.code Y22 jdk_42_method_4_code 4 none :: ws) (rr 3 1 2 52)) (fun a U => a = #[.ref x0, .ref x1, .int i_1, .int i_2] ∧ Z.Warmed39 U.vm ∧ U.heap = h0) (fun _ _ _ _ _ => True) (fun _ U o U' => ∃ v L, o = .returned v ∧ Q_rm_sc12 Z x0 x1 cz fz kc w0 w1 w2 w3 w4 w5 h0 n0 v U'.heap L ∧ FrameEnd U o U' L (rr 3 1 2 52).cells (rr 3 1 2 52).slots) := by
 refine MetFree.of_bodySF (plainFor_of_name own_pn1) hisR ?_
 intro p e s m args below meth c s₁ Bd hml0 hP hK
 obtain ⟨rfl, hZ, hh⟩ := hP
 have hx := Bd.exec
 have hby := Bd.bytes
 have hml : c.maxLocals = 4 := hml0
 have hown : s.vm.findClass s_0 = some m.cls := findClass_of_methodNamed Bd.named
 have hnm := (name_of_methodNamed Bd.named Bd.method).1
 have X0 : Stand p l e (rr 3 1 2 52) s m #[.ref x0, .ref x1, .int i_1, .int i_2] below meth c s₁ [] 0 0 := Stand.of_body Bd
 have e0 : s₁.heap = h0 := by rw [← hh, Bd.state]; rfl
 show own_G _ _ _ _ (s₁.setTop (entryFrame m #[.ref x0, .ref x1, .int i_1, .int i_2] 4))
 refine goo (fun _ k => castTop (ef_20_RRII m x0 x1 i_1 i_2) k) ?_
 have N0 := Fr.nil n0
 have KP0 := Keep.refl h0 [x0]
 refine goo (fun _ k => XS.aloadN X0.here hx rfl (hb hby d20_0) rfl rfl <| XS.aloadN X0.here hx rfl (hb hby d20_1) rfl rfl <| XS.iloadN X0.here hx rfl (hb hby d20_2) rfl <| XS.iloadN X0.here hx rfl (hb hby d20_3) rfl k) ?_
 refine goo (fun _ k => XS.aloadN X0.here hx rfl (hb hby d20_4) rfl rfl k) ?_
 show own_G _ _ _ _ (s₁.setTop (mkF m 5 #[rv x0, rv x1, iv i_1, iv i_2] [.ref x1, .int i_2, .int i_1, .ref x1, .ref x0]))
 refine goo (fun _ k => XS.iloadN X0.here hx rfl (hb hby d20_5) rfl <| XS.iloadN X0.here hx rfl (hb hby d20_6) rfl k) ?_
 obtain ⟨T'0, X'0, e'0, st'0⟩ := own_callP X0 hx hZ (y := Y21) hown (qw hw 109 rfl) (qw hw 110 rfl) (qw hw 3 rfl) (qw hw 111 rfl) (by decide) (W := 4) (rm_rc12 l Z a0 hw [] x1 fz kc w0 w1 w2 w3 w4 w5 h0 p7_ hfz p4_) (by decide) (by decide) rfl rfl e0 (g := (mkF m 7 #[rv x0, rv x1, iv i_1, iv i_2] [.int i_2, .int i_1, .ref x1, .int i_2, .int i_1, .ref x1, .ref x0])) rfl (by rw [hml]; rfl) (argsL := [.ref x1, .int i_1, .int i_2]) (rest := [.int i_2, .int i_1, .ref x1, .ref x0]) (lenOf own_pd15 rfl) rfl rfl (Nat.le_of_eq rfl) (hb hby d20_7) (by decide) (by decide)
 refine goo st'0 ?_
 obtain ⟨_, _, ⟨T'1, L'1, k'1, n'1⟩, -, X'1, ⟨Lc'1, hQ'1, l'1, y'1, z'1⟩, st'1⟩ := X'0.specialBack hx (y := Y17) rfl hown (mvT hZ (qw hw 31 rfl)) (mvT hZ (qw hw 32 rfl)) (mvT hZ (qw hw 33 rfl)) (by decide) (backOf (W := 0) (rm_sv_256_1_2 l Z a0 hw [] x0 x1 cz kc w0 w1 w2 w3 w4 w5 h0 n0 Z0 p0_ p1_ p2_ p3_ p4_ p5_ p6_ p8_ p9_ p10_) hZ (qw hw 33 rfl) (qw hw 3 rfl) (by decide) (by decide)) (g := (mkF m 10 #[rv x0, rv x1, iv i_1, iv i_2] [.null, .int i_2, .int i_1, .ref x1, .ref x0])) rfl (by rw [hml]; rfl) (Steps.refl _) (a := x0) (argsL := [.ref x1, .int i_1, .int i_2, .null]) (rest := []) (lenOf own_pd12 rfl) rfl (Nat.le_of_eq rfl) (hb hby d20_10) (fun _ _ => ⟨rfl, e'0, (by decide : 0 + 1 ≤ _), (by decide : 0 + 2 ≤ _)⟩)
 dsimp only [Pt.U, Pt.locs, Pt.cells, Pt.slots] at X'1 l'1 y'1 z'1 st'1 hQ'1
 subst l'1 y'1 z'1
 obtain ⟨rfl, Nq'1, K'1, G_2, G_3, qx'1⟩ := hQ'1
 obtain ⟨vb'1, kv'1, gv'1, Fv'1, Vv'1⟩ := qx'1
 have sz_538 : h0.size ≤ vb'1 := Nat.le_trans KP0.1 gv'1
 have KP_4 : Keep h0 T'1.heap [x0] := KP0.trans K'1 (allS (Or.inl (List.mem_of_getElem? (i := 0) rfl)) all0)
 have N_1 := Fr.app N0 Nq'1
 refine goo (fun _ k => st'1.trans k) ?_
 show own_G _ _ _ _ (T'1.setTop (mkF m 13 #[rv x0, rv x1, iv i_1, iv i_2] []))
 exact own_end X'1 Bd.notSynchronized (v := none) (fun _ => rfl) (Q := Q_rm_sc12 Z x0 x1 cz fz kc w0 w1 w2 w3 w4 w5 h0 n0) (by show Q_rm_sc12 Z x0 x1 cz fz kc w0 w1 w2 w3 w4 w5 h0 n0 (none) T'1.heap _; exact ⟨rfl, N_1, KP_4, G_2, G_3, ⟨vb'1, kv'1, sz_538, Fv'1, Vv'1⟩⟩) (fun fs hr => X'1.returnOut hx Bd.returns (hb hby d20_13) hr) (by decide) (by decide)
theorem d12_0 : decode jdk_40_method_36_code 0 = .ok (.getstatic 90, 3) := by decide +kernel
theorem d12_3 : decode jdk_40_method_36_code 3 = .ok (.areturn, 1) := by decide +kernel
theorem own_pn4 : plainName "java/util/List" = true := by first | (simp [plainName, overriddenIn]; done) | decide +kernel
theorem ef_12_ (m : MethodId)  : entryFrame m #[] 0 = mkF m 0 #[] [] := by
  first | (simp [entryFrame, mkF, argsToLocals, Value.category]; done) | rfl
theorem rm12 (l : Launch) (Z : State) (a0 : Array Value) (hw : own_HW a0 Z) (ws : List Jvm.Cond)   (el : Addr) (h0 : Heap) (Sl : Sta Z h0 "java/util/ImmutableCollections" "EMPTY_LIST" "Ljava/util/ImmutableCollections$ListN;" (.ref el)) :
  MetFree l Y23 (head1 (Jvm.Cond.code Y23 jdk_40_method_36_code 0 (some (.object "java/util/List")) :: ws) (rr 0 0 0 0)) (fun a U => a = #[] ∧ Z.Warmed39 U.vm ∧ U.heap = h0) (fun _ _ _ _ _ => True) (fun _ U o U' => ∃ v L, o = .returned v ∧ QP (some (.ref el)) h0 v U'.heap L ∧ FrameEnd U o U' L (rr 0 0 0 0).cells (rr 0 0 0 0).slots) := by
 refine MetFree.of_bodySF (plainFor_of_name own_pn4) hisR ?_
 intro p e s m args below meth c s₁ Bd hml0 hP hK
 obtain ⟨rfl, hZ, hh⟩ := hP
 have hx := Bd.exec
 have hby := Bd.bytes
 have hml : c.maxLocals = 0 := hml0
 have hown : s.vm.findClass "java/util/List" = some m.cls := findClass_of_methodNamed Bd.named
 have hnm := (name_of_methodNamed Bd.named Bd.method).1
 have X0 : Stand p l e (rr 0 0 0 0) s m #[] below meth c s₁ [] 0 0 := Stand.of_body Bd
 have e0 : s₁.heap = h0 := by rw [← hh, Bd.state]; rfl
 show own_G _ _ _ _ (s₁.setTop (entryFrame m #[] 0))
 refine goo (fun _ k => castTop (ef_12_ m ) k) ?_
 obtain ⟨T'0, X'0, e'0, st'0⟩ := getS2 X0 hx hZ hown (host := "") (Or.inl (qw hw 60 rfl)) Via.refl e0 Sl (g := (mkF m 0 #[] [])) rfl (hb hby d12_0)
 refine goo st'0 ?_
 show own_G _ _ _ _ (T'0.setTop (mkF m 3 #[] [.ref el]))
 exact own_end X'0 Bd.notSynchronized (v := some (.ref el)) (fun h => by rw [Bd.returns] at h; cases h) (Q := QP (some (.ref el)) h0) ⟨rfl, rfl, e'0⟩ (fun fs hr => own_retA X'0 hx Bd.returns rfl rfl (hb hby d12_3) hr) (by decide) (by decide)
theorem own_cut {Z : State} {h : Heap} {a : Addr} {k : ClassId} {ty : FieldType} {z : Int32} (V : Arv Z h a k ty z [(.int (0 : Int32)), (.int (0 : Int32)), (.int (0 : Int32)), (.int (0 : Int32)), (.int (0 : Int32)), (.int (0 : Int32))] (.int (0 : Int32))) : Arv Z h a k ty z [(.int (0 : Int32)), (.int (0 : Int32)), (.int (0 : Int32)), (.int (0 : Int32))] (.int (0 : Int32)) := V.pad fun i => by
  match i with
  | 0 => rfl
  | 1 => rfl
  | 2 => rfl
  | 3 => rfl
  | 4 => rfl
  | 5 => rfl
  | i + 6 => rfl
def Q_rm11 (Z : State) (x0 : Addr) (el : Addr) (h0 : Heap) (n0 : Nat) (v : Option Value) (h : Heap) (L : List Loc) : Prop := v = none ∧ Fr n0 L ∧ Keep h0 h [x0] ∧ Exa Z h x0 s_3 ∧ Fld Z h x0 s_3 "length" "I" (.int i_0) ∧ Fld Z h x0 s_3 "size" "I" (.int i_0) ∧ ∃ ca ea kc ke, h0.size ≤ ca ∧ h0.size ≤ ea ∧ ca ≠ ea ∧ Fld Z h x0 s_3 "chars" "[C" (.ref ca) ∧ Fld Z h x0 s_3 "ends" "[I" (.ref ea) ∧ Arv Z h ca kc .char i_256 [.int i_0, .int i_0, .int i_0, .int i_0, .int i_0, .int i_0] (.int i_0) ∧ Arv Z h ea ke .int i_32 [.int i_0, .int i_0, .int i_0, .int i_0] (.int i_0)
theorem own_pd16 : parseMethodDescriptor "()Ljava/util/List;" = some ⟨[], some (.object "java/util/List")⟩ := by decide +kernel
theorem d11_0 : decode prog_116_method_1_code 0 = .ok (.aload_n 0, 1) := by decide +kernel
theorem d11_1 : decode prog_116_method_1_code 1 = .ok (.invokespecial 1, 3) := by decide +kernel
theorem d11_4 : decode prog_116_method_1_code 4 = .ok (.aload_n 0, 1) := by decide +kernel
theorem d11_5 : decode prog_116_method_1_code 5 = .ok (.sipush 256, 3) := by decide +kernel
theorem d11_8 : decode prog_116_method_1_code 8 = .ok (.newarray .char, 2) := by decide +kernel
theorem d11_10 : decode prog_116_method_1_code 10 = .ok (.putfield 7, 3) := by decide +kernel
theorem d11_13 : decode prog_116_method_1_code 13 = .ok (.aload_n 0, 1) := by decide +kernel
theorem d11_14 : decode prog_116_method_1_code 14 = .ok (.bipush 32, 2) := by decide +kernel
theorem d11_16 : decode prog_116_method_1_code 16 = .ok (.newarray .int, 2) := by decide +kernel
theorem d11_18 : decode prog_116_method_1_code 18 = .ok (.putfield 13, 3) := by decide +kernel
theorem d11_21 : decode prog_116_method_1_code 21 = .ok (.aload_n 0, 1) := by decide +kernel
theorem d11_22 : decode prog_116_method_1_code 22 = .ok (.invokestatic 17, 3) := by decide +kernel
theorem d11_25 : decode prog_116_method_1_code 25 = .ok (.putfield 23, 3) := by decide +kernel
theorem d11_28 : decode prog_116_method_1_code 28 = .ok (.aload_n 0, 1) := by decide +kernel
theorem d11_29 : decode prog_116_method_1_code 29 = .ok (.sipush 256, 3) := by decide +kernel
theorem d11_32 : decode prog_116_method_1_code 32 = .ok (.newarray .char, 2) := by decide +kernel
theorem d11_34 : decode prog_116_method_1_code 34 = .ok (.putfield 27, 3) := by decide +kernel
theorem d11_37 : decode prog_116_method_1_code 37 = .ok (.return_, 1) := by decide +kernel
theorem own_pn5 : plainName "com/example/davka/davka/csv/Row" = true := by first | (simp [plainName, overriddenIn]; done) | decide +kernel
theorem ef_11_R (m : MethodId) (x0 : Addr) : entryFrame m #[(.ref x0)] 1 = mkF m 0 #[.val (.ref x0)] [] := by
  first | (simp [entryFrame, mkF, argsToLocals, Value.category]; done) | rfl
theorem rm11 (l : Launch) (Z : State) (a0 : Array Value) (hw : own_HW a0 Z) (ws : List Jvm.Cond) (x0 : Addr) (el : Addr) (h0 : Heap) (n0 : Nat) (Z0 : n0 ≤ h0.size) (p0_ : Exa Z h0 x0 s_3) (p1_ : n0 ≤ x0) (p2_ : Fld Z h0 x0 s_3 "chars" "[C" .null) (p3_ : Fld Z h0 x0 s_3 "ends" "[I" .null) (p4_ : Fld Z h0 x0 s_3 "length" "I" (.int i_0)) (p5_ : Fld Z h0 x0 s_3 "size" "I" (.int i_0)) (p6_ : Fld Z h0 x0 s_3 "columns" "Ljava/util/List;" .null) (p7_ : Fld Z h0 x0 s_3 "record" "[C" .null) (p8_ : Sta Z h0 "java/util/ImmutableCollections" "EMPTY_LIST" "Ljava/util/ImmutableCollections$ListN;" (.ref el))  :
  MetFree l Y24 (head1 (Jvm.Cond.code Y24 prog_116_method_1_code 1 none :: ws) (rr 1 3 544 12)) (fun a U => a = #[.ref x0] ∧ Z.Warmed39 U.vm ∧ U.heap = h0) (fun _ _ _ _ _ => True) (fun _ U o U' => ∃ v L, o = .returned v ∧ Q_rm11 Z x0 el h0 n0 v U'.heap L ∧ FrameEnd U o U' L (rr 1 3 544 12).cells (rr 1 3 544 12).slots) := by
 refine MetFree.of_bodySF (plainFor_of_name own_pn5) hisR ?_
 intro p e s m args below meth c s₁ Bd hml0 hP hK
 obtain ⟨rfl, hZ, hh⟩ := hP
 have hx := Bd.exec
 have hby := Bd.bytes
 have hml : c.maxLocals = 1 := hml0
 have hown : s.vm.findClass s_3 = some m.cls := findClass_of_methodNamed Bd.named
 have hnm := (name_of_methodNamed Bd.named Bd.method).1
 have X0 : Stand p l e (rr 1 3 544 12) s m #[.ref x0] below meth c s₁ [] 0 0 := Stand.of_body Bd
 have e0 : s₁.heap = h0 := by rw [← hh, Bd.state]; rfl
 show own_G _ _ _ _ (s₁.setTop (entryFrame m #[.ref x0] 1))
 refine goo (fun _ k => castTop (ef_11_R m x0) k) ?_
 have N0 := Fr.nil n0
 have KP0 := Keep.refl h0 [x0]
 refine goo (fun _ k => XS.aloadN X0.here hx rfl (hb hby d11_0) rfl rfl k) ?_
 obtain ⟨T'0, X'0, e'0, st'0⟩ := initO X0 hx hZ hown (qw hw 50 rfl) (qw hw 21 rfl) (qw hw 22 rfl) e0 (g := (mkF m 1 #[rv x0] [.ref x0])) rfl (by rw [hml]; rfl) rfl (hb hby d11_1) (by decide) (W := 0) (Nat.le_of_eq rfl) (by decide)
 refine goo st'0 ?_
 refine goo (fun _ k => XS.aloadN X'0.here hx rfl (hb hby d11_4) rfl rfl <| XS.sipush X'0.here hx rfl (hb hby d11_5) k) ?_
 obtain ⟨T'1, h'1, k'1, X'1, e'1, E'1, A'1, st'1⟩ := newP X'0 hx hZ (qw hw 0 rfl) e'0 (g := (mkF m 8 #[rv x0] [.int i_256, .ref x0])) rfl (hb hby d11_8) rfl (by decide) (cap := 256) (by decide) (by decide) (by decide) (by decide)
 obtain ⟨b'1, g'1⟩ : ∃ z, z = h0.size := ⟨_, rfl⟩
 rw [← g'1] at A'1 st'1
 have ne_2 : x0 ≠ b'1 := Nat.ne_of_lt (Nat.lt_of_lt_of_le p0_.lt (Nat.le_of_eq g'1.symm))
 have sz_550 : h0.size ≤ b'1 := Nat.le_trans KP0.1 (Nat.le_of_eq g'1.symm)
 have X_3 := p0_.ext E'1
 have F_4 := p2_.ext E'1
 have F_5 := p3_.ext E'1
 have F_6 := p4_.ext E'1
 have F_7 := p5_.ext E'1
 have F_8 := p6_.ext E'1
 have F_9 := p7_.ext E'1
 have S_a := p8_.ext E'1
 have KP_b : Keep h0 h'1 [x0] := KP0.ext E'1
 have V547 : Arv Z h'1 b'1 k'1 .char i_256 [.int i_0, .int i_0, .int i_0, .int i_0, .int i_0, .int i_0] (.int i_0) := (Arv.new A'1 (by decide)).pad (pad_rep [] (.int i_0) 6)
 refine goo st'1 ?_
 show own_G _ _ _ _ (T'1.setTop (mkF m 10 #[rv x0] [.ref b'1, .ref x0]))
 obtain ⟨T'c, h'c, X'c, e'c, W'c, st'c⟩ := putF X'1 hx hZ hown (host := "") (Or.inl (qw hw 51 rfl)) Via.refl e'1 F_4 X_3 (Or.inl (qw hw 52 rfl)) (qw hw 45 rfl) (ty := (.array .char)) (by decide) rfl rfl (g := (mkF m 10 #[rv x0] [.ref b'1, .ref x0])) rfl rfl (hb hby d11_10)
 have X_d := X_3.wr W'c
 have F_e := F_5.other W'c (Or.inr (slot_ne (Or.inl (qw hw 55 rfl)) (Or.inl (qw hw 52 rfl)) (by decide) (t := (.array .int)) (t' := (.array .char)) (by decide) (by decide)))
 have F_f := F_6.other W'c (Or.inr (slot_ne (Or.inl (qw hw 74 rfl)) (Or.inl (qw hw 52 rfl)) (by decide) (t := .int) (t' := (.array .char)) (by decide) (by decide)))
 have F_g := F_7.other W'c (Or.inr (slot_ne (Or.inl (qw hw 72 rfl)) (Or.inl (qw hw 52 rfl)) (by decide) (t := .int) (t' := (.array .char)) (by decide) (by decide)))
 have F_h := F_8.other W'c (Or.inr (slot_ne (Or.inl (qw hw 63 rfl)) (Or.inl (qw hw 52 rfl)) (by decide) (t := (.object "java/util/List")) (t' := (.array .char)) (by decide) (by decide)))
 have F_i := F_9.other W'c (Or.inr (slot_ne (Or.inl (qw hw 65 rfl)) (Or.inl (qw hw 52 rfl)) (by decide) (t := (.array .char)) (t' := (.array .char)) (by decide) (by decide)))
 have S_j := S_a.wr W'c
 have V_k := V547.other W'c (Ne.symm ne_2)
 have F_l := F_4.same W'c
 have KP_m : Keep h0 h'c [x0] := KP_b.wr W'c (Or.inl (List.mem_of_getElem? (i := 0) rfl))
 have N_c := Fr.snoc X'c N0 p1_
 refine goo st'c ?_
 refine goo (fun _ k => XS.aloadN X'c.here hx rfl (hb hby d11_13) rfl rfl <| XS.bipush X'c.here hx rfl (hb hby d11_14) k) ?_
 obtain ⟨T'n, h'n, k'n, X'n, e'n, E'n, A'n, st'n⟩ := newP X'c hx hZ (qw hw 53 rfl) e'c (g := (mkF m 16 #[rv x0] [.int i_32, .ref x0])) rfl (hb hby d11_16) rfl (by decide) (cap := 32) (by decide) (by decide) (by decide) (by decide)
 obtain ⟨b'n, g'n⟩ : ∃ z, z = h'c.size := ⟨_, rfl⟩
 rw [← g'n] at A'n st'n
 have ne_o : x0 ≠ b'n := Nat.ne_of_lt (Nat.lt_of_lt_of_le X_d.lt (Nat.le_of_eq g'n.symm))
 have ne_p : b'1 ≠ b'n := Nat.ne_of_lt (Nat.lt_of_lt_of_le V_k.lt (Nat.le_of_eq g'n.symm))
 have sz_577 : h0.size ≤ b'n := Nat.le_trans KP_m.1 (Nat.le_of_eq g'n.symm)
 have X_q := X_d.ext E'n
 have F_r := F_l.ext E'n
 have F_s := F_e.ext E'n
 have F_t := F_f.ext E'n
 have F_u := F_g.ext E'n
 have F_v := F_h.ext E'n
 have F_w := F_i.ext E'n
 have S_x := S_j.ext E'n
 have V_y := V_k.ext E'n
 have KP_z : Keep h0 h'n [x0] := KP_m.ext E'n
 have V573 : Arv Z h'n b'n k'n .int i_32 [.int i_0, .int i_0, .int i_0, .int i_0, .int i_0, .int i_0] (.int i_0) := (Arv.new A'n (by decide)).pad (pad_rep [] (.int i_0) 6)
 refine goo st'n ?_
 obtain ⟨T'10, h'10, X'10, e'10, W'10, st'10⟩ := putF X'n hx hZ hown (host := "") (Or.inl (qw hw 54 rfl)) Via.refl e'n F_s X_q (Or.inl (qw hw 55 rfl)) (qw hw 45 rfl) (ty := (.array .int)) (by decide) rfl rfl (g := (mkF m 18 #[rv x0] [.ref b'n, .ref x0])) rfl rfl (hb hby d11_18)
 have X_11 := X_q.wr W'10
 have F_12 := F_r.other W'10 (Or.inr (slot_ne (Or.inl (qw hw 52 rfl)) (Or.inl (qw hw 55 rfl)) (by decide) (t := (.array .char)) (t' := (.array .int)) (by decide) (by decide)))
 have F_13 := F_t.other W'10 (Or.inr (slot_ne (Or.inl (qw hw 74 rfl)) (Or.inl (qw hw 55 rfl)) (by decide) (t := .int) (t' := (.array .int)) (by decide) (by decide)))
 have F_14 := F_u.other W'10 (Or.inr (slot_ne (Or.inl (qw hw 72 rfl)) (Or.inl (qw hw 55 rfl)) (by decide) (t := .int) (t' := (.array .int)) (by decide) (by decide)))
 have F_15 := F_v.other W'10 (Or.inr (slot_ne (Or.inl (qw hw 63 rfl)) (Or.inl (qw hw 55 rfl)) (by decide) (t := (.object "java/util/List")) (t' := (.array .int)) (by decide) (by decide)))
 have F_16 := F_w.other W'10 (Or.inr (slot_ne (Or.inl (qw hw 65 rfl)) (Or.inl (qw hw 55 rfl)) (by decide) (t := (.array .char)) (t' := (.array .int)) (by decide) (by decide)))
 have S_17 := S_x.wr W'10
 have V_18 := V_y.other W'10 (Ne.symm ne_2)
 have V_19 := V573.other W'10 (Ne.symm ne_o)
 have F_1a := F_s.same W'10
 have KP_1b : Keep h0 h'10 [x0] := KP_z.wr W'10 (Or.inl (List.mem_of_getElem? (i := 0) rfl))
 have N_10 := Fr.snoc X'10 N_c p1_
 refine goo st'10 ?_
 refine goo (fun _ k => XS.aloadN X'10.here hx rfl (hb hby d11_21) rfl rfl k) ?_
 show own_G _ _ _ _ (T'10.setTop (mkF m 22 #[rv x0] [.ref x0]))
 obtain ⟨T'1c, X'1c, e'1c, st'1c⟩ := own_callP X'10 hx hZ (y := Y23) hown (qw hw 56 rfl) (qw hw 57 rfl) (qw hw 58 rfl) (qw hw 59 rfl) (by decide) (W := 1) (rm12 l Z a0 hw []  el h'10 S_17) (by decide) (by decide) rfl rfl e'10 (g := (mkF m 22 #[rv x0] [.ref x0])) rfl (by rw [hml]; rfl) (argsL := []) (rest := [.ref x0]) (lenOf own_pd16 rfl) rfl rfl (Nat.le_of_eq rfl) (hb hby d11_22) (by decide) (by decide)
 refine goo st'1c ?_
 obtain ⟨T'1d, h'1d, X'1d, e'1d, W'1d, st'1d⟩ := putF X'1c hx hZ hown (host := "") (Or.inl (qw hw 62 rfl)) Via.refl e'1c F_15 X_11 (Or.inl (qw hw 63 rfl)) (qw hw 45 rfl) (ty := (.object "java/util/List")) (by decide) rfl rfl (g := (mkF m 25 #[rv x0] [.ref el, .ref x0])) rfl rfl (hb hby d11_25)
 have X_1e := X_11.wr W'1d
 have F_1f := F_12.other W'1d (Or.inr (slot_ne (Or.inl (qw hw 52 rfl)) (Or.inl (qw hw 63 rfl)) (by decide) (t := (.array .char)) (t' := (.object "java/util/List")) (by decide) (by decide)))
 have F_1g := F_1a.other W'1d (Or.inr (slot_ne (Or.inl (qw hw 55 rfl)) (Or.inl (qw hw 63 rfl)) (by decide) (t := (.array .int)) (t' := (.object "java/util/List")) (by decide) (by decide)))
 have F_1h := F_13.other W'1d (Or.inr (slot_ne (Or.inl (qw hw 74 rfl)) (Or.inl (qw hw 63 rfl)) (by decide) (t := .int) (t' := (.object "java/util/List")) (by decide) (by decide)))
 have F_1i := F_14.other W'1d (Or.inr (slot_ne (Or.inl (qw hw 72 rfl)) (Or.inl (qw hw 63 rfl)) (by decide) (t := .int) (t' := (.object "java/util/List")) (by decide) (by decide)))
 have F_1j := F_16.other W'1d (Or.inr (slot_ne (Or.inl (qw hw 65 rfl)) (Or.inl (qw hw 63 rfl)) (by decide) (t := (.array .char)) (t' := (.object "java/util/List")) (by decide) (by decide)))
 have V_1k := V_18.other W'1d (Ne.symm ne_2)
 have V_1l := V_19.other W'1d (Ne.symm ne_o)
 have KP_1m : Keep h0 h'1d [x0] := KP_1b.wr W'1d (Or.inl (List.mem_of_getElem? (i := 0) rfl))
 have N_1d := Fr.snoc X'1d N_10 p1_
 refine goo st'1d ?_
 refine goo (fun _ k => XS.aloadN X'1d.here hx rfl (hb hby d11_28) rfl rfl <| XS.sipush X'1d.here hx rfl (hb hby d11_29) k) ?_
 obtain ⟨T'1n, h'1n, k'1n, X'1n, e'1n, E'1n, A'1n, st'1n⟩ := newP X'1d hx hZ (qw hw 0 rfl) e'1d (g := (mkF m 32 #[rv x0] [.int i_256, .ref x0])) rfl (hb hby d11_32) rfl (by decide) (cap := 256) (by decide) (by decide) (by decide) (by decide)
 obtain ⟨b'1n, g'1n⟩ : ∃ z, z = h'1d.size := ⟨_, rfl⟩
 rw [← g'1n] at A'1n st'1n
 have sz_621 : h0.size ≤ b'1n := Nat.le_trans KP_1m.1 (Nat.le_of_eq g'1n.symm)
 have X_1o := X_1e.ext E'1n
 have F_1p := F_1f.ext E'1n
 have F_1q := F_1g.ext E'1n
 have F_1r := F_1h.ext E'1n
 have F_1s := F_1i.ext E'1n
 have F_1t := F_1j.ext E'1n
 have V_1u := V_1k.ext E'1n
 have V_1v := V_1l.ext E'1n
 have KP_1w : Keep h0 h'1n [x0] := KP_1m.ext E'1n
 have V616 : Arv Z h'1n b'1n k'1n .char i_256 [.int i_0, .int i_0, .int i_0, .int i_0, .int i_0, .int i_0] (.int i_0) := (Arv.new A'1n (by decide)).pad (pad_rep [] (.int i_0) 6)
 refine goo st'1n ?_
 obtain ⟨T'1x, h'1x, X'1x, e'1x, W'1x, st'1x⟩ := putF X'1n hx hZ hown (host := "") (Or.inl (qw hw 64 rfl)) Via.refl e'1n F_1t X_1o (Or.inl (qw hw 65 rfl)) (qw hw 45 rfl) (ty := (.array .char)) (by decide) rfl rfl (g := (mkF m 34 #[rv x0] [.ref b'1n, .ref x0])) rfl rfl (hb hby d11_34)
 have X_1y := X_1o.wr W'1x
 have F_1z := F_1p.other W'1x (Or.inr (slot_ne (Or.inl (qw hw 52 rfl)) (Or.inl (qw hw 65 rfl)) (by decide) (t := (.array .char)) (t' := (.array .char)) (by decide) (by decide)))
 have F_20 := F_1q.other W'1x (Or.inr (slot_ne (Or.inl (qw hw 55 rfl)) (Or.inl (qw hw 65 rfl)) (by decide) (t := (.array .int)) (t' := (.array .char)) (by decide) (by decide)))
 have F_21 := F_1r.other W'1x (Or.inr (slot_ne (Or.inl (qw hw 74 rfl)) (Or.inl (qw hw 65 rfl)) (by decide) (t := .int) (t' := (.array .char)) (by decide) (by decide)))
 have F_22 := F_1s.other W'1x (Or.inr (slot_ne (Or.inl (qw hw 72 rfl)) (Or.inl (qw hw 65 rfl)) (by decide) (t := .int) (t' := (.array .char)) (by decide) (by decide)))
 have V_23 := V_1u.other W'1x (Ne.symm ne_2)
 have V_24 := V_1v.other W'1x (Ne.symm ne_o)
 have KP_25 : Keep h0 h'1x [x0] := KP_1w.wr W'1x (Or.inl (List.mem_of_getElem? (i := 0) rfl))
 have N_1x := Fr.snoc X'1x N_1d p1_
 refine goo st'1x ?_
 show own_G _ _ _ _ (T'1x.setTop (mkF m 37 #[rv x0] []))
 exact own_end X'1x Bd.notSynchronized (v := none) (fun _ => rfl) (Q := Q_rm11 Z x0 el h0 n0) (by show Q_rm11 Z x0 el h0 n0 (none) T'1x.heap _; rw [e'1x]; exact ⟨rfl, N_1x, KP_25, X_1y, F_21, F_22, ⟨b'1, b'n, k'1, k'n, sz_550, sz_577, ne_p, F_1z, F_20, V_23, (own_cut V_24)⟩⟩) (fun fs hr => X'1x.returnOut hx Bd.returns (hb hby d11_37) hr) (by decide) (by decide)
theorem d28_0 : decode prog_116_method_20_code 0 = .ok (.aload_n 0, 1) := by decide +kernel
theorem d28_1 : decode prog_116_method_20_code 1 = .ok (.getfield 30, 3) := by decide +kernel
theorem d28_4 : decode prog_116_method_20_code 4 = .ok (.iload_n 1, 1) := by decide +kernel
theorem d28_5 : decode prog_116_method_20_code 5 = .ok (.iadd, 1) := by decide +kernel
theorem d28_6 : decode prog_116_method_20_code 6 = .ok (.aload_n 0, 1) := by decide +kernel
theorem d28_7 : decode prog_116_method_20_code 7 = .ok (.getfield 7, 3) := by decide +kernel
theorem d28_10 : decode prog_116_method_20_code 10 = .ok (.arraylength, 1) := by decide +kernel
theorem d28_11 : decode prog_116_method_20_code 11 = .ok (.if_icmp .le 30, 3) := by decide +kernel
theorem d28_41 : decode prog_116_method_20_code 41 = .ok (.return_, 1) := by decide +kernel
theorem ef_28_RI (m : MethodId) (x0 : Addr) (x1 : Int32) : entryFrame m #[(.ref x0), (.int x1)] 2 = mkF m 0 #[.val (.ref x0), .val (.int x1)] [] := by
  first | (simp [entryFrame, mkF, argsToLocals, Value.category]; done) | rfl
theorem rm28 (l : Launch) (Z : State) (a0 : Array Value) (hw : own_HW a0 Z) (ws : List Jvm.Cond) (x0 : Addr) (x1 : Int32)  (l_ : Int32) (ca : Addr) (kc : ClassId) (w0 w1 w2 w3 w4 w5 : Int32) (h0 : Heap) (Fl : Fld Z h0 x0 s_3 "length" "I" (.int l_)) (Fc : Fld Z h0 x0 s_3 "chars" "[C" (.ref ca)) (Vc : Arv Z h0 ca kc .char i_256 [.int w0, .int w1, .int w2, .int w3, .int w4, .int w5] (.int i_0)) (hr_ : ¬ i_256 < (l_ + x1)) :
  MetFree l Y25 (head1 (Jvm.Cond.code Y25 prog_116_method_20_code 2 none :: ws) (rr 0 0 0 0)) (fun a U => a = #[.ref x0, .int x1] ∧ Z.Warmed39 U.vm ∧ U.heap = h0) (fun _ _ _ _ _ => True) (fun _ U o U' => ∃ v L, o = .returned v ∧ QP (none) h0 v U'.heap L ∧ FrameEnd U o U' L (rr 0 0 0 0).cells (rr 0 0 0 0).slots) := by
 refine MetFree.of_bodySF (plainFor_of_name own_pn5) hisR ?_
 intro p e s m args below meth c s₁ Bd hml0 hP hK
 obtain ⟨rfl, hZ, hh⟩ := hP
 have hx := Bd.exec
 have hby := Bd.bytes
 have hml : c.maxLocals = 2 := hml0
 have hown : s.vm.findClass s_3 = some m.cls := findClass_of_methodNamed Bd.named
 have hnm := (name_of_methodNamed Bd.named Bd.method).1
 have X0 : Stand p l e (rr 0 0 0 0) s m #[.ref x0, .int x1] below meth c s₁ [] 0 0 := Stand.of_body Bd
 have e0 : s₁.heap = h0 := by rw [← hh, Bd.state]; rfl
 show own_G _ _ _ _ (s₁.setTop (entryFrame m #[.ref x0, .int x1] 2))
 refine goo (fun _ k => castTop (ef_28_RI m x0 x1) k) ?_
 refine goo (fun _ k => XS.aloadN X0.here hx rfl (hb hby d28_0) rfl rfl k) ?_
 obtain ⟨T'0, X'0, e'0, st'0⟩ := getF X0 hx hZ hown (host := "") (Or.inl (qw hw 73 rfl)) Via.refl e0 Fl (g := (mkF m 1 #[rv x0, iv x1] [.ref x0])) rfl rfl (hb hby d28_1)
 refine goo st'0 ?_
 refine goo (fun _ k => XS.iloadN X'0.here hx rfl (hb hby d28_4) rfl <| XS.iadd X'0.here hx rfl (hb hby d28_5) rfl <| XS.aloadN X'0.here hx rfl (hb hby d28_6) rfl rfl k) ?_
 show own_G _ _ _ _ (T'0.setTop (mkF m 7 #[rv x0, iv x1] [.ref x0, (.int (l_ + x1))]))
 obtain ⟨T'1, X'1, e'1, st'1⟩ := getF X'0 hx hZ hown (host := "") (Or.inl (qw hw 51 rfl)) Via.refl e'0 Fc (g := (mkF m 7 #[rv x0, iv x1] [.ref x0, (.int (l_ + x1))])) rfl rfl (hb hby d28_7)
 refine goo st'1 ?_
 obtain ⟨cl650, Ar650, -, S650, N650, -, -⟩ := id Vc
 refine goo (fun _ k => X'1.arraylength hx (cell := cl650) (by rw [e'1]; exact Ar650.1) (State.isArrayOf_alike hZ.alike Ar650.2.1) (g := (mkF m 10 #[rv x0, iv x1] [.ref ca, (.int (l_ + x1))])) rfl rfl (hb hby d28_10) _ (by rw [len_of S650 N650]; exact k)) ?_
 refine goo (fun _ k => XS.icmpYes X'1.here hx rfl (pc0 := 11) (pc' := 41) rfl (hb hby d28_11) rfl ((flt hr_).2.2.2) (by decide) (by decide) k) ?_
 show own_G _ _ _ _ (T'1.setTop (mkF m 41 #[rv x0, iv x1] []))
 exact own_end X'1 Bd.notSynchronized (v := none) (fun _ => rfl) (Q := QP (none) h0) ⟨rfl, rfl, e'1⟩ (fun fs hr => X'1.returnOut hx Bd.returns (hb hby d28_41) hr) (by decide) (by decide)
def Q_rm_end0 (Z : State) (x0 : Addr) (ca ea : Addr) (kc ke : ClassId) (w0 w1 w2 w3 w4 w5 en0 en1 en2 en3 l_ : Int32) (h0 : Heap) (n0 : Nat) (v : Option Value) (h : Heap) (L : List Loc) : Prop := v = none ∧ Fr n0 L ∧ Keep h0 h [x0, ea] ∧ Exa Z h x0 s_3 ∧ Fld Z h x0 s_3 "chars" "[C" (.ref ca) ∧ Fld Z h x0 s_3 "ends" "[I" (.ref ea) ∧ Fld Z h x0 s_3 "length" "I" (.int l_) ∧ Fld Z h x0 s_3 "size" "I" (.int i_1) ∧ Arv Z h ca kc .char i_256 [.int w0, .int w1, .int w2, .int w3, .int w4, .int w5] (.int i_0) ∧ Arv Z h ea ke .int i_32 [.int l_, .int en1, .int en2, .int en3] (.int i_0)
theorem d14_0 : decode prog_116_method_8_code 0 = .ok (.aload_n 0, 1) := by decide +kernel
theorem d14_1 : decode prog_116_method_8_code 1 = .ok (.getfield 34, 3) := by decide +kernel
theorem d14_4 : decode prog_116_method_8_code 4 = .ok (.aload_n 0, 1) := by decide +kernel
theorem d14_5 : decode prog_116_method_8_code 5 = .ok (.getfield 13, 3) := by decide +kernel
theorem d14_8 : decode prog_116_method_8_code 8 = .ok (.arraylength, 1) := by decide +kernel
theorem d14_9 : decode prog_116_method_8_code 9 = .ok (.if_icmp .ne 20, 3) := by decide +kernel
theorem d14_29 : decode prog_116_method_8_code 29 = .ok (.aload_n 0, 1) := by decide +kernel
theorem d14_30 : decode prog_116_method_8_code 30 = .ok (.getfield 13, 3) := by decide +kernel
theorem d14_33 : decode prog_116_method_8_code 33 = .ok (.aload_n 0, 1) := by decide +kernel
theorem d14_34 : decode prog_116_method_8_code 34 = .ok (.dup, 1) := by decide +kernel
theorem d14_35 : decode prog_116_method_8_code 35 = .ok (.getfield 34, 3) := by decide +kernel
theorem d14_38 : decode prog_116_method_8_code 38 = .ok (.dup_x1, 1) := by decide +kernel
theorem d14_39 : decode prog_116_method_8_code 39 = .ok (.iconst 1, 1) := by decide +kernel
theorem d14_40 : decode prog_116_method_8_code 40 = .ok (.iadd, 1) := by decide +kernel
theorem d14_41 : decode prog_116_method_8_code 41 = .ok (.putfield 34, 3) := by decide +kernel
theorem d14_44 : decode prog_116_method_8_code 44 = .ok (.aload_n 0, 1) := by decide +kernel
theorem d14_45 : decode prog_116_method_8_code 45 = .ok (.getfield 30, 3) := by decide +kernel
theorem d14_48 : decode prog_116_method_8_code 48 = .ok (.iastore, 1) := by decide +kernel
theorem d14_49 : decode prog_116_method_8_code 49 = .ok (.return_, 1) := by decide +kernel
theorem ef_14_R (m : MethodId) (x0 : Addr) : entryFrame m #[(.ref x0)] 1 = mkF m 0 #[.val (.ref x0)] [] := by
  first | (simp [entryFrame, mkF, argsToLocals, Value.category]; done) | rfl
theorem rm_end0 (l : Launch) (Z : State) (a0 : Array Value) (hw : own_HW a0 Z) (ws : List Jvm.Cond) (x0 : Addr) (ca ea : Addr) (kc ke : ClassId) (w0 w1 w2 w3 w4 w5 en0 en1 en2 en3 l_ : Int32) (h0 : Heap) (n0 : Nat) (Z0 : n0 ≤ h0.size) (p0_ : Exa Z h0 x0 s_3) (p1_ : Fld Z h0 x0 s_3 "chars" "[C" (.ref ca)) (p2_ : Fld Z h0 x0 s_3 "ends" "[I" (.ref ea)) (p3_ : Fld Z h0 x0 s_3 "length" "I" (.int l_)) (p4_ : Fld Z h0 x0 s_3 "size" "I" (.int i_0)) (p5_ : Arv Z h0 ca kc .char i_256 [.int w0, .int w1, .int w2, .int w3, .int w4, .int w5] (.int i_0)) (p6_ : Arv Z h0 ea ke .int i_32 [.int en0, .int en1, .int en2, .int en3] (.int i_0)) (p7_ : n0 ≤ x0) (p8_ : n0 ≤ ca) (p9_ : n0 ≤ ea) (p10_ : x0 ≠ ca) (p11_ : x0 ≠ ea) (p12_ : ca ≠ ea)  :
  MetFree l Y26 (head1 (Jvm.Cond.code Y26 prog_116_method_8_code 1 none :: ws) (rr 0 0 0 0)) (fun a U => a = #[.ref x0] ∧ Z.Warmed39 U.vm ∧ U.heap = h0) (fun _ _ _ _ _ => True) (fun _ U o U' => ∃ v L, o = .returned v ∧ Q_rm_end0 Z x0 ca ea kc ke w0 w1 w2 w3 w4 w5 en0 en1 en2 en3 l_ h0 n0 v U'.heap L ∧ FrameEnd U o U' L (rr 0 0 0 0).cells (rr 0 0 0 0).slots) := by
 refine MetFree.of_bodySF (plainFor_of_name own_pn5) hisR ?_
 intro p e s m args below meth c s₁ Bd hml0 hP hK
 obtain ⟨rfl, hZ, hh⟩ := hP
 have hx := Bd.exec
 have hby := Bd.bytes
 have hml : c.maxLocals = 1 := hml0
 have hown : s.vm.findClass s_3 = some m.cls := findClass_of_methodNamed Bd.named
 have hnm := (name_of_methodNamed Bd.named Bd.method).1
 have X0 : Stand p l e (rr 0 0 0 0) s m #[.ref x0] below meth c s₁ [] 0 0 := Stand.of_body Bd
 have e0 : s₁.heap = h0 := by rw [← hh, Bd.state]; rfl
 show own_G _ _ _ _ (s₁.setTop (entryFrame m #[.ref x0] 1))
 refine goo (fun _ k => castTop (ef_14_R m x0) k) ?_
 have N0 := Fr.nil n0
 have KP0 := Keep.refl h0 [x0, ea]
 refine goo (fun _ k => XS.aloadN X0.here hx rfl (hb hby d14_0) rfl rfl k) ?_
 obtain ⟨T'0, X'0, e'0, st'0⟩ := getF X0 hx hZ hown (host := "") (Or.inl (qw hw 71 rfl)) Via.refl e0 p4_ (g := (mkF m 1 #[rv x0] [.ref x0])) rfl rfl (hb hby d14_1)
 refine goo st'0 ?_
 refine goo (fun _ k => XS.aloadN X'0.here hx rfl (hb hby d14_4) rfl rfl k) ?_
 obtain ⟨T'1, X'1, e'1, st'1⟩ := getF X'0 hx hZ hown (host := "") (Or.inl (qw hw 54 rfl)) Via.refl e'0 p2_ (g := (mkF m 5 #[rv x0] [.ref x0, .int i_0])) rfl rfl (hb hby d14_5)
 refine goo st'1 ?_
 obtain ⟨cl653, Ar653, -, S653, N653, -, -⟩ := id p6_
 refine goo (fun _ k => X'1.arraylength hx (cell := cl653) (by rw [e'1]; exact Ar653.1) (State.isArrayOf_alike hZ.alike Ar653.2.1) (g := (mkF m 8 #[rv x0] [.ref ea, .int i_0])) rfl rfl (hb hby d14_8) _ (by rw [len_of S653 N653]; exact k)) ?_
 show own_G _ _ _ _ (T'1.setTop (mkF m 9 #[rv x0] [.int i_32, .int i_0]))
 refine goo (fun _ k => XS.icmpYes X'1.here hx rfl (pc0 := 9) (pc' := 29) rfl (hb hby d14_9) rfl ((feq (by decide : ¬ (i_0 = i_32))).2) (by decide) (by decide) <| XS.aloadN X'1.here hx rfl (hb hby d14_29) rfl rfl k) ?_
 obtain ⟨T'2, X'2, e'2, st'2⟩ := getF X'1 hx hZ hown (host := "") (Or.inl (qw hw 54 rfl)) Via.refl e'1 p2_ (g := (mkF m 30 #[rv x0] [.ref x0])) rfl rfl (hb hby d14_30)
 refine goo st'2 ?_
 refine goo (fun _ k => XS.aloadN X'2.here hx rfl (hb hby d14_33) rfl rfl <| XS.dup X'2.here hx rfl (hb hby d14_34) rfl rfl k) ?_
 obtain ⟨T'3, X'3, e'3, st'3⟩ := getF X'2 hx hZ hown (host := "") (Or.inl (qw hw 71 rfl)) Via.refl e'2 p4_ (g := (mkF m 35 #[rv x0] [.ref x0, .ref x0, .ref ea])) rfl rfl (hb hby d14_35)
 refine goo st'3 ?_
 show own_G _ _ _ _ (T'3.setTop (mkF m 38 #[rv x0] [.int i_0, .ref x0, .ref ea]))
 refine goo (fun _ k => XS.dupX1 X'3.here hx rfl (hb hby d14_38) rfl rfl rfl <| XS.iconst X'3.here hx rfl (hb hby d14_39) <| XS.iadd X'3.here hx rfl (hb hby d14_40) rfl k) ?_
 obtain ⟨T'4, h'4, X'4, e'4, W'4, st'4⟩ := putF X'3 hx hZ hown (host := "") (Or.inl (qw hw 71 rfl)) Via.refl e'3 p4_ p0_ (Or.inl (qw hw 72 rfl)) (qw hw 45 rfl) (ty := .int) (by decide) rfl rfl (g := (mkF m 41 #[rv x0] [.int i_1, .ref x0, .int i_0, .ref ea])) rfl rfl (hb hby d14_41)
 have X_5 := p0_.wr W'4
 have F_6 := p1_.other W'4 (Or.inr (slot_ne (Or.inl (qw hw 52 rfl)) (Or.inl (qw hw 72 rfl)) (by decide) (t := (.array .char)) (t' := .int) (by decide) (by decide)))
 have F_7 := p2_.other W'4 (Or.inr (slot_ne (Or.inl (qw hw 55 rfl)) (Or.inl (qw hw 72 rfl)) (by decide) (t := (.array .int)) (t' := .int) (by decide) (by decide)))
 have F_8 := p3_.other W'4 (Or.inr (slot_ne (Or.inl (qw hw 74 rfl)) (Or.inl (qw hw 72 rfl)) (by decide) (t := .int) (t' := .int) (by decide) (by decide)))
 have V_9 := p5_.other W'4 (Ne.symm p10_)
 have V_a := p6_.other W'4 (Ne.symm p11_)
 have F_b := p4_.same W'4
 have KP_c : Keep h0 h'4 [x0, ea] := KP0.wr W'4 (Or.inl (List.mem_of_getElem? (i := 0) rfl))
 have N_4 := Fr.snoc X'4 N0 p7_
 refine goo st'4 ?_
 refine goo (fun _ k => XS.aloadN X'4.here hx rfl (hb hby d14_44) rfl rfl k) ?_
 obtain ⟨T'd, X'd, e'd, st'd⟩ := getF X'4 hx hZ hown (host := "") (Or.inl (qw hw 73 rfl)) Via.refl e'4 F_8 (g := (mkF m 45 #[rv x0] [.ref x0, .int i_0, .ref ea])) rfl rfl (hb hby d14_45)
 refine goo st'd ?_
 show own_G _ _ _ _ (T'd.setTop (mkF m 48 #[rv x0] [.int l_, .int i_0, .ref ea]))
 obtain ⟨cl667, Ar667, q'e, S667, N667, H667, G667⟩ := id V_a
 obtain ⟨T'e, h'e, X'e, e'e, W'e, st'e⟩ := stI X'd hx hZ e'd Ar667 (j := i_0) (inb_of S667 ⟨by decide, by decide⟩) (g := (mkF m 48 #[rv x0] [.int l_, .int i_0, .ref ea])) rfl rfl (hb hby d14_48)
 have X_f := X_5.wr W'e
 have F_g := F_6.other W'e (Or.inl p11_)
 have F_h := F_7.other W'e (Or.inl p11_)
 have F_i := F_8.other W'e (Or.inl p11_)
 have F_j := F_b.other W'e (Or.inl p11_)
 have V_k := V_9.other W'e p12_
 have V667 : Arv Z h'e ea ke .int i_32 [.int l_, .int en1, .int en2, .int en3] (.int i_0) := Arv.set Ar667 q'e S667 N667 H667 G667 rfl W'e 0 rfl (Nat.le_of_ble_eq_true rfl)
 have KP_l : Keep h0 h'e [x0, ea] := KP_c.wr W'e (Or.inl (List.mem_of_getElem? (i := 1) rfl))
 have N_e := Fr.snoc X'e N_4 p9_
 refine goo st'e ?_
 show own_G _ _ _ _ (T'e.setTop (mkF m 49 #[rv x0] []))
 exact own_end X'e Bd.notSynchronized (v := none) (fun _ => rfl) (Q := Q_rm_end0 Z x0 ca ea kc ke w0 w1 w2 w3 w4 w5 en0 en1 en2 en3 l_ h0 n0) (by show Q_rm_end0 Z x0 ca ea kc ke w0 w1 w2 w3 w4 w5 en0 en1 en2 en3 l_ h0 n0 (none) T'e.heap _; rw [e'e]; exact ⟨rfl, N_e, KP_l, X_f, F_g, F_h, F_i, F_j, V_k, V667⟩) (fun fs hr => X'e.returnOut hx Bd.returns (hb hby d14_49) hr) (by decide) (by decide)
def Q_rm_end1 (Z : State) (x0 : Addr) (ca ea : Addr) (kc ke : ClassId) (w0 w1 w2 w3 w4 w5 en0 en1 en2 en3 l_ : Int32) (h0 : Heap) (n0 : Nat) (v : Option Value) (h : Heap) (L : List Loc) : Prop := v = none ∧ Fr n0 L ∧ Keep h0 h [x0, ea] ∧ Exa Z h x0 s_3 ∧ Fld Z h x0 s_3 "chars" "[C" (.ref ca) ∧ Fld Z h x0 s_3 "ends" "[I" (.ref ea) ∧ Fld Z h x0 s_3 "length" "I" (.int l_) ∧ Fld Z h x0 s_3 "size" "I" (.int i_2) ∧ Arv Z h ca kc .char i_256 [.int w0, .int w1, .int w2, .int w3, .int w4, .int w5] (.int i_0) ∧ Arv Z h ea ke .int i_32 [.int en0, .int l_, .int en2, .int en3] (.int i_0)
theorem rm_end1 (l : Launch) (Z : State) (a0 : Array Value) (hw : own_HW a0 Z) (ws : List Jvm.Cond) (x0 : Addr) (ca ea : Addr) (kc ke : ClassId) (w0 w1 w2 w3 w4 w5 en0 en1 en2 en3 l_ : Int32) (h0 : Heap) (n0 : Nat) (Z0 : n0 ≤ h0.size) (p0_ : Exa Z h0 x0 s_3) (p1_ : Fld Z h0 x0 s_3 "chars" "[C" (.ref ca)) (p2_ : Fld Z h0 x0 s_3 "ends" "[I" (.ref ea)) (p3_ : Fld Z h0 x0 s_3 "length" "I" (.int l_)) (p4_ : Fld Z h0 x0 s_3 "size" "I" (.int i_1)) (p5_ : Arv Z h0 ca kc .char i_256 [.int w0, .int w1, .int w2, .int w3, .int w4, .int w5] (.int i_0)) (p6_ : Arv Z h0 ea ke .int i_32 [.int en0, .int en1, .int en2, .int en3] (.int i_0)) (p7_ : n0 ≤ x0) (p8_ : n0 ≤ ca) (p9_ : n0 ≤ ea) (p10_ : x0 ≠ ca) (p11_ : x0 ≠ ea) (p12_ : ca ≠ ea)  :
  MetFree l Y26 (head1 (Jvm.Cond.code Y26 prog_116_method_8_code 1 none :: ws) (rr 0 0 0 0)) (fun a U => a = #[.ref x0] ∧ Z.Warmed39 U.vm ∧ U.heap = h0) (fun _ _ _ _ _ => True) (fun _ U o U' => ∃ v L, o = .returned v ∧ Q_rm_end1 Z x0 ca ea kc ke w0 w1 w2 w3 w4 w5 en0 en1 en2 en3 l_ h0 n0 v U'.heap L ∧ FrameEnd U o U' L (rr 0 0 0 0).cells (rr 0 0 0 0).slots) := by
 refine MetFree.of_bodySF (plainFor_of_name own_pn5) hisR ?_
 intro p e s m args below meth c s₁ Bd hml0 hP hK
 obtain ⟨rfl, hZ, hh⟩ := hP
 have hx := Bd.exec
 have hby := Bd.bytes
 have hml : c.maxLocals = 1 := hml0
 have hown : s.vm.findClass s_3 = some m.cls := findClass_of_methodNamed Bd.named
 have hnm := (name_of_methodNamed Bd.named Bd.method).1
 have X0 : Stand p l e (rr 0 0 0 0) s m #[.ref x0] below meth c s₁ [] 0 0 := Stand.of_body Bd
 have e0 : s₁.heap = h0 := by rw [← hh, Bd.state]; rfl
 show own_G _ _ _ _ (s₁.setTop (entryFrame m #[.ref x0] 1))
 refine goo (fun _ k => castTop (ef_14_R m x0) k) ?_
 have N0 := Fr.nil n0
 have KP0 := Keep.refl h0 [x0, ea]
 refine goo (fun _ k => XS.aloadN X0.here hx rfl (hb hby d14_0) rfl rfl k) ?_
 obtain ⟨T'0, X'0, e'0, st'0⟩ := getF X0 hx hZ hown (host := "") (Or.inl (qw hw 71 rfl)) Via.refl e0 p4_ (g := (mkF m 1 #[rv x0] [.ref x0])) rfl rfl (hb hby d14_1)
 refine goo st'0 ?_
 refine goo (fun _ k => XS.aloadN X'0.here hx rfl (hb hby d14_4) rfl rfl k) ?_
 obtain ⟨T'1, X'1, e'1, st'1⟩ := getF X'0 hx hZ hown (host := "") (Or.inl (qw hw 54 rfl)) Via.refl e'0 p2_ (g := (mkF m 5 #[rv x0] [.ref x0, .int i_1])) rfl rfl (hb hby d14_5)
 refine goo st'1 ?_
 obtain ⟨cl678, Ar678, -, S678, N678, -, -⟩ := id p6_
 refine goo (fun _ k => X'1.arraylength hx (cell := cl678) (by rw [e'1]; exact Ar678.1) (State.isArrayOf_alike hZ.alike Ar678.2.1) (g := (mkF m 8 #[rv x0] [.ref ea, .int i_1])) rfl rfl (hb hby d14_8) _ (by rw [len_of S678 N678]; exact k)) ?_
 show own_G _ _ _ _ (T'1.setTop (mkF m 9 #[rv x0] [.int i_32, .int i_1]))
 refine goo (fun _ k => XS.icmpYes X'1.here hx rfl (pc0 := 9) (pc' := 29) rfl (hb hby d14_9) rfl ((feq (by decide : ¬ (i_1 = i_32))).2) (by decide) (by decide) <| XS.aloadN X'1.here hx rfl (hb hby d14_29) rfl rfl k) ?_
 obtain ⟨T'2, X'2, e'2, st'2⟩ := getF X'1 hx hZ hown (host := "") (Or.inl (qw hw 54 rfl)) Via.refl e'1 p2_ (g := (mkF m 30 #[rv x0] [.ref x0])) rfl rfl (hb hby d14_30)
 refine goo st'2 ?_
 refine goo (fun _ k => XS.aloadN X'2.here hx rfl (hb hby d14_33) rfl rfl <| XS.dup X'2.here hx rfl (hb hby d14_34) rfl rfl k) ?_
 obtain ⟨T'3, X'3, e'3, st'3⟩ := getF X'2 hx hZ hown (host := "") (Or.inl (qw hw 71 rfl)) Via.refl e'2 p4_ (g := (mkF m 35 #[rv x0] [.ref x0, .ref x0, .ref ea])) rfl rfl (hb hby d14_35)
 refine goo st'3 ?_
 show own_G _ _ _ _ (T'3.setTop (mkF m 38 #[rv x0] [.int i_1, .ref x0, .ref ea]))
 refine goo (fun _ k => XS.dupX1 X'3.here hx rfl (hb hby d14_38) rfl rfl rfl <| XS.iconst X'3.here hx rfl (hb hby d14_39) <| XS.iadd X'3.here hx rfl (hb hby d14_40) rfl k) ?_
 obtain ⟨T'4, h'4, X'4, e'4, W'4, st'4⟩ := putF X'3 hx hZ hown (host := "") (Or.inl (qw hw 71 rfl)) Via.refl e'3 p4_ p0_ (Or.inl (qw hw 72 rfl)) (qw hw 45 rfl) (ty := .int) (by decide) rfl rfl (g := (mkF m 41 #[rv x0] [.int i_2, .ref x0, .int i_1, .ref ea])) rfl rfl (hb hby d14_41)
 have X_5 := p0_.wr W'4
 have F_6 := p1_.other W'4 (Or.inr (slot_ne (Or.inl (qw hw 52 rfl)) (Or.inl (qw hw 72 rfl)) (by decide) (t := (.array .char)) (t' := .int) (by decide) (by decide)))
 have F_7 := p2_.other W'4 (Or.inr (slot_ne (Or.inl (qw hw 55 rfl)) (Or.inl (qw hw 72 rfl)) (by decide) (t := (.array .int)) (t' := .int) (by decide) (by decide)))
 have F_8 := p3_.other W'4 (Or.inr (slot_ne (Or.inl (qw hw 74 rfl)) (Or.inl (qw hw 72 rfl)) (by decide) (t := .int) (t' := .int) (by decide) (by decide)))
 have V_9 := p5_.other W'4 (Ne.symm p10_)
 have V_a := p6_.other W'4 (Ne.symm p11_)
 have F_b := p4_.same W'4
 have KP_c : Keep h0 h'4 [x0, ea] := KP0.wr W'4 (Or.inl (List.mem_of_getElem? (i := 0) rfl))
 have N_4 := Fr.snoc X'4 N0 p7_
 refine goo st'4 ?_
 refine goo (fun _ k => XS.aloadN X'4.here hx rfl (hb hby d14_44) rfl rfl k) ?_
 obtain ⟨T'd, X'd, e'd, st'd⟩ := getF X'4 hx hZ hown (host := "") (Or.inl (qw hw 73 rfl)) Via.refl e'4 F_8 (g := (mkF m 45 #[rv x0] [.ref x0, .int i_1, .ref ea])) rfl rfl (hb hby d14_45)
 refine goo st'd ?_
 show own_G _ _ _ _ (T'd.setTop (mkF m 48 #[rv x0] [.int l_, .int i_1, .ref ea]))
 obtain ⟨cl692, Ar692, q'e, S692, N692, H692, G692⟩ := id V_a
 obtain ⟨T'e, h'e, X'e, e'e, W'e, st'e⟩ := stI X'd hx hZ e'd Ar692 (j := i_1) (inb_of S692 ⟨by decide, by decide⟩) (g := (mkF m 48 #[rv x0] [.int l_, .int i_1, .ref ea])) rfl rfl (hb hby d14_48)
 have X_f := X_5.wr W'e
 have F_g := F_6.other W'e (Or.inl p11_)
 have F_h := F_7.other W'e (Or.inl p11_)
 have F_i := F_8.other W'e (Or.inl p11_)
 have F_j := F_b.other W'e (Or.inl p11_)
 have V_k := V_9.other W'e p12_
 have V692 : Arv Z h'e ea ke .int i_32 [.int en0, .int l_, .int en2, .int en3] (.int i_0) := Arv.set Ar692 q'e S692 N692 H692 G692 rfl W'e 1 rfl (Nat.le_of_ble_eq_true rfl)
 have KP_l : Keep h0 h'e [x0, ea] := KP_c.wr W'e (Or.inl (List.mem_of_getElem? (i := 1) rfl))
 have N_e := Fr.snoc X'e N_4 p9_
 refine goo st'e ?_
 show own_G _ _ _ _ (T'e.setTop (mkF m 49 #[rv x0] []))
 exact own_end X'e Bd.notSynchronized (v := none) (fun _ => rfl) (Q := Q_rm_end1 Z x0 ca ea kc ke w0 w1 w2 w3 w4 w5 en0 en1 en2 en3 l_ h0 n0) (by show Q_rm_end1 Z x0 ca ea kc ke w0 w1 w2 w3 w4 w5 en0 en1 en2 en3 l_ h0 n0 (none) T'e.heap _; rw [e'e]; exact ⟨rfl, N_e, KP_l, X_f, F_g, F_h, F_i, F_j, V_k, V692⟩) (fun fs hr => X'e.returnOut hx Bd.returns (hb hby d14_49) hr) (by decide) (by decide)
def Q_rm_end2 (Z : State) (x0 : Addr) (ca ea : Addr) (kc ke : ClassId) (w0 w1 w2 w3 w4 w5 en0 en1 en2 en3 l_ : Int32) (h0 : Heap) (n0 : Nat) (v : Option Value) (h : Heap) (L : List Loc) : Prop := v = none ∧ Fr n0 L ∧ Keep h0 h [x0, ea] ∧ Exa Z h x0 s_3 ∧ Fld Z h x0 s_3 "chars" "[C" (.ref ca) ∧ Fld Z h x0 s_3 "ends" "[I" (.ref ea) ∧ Fld Z h x0 s_3 "length" "I" (.int l_) ∧ Fld Z h x0 s_3 "size" "I" (.int i_3) ∧ Arv Z h ca kc .char i_256 [.int w0, .int w1, .int w2, .int w3, .int w4, .int w5] (.int i_0) ∧ Arv Z h ea ke .int i_32 [.int en0, .int en1, .int l_, .int en3] (.int i_0)
theorem rm_end2 (l : Launch) (Z : State) (a0 : Array Value) (hw : own_HW a0 Z) (ws : List Jvm.Cond) (x0 : Addr) (ca ea : Addr) (kc ke : ClassId) (w0 w1 w2 w3 w4 w5 en0 en1 en2 en3 l_ : Int32) (h0 : Heap) (n0 : Nat) (Z0 : n0 ≤ h0.size) (p0_ : Exa Z h0 x0 s_3) (p1_ : Fld Z h0 x0 s_3 "chars" "[C" (.ref ca)) (p2_ : Fld Z h0 x0 s_3 "ends" "[I" (.ref ea)) (p3_ : Fld Z h0 x0 s_3 "length" "I" (.int l_)) (p4_ : Fld Z h0 x0 s_3 "size" "I" (.int i_2)) (p5_ : Arv Z h0 ca kc .char i_256 [.int w0, .int w1, .int w2, .int w3, .int w4, .int w5] (.int i_0)) (p6_ : Arv Z h0 ea ke .int i_32 [.int en0, .int en1, .int en2, .int en3] (.int i_0)) (p7_ : n0 ≤ x0) (p8_ : n0 ≤ ca) (p9_ : n0 ≤ ea) (p10_ : x0 ≠ ca) (p11_ : x0 ≠ ea) (p12_ : ca ≠ ea)  :
  MetFree l Y26 (head1 (Jvm.Cond.code Y26 prog_116_method_8_code 1 none :: ws) (rr 0 0 0 0)) (fun a U => a = #[.ref x0] ∧ Z.Warmed39 U.vm ∧ U.heap = h0) (fun _ _ _ _ _ => True) (fun _ U o U' => ∃ v L, o = .returned v ∧ Q_rm_end2 Z x0 ca ea kc ke w0 w1 w2 w3 w4 w5 en0 en1 en2 en3 l_ h0 n0 v U'.heap L ∧ FrameEnd U o U' L (rr 0 0 0 0).cells (rr 0 0 0 0).slots) := by
 refine MetFree.of_bodySF (plainFor_of_name own_pn5) hisR ?_
 intro p e s m args below meth c s₁ Bd hml0 hP hK
 obtain ⟨rfl, hZ, hh⟩ := hP
 have hx := Bd.exec
 have hby := Bd.bytes
 have hml : c.maxLocals = 1 := hml0
 have hown : s.vm.findClass s_3 = some m.cls := findClass_of_methodNamed Bd.named
 have hnm := (name_of_methodNamed Bd.named Bd.method).1
 have X0 : Stand p l e (rr 0 0 0 0) s m #[.ref x0] below meth c s₁ [] 0 0 := Stand.of_body Bd
 have e0 : s₁.heap = h0 := by rw [← hh, Bd.state]; rfl
 show own_G _ _ _ _ (s₁.setTop (entryFrame m #[.ref x0] 1))
 refine goo (fun _ k => castTop (ef_14_R m x0) k) ?_
 have N0 := Fr.nil n0
 have KP0 := Keep.refl h0 [x0, ea]
 refine goo (fun _ k => XS.aloadN X0.here hx rfl (hb hby d14_0) rfl rfl k) ?_
 obtain ⟨T'0, X'0, e'0, st'0⟩ := getF X0 hx hZ hown (host := "") (Or.inl (qw hw 71 rfl)) Via.refl e0 p4_ (g := (mkF m 1 #[rv x0] [.ref x0])) rfl rfl (hb hby d14_1)
 refine goo st'0 ?_
 refine goo (fun _ k => XS.aloadN X'0.here hx rfl (hb hby d14_4) rfl rfl k) ?_
 obtain ⟨T'1, X'1, e'1, st'1⟩ := getF X'0 hx hZ hown (host := "") (Or.inl (qw hw 54 rfl)) Via.refl e'0 p2_ (g := (mkF m 5 #[rv x0] [.ref x0, .int i_2])) rfl rfl (hb hby d14_5)
 refine goo st'1 ?_
 obtain ⟨cl703, Ar703, -, S703, N703, -, -⟩ := id p6_
 refine goo (fun _ k => X'1.arraylength hx (cell := cl703) (by rw [e'1]; exact Ar703.1) (State.isArrayOf_alike hZ.alike Ar703.2.1) (g := (mkF m 8 #[rv x0] [.ref ea, .int i_2])) rfl rfl (hb hby d14_8) _ (by rw [len_of S703 N703]; exact k)) ?_
 show own_G _ _ _ _ (T'1.setTop (mkF m 9 #[rv x0] [.int i_32, .int i_2]))
 refine goo (fun _ k => XS.icmpYes X'1.here hx rfl (pc0 := 9) (pc' := 29) rfl (hb hby d14_9) rfl ((feq (by decide : ¬ (i_2 = i_32))).2) (by decide) (by decide) <| XS.aloadN X'1.here hx rfl (hb hby d14_29) rfl rfl k) ?_
 obtain ⟨T'2, X'2, e'2, st'2⟩ := getF X'1 hx hZ hown (host := "") (Or.inl (qw hw 54 rfl)) Via.refl e'1 p2_ (g := (mkF m 30 #[rv x0] [.ref x0])) rfl rfl (hb hby d14_30)
 refine goo st'2 ?_
 refine goo (fun _ k => XS.aloadN X'2.here hx rfl (hb hby d14_33) rfl rfl <| XS.dup X'2.here hx rfl (hb hby d14_34) rfl rfl k) ?_
 obtain ⟨T'3, X'3, e'3, st'3⟩ := getF X'2 hx hZ hown (host := "") (Or.inl (qw hw 71 rfl)) Via.refl e'2 p4_ (g := (mkF m 35 #[rv x0] [.ref x0, .ref x0, .ref ea])) rfl rfl (hb hby d14_35)
 refine goo st'3 ?_
 show own_G _ _ _ _ (T'3.setTop (mkF m 38 #[rv x0] [.int i_2, .ref x0, .ref ea]))
 refine goo (fun _ k => XS.dupX1 X'3.here hx rfl (hb hby d14_38) rfl rfl rfl <| XS.iconst X'3.here hx rfl (hb hby d14_39) <| XS.iadd X'3.here hx rfl (hb hby d14_40) rfl k) ?_
 obtain ⟨T'4, h'4, X'4, e'4, W'4, st'4⟩ := putF X'3 hx hZ hown (host := "") (Or.inl (qw hw 71 rfl)) Via.refl e'3 p4_ p0_ (Or.inl (qw hw 72 rfl)) (qw hw 45 rfl) (ty := .int) (by decide) rfl rfl (g := (mkF m 41 #[rv x0] [.int i_3, .ref x0, .int i_2, .ref ea])) rfl rfl (hb hby d14_41)
 have X_5 := p0_.wr W'4
 have F_6 := p1_.other W'4 (Or.inr (slot_ne (Or.inl (qw hw 52 rfl)) (Or.inl (qw hw 72 rfl)) (by decide) (t := (.array .char)) (t' := .int) (by decide) (by decide)))
 have F_7 := p2_.other W'4 (Or.inr (slot_ne (Or.inl (qw hw 55 rfl)) (Or.inl (qw hw 72 rfl)) (by decide) (t := (.array .int)) (t' := .int) (by decide) (by decide)))
 have F_8 := p3_.other W'4 (Or.inr (slot_ne (Or.inl (qw hw 74 rfl)) (Or.inl (qw hw 72 rfl)) (by decide) (t := .int) (t' := .int) (by decide) (by decide)))
 have V_9 := p5_.other W'4 (Ne.symm p10_)
 have V_a := p6_.other W'4 (Ne.symm p11_)
 have F_b := p4_.same W'4
 have KP_c : Keep h0 h'4 [x0, ea] := KP0.wr W'4 (Or.inl (List.mem_of_getElem? (i := 0) rfl))
 have N_4 := Fr.snoc X'4 N0 p7_
 refine goo st'4 ?_
 refine goo (fun _ k => XS.aloadN X'4.here hx rfl (hb hby d14_44) rfl rfl k) ?_
 obtain ⟨T'd, X'd, e'd, st'd⟩ := getF X'4 hx hZ hown (host := "") (Or.inl (qw hw 73 rfl)) Via.refl e'4 F_8 (g := (mkF m 45 #[rv x0] [.ref x0, .int i_2, .ref ea])) rfl rfl (hb hby d14_45)
 refine goo st'd ?_
 show own_G _ _ _ _ (T'd.setTop (mkF m 48 #[rv x0] [.int l_, .int i_2, .ref ea]))
 obtain ⟨cl717, Ar717, q'e, S717, N717, H717, G717⟩ := id V_a
 obtain ⟨T'e, h'e, X'e, e'e, W'e, st'e⟩ := stI X'd hx hZ e'd Ar717 (j := i_2) (inb_of S717 ⟨by decide, by decide⟩) (g := (mkF m 48 #[rv x0] [.int l_, .int i_2, .ref ea])) rfl rfl (hb hby d14_48)
 have X_f := X_5.wr W'e
 have F_g := F_6.other W'e (Or.inl p11_)
 have F_h := F_7.other W'e (Or.inl p11_)
 have F_i := F_8.other W'e (Or.inl p11_)
 have F_j := F_b.other W'e (Or.inl p11_)
 have V_k := V_9.other W'e p12_
 have V717 : Arv Z h'e ea ke .int i_32 [.int en0, .int en1, .int l_, .int en3] (.int i_0) := Arv.set Ar717 q'e S717 N717 H717 G717 rfl W'e 2 rfl (Nat.le_of_ble_eq_true rfl)
 have KP_l : Keep h0 h'e [x0, ea] := KP_c.wr W'e (Or.inl (List.mem_of_getElem? (i := 1) rfl))
 have N_e := Fr.snoc X'e N_4 p9_
 refine goo st'e ?_
 show own_G _ _ _ _ (T'e.setTop (mkF m 49 #[rv x0] []))
 exact own_end X'e Bd.notSynchronized (v := none) (fun _ => rfl) (Q := Q_rm_end2 Z x0 ca ea kc ke w0 w1 w2 w3 w4 w5 en0 en1 en2 en3 l_ h0 n0) (by show Q_rm_end2 Z x0 ca ea kc ke w0 w1 w2 w3 w4 w5 en0 en1 en2 en3 l_ h0 n0 (none) T'e.heap _; rw [e'e]; exact ⟨rfl, N_e, KP_l, X_f, F_g, F_h, F_i, F_j, V_k, V717⟩) (fun fs hr => X'e.returnOut hx Bd.returns (hb hby d14_49) hr) (by decide) (by decide)
def Q_rm_end3 (Z : State) (x0 : Addr) (ca ea : Addr) (kc ke : ClassId) (w0 w1 w2 w3 w4 w5 en0 en1 en2 en3 l_ : Int32) (h0 : Heap) (n0 : Nat) (v : Option Value) (h : Heap) (L : List Loc) : Prop := v = none ∧ Fr n0 L ∧ Keep h0 h [x0, ea] ∧ Exa Z h x0 s_3 ∧ Fld Z h x0 s_3 "chars" "[C" (.ref ca) ∧ Fld Z h x0 s_3 "ends" "[I" (.ref ea) ∧ Fld Z h x0 s_3 "length" "I" (.int l_) ∧ Fld Z h x0 s_3 "size" "I" (.int i_4) ∧ Arv Z h ca kc .char i_256 [.int w0, .int w1, .int w2, .int w3, .int w4, .int w5] (.int i_0) ∧ Arv Z h ea ke .int i_32 [.int en0, .int en1, .int en2, .int l_] (.int i_0)
theorem rm_end3 (l : Launch) (Z : State) (a0 : Array Value) (hw : own_HW a0 Z) (ws : List Jvm.Cond) (x0 : Addr) (ca ea : Addr) (kc ke : ClassId) (w0 w1 w2 w3 w4 w5 en0 en1 en2 en3 l_ : Int32) (h0 : Heap) (n0 : Nat) (Z0 : n0 ≤ h0.size) (p0_ : Exa Z h0 x0 s_3) (p1_ : Fld Z h0 x0 s_3 "chars" "[C" (.ref ca)) (p2_ : Fld Z h0 x0 s_3 "ends" "[I" (.ref ea)) (p3_ : Fld Z h0 x0 s_3 "length" "I" (.int l_)) (p4_ : Fld Z h0 x0 s_3 "size" "I" (.int i_3)) (p5_ : Arv Z h0 ca kc .char i_256 [.int w0, .int w1, .int w2, .int w3, .int w4, .int w5] (.int i_0)) (p6_ : Arv Z h0 ea ke .int i_32 [.int en0, .int en1, .int en2, .int en3] (.int i_0)) (p7_ : n0 ≤ x0) (p8_ : n0 ≤ ca) (p9_ : n0 ≤ ea) (p10_ : x0 ≠ ca) (p11_ : x0 ≠ ea) (p12_ : ca ≠ ea)  :
  MetFree l Y26 (head1 (Jvm.Cond.code Y26 prog_116_method_8_code 1 none :: ws) (rr 0 0 0 0)) (fun a U => a = #[.ref x0] ∧ Z.Warmed39 U.vm ∧ U.heap = h0) (fun _ _ _ _ _ => True) (fun _ U o U' => ∃ v L, o = .returned v ∧ Q_rm_end3 Z x0 ca ea kc ke w0 w1 w2 w3 w4 w5 en0 en1 en2 en3 l_ h0 n0 v U'.heap L ∧ FrameEnd U o U' L (rr 0 0 0 0).cells (rr 0 0 0 0).slots) := by
 refine MetFree.of_bodySF (plainFor_of_name own_pn5) hisR ?_
 intro p e s m args below meth c s₁ Bd hml0 hP hK
 obtain ⟨rfl, hZ, hh⟩ := hP
 have hx := Bd.exec
 have hby := Bd.bytes
 have hml : c.maxLocals = 1 := hml0
 have hown : s.vm.findClass s_3 = some m.cls := findClass_of_methodNamed Bd.named
 have hnm := (name_of_methodNamed Bd.named Bd.method).1
 have X0 : Stand p l e (rr 0 0 0 0) s m #[.ref x0] below meth c s₁ [] 0 0 := Stand.of_body Bd
 have e0 : s₁.heap = h0 := by rw [← hh, Bd.state]; rfl
 show own_G _ _ _ _ (s₁.setTop (entryFrame m #[.ref x0] 1))
 refine goo (fun _ k => castTop (ef_14_R m x0) k) ?_
 have N0 := Fr.nil n0
 have KP0 := Keep.refl h0 [x0, ea]
 refine goo (fun _ k => XS.aloadN X0.here hx rfl (hb hby d14_0) rfl rfl k) ?_
 obtain ⟨T'0, X'0, e'0, st'0⟩ := getF X0 hx hZ hown (host := "") (Or.inl (qw hw 71 rfl)) Via.refl e0 p4_ (g := (mkF m 1 #[rv x0] [.ref x0])) rfl rfl (hb hby d14_1)
 refine goo st'0 ?_
 refine goo (fun _ k => XS.aloadN X'0.here hx rfl (hb hby d14_4) rfl rfl k) ?_
 obtain ⟨T'1, X'1, e'1, st'1⟩ := getF X'0 hx hZ hown (host := "") (Or.inl (qw hw 54 rfl)) Via.refl e'0 p2_ (g := (mkF m 5 #[rv x0] [.ref x0, .int i_3])) rfl rfl (hb hby d14_5)
 refine goo st'1 ?_
 obtain ⟨cl728, Ar728, -, S728, N728, -, -⟩ := id p6_
 refine goo (fun _ k => X'1.arraylength hx (cell := cl728) (by rw [e'1]; exact Ar728.1) (State.isArrayOf_alike hZ.alike Ar728.2.1) (g := (mkF m 8 #[rv x0] [.ref ea, .int i_3])) rfl rfl (hb hby d14_8) _ (by rw [len_of S728 N728]; exact k)) ?_
 show own_G _ _ _ _ (T'1.setTop (mkF m 9 #[rv x0] [.int i_32, .int i_3]))
 refine goo (fun _ k => XS.icmpYes X'1.here hx rfl (pc0 := 9) (pc' := 29) rfl (hb hby d14_9) rfl ((feq (by decide : ¬ (i_3 = i_32))).2) (by decide) (by decide) <| XS.aloadN X'1.here hx rfl (hb hby d14_29) rfl rfl k) ?_
 obtain ⟨T'2, X'2, e'2, st'2⟩ := getF X'1 hx hZ hown (host := "") (Or.inl (qw hw 54 rfl)) Via.refl e'1 p2_ (g := (mkF m 30 #[rv x0] [.ref x0])) rfl rfl (hb hby d14_30)
 refine goo st'2 ?_
 refine goo (fun _ k => XS.aloadN X'2.here hx rfl (hb hby d14_33) rfl rfl <| XS.dup X'2.here hx rfl (hb hby d14_34) rfl rfl k) ?_
 obtain ⟨T'3, X'3, e'3, st'3⟩ := getF X'2 hx hZ hown (host := "") (Or.inl (qw hw 71 rfl)) Via.refl e'2 p4_ (g := (mkF m 35 #[rv x0] [.ref x0, .ref x0, .ref ea])) rfl rfl (hb hby d14_35)
 refine goo st'3 ?_
 show own_G _ _ _ _ (T'3.setTop (mkF m 38 #[rv x0] [.int i_3, .ref x0, .ref ea]))
 refine goo (fun _ k => XS.dupX1 X'3.here hx rfl (hb hby d14_38) rfl rfl rfl <| XS.iconst X'3.here hx rfl (hb hby d14_39) <| XS.iadd X'3.here hx rfl (hb hby d14_40) rfl k) ?_
 obtain ⟨T'4, h'4, X'4, e'4, W'4, st'4⟩ := putF X'3 hx hZ hown (host := "") (Or.inl (qw hw 71 rfl)) Via.refl e'3 p4_ p0_ (Or.inl (qw hw 72 rfl)) (qw hw 45 rfl) (ty := .int) (by decide) rfl rfl (g := (mkF m 41 #[rv x0] [.int i_4, .ref x0, .int i_3, .ref ea])) rfl rfl (hb hby d14_41)
 have X_5 := p0_.wr W'4
 have F_6 := p1_.other W'4 (Or.inr (slot_ne (Or.inl (qw hw 52 rfl)) (Or.inl (qw hw 72 rfl)) (by decide) (t := (.array .char)) (t' := .int) (by decide) (by decide)))
 have F_7 := p2_.other W'4 (Or.inr (slot_ne (Or.inl (qw hw 55 rfl)) (Or.inl (qw hw 72 rfl)) (by decide) (t := (.array .int)) (t' := .int) (by decide) (by decide)))
 have F_8 := p3_.other W'4 (Or.inr (slot_ne (Or.inl (qw hw 74 rfl)) (Or.inl (qw hw 72 rfl)) (by decide) (t := .int) (t' := .int) (by decide) (by decide)))
 have V_9 := p5_.other W'4 (Ne.symm p10_)
 have V_a := p6_.other W'4 (Ne.symm p11_)
 have F_b := p4_.same W'4
 have KP_c : Keep h0 h'4 [x0, ea] := KP0.wr W'4 (Or.inl (List.mem_of_getElem? (i := 0) rfl))
 have N_4 := Fr.snoc X'4 N0 p7_
 refine goo st'4 ?_
 refine goo (fun _ k => XS.aloadN X'4.here hx rfl (hb hby d14_44) rfl rfl k) ?_
 obtain ⟨T'd, X'd, e'd, st'd⟩ := getF X'4 hx hZ hown (host := "") (Or.inl (qw hw 73 rfl)) Via.refl e'4 F_8 (g := (mkF m 45 #[rv x0] [.ref x0, .int i_3, .ref ea])) rfl rfl (hb hby d14_45)
 refine goo st'd ?_
 show own_G _ _ _ _ (T'd.setTop (mkF m 48 #[rv x0] [.int l_, .int i_3, .ref ea]))
 obtain ⟨cl742, Ar742, q'e, S742, N742, H742, G742⟩ := id V_a
 obtain ⟨T'e, h'e, X'e, e'e, W'e, st'e⟩ := stI X'd hx hZ e'd Ar742 (j := i_3) (inb_of S742 ⟨by decide, by decide⟩) (g := (mkF m 48 #[rv x0] [.int l_, .int i_3, .ref ea])) rfl rfl (hb hby d14_48)
 have X_f := X_5.wr W'e
 have F_g := F_6.other W'e (Or.inl p11_)
 have F_h := F_7.other W'e (Or.inl p11_)
 have F_i := F_8.other W'e (Or.inl p11_)
 have F_j := F_b.other W'e (Or.inl p11_)
 have V_k := V_9.other W'e p12_
 have V742 : Arv Z h'e ea ke .int i_32 [.int en0, .int en1, .int en2, .int l_] (.int i_0) := Arv.set Ar742 q'e S742 N742 H742 G742 rfl W'e 3 rfl (Nat.le_of_ble_eq_true rfl)
 have KP_l : Keep h0 h'e [x0, ea] := KP_c.wr W'e (Or.inl (List.mem_of_getElem? (i := 1) rfl))
 have N_e := Fr.snoc X'e N_4 p9_
 refine goo st'e ?_
 show own_G _ _ _ _ (T'e.setTop (mkF m 49 #[rv x0] []))
 exact own_end X'e Bd.notSynchronized (v := none) (fun _ => rfl) (Q := Q_rm_end3 Z x0 ca ea kc ke w0 w1 w2 w3 w4 w5 en0 en1 en2 en3 l_ h0 n0) (by show Q_rm_end3 Z x0 ca ea kc ke w0 w1 w2 w3 w4 w5 en0 en1 en2 en3 l_ h0 n0 (none) T'e.heap _; rw [e'e]; exact ⟨rfl, N_e, KP_l, X_f, F_g, F_h, F_i, F_j, V_k, V742⟩) (fun fs hr => X'e.returnOut hx Bd.returns (hb hby d14_49) hr) (by decide) (by decide)
def Q_rm_app0 (Z : State) (x0 : Addr) (x1 : Int32) (ca ea : Addr) (kc ke : ClassId) (w0 w1 w2 w3 w4 w5 en0 en1 en2 en3 l_ : Int32) (s_ : Int32) (h0 : Heap) (n0 : Nat) (v : Option Value) (h : Heap) (L : List Loc) : Prop := v = some (.ref x0) ∧ Fr n0 L ∧ Keep h0 h [x0, ca] ∧ Exa Z h x0 s_3 ∧ Fld Z h x0 s_3 "chars" "[C" (.ref ca) ∧ Fld Z h x0 s_3 "ends" "[I" (.ref ea) ∧ Fld Z h x0 s_3 "length" "I" (.int i_1) ∧ Fld Z h x0 s_3 "size" "I" (.int s_) ∧ Arv Z h ca kc .char i_256 [.int x1, .int w1, .int w2, .int w3, .int w4, .int w5] (.int i_0) ∧ Arv Z h ea ke .int i_32 [.int en0, .int en1, .int en2, .int en3] (.int i_0)
theorem own_pd17 : parseMethodDescriptor "(I)V" = some ⟨[.int], none⟩ := by decide +kernel
theorem d34_0 : decode prog_116_method_6_code 0 = .ok (.aload_n 0, 1) := by decide +kernel
theorem d34_1 : decode prog_116_method_6_code 1 = .ok (.iconst 1, 1) := by decide +kernel
theorem d34_2 : decode prog_116_method_6_code 2 = .ok (.invokevirtual 42, 3) := by decide +kernel
theorem d34_5 : decode prog_116_method_6_code 5 = .ok (.aload_n 0, 1) := by decide +kernel
theorem d34_6 : decode prog_116_method_6_code 6 = .ok (.getfield 7, 3) := by decide +kernel
theorem d34_9 : decode prog_116_method_6_code 9 = .ok (.aload_n 0, 1) := by decide +kernel
theorem d34_10 : decode prog_116_method_6_code 10 = .ok (.dup, 1) := by decide +kernel
theorem d34_11 : decode prog_116_method_6_code 11 = .ok (.getfield 30, 3) := by decide +kernel
theorem d34_14 : decode prog_116_method_6_code 14 = .ok (.dup_x1, 1) := by decide +kernel
theorem d34_15 : decode prog_116_method_6_code 15 = .ok (.iconst 1, 1) := by decide +kernel
theorem d34_16 : decode prog_116_method_6_code 16 = .ok (.iadd, 1) := by decide +kernel
theorem d34_17 : decode prog_116_method_6_code 17 = .ok (.putfield 30, 3) := by decide +kernel
theorem d34_20 : decode prog_116_method_6_code 20 = .ok (.iload_n 1, 1) := by decide +kernel
theorem d34_21 : decode prog_116_method_6_code 21 = .ok (.castore, 1) := by decide +kernel
theorem d34_22 : decode prog_116_method_6_code 22 = .ok (.aload_n 0, 1) := by decide +kernel
theorem d34_23 : decode prog_116_method_6_code 23 = .ok (.areturn, 1) := by decide +kernel
theorem ef_34_RI (m : MethodId) (x0 : Addr) (x1 : Int32) : entryFrame m #[(.ref x0), (.int x1)] 2 = mkF m 0 #[.val (.ref x0), .val (.int x1)] [] := by
  first | (simp [entryFrame, mkF, argsToLocals, Value.category]; done) | rfl
theorem rm_app0 (l : Launch) (Z : State) (a0 : Array Value) (hw : own_HW a0 Z) (ws : List Jvm.Cond) (x0 : Addr) (x1 : Int32) (ca ea : Addr) (kc ke : ClassId) (w0 w1 w2 w3 w4 w5 en0 en1 en2 en3 l_ : Int32) (s_ : Int32) (h0 : Heap) (n0 : Nat) (Z0 : n0 ≤ h0.size) (p0_ : Exa Z h0 x0 s_3) (p1_ : Fld Z h0 x0 s_3 "chars" "[C" (.ref ca)) (p2_ : Fld Z h0 x0 s_3 "ends" "[I" (.ref ea)) (p3_ : Fld Z h0 x0 s_3 "length" "I" (.int i_0)) (p4_ : Fld Z h0 x0 s_3 "size" "I" (.int s_)) (p5_ : Arv Z h0 ca kc .char i_256 [.int w0, .int w1, .int w2, .int w3, .int w4, .int w5] (.int i_0)) (p6_ : Arv Z h0 ea ke .int i_32 [.int en0, .int en1, .int en2, .int en3] (.int i_0)) (p7_ : n0 ≤ x0) (p8_ : n0 ≤ ca) (p9_ : n0 ≤ ea) (p10_ : x0 ≠ ca) (p11_ : x0 ≠ ea) (p12_ : ca ≠ ea) (p13_ : own_ok x1)  :
  MetFree l Y27 (head1 (Jvm.Cond.code Y27 prog_116_method_6_code 2 (some (.object s_3)) :: ws) (rr 1 0 0 13)) (fun a U => a = #[.ref x0, .int x1] ∧ Z.Warmed39 U.vm ∧ U.heap = h0) (fun _ _ _ _ _ => True) (fun _ U o U' => ∃ v L, o = .returned v ∧ Q_rm_app0 Z x0 x1 ca ea kc ke w0 w1 w2 w3 w4 w5 en0 en1 en2 en3 l_ s_ h0 n0 v U'.heap L ∧ FrameEnd U o U' L (rr 1 0 0 13).cells (rr 1 0 0 13).slots) := by
 refine MetFree.of_bodySF (plainFor_of_name own_pn5) hisR ?_
 intro p e s m args below meth c s₁ Bd hml0 hP hK
 obtain ⟨rfl, hZ, hh⟩ := hP
 have hx := Bd.exec
 have hby := Bd.bytes
 have hml : c.maxLocals = 2 := hml0
 have hown : s.vm.findClass s_3 = some m.cls := findClass_of_methodNamed Bd.named
 have hnm := (name_of_methodNamed Bd.named Bd.method).1
 have X0 : Stand p l e (rr 1 0 0 13) s m #[.ref x0, .int x1] below meth c s₁ [] 0 0 := Stand.of_body Bd
 have e0 : s₁.heap = h0 := by rw [← hh, Bd.state]; rfl
 show own_G _ _ _ _ (s₁.setTop (entryFrame m #[.ref x0, .int x1] 2))
 refine goo (fun _ k => castTop (ef_34_RI m x0 x1) k) ?_
 have N0 := Fr.nil n0
 have KP0 := Keep.refl h0 [x0, ca]
 refine goo (fun _ k => XS.aloadN X0.here hx rfl (hb hby d34_0) rfl rfl <| XS.iconst X0.here hx rfl (hb hby d34_1) k) ?_
 obtain ⟨T'0, X'0, e'0, st'0⟩ := own_callVp X0 hx hZ (y := Y25) hown (qw hw 147 rfl) (qw hw 149 rfl) (qw hw 45 rfl) (qw hw 148 rfl) (qw hw 46 rfl) (qw hw 150 rfl) (by decide) (W := 0) (rm28 l Z a0 hw [] x0 i_1 i_0 ca kc w0 w1 w2 w3 w4 w5 h0 p3_ p1_ p5_ (by decide)) (by decide) (by decide) rfl rfl e0 p0_ (g := (mkF m 2 #[rv x0, iv x1] [.int i_1, .ref x0])) rfl (by rw [hml]; rfl) (argsL := [.int i_1]) (rest := []) (lenOf own_pd17 rfl) rfl rfl (Nat.le_of_eq rfl) (hb hby d34_2) (by decide) (by decide)
 refine goo st'0 ?_
 refine goo (fun _ k => XS.aloadN X'0.here hx rfl (hb hby d34_5) rfl rfl k) ?_
 obtain ⟨T'1, X'1, e'1, st'1⟩ := getF X'0 hx hZ hown (host := "") (Or.inl (qw hw 51 rfl)) Via.refl e'0 p1_ (g := (mkF m 6 #[rv x0, iv x1] [.ref x0])) rfl rfl (hb hby d34_6)
 refine goo st'1 ?_
 show own_G _ _ _ _ (T'1.setTop (mkF m 9 #[rv x0, iv x1] [.ref ca]))
 refine goo (fun _ k => XS.aloadN X'1.here hx rfl (hb hby d34_9) rfl rfl <| XS.dup X'1.here hx rfl (hb hby d34_10) rfl rfl k) ?_
 obtain ⟨T'2, X'2, e'2, st'2⟩ := getF X'1 hx hZ hown (host := "") (Or.inl (qw hw 73 rfl)) Via.refl e'1 p3_ (g := (mkF m 11 #[rv x0, iv x1] [.ref x0, .ref x0, .ref ca])) rfl rfl (hb hby d34_11)
 refine goo st'2 ?_
 refine goo (fun _ k => XS.dupX1 X'2.here hx rfl (hb hby d34_14) rfl rfl rfl <| XS.iconst X'2.here hx rfl (hb hby d34_15) <| XS.iadd X'2.here hx rfl (hb hby d34_16) rfl k) ?_
 show own_G _ _ _ _ (T'2.setTop (mkF m 17 #[rv x0, iv x1] [.int i_1, .ref x0, .int i_0, .ref ca]))
 obtain ⟨T'3, h'3, X'3, e'3, W'3, st'3⟩ := putF X'2 hx hZ hown (host := "") (Or.inl (qw hw 73 rfl)) Via.refl e'2 p3_ p0_ (Or.inl (qw hw 74 rfl)) (qw hw 45 rfl) (ty := .int) (by decide) rfl rfl (g := (mkF m 17 #[rv x0, iv x1] [.int i_1, .ref x0, .int i_0, .ref ca])) rfl rfl (hb hby d34_17)
 have X_4 := p0_.wr W'3
 have F_5 := p1_.other W'3 (Or.inr (slot_ne (Or.inl (qw hw 52 rfl)) (Or.inl (qw hw 74 rfl)) (by decide) (t := (.array .char)) (t' := .int) (by decide) (by decide)))
 have F_6 := p2_.other W'3 (Or.inr (slot_ne (Or.inl (qw hw 55 rfl)) (Or.inl (qw hw 74 rfl)) (by decide) (t := (.array .int)) (t' := .int) (by decide) (by decide)))
 have F_7 := p4_.other W'3 (Or.inr (slot_ne (Or.inl (qw hw 72 rfl)) (Or.inl (qw hw 74 rfl)) (by decide) (t := .int) (t' := .int) (by decide) (by decide)))
 have V_8 := p5_.other W'3 (Ne.symm p10_)
 have V_9 := p6_.other W'3 (Ne.symm p11_)
 have F_a := p3_.same W'3
 have KP_b : Keep h0 h'3 [x0, ca] := KP0.wr W'3 (Or.inl (List.mem_of_getElem? (i := 0) rfl))
 have N_3 := Fr.snoc X'3 N0 p7_
 refine goo st'3 ?_
 refine goo (fun _ k => XS.iloadN X'3.here hx rfl (hb hby d34_20) rfl k) ?_
 obtain ⟨cl764, Ar764, q'c, S764, N764, H764, G764⟩ := id V_8
 obtain ⟨T'c, h'c, X'c, e'c, W'c, st'c⟩ := stC X'3 hx hZ e'3 Ar764 (j := i_0) (inb_of S764 ⟨by decide, by decide⟩) (g := (mkF m 21 #[rv x0, iv x1] [.int x1, .int i_0, .ref ca])) rfl rfl (hb hby d34_21)
 have X_d := X_4.wr W'c
 have F_e := F_5.other W'c (Or.inl p10_)
 have F_f := F_6.other W'c (Or.inl p10_)
 have F_g := F_a.other W'c (Or.inl p10_)
 have F_h := F_7.other W'c (Or.inl p10_)
 have V_i := V_9.other W'c (Ne.symm p12_)
 have V764 : Arv Z h'c ca kc .char i_256 [(.int (nar .char x1)), .int w1, .int w2, .int w3, .int w4, .int w5] (.int i_0) := Arv.set Ar764 q'c S764 N764 H764 G764 (fits_nar_char _) W'c 0 rfl (Nat.le_of_ble_eq_true rfl)
 rw [own_nar p13_] at V764
 have KP_j : Keep h0 h'c [x0, ca] := KP_b.wr W'c (Or.inl (List.mem_of_getElem? (i := 1) rfl))
 have N_c := Fr.snoc X'c N_3 p8_
 refine goo st'c ?_
 refine goo (fun _ k => XS.aloadN X'c.here hx rfl (hb hby d34_22) rfl rfl k) ?_
 show own_G _ _ _ _ (T'c.setTop (mkF m 23 #[rv x0, iv x1] [.ref x0]))
 exact own_end X'c Bd.notSynchronized (v := some (.ref x0)) (fun h => by rw [Bd.returns] at h; cases h) (Q := Q_rm_app0 Z x0 x1 ca ea kc ke w0 w1 w2 w3 w4 w5 en0 en1 en2 en3 l_ s_ h0 n0) (by show Q_rm_app0 Z x0 x1 ca ea kc ke w0 w1 w2 w3 w4 w5 en0 en1 en2 en3 l_ s_ h0 n0 (some (.ref x0)) T'c.heap _; rw [e'c]; exact ⟨rfl, N_c, KP_j, X_d, F_e, F_f, F_g, F_h, V764, V_i⟩) (fun fs hr => own_retA X'c hx Bd.returns rfl rfl (hb hby d34_23) hr) (by decide) (by decide)
def Q_rm_app1 (Z : State) (x0 : Addr) (x1 : Int32) (ca ea : Addr) (kc ke : ClassId) (w0 w1 w2 w3 w4 w5 en0 en1 en2 en3 l_ : Int32) (s_ : Int32) (h0 : Heap) (n0 : Nat) (v : Option Value) (h : Heap) (L : List Loc) : Prop := v = some (.ref x0) ∧ Fr n0 L ∧ Keep h0 h [x0, ca] ∧ Exa Z h x0 s_3 ∧ Fld Z h x0 s_3 "chars" "[C" (.ref ca) ∧ Fld Z h x0 s_3 "ends" "[I" (.ref ea) ∧ Fld Z h x0 s_3 "length" "I" (.int i_2) ∧ Fld Z h x0 s_3 "size" "I" (.int s_) ∧ Arv Z h ca kc .char i_256 [.int w0, .int x1, .int w2, .int w3, .int w4, .int w5] (.int i_0) ∧ Arv Z h ea ke .int i_32 [.int en0, .int en1, .int en2, .int en3] (.int i_0)
theorem rm_app1 (l : Launch) (Z : State) (a0 : Array Value) (hw : own_HW a0 Z) (ws : List Jvm.Cond) (x0 : Addr) (x1 : Int32) (ca ea : Addr) (kc ke : ClassId) (w0 w1 w2 w3 w4 w5 en0 en1 en2 en3 l_ : Int32) (s_ : Int32) (h0 : Heap) (n0 : Nat) (Z0 : n0 ≤ h0.size) (p0_ : Exa Z h0 x0 s_3) (p1_ : Fld Z h0 x0 s_3 "chars" "[C" (.ref ca)) (p2_ : Fld Z h0 x0 s_3 "ends" "[I" (.ref ea)) (p3_ : Fld Z h0 x0 s_3 "length" "I" (.int i_1)) (p4_ : Fld Z h0 x0 s_3 "size" "I" (.int s_)) (p5_ : Arv Z h0 ca kc .char i_256 [.int w0, .int w1, .int w2, .int w3, .int w4, .int w5] (.int i_0)) (p6_ : Arv Z h0 ea ke .int i_32 [.int en0, .int en1, .int en2, .int en3] (.int i_0)) (p7_ : n0 ≤ x0) (p8_ : n0 ≤ ca) (p9_ : n0 ≤ ea) (p10_ : x0 ≠ ca) (p11_ : x0 ≠ ea) (p12_ : ca ≠ ea) (p13_ : own_ok x1)  :
  MetFree l Y27 (head1 (Jvm.Cond.code Y27 prog_116_method_6_code 2 (some (.object s_3)) :: ws) (rr 1 0 0 13)) (fun a U => a = #[.ref x0, .int x1] ∧ Z.Warmed39 U.vm ∧ U.heap = h0) (fun _ _ _ _ _ => True) (fun _ U o U' => ∃ v L, o = .returned v ∧ Q_rm_app1 Z x0 x1 ca ea kc ke w0 w1 w2 w3 w4 w5 en0 en1 en2 en3 l_ s_ h0 n0 v U'.heap L ∧ FrameEnd U o U' L (rr 1 0 0 13).cells (rr 1 0 0 13).slots) := by
 refine MetFree.of_bodySF (plainFor_of_name own_pn5) hisR ?_
 intro p e s m args below meth c s₁ Bd hml0 hP hK
 obtain ⟨rfl, hZ, hh⟩ := hP
 have hx := Bd.exec
 have hby := Bd.bytes
 have hml : c.maxLocals = 2 := hml0
 have hown : s.vm.findClass s_3 = some m.cls := findClass_of_methodNamed Bd.named
 have hnm := (name_of_methodNamed Bd.named Bd.method).1
 have X0 : Stand p l e (rr 1 0 0 13) s m #[.ref x0, .int x1] below meth c s₁ [] 0 0 := Stand.of_body Bd
 have e0 : s₁.heap = h0 := by rw [← hh, Bd.state]; rfl
 show own_G _ _ _ _ (s₁.setTop (entryFrame m #[.ref x0, .int x1] 2))
 refine goo (fun _ k => castTop (ef_34_RI m x0 x1) k) ?_
 have N0 := Fr.nil n0
 have KP0 := Keep.refl h0 [x0, ca]
 refine goo (fun _ k => XS.aloadN X0.here hx rfl (hb hby d34_0) rfl rfl <| XS.iconst X0.here hx rfl (hb hby d34_1) k) ?_
 obtain ⟨T'0, X'0, e'0, st'0⟩ := own_callVp X0 hx hZ (y := Y25) hown (qw hw 147 rfl) (qw hw 149 rfl) (qw hw 45 rfl) (qw hw 148 rfl) (qw hw 46 rfl) (qw hw 150 rfl) (by decide) (W := 0) (rm28 l Z a0 hw [] x0 i_1 i_1 ca kc w0 w1 w2 w3 w4 w5 h0 p3_ p1_ p5_ (by decide)) (by decide) (by decide) rfl rfl e0 p0_ (g := (mkF m 2 #[rv x0, iv x1] [.int i_1, .ref x0])) rfl (by rw [hml]; rfl) (argsL := [.int i_1]) (rest := []) (lenOf own_pd17 rfl) rfl rfl (Nat.le_of_eq rfl) (hb hby d34_2) (by decide) (by decide)
 refine goo st'0 ?_
 refine goo (fun _ k => XS.aloadN X'0.here hx rfl (hb hby d34_5) rfl rfl k) ?_
 obtain ⟨T'1, X'1, e'1, st'1⟩ := getF X'0 hx hZ hown (host := "") (Or.inl (qw hw 51 rfl)) Via.refl e'0 p1_ (g := (mkF m 6 #[rv x0, iv x1] [.ref x0])) rfl rfl (hb hby d34_6)
 refine goo st'1 ?_
 show own_G _ _ _ _ (T'1.setTop (mkF m 9 #[rv x0, iv x1] [.ref ca]))
 refine goo (fun _ k => XS.aloadN X'1.here hx rfl (hb hby d34_9) rfl rfl <| XS.dup X'1.here hx rfl (hb hby d34_10) rfl rfl k) ?_
 obtain ⟨T'2, X'2, e'2, st'2⟩ := getF X'1 hx hZ hown (host := "") (Or.inl (qw hw 73 rfl)) Via.refl e'1 p3_ (g := (mkF m 11 #[rv x0, iv x1] [.ref x0, .ref x0, .ref ca])) rfl rfl (hb hby d34_11)
 refine goo st'2 ?_
 refine goo (fun _ k => XS.dupX1 X'2.here hx rfl (hb hby d34_14) rfl rfl rfl <| XS.iconst X'2.here hx rfl (hb hby d34_15) <| XS.iadd X'2.here hx rfl (hb hby d34_16) rfl k) ?_
 show own_G _ _ _ _ (T'2.setTop (mkF m 17 #[rv x0, iv x1] [.int i_2, .ref x0, .int i_1, .ref ca]))
 obtain ⟨T'3, h'3, X'3, e'3, W'3, st'3⟩ := putF X'2 hx hZ hown (host := "") (Or.inl (qw hw 73 rfl)) Via.refl e'2 p3_ p0_ (Or.inl (qw hw 74 rfl)) (qw hw 45 rfl) (ty := .int) (by decide) rfl rfl (g := (mkF m 17 #[rv x0, iv x1] [.int i_2, .ref x0, .int i_1, .ref ca])) rfl rfl (hb hby d34_17)
 have X_4 := p0_.wr W'3
 have F_5 := p1_.other W'3 (Or.inr (slot_ne (Or.inl (qw hw 52 rfl)) (Or.inl (qw hw 74 rfl)) (by decide) (t := (.array .char)) (t' := .int) (by decide) (by decide)))
 have F_6 := p2_.other W'3 (Or.inr (slot_ne (Or.inl (qw hw 55 rfl)) (Or.inl (qw hw 74 rfl)) (by decide) (t := (.array .int)) (t' := .int) (by decide) (by decide)))
 have F_7 := p4_.other W'3 (Or.inr (slot_ne (Or.inl (qw hw 72 rfl)) (Or.inl (qw hw 74 rfl)) (by decide) (t := .int) (t' := .int) (by decide) (by decide)))
 have V_8 := p5_.other W'3 (Ne.symm p10_)
 have V_9 := p6_.other W'3 (Ne.symm p11_)
 have F_a := p3_.same W'3
 have KP_b : Keep h0 h'3 [x0, ca] := KP0.wr W'3 (Or.inl (List.mem_of_getElem? (i := 0) rfl))
 have N_3 := Fr.snoc X'3 N0 p7_
 refine goo st'3 ?_
 refine goo (fun _ k => XS.iloadN X'3.here hx rfl (hb hby d34_20) rfl k) ?_
 obtain ⟨cl786, Ar786, q'c, S786, N786, H786, G786⟩ := id V_8
 obtain ⟨T'c, h'c, X'c, e'c, W'c, st'c⟩ := stC X'3 hx hZ e'3 Ar786 (j := i_1) (inb_of S786 ⟨by decide, by decide⟩) (g := (mkF m 21 #[rv x0, iv x1] [.int x1, .int i_1, .ref ca])) rfl rfl (hb hby d34_21)
 have X_d := X_4.wr W'c
 have F_e := F_5.other W'c (Or.inl p10_)
 have F_f := F_6.other W'c (Or.inl p10_)
 have F_g := F_a.other W'c (Or.inl p10_)
 have F_h := F_7.other W'c (Or.inl p10_)
 have V_i := V_9.other W'c (Ne.symm p12_)
 have V786 : Arv Z h'c ca kc .char i_256 [.int w0, (.int (nar .char x1)), .int w2, .int w3, .int w4, .int w5] (.int i_0) := Arv.set Ar786 q'c S786 N786 H786 G786 (fits_nar_char _) W'c 1 rfl (Nat.le_of_ble_eq_true rfl)
 rw [own_nar p13_] at V786
 have KP_j : Keep h0 h'c [x0, ca] := KP_b.wr W'c (Or.inl (List.mem_of_getElem? (i := 1) rfl))
 have N_c := Fr.snoc X'c N_3 p8_
 refine goo st'c ?_
 refine goo (fun _ k => XS.aloadN X'c.here hx rfl (hb hby d34_22) rfl rfl k) ?_
 show own_G _ _ _ _ (T'c.setTop (mkF m 23 #[rv x0, iv x1] [.ref x0]))
 exact own_end X'c Bd.notSynchronized (v := some (.ref x0)) (fun h => by rw [Bd.returns] at h; cases h) (Q := Q_rm_app1 Z x0 x1 ca ea kc ke w0 w1 w2 w3 w4 w5 en0 en1 en2 en3 l_ s_ h0 n0) (by show Q_rm_app1 Z x0 x1 ca ea kc ke w0 w1 w2 w3 w4 w5 en0 en1 en2 en3 l_ s_ h0 n0 (some (.ref x0)) T'c.heap _; rw [e'c]; exact ⟨rfl, N_c, KP_j, X_d, F_e, F_f, F_g, F_h, V786, V_i⟩) (fun fs hr => own_retA X'c hx Bd.returns rfl rfl (hb hby d34_23) hr) (by decide) (by decide)
def Q_rm_app2 (Z : State) (x0 : Addr) (x1 : Int32) (ca ea : Addr) (kc ke : ClassId) (w0 w1 w2 w3 w4 w5 en0 en1 en2 en3 l_ : Int32) (s_ : Int32) (h0 : Heap) (n0 : Nat) (v : Option Value) (h : Heap) (L : List Loc) : Prop := v = some (.ref x0) ∧ Fr n0 L ∧ Keep h0 h [x0, ca] ∧ Exa Z h x0 s_3 ∧ Fld Z h x0 s_3 "chars" "[C" (.ref ca) ∧ Fld Z h x0 s_3 "ends" "[I" (.ref ea) ∧ Fld Z h x0 s_3 "length" "I" (.int i_3) ∧ Fld Z h x0 s_3 "size" "I" (.int s_) ∧ Arv Z h ca kc .char i_256 [.int w0, .int w1, .int x1, .int w3, .int w4, .int w5] (.int i_0) ∧ Arv Z h ea ke .int i_32 [.int en0, .int en1, .int en2, .int en3] (.int i_0)
theorem rm_app2 (l : Launch) (Z : State) (a0 : Array Value) (hw : own_HW a0 Z) (ws : List Jvm.Cond) (x0 : Addr) (x1 : Int32) (ca ea : Addr) (kc ke : ClassId) (w0 w1 w2 w3 w4 w5 en0 en1 en2 en3 l_ : Int32) (s_ : Int32) (h0 : Heap) (n0 : Nat) (Z0 : n0 ≤ h0.size) (p0_ : Exa Z h0 x0 s_3) (p1_ : Fld Z h0 x0 s_3 "chars" "[C" (.ref ca)) (p2_ : Fld Z h0 x0 s_3 "ends" "[I" (.ref ea)) (p3_ : Fld Z h0 x0 s_3 "length" "I" (.int i_2)) (p4_ : Fld Z h0 x0 s_3 "size" "I" (.int s_)) (p5_ : Arv Z h0 ca kc .char i_256 [.int w0, .int w1, .int w2, .int w3, .int w4, .int w5] (.int i_0)) (p6_ : Arv Z h0 ea ke .int i_32 [.int en0, .int en1, .int en2, .int en3] (.int i_0)) (p7_ : n0 ≤ x0) (p8_ : n0 ≤ ca) (p9_ : n0 ≤ ea) (p10_ : x0 ≠ ca) (p11_ : x0 ≠ ea) (p12_ : ca ≠ ea) (p13_ : own_ok x1)  :
  MetFree l Y27 (head1 (Jvm.Cond.code Y27 prog_116_method_6_code 2 (some (.object s_3)) :: ws) (rr 1 0 0 13)) (fun a U => a = #[.ref x0, .int x1] ∧ Z.Warmed39 U.vm ∧ U.heap = h0) (fun _ _ _ _ _ => True) (fun _ U o U' => ∃ v L, o = .returned v ∧ Q_rm_app2 Z x0 x1 ca ea kc ke w0 w1 w2 w3 w4 w5 en0 en1 en2 en3 l_ s_ h0 n0 v U'.heap L ∧ FrameEnd U o U' L (rr 1 0 0 13).cells (rr 1 0 0 13).slots) := by
 refine MetFree.of_bodySF (plainFor_of_name own_pn5) hisR ?_
 intro p e s m args below meth c s₁ Bd hml0 hP hK
 obtain ⟨rfl, hZ, hh⟩ := hP
 have hx := Bd.exec
 have hby := Bd.bytes
 have hml : c.maxLocals = 2 := hml0
 have hown : s.vm.findClass s_3 = some m.cls := findClass_of_methodNamed Bd.named
 have hnm := (name_of_methodNamed Bd.named Bd.method).1
 have X0 : Stand p l e (rr 1 0 0 13) s m #[.ref x0, .int x1] below meth c s₁ [] 0 0 := Stand.of_body Bd
 have e0 : s₁.heap = h0 := by rw [← hh, Bd.state]; rfl
 show own_G _ _ _ _ (s₁.setTop (entryFrame m #[.ref x0, .int x1] 2))
 refine goo (fun _ k => castTop (ef_34_RI m x0 x1) k) ?_
 have N0 := Fr.nil n0
 have KP0 := Keep.refl h0 [x0, ca]
 refine goo (fun _ k => XS.aloadN X0.here hx rfl (hb hby d34_0) rfl rfl <| XS.iconst X0.here hx rfl (hb hby d34_1) k) ?_
 obtain ⟨T'0, X'0, e'0, st'0⟩ := own_callVp X0 hx hZ (y := Y25) hown (qw hw 147 rfl) (qw hw 149 rfl) (qw hw 45 rfl) (qw hw 148 rfl) (qw hw 46 rfl) (qw hw 150 rfl) (by decide) (W := 0) (rm28 l Z a0 hw [] x0 i_1 i_2 ca kc w0 w1 w2 w3 w4 w5 h0 p3_ p1_ p5_ (by decide)) (by decide) (by decide) rfl rfl e0 p0_ (g := (mkF m 2 #[rv x0, iv x1] [.int i_1, .ref x0])) rfl (by rw [hml]; rfl) (argsL := [.int i_1]) (rest := []) (lenOf own_pd17 rfl) rfl rfl (Nat.le_of_eq rfl) (hb hby d34_2) (by decide) (by decide)
 refine goo st'0 ?_
 refine goo (fun _ k => XS.aloadN X'0.here hx rfl (hb hby d34_5) rfl rfl k) ?_
 obtain ⟨T'1, X'1, e'1, st'1⟩ := getF X'0 hx hZ hown (host := "") (Or.inl (qw hw 51 rfl)) Via.refl e'0 p1_ (g := (mkF m 6 #[rv x0, iv x1] [.ref x0])) rfl rfl (hb hby d34_6)
 refine goo st'1 ?_
 show own_G _ _ _ _ (T'1.setTop (mkF m 9 #[rv x0, iv x1] [.ref ca]))
 refine goo (fun _ k => XS.aloadN X'1.here hx rfl (hb hby d34_9) rfl rfl <| XS.dup X'1.here hx rfl (hb hby d34_10) rfl rfl k) ?_
 obtain ⟨T'2, X'2, e'2, st'2⟩ := getF X'1 hx hZ hown (host := "") (Or.inl (qw hw 73 rfl)) Via.refl e'1 p3_ (g := (mkF m 11 #[rv x0, iv x1] [.ref x0, .ref x0, .ref ca])) rfl rfl (hb hby d34_11)
 refine goo st'2 ?_
 refine goo (fun _ k => XS.dupX1 X'2.here hx rfl (hb hby d34_14) rfl rfl rfl <| XS.iconst X'2.here hx rfl (hb hby d34_15) <| XS.iadd X'2.here hx rfl (hb hby d34_16) rfl k) ?_
 show own_G _ _ _ _ (T'2.setTop (mkF m 17 #[rv x0, iv x1] [.int i_3, .ref x0, .int i_2, .ref ca]))
 obtain ⟨T'3, h'3, X'3, e'3, W'3, st'3⟩ := putF X'2 hx hZ hown (host := "") (Or.inl (qw hw 73 rfl)) Via.refl e'2 p3_ p0_ (Or.inl (qw hw 74 rfl)) (qw hw 45 rfl) (ty := .int) (by decide) rfl rfl (g := (mkF m 17 #[rv x0, iv x1] [.int i_3, .ref x0, .int i_2, .ref ca])) rfl rfl (hb hby d34_17)
 have X_4 := p0_.wr W'3
 have F_5 := p1_.other W'3 (Or.inr (slot_ne (Or.inl (qw hw 52 rfl)) (Or.inl (qw hw 74 rfl)) (by decide) (t := (.array .char)) (t' := .int) (by decide) (by decide)))
 have F_6 := p2_.other W'3 (Or.inr (slot_ne (Or.inl (qw hw 55 rfl)) (Or.inl (qw hw 74 rfl)) (by decide) (t := (.array .int)) (t' := .int) (by decide) (by decide)))
 have F_7 := p4_.other W'3 (Or.inr (slot_ne (Or.inl (qw hw 72 rfl)) (Or.inl (qw hw 74 rfl)) (by decide) (t := .int) (t' := .int) (by decide) (by decide)))
 have V_8 := p5_.other W'3 (Ne.symm p10_)
 have V_9 := p6_.other W'3 (Ne.symm p11_)
 have F_a := p3_.same W'3
 have KP_b : Keep h0 h'3 [x0, ca] := KP0.wr W'3 (Or.inl (List.mem_of_getElem? (i := 0) rfl))
 have N_3 := Fr.snoc X'3 N0 p7_
 refine goo st'3 ?_
 refine goo (fun _ k => XS.iloadN X'3.here hx rfl (hb hby d34_20) rfl k) ?_
 obtain ⟨cl808, Ar808, q'c, S808, N808, H808, G808⟩ := id V_8
 obtain ⟨T'c, h'c, X'c, e'c, W'c, st'c⟩ := stC X'3 hx hZ e'3 Ar808 (j := i_2) (inb_of S808 ⟨by decide, by decide⟩) (g := (mkF m 21 #[rv x0, iv x1] [.int x1, .int i_2, .ref ca])) rfl rfl (hb hby d34_21)
 have X_d := X_4.wr W'c
 have F_e := F_5.other W'c (Or.inl p10_)
 have F_f := F_6.other W'c (Or.inl p10_)
 have F_g := F_a.other W'c (Or.inl p10_)
 have F_h := F_7.other W'c (Or.inl p10_)
 have V_i := V_9.other W'c (Ne.symm p12_)
 have V808 : Arv Z h'c ca kc .char i_256 [.int w0, .int w1, (.int (nar .char x1)), .int w3, .int w4, .int w5] (.int i_0) := Arv.set Ar808 q'c S808 N808 H808 G808 (fits_nar_char _) W'c 2 rfl (Nat.le_of_ble_eq_true rfl)
 rw [own_nar p13_] at V808
 have KP_j : Keep h0 h'c [x0, ca] := KP_b.wr W'c (Or.inl (List.mem_of_getElem? (i := 1) rfl))
 have N_c := Fr.snoc X'c N_3 p8_
 refine goo st'c ?_
 refine goo (fun _ k => XS.aloadN X'c.here hx rfl (hb hby d34_22) rfl rfl k) ?_
 show own_G _ _ _ _ (T'c.setTop (mkF m 23 #[rv x0, iv x1] [.ref x0]))
 exact own_end X'c Bd.notSynchronized (v := some (.ref x0)) (fun h => by rw [Bd.returns] at h; cases h) (Q := Q_rm_app2 Z x0 x1 ca ea kc ke w0 w1 w2 w3 w4 w5 en0 en1 en2 en3 l_ s_ h0 n0) (by show Q_rm_app2 Z x0 x1 ca ea kc ke w0 w1 w2 w3 w4 w5 en0 en1 en2 en3 l_ s_ h0 n0 (some (.ref x0)) T'c.heap _; rw [e'c]; exact ⟨rfl, N_c, KP_j, X_d, F_e, F_f, F_g, F_h, V808, V_i⟩) (fun fs hr => own_retA X'c hx Bd.returns rfl rfl (hb hby d34_23) hr) (by decide) (by decide)
def Q_rm_app3 (Z : State) (x0 : Addr) (x1 : Int32) (ca ea : Addr) (kc ke : ClassId) (w0 w1 w2 w3 w4 w5 en0 en1 en2 en3 l_ : Int32) (s_ : Int32) (h0 : Heap) (n0 : Nat) (v : Option Value) (h : Heap) (L : List Loc) : Prop := v = some (.ref x0) ∧ Fr n0 L ∧ Keep h0 h [x0, ca] ∧ Exa Z h x0 s_3 ∧ Fld Z h x0 s_3 "chars" "[C" (.ref ca) ∧ Fld Z h x0 s_3 "ends" "[I" (.ref ea) ∧ Fld Z h x0 s_3 "length" "I" (.int i_4) ∧ Fld Z h x0 s_3 "size" "I" (.int s_) ∧ Arv Z h ca kc .char i_256 [.int w0, .int w1, .int w2, .int x1, .int w4, .int w5] (.int i_0) ∧ Arv Z h ea ke .int i_32 [.int en0, .int en1, .int en2, .int en3] (.int i_0)
theorem rm_app3 (l : Launch) (Z : State) (a0 : Array Value) (hw : own_HW a0 Z) (ws : List Jvm.Cond) (x0 : Addr) (x1 : Int32) (ca ea : Addr) (kc ke : ClassId) (w0 w1 w2 w3 w4 w5 en0 en1 en2 en3 l_ : Int32) (s_ : Int32) (h0 : Heap) (n0 : Nat) (Z0 : n0 ≤ h0.size) (p0_ : Exa Z h0 x0 s_3) (p1_ : Fld Z h0 x0 s_3 "chars" "[C" (.ref ca)) (p2_ : Fld Z h0 x0 s_3 "ends" "[I" (.ref ea)) (p3_ : Fld Z h0 x0 s_3 "length" "I" (.int i_3)) (p4_ : Fld Z h0 x0 s_3 "size" "I" (.int s_)) (p5_ : Arv Z h0 ca kc .char i_256 [.int w0, .int w1, .int w2, .int w3, .int w4, .int w5] (.int i_0)) (p6_ : Arv Z h0 ea ke .int i_32 [.int en0, .int en1, .int en2, .int en3] (.int i_0)) (p7_ : n0 ≤ x0) (p8_ : n0 ≤ ca) (p9_ : n0 ≤ ea) (p10_ : x0 ≠ ca) (p11_ : x0 ≠ ea) (p12_ : ca ≠ ea) (p13_ : own_ok x1)  :
  MetFree l Y27 (head1 (Jvm.Cond.code Y27 prog_116_method_6_code 2 (some (.object s_3)) :: ws) (rr 1 0 0 13)) (fun a U => a = #[.ref x0, .int x1] ∧ Z.Warmed39 U.vm ∧ U.heap = h0) (fun _ _ _ _ _ => True) (fun _ U o U' => ∃ v L, o = .returned v ∧ Q_rm_app3 Z x0 x1 ca ea kc ke w0 w1 w2 w3 w4 w5 en0 en1 en2 en3 l_ s_ h0 n0 v U'.heap L ∧ FrameEnd U o U' L (rr 1 0 0 13).cells (rr 1 0 0 13).slots) := by
 refine MetFree.of_bodySF (plainFor_of_name own_pn5) hisR ?_
 intro p e s m args below meth c s₁ Bd hml0 hP hK
 obtain ⟨rfl, hZ, hh⟩ := hP
 have hx := Bd.exec
 have hby := Bd.bytes
 have hml : c.maxLocals = 2 := hml0
 have hown : s.vm.findClass s_3 = some m.cls := findClass_of_methodNamed Bd.named
 have hnm := (name_of_methodNamed Bd.named Bd.method).1
 have X0 : Stand p l e (rr 1 0 0 13) s m #[.ref x0, .int x1] below meth c s₁ [] 0 0 := Stand.of_body Bd
 have e0 : s₁.heap = h0 := by rw [← hh, Bd.state]; rfl
 show own_G _ _ _ _ (s₁.setTop (entryFrame m #[.ref x0, .int x1] 2))
 refine goo (fun _ k => castTop (ef_34_RI m x0 x1) k) ?_
 have N0 := Fr.nil n0
 have KP0 := Keep.refl h0 [x0, ca]
 refine goo (fun _ k => XS.aloadN X0.here hx rfl (hb hby d34_0) rfl rfl <| XS.iconst X0.here hx rfl (hb hby d34_1) k) ?_
 obtain ⟨T'0, X'0, e'0, st'0⟩ := own_callVp X0 hx hZ (y := Y25) hown (qw hw 147 rfl) (qw hw 149 rfl) (qw hw 45 rfl) (qw hw 148 rfl) (qw hw 46 rfl) (qw hw 150 rfl) (by decide) (W := 0) (rm28 l Z a0 hw [] x0 i_1 i_3 ca kc w0 w1 w2 w3 w4 w5 h0 p3_ p1_ p5_ (by decide)) (by decide) (by decide) rfl rfl e0 p0_ (g := (mkF m 2 #[rv x0, iv x1] [.int i_1, .ref x0])) rfl (by rw [hml]; rfl) (argsL := [.int i_1]) (rest := []) (lenOf own_pd17 rfl) rfl rfl (Nat.le_of_eq rfl) (hb hby d34_2) (by decide) (by decide)
 refine goo st'0 ?_
 refine goo (fun _ k => XS.aloadN X'0.here hx rfl (hb hby d34_5) rfl rfl k) ?_
 obtain ⟨T'1, X'1, e'1, st'1⟩ := getF X'0 hx hZ hown (host := "") (Or.inl (qw hw 51 rfl)) Via.refl e'0 p1_ (g := (mkF m 6 #[rv x0, iv x1] [.ref x0])) rfl rfl (hb hby d34_6)
 refine goo st'1 ?_
 show own_G _ _ _ _ (T'1.setTop (mkF m 9 #[rv x0, iv x1] [.ref ca]))
 refine goo (fun _ k => XS.aloadN X'1.here hx rfl (hb hby d34_9) rfl rfl <| XS.dup X'1.here hx rfl (hb hby d34_10) rfl rfl k) ?_
 obtain ⟨T'2, X'2, e'2, st'2⟩ := getF X'1 hx hZ hown (host := "") (Or.inl (qw hw 73 rfl)) Via.refl e'1 p3_ (g := (mkF m 11 #[rv x0, iv x1] [.ref x0, .ref x0, .ref ca])) rfl rfl (hb hby d34_11)
 refine goo st'2 ?_
 refine goo (fun _ k => XS.dupX1 X'2.here hx rfl (hb hby d34_14) rfl rfl rfl <| XS.iconst X'2.here hx rfl (hb hby d34_15) <| XS.iadd X'2.here hx rfl (hb hby d34_16) rfl k) ?_
 show own_G _ _ _ _ (T'2.setTop (mkF m 17 #[rv x0, iv x1] [.int i_4, .ref x0, .int i_3, .ref ca]))
 obtain ⟨T'3, h'3, X'3, e'3, W'3, st'3⟩ := putF X'2 hx hZ hown (host := "") (Or.inl (qw hw 73 rfl)) Via.refl e'2 p3_ p0_ (Or.inl (qw hw 74 rfl)) (qw hw 45 rfl) (ty := .int) (by decide) rfl rfl (g := (mkF m 17 #[rv x0, iv x1] [.int i_4, .ref x0, .int i_3, .ref ca])) rfl rfl (hb hby d34_17)
 have X_4 := p0_.wr W'3
 have F_5 := p1_.other W'3 (Or.inr (slot_ne (Or.inl (qw hw 52 rfl)) (Or.inl (qw hw 74 rfl)) (by decide) (t := (.array .char)) (t' := .int) (by decide) (by decide)))
 have F_6 := p2_.other W'3 (Or.inr (slot_ne (Or.inl (qw hw 55 rfl)) (Or.inl (qw hw 74 rfl)) (by decide) (t := (.array .int)) (t' := .int) (by decide) (by decide)))
 have F_7 := p4_.other W'3 (Or.inr (slot_ne (Or.inl (qw hw 72 rfl)) (Or.inl (qw hw 74 rfl)) (by decide) (t := .int) (t' := .int) (by decide) (by decide)))
 have V_8 := p5_.other W'3 (Ne.symm p10_)
 have V_9 := p6_.other W'3 (Ne.symm p11_)
 have F_a := p3_.same W'3
 have KP_b : Keep h0 h'3 [x0, ca] := KP0.wr W'3 (Or.inl (List.mem_of_getElem? (i := 0) rfl))
 have N_3 := Fr.snoc X'3 N0 p7_
 refine goo st'3 ?_
 refine goo (fun _ k => XS.iloadN X'3.here hx rfl (hb hby d34_20) rfl k) ?_
 obtain ⟨cl830, Ar830, q'c, S830, N830, H830, G830⟩ := id V_8
 obtain ⟨T'c, h'c, X'c, e'c, W'c, st'c⟩ := stC X'3 hx hZ e'3 Ar830 (j := i_3) (inb_of S830 ⟨by decide, by decide⟩) (g := (mkF m 21 #[rv x0, iv x1] [.int x1, .int i_3, .ref ca])) rfl rfl (hb hby d34_21)
 have X_d := X_4.wr W'c
 have F_e := F_5.other W'c (Or.inl p10_)
 have F_f := F_6.other W'c (Or.inl p10_)
 have F_g := F_a.other W'c (Or.inl p10_)
 have F_h := F_7.other W'c (Or.inl p10_)
 have V_i := V_9.other W'c (Ne.symm p12_)
 have V830 : Arv Z h'c ca kc .char i_256 [.int w0, .int w1, .int w2, (.int (nar .char x1)), .int w4, .int w5] (.int i_0) := Arv.set Ar830 q'c S830 N830 H830 G830 (fits_nar_char _) W'c 3 rfl (Nat.le_of_ble_eq_true rfl)
 rw [own_nar p13_] at V830
 have KP_j : Keep h0 h'c [x0, ca] := KP_b.wr W'c (Or.inl (List.mem_of_getElem? (i := 1) rfl))
 have N_c := Fr.snoc X'c N_3 p8_
 refine goo st'c ?_
 refine goo (fun _ k => XS.aloadN X'c.here hx rfl (hb hby d34_22) rfl rfl k) ?_
 show own_G _ _ _ _ (T'c.setTop (mkF m 23 #[rv x0, iv x1] [.ref x0]))
 exact own_end X'c Bd.notSynchronized (v := some (.ref x0)) (fun h => by rw [Bd.returns] at h; cases h) (Q := Q_rm_app3 Z x0 x1 ca ea kc ke w0 w1 w2 w3 w4 w5 en0 en1 en2 en3 l_ s_ h0 n0) (by show Q_rm_app3 Z x0 x1 ca ea kc ke w0 w1 w2 w3 w4 w5 en0 en1 en2 en3 l_ s_ h0 n0 (some (.ref x0)) T'c.heap _; rw [e'c]; exact ⟨rfl, N_c, KP_j, X_d, F_e, F_f, F_g, F_h, V830, V_i⟩) (fun fs hr => own_retA X'c hx Bd.returns rfl rfl (hb hby d34_23) hr) (by decide) (by decide)
def Q_rm_app4 (Z : State) (x0 : Addr) (x1 : Int32) (ca ea : Addr) (kc ke : ClassId) (w0 w1 w2 w3 w4 w5 en0 en1 en2 en3 l_ : Int32) (s_ : Int32) (h0 : Heap) (n0 : Nat) (v : Option Value) (h : Heap) (L : List Loc) : Prop := v = some (.ref x0) ∧ Fr n0 L ∧ Keep h0 h [x0, ca] ∧ Exa Z h x0 s_3 ∧ Fld Z h x0 s_3 "chars" "[C" (.ref ca) ∧ Fld Z h x0 s_3 "ends" "[I" (.ref ea) ∧ Fld Z h x0 s_3 "length" "I" (.int i_5) ∧ Fld Z h x0 s_3 "size" "I" (.int s_) ∧ Arv Z h ca kc .char i_256 [.int w0, .int w1, .int w2, .int w3, .int x1, .int w5] (.int i_0) ∧ Arv Z h ea ke .int i_32 [.int en0, .int en1, .int en2, .int en3] (.int i_0)
theorem rm_app4 (l : Launch) (Z : State) (a0 : Array Value) (hw : own_HW a0 Z) (ws : List Jvm.Cond) (x0 : Addr) (x1 : Int32) (ca ea : Addr) (kc ke : ClassId) (w0 w1 w2 w3 w4 w5 en0 en1 en2 en3 l_ : Int32) (s_ : Int32) (h0 : Heap) (n0 : Nat) (Z0 : n0 ≤ h0.size) (p0_ : Exa Z h0 x0 s_3) (p1_ : Fld Z h0 x0 s_3 "chars" "[C" (.ref ca)) (p2_ : Fld Z h0 x0 s_3 "ends" "[I" (.ref ea)) (p3_ : Fld Z h0 x0 s_3 "length" "I" (.int i_4)) (p4_ : Fld Z h0 x0 s_3 "size" "I" (.int s_)) (p5_ : Arv Z h0 ca kc .char i_256 [.int w0, .int w1, .int w2, .int w3, .int w4, .int w5] (.int i_0)) (p6_ : Arv Z h0 ea ke .int i_32 [.int en0, .int en1, .int en2, .int en3] (.int i_0)) (p7_ : n0 ≤ x0) (p8_ : n0 ≤ ca) (p9_ : n0 ≤ ea) (p10_ : x0 ≠ ca) (p11_ : x0 ≠ ea) (p12_ : ca ≠ ea) (p13_ : own_ok x1)  :
  MetFree l Y27 (head1 (Jvm.Cond.code Y27 prog_116_method_6_code 2 (some (.object s_3)) :: ws) (rr 1 0 0 13)) (fun a U => a = #[.ref x0, .int x1] ∧ Z.Warmed39 U.vm ∧ U.heap = h0) (fun _ _ _ _ _ => True) (fun _ U o U' => ∃ v L, o = .returned v ∧ Q_rm_app4 Z x0 x1 ca ea kc ke w0 w1 w2 w3 w4 w5 en0 en1 en2 en3 l_ s_ h0 n0 v U'.heap L ∧ FrameEnd U o U' L (rr 1 0 0 13).cells (rr 1 0 0 13).slots) := by
 refine MetFree.of_bodySF (plainFor_of_name own_pn5) hisR ?_
 intro p e s m args below meth c s₁ Bd hml0 hP hK
 obtain ⟨rfl, hZ, hh⟩ := hP
 have hx := Bd.exec
 have hby := Bd.bytes
 have hml : c.maxLocals = 2 := hml0
 have hown : s.vm.findClass s_3 = some m.cls := findClass_of_methodNamed Bd.named
 have hnm := (name_of_methodNamed Bd.named Bd.method).1
 have X0 : Stand p l e (rr 1 0 0 13) s m #[.ref x0, .int x1] below meth c s₁ [] 0 0 := Stand.of_body Bd
 have e0 : s₁.heap = h0 := by rw [← hh, Bd.state]; rfl
 show own_G _ _ _ _ (s₁.setTop (entryFrame m #[.ref x0, .int x1] 2))
 refine goo (fun _ k => castTop (ef_34_RI m x0 x1) k) ?_
 have N0 := Fr.nil n0
 have KP0 := Keep.refl h0 [x0, ca]
 refine goo (fun _ k => XS.aloadN X0.here hx rfl (hb hby d34_0) rfl rfl <| XS.iconst X0.here hx rfl (hb hby d34_1) k) ?_
 obtain ⟨T'0, X'0, e'0, st'0⟩ := own_callVp X0 hx hZ (y := Y25) hown (qw hw 147 rfl) (qw hw 149 rfl) (qw hw 45 rfl) (qw hw 148 rfl) (qw hw 46 rfl) (qw hw 150 rfl) (by decide) (W := 0) (rm28 l Z a0 hw [] x0 i_1 i_4 ca kc w0 w1 w2 w3 w4 w5 h0 p3_ p1_ p5_ (by decide)) (by decide) (by decide) rfl rfl e0 p0_ (g := (mkF m 2 #[rv x0, iv x1] [.int i_1, .ref x0])) rfl (by rw [hml]; rfl) (argsL := [.int i_1]) (rest := []) (lenOf own_pd17 rfl) rfl rfl (Nat.le_of_eq rfl) (hb hby d34_2) (by decide) (by decide)
 refine goo st'0 ?_
 refine goo (fun _ k => XS.aloadN X'0.here hx rfl (hb hby d34_5) rfl rfl k) ?_
 obtain ⟨T'1, X'1, e'1, st'1⟩ := getF X'0 hx hZ hown (host := "") (Or.inl (qw hw 51 rfl)) Via.refl e'0 p1_ (g := (mkF m 6 #[rv x0, iv x1] [.ref x0])) rfl rfl (hb hby d34_6)
 refine goo st'1 ?_
 show own_G _ _ _ _ (T'1.setTop (mkF m 9 #[rv x0, iv x1] [.ref ca]))
 refine goo (fun _ k => XS.aloadN X'1.here hx rfl (hb hby d34_9) rfl rfl <| XS.dup X'1.here hx rfl (hb hby d34_10) rfl rfl k) ?_
 obtain ⟨T'2, X'2, e'2, st'2⟩ := getF X'1 hx hZ hown (host := "") (Or.inl (qw hw 73 rfl)) Via.refl e'1 p3_ (g := (mkF m 11 #[rv x0, iv x1] [.ref x0, .ref x0, .ref ca])) rfl rfl (hb hby d34_11)
 refine goo st'2 ?_
 refine goo (fun _ k => XS.dupX1 X'2.here hx rfl (hb hby d34_14) rfl rfl rfl <| XS.iconst X'2.here hx rfl (hb hby d34_15) <| XS.iadd X'2.here hx rfl (hb hby d34_16) rfl k) ?_
 show own_G _ _ _ _ (T'2.setTop (mkF m 17 #[rv x0, iv x1] [.int i_5, .ref x0, .int i_4, .ref ca]))
 obtain ⟨T'3, h'3, X'3, e'3, W'3, st'3⟩ := putF X'2 hx hZ hown (host := "") (Or.inl (qw hw 73 rfl)) Via.refl e'2 p3_ p0_ (Or.inl (qw hw 74 rfl)) (qw hw 45 rfl) (ty := .int) (by decide) rfl rfl (g := (mkF m 17 #[rv x0, iv x1] [.int i_5, .ref x0, .int i_4, .ref ca])) rfl rfl (hb hby d34_17)
 have X_4 := p0_.wr W'3
 have F_5 := p1_.other W'3 (Or.inr (slot_ne (Or.inl (qw hw 52 rfl)) (Or.inl (qw hw 74 rfl)) (by decide) (t := (.array .char)) (t' := .int) (by decide) (by decide)))
 have F_6 := p2_.other W'3 (Or.inr (slot_ne (Or.inl (qw hw 55 rfl)) (Or.inl (qw hw 74 rfl)) (by decide) (t := (.array .int)) (t' := .int) (by decide) (by decide)))
 have F_7 := p4_.other W'3 (Or.inr (slot_ne (Or.inl (qw hw 72 rfl)) (Or.inl (qw hw 74 rfl)) (by decide) (t := .int) (t' := .int) (by decide) (by decide)))
 have V_8 := p5_.other W'3 (Ne.symm p10_)
 have V_9 := p6_.other W'3 (Ne.symm p11_)
 have F_a := p3_.same W'3
 have KP_b : Keep h0 h'3 [x0, ca] := KP0.wr W'3 (Or.inl (List.mem_of_getElem? (i := 0) rfl))
 have N_3 := Fr.snoc X'3 N0 p7_
 refine goo st'3 ?_
 refine goo (fun _ k => XS.iloadN X'3.here hx rfl (hb hby d34_20) rfl k) ?_
 obtain ⟨cl852, Ar852, q'c, S852, N852, H852, G852⟩ := id V_8
 obtain ⟨T'c, h'c, X'c, e'c, W'c, st'c⟩ := stC X'3 hx hZ e'3 Ar852 (j := i_4) (inb_of S852 ⟨by decide, by decide⟩) (g := (mkF m 21 #[rv x0, iv x1] [.int x1, .int i_4, .ref ca])) rfl rfl (hb hby d34_21)
 have X_d := X_4.wr W'c
 have F_e := F_5.other W'c (Or.inl p10_)
 have F_f := F_6.other W'c (Or.inl p10_)
 have F_g := F_a.other W'c (Or.inl p10_)
 have F_h := F_7.other W'c (Or.inl p10_)
 have V_i := V_9.other W'c (Ne.symm p12_)
 have V852 : Arv Z h'c ca kc .char i_256 [.int w0, .int w1, .int w2, .int w3, (.int (nar .char x1)), .int w5] (.int i_0) := Arv.set Ar852 q'c S852 N852 H852 G852 (fits_nar_char _) W'c 4 rfl (Nat.le_of_ble_eq_true rfl)
 rw [own_nar p13_] at V852
 have KP_j : Keep h0 h'c [x0, ca] := KP_b.wr W'c (Or.inl (List.mem_of_getElem? (i := 1) rfl))
 have N_c := Fr.snoc X'c N_3 p8_
 refine goo st'c ?_
 refine goo (fun _ k => XS.aloadN X'c.here hx rfl (hb hby d34_22) rfl rfl k) ?_
 show own_G _ _ _ _ (T'c.setTop (mkF m 23 #[rv x0, iv x1] [.ref x0]))
 exact own_end X'c Bd.notSynchronized (v := some (.ref x0)) (fun h => by rw [Bd.returns] at h; cases h) (Q := Q_rm_app4 Z x0 x1 ca ea kc ke w0 w1 w2 w3 w4 w5 en0 en1 en2 en3 l_ s_ h0 n0) (by show Q_rm_app4 Z x0 x1 ca ea kc ke w0 w1 w2 w3 w4 w5 en0 en1 en2 en3 l_ s_ h0 n0 (some (.ref x0)) T'c.heap _; rw [e'c]; exact ⟨rfl, N_c, KP_j, X_d, F_e, F_f, F_g, F_h, V852, V_i⟩) (fun fs hr => own_retA X'c hx Bd.returns rfl rfl (hb hby d34_23) hr) (by decide) (by decide)
def Q_rm_app5 (Z : State) (x0 : Addr) (x1 : Int32) (ca ea : Addr) (kc ke : ClassId) (w0 w1 w2 w3 w4 w5 en0 en1 en2 en3 l_ : Int32) (s_ : Int32) (h0 : Heap) (n0 : Nat) (v : Option Value) (h : Heap) (L : List Loc) : Prop := v = some (.ref x0) ∧ Fr n0 L ∧ Keep h0 h [x0, ca] ∧ Exa Z h x0 s_3 ∧ Fld Z h x0 s_3 "chars" "[C" (.ref ca) ∧ Fld Z h x0 s_3 "ends" "[I" (.ref ea) ∧ Fld Z h x0 s_3 "length" "I" (.int i_6) ∧ Fld Z h x0 s_3 "size" "I" (.int s_) ∧ Arv Z h ca kc .char i_256 [.int w0, .int w1, .int w2, .int w3, .int w4, .int x1] (.int i_0) ∧ Arv Z h ea ke .int i_32 [.int en0, .int en1, .int en2, .int en3] (.int i_0)
theorem rm_app5 (l : Launch) (Z : State) (a0 : Array Value) (hw : own_HW a0 Z) (ws : List Jvm.Cond) (x0 : Addr) (x1 : Int32) (ca ea : Addr) (kc ke : ClassId) (w0 w1 w2 w3 w4 w5 en0 en1 en2 en3 l_ : Int32) (s_ : Int32) (h0 : Heap) (n0 : Nat) (Z0 : n0 ≤ h0.size) (p0_ : Exa Z h0 x0 s_3) (p1_ : Fld Z h0 x0 s_3 "chars" "[C" (.ref ca)) (p2_ : Fld Z h0 x0 s_3 "ends" "[I" (.ref ea)) (p3_ : Fld Z h0 x0 s_3 "length" "I" (.int i_5)) (p4_ : Fld Z h0 x0 s_3 "size" "I" (.int s_)) (p5_ : Arv Z h0 ca kc .char i_256 [.int w0, .int w1, .int w2, .int w3, .int w4, .int w5] (.int i_0)) (p6_ : Arv Z h0 ea ke .int i_32 [.int en0, .int en1, .int en2, .int en3] (.int i_0)) (p7_ : n0 ≤ x0) (p8_ : n0 ≤ ca) (p9_ : n0 ≤ ea) (p10_ : x0 ≠ ca) (p11_ : x0 ≠ ea) (p12_ : ca ≠ ea) (p13_ : own_ok x1)  :
  MetFree l Y27 (head1 (Jvm.Cond.code Y27 prog_116_method_6_code 2 (some (.object s_3)) :: ws) (rr 1 0 0 13)) (fun a U => a = #[.ref x0, .int x1] ∧ Z.Warmed39 U.vm ∧ U.heap = h0) (fun _ _ _ _ _ => True) (fun _ U o U' => ∃ v L, o = .returned v ∧ Q_rm_app5 Z x0 x1 ca ea kc ke w0 w1 w2 w3 w4 w5 en0 en1 en2 en3 l_ s_ h0 n0 v U'.heap L ∧ FrameEnd U o U' L (rr 1 0 0 13).cells (rr 1 0 0 13).slots) := by
 refine MetFree.of_bodySF (plainFor_of_name own_pn5) hisR ?_
 intro p e s m args below meth c s₁ Bd hml0 hP hK
 obtain ⟨rfl, hZ, hh⟩ := hP
 have hx := Bd.exec
 have hby := Bd.bytes
 have hml : c.maxLocals = 2 := hml0
 have hown : s.vm.findClass s_3 = some m.cls := findClass_of_methodNamed Bd.named
 have hnm := (name_of_methodNamed Bd.named Bd.method).1
 have X0 : Stand p l e (rr 1 0 0 13) s m #[.ref x0, .int x1] below meth c s₁ [] 0 0 := Stand.of_body Bd
 have e0 : s₁.heap = h0 := by rw [← hh, Bd.state]; rfl
 show own_G _ _ _ _ (s₁.setTop (entryFrame m #[.ref x0, .int x1] 2))
 refine goo (fun _ k => castTop (ef_34_RI m x0 x1) k) ?_
 have N0 := Fr.nil n0
 have KP0 := Keep.refl h0 [x0, ca]
 refine goo (fun _ k => XS.aloadN X0.here hx rfl (hb hby d34_0) rfl rfl <| XS.iconst X0.here hx rfl (hb hby d34_1) k) ?_
 obtain ⟨T'0, X'0, e'0, st'0⟩ := own_callVp X0 hx hZ (y := Y25) hown (qw hw 147 rfl) (qw hw 149 rfl) (qw hw 45 rfl) (qw hw 148 rfl) (qw hw 46 rfl) (qw hw 150 rfl) (by decide) (W := 0) (rm28 l Z a0 hw [] x0 i_1 i_5 ca kc w0 w1 w2 w3 w4 w5 h0 p3_ p1_ p5_ (by decide)) (by decide) (by decide) rfl rfl e0 p0_ (g := (mkF m 2 #[rv x0, iv x1] [.int i_1, .ref x0])) rfl (by rw [hml]; rfl) (argsL := [.int i_1]) (rest := []) (lenOf own_pd17 rfl) rfl rfl (Nat.le_of_eq rfl) (hb hby d34_2) (by decide) (by decide)
 refine goo st'0 ?_
 refine goo (fun _ k => XS.aloadN X'0.here hx rfl (hb hby d34_5) rfl rfl k) ?_
 obtain ⟨T'1, X'1, e'1, st'1⟩ := getF X'0 hx hZ hown (host := "") (Or.inl (qw hw 51 rfl)) Via.refl e'0 p1_ (g := (mkF m 6 #[rv x0, iv x1] [.ref x0])) rfl rfl (hb hby d34_6)
 refine goo st'1 ?_
 show own_G _ _ _ _ (T'1.setTop (mkF m 9 #[rv x0, iv x1] [.ref ca]))
 refine goo (fun _ k => XS.aloadN X'1.here hx rfl (hb hby d34_9) rfl rfl <| XS.dup X'1.here hx rfl (hb hby d34_10) rfl rfl k) ?_
 obtain ⟨T'2, X'2, e'2, st'2⟩ := getF X'1 hx hZ hown (host := "") (Or.inl (qw hw 73 rfl)) Via.refl e'1 p3_ (g := (mkF m 11 #[rv x0, iv x1] [.ref x0, .ref x0, .ref ca])) rfl rfl (hb hby d34_11)
 refine goo st'2 ?_
 refine goo (fun _ k => XS.dupX1 X'2.here hx rfl (hb hby d34_14) rfl rfl rfl <| XS.iconst X'2.here hx rfl (hb hby d34_15) <| XS.iadd X'2.here hx rfl (hb hby d34_16) rfl k) ?_
 show own_G _ _ _ _ (T'2.setTop (mkF m 17 #[rv x0, iv x1] [.int i_6, .ref x0, .int i_5, .ref ca]))
 obtain ⟨T'3, h'3, X'3, e'3, W'3, st'3⟩ := putF X'2 hx hZ hown (host := "") (Or.inl (qw hw 73 rfl)) Via.refl e'2 p3_ p0_ (Or.inl (qw hw 74 rfl)) (qw hw 45 rfl) (ty := .int) (by decide) rfl rfl (g := (mkF m 17 #[rv x0, iv x1] [.int i_6, .ref x0, .int i_5, .ref ca])) rfl rfl (hb hby d34_17)
 have X_4 := p0_.wr W'3
 have F_5 := p1_.other W'3 (Or.inr (slot_ne (Or.inl (qw hw 52 rfl)) (Or.inl (qw hw 74 rfl)) (by decide) (t := (.array .char)) (t' := .int) (by decide) (by decide)))
 have F_6 := p2_.other W'3 (Or.inr (slot_ne (Or.inl (qw hw 55 rfl)) (Or.inl (qw hw 74 rfl)) (by decide) (t := (.array .int)) (t' := .int) (by decide) (by decide)))
 have F_7 := p4_.other W'3 (Or.inr (slot_ne (Or.inl (qw hw 72 rfl)) (Or.inl (qw hw 74 rfl)) (by decide) (t := .int) (t' := .int) (by decide) (by decide)))
 have V_8 := p5_.other W'3 (Ne.symm p10_)
 have V_9 := p6_.other W'3 (Ne.symm p11_)
 have F_a := p3_.same W'3
 have KP_b : Keep h0 h'3 [x0, ca] := KP0.wr W'3 (Or.inl (List.mem_of_getElem? (i := 0) rfl))
 have N_3 := Fr.snoc X'3 N0 p7_
 refine goo st'3 ?_
 refine goo (fun _ k => XS.iloadN X'3.here hx rfl (hb hby d34_20) rfl k) ?_
 obtain ⟨cl874, Ar874, q'c, S874, N874, H874, G874⟩ := id V_8
 obtain ⟨T'c, h'c, X'c, e'c, W'c, st'c⟩ := stC X'3 hx hZ e'3 Ar874 (j := i_5) (inb_of S874 ⟨by decide, by decide⟩) (g := (mkF m 21 #[rv x0, iv x1] [.int x1, .int i_5, .ref ca])) rfl rfl (hb hby d34_21)
 have X_d := X_4.wr W'c
 have F_e := F_5.other W'c (Or.inl p10_)
 have F_f := F_6.other W'c (Or.inl p10_)
 have F_g := F_a.other W'c (Or.inl p10_)
 have F_h := F_7.other W'c (Or.inl p10_)
 have V_i := V_9.other W'c (Ne.symm p12_)
 have V874 : Arv Z h'c ca kc .char i_256 [.int w0, .int w1, .int w2, .int w3, .int w4, (.int (nar .char x1))] (.int i_0) := Arv.set Ar874 q'c S874 N874 H874 G874 (fits_nar_char _) W'c 5 rfl (Nat.le_of_ble_eq_true rfl)
 rw [own_nar p13_] at V874
 have KP_j : Keep h0 h'c [x0, ca] := KP_b.wr W'c (Or.inl (List.mem_of_getElem? (i := 1) rfl))
 have N_c := Fr.snoc X'c N_3 p8_
 refine goo st'c ?_
 refine goo (fun _ k => XS.aloadN X'c.here hx rfl (hb hby d34_22) rfl rfl k) ?_
 show own_G _ _ _ _ (T'c.setTop (mkF m 23 #[rv x0, iv x1] [.ref x0]))
 exact own_end X'c Bd.notSynchronized (v := some (.ref x0)) (fun h => by rw [Bd.returns] at h; cases h) (Q := Q_rm_app5 Z x0 x1 ca ea kc ke w0 w1 w2 w3 w4 w5 en0 en1 en2 en3 l_ s_ h0 n0) (by show Q_rm_app5 Z x0 x1 ca ea kc ke w0 w1 w2 w3 w4 w5 en0 en1 en2 en3 l_ s_ h0 n0 (some (.ref x0)) T'c.heap _; rw [e'c]; exact ⟨rfl, N_c, KP_j, X_d, F_e, F_f, F_g, F_h, V874, V_i⟩) (fun fs hr => own_retA X'c hx Bd.returns rfl rfl (hb hby d34_23) hr) (by decide) (by decide)
def Q_rm_add1 (Z : State) (x0 : Addr) (x1 : Addr) (ca ea : Addr) (kc ke : ClassId) (w0 w1 w2 w3 w4 w5 en0 en1 en2 en3 l_ : Int32) (cz : Int32) (fz : Value) (vba : Addr) (kba : ClassId) (c0 : Int32) (h0 : Heap) (n0 : Nat) (v : Option Value) (h : Heap) (L : List Loc) : Prop := v = none ∧ Fr n0 L ∧ Keep h0 h [x0, ca, ea] ∧ Exa Z h x0 s_3 ∧ Fld Z h x0 s_3 "chars" "[C" (.ref ca) ∧ Fld Z h x0 s_3 "ends" "[I" (.ref ea) ∧ Fld Z h x0 s_3 "length" "I" (.int i_1) ∧ Fld Z h x0 s_3 "size" "I" (.int i_1) ∧ Arv Z h ca kc .char i_256 [.int c0, .int w1, .int w2, .int w3, .int w4, .int w5] (.int i_0) ∧ Arv Z h ea ke .int i_32 [.int i_1, .int en1, .int en2, .int en3] (.int i_0)
theorem own_pd18 : parseMethodDescriptor "()I" = some ⟨[], some .int⟩ := by decide +kernel
theorem own_pd19 : parseMethodDescriptor "(I)C" = some ⟨[.int], some .char⟩ := by decide +kernel
theorem own_pd20 : parseMethodDescriptor "()V" = some ⟨[], none⟩ := by decide +kernel
theorem d25_0 : decode prog_116_method_5_code 0 = .ok (.aload_n 0, 1) := by decide +kernel
theorem d25_1 : decode prog_116_method_5_code 1 = .ok (.aload_n 1, 1) := by decide +kernel
theorem d25_2 : decode prog_116_method_5_code 2 = .ok (.invokeinterface 37 1, 5) := by decide +kernel
theorem d25_7 : decode prog_116_method_5_code 7 = .ok (.invokevirtual 42, 3) := by decide +kernel
theorem d25_10 : decode prog_116_method_5_code 10 = .ok (.iconst 0, 1) := by decide +kernel
theorem d25_11 : decode prog_116_method_5_code 11 = .ok (.istore_n 2, 1) := by decide +kernel
theorem d25_12 : decode prog_116_method_5_code 12 = .ok (.iload_n 2, 1) := by decide +kernel
theorem d25_13 : decode prog_116_method_5_code 13 = .ok (.aload_n 1, 1) := by decide +kernel
theorem d25_14 : decode prog_116_method_5_code 14 = .ok (.invokeinterface 37 1, 5) := by decide +kernel
theorem d25_19 : decode prog_116_method_5_code 19 = .ok (.if_icmp .ge 32, 3) := by decide +kernel
theorem d25_22 : decode prog_116_method_5_code 22 = .ok (.aload_n 0, 1) := by decide +kernel
theorem d25_23 : decode prog_116_method_5_code 23 = .ok (.getfield 7, 3) := by decide +kernel
theorem d25_26 : decode prog_116_method_5_code 26 = .ok (.aload_n 0, 1) := by decide +kernel
theorem d25_27 : decode prog_116_method_5_code 27 = .ok (.dup, 1) := by decide +kernel
theorem d25_28 : decode prog_116_method_5_code 28 = .ok (.getfield 30, 3) := by decide +kernel
theorem d25_31 : decode prog_116_method_5_code 31 = .ok (.dup_x1, 1) := by decide +kernel
theorem d25_32 : decode prog_116_method_5_code 32 = .ok (.iconst 1, 1) := by decide +kernel
theorem d25_33 : decode prog_116_method_5_code 33 = .ok (.iadd, 1) := by decide +kernel
theorem d25_34 : decode prog_116_method_5_code 34 = .ok (.putfield 30, 3) := by decide +kernel
theorem d25_37 : decode prog_116_method_5_code 37 = .ok (.aload_n 1, 1) := by decide +kernel
theorem d25_38 : decode prog_116_method_5_code 38 = .ok (.iload_n 2, 1) := by decide +kernel
theorem d25_39 : decode prog_116_method_5_code 39 = .ok (.invokeinterface 46 2, 5) := by decide +kernel
theorem d25_44 : decode prog_116_method_5_code 44 = .ok (.castore, 1) := by decide +kernel
theorem d25_45 : decode prog_116_method_5_code 45 = .ok (.iinc 2 1, 3) := by decide +kernel
theorem d25_48 : decode prog_116_method_5_code 48 = .ok (.goto (-36), 3) := by decide +kernel
theorem d25_51 : decode prog_116_method_5_code 51 = .ok (.aload_n 0, 1) := by decide +kernel
theorem d25_52 : decode prog_116_method_5_code 52 = .ok (.invokevirtual 50, 3) := by decide +kernel
theorem d25_55 : decode prog_116_method_5_code 55 = .ok (.return_, 1) := by decide +kernel
theorem ef_25_RR (m : MethodId) (x0 : Addr) (x1 : Addr) : entryFrame m #[(.ref x0), (.ref x1)] 3 = mkF m 0 #[.val (.ref x0), .val (.ref x1), .unset] [] := by
  first | (simp [entryFrame, mkF, argsToLocals, Value.category]; done) | rfl
theorem rm_add1 (l : Launch) (Z : State) (a0 : Array Value) (hw : own_HW a0 Z) (ws : List Jvm.Cond) (x0 : Addr) (x1 : Addr) (ca ea : Addr) (kc ke : ClassId) (w0 w1 w2 w3 w4 w5 en0 en1 en2 en3 l_ : Int32) (cz : Int32) (fz : Value) (vba : Addr) (kba : ClassId) (c0 : Int32) (h0 : Heap) (n0 : Nat) (Z0 : n0 ≤ h0.size) (p0_ : Exa Z h0 x0 s_3) (p1_ : Fld Z h0 x0 s_3 "chars" "[C" (.ref ca)) (p2_ : Fld Z h0 x0 s_3 "ends" "[I" (.ref ea)) (p3_ : Fld Z h0 x0 s_3 "length" "I" (.int i_0)) (p4_ : Fld Z h0 x0 s_3 "size" "I" (.int i_0)) (p5_ : Arv Z h0 ca kc .char i_256 [.int w0, .int w1, .int w2, .int w3, .int w4, .int w5] (.int i_0)) (p6_ : Arv Z h0 ea ke .int i_32 [.int en0, .int en1, .int en2, .int en3] (.int i_0)) (p7_ : n0 ≤ x0) (p8_ : n0 ≤ ca) (p9_ : n0 ≤ ea) (p10_ : x0 ≠ ca) (p11_ : x0 ≠ ea) (p12_ : ca ≠ ea) (p13_ : Exa Z h0 x1 s_0) (p14_ : Fld Z h0 x1 s_0 "coder" "B" (.int i_0)) (p15_ : Fld Z h0 x1 s_0 "value" "[B" (.ref vba)) (p16_ : Arv Z h0 vba kba .byte i_1 [(.int (own_by c0))] (.int i_0)) (p17_ : Sta Z h0 s_0 "COMPACT_STRINGS" "Z" (.int cz)) (p18_ : ¬ cz = i_0) (p19_ : Sta Z h0 s_1 "SIOOBE_FORMATTER" "Ljava/util/function/BiFunction;" fz) (p20_ : x1 ≠ x0) (p21_ : x1 ≠ ca) (p22_ : x1 ≠ ea) (p23_ : vba ≠ x0) (p24_ : vba ≠ ca) (p25_ : vba ≠ ea) (p26_ : own_ok c0) (hfz : fz.isRef = true) :
  MetFree l Y28 (head1 (Jvm.Cond.code Y28 prog_116_method_5_code 3 none :: ws) (rr 4 0 0 55)) (fun a U => a = #[.ref x0, .ref x1] ∧ Z.Warmed39 U.vm ∧ U.heap = h0) (fun _ _ _ _ _ => True) (fun _ U o U' => ∃ v L, o = .returned v ∧ Q_rm_add1 Z x0 x1 ca ea kc ke w0 w1 w2 w3 w4 w5 en0 en1 en2 en3 l_ cz fz vba kba c0 h0 n0 v U'.heap L ∧ FrameEnd U o U' L (rr 4 0 0 55).cells (rr 4 0 0 55).slots) := by
 refine MetFree.of_bodySF (plainFor_of_name own_pn5) hisR ?_
 intro p e s m args below meth c s₁ Bd hml0 hP hK
 obtain ⟨rfl, hZ, hh⟩ := hP
 have hx := Bd.exec
 have hby := Bd.bytes
 have hml : c.maxLocals = 3 := hml0
 have hown : s.vm.findClass s_3 = some m.cls := findClass_of_methodNamed Bd.named
 have hnm := (name_of_methodNamed Bd.named Bd.method).1
 have X0 : Stand p l e (rr 4 0 0 55) s m #[.ref x0, .ref x1] below meth c s₁ [] 0 0 := Stand.of_body Bd
 have e0 : s₁.heap = h0 := by rw [← hh, Bd.state]; rfl
 show own_G _ _ _ _ (s₁.setTop (entryFrame m #[.ref x0, .ref x1] 3))
 refine goo (fun _ k => castTop (ef_25_RR m x0 x1) k) ?_
 have N0 := Fr.nil n0
 have KP0 := Keep.refl h0 [x0, ca, ea]
 refine goo (fun _ k => XS.aloadN X0.here hx rfl (hb hby d25_0) rfl rfl <| XS.aloadN X0.here hx rfl (hb hby d25_1) rfl rfl k) ?_
 obtain ⟨T'0, X'0, e'0, st'0⟩ := own_callF X0 hx hZ (xi := Y29) (y := Y10) hown (qw hw 133 rfl) (qw hw 134 rfl) (mvT hZ (qw hw 135 rfl)) (qw hw 136 rfl) (qw hw 137 rfl) (qw hw 138 rfl) (qw hw 139 rfl) (qw hw 140 rfl) (qw hw 3 rfl) (qw hw 141 rfl) (by decide) (W := 1) (rm_len1 l Z a0 hw [] x1 cz vba kba c0 h0 p17_ p18_ p13_ p14_ p15_ p16_) (by decide) (by decide) rfl rfl e0 p13_ (g := (mkF m 2 #[rv x0, rv x1, .unset] [.ref x1, .ref x0])) rfl (by rw [hml]; rfl) (argsL := []) (rest := [.ref x0]) (lenOf own_pd18 rfl) rfl rfl (Nat.le_of_eq rfl) (hb hby d25_2) (by decide) (by decide)
 refine goo st'0 ?_
 obtain ⟨T'1, X'1, e'1, st'1⟩ := own_callVp X'0 hx hZ (y := Y25) hown (qw hw 147 rfl) (qw hw 149 rfl) (qw hw 45 rfl) (qw hw 148 rfl) (qw hw 46 rfl) (qw hw 150 rfl) (by decide) (W := 0) (rm28 l Z a0 hw [] x0 i_1 i_0 ca kc w0 w1 w2 w3 w4 w5 h0 p3_ p1_ p5_ (by decide)) (by decide) (by decide) rfl rfl e'0 p0_ (g := (mkF m 7 #[rv x0, rv x1, .unset] [.int i_1, .ref x0])) rfl (by rw [hml]; rfl) (argsL := [.int i_1]) (rest := []) (lenOf own_pd17 rfl) rfl rfl (Nat.le_of_eq rfl) (hb hby d25_7) (by decide) (by decide)
 refine goo st'1 ?_
 refine goo (fun _ k => XS.iconst X'1.here hx rfl (hb hby d25_10) k) ?_
 show own_G _ _ _ _ (T'1.setTop (mkF m 11 #[rv x0, rv x1, .unset] [.int i_0]))
 refine goo (fun _ k => XS.istoreN X'1.here hx rfl (hb hby d25_11) rfl (l' := #[rv x0, rv x1, iv i_0]) rfl <| XS.iloadN X'1.here hx rfl (hb hby d25_12) rfl <| XS.aloadN X'1.here hx rfl (hb hby d25_13) rfl rfl k) ?_
 obtain ⟨T'2, X'2, e'2, st'2⟩ := own_callF X'1 hx hZ (xi := Y29) (y := Y10) hown (qw hw 133 rfl) (qw hw 134 rfl) (mvT hZ (qw hw 135 rfl)) (qw hw 136 rfl) (qw hw 137 rfl) (qw hw 138 rfl) (qw hw 139 rfl) (qw hw 140 rfl) (qw hw 3 rfl) (qw hw 141 rfl) (by decide) (W := 1) (rm_len1 l Z a0 hw [] x1 cz vba kba c0 h0 p17_ p18_ p13_ p14_ p15_ p16_) (by decide) (by decide) rfl rfl e'1 p13_ (g := (mkF m 14 #[rv x0, rv x1, iv i_0] [.ref x1, .int i_0])) rfl (by rw [hml]; rfl) (argsL := []) (rest := [.int i_0]) (lenOf own_pd18 rfl) rfl rfl (Nat.le_of_eq rfl) (hb hby d25_14) (by decide) (by decide)
 refine goo st'2 ?_
 refine goo (fun _ k => XS.icmpNo X'2.here hx rfl (hb hby d25_19) rfl ((tlt (by decide : i_0 < i_1)).2.1) <| XS.aloadN X'2.here hx rfl (hb hby d25_22) rfl rfl k) ?_
 show own_G _ _ _ _ (T'2.setTop (mkF m 23 #[rv x0, rv x1, iv i_0] [.ref x0]))
 obtain ⟨T'3, X'3, e'3, st'3⟩ := getF X'2 hx hZ hown (host := "") (Or.inl (qw hw 51 rfl)) Via.refl e'2 p1_ (g := (mkF m 23 #[rv x0, rv x1, iv i_0] [.ref x0])) rfl rfl (hb hby d25_23)
 refine goo st'3 ?_
 refine goo (fun _ k => XS.aloadN X'3.here hx rfl (hb hby d25_26) rfl rfl <| XS.dup X'3.here hx rfl (hb hby d25_27) rfl rfl k) ?_
 obtain ⟨T'4, X'4, e'4, st'4⟩ := getF X'3 hx hZ hown (host := "") (Or.inl (qw hw 73 rfl)) Via.refl e'3 p3_ (g := (mkF m 28 #[rv x0, rv x1, iv i_0] [.ref x0, .ref x0, .ref ca])) rfl rfl (hb hby d25_28)
 refine goo st'4 ?_
 refine goo (fun _ k => XS.dupX1 X'4.here hx rfl (hb hby d25_31) rfl rfl rfl <| XS.iconst X'4.here hx rfl (hb hby d25_32) k) ?_
 show own_G _ _ _ _ (T'4.setTop (mkF m 33 #[rv x0, rv x1, iv i_0] [.int i_1, .int i_0, .ref x0, .int i_0, .ref ca]))
 refine goo (fun _ k => XS.iadd X'4.here hx rfl (hb hby d25_33) rfl k) ?_
 obtain ⟨T'5, h'5, X'5, e'5, W'5, st'5⟩ := putF X'4 hx hZ hown (host := "") (Or.inl (qw hw 73 rfl)) Via.refl e'4 p3_ p0_ (Or.inl (qw hw 74 rfl)) (qw hw 45 rfl) (ty := .int) (by decide) rfl rfl (g := (mkF m 34 #[rv x0, rv x1, iv i_0] [.int i_1, .ref x0, .int i_0, .ref ca])) rfl rfl (hb hby d25_34)
 have X_6 := p0_.wr W'5
 have F_7 := p1_.other W'5 (Or.inr (slot_ne (Or.inl (qw hw 52 rfl)) (Or.inl (qw hw 74 rfl)) (by decide) (t := (.array .char)) (t' := .int) (by decide) (by decide)))
 have F_8 := p2_.other W'5 (Or.inr (slot_ne (Or.inl (qw hw 55 rfl)) (Or.inl (qw hw 74 rfl)) (by decide) (t := (.array .int)) (t' := .int) (by decide) (by decide)))
 have F_9 := p4_.other W'5 (Or.inr (slot_ne (Or.inl (qw hw 72 rfl)) (Or.inl (qw hw 74 rfl)) (by decide) (t := .int) (t' := .int) (by decide) (by decide)))
 have V_a := p5_.other W'5 (Ne.symm p10_)
 have V_b := p6_.other W'5 (Ne.symm p11_)
 have X_c := p13_.wr W'5
 have F_d := p14_.other W'5 (Or.inl p20_)
 have F_e := p15_.other W'5 (Or.inl p20_)
 have V_f := p16_.other W'5 p23_
 have S_g := p17_.wr W'5
 have S_h := p19_.wr W'5
 have F_i := p3_.same W'5
 have Z_j : n0 ≤ h'5.size := Nat.le_trans Z0 (Nat.le_of_eq W'5.size.symm)
 have KP_k : Keep h0 h'5 [x0, ca, ea] := KP0.wr W'5 (Or.inl (List.mem_of_getElem? (i := 0) rfl))
 have N_5 := Fr.snoc X'5 N0 p7_
 refine goo st'5 ?_
 refine goo (fun _ k => XS.aloadN X'5.here hx rfl (hb hby d25_37) rfl rfl <| XS.iloadN X'5.here hx rfl (hb hby d25_38) rfl k) ?_
 obtain ⟨T'l, X'l, e'l, st'l⟩ := own_callF X'5 hx hZ (xi := Y30) (y := Y9) hown (qw hw 151 rfl) (qw hw 152 rfl) (mvT hZ (qw hw 153 rfl)) (qw hw 154 rfl) (qw hw 155 rfl) (qw hw 156 rfl) (qw hw 157 rfl) (qw hw 140 rfl) (qw hw 3 rfl) (qw hw 158 rfl) (by decide) (W := 2) (rm_ch10 l Z a0 hw [] x1 cz fz vba kba c0 h'5 S_g p18_ S_h hfz X_c F_d F_e V_f p26_) (by decide) (by decide) rfl rfl e'5 X_c (g := (mkF m 39 #[rv x0, rv x1, iv i_0] [.int i_0, .ref x1, .int i_0, .ref ca])) rfl (by rw [hml]; rfl) (argsL := [.int i_0]) (rest := [.int i_0, .ref ca]) (lenOf own_pd19 rfl) rfl rfl (Nat.le_of_eq rfl) (hb hby d25_39) (by decide) (by decide)
 refine goo st'l ?_
 obtain ⟨cl905, Ar905, q'm, S905, N905, H905, G905⟩ := id V_a
 obtain ⟨T'm, h'm, X'm, e'm, W'm, st'm⟩ := stC X'l hx hZ e'l Ar905 (j := i_0) (inb_of S905 ⟨by decide, by decide⟩) (g := (mkF m 44 #[rv x0, rv x1, iv i_0] [.int c0, .int i_0, .ref ca])) rfl rfl (hb hby d25_44)
 have X_n := X_6.wr W'm
 have F_o := F_7.other W'm (Or.inl p10_)
 have F_p := F_8.other W'm (Or.inl p10_)
 have F_q := F_i.other W'm (Or.inl p10_)
 have F_r := F_9.other W'm (Or.inl p10_)
 have V_s := V_b.other W'm (Ne.symm p12_)
 have X_t := X_c.wr W'm
 have F_u := F_d.other W'm (Or.inl p21_)
 have F_v := F_e.other W'm (Or.inl p21_)
 have V_w := V_f.other W'm p24_
 have S_x := S_g.wr W'm
 have V905 : Arv Z h'm ca kc .char i_256 [(.int (nar .char c0)), .int w1, .int w2, .int w3, .int w4, .int w5] (.int i_0) := Arv.set Ar905 q'm S905 N905 H905 G905 (fits_nar_char _) W'm 0 rfl (Nat.le_of_ble_eq_true rfl)
 rw [own_nar p26_] at V905
 have Z_y : n0 ≤ h'm.size := Nat.le_trans Z_j (Nat.le_of_eq W'm.size.symm)
 have KP_z : Keep h0 h'm [x0, ca, ea] := KP_k.wr W'm (Or.inl (List.mem_of_getElem? (i := 1) rfl))
 have N_m := Fr.snoc X'm N_5 p8_
 refine goo st'm ?_
 show own_G _ _ _ _ (T'm.setTop (mkF m 45 #[rv x0, rv x1, iv i_0] []))
 refine goo (fun _ k => XS.iinc X'm.here hx rfl (hb hby d25_45) rfl (l' := #[rv x0, rv x1, iv i_1]) rfl <| XS.goto X'm.here hx rfl (pc0 := 48) (pc' := 12) rfl (hb hby d25_48) (by decide) (by decide) <| XS.iloadN X'm.here hx rfl (hb hby d25_12) rfl <| XS.aloadN X'm.here hx rfl (hb hby d25_13) rfl rfl k) ?_
 obtain ⟨T'10, X'10, e'10, st'10⟩ := own_callF X'm hx hZ (xi := Y29) (y := Y10) hown (qw hw 133 rfl) (qw hw 134 rfl) (mvT hZ (qw hw 135 rfl)) (qw hw 136 rfl) (qw hw 137 rfl) (qw hw 138 rfl) (qw hw 139 rfl) (qw hw 140 rfl) (qw hw 3 rfl) (qw hw 141 rfl) (by decide) (W := 1) (rm_len1 l Z a0 hw [] x1 cz vba kba c0 h'm S_x p18_ X_t F_u F_v V_w) (by decide) (by decide) rfl rfl e'm X_t (g := (mkF m 14 #[rv x0, rv x1, iv i_1] [.ref x1, .int i_1])) rfl (by rw [hml]; rfl) (argsL := []) (rest := [.int i_1]) (lenOf own_pd18 rfl) rfl rfl (Nat.le_of_eq rfl) (hb hby d25_14) (by decide) (by decide)
 refine goo st'10 ?_
 refine goo (fun _ k => XS.icmpYes X'10.here hx rfl (pc0 := 19) (pc' := 51) rfl (hb hby d25_19) rfl ((flt (by decide : ¬ (i_1 < i_1))).2.1) (by decide) (by decide) k) ?_
 show own_G _ _ _ _ (T'10.setTop (mkF m 51 #[rv x0, rv x1, iv i_1] []))
 refine goo (fun _ k => XS.aloadN X'10.here hx rfl (hb hby d25_51) rfl rfl k) ?_
 obtain ⟨cq'11, kq'11, q'11a, q'11b, q'11c⟩ := isOf hZ e'10 X_n
 obtain ⟨_, _, ⟨T'11, L'11, k'11, n'11⟩, -, X'11, ⟨Lc'11, hQ'11, l'11, y'11, z'11⟩, st'11⟩ := X'10.virtualBack hx (y := Y26) (z := Y26) hown (mvT hZ (qw hw 173 rfl)) (mvT hZ (qw hw 76 rfl)) (notFace_of_selects (args := #[]) (mvT hZ (qw hw 78 rfl))) (mvT hZ (qw hw 78 rfl)) (mvT hZ (qw hw 77 rfl)) (by decide) (backOf (W := 0) (rm_end0 l Z a0 hw [] x0 ca ea kc ke c0 w1 w2 w3 w4 w5 en0 en1 en2 en3 i_1 h'm n0 Z_y X_n F_o F_p F_q F_r V905 V_s p7_ p8_ p9_ p10_ p11_ p12_) hZ (qw hw 79 rfl) (qw hw 46 rfl) (by decide) (by decide)) q'11a q'11c (g := (mkF m 52 #[rv x0, rv x1, iv i_1] [.ref x0])) rfl (by rw [hml]; rfl) (Steps.refl _) (argsL := []) (rest := []) (lenOf own_pd20 rfl) rfl (Nat.le_of_eq rfl) (hb hby d25_52) (fun _ _ => ⟨rfl, e'10, (by decide : 0 + 0 ≤ _), (by decide : 0 + 0 ≤ _)⟩)
 dsimp only [Pt.U, Pt.locs, Pt.cells, Pt.slots] at X'11 l'11 y'11 z'11 st'11 hQ'11
 subst l'11 y'11 z'11
 obtain ⟨rfl, Nq'11, K'11, G_12, G_13, G_14, G_15, G_16, G_17, G_18⟩ := hQ'11
 have KP_19 : Keep h0 T'11.heap [x0, ca, ea] := KP_z.trans K'11 (allS (Or.inl (List.mem_of_getElem? (i := 0) rfl)) (allS (Or.inl (List.mem_of_getElem? (i := 2) rfl)) all0))
 have N_11 := Fr.app N_m Nq'11
 refine goo (fun _ k => st'11.trans k) ?_
 show own_G _ _ _ _ (T'11.setTop (mkF m 55 #[rv x0, rv x1, iv i_1] []))
 exact own_end X'11 Bd.notSynchronized (v := none) (fun _ => rfl) (Q := Q_rm_add1 Z x0 x1 ca ea kc ke w0 w1 w2 w3 w4 w5 en0 en1 en2 en3 l_ cz fz vba kba c0 h0 n0) (by show Q_rm_add1 Z x0 x1 ca ea kc ke w0 w1 w2 w3 w4 w5 en0 en1 en2 en3 l_ cz fz vba kba c0 h0 n0 (none) T'11.heap _; exact ⟨rfl, N_11, KP_19, G_12, G_13, G_14, G_15, G_16, G_17, G_18⟩) (fun fs hr => X'11.returnOut hx Bd.returns (hb hby d25_55) hr) (by decide) (by decide)
def Q_rm_add2 (Z : State) (x0 : Addr) (x1 : Addr) (ca ea : Addr) (kc ke : ClassId) (w0 w1 w2 w3 w4 w5 en0 en1 en2 en3 l_ : Int32) (cz : Int32) (fz : Value) (vba : Addr) (kba : ClassId) (c0 c1 : Int32) (h0 : Heap) (n0 : Nat) (v : Option Value) (h : Heap) (L : List Loc) : Prop := v = none ∧ Fr n0 L ∧ Keep h0 h [x0, ca, ea] ∧ Exa Z h x0 s_3 ∧ Fld Z h x0 s_3 "chars" "[C" (.ref ca) ∧ Fld Z h x0 s_3 "ends" "[I" (.ref ea) ∧ Fld Z h x0 s_3 "length" "I" (.int i_3) ∧ Fld Z h x0 s_3 "size" "I" (.int i_3) ∧ Arv Z h ca kc .char i_256 [.int w0, .int c0, .int c1, .int w3, .int w4, .int w5] (.int i_0) ∧ Arv Z h ea ke .int i_32 [.int en0, .int en1, .int i_3, .int en3] (.int i_0)
theorem rm_add2 (l : Launch) (Z : State) (a0 : Array Value) (hw : own_HW a0 Z) (ws : List Jvm.Cond) (x0 : Addr) (x1 : Addr) (ca ea : Addr) (kc ke : ClassId) (w0 w1 w2 w3 w4 w5 en0 en1 en2 en3 l_ : Int32) (cz : Int32) (fz : Value) (vba : Addr) (kba : ClassId) (c0 c1 : Int32) (h0 : Heap) (n0 : Nat) (Z0 : n0 ≤ h0.size) (p0_ : Exa Z h0 x0 s_3) (p1_ : Fld Z h0 x0 s_3 "chars" "[C" (.ref ca)) (p2_ : Fld Z h0 x0 s_3 "ends" "[I" (.ref ea)) (p3_ : Fld Z h0 x0 s_3 "length" "I" (.int i_1)) (p4_ : Fld Z h0 x0 s_3 "size" "I" (.int i_2)) (p5_ : Arv Z h0 ca kc .char i_256 [.int w0, .int w1, .int w2, .int w3, .int w4, .int w5] (.int i_0)) (p6_ : Arv Z h0 ea ke .int i_32 [.int en0, .int en1, .int en2, .int en3] (.int i_0)) (p7_ : n0 ≤ x0) (p8_ : n0 ≤ ca) (p9_ : n0 ≤ ea) (p10_ : x0 ≠ ca) (p11_ : x0 ≠ ea) (p12_ : ca ≠ ea) (p13_ : Exa Z h0 x1 s_0) (p14_ : Fld Z h0 x1 s_0 "coder" "B" (.int i_0)) (p15_ : Fld Z h0 x1 s_0 "value" "[B" (.ref vba)) (p16_ : Arv Z h0 vba kba .byte i_2 [(.int (own_by c0)), (.int (own_by c1))] (.int i_0)) (p17_ : Sta Z h0 s_0 "COMPACT_STRINGS" "Z" (.int cz)) (p18_ : ¬ cz = i_0) (p19_ : Sta Z h0 s_1 "SIOOBE_FORMATTER" "Ljava/util/function/BiFunction;" fz) (p20_ : x1 ≠ x0) (p21_ : x1 ≠ ca) (p22_ : x1 ≠ ea) (p23_ : vba ≠ x0) (p24_ : vba ≠ ca) (p25_ : vba ≠ ea) (p26_ : own_ok c0) (p27_ : own_ok c1) (hfz : fz.isRef = true) :
  MetFree l Y28 (head1 (Jvm.Cond.code Y28 prog_116_method_5_code 3 none :: ws) (rr 4 0 0 55)) (fun a U => a = #[.ref x0, .ref x1] ∧ Z.Warmed39 U.vm ∧ U.heap = h0) (fun _ _ _ _ _ => True) (fun _ U o U' => ∃ v L, o = .returned v ∧ Q_rm_add2 Z x0 x1 ca ea kc ke w0 w1 w2 w3 w4 w5 en0 en1 en2 en3 l_ cz fz vba kba c0 c1 h0 n0 v U'.heap L ∧ FrameEnd U o U' L (rr 4 0 0 55).cells (rr 4 0 0 55).slots) := by
 refine MetFree.of_bodySF (plainFor_of_name own_pn5) hisR ?_
 intro p e s m args below meth c s₁ Bd hml0 hP hK
 obtain ⟨rfl, hZ, hh⟩ := hP
 have hx := Bd.exec
 have hby := Bd.bytes
 have hml : c.maxLocals = 3 := hml0
 have hown : s.vm.findClass s_3 = some m.cls := findClass_of_methodNamed Bd.named
 have hnm := (name_of_methodNamed Bd.named Bd.method).1
 have X0 : Stand p l e (rr 4 0 0 55) s m #[.ref x0, .ref x1] below meth c s₁ [] 0 0 := Stand.of_body Bd
 have e0 : s₁.heap = h0 := by rw [← hh, Bd.state]; rfl
 show own_G _ _ _ _ (s₁.setTop (entryFrame m #[.ref x0, .ref x1] 3))
 refine goo (fun _ k => castTop (ef_25_RR m x0 x1) k) ?_
 have N0 := Fr.nil n0
 have KP0 := Keep.refl h0 [x0, ca, ea]
 refine goo (fun _ k => XS.aloadN X0.here hx rfl (hb hby d25_0) rfl rfl <| XS.aloadN X0.here hx rfl (hb hby d25_1) rfl rfl k) ?_
 obtain ⟨T'0, X'0, e'0, st'0⟩ := own_callF X0 hx hZ (xi := Y29) (y := Y10) hown (qw hw 133 rfl) (qw hw 134 rfl) (mvT hZ (qw hw 135 rfl)) (qw hw 136 rfl) (qw hw 137 rfl) (qw hw 138 rfl) (qw hw 139 rfl) (qw hw 140 rfl) (qw hw 3 rfl) (qw hw 141 rfl) (by decide) (W := 1) (rm_len2 l Z a0 hw [] x1 cz vba kba c0 c1 h0 p17_ p18_ p13_ p14_ p15_ p16_) (by decide) (by decide) rfl rfl e0 p13_ (g := (mkF m 2 #[rv x0, rv x1, .unset] [.ref x1, .ref x0])) rfl (by rw [hml]; rfl) (argsL := []) (rest := [.ref x0]) (lenOf own_pd18 rfl) rfl rfl (Nat.le_of_eq rfl) (hb hby d25_2) (by decide) (by decide)
 refine goo st'0 ?_
 obtain ⟨T'1, X'1, e'1, st'1⟩ := own_callVp X'0 hx hZ (y := Y25) hown (qw hw 147 rfl) (qw hw 149 rfl) (qw hw 45 rfl) (qw hw 148 rfl) (qw hw 46 rfl) (qw hw 150 rfl) (by decide) (W := 0) (rm28 l Z a0 hw [] x0 i_2 i_1 ca kc w0 w1 w2 w3 w4 w5 h0 p3_ p1_ p5_ (by decide)) (by decide) (by decide) rfl rfl e'0 p0_ (g := (mkF m 7 #[rv x0, rv x1, .unset] [.int i_2, .ref x0])) rfl (by rw [hml]; rfl) (argsL := [.int i_2]) (rest := []) (lenOf own_pd17 rfl) rfl rfl (Nat.le_of_eq rfl) (hb hby d25_7) (by decide) (by decide)
 refine goo st'1 ?_
 refine goo (fun _ k => XS.iconst X'1.here hx rfl (hb hby d25_10) k) ?_
 show own_G _ _ _ _ (T'1.setTop (mkF m 11 #[rv x0, rv x1, .unset] [.int i_0]))
 refine goo (fun _ k => XS.istoreN X'1.here hx rfl (hb hby d25_11) rfl (l' := #[rv x0, rv x1, iv i_0]) rfl <| XS.iloadN X'1.here hx rfl (hb hby d25_12) rfl <| XS.aloadN X'1.here hx rfl (hb hby d25_13) rfl rfl k) ?_
 obtain ⟨T'2, X'2, e'2, st'2⟩ := own_callF X'1 hx hZ (xi := Y29) (y := Y10) hown (qw hw 133 rfl) (qw hw 134 rfl) (mvT hZ (qw hw 135 rfl)) (qw hw 136 rfl) (qw hw 137 rfl) (qw hw 138 rfl) (qw hw 139 rfl) (qw hw 140 rfl) (qw hw 3 rfl) (qw hw 141 rfl) (by decide) (W := 1) (rm_len2 l Z a0 hw [] x1 cz vba kba c0 c1 h0 p17_ p18_ p13_ p14_ p15_ p16_) (by decide) (by decide) rfl rfl e'1 p13_ (g := (mkF m 14 #[rv x0, rv x1, iv i_0] [.ref x1, .int i_0])) rfl (by rw [hml]; rfl) (argsL := []) (rest := [.int i_0]) (lenOf own_pd18 rfl) rfl rfl (Nat.le_of_eq rfl) (hb hby d25_14) (by decide) (by decide)
 refine goo st'2 ?_
 refine goo (fun _ k => XS.icmpNo X'2.here hx rfl (hb hby d25_19) rfl ((tlt (by decide : i_0 < i_2)).2.1) <| XS.aloadN X'2.here hx rfl (hb hby d25_22) rfl rfl k) ?_
 show own_G _ _ _ _ (T'2.setTop (mkF m 23 #[rv x0, rv x1, iv i_0] [.ref x0]))
 obtain ⟨T'3, X'3, e'3, st'3⟩ := getF X'2 hx hZ hown (host := "") (Or.inl (qw hw 51 rfl)) Via.refl e'2 p1_ (g := (mkF m 23 #[rv x0, rv x1, iv i_0] [.ref x0])) rfl rfl (hb hby d25_23)
 refine goo st'3 ?_
 refine goo (fun _ k => XS.aloadN X'3.here hx rfl (hb hby d25_26) rfl rfl <| XS.dup X'3.here hx rfl (hb hby d25_27) rfl rfl k) ?_
 obtain ⟨T'4, X'4, e'4, st'4⟩ := getF X'3 hx hZ hown (host := "") (Or.inl (qw hw 73 rfl)) Via.refl e'3 p3_ (g := (mkF m 28 #[rv x0, rv x1, iv i_0] [.ref x0, .ref x0, .ref ca])) rfl rfl (hb hby d25_28)
 refine goo st'4 ?_
 refine goo (fun _ k => XS.dupX1 X'4.here hx rfl (hb hby d25_31) rfl rfl rfl <| XS.iconst X'4.here hx rfl (hb hby d25_32) k) ?_
 show own_G _ _ _ _ (T'4.setTop (mkF m 33 #[rv x0, rv x1, iv i_0] [.int i_1, .int i_1, .ref x0, .int i_1, .ref ca]))
 refine goo (fun _ k => XS.iadd X'4.here hx rfl (hb hby d25_33) rfl k) ?_
 obtain ⟨T'5, h'5, X'5, e'5, W'5, st'5⟩ := putF X'4 hx hZ hown (host := "") (Or.inl (qw hw 73 rfl)) Via.refl e'4 p3_ p0_ (Or.inl (qw hw 74 rfl)) (qw hw 45 rfl) (ty := .int) (by decide) rfl rfl (g := (mkF m 34 #[rv x0, rv x1, iv i_0] [.int i_2, .ref x0, .int i_1, .ref ca])) rfl rfl (hb hby d25_34)
 have X_6 := p0_.wr W'5
 have F_7 := p1_.other W'5 (Or.inr (slot_ne (Or.inl (qw hw 52 rfl)) (Or.inl (qw hw 74 rfl)) (by decide) (t := (.array .char)) (t' := .int) (by decide) (by decide)))
 have F_8 := p2_.other W'5 (Or.inr (slot_ne (Or.inl (qw hw 55 rfl)) (Or.inl (qw hw 74 rfl)) (by decide) (t := (.array .int)) (t' := .int) (by decide) (by decide)))
 have F_9 := p4_.other W'5 (Or.inr (slot_ne (Or.inl (qw hw 72 rfl)) (Or.inl (qw hw 74 rfl)) (by decide) (t := .int) (t' := .int) (by decide) (by decide)))
 have V_a := p5_.other W'5 (Ne.symm p10_)
 have V_b := p6_.other W'5 (Ne.symm p11_)
 have X_c := p13_.wr W'5
 have F_d := p14_.other W'5 (Or.inl p20_)
 have F_e := p15_.other W'5 (Or.inl p20_)
 have V_f := p16_.other W'5 p23_
 have S_g := p17_.wr W'5
 have S_h := p19_.wr W'5
 have F_i := p3_.same W'5
 have Z_j : n0 ≤ h'5.size := Nat.le_trans Z0 (Nat.le_of_eq W'5.size.symm)
 have KP_k : Keep h0 h'5 [x0, ca, ea] := KP0.wr W'5 (Or.inl (List.mem_of_getElem? (i := 0) rfl))
 have N_5 := Fr.snoc X'5 N0 p7_
 refine goo st'5 ?_
 refine goo (fun _ k => XS.aloadN X'5.here hx rfl (hb hby d25_37) rfl rfl <| XS.iloadN X'5.here hx rfl (hb hby d25_38) rfl k) ?_
 obtain ⟨T'l, X'l, e'l, st'l⟩ := own_callF X'5 hx hZ (xi := Y30) (y := Y9) hown (qw hw 151 rfl) (qw hw 152 rfl) (mvT hZ (qw hw 153 rfl)) (qw hw 154 rfl) (qw hw 155 rfl) (qw hw 156 rfl) (qw hw 157 rfl) (qw hw 140 rfl) (qw hw 3 rfl) (qw hw 158 rfl) (by decide) (W := 2) (rm_ch20 l Z a0 hw [] x1 cz fz vba kba c0 c1 h'5 S_g p18_ S_h hfz X_c F_d F_e V_f p26_) (by decide) (by decide) rfl rfl e'5 X_c (g := (mkF m 39 #[rv x0, rv x1, iv i_0] [.int i_0, .ref x1, .int i_1, .ref ca])) rfl (by rw [hml]; rfl) (argsL := [.int i_0]) (rest := [.int i_1, .ref ca]) (lenOf own_pd19 rfl) rfl rfl (Nat.le_of_eq rfl) (hb hby d25_39) (by decide) (by decide)
 refine goo st'l ?_
 obtain ⟨cl961, Ar961, q'm, S961, N961, H961, G961⟩ := id V_a
 obtain ⟨T'm, h'm, X'm, e'm, W'm, st'm⟩ := stC X'l hx hZ e'l Ar961 (j := i_1) (inb_of S961 ⟨by decide, by decide⟩) (g := (mkF m 44 #[rv x0, rv x1, iv i_0] [.int c0, .int i_1, .ref ca])) rfl rfl (hb hby d25_44)
 have X_n := X_6.wr W'm
 have F_o := F_7.other W'm (Or.inl p10_)
 have F_p := F_8.other W'm (Or.inl p10_)
 have F_q := F_i.other W'm (Or.inl p10_)
 have F_r := F_9.other W'm (Or.inl p10_)
 have V_s := V_b.other W'm (Ne.symm p12_)
 have X_t := X_c.wr W'm
 have F_u := F_d.other W'm (Or.inl p21_)
 have F_v := F_e.other W'm (Or.inl p21_)
 have V_w := V_f.other W'm p24_
 have S_x := S_g.wr W'm
 have S_y := S_h.wr W'm
 have V961 : Arv Z h'm ca kc .char i_256 [.int w0, (.int (nar .char c0)), .int w2, .int w3, .int w4, .int w5] (.int i_0) := Arv.set Ar961 q'm S961 N961 H961 G961 (fits_nar_char _) W'm 1 rfl (Nat.le_of_ble_eq_true rfl)
 rw [own_nar p26_] at V961
 have Z_z : n0 ≤ h'm.size := Nat.le_trans Z_j (Nat.le_of_eq W'm.size.symm)
 have KP_10 : Keep h0 h'm [x0, ca, ea] := KP_k.wr W'm (Or.inl (List.mem_of_getElem? (i := 1) rfl))
 have N_m := Fr.snoc X'm N_5 p8_
 refine goo st'm ?_
 show own_G _ _ _ _ (T'm.setTop (mkF m 45 #[rv x0, rv x1, iv i_0] []))
 refine goo (fun _ k => XS.iinc X'm.here hx rfl (hb hby d25_45) rfl (l' := #[rv x0, rv x1, iv i_1]) rfl <| XS.goto X'm.here hx rfl (pc0 := 48) (pc' := 12) rfl (hb hby d25_48) (by decide) (by decide) <| XS.iloadN X'm.here hx rfl (hb hby d25_12) rfl <| XS.aloadN X'm.here hx rfl (hb hby d25_13) rfl rfl k) ?_
 obtain ⟨T'11, X'11, e'11, st'11⟩ := own_callF X'm hx hZ (xi := Y29) (y := Y10) hown (qw hw 133 rfl) (qw hw 134 rfl) (mvT hZ (qw hw 135 rfl)) (qw hw 136 rfl) (qw hw 137 rfl) (qw hw 138 rfl) (qw hw 139 rfl) (qw hw 140 rfl) (qw hw 3 rfl) (qw hw 141 rfl) (by decide) (W := 1) (rm_len2 l Z a0 hw [] x1 cz vba kba c0 c1 h'm S_x p18_ X_t F_u F_v V_w) (by decide) (by decide) rfl rfl e'm X_t (g := (mkF m 14 #[rv x0, rv x1, iv i_1] [.ref x1, .int i_1])) rfl (by rw [hml]; rfl) (argsL := []) (rest := [.int i_1]) (lenOf own_pd18 rfl) rfl rfl (Nat.le_of_eq rfl) (hb hby d25_14) (by decide) (by decide)
 refine goo st'11 ?_
 refine goo (fun _ k => XS.icmpNo X'11.here hx rfl (hb hby d25_19) rfl ((tlt (by decide : i_1 < i_2)).2.1) k) ?_
 show own_G _ _ _ _ (T'11.setTop (mkF m 22 #[rv x0, rv x1, iv i_1] []))
 refine goo (fun _ k => XS.aloadN X'11.here hx rfl (hb hby d25_22) rfl rfl k) ?_
 obtain ⟨T'12, X'12, e'12, st'12⟩ := getF X'11 hx hZ hown (host := "") (Or.inl (qw hw 51 rfl)) Via.refl e'11 F_o (g := (mkF m 23 #[rv x0, rv x1, iv i_1] [.ref x0])) rfl rfl (hb hby d25_23)
 refine goo st'12 ?_
 refine goo (fun _ k => XS.aloadN X'12.here hx rfl (hb hby d25_26) rfl rfl <| XS.dup X'12.here hx rfl (hb hby d25_27) rfl rfl k) ?_
 obtain ⟨T'13, X'13, e'13, st'13⟩ := getF X'12 hx hZ hown (host := "") (Or.inl (qw hw 73 rfl)) Via.refl e'12 F_q (g := (mkF m 28 #[rv x0, rv x1, iv i_1] [.ref x0, .ref x0, .ref ca])) rfl rfl (hb hby d25_28)
 refine goo st'13 ?_
 refine goo (fun _ k => XS.dupX1 X'13.here hx rfl (hb hby d25_31) rfl rfl rfl k) ?_
 show own_G _ _ _ _ (T'13.setTop (mkF m 32 #[rv x0, rv x1, iv i_1] [.int i_2, .ref x0, .int i_2, .ref ca]))
 refine goo (fun _ k => XS.iconst X'13.here hx rfl (hb hby d25_32) <| XS.iadd X'13.here hx rfl (hb hby d25_33) rfl k) ?_
 obtain ⟨T'14, h'14, X'14, e'14, W'14, st'14⟩ := putF X'13 hx hZ hown (host := "") (Or.inl (qw hw 73 rfl)) Via.refl e'13 F_q X_n (Or.inl (qw hw 74 rfl)) (qw hw 45 rfl) (ty := .int) (by decide) rfl rfl (g := (mkF m 34 #[rv x0, rv x1, iv i_1] [.int i_3, .ref x0, .int i_2, .ref ca])) rfl rfl (hb hby d25_34)
 have X_15 := X_n.wr W'14
 have F_16 := F_o.other W'14 (Or.inr (slot_ne (Or.inl (qw hw 52 rfl)) (Or.inl (qw hw 74 rfl)) (by decide) (t := (.array .char)) (t' := .int) (by decide) (by decide)))
 have F_17 := F_p.other W'14 (Or.inr (slot_ne (Or.inl (qw hw 55 rfl)) (Or.inl (qw hw 74 rfl)) (by decide) (t := (.array .int)) (t' := .int) (by decide) (by decide)))
 have F_18 := F_r.other W'14 (Or.inr (slot_ne (Or.inl (qw hw 72 rfl)) (Or.inl (qw hw 74 rfl)) (by decide) (t := .int) (t' := .int) (by decide) (by decide)))
 have V_19 := V961.other W'14 (Ne.symm p10_)
 have V_1a := V_s.other W'14 (Ne.symm p11_)
 have X_1b := X_t.wr W'14
 have F_1c := F_u.other W'14 (Or.inl p20_)
 have F_1d := F_v.other W'14 (Or.inl p20_)
 have V_1e := V_w.other W'14 p23_
 have S_1f := S_x.wr W'14
 have S_1g := S_y.wr W'14
 have F_1h := F_q.same W'14
 have Z_1i : n0 ≤ h'14.size := Nat.le_trans Z_z (Nat.le_of_eq W'14.size.symm)
 have KP_1j : Keep h0 h'14 [x0, ca, ea] := KP_10.wr W'14 (Or.inl (List.mem_of_getElem? (i := 0) rfl))
 have N_14 := Fr.snoc X'14 N_m p7_
 refine goo st'14 ?_
 refine goo (fun _ k => XS.aloadN X'14.here hx rfl (hb hby d25_37) rfl rfl <| XS.iloadN X'14.here hx rfl (hb hby d25_38) rfl k) ?_
 obtain ⟨T'1k, X'1k, e'1k, st'1k⟩ := own_callF X'14 hx hZ (xi := Y30) (y := Y9) hown (qw hw 151 rfl) (qw hw 152 rfl) (mvT hZ (qw hw 153 rfl)) (qw hw 154 rfl) (qw hw 155 rfl) (qw hw 156 rfl) (qw hw 157 rfl) (qw hw 140 rfl) (qw hw 3 rfl) (qw hw 158 rfl) (by decide) (W := 2) (rm_ch21 l Z a0 hw [] x1 cz fz vba kba c0 c1 h'14 S_1f p18_ S_1g hfz X_1b F_1c F_1d V_1e p27_) (by decide) (by decide) rfl rfl e'14 X_1b (g := (mkF m 39 #[rv x0, rv x1, iv i_1] [.int i_1, .ref x1, .int i_2, .ref ca])) rfl (by rw [hml]; rfl) (argsL := [.int i_1]) (rest := [.int i_2, .ref ca]) (lenOf own_pd19 rfl) rfl rfl (Nat.le_of_eq rfl) (hb hby d25_39) (by decide) (by decide)
 refine goo st'1k ?_
 show own_G _ _ _ _ (T'1k.setTop (mkF m 44 #[rv x0, rv x1, iv i_1] [.int c1, .int i_2, .ref ca]))
 obtain ⟨cl996, Ar996, q'1l, S996, N996, H996, G996⟩ := id V_19
 obtain ⟨T'1l, h'1l, X'1l, e'1l, W'1l, st'1l⟩ := stC X'1k hx hZ e'1k Ar996 (j := i_2) (inb_of S996 ⟨by decide, by decide⟩) (g := (mkF m 44 #[rv x0, rv x1, iv i_1] [.int c1, .int i_2, .ref ca])) rfl rfl (hb hby d25_44)
 have X_1m := X_15.wr W'1l
 have F_1n := F_16.other W'1l (Or.inl p10_)
 have F_1o := F_17.other W'1l (Or.inl p10_)
 have F_1p := F_1h.other W'1l (Or.inl p10_)
 have F_1q := F_18.other W'1l (Or.inl p10_)
 have V_1r := V_1a.other W'1l (Ne.symm p12_)
 have X_1s := X_1b.wr W'1l
 have F_1t := F_1c.other W'1l (Or.inl p21_)
 have F_1u := F_1d.other W'1l (Or.inl p21_)
 have V_1v := V_1e.other W'1l p24_
 have S_1w := S_1f.wr W'1l
 have V996 : Arv Z h'1l ca kc .char i_256 [.int w0, .int c0, (.int (nar .char c1)), .int w3, .int w4, .int w5] (.int i_0) := Arv.set Ar996 q'1l S996 N996 H996 G996 (fits_nar_char _) W'1l 2 rfl (Nat.le_of_ble_eq_true rfl)
 rw [own_nar p27_] at V996
 have Z_1x : n0 ≤ h'1l.size := Nat.le_trans Z_1i (Nat.le_of_eq W'1l.size.symm)
 have KP_1y : Keep h0 h'1l [x0, ca, ea] := KP_1j.wr W'1l (Or.inl (List.mem_of_getElem? (i := 1) rfl))
 have N_1l := Fr.snoc X'1l N_14 p8_
 refine goo st'1l ?_
 refine goo (fun _ k => XS.iinc X'1l.here hx rfl (hb hby d25_45) rfl (l' := #[rv x0, rv x1, iv i_2]) rfl <| XS.goto X'1l.here hx rfl (pc0 := 48) (pc' := 12) rfl (hb hby d25_48) (by decide) (by decide) <| XS.iloadN X'1l.here hx rfl (hb hby d25_12) rfl <| XS.aloadN X'1l.here hx rfl (hb hby d25_13) rfl rfl k) ?_
 obtain ⟨T'1z, X'1z, e'1z, st'1z⟩ := own_callF X'1l hx hZ (xi := Y29) (y := Y10) hown (qw hw 133 rfl) (qw hw 134 rfl) (mvT hZ (qw hw 135 rfl)) (qw hw 136 rfl) (qw hw 137 rfl) (qw hw 138 rfl) (qw hw 139 rfl) (qw hw 140 rfl) (qw hw 3 rfl) (qw hw 141 rfl) (by decide) (W := 1) (rm_len2 l Z a0 hw [] x1 cz vba kba c0 c1 h'1l S_1w p18_ X_1s F_1t F_1u V_1v) (by decide) (by decide) rfl rfl e'1l X_1s (g := (mkF m 14 #[rv x0, rv x1, iv i_2] [.ref x1, .int i_2])) rfl (by rw [hml]; rfl) (argsL := []) (rest := [.int i_2]) (lenOf own_pd18 rfl) rfl rfl (Nat.le_of_eq rfl) (hb hby d25_14) (by decide) (by decide)
 refine goo st'1z ?_
 show own_G _ _ _ _ (T'1z.setTop (mkF m 19 #[rv x0, rv x1, iv i_2] [.int i_2, .int i_2]))
 refine goo (fun _ k => XS.icmpYes X'1z.here hx rfl (pc0 := 19) (pc' := 51) rfl (hb hby d25_19) rfl ((flt (by decide : ¬ (i_2 < i_2))).2.1) (by decide) (by decide) <| XS.aloadN X'1z.here hx rfl (hb hby d25_51) rfl rfl k) ?_
 obtain ⟨cq'20, kq'20, q'20a, q'20b, q'20c⟩ := isOf hZ e'1z X_1m
 obtain ⟨_, _, ⟨T'20, L'20, k'20, n'20⟩, -, X'20, ⟨Lc'20, hQ'20, l'20, y'20, z'20⟩, st'20⟩ := X'1z.virtualBack hx (y := Y26) (z := Y26) hown (mvT hZ (qw hw 173 rfl)) (mvT hZ (qw hw 76 rfl)) (notFace_of_selects (args := #[]) (mvT hZ (qw hw 78 rfl))) (mvT hZ (qw hw 78 rfl)) (mvT hZ (qw hw 77 rfl)) (by decide) (backOf (W := 0) (rm_end2 l Z a0 hw [] x0 ca ea kc ke w0 c0 c1 w3 w4 w5 en0 en1 en2 en3 i_3 h'1l n0 Z_1x X_1m F_1n F_1o F_1p F_1q V996 V_1r p7_ p8_ p9_ p10_ p11_ p12_) hZ (qw hw 79 rfl) (qw hw 46 rfl) (by decide) (by decide)) q'20a q'20c (g := (mkF m 52 #[rv x0, rv x1, iv i_2] [.ref x0])) rfl (by rw [hml]; rfl) (Steps.refl _) (argsL := []) (rest := []) (lenOf own_pd20 rfl) rfl (Nat.le_of_eq rfl) (hb hby d25_52) (fun _ _ => ⟨rfl, e'1z, (by decide : 0 + 0 ≤ _), (by decide : 0 + 0 ≤ _)⟩)
 dsimp only [Pt.U, Pt.locs, Pt.cells, Pt.slots] at X'20 l'20 y'20 z'20 st'20 hQ'20
 subst l'20 y'20 z'20
 obtain ⟨rfl, Nq'20, K'20, G_21, G_22, G_23, G_24, G_25, G_26, G_27⟩ := hQ'20
 have KP_28 : Keep h0 T'20.heap [x0, ca, ea] := KP_1y.trans K'20 (allS (Or.inl (List.mem_of_getElem? (i := 0) rfl)) (allS (Or.inl (List.mem_of_getElem? (i := 2) rfl)) all0))
 have N_20 := Fr.app N_1l Nq'20
 refine goo (fun _ k => st'20.trans k) ?_
 show own_G _ _ _ _ (T'20.setTop (mkF m 55 #[rv x0, rv x1, iv i_2] []))
 exact own_end X'20 Bd.notSynchronized (v := none) (fun _ => rfl) (Q := Q_rm_add2 Z x0 x1 ca ea kc ke w0 w1 w2 w3 w4 w5 en0 en1 en2 en3 l_ cz fz vba kba c0 c1 h0 n0) (by show Q_rm_add2 Z x0 x1 ca ea kc ke w0 w1 w2 w3 w4 w5 en0 en1 en2 en3 l_ cz fz vba kba c0 c1 h0 n0 (none) T'20.heap _; exact ⟨rfl, N_20, KP_28, G_21, G_22, G_23, G_24, G_25, G_26, G_27⟩) (fun fs hr => X'20.returnOut hx Bd.returns (hb hby d25_55) hr) (by decide) (by decide)
def Q_rm_dis0 (Z : State) (x0 : Addr) (ca ea : Addr) (kc ke : ClassId) (w0 w1 w2 w3 w4 w5 en0 en1 en2 en3 l_ : Int32) (h0 : Heap) (n0 : Nat) (v : Option Value) (h : Heap) (L : List Loc) : Prop := v = none ∧ Fr n0 L ∧ Keep h0 h [x0] ∧ Exa Z h x0 s_3 ∧ Fld Z h x0 s_3 "chars" "[C" (.ref ca) ∧ Fld Z h x0 s_3 "ends" "[I" (.ref ea) ∧ Fld Z h x0 s_3 "length" "I" (.int i_0) ∧ Fld Z h x0 s_3 "size" "I" (.int i_0) ∧ Arv Z h ca kc .char i_256 [.int w0, .int w1, .int w2, .int w3, .int w4, .int w5] (.int i_0) ∧ Arv Z h ea ke .int i_32 [.int en0, .int en1, .int en2, .int en3] (.int i_0)
theorem d13_0 : decode prog_116_method_13_code 0 = .ok (.aload_n 0, 1) := by decide +kernel
theorem d13_1 : decode prog_116_method_13_code 1 = .ok (.aload_n 0, 1) := by decide +kernel
theorem d13_2 : decode prog_116_method_13_code 2 = .ok (.getfield 34, 3) := by decide +kernel
theorem d13_5 : decode prog_116_method_13_code 5 = .ok (.ifCond .ne 7, 3) := by decide +kernel
theorem d13_8 : decode prog_116_method_13_code 8 = .ok (.iconst 0, 1) := by decide +kernel
theorem d13_9 : decode prog_116_method_13_code 9 = .ok (.goto 14, 3) := by decide +kernel
theorem d13_12 : decode prog_116_method_13_code 12 = .ok (.aload_n 0, 1) := by decide +kernel
theorem d13_13 : decode prog_116_method_13_code 13 = .ok (.getfield 13, 3) := by decide +kernel
theorem d13_16 : decode prog_116_method_13_code 16 = .ok (.aload_n 0, 1) := by decide +kernel
theorem d13_17 : decode prog_116_method_13_code 17 = .ok (.getfield 34, 3) := by decide +kernel
theorem d13_20 : decode prog_116_method_13_code 20 = .ok (.iconst 1, 1) := by decide +kernel
theorem d13_21 : decode prog_116_method_13_code 21 = .ok (.isub, 1) := by decide +kernel
theorem d13_22 : decode prog_116_method_13_code 22 = .ok (.iaload, 1) := by decide +kernel
theorem d13_23 : decode prog_116_method_13_code 23 = .ok (.putfield 30, 3) := by decide +kernel
theorem d13_26 : decode prog_116_method_13_code 26 = .ok (.return_, 1) := by decide +kernel
theorem ef_13_R (m : MethodId) (x0 : Addr) : entryFrame m #[(.ref x0)] 1 = mkF m 0 #[.val (.ref x0)] [] := by
  first | (simp [entryFrame, mkF, argsToLocals, Value.category]; done) | rfl
theorem rm_dis0 (l : Launch) (Z : State) (a0 : Array Value) (hw : own_HW a0 Z) (ws : List Jvm.Cond) (x0 : Addr) (ca ea : Addr) (kc ke : ClassId) (w0 w1 w2 w3 w4 w5 en0 en1 en2 en3 l_ : Int32) (h0 : Heap) (n0 : Nat) (Z0 : n0 ≤ h0.size) (p0_ : Exa Z h0 x0 s_3) (p1_ : Fld Z h0 x0 s_3 "chars" "[C" (.ref ca)) (p2_ : Fld Z h0 x0 s_3 "ends" "[I" (.ref ea)) (p3_ : Fld Z h0 x0 s_3 "length" "I" (.int l_)) (p4_ : Fld Z h0 x0 s_3 "size" "I" (.int i_0)) (p5_ : Arv Z h0 ca kc .char i_256 [.int w0, .int w1, .int w2, .int w3, .int w4, .int w5] (.int i_0)) (p6_ : Arv Z h0 ea ke .int i_32 [.int en0, .int en1, .int en2, .int en3] (.int i_0)) (p7_ : n0 ≤ x0) (p8_ : n0 ≤ ca) (p9_ : n0 ≤ ea) (p10_ : x0 ≠ ca) (p11_ : x0 ≠ ea) (p12_ : ca ≠ ea)  :
  MetFree l Y31 (head1 (Jvm.Cond.code Y31 prog_116_method_13_code 1 none :: ws) (rr 0 0 0 0)) (fun a U => a = #[.ref x0] ∧ Z.Warmed39 U.vm ∧ U.heap = h0) (fun _ _ _ _ _ => True) (fun _ U o U' => ∃ v L, o = .returned v ∧ Q_rm_dis0 Z x0 ca ea kc ke w0 w1 w2 w3 w4 w5 en0 en1 en2 en3 l_ h0 n0 v U'.heap L ∧ FrameEnd U o U' L (rr 0 0 0 0).cells (rr 0 0 0 0).slots) := by
 refine MetFree.of_bodySF (plainFor_of_name own_pn5) hisR ?_
 intro p e s m args below meth c s₁ Bd hml0 hP hK
 obtain ⟨rfl, hZ, hh⟩ := hP
 have hx := Bd.exec
 have hby := Bd.bytes
 have hml : c.maxLocals = 1 := hml0
 have hown : s.vm.findClass s_3 = some m.cls := findClass_of_methodNamed Bd.named
 have hnm := (name_of_methodNamed Bd.named Bd.method).1
 have X0 : Stand p l e (rr 0 0 0 0) s m #[.ref x0] below meth c s₁ [] 0 0 := Stand.of_body Bd
 have e0 : s₁.heap = h0 := by rw [← hh, Bd.state]; rfl
 show own_G _ _ _ _ (s₁.setTop (entryFrame m #[.ref x0] 1))
 refine goo (fun _ k => castTop (ef_13_R m x0) k) ?_
 have N0 := Fr.nil n0
 have KP0 := Keep.refl h0 [x0]
 refine goo (fun _ k => XS.aloadN X0.here hx rfl (hb hby d13_0) rfl rfl <| XS.aloadN X0.here hx rfl (hb hby d13_1) rfl rfl k) ?_
 obtain ⟨T'0, X'0, e'0, st'0⟩ := getF X0 hx hZ hown (host := "") (Or.inl (qw hw 71 rfl)) Via.refl e0 p4_ (g := (mkF m 2 #[rv x0] [.ref x0, .ref x0])) rfl rfl (hb hby d13_2)
 refine goo st'0 ?_
 refine goo (fun _ k => XS.ifNo X'0.here hx rfl (hb hby d13_5) rfl (((if0 _ _).trans (teq (by decide : i_0 = i_0)).2)) <| XS.iconst X'0.here hx rfl (hb hby d13_8) k) ?_
 show own_G _ _ _ _ (T'0.setTop (mkF m 9 #[rv x0] [.int i_0, .ref x0]))
 refine goo (fun _ k => XS.goto X'0.here hx rfl (pc0 := 9) (pc' := 23) rfl (hb hby d13_9) (by decide) (by decide) k) ?_
 obtain ⟨T'1, h'1, X'1, e'1, W'1, st'1⟩ := putF X'0 hx hZ hown (host := "") (Or.inl (qw hw 73 rfl)) Via.refl e'0 p3_ p0_ (Or.inl (qw hw 74 rfl)) (qw hw 45 rfl) (ty := .int) (by decide) rfl rfl (g := (mkF m 23 #[rv x0] [.int i_0, .ref x0])) rfl rfl (hb hby d13_23)
 have X_2 := p0_.wr W'1
 have F_3 := p1_.other W'1 (Or.inr (slot_ne (Or.inl (qw hw 52 rfl)) (Or.inl (qw hw 74 rfl)) (by decide) (t := (.array .char)) (t' := .int) (by decide) (by decide)))
 have F_4 := p2_.other W'1 (Or.inr (slot_ne (Or.inl (qw hw 55 rfl)) (Or.inl (qw hw 74 rfl)) (by decide) (t := (.array .int)) (t' := .int) (by decide) (by decide)))
 have F_5 := p4_.other W'1 (Or.inr (slot_ne (Or.inl (qw hw 72 rfl)) (Or.inl (qw hw 74 rfl)) (by decide) (t := .int) (t' := .int) (by decide) (by decide)))
 have V_6 := p5_.other W'1 (Ne.symm p10_)
 have V_7 := p6_.other W'1 (Ne.symm p11_)
 have F_8 := p3_.same W'1
 have KP_9 : Keep h0 h'1 [x0] := KP0.wr W'1 (Or.inl (List.mem_of_getElem? (i := 0) rfl))
 have N_1 := Fr.snoc X'1 N0 p7_
 refine goo st'1 ?_
 show own_G _ _ _ _ (T'1.setTop (mkF m 26 #[rv x0] []))
 exact own_end X'1 Bd.notSynchronized (v := none) (fun _ => rfl) (Q := Q_rm_dis0 Z x0 ca ea kc ke w0 w1 w2 w3 w4 w5 en0 en1 en2 en3 l_ h0 n0) (by show Q_rm_dis0 Z x0 ca ea kc ke w0 w1 w2 w3 w4 w5 en0 en1 en2 en3 l_ h0 n0 (none) T'1.heap _; rw [e'1]; exact ⟨rfl, N_1, KP_9, X_2, F_3, F_4, F_8, F_5, V_6, V_7⟩) (fun fs hr => X'1.returnOut hx Bd.returns (hb hby d13_26) hr) (by decide) (by decide)
def Q_rm_dis1 (Z : State) (x0 : Addr) (ca ea : Addr) (kc ke : ClassId) (w0 w1 w2 w3 w4 w5 en0 en1 en2 en3 l_ : Int32) (h0 : Heap) (n0 : Nat) (v : Option Value) (h : Heap) (L : List Loc) : Prop := v = none ∧ Fr n0 L ∧ Keep h0 h [x0] ∧ Exa Z h x0 s_3 ∧ Fld Z h x0 s_3 "chars" "[C" (.ref ca) ∧ Fld Z h x0 s_3 "ends" "[I" (.ref ea) ∧ Fld Z h x0 s_3 "length" "I" (.int en0) ∧ Fld Z h x0 s_3 "size" "I" (.int i_1) ∧ Arv Z h ca kc .char i_256 [.int w0, .int w1, .int w2, .int w3, .int w4, .int w5] (.int i_0) ∧ Arv Z h ea ke .int i_32 [.int en0, .int en1, .int en2, .int en3] (.int i_0)
theorem rm_dis1 (l : Launch) (Z : State) (a0 : Array Value) (hw : own_HW a0 Z) (ws : List Jvm.Cond) (x0 : Addr) (ca ea : Addr) (kc ke : ClassId) (w0 w1 w2 w3 w4 w5 en0 en1 en2 en3 l_ : Int32) (h0 : Heap) (n0 : Nat) (Z0 : n0 ≤ h0.size) (p0_ : Exa Z h0 x0 s_3) (p1_ : Fld Z h0 x0 s_3 "chars" "[C" (.ref ca)) (p2_ : Fld Z h0 x0 s_3 "ends" "[I" (.ref ea)) (p3_ : Fld Z h0 x0 s_3 "length" "I" (.int l_)) (p4_ : Fld Z h0 x0 s_3 "size" "I" (.int i_1)) (p5_ : Arv Z h0 ca kc .char i_256 [.int w0, .int w1, .int w2, .int w3, .int w4, .int w5] (.int i_0)) (p6_ : Arv Z h0 ea ke .int i_32 [.int en0, .int en1, .int en2, .int en3] (.int i_0)) (p7_ : n0 ≤ x0) (p8_ : n0 ≤ ca) (p9_ : n0 ≤ ea) (p10_ : x0 ≠ ca) (p11_ : x0 ≠ ea) (p12_ : ca ≠ ea)  :
  MetFree l Y31 (head1 (Jvm.Cond.code Y31 prog_116_method_13_code 1 none :: ws) (rr 0 0 0 0)) (fun a U => a = #[.ref x0] ∧ Z.Warmed39 U.vm ∧ U.heap = h0) (fun _ _ _ _ _ => True) (fun _ U o U' => ∃ v L, o = .returned v ∧ Q_rm_dis1 Z x0 ca ea kc ke w0 w1 w2 w3 w4 w5 en0 en1 en2 en3 l_ h0 n0 v U'.heap L ∧ FrameEnd U o U' L (rr 0 0 0 0).cells (rr 0 0 0 0).slots) := by
 refine MetFree.of_bodySF (plainFor_of_name own_pn5) hisR ?_
 intro p e s m args below meth c s₁ Bd hml0 hP hK
 obtain ⟨rfl, hZ, hh⟩ := hP
 have hx := Bd.exec
 have hby := Bd.bytes
 have hml : c.maxLocals = 1 := hml0
 have hown : s.vm.findClass s_3 = some m.cls := findClass_of_methodNamed Bd.named
 have hnm := (name_of_methodNamed Bd.named Bd.method).1
 have X0 : Stand p l e (rr 0 0 0 0) s m #[.ref x0] below meth c s₁ [] 0 0 := Stand.of_body Bd
 have e0 : s₁.heap = h0 := by rw [← hh, Bd.state]; rfl
 show own_G _ _ _ _ (s₁.setTop (entryFrame m #[.ref x0] 1))
 refine goo (fun _ k => castTop (ef_13_R m x0) k) ?_
 have N0 := Fr.nil n0
 have KP0 := Keep.refl h0 [x0]
 refine goo (fun _ k => XS.aloadN X0.here hx rfl (hb hby d13_0) rfl rfl <| XS.aloadN X0.here hx rfl (hb hby d13_1) rfl rfl k) ?_
 obtain ⟨T'0, X'0, e'0, st'0⟩ := getF X0 hx hZ hown (host := "") (Or.inl (qw hw 71 rfl)) Via.refl e0 p4_ (g := (mkF m 2 #[rv x0] [.ref x0, .ref x0])) rfl rfl (hb hby d13_2)
 refine goo st'0 ?_
 refine goo (fun _ k => XS.ifYes X'0.here hx rfl (pc0 := 5) (pc' := 12) rfl (hb hby d13_5) rfl (((if0 _ _).trans (feq (by decide : ¬ (i_1 = i_0))).2)) (by decide) (by decide) <| XS.aloadN X'0.here hx rfl (hb hby d13_12) rfl rfl k) ?_
 show own_G _ _ _ _ (T'0.setTop (mkF m 13 #[rv x0] [.ref x0, .ref x0]))
 obtain ⟨T'1, X'1, e'1, st'1⟩ := getF X'0 hx hZ hown (host := "") (Or.inl (qw hw 54 rfl)) Via.refl e'0 p2_ (g := (mkF m 13 #[rv x0] [.ref x0, .ref x0])) rfl rfl (hb hby d13_13)
 refine goo st'1 ?_
 refine goo (fun _ k => XS.aloadN X'1.here hx rfl (hb hby d13_16) rfl rfl k) ?_
 obtain ⟨T'2, X'2, e'2, st'2⟩ := getF X'1 hx hZ hown (host := "") (Or.inl (qw hw 71 rfl)) Via.refl e'1 p4_ (g := (mkF m 17 #[rv x0] [.ref x0, .ref ea, .ref x0])) rfl rfl (hb hby d13_17)
 refine goo st'2 ?_
 refine goo (fun _ k => XS.iconst X'2.here hx rfl (hb hby d13_20) <| XS.isub X'2.here hx rfl (hb hby d13_21) rfl k) ?_
 obtain ⟨cl1044, Ar1044, -, S1044, -, H1044, -⟩ := id p6_
 have hin1044 := inb_of S1044 (j := i_0) ⟨by decide, by decide⟩
 refine goo (fun _ k => X'2.iaload hx (j := i_0) (v := (.int en0)) (by rw [e'2]; exact Ar1044.1) (State.isArrayOf_alike hZ.alike Ar1044.2.1) Ar1044.2.2 hin1044 (H1044.at hin1044 rfl) (g := (mkF m 22 #[rv x0] [.int i_0, .ref ea, .ref x0])) rfl rfl (hb hby d13_22) _ k) ?_
 show own_G _ _ _ _ (T'2.setTop (mkF m 23 #[rv x0] [.int en0, .ref x0]))
 obtain ⟨T'3, h'3, X'3, e'3, W'3, st'3⟩ := putF X'2 hx hZ hown (host := "") (Or.inl (qw hw 73 rfl)) Via.refl e'2 p3_ p0_ (Or.inl (qw hw 74 rfl)) (qw hw 45 rfl) (ty := .int) (by decide) rfl rfl (g := (mkF m 23 #[rv x0] [.int en0, .ref x0])) rfl rfl (hb hby d13_23)
 have X_4 := p0_.wr W'3
 have F_5 := p1_.other W'3 (Or.inr (slot_ne (Or.inl (qw hw 52 rfl)) (Or.inl (qw hw 74 rfl)) (by decide) (t := (.array .char)) (t' := .int) (by decide) (by decide)))
 have F_6 := p2_.other W'3 (Or.inr (slot_ne (Or.inl (qw hw 55 rfl)) (Or.inl (qw hw 74 rfl)) (by decide) (t := (.array .int)) (t' := .int) (by decide) (by decide)))
 have F_7 := p4_.other W'3 (Or.inr (slot_ne (Or.inl (qw hw 72 rfl)) (Or.inl (qw hw 74 rfl)) (by decide) (t := .int) (t' := .int) (by decide) (by decide)))
 have V_8 := p5_.other W'3 (Ne.symm p10_)
 have V_9 := p6_.other W'3 (Ne.symm p11_)
 have F_a := p3_.same W'3
 have KP_b : Keep h0 h'3 [x0] := KP0.wr W'3 (Or.inl (List.mem_of_getElem? (i := 0) rfl))
 have N_3 := Fr.snoc X'3 N0 p7_
 refine goo st'3 ?_
 show own_G _ _ _ _ (T'3.setTop (mkF m 26 #[rv x0] []))
 exact own_end X'3 Bd.notSynchronized (v := none) (fun _ => rfl) (Q := Q_rm_dis1 Z x0 ca ea kc ke w0 w1 w2 w3 w4 w5 en0 en1 en2 en3 l_ h0 n0) (by show Q_rm_dis1 Z x0 ca ea kc ke w0 w1 w2 w3 w4 w5 en0 en1 en2 en3 l_ h0 n0 (none) T'3.heap _; rw [e'3]; exact ⟨rfl, N_3, KP_b, X_4, F_5, F_6, F_a, F_7, V_8, V_9⟩) (fun fs hr => X'3.returnOut hx Bd.returns (hb hby d13_26) hr) (by decide) (by decide)
def Q_rm_dis2 (Z : State) (x0 : Addr) (ca ea : Addr) (kc ke : ClassId) (w0 w1 w2 w3 w4 w5 en0 en1 en2 en3 l_ : Int32) (h0 : Heap) (n0 : Nat) (v : Option Value) (h : Heap) (L : List Loc) : Prop := v = none ∧ Fr n0 L ∧ Keep h0 h [x0] ∧ Exa Z h x0 s_3 ∧ Fld Z h x0 s_3 "chars" "[C" (.ref ca) ∧ Fld Z h x0 s_3 "ends" "[I" (.ref ea) ∧ Fld Z h x0 s_3 "length" "I" (.int en1) ∧ Fld Z h x0 s_3 "size" "I" (.int i_2) ∧ Arv Z h ca kc .char i_256 [.int w0, .int w1, .int w2, .int w3, .int w4, .int w5] (.int i_0) ∧ Arv Z h ea ke .int i_32 [.int en0, .int en1, .int en2, .int en3] (.int i_0)
theorem rm_dis2 (l : Launch) (Z : State) (a0 : Array Value) (hw : own_HW a0 Z) (ws : List Jvm.Cond) (x0 : Addr) (ca ea : Addr) (kc ke : ClassId) (w0 w1 w2 w3 w4 w5 en0 en1 en2 en3 l_ : Int32) (h0 : Heap) (n0 : Nat) (Z0 : n0 ≤ h0.size) (p0_ : Exa Z h0 x0 s_3) (p1_ : Fld Z h0 x0 s_3 "chars" "[C" (.ref ca)) (p2_ : Fld Z h0 x0 s_3 "ends" "[I" (.ref ea)) (p3_ : Fld Z h0 x0 s_3 "length" "I" (.int l_)) (p4_ : Fld Z h0 x0 s_3 "size" "I" (.int i_2)) (p5_ : Arv Z h0 ca kc .char i_256 [.int w0, .int w1, .int w2, .int w3, .int w4, .int w5] (.int i_0)) (p6_ : Arv Z h0 ea ke .int i_32 [.int en0, .int en1, .int en2, .int en3] (.int i_0)) (p7_ : n0 ≤ x0) (p8_ : n0 ≤ ca) (p9_ : n0 ≤ ea) (p10_ : x0 ≠ ca) (p11_ : x0 ≠ ea) (p12_ : ca ≠ ea)  :
  MetFree l Y31 (head1 (Jvm.Cond.code Y31 prog_116_method_13_code 1 none :: ws) (rr 0 0 0 0)) (fun a U => a = #[.ref x0] ∧ Z.Warmed39 U.vm ∧ U.heap = h0) (fun _ _ _ _ _ => True) (fun _ U o U' => ∃ v L, o = .returned v ∧ Q_rm_dis2 Z x0 ca ea kc ke w0 w1 w2 w3 w4 w5 en0 en1 en2 en3 l_ h0 n0 v U'.heap L ∧ FrameEnd U o U' L (rr 0 0 0 0).cells (rr 0 0 0 0).slots) := by
 refine MetFree.of_bodySF (plainFor_of_name own_pn5) hisR ?_
 intro p e s m args below meth c s₁ Bd hml0 hP hK
 obtain ⟨rfl, hZ, hh⟩ := hP
 have hx := Bd.exec
 have hby := Bd.bytes
 have hml : c.maxLocals = 1 := hml0
 have hown : s.vm.findClass s_3 = some m.cls := findClass_of_methodNamed Bd.named
 have hnm := (name_of_methodNamed Bd.named Bd.method).1
 have X0 : Stand p l e (rr 0 0 0 0) s m #[.ref x0] below meth c s₁ [] 0 0 := Stand.of_body Bd
 have e0 : s₁.heap = h0 := by rw [← hh, Bd.state]; rfl
 show own_G _ _ _ _ (s₁.setTop (entryFrame m #[.ref x0] 1))
 refine goo (fun _ k => castTop (ef_13_R m x0) k) ?_
 have N0 := Fr.nil n0
 have KP0 := Keep.refl h0 [x0]
 refine goo (fun _ k => XS.aloadN X0.here hx rfl (hb hby d13_0) rfl rfl <| XS.aloadN X0.here hx rfl (hb hby d13_1) rfl rfl k) ?_
 obtain ⟨T'0, X'0, e'0, st'0⟩ := getF X0 hx hZ hown (host := "") (Or.inl (qw hw 71 rfl)) Via.refl e0 p4_ (g := (mkF m 2 #[rv x0] [.ref x0, .ref x0])) rfl rfl (hb hby d13_2)
 refine goo st'0 ?_
 refine goo (fun _ k => XS.ifYes X'0.here hx rfl (pc0 := 5) (pc' := 12) rfl (hb hby d13_5) rfl (((if0 _ _).trans (feq (by decide : ¬ (i_2 = i_0))).2)) (by decide) (by decide) <| XS.aloadN X'0.here hx rfl (hb hby d13_12) rfl rfl k) ?_
 show own_G _ _ _ _ (T'0.setTop (mkF m 13 #[rv x0] [.ref x0, .ref x0]))
 obtain ⟨T'1, X'1, e'1, st'1⟩ := getF X'0 hx hZ hown (host := "") (Or.inl (qw hw 54 rfl)) Via.refl e'0 p2_ (g := (mkF m 13 #[rv x0] [.ref x0, .ref x0])) rfl rfl (hb hby d13_13)
 refine goo st'1 ?_
 refine goo (fun _ k => XS.aloadN X'1.here hx rfl (hb hby d13_16) rfl rfl k) ?_
 obtain ⟨T'2, X'2, e'2, st'2⟩ := getF X'1 hx hZ hown (host := "") (Or.inl (qw hw 71 rfl)) Via.refl e'1 p4_ (g := (mkF m 17 #[rv x0] [.ref x0, .ref ea, .ref x0])) rfl rfl (hb hby d13_17)
 refine goo st'2 ?_
 refine goo (fun _ k => XS.iconst X'2.here hx rfl (hb hby d13_20) <| XS.isub X'2.here hx rfl (hb hby d13_21) rfl k) ?_
 obtain ⟨cl1058, Ar1058, -, S1058, -, H1058, -⟩ := id p6_
 have hin1058 := inb_of S1058 (j := i_1) ⟨by decide, by decide⟩
 refine goo (fun _ k => X'2.iaload hx (j := i_1) (v := (.int en1)) (by rw [e'2]; exact Ar1058.1) (State.isArrayOf_alike hZ.alike Ar1058.2.1) Ar1058.2.2 hin1058 (H1058.at hin1058 rfl) (g := (mkF m 22 #[rv x0] [.int i_1, .ref ea, .ref x0])) rfl rfl (hb hby d13_22) _ k) ?_
 show own_G _ _ _ _ (T'2.setTop (mkF m 23 #[rv x0] [.int en1, .ref x0]))
 obtain ⟨T'3, h'3, X'3, e'3, W'3, st'3⟩ := putF X'2 hx hZ hown (host := "") (Or.inl (qw hw 73 rfl)) Via.refl e'2 p3_ p0_ (Or.inl (qw hw 74 rfl)) (qw hw 45 rfl) (ty := .int) (by decide) rfl rfl (g := (mkF m 23 #[rv x0] [.int en1, .ref x0])) rfl rfl (hb hby d13_23)
 have X_4 := p0_.wr W'3
 have F_5 := p1_.other W'3 (Or.inr (slot_ne (Or.inl (qw hw 52 rfl)) (Or.inl (qw hw 74 rfl)) (by decide) (t := (.array .char)) (t' := .int) (by decide) (by decide)))
 have F_6 := p2_.other W'3 (Or.inr (slot_ne (Or.inl (qw hw 55 rfl)) (Or.inl (qw hw 74 rfl)) (by decide) (t := (.array .int)) (t' := .int) (by decide) (by decide)))
 have F_7 := p4_.other W'3 (Or.inr (slot_ne (Or.inl (qw hw 72 rfl)) (Or.inl (qw hw 74 rfl)) (by decide) (t := .int) (t' := .int) (by decide) (by decide)))
 have V_8 := p5_.other W'3 (Ne.symm p10_)
 have V_9 := p6_.other W'3 (Ne.symm p11_)
 have F_a := p3_.same W'3
 have KP_b : Keep h0 h'3 [x0] := KP0.wr W'3 (Or.inl (List.mem_of_getElem? (i := 0) rfl))
 have N_3 := Fr.snoc X'3 N0 p7_
 refine goo st'3 ?_
 show own_G _ _ _ _ (T'3.setTop (mkF m 26 #[rv x0] []))
 exact own_end X'3 Bd.notSynchronized (v := none) (fun _ => rfl) (Q := Q_rm_dis2 Z x0 ca ea kc ke w0 w1 w2 w3 w4 w5 en0 en1 en2 en3 l_ h0 n0) (by show Q_rm_dis2 Z x0 ca ea kc ke w0 w1 w2 w3 w4 w5 en0 en1 en2 en3 l_ h0 n0 (none) T'3.heap _; rw [e'3]; exact ⟨rfl, N_3, KP_b, X_4, F_5, F_6, F_a, F_7, V_8, V_9⟩) (fun fs hr => X'3.returnOut hx Bd.returns (hb hby d13_26) hr) (by decide) (by decide)
def Q_rm_dis3 (Z : State) (x0 : Addr) (ca ea : Addr) (kc ke : ClassId) (w0 w1 w2 w3 w4 w5 en0 en1 en2 en3 l_ : Int32) (h0 : Heap) (n0 : Nat) (v : Option Value) (h : Heap) (L : List Loc) : Prop := v = none ∧ Fr n0 L ∧ Keep h0 h [x0] ∧ Exa Z h x0 s_3 ∧ Fld Z h x0 s_3 "chars" "[C" (.ref ca) ∧ Fld Z h x0 s_3 "ends" "[I" (.ref ea) ∧ Fld Z h x0 s_3 "length" "I" (.int en2) ∧ Fld Z h x0 s_3 "size" "I" (.int i_3) ∧ Arv Z h ca kc .char i_256 [.int w0, .int w1, .int w2, .int w3, .int w4, .int w5] (.int i_0) ∧ Arv Z h ea ke .int i_32 [.int en0, .int en1, .int en2, .int en3] (.int i_0)
theorem rm_dis3 (l : Launch) (Z : State) (a0 : Array Value) (hw : own_HW a0 Z) (ws : List Jvm.Cond) (x0 : Addr) (ca ea : Addr) (kc ke : ClassId) (w0 w1 w2 w3 w4 w5 en0 en1 en2 en3 l_ : Int32) (h0 : Heap) (n0 : Nat) (Z0 : n0 ≤ h0.size) (p0_ : Exa Z h0 x0 s_3) (p1_ : Fld Z h0 x0 s_3 "chars" "[C" (.ref ca)) (p2_ : Fld Z h0 x0 s_3 "ends" "[I" (.ref ea)) (p3_ : Fld Z h0 x0 s_3 "length" "I" (.int l_)) (p4_ : Fld Z h0 x0 s_3 "size" "I" (.int i_3)) (p5_ : Arv Z h0 ca kc .char i_256 [.int w0, .int w1, .int w2, .int w3, .int w4, .int w5] (.int i_0)) (p6_ : Arv Z h0 ea ke .int i_32 [.int en0, .int en1, .int en2, .int en3] (.int i_0)) (p7_ : n0 ≤ x0) (p8_ : n0 ≤ ca) (p9_ : n0 ≤ ea) (p10_ : x0 ≠ ca) (p11_ : x0 ≠ ea) (p12_ : ca ≠ ea)  :
  MetFree l Y31 (head1 (Jvm.Cond.code Y31 prog_116_method_13_code 1 none :: ws) (rr 0 0 0 0)) (fun a U => a = #[.ref x0] ∧ Z.Warmed39 U.vm ∧ U.heap = h0) (fun _ _ _ _ _ => True) (fun _ U o U' => ∃ v L, o = .returned v ∧ Q_rm_dis3 Z x0 ca ea kc ke w0 w1 w2 w3 w4 w5 en0 en1 en2 en3 l_ h0 n0 v U'.heap L ∧ FrameEnd U o U' L (rr 0 0 0 0).cells (rr 0 0 0 0).slots) := by
 refine MetFree.of_bodySF (plainFor_of_name own_pn5) hisR ?_
 intro p e s m args below meth c s₁ Bd hml0 hP hK
 obtain ⟨rfl, hZ, hh⟩ := hP
 have hx := Bd.exec
 have hby := Bd.bytes
 have hml : c.maxLocals = 1 := hml0
 have hown : s.vm.findClass s_3 = some m.cls := findClass_of_methodNamed Bd.named
 have hnm := (name_of_methodNamed Bd.named Bd.method).1
 have X0 : Stand p l e (rr 0 0 0 0) s m #[.ref x0] below meth c s₁ [] 0 0 := Stand.of_body Bd
 have e0 : s₁.heap = h0 := by rw [← hh, Bd.state]; rfl
 show own_G _ _ _ _ (s₁.setTop (entryFrame m #[.ref x0] 1))
 refine goo (fun _ k => castTop (ef_13_R m x0) k) ?_
 have N0 := Fr.nil n0
 have KP0 := Keep.refl h0 [x0]
 refine goo (fun _ k => XS.aloadN X0.here hx rfl (hb hby d13_0) rfl rfl <| XS.aloadN X0.here hx rfl (hb hby d13_1) rfl rfl k) ?_
 obtain ⟨T'0, X'0, e'0, st'0⟩ := getF X0 hx hZ hown (host := "") (Or.inl (qw hw 71 rfl)) Via.refl e0 p4_ (g := (mkF m 2 #[rv x0] [.ref x0, .ref x0])) rfl rfl (hb hby d13_2)
 refine goo st'0 ?_
 refine goo (fun _ k => XS.ifYes X'0.here hx rfl (pc0 := 5) (pc' := 12) rfl (hb hby d13_5) rfl (((if0 _ _).trans (feq (by decide : ¬ (i_3 = i_0))).2)) (by decide) (by decide) <| XS.aloadN X'0.here hx rfl (hb hby d13_12) rfl rfl k) ?_
 show own_G _ _ _ _ (T'0.setTop (mkF m 13 #[rv x0] [.ref x0, .ref x0]))
 obtain ⟨T'1, X'1, e'1, st'1⟩ := getF X'0 hx hZ hown (host := "") (Or.inl (qw hw 54 rfl)) Via.refl e'0 p2_ (g := (mkF m 13 #[rv x0] [.ref x0, .ref x0])) rfl rfl (hb hby d13_13)
 refine goo st'1 ?_
 refine goo (fun _ k => XS.aloadN X'1.here hx rfl (hb hby d13_16) rfl rfl k) ?_
 obtain ⟨T'2, X'2, e'2, st'2⟩ := getF X'1 hx hZ hown (host := "") (Or.inl (qw hw 71 rfl)) Via.refl e'1 p4_ (g := (mkF m 17 #[rv x0] [.ref x0, .ref ea, .ref x0])) rfl rfl (hb hby d13_17)
 refine goo st'2 ?_
 refine goo (fun _ k => XS.iconst X'2.here hx rfl (hb hby d13_20) <| XS.isub X'2.here hx rfl (hb hby d13_21) rfl k) ?_
 obtain ⟨cl1072, Ar1072, -, S1072, -, H1072, -⟩ := id p6_
 have hin1072 := inb_of S1072 (j := i_2) ⟨by decide, by decide⟩
 refine goo (fun _ k => X'2.iaload hx (j := i_2) (v := (.int en2)) (by rw [e'2]; exact Ar1072.1) (State.isArrayOf_alike hZ.alike Ar1072.2.1) Ar1072.2.2 hin1072 (H1072.at hin1072 rfl) (g := (mkF m 22 #[rv x0] [.int i_2, .ref ea, .ref x0])) rfl rfl (hb hby d13_22) _ k) ?_
 show own_G _ _ _ _ (T'2.setTop (mkF m 23 #[rv x0] [.int en2, .ref x0]))
 obtain ⟨T'3, h'3, X'3, e'3, W'3, st'3⟩ := putF X'2 hx hZ hown (host := "") (Or.inl (qw hw 73 rfl)) Via.refl e'2 p3_ p0_ (Or.inl (qw hw 74 rfl)) (qw hw 45 rfl) (ty := .int) (by decide) rfl rfl (g := (mkF m 23 #[rv x0] [.int en2, .ref x0])) rfl rfl (hb hby d13_23)
 have X_4 := p0_.wr W'3
 have F_5 := p1_.other W'3 (Or.inr (slot_ne (Or.inl (qw hw 52 rfl)) (Or.inl (qw hw 74 rfl)) (by decide) (t := (.array .char)) (t' := .int) (by decide) (by decide)))
 have F_6 := p2_.other W'3 (Or.inr (slot_ne (Or.inl (qw hw 55 rfl)) (Or.inl (qw hw 74 rfl)) (by decide) (t := (.array .int)) (t' := .int) (by decide) (by decide)))
 have F_7 := p4_.other W'3 (Or.inr (slot_ne (Or.inl (qw hw 72 rfl)) (Or.inl (qw hw 74 rfl)) (by decide) (t := .int) (t' := .int) (by decide) (by decide)))
 have V_8 := p5_.other W'3 (Ne.symm p10_)
 have V_9 := p6_.other W'3 (Ne.symm p11_)
 have F_a := p3_.same W'3
 have KP_b : Keep h0 h'3 [x0] := KP0.wr W'3 (Or.inl (List.mem_of_getElem? (i := 0) rfl))
 have N_3 := Fr.snoc X'3 N0 p7_
 refine goo st'3 ?_
 show own_G _ _ _ _ (T'3.setTop (mkF m 26 #[rv x0] []))
 exact own_end X'3 Bd.notSynchronized (v := none) (fun _ => rfl) (Q := Q_rm_dis3 Z x0 ca ea kc ke w0 w1 w2 w3 w4 w5 en0 en1 en2 en3 l_ h0 n0) (by show Q_rm_dis3 Z x0 ca ea kc ke w0 w1 w2 w3 w4 w5 en0 en1 en2 en3 l_ h0 n0 (none) T'3.heap _; rw [e'3]; exact ⟨rfl, N_3, KP_b, X_4, F_5, F_6, F_a, F_7, V_8, V_9⟩) (fun fs hr => X'3.returnOut hx Bd.returns (hb hby d13_26) hr) (by decide) (by decide)
theorem d15_0 : decode prog_116_method_4_code 0 = .ok (.aload_n 0, 1) := by decide +kernel
theorem d15_1 : decode prog_116_method_4_code 1 = .ok (.getfield 34, 3) := by decide +kernel
theorem d15_4 : decode prog_116_method_4_code 4 = .ok (.ireturn, 1) := by decide +kernel
theorem ef_15_R (m : MethodId) (x0 : Addr) : entryFrame m #[(.ref x0)] 1 = mkF m 0 #[.val (.ref x0)] [] := by
  first | (simp [entryFrame, mkF, argsToLocals, Value.category]; done) | rfl
theorem rm15 (l : Launch) (Z : State) (a0 : Array Value) (hw : own_HW a0 Z) (ws : List Jvm.Cond) (x0 : Addr)  (s_ : Int32) (h0 : Heap) (Fs : Fld Z h0 x0 s_3 "size" "I" (.int s_)) :
  MetFree l Y32 (head1 (Jvm.Cond.code Y32 prog_116_method_4_code 1 (some .int) :: ws) (rr 0 0 0 0)) (fun a U => a = #[.ref x0] ∧ Z.Warmed39 U.vm ∧ U.heap = h0) (fun _ _ _ _ _ => True) (fun _ U o U' => ∃ v L, o = .returned v ∧ QP (some (.int s_)) h0 v U'.heap L ∧ FrameEnd U o U' L (rr 0 0 0 0).cells (rr 0 0 0 0).slots) := by
 refine MetFree.of_bodySF (plainFor_of_name own_pn5) hisR ?_
 intro p e s m args below meth c s₁ Bd hml0 hP hK
 obtain ⟨rfl, hZ, hh⟩ := hP
 have hx := Bd.exec
 have hby := Bd.bytes
 have hml : c.maxLocals = 1 := hml0
 have hown : s.vm.findClass s_3 = some m.cls := findClass_of_methodNamed Bd.named
 have hnm := (name_of_methodNamed Bd.named Bd.method).1
 have X0 : Stand p l e (rr 0 0 0 0) s m #[.ref x0] below meth c s₁ [] 0 0 := Stand.of_body Bd
 have e0 : s₁.heap = h0 := by rw [← hh, Bd.state]; rfl
 show own_G _ _ _ _ (s₁.setTop (entryFrame m #[.ref x0] 1))
 refine goo (fun _ k => castTop (ef_15_R m x0) k) ?_
 refine goo (fun _ k => XS.aloadN X0.here hx rfl (hb hby d15_0) rfl rfl k) ?_
 obtain ⟨T'0, X'0, e'0, st'0⟩ := getF X0 hx hZ hown (host := "") (Or.inl (qw hw 71 rfl)) Via.refl e0 Fs (g := (mkF m 1 #[rv x0] [.ref x0])) rfl rfl (hb hby d15_1)
 refine goo st'0 ?_
 show own_G _ _ _ _ (T'0.setTop (mkF m 4 #[rv x0] [.int s_]))
 exact own_end X'0 Bd.notSynchronized (v := some (.int s_)) (fun h => by rw [Bd.returns] at h; cases h) (Q := QP (some (.int s_)) h0) ⟨rfl, rfl, e'0⟩ (fun fs hr => retI X'0 hx Bd.returns (hb hby d15_4) hr) (by decide) (by decide)
theorem d17_0 : decode prog_116_method_16_code 0 = .ok (.iload_n 1, 1) := by decide +kernel
theorem d17_1 : decode prog_116_method_16_code 1 = .ok (.ifCond .lt 11, 3) := by decide +kernel
theorem d17_4 : decode prog_116_method_16_code 4 = .ok (.iload_n 1, 1) := by decide +kernel
theorem d17_5 : decode prog_116_method_16_code 5 = .ok (.aload_n 0, 1) := by decide +kernel
theorem d17_6 : decode prog_116_method_16_code 6 = .ok (.getfield 34, 3) := by decide +kernel
theorem d17_9 : decode prog_116_method_16_code 9 = .ok (.if_icmp .lt 21, 3) := by decide +kernel
theorem d17_30 : decode prog_116_method_16_code 30 = .ok (.aload_n 0, 1) := by decide +kernel
theorem d17_31 : decode prog_116_method_16_code 31 = .ok (.getfield 13, 3) := by decide +kernel
theorem d17_34 : decode prog_116_method_16_code 34 = .ok (.iload_n 1, 1) := by decide +kernel
theorem d17_35 : decode prog_116_method_16_code 35 = .ok (.iaload, 1) := by decide +kernel
theorem d17_36 : decode prog_116_method_16_code 36 = .ok (.ireturn, 1) := by decide +kernel
theorem ef_17_RI (m : MethodId) (x0 : Addr) (x1 : Int32) : entryFrame m #[(.ref x0), (.int x1)] 2 = mkF m 0 #[.val (.ref x0), .val (.int x1)] [] := by
  first | (simp [entryFrame, mkF, argsToLocals, Value.category]; done) | rfl
theorem rm_en0 (l : Launch) (Z : State) (a0 : Array Value) (hw : own_HW a0 Z) (ws : List Jvm.Cond) (x0 : Addr)  (s_ : Int32) (ea : Addr) (ke : ClassId) (en0 en1 en2 en3 : Int32) (h0 : Heap) (Xr : Exa Z h0 x0 s_3) (Fs : Fld Z h0 x0 s_3 "size" "I" (.int s_)) (Fe : Fld Z h0 x0 s_3 "ends" "[I" (.ref ea)) (Ve : Arv Z h0 ea ke .int i_32 [.int en0, .int en1, .int en2, .int en3] (.int i_0)) (hlt_ : i_0 < s_) :
  MetFree l Y33 (head1 (Jvm.Cond.code Y33 prog_116_method_16_code 2 (some .int) :: ws) (rr 0 0 0 0)) (fun a U => a = #[.ref x0, .int i_0] ∧ Z.Warmed39 U.vm ∧ U.heap = h0) (fun _ _ _ _ _ => True) (fun _ U o U' => ∃ v L, o = .returned v ∧ QP (some (.int en0)) h0 v U'.heap L ∧ FrameEnd U o U' L (rr 0 0 0 0).cells (rr 0 0 0 0).slots) := by
 refine MetFree.of_bodySF (plainFor_of_name own_pn5) hisR ?_
 intro p e s m args below meth c s₁ Bd hml0 hP hK
 obtain ⟨rfl, hZ, hh⟩ := hP
 have hx := Bd.exec
 have hby := Bd.bytes
 have hml : c.maxLocals = 2 := hml0
 have hown : s.vm.findClass s_3 = some m.cls := findClass_of_methodNamed Bd.named
 have hnm := (name_of_methodNamed Bd.named Bd.method).1
 have X0 : Stand p l e (rr 0 0 0 0) s m #[.ref x0, .int i_0] below meth c s₁ [] 0 0 := Stand.of_body Bd
 have e0 : s₁.heap = h0 := by rw [← hh, Bd.state]; rfl
 show own_G _ _ _ _ (s₁.setTop (entryFrame m #[.ref x0, .int i_0] 2))
 refine goo (fun _ k => castTop (ef_17_RI m x0 i_0) k) ?_
 refine goo (fun _ k => XS.iloadN X0.here hx rfl (hb hby d17_0) rfl <| XS.ifNo X0.here hx rfl (hb hby d17_1) rfl (((if0 _ _).trans (flt (by decide : ¬ (i_0 < i_0))).1)) <| XS.iloadN X0.here hx rfl (hb hby d17_4) rfl <| XS.aloadN X0.here hx rfl (hb hby d17_5) rfl rfl k) ?_
 obtain ⟨T'0, X'0, e'0, st'0⟩ := getF X0 hx hZ hown (host := "") (Or.inl (qw hw 71 rfl)) Via.refl e0 Fs (g := (mkF m 6 #[rv x0, iv i_0] [.ref x0, .int i_0])) rfl rfl (hb hby d17_6)
 refine goo st'0 ?_
 show own_G _ _ _ _ (T'0.setTop (mkF m 9 #[rv x0, iv i_0] [.int s_, .int i_0]))
 refine goo (fun _ k => XS.icmpYes X'0.here hx rfl (pc0 := 9) (pc' := 30) rfl (hb hby d17_9) rfl ((tlt hlt_).1) (by decide) (by decide) <| XS.aloadN X'0.here hx rfl (hb hby d17_30) rfl rfl k) ?_
 obtain ⟨T'1, X'1, e'1, st'1⟩ := getF X'0 hx hZ hown (host := "") (Or.inl (qw hw 54 rfl)) Via.refl e'0 Fe (g := (mkF m 31 #[rv x0, iv i_0] [.ref x0])) rfl rfl (hb hby d17_31)
 refine goo st'1 ?_
 refine goo (fun _ k => XS.iloadN X'1.here hx rfl (hb hby d17_34) rfl k) ?_
 obtain ⟨cl1086, Ar1086, -, S1086, -, H1086, -⟩ := id Ve
 have hin1086 := inb_of S1086 (j := i_0) ⟨by decide, by decide⟩
 refine goo (fun _ k => X'1.iaload hx (j := i_0) (v := (.int en0)) (by rw [e'1]; exact Ar1086.1) (State.isArrayOf_alike hZ.alike Ar1086.2.1) Ar1086.2.2 hin1086 (H1086.at hin1086 rfl) (g := (mkF m 35 #[rv x0, iv i_0] [.int i_0, .ref ea])) rfl rfl (hb hby d17_35) _ k) ?_
 show own_G _ _ _ _ (T'1.setTop (mkF m 36 #[rv x0, iv i_0] [.int en0]))
 exact own_end X'1 Bd.notSynchronized (v := some (.int en0)) (fun h => by rw [Bd.returns] at h; cases h) (Q := QP (some (.int en0)) h0) ⟨rfl, rfl, e'1⟩ (fun fs hr => retI X'1 hx Bd.returns (hb hby d17_36) hr) (by decide) (by decide)
theorem rm_en1 (l : Launch) (Z : State) (a0 : Array Value) (hw : own_HW a0 Z) (ws : List Jvm.Cond) (x0 : Addr)  (s_ : Int32) (ea : Addr) (ke : ClassId) (en0 en1 en2 en3 : Int32) (h0 : Heap) (Xr : Exa Z h0 x0 s_3) (Fs : Fld Z h0 x0 s_3 "size" "I" (.int s_)) (Fe : Fld Z h0 x0 s_3 "ends" "[I" (.ref ea)) (Ve : Arv Z h0 ea ke .int i_32 [.int en0, .int en1, .int en2, .int en3] (.int i_0)) (hlt_ : i_1 < s_) :
  MetFree l Y33 (head1 (Jvm.Cond.code Y33 prog_116_method_16_code 2 (some .int) :: ws) (rr 0 0 0 0)) (fun a U => a = #[.ref x0, .int i_1] ∧ Z.Warmed39 U.vm ∧ U.heap = h0) (fun _ _ _ _ _ => True) (fun _ U o U' => ∃ v L, o = .returned v ∧ QP (some (.int en1)) h0 v U'.heap L ∧ FrameEnd U o U' L (rr 0 0 0 0).cells (rr 0 0 0 0).slots) := by
 refine MetFree.of_bodySF (plainFor_of_name own_pn5) hisR ?_
 intro p e s m args below meth c s₁ Bd hml0 hP hK
 obtain ⟨rfl, hZ, hh⟩ := hP
 have hx := Bd.exec
 have hby := Bd.bytes
 have hml : c.maxLocals = 2 := hml0
 have hown : s.vm.findClass s_3 = some m.cls := findClass_of_methodNamed Bd.named
 have hnm := (name_of_methodNamed Bd.named Bd.method).1
 have X0 : Stand p l e (rr 0 0 0 0) s m #[.ref x0, .int i_1] below meth c s₁ [] 0 0 := Stand.of_body Bd
 have e0 : s₁.heap = h0 := by rw [← hh, Bd.state]; rfl
 show own_G _ _ _ _ (s₁.setTop (entryFrame m #[.ref x0, .int i_1] 2))
 refine goo (fun _ k => castTop (ef_17_RI m x0 i_1) k) ?_
 refine goo (fun _ k => XS.iloadN X0.here hx rfl (hb hby d17_0) rfl <| XS.ifNo X0.here hx rfl (hb hby d17_1) rfl (((if0 _ _).trans (flt (by decide : ¬ (i_1 < i_0))).1)) <| XS.iloadN X0.here hx rfl (hb hby d17_4) rfl <| XS.aloadN X0.here hx rfl (hb hby d17_5) rfl rfl k) ?_
 obtain ⟨T'0, X'0, e'0, st'0⟩ := getF X0 hx hZ hown (host := "") (Or.inl (qw hw 71 rfl)) Via.refl e0 Fs (g := (mkF m 6 #[rv x0, iv i_1] [.ref x0, .int i_1])) rfl rfl (hb hby d17_6)
 refine goo st'0 ?_
 show own_G _ _ _ _ (T'0.setTop (mkF m 9 #[rv x0, iv i_1] [.int s_, .int i_1]))
 refine goo (fun _ k => XS.icmpYes X'0.here hx rfl (pc0 := 9) (pc' := 30) rfl (hb hby d17_9) rfl ((tlt hlt_).1) (by decide) (by decide) <| XS.aloadN X'0.here hx rfl (hb hby d17_30) rfl rfl k) ?_
 obtain ⟨T'1, X'1, e'1, st'1⟩ := getF X'0 hx hZ hown (host := "") (Or.inl (qw hw 54 rfl)) Via.refl e'0 Fe (g := (mkF m 31 #[rv x0, iv i_1] [.ref x0])) rfl rfl (hb hby d17_31)
 refine goo st'1 ?_
 refine goo (fun _ k => XS.iloadN X'1.here hx rfl (hb hby d17_34) rfl k) ?_
 obtain ⟨cl1089, Ar1089, -, S1089, -, H1089, -⟩ := id Ve
 have hin1089 := inb_of S1089 (j := i_1) ⟨by decide, by decide⟩
 refine goo (fun _ k => X'1.iaload hx (j := i_1) (v := (.int en1)) (by rw [e'1]; exact Ar1089.1) (State.isArrayOf_alike hZ.alike Ar1089.2.1) Ar1089.2.2 hin1089 (H1089.at hin1089 rfl) (g := (mkF m 35 #[rv x0, iv i_1] [.int i_1, .ref ea])) rfl rfl (hb hby d17_35) _ k) ?_
 show own_G _ _ _ _ (T'1.setTop (mkF m 36 #[rv x0, iv i_1] [.int en1]))
 exact own_end X'1 Bd.notSynchronized (v := some (.int en1)) (fun h => by rw [Bd.returns] at h; cases h) (Q := QP (some (.int en1)) h0) ⟨rfl, rfl, e'1⟩ (fun fs hr => retI X'1 hx Bd.returns (hb hby d17_36) hr) (by decide) (by decide)
theorem rm_en2 (l : Launch) (Z : State) (a0 : Array Value) (hw : own_HW a0 Z) (ws : List Jvm.Cond) (x0 : Addr)  (s_ : Int32) (ea : Addr) (ke : ClassId) (en0 en1 en2 en3 : Int32) (h0 : Heap) (Xr : Exa Z h0 x0 s_3) (Fs : Fld Z h0 x0 s_3 "size" "I" (.int s_)) (Fe : Fld Z h0 x0 s_3 "ends" "[I" (.ref ea)) (Ve : Arv Z h0 ea ke .int i_32 [.int en0, .int en1, .int en2, .int en3] (.int i_0)) (hlt_ : i_2 < s_) :
  MetFree l Y33 (head1 (Jvm.Cond.code Y33 prog_116_method_16_code 2 (some .int) :: ws) (rr 0 0 0 0)) (fun a U => a = #[.ref x0, .int i_2] ∧ Z.Warmed39 U.vm ∧ U.heap = h0) (fun _ _ _ _ _ => True) (fun _ U o U' => ∃ v L, o = .returned v ∧ QP (some (.int en2)) h0 v U'.heap L ∧ FrameEnd U o U' L (rr 0 0 0 0).cells (rr 0 0 0 0).slots) := by
 refine MetFree.of_bodySF (plainFor_of_name own_pn5) hisR ?_
 intro p e s m args below meth c s₁ Bd hml0 hP hK
 obtain ⟨rfl, hZ, hh⟩ := hP
 have hx := Bd.exec
 have hby := Bd.bytes
 have hml : c.maxLocals = 2 := hml0
 have hown : s.vm.findClass s_3 = some m.cls := findClass_of_methodNamed Bd.named
 have hnm := (name_of_methodNamed Bd.named Bd.method).1
 have X0 : Stand p l e (rr 0 0 0 0) s m #[.ref x0, .int i_2] below meth c s₁ [] 0 0 := Stand.of_body Bd
 have e0 : s₁.heap = h0 := by rw [← hh, Bd.state]; rfl
 show own_G _ _ _ _ (s₁.setTop (entryFrame m #[.ref x0, .int i_2] 2))
 refine goo (fun _ k => castTop (ef_17_RI m x0 i_2) k) ?_
 refine goo (fun _ k => XS.iloadN X0.here hx rfl (hb hby d17_0) rfl <| XS.ifNo X0.here hx rfl (hb hby d17_1) rfl (((if0 _ _).trans (flt (by decide : ¬ (i_2 < i_0))).1)) <| XS.iloadN X0.here hx rfl (hb hby d17_4) rfl <| XS.aloadN X0.here hx rfl (hb hby d17_5) rfl rfl k) ?_
 obtain ⟨T'0, X'0, e'0, st'0⟩ := getF X0 hx hZ hown (host := "") (Or.inl (qw hw 71 rfl)) Via.refl e0 Fs (g := (mkF m 6 #[rv x0, iv i_2] [.ref x0, .int i_2])) rfl rfl (hb hby d17_6)
 refine goo st'0 ?_
 show own_G _ _ _ _ (T'0.setTop (mkF m 9 #[rv x0, iv i_2] [.int s_, .int i_2]))
 refine goo (fun _ k => XS.icmpYes X'0.here hx rfl (pc0 := 9) (pc' := 30) rfl (hb hby d17_9) rfl ((tlt hlt_).1) (by decide) (by decide) <| XS.aloadN X'0.here hx rfl (hb hby d17_30) rfl rfl k) ?_
 obtain ⟨T'1, X'1, e'1, st'1⟩ := getF X'0 hx hZ hown (host := "") (Or.inl (qw hw 54 rfl)) Via.refl e'0 Fe (g := (mkF m 31 #[rv x0, iv i_2] [.ref x0])) rfl rfl (hb hby d17_31)
 refine goo st'1 ?_
 refine goo (fun _ k => XS.iloadN X'1.here hx rfl (hb hby d17_34) rfl k) ?_
 obtain ⟨cl1092, Ar1092, -, S1092, -, H1092, -⟩ := id Ve
 have hin1092 := inb_of S1092 (j := i_2) ⟨by decide, by decide⟩
 refine goo (fun _ k => X'1.iaload hx (j := i_2) (v := (.int en2)) (by rw [e'1]; exact Ar1092.1) (State.isArrayOf_alike hZ.alike Ar1092.2.1) Ar1092.2.2 hin1092 (H1092.at hin1092 rfl) (g := (mkF m 35 #[rv x0, iv i_2] [.int i_2, .ref ea])) rfl rfl (hb hby d17_35) _ k) ?_
 show own_G _ _ _ _ (T'1.setTop (mkF m 36 #[rv x0, iv i_2] [.int en2]))
 exact own_end X'1 Bd.notSynchronized (v := some (.int en2)) (fun h => by rw [Bd.returns] at h; cases h) (Q := QP (some (.int en2)) h0) ⟨rfl, rfl, e'1⟩ (fun fs hr => retI X'1 hx Bd.returns (hb hby d17_36) hr) (by decide) (by decide)
theorem rm_en3 (l : Launch) (Z : State) (a0 : Array Value) (hw : own_HW a0 Z) (ws : List Jvm.Cond) (x0 : Addr)  (s_ : Int32) (ea : Addr) (ke : ClassId) (en0 en1 en2 en3 : Int32) (h0 : Heap) (Xr : Exa Z h0 x0 s_3) (Fs : Fld Z h0 x0 s_3 "size" "I" (.int s_)) (Fe : Fld Z h0 x0 s_3 "ends" "[I" (.ref ea)) (Ve : Arv Z h0 ea ke .int i_32 [.int en0, .int en1, .int en2, .int en3] (.int i_0)) (hlt_ : i_3 < s_) :
  MetFree l Y33 (head1 (Jvm.Cond.code Y33 prog_116_method_16_code 2 (some .int) :: ws) (rr 0 0 0 0)) (fun a U => a = #[.ref x0, .int i_3] ∧ Z.Warmed39 U.vm ∧ U.heap = h0) (fun _ _ _ _ _ => True) (fun _ U o U' => ∃ v L, o = .returned v ∧ QP (some (.int en3)) h0 v U'.heap L ∧ FrameEnd U o U' L (rr 0 0 0 0).cells (rr 0 0 0 0).slots) := by
 refine MetFree.of_bodySF (plainFor_of_name own_pn5) hisR ?_
 intro p e s m args below meth c s₁ Bd hml0 hP hK
 obtain ⟨rfl, hZ, hh⟩ := hP
 have hx := Bd.exec
 have hby := Bd.bytes
 have hml : c.maxLocals = 2 := hml0
 have hown : s.vm.findClass s_3 = some m.cls := findClass_of_methodNamed Bd.named
 have hnm := (name_of_methodNamed Bd.named Bd.method).1
 have X0 : Stand p l e (rr 0 0 0 0) s m #[.ref x0, .int i_3] below meth c s₁ [] 0 0 := Stand.of_body Bd
 have e0 : s₁.heap = h0 := by rw [← hh, Bd.state]; rfl
 show own_G _ _ _ _ (s₁.setTop (entryFrame m #[.ref x0, .int i_3] 2))
 refine goo (fun _ k => castTop (ef_17_RI m x0 i_3) k) ?_
 refine goo (fun _ k => XS.iloadN X0.here hx rfl (hb hby d17_0) rfl <| XS.ifNo X0.here hx rfl (hb hby d17_1) rfl (((if0 _ _).trans (flt (by decide : ¬ (i_3 < i_0))).1)) <| XS.iloadN X0.here hx rfl (hb hby d17_4) rfl <| XS.aloadN X0.here hx rfl (hb hby d17_5) rfl rfl k) ?_
 obtain ⟨T'0, X'0, e'0, st'0⟩ := getF X0 hx hZ hown (host := "") (Or.inl (qw hw 71 rfl)) Via.refl e0 Fs (g := (mkF m 6 #[rv x0, iv i_3] [.ref x0, .int i_3])) rfl rfl (hb hby d17_6)
 refine goo st'0 ?_
 show own_G _ _ _ _ (T'0.setTop (mkF m 9 #[rv x0, iv i_3] [.int s_, .int i_3]))
 refine goo (fun _ k => XS.icmpYes X'0.here hx rfl (pc0 := 9) (pc' := 30) rfl (hb hby d17_9) rfl ((tlt hlt_).1) (by decide) (by decide) <| XS.aloadN X'0.here hx rfl (hb hby d17_30) rfl rfl k) ?_
 obtain ⟨T'1, X'1, e'1, st'1⟩ := getF X'0 hx hZ hown (host := "") (Or.inl (qw hw 54 rfl)) Via.refl e'0 Fe (g := (mkF m 31 #[rv x0, iv i_3] [.ref x0])) rfl rfl (hb hby d17_31)
 refine goo st'1 ?_
 refine goo (fun _ k => XS.iloadN X'1.here hx rfl (hb hby d17_34) rfl k) ?_
 obtain ⟨cl1095, Ar1095, -, S1095, -, H1095, -⟩ := id Ve
 have hin1095 := inb_of S1095 (j := i_3) ⟨by decide, by decide⟩
 refine goo (fun _ k => X'1.iaload hx (j := i_3) (v := (.int en3)) (by rw [e'1]; exact Ar1095.1) (State.isArrayOf_alike hZ.alike Ar1095.2.1) Ar1095.2.2 hin1095 (H1095.at hin1095 rfl) (g := (mkF m 35 #[rv x0, iv i_3] [.int i_3, .ref ea])) rfl rfl (hb hby d17_35) _ k) ?_
 show own_G _ _ _ _ (T'1.setTop (mkF m 36 #[rv x0, iv i_3] [.int en3]))
 exact own_end X'1 Bd.notSynchronized (v := some (.int en3)) (fun h => by rw [Bd.returns] at h; cases h) (Q := QP (some (.int en3)) h0) ⟨rfl, rfl, e'1⟩ (fun fs hr => retI X'1 hx Bd.returns (hb hby d17_36) hr) (by decide) (by decide)
theorem d18_0 : decode prog_116_method_15_code 0 = .ok (.iload_n 1, 1) := by decide +kernel
theorem d18_1 : decode prog_116_method_15_code 1 = .ok (.ifCond .ne 7, 3) := by decide +kernel
theorem d18_4 : decode prog_116_method_15_code 4 = .ok (.iconst 0, 1) := by decide +kernel
theorem d18_5 : decode prog_116_method_15_code 5 = .ok (.goto 10, 3) := by decide +kernel
theorem d18_8 : decode prog_116_method_15_code 8 = .ok (.aload_n 0, 1) := by decide +kernel
theorem d18_9 : decode prog_116_method_15_code 9 = .ok (.iload_n 1, 1) := by decide +kernel
theorem d18_10 : decode prog_116_method_15_code 10 = .ok (.iconst 1, 1) := by decide +kernel
theorem d18_11 : decode prog_116_method_15_code 11 = .ok (.isub, 1) := by decide +kernel
theorem d18_12 : decode prog_116_method_15_code 12 = .ok (.invokevirtual 57, 3) := by decide +kernel
theorem d18_15 : decode prog_116_method_15_code 15 = .ok (.ireturn, 1) := by decide +kernel
theorem ef_18_RI (m : MethodId) (x0 : Addr) (x1 : Int32) : entryFrame m #[(.ref x0), (.int x1)] 2 = mkF m 0 #[.val (.ref x0), .val (.int x1)] [] := by
  first | (simp [entryFrame, mkF, argsToLocals, Value.category]; done) | rfl
theorem rm_st0 (l : Launch) (Z : State) (a0 : Array Value) (hw : own_HW a0 Z) (ws : List Jvm.Cond) (x0 : Addr)  (s_ : Int32) (ea : Addr) (ke : ClassId) (en0 en1 en2 en3 : Int32) (h0 : Heap) (Xr : Exa Z h0 x0 s_3) (Fs : Fld Z h0 x0 s_3 "size" "I" (.int s_)) (Fe : Fld Z h0 x0 s_3 "ends" "[I" (.ref ea)) (Ve : Arv Z h0 ea ke .int i_32 [.int en0, .int en1, .int en2, .int en3] (.int i_0)) :
  MetFree l Y34 (head1 (Jvm.Cond.code Y34 prog_116_method_15_code 2 (some .int) :: ws) (rr 0 0 0 0)) (fun a U => a = #[.ref x0, .int i_0] ∧ Z.Warmed39 U.vm ∧ U.heap = h0) (fun _ _ _ _ _ => True) (fun _ U o U' => ∃ v L, o = .returned v ∧ QP (some (.int i_0)) h0 v U'.heap L ∧ FrameEnd U o U' L (rr 0 0 0 0).cells (rr 0 0 0 0).slots) := by
 refine MetFree.of_bodySF (plainFor_of_name own_pn5) hisR ?_
 intro p e s m args below meth c s₁ Bd hml0 hP hK
 obtain ⟨rfl, hZ, hh⟩ := hP
 have hx := Bd.exec
 have hby := Bd.bytes
 have hml : c.maxLocals = 2 := hml0
 have hown : s.vm.findClass s_3 = some m.cls := findClass_of_methodNamed Bd.named
 have hnm := (name_of_methodNamed Bd.named Bd.method).1
 have X0 : Stand p l e (rr 0 0 0 0) s m #[.ref x0, .int i_0] below meth c s₁ [] 0 0 := Stand.of_body Bd
 have e0 : s₁.heap = h0 := by rw [← hh, Bd.state]; rfl
 show own_G _ _ _ _ (s₁.setTop (entryFrame m #[.ref x0, .int i_0] 2))
 refine goo (fun _ k => castTop (ef_18_RI m x0 i_0) k) ?_
 refine goo (fun _ k => XS.iloadN X0.here hx rfl (hb hby d18_0) rfl <| XS.ifNo X0.here hx rfl (hb hby d18_1) rfl (((if0 _ _).trans (teq (by decide : i_0 = i_0)).2)) <| XS.iconst X0.here hx rfl (hb hby d18_4) <| XS.goto X0.here hx rfl (pc0 := 5) (pc' := 15) rfl (hb hby d18_5) (by decide) (by decide) k) ?_
 show own_G _ _ _ _ (s₁.setTop (mkF m 15 #[rv x0, iv i_0] [.int i_0]))
 exact own_end X0 Bd.notSynchronized (v := some (.int i_0)) (fun h => by rw [Bd.returns] at h; cases h) (Q := QP (some (.int i_0)) h0) ⟨rfl, rfl, e0⟩ (fun fs hr => retI X0 hx Bd.returns (hb hby d18_15) hr) (by decide) (by decide)
theorem own_pd21 : parseMethodDescriptor "(I)I" = some ⟨[.int], some .int⟩ := by decide +kernel
theorem rm_st1 (l : Launch) (Z : State) (a0 : Array Value) (hw : own_HW a0 Z) (ws : List Jvm.Cond) (x0 : Addr)  (s_ : Int32) (ea : Addr) (ke : ClassId) (en0 en1 en2 en3 : Int32) (h0 : Heap) (Xr : Exa Z h0 x0 s_3) (Fs : Fld Z h0 x0 s_3 "size" "I" (.int s_)) (Fe : Fld Z h0 x0 s_3 "ends" "[I" (.ref ea)) (Ve : Arv Z h0 ea ke .int i_32 [.int en0, .int en1, .int en2, .int en3] (.int i_0)) (hlt_ : i_0 < s_) :
  MetFree l Y34 (head1 (Jvm.Cond.code Y34 prog_116_method_15_code 2 (some .int) :: ws) (rr 1 0 0 13)) (fun a U => a = #[.ref x0, .int i_1] ∧ Z.Warmed39 U.vm ∧ U.heap = h0) (fun _ _ _ _ _ => True) (fun _ U o U' => ∃ v L, o = .returned v ∧ QP (some (.int en0)) h0 v U'.heap L ∧ FrameEnd U o U' L (rr 1 0 0 13).cells (rr 1 0 0 13).slots) := by
 refine MetFree.of_bodySF (plainFor_of_name own_pn5) hisR ?_
 intro p e s m args below meth c s₁ Bd hml0 hP hK
 obtain ⟨rfl, hZ, hh⟩ := hP
 have hx := Bd.exec
 have hby := Bd.bytes
 have hml : c.maxLocals = 2 := hml0
 have hown : s.vm.findClass s_3 = some m.cls := findClass_of_methodNamed Bd.named
 have hnm := (name_of_methodNamed Bd.named Bd.method).1
 have X0 : Stand p l e (rr 1 0 0 13) s m #[.ref x0, .int i_1] below meth c s₁ [] 0 0 := Stand.of_body Bd
 have e0 : s₁.heap = h0 := by rw [← hh, Bd.state]; rfl
 show own_G _ _ _ _ (s₁.setTop (entryFrame m #[.ref x0, .int i_1] 2))
 refine goo (fun _ k => castTop (ef_18_RI m x0 i_1) k) ?_
 refine goo (fun _ k => XS.iloadN X0.here hx rfl (hb hby d18_0) rfl <| XS.ifYes X0.here hx rfl (pc0 := 1) (pc' := 8) rfl (hb hby d18_1) rfl (((if0 _ _).trans (feq (by decide : ¬ (i_1 = i_0))).2)) (by decide) (by decide) <| XS.aloadN X0.here hx rfl (hb hby d18_8) rfl rfl <| XS.iloadN X0.here hx rfl (hb hby d18_9) rfl k) ?_
 refine goo (fun _ k => XS.iconst X0.here hx rfl (hb hby d18_10) k) ?_
 show own_G _ _ _ _ (s₁.setTop (mkF m 11 #[rv x0, iv i_1] [.int i_1, .int i_1, .ref x0]))
 refine goo (fun _ k => XS.isub X0.here hx rfl (hb hby d18_11) rfl k) ?_
 obtain ⟨T'0, X'0, e'0, st'0⟩ := own_callV X0 hx hZ (y := Y33) hown (qw hw 90 rfl) (qw hw 91 rfl) (qw hw 93 rfl) (qw hw 92 rfl) (qw hw 46 rfl) (qw hw 94 rfl) (by decide) (W := 0) (rm_en0 l Z a0 hw [] x0 s_ ea ke en0 en1 en2 en3 h0 Xr Fs Fe Ve hlt_) (by decide) (by decide) rfl rfl e0 Xr (g := (mkF m 12 #[rv x0, iv i_1] [.int i_0, .ref x0])) rfl (by rw [hml]; rfl) (argsL := [.int i_0]) (rest := []) (lenOf own_pd21 rfl) rfl rfl (Nat.le_of_eq rfl) (hb hby d18_12) (by decide) (by decide)
 refine goo st'0 ?_
 show own_G _ _ _ _ (T'0.setTop (mkF m 15 #[rv x0, iv i_1] [.int en0]))
 exact own_end X'0 Bd.notSynchronized (v := some (.int en0)) (fun h => by rw [Bd.returns] at h; cases h) (Q := QP (some (.int en0)) h0) ⟨rfl, rfl, e'0⟩ (fun fs hr => retI X'0 hx Bd.returns (hb hby d18_15) hr) (by decide) (by decide)
theorem rm_st2 (l : Launch) (Z : State) (a0 : Array Value) (hw : own_HW a0 Z) (ws : List Jvm.Cond) (x0 : Addr)  (s_ : Int32) (ea : Addr) (ke : ClassId) (en0 en1 en2 en3 : Int32) (h0 : Heap) (Xr : Exa Z h0 x0 s_3) (Fs : Fld Z h0 x0 s_3 "size" "I" (.int s_)) (Fe : Fld Z h0 x0 s_3 "ends" "[I" (.ref ea)) (Ve : Arv Z h0 ea ke .int i_32 [.int en0, .int en1, .int en2, .int en3] (.int i_0)) (hlt_ : i_1 < s_) :
  MetFree l Y34 (head1 (Jvm.Cond.code Y34 prog_116_method_15_code 2 (some .int) :: ws) (rr 1 0 0 13)) (fun a U => a = #[.ref x0, .int i_2] ∧ Z.Warmed39 U.vm ∧ U.heap = h0) (fun _ _ _ _ _ => True) (fun _ U o U' => ∃ v L, o = .returned v ∧ QP (some (.int en1)) h0 v U'.heap L ∧ FrameEnd U o U' L (rr 1 0 0 13).cells (rr 1 0 0 13).slots) := by
 refine MetFree.of_bodySF (plainFor_of_name own_pn5) hisR ?_
 intro p e s m args below meth c s₁ Bd hml0 hP hK
 obtain ⟨rfl, hZ, hh⟩ := hP
 have hx := Bd.exec
 have hby := Bd.bytes
 have hml : c.maxLocals = 2 := hml0
 have hown : s.vm.findClass s_3 = some m.cls := findClass_of_methodNamed Bd.named
 have hnm := (name_of_methodNamed Bd.named Bd.method).1
 have X0 : Stand p l e (rr 1 0 0 13) s m #[.ref x0, .int i_2] below meth c s₁ [] 0 0 := Stand.of_body Bd
 have e0 : s₁.heap = h0 := by rw [← hh, Bd.state]; rfl
 show own_G _ _ _ _ (s₁.setTop (entryFrame m #[.ref x0, .int i_2] 2))
 refine goo (fun _ k => castTop (ef_18_RI m x0 i_2) k) ?_
 refine goo (fun _ k => XS.iloadN X0.here hx rfl (hb hby d18_0) rfl <| XS.ifYes X0.here hx rfl (pc0 := 1) (pc' := 8) rfl (hb hby d18_1) rfl (((if0 _ _).trans (feq (by decide : ¬ (i_2 = i_0))).2)) (by decide) (by decide) <| XS.aloadN X0.here hx rfl (hb hby d18_8) rfl rfl <| XS.iloadN X0.here hx rfl (hb hby d18_9) rfl k) ?_
 refine goo (fun _ k => XS.iconst X0.here hx rfl (hb hby d18_10) k) ?_
 show own_G _ _ _ _ (s₁.setTop (mkF m 11 #[rv x0, iv i_2] [.int i_1, .int i_2, .ref x0]))
 refine goo (fun _ k => XS.isub X0.here hx rfl (hb hby d18_11) rfl k) ?_
 obtain ⟨T'0, X'0, e'0, st'0⟩ := own_callV X0 hx hZ (y := Y33) hown (qw hw 90 rfl) (qw hw 91 rfl) (qw hw 93 rfl) (qw hw 92 rfl) (qw hw 46 rfl) (qw hw 94 rfl) (by decide) (W := 0) (rm_en1 l Z a0 hw [] x0 s_ ea ke en0 en1 en2 en3 h0 Xr Fs Fe Ve hlt_) (by decide) (by decide) rfl rfl e0 Xr (g := (mkF m 12 #[rv x0, iv i_2] [.int i_1, .ref x0])) rfl (by rw [hml]; rfl) (argsL := [.int i_1]) (rest := []) (lenOf own_pd21 rfl) rfl rfl (Nat.le_of_eq rfl) (hb hby d18_12) (by decide) (by decide)
 refine goo st'0 ?_
 show own_G _ _ _ _ (T'0.setTop (mkF m 15 #[rv x0, iv i_2] [.int en1]))
 exact own_end X'0 Bd.notSynchronized (v := some (.int en1)) (fun h => by rw [Bd.returns] at h; cases h) (Q := QP (some (.int en1)) h0) ⟨rfl, rfl, e'0⟩ (fun fs hr => retI X'0 hx Bd.returns (hb hby d18_15) hr) (by decide) (by decide)
theorem rm_st3 (l : Launch) (Z : State) (a0 : Array Value) (hw : own_HW a0 Z) (ws : List Jvm.Cond) (x0 : Addr)  (s_ : Int32) (ea : Addr) (ke : ClassId) (en0 en1 en2 en3 : Int32) (h0 : Heap) (Xr : Exa Z h0 x0 s_3) (Fs : Fld Z h0 x0 s_3 "size" "I" (.int s_)) (Fe : Fld Z h0 x0 s_3 "ends" "[I" (.ref ea)) (Ve : Arv Z h0 ea ke .int i_32 [.int en0, .int en1, .int en2, .int en3] (.int i_0)) (hlt_ : i_2 < s_) :
  MetFree l Y34 (head1 (Jvm.Cond.code Y34 prog_116_method_15_code 2 (some .int) :: ws) (rr 1 0 0 13)) (fun a U => a = #[.ref x0, .int i_3] ∧ Z.Warmed39 U.vm ∧ U.heap = h0) (fun _ _ _ _ _ => True) (fun _ U o U' => ∃ v L, o = .returned v ∧ QP (some (.int en2)) h0 v U'.heap L ∧ FrameEnd U o U' L (rr 1 0 0 13).cells (rr 1 0 0 13).slots) := by
 refine MetFree.of_bodySF (plainFor_of_name own_pn5) hisR ?_
 intro p e s m args below meth c s₁ Bd hml0 hP hK
 obtain ⟨rfl, hZ, hh⟩ := hP
 have hx := Bd.exec
 have hby := Bd.bytes
 have hml : c.maxLocals = 2 := hml0
 have hown : s.vm.findClass s_3 = some m.cls := findClass_of_methodNamed Bd.named
 have hnm := (name_of_methodNamed Bd.named Bd.method).1
 have X0 : Stand p l e (rr 1 0 0 13) s m #[.ref x0, .int i_3] below meth c s₁ [] 0 0 := Stand.of_body Bd
 have e0 : s₁.heap = h0 := by rw [← hh, Bd.state]; rfl
 show own_G _ _ _ _ (s₁.setTop (entryFrame m #[.ref x0, .int i_3] 2))
 refine goo (fun _ k => castTop (ef_18_RI m x0 i_3) k) ?_
 refine goo (fun _ k => XS.iloadN X0.here hx rfl (hb hby d18_0) rfl <| XS.ifYes X0.here hx rfl (pc0 := 1) (pc' := 8) rfl (hb hby d18_1) rfl (((if0 _ _).trans (feq (by decide : ¬ (i_3 = i_0))).2)) (by decide) (by decide) <| XS.aloadN X0.here hx rfl (hb hby d18_8) rfl rfl <| XS.iloadN X0.here hx rfl (hb hby d18_9) rfl k) ?_
 refine goo (fun _ k => XS.iconst X0.here hx rfl (hb hby d18_10) k) ?_
 show own_G _ _ _ _ (s₁.setTop (mkF m 11 #[rv x0, iv i_3] [.int i_1, .int i_3, .ref x0]))
 refine goo (fun _ k => XS.isub X0.here hx rfl (hb hby d18_11) rfl k) ?_
 obtain ⟨T'0, X'0, e'0, st'0⟩ := own_callV X0 hx hZ (y := Y33) hown (qw hw 90 rfl) (qw hw 91 rfl) (qw hw 93 rfl) (qw hw 92 rfl) (qw hw 46 rfl) (qw hw 94 rfl) (by decide) (W := 0) (rm_en2 l Z a0 hw [] x0 s_ ea ke en0 en1 en2 en3 h0 Xr Fs Fe Ve hlt_) (by decide) (by decide) rfl rfl e0 Xr (g := (mkF m 12 #[rv x0, iv i_3] [.int i_2, .ref x0])) rfl (by rw [hml]; rfl) (argsL := [.int i_2]) (rest := []) (lenOf own_pd21 rfl) rfl rfl (Nat.le_of_eq rfl) (hb hby d18_12) (by decide) (by decide)
 refine goo st'0 ?_
 show own_G _ _ _ _ (T'0.setTop (mkF m 15 #[rv x0, iv i_3] [.int en2]))
 exact own_end X'0 Bd.notSynchronized (v := some (.int en2)) (fun h => by rw [Bd.returns] at h; cases h) (Q := QP (some (.int en2)) h0) ⟨rfl, rfl, e'0⟩ (fun fs hr => retI X'0 hx Bd.returns (hb hby d18_15) hr) (by decide) (by decide)
theorem d16_0 : decode prog_116_method_10_code 0 = .ok (.aload_n 0, 1) := by decide +kernel
theorem d16_1 : decode prog_116_method_10_code 1 = .ok (.iload_n 1, 1) := by decide +kernel
theorem d16_2 : decode prog_116_method_10_code 2 = .ok (.invokevirtual 57, 3) := by decide +kernel
theorem d16_5 : decode prog_116_method_10_code 5 = .ok (.aload_n 0, 1) := by decide +kernel
theorem d16_6 : decode prog_116_method_10_code 6 = .ok (.iload_n 1, 1) := by decide +kernel
theorem d16_7 : decode prog_116_method_10_code 7 = .ok (.invokevirtual 53, 3) := by decide +kernel
theorem d16_10 : decode prog_116_method_10_code 10 = .ok (.isub, 1) := by decide +kernel
theorem d16_11 : decode prog_116_method_10_code 11 = .ok (.ireturn, 1) := by decide +kernel
theorem ef_16_RI (m : MethodId) (x0 : Addr) (x1 : Int32) : entryFrame m #[(.ref x0), (.int x1)] 2 = mkF m 0 #[.val (.ref x0), .val (.int x1)] [] := by
  first | (simp [entryFrame, mkF, argsToLocals, Value.category]; done) | rfl
theorem rm_ln00 (l : Launch) (Z : State) (a0 : Array Value) (hw : own_HW a0 Z) (ws : List Jvm.Cond) (x0 : Addr)  (ea : Addr) (ke : ClassId) (en1 en2 en3 : Int32) (h0 : Heap) (Xr : Exa Z h0 x0 s_3) (Fs : Fld Z h0 x0 s_3 "size" "I" (.int i_1)) (Fe : Fld Z h0 x0 s_3 "ends" "[I" (.ref ea)) (Ve : Arv Z h0 ea ke .int i_32 [.int i_0, .int en1, .int en2, .int en3] (.int i_0)) :
  MetFree l Y35 (head1 (Jvm.Cond.code Y35 prog_116_method_10_code 2 (some .int) :: ws) (rr 1 0 0 14)) (fun a U => a = #[.ref x0, .int i_0] ∧ Z.Warmed39 U.vm ∧ U.heap = h0) (fun _ _ _ _ _ => True) (fun _ U o U' => ∃ v L, o = .returned v ∧ QP (some (.int i_0)) h0 v U'.heap L ∧ FrameEnd U o U' L (rr 1 0 0 14).cells (rr 1 0 0 14).slots) := by
 refine MetFree.of_bodySF (plainFor_of_name own_pn5) hisR ?_
 intro p e s m args below meth c s₁ Bd hml0 hP hK
 obtain ⟨rfl, hZ, hh⟩ := hP
 have hx := Bd.exec
 have hby := Bd.bytes
 have hml : c.maxLocals = 2 := hml0
 have hown : s.vm.findClass s_3 = some m.cls := findClass_of_methodNamed Bd.named
 have hnm := (name_of_methodNamed Bd.named Bd.method).1
 have X0 : Stand p l e (rr 1 0 0 14) s m #[.ref x0, .int i_0] below meth c s₁ [] 0 0 := Stand.of_body Bd
 have e0 : s₁.heap = h0 := by rw [← hh, Bd.state]; rfl
 show own_G _ _ _ _ (s₁.setTop (entryFrame m #[.ref x0, .int i_0] 2))
 refine goo (fun _ k => castTop (ef_16_RI m x0 i_0) k) ?_
 refine goo (fun _ k => XS.aloadN X0.here hx rfl (hb hby d16_0) rfl rfl <| XS.iloadN X0.here hx rfl (hb hby d16_1) rfl k) ?_
 obtain ⟨T'0, X'0, e'0, st'0⟩ := own_callV X0 hx hZ (y := Y33) hown (qw hw 90 rfl) (qw hw 91 rfl) (qw hw 93 rfl) (qw hw 92 rfl) (qw hw 46 rfl) (qw hw 94 rfl) (by decide) (W := 0) (rm_en0 l Z a0 hw [] x0 i_1 ea ke i_0 en1 en2 en3 h0 Xr Fs Fe Ve (by decide)) (by decide) (by decide) rfl rfl e0 Xr (g := (mkF m 2 #[rv x0, iv i_0] [.int i_0, .ref x0])) rfl (by rw [hml]; rfl) (argsL := [.int i_0]) (rest := []) (lenOf own_pd21 rfl) rfl rfl (Nat.le_of_eq rfl) (hb hby d16_2) (by decide) (by decide)
 refine goo st'0 ?_
 refine goo (fun _ k => XS.aloadN X'0.here hx rfl (hb hby d16_5) rfl rfl <| XS.iloadN X'0.here hx rfl (hb hby d16_6) rfl k) ?_
 show own_G _ _ _ _ (T'0.setTop (mkF m 7 #[rv x0, iv i_0] [.int i_0, .ref x0, .int i_0]))
 obtain ⟨T'1, X'1, e'1, st'1⟩ := own_callV X'0 hx hZ (y := Y34) hown (qw hw 95 rfl) (qw hw 96 rfl) (qw hw 98 rfl) (qw hw 97 rfl) (qw hw 46 rfl) (qw hw 99 rfl) (by decide) (W := 1) (rm_st0 l Z a0 hw [] x0 i_1 ea ke i_0 en1 en2 en3 h0 Xr Fs Fe Ve) (by decide) (by decide) rfl rfl e'0 Xr (g := (mkF m 7 #[rv x0, iv i_0] [.int i_0, .ref x0, .int i_0])) rfl (by rw [hml]; rfl) (argsL := [.int i_0]) (rest := [.int i_0]) (lenOf own_pd21 rfl) rfl rfl (Nat.le_of_eq rfl) (hb hby d16_7) (by decide) (by decide)
 refine goo st'1 ?_
 refine goo (fun _ k => XS.isub X'1.here hx rfl (hb hby d16_10) rfl k) ?_
 show own_G _ _ _ _ (T'1.setTop (mkF m 11 #[rv x0, iv i_0] [.int i_0]))
 exact own_end X'1 Bd.notSynchronized (v := some (.int i_0)) (fun h => by rw [Bd.returns] at h; cases h) (Q := QP (some (.int i_0)) h0) ⟨rfl, rfl, e'1⟩ (fun fs hr => retI X'1 hx Bd.returns (hb hby d16_11) hr) (by decide) (by decide)
def Q_rm_va00_0 (Z : State) (x0 : Addr) (ca ea : Addr) (kc ke : ClassId) (w0 w1 w2 w3 w4 w5 en1 en2 en3 : Int32) (cz : Int32) (fz : Value) (h0 : Heap) (n0 : Nat) (v : Option Value) (h : Heap) (L : List Loc) : Prop := ∃ RET : Addr, v = some (.ref RET) ∧ Fr n0 L ∧ Keep h0 h [] ∧ h0.size ≤ RET ∧ Exa Z h RET s_0 ∧ Fld Z h RET s_0 "coder" "B" (.int i_0) ∧ ∃ b k, Fld Z h RET s_0 "value" "[B" (.ref b) ∧ Arv Z h b k .byte i_0 [] (.int i_0)
theorem own_pd22 : parseMethodDescriptor "([CII)V" = some ⟨[(.array .char), .int, .int], none⟩ := by decide +kernel
theorem d19_0 : decode prog_116_method_9_code 0 = .ok (.new 69, 3) := by decide +kernel
theorem d19_3 : decode prog_116_method_9_code 3 = .ok (.dup, 1) := by decide +kernel
theorem d19_4 : decode prog_116_method_9_code 4 = .ok (.aload_n 0, 1) := by decide +kernel
theorem d19_5 : decode prog_116_method_9_code 5 = .ok (.getfield 7, 3) := by decide +kernel
theorem d19_8 : decode prog_116_method_9_code 8 = .ok (.aload_n 0, 1) := by decide +kernel
theorem d19_9 : decode prog_116_method_9_code 9 = .ok (.iload_n 1, 1) := by decide +kernel
theorem d19_10 : decode prog_116_method_9_code 10 = .ok (.invokevirtual 53, 3) := by decide +kernel
theorem d19_13 : decode prog_116_method_9_code 13 = .ok (.aload_n 0, 1) := by decide +kernel
theorem d19_14 : decode prog_116_method_9_code 14 = .ok (.iload_n 1, 1) := by decide +kernel
theorem d19_15 : decode prog_116_method_9_code 15 = .ok (.invokevirtual 57, 3) := by decide +kernel
theorem d19_18 : decode prog_116_method_9_code 18 = .ok (.aload_n 0, 1) := by decide +kernel
theorem d19_19 : decode prog_116_method_9_code 19 = .ok (.iload_n 1, 1) := by decide +kernel
theorem d19_20 : decode prog_116_method_9_code 20 = .ok (.invokevirtual 53, 3) := by decide +kernel
theorem d19_23 : decode prog_116_method_9_code 23 = .ok (.isub, 1) := by decide +kernel
theorem d19_24 : decode prog_116_method_9_code 24 = .ok (.invokespecial 71, 3) := by decide +kernel
theorem d19_27 : decode prog_116_method_9_code 27 = .ok (.areturn, 1) := by decide +kernel
theorem ef_19_RI (m : MethodId) (x0 : Addr) (x1 : Int32) : entryFrame m #[(.ref x0), (.int x1)] 2 = mkF m 0 #[.val (.ref x0), .val (.int x1)] [] := by
  first | (simp [entryFrame, mkF, argsToLocals, Value.category]; done) | rfl
theorem rm_va00_0 (l : Launch) (Z : State) (a0 : Array Value) (hw : own_HW a0 Z) (ws : List Jvm.Cond) (x0 : Addr) (ca ea : Addr) (kc ke : ClassId) (w0 w1 w2 w3 w4 w5 en1 en2 en3 : Int32) (cz : Int32) (fz : Value) (h0 : Heap) (n0 : Nat) (Z0 : n0 ≤ h0.size) (p0_ : Exa Z h0 x0 s_3) (p1_ : Fld Z h0 x0 s_3 "chars" "[C" (.ref ca)) (p2_ : Fld Z h0 x0 s_3 "ends" "[I" (.ref ea)) (p3_ : Fld Z h0 x0 s_3 "size" "I" (.int i_1)) (p4_ : Arv Z h0 ca kc .char i_256 [.int w0, .int w1, .int w2, .int w3, .int w4, .int w5] (.int i_0)) (p5_ : Arv Z h0 ea ke .int i_32 [.int i_0, .int en1, .int en2, .int en3] (.int i_0)) (p6_ : Sta Z h0 s_0 "COMPACT_STRINGS" "Z" (.int cz)) (p7_ : ¬ cz = i_0) (p8_ : Sta Z h0 s_1 "SIOOBE_FORMATTER" "Ljava/util/function/BiFunction;" fz) (p9_ : Old Z n0 h0) (p10_ : Jvm.Lit.constHeld Z s_0 7) (p11_ : Jvm.Lit.compactW.before a0 Z = true) (hfz : fz.isRef = true) :
  MetFree l Y36 (head1 (Jvm.Cond.code Y36 prog_116_method_9_code 2 (some (.object s_0)) :: ws) (rr 4 3 8 63)) (fun a U => a = #[.ref x0, .int i_0] ∧ Z.Warmed39 U.vm ∧ U.heap = h0 ∧ IB Z U.vm []) (fun _ _ _ _ _ => True) (fun _ U o U' => ∃ v L, o = .returned v ∧ Q_rm_va00_0 Z x0 ca ea kc ke w0 w1 w2 w3 w4 w5 en1 en2 en3 cz fz h0 n0 v U'.heap L ∧ ReturnedEndW U o U' L (rr 4 3 8 63).cells (rr 4 3 8 63).slots) := by
 refine MetFree.of_bodySF (plainFor_of_name own_pn5) hisR ?_
 intro p e s m args below meth c s₁ Bd hml0 hP hK
 obtain ⟨rfl, hZ, hh, hI⟩ := hP
 have hx := Bd.exec
 have hby := Bd.bytes
 have hml : c.maxLocals = 2 := hml0
 have hown : s.vm.findClass s_3 = some m.cls := findClass_of_methodNamed Bd.named
 have hnm := (name_of_methodNamed Bd.named Bd.method).1
 have X0 : Stand p l e (rr 4 3 8 63) s m #[.ref x0, .int i_0] below meth c s₁ [] 0 0 := Stand.of_body Bd
 have e0 : s₁.heap = h0 := by rw [← hh, Bd.state]; rfl
 show own_G _ _ _ _ (s₁.setTop (entryFrame m #[.ref x0, .int i_0] 2))
 refine goo (fun _ k => castTop (ef_19_RI m x0 i_0) k) ?_
 have N0 := Fr.nil n0
 have KP0 := Keep.refl h0 []
 have hS : s.Since s.vm h0.size := (State.WarmedH.refl s).since _
 have hk : h0.size ≤ h0.size := Nat.le_refl _
 have own_sA : ∀ a ∈ Bundle.stringAtoms, a.before a0 Z = true := own_strA hw
 obtain ⟨T'0, h'0, X'0, e'0, E'0, A'0, D'0, -, st'0⟩ := newO X0 hx hZ hown (qw hw 105 rfl) (qw hw 11 rfl) (qw hw 3 rfl) e0 (g := (mkF m 0 #[rv x0, iv i_0] [])) rfl (hb hby d19_0) (by decide) (by decide)
 obtain ⟨b'0, g'0⟩ : ∃ z, z = h0.size := ⟨_, rfl⟩
 rw [← g'0] at A'0 D'0 st'0
 have ne_1 : ca ≠ b'0 := Nat.ne_of_lt (Nat.lt_of_lt_of_le p4_.lt (Nat.le_of_eq g'0.symm))
 have ge_2 : n0 ≤ b'0 := Nat.le_trans Z0 (Nat.le_of_eq g'0.symm)
 have sz_1106 : h0.size ≤ b'0 := Nat.le_trans KP0.1 (Nat.le_of_eq g'0.symm)
 have X_3 := p0_.ext E'0
 have F_4 := p1_.ext E'0
 have F_5 := p2_.ext E'0
 have F_6 := p3_.ext E'0
 have V_7 := p4_.ext E'0
 have V_8 := p5_.ext E'0
 have S_9 := p6_.ext E'0
 have S_a := p8_.ext E'0
 have Old_b := p9_.ext E'0
 have Z_c : n0 ≤ h'0.size := Nat.le_trans Z0 E'0.1
 have hk_d := Nat.le_trans hk E'0.1
 have KP_e : Keep h0 h'0 [] := KP0.ext E'0
 have F_f : Fld Z h'0 b'0 s_0 "value" "[B" .null := D'0 (Or.inr (qw hw 24 rfl)) (ty := (.array .byte)) (by decide)
 have F_g : Fld Z h'0 b'0 s_0 "coder" "B" (.int i_0) := D'0 (Or.inr (qw hw 26 rfl)) (ty := .byte) (by decide)
 refine goo st'0 ?_
 refine goo (fun _ k => XS.dup X'0.here hx rfl (hb hby d19_3) rfl rfl <| XS.aloadN X'0.here hx rfl (hb hby d19_4) rfl rfl k) ?_
 obtain ⟨T'h, X'h, e'h, st'h⟩ := getF X'0 hx hZ hown (host := "") (Or.inl (qw hw 51 rfl)) Via.refl e'0 F_4 (g := (mkF m 5 #[rv x0, iv i_0] [.ref x0, .ref b'0, .ref b'0])) rfl rfl (hb hby d19_5)
 refine goo st'h ?_
 refine goo (fun _ k => XS.aloadN X'h.here hx rfl (hb hby d19_8) rfl rfl k) ?_
 show own_G _ _ _ _ (T'h.setTop (mkF m 9 #[rv x0, iv i_0] [.ref x0, .ref ca, .ref b'0, .ref b'0]))
 refine goo (fun _ k => XS.iloadN X'h.here hx rfl (hb hby d19_9) rfl k) ?_
 obtain ⟨T'i, X'i, e'i, st'i⟩ := own_callV X'h hx hZ (y := Y34) hown (qw hw 95 rfl) (qw hw 96 rfl) (qw hw 98 rfl) (qw hw 97 rfl) (qw hw 46 rfl) (qw hw 99 rfl) (by decide) (W := 3) (rm_st0 l Z a0 hw [] x0 i_1 ea ke i_0 en1 en2 en3 h'0 X_3 F_6 F_5 V_8) (by decide) (by decide) rfl rfl e'h X_3 (g := (mkF m 10 #[rv x0, iv i_0] [.int i_0, .ref x0, .ref ca, .ref b'0, .ref b'0])) rfl (by rw [hml]; rfl) (argsL := [.int i_0]) (rest := [.ref ca, .ref b'0, .ref b'0]) (lenOf own_pd21 rfl) rfl rfl (Nat.le_of_eq rfl) (hb hby d19_10) (by decide) (by decide)
 refine goo st'i ?_
 refine goo (fun _ k => XS.aloadN X'i.here hx rfl (hb hby d19_13) rfl rfl <| XS.iloadN X'i.here hx rfl (hb hby d19_14) rfl k) ?_
 obtain ⟨T'j, X'j, e'j, st'j⟩ := own_callV X'i hx hZ (y := Y33) hown (qw hw 90 rfl) (qw hw 91 rfl) (qw hw 93 rfl) (qw hw 92 rfl) (qw hw 46 rfl) (qw hw 94 rfl) (by decide) (W := 4) (rm_en0 l Z a0 hw [] x0 i_1 ea ke i_0 en1 en2 en3 h'0 X_3 F_6 F_5 V_8 (by decide)) (by decide) (by decide) rfl rfl e'i X_3 (g := (mkF m 15 #[rv x0, iv i_0] [.int i_0, .ref x0, .int i_0, .ref ca, .ref b'0, .ref b'0])) rfl (by rw [hml]; rfl) (argsL := [.int i_0]) (rest := [.int i_0, .ref ca, .ref b'0, .ref b'0]) (lenOf own_pd21 rfl) rfl rfl (Nat.le_of_eq rfl) (hb hby d19_15) (by decide) (by decide)
 refine goo st'j ?_
 refine goo (fun _ k => XS.aloadN X'j.here hx rfl (hb hby d19_18) rfl rfl k) ?_
 show own_G _ _ _ _ (T'j.setTop (mkF m 19 #[rv x0, iv i_0] [.ref x0, .int i_0, .int i_0, .ref ca, .ref b'0, .ref b'0]))
 refine goo (fun _ k => XS.iloadN X'j.here hx rfl (hb hby d19_19) rfl k) ?_
 obtain ⟨T'k, X'k, e'k, st'k⟩ := own_callV X'j hx hZ (y := Y34) hown (qw hw 95 rfl) (qw hw 96 rfl) (qw hw 98 rfl) (qw hw 97 rfl) (qw hw 46 rfl) (qw hw 99 rfl) (by decide) (W := 5) (rm_st0 l Z a0 hw [] x0 i_1 ea ke i_0 en1 en2 en3 h'0 X_3 F_6 F_5 V_8) (by decide) (by decide) rfl rfl e'j X_3 (g := (mkF m 20 #[rv x0, iv i_0] [.int i_0, .ref x0, .int i_0, .int i_0, .ref ca, .ref b'0, .ref b'0])) rfl (by rw [hml]; rfl) (argsL := [.int i_0]) (rest := [.int i_0, .int i_0, .ref ca, .ref b'0, .ref b'0]) (lenOf own_pd21 rfl) rfl rfl (Nat.le_of_eq rfl) (hb hby d19_20) (by decide) (by decide)
 refine goo st'k ?_
 refine goo (fun _ k => XS.isub X'k.here hx rfl (hb hby d19_23) rfl k) ?_
 obtain ⟨_, _, ⟨T'l, L'l, k'l, n'l⟩, -, X'l, hSn, hgr, ⟨Lc'l, hQ'l, l'l, y'l, z'l⟩, st'l⟩ := X'k.specialBackS hx (y := Y22) rfl hown (mvT hZ (qw hw 106 rfl)) (mvT hZ (qw hw 107 rfl)) (mvT hZ (qw hw 108 rfl)) (by decide) (own_backI (W := 1) (rm_sc00 l Z a0 hw [] b'0 ca cz fz kc w0 w1 w2 w3 w4 w5 h'0 n0 Z_c A'0 ge_2 F_f F_g V_7 S_9 p7_ S_a (Ne.symm ne_1) Old_b p10_ p11_ hfz) hZ hI (qw hw 108 rfl) (qw hw 3 rfl) (by decide) (by decide)) (g := (mkF m 24 #[rv x0, iv i_0] [.int i_0, .int i_0, .ref ca, .ref b'0, .ref b'0])) rfl (by rw [hml]; rfl) (Steps.refl _) (a := b'0) (argsL := [.ref ca, .int i_0, .int i_0]) (rest := [.ref b'0]) (lenOf own_pd22 rfl) rfl (Nat.le_of_eq rfl) (hb hby d19_24) (fun _ _ => ⟨rfl, e'k, (by decide : 1 + 2 ≤ _), (by decide : 4 + 4 ≤ _)⟩)
 dsimp only [Pt.U, Pt.locs, Pt.cells, Pt.slots] at X'l l'l y'l z'l st'l hQ'l hSn hgr
 subst l'l y'l z'l
 obtain ⟨rfl, Nq'l, K'l, G_m, G_n, qx'l⟩ := hQ'l
 obtain ⟨vb'l, kv'l, Fv'l, Vv'l⟩ := qx'l
 have hS := foldS (s := s) hS (by rw [e'k]; exact hk_d) hSn hgr
 have hZ := State.Warmed39.trans (t := s) hZ hSn.1
 have hown : (s.setVm T'l.vm).vm.findClass s_3 = some m.cls := by rw [show (s.setVm T'l.vm).vm = T'l.vm from rfl, hSn.1.alike.findClass]; exact hown
 have KP_o : Keep h0 T'l.heap [] := KP_e.trans K'l (allS (Or.inr sz_1106) all0)
 have hk'l : T'l.heap.size ≤ T'l.heap.size := Nat.le_refl _
 have N_l := Fr.app N0 Nq'l
 have X'l : Stand p l e _ (s.setVm T'l.vm) m _ below meth c T'l _ _ _ := X'l
 refine goo (fun _ k => st'l.trans k) ?_
 show own_G _ _ _ _ (T'l.setTop (mkF m 27 #[rv x0, iv i_0] [.ref b'0]))
 exact own_endW X'l Bd.notSynchronized hS hk'l (v := some (.ref b'0)) (fun h => by rw [Bd.returns] at h; cases h) (Q := Q_rm_va00_0 Z x0 ca ea kc ke w0 w1 w2 w3 w4 w5 en1 en2 en3 cz fz h0 n0) (by show Q_rm_va00_0 Z x0 ca ea kc ke w0 w1 w2 w3 w4 w5 en1 en2 en3 cz fz h0 n0 (some (.ref b'0)) T'l.heap _; exact ⟨b'0, rfl, N_l, KP_o, sz_1106, G_m, G_n, ⟨vb'l, kv'l, Fv'l, Vv'l⟩⟩) (fun fs hr => own_retA X'l hx Bd.returns rfl rfl (hb hby d19_27) hr) (by decide) (by decide)
theorem rm_ln01 (l : Launch) (Z : State) (a0 : Array Value) (hw : own_HW a0 Z) (ws : List Jvm.Cond) (x0 : Addr)  (ea : Addr) (ke : ClassId) (en1 en2 en3 : Int32) (h0 : Heap) (Xr : Exa Z h0 x0 s_3) (Fs : Fld Z h0 x0 s_3 "size" "I" (.int i_1)) (Fe : Fld Z h0 x0 s_3 "ends" "[I" (.ref ea)) (Ve : Arv Z h0 ea ke .int i_32 [.int i_1, .int en1, .int en2, .int en3] (.int i_0)) :
  MetFree l Y35 (head1 (Jvm.Cond.code Y35 prog_116_method_10_code 2 (some .int) :: ws) (rr 1 0 0 14)) (fun a U => a = #[.ref x0, .int i_0] ∧ Z.Warmed39 U.vm ∧ U.heap = h0) (fun _ _ _ _ _ => True) (fun _ U o U' => ∃ v L, o = .returned v ∧ QP (some (.int i_1)) h0 v U'.heap L ∧ FrameEnd U o U' L (rr 1 0 0 14).cells (rr 1 0 0 14).slots) := by
 refine MetFree.of_bodySF (plainFor_of_name own_pn5) hisR ?_
 intro p e s m args below meth c s₁ Bd hml0 hP hK
 obtain ⟨rfl, hZ, hh⟩ := hP
 have hx := Bd.exec
 have hby := Bd.bytes
 have hml : c.maxLocals = 2 := hml0
 have hown : s.vm.findClass s_3 = some m.cls := findClass_of_methodNamed Bd.named
 have hnm := (name_of_methodNamed Bd.named Bd.method).1
 have X0 : Stand p l e (rr 1 0 0 14) s m #[.ref x0, .int i_0] below meth c s₁ [] 0 0 := Stand.of_body Bd
 have e0 : s₁.heap = h0 := by rw [← hh, Bd.state]; rfl
 show own_G _ _ _ _ (s₁.setTop (entryFrame m #[.ref x0, .int i_0] 2))
 refine goo (fun _ k => castTop (ef_16_RI m x0 i_0) k) ?_
 refine goo (fun _ k => XS.aloadN X0.here hx rfl (hb hby d16_0) rfl rfl <| XS.iloadN X0.here hx rfl (hb hby d16_1) rfl k) ?_
 obtain ⟨T'0, X'0, e'0, st'0⟩ := own_callV X0 hx hZ (y := Y33) hown (qw hw 90 rfl) (qw hw 91 rfl) (qw hw 93 rfl) (qw hw 92 rfl) (qw hw 46 rfl) (qw hw 94 rfl) (by decide) (W := 0) (rm_en0 l Z a0 hw [] x0 i_1 ea ke i_1 en1 en2 en3 h0 Xr Fs Fe Ve (by decide)) (by decide) (by decide) rfl rfl e0 Xr (g := (mkF m 2 #[rv x0, iv i_0] [.int i_0, .ref x0])) rfl (by rw [hml]; rfl) (argsL := [.int i_0]) (rest := []) (lenOf own_pd21 rfl) rfl rfl (Nat.le_of_eq rfl) (hb hby d16_2) (by decide) (by decide)
 refine goo st'0 ?_
 refine goo (fun _ k => XS.aloadN X'0.here hx rfl (hb hby d16_5) rfl rfl <| XS.iloadN X'0.here hx rfl (hb hby d16_6) rfl k) ?_
 show own_G _ _ _ _ (T'0.setTop (mkF m 7 #[rv x0, iv i_0] [.int i_0, .ref x0, .int i_1]))
 obtain ⟨T'1, X'1, e'1, st'1⟩ := own_callV X'0 hx hZ (y := Y34) hown (qw hw 95 rfl) (qw hw 96 rfl) (qw hw 98 rfl) (qw hw 97 rfl) (qw hw 46 rfl) (qw hw 99 rfl) (by decide) (W := 1) (rm_st0 l Z a0 hw [] x0 i_1 ea ke i_1 en1 en2 en3 h0 Xr Fs Fe Ve) (by decide) (by decide) rfl rfl e'0 Xr (g := (mkF m 7 #[rv x0, iv i_0] [.int i_0, .ref x0, .int i_1])) rfl (by rw [hml]; rfl) (argsL := [.int i_0]) (rest := [.int i_1]) (lenOf own_pd21 rfl) rfl rfl (Nat.le_of_eq rfl) (hb hby d16_7) (by decide) (by decide)
 refine goo st'1 ?_
 refine goo (fun _ k => XS.isub X'1.here hx rfl (hb hby d16_10) rfl k) ?_
 show own_G _ _ _ _ (T'1.setTop (mkF m 11 #[rv x0, iv i_0] [.int i_1]))
 exact own_end X'1 Bd.notSynchronized (v := some (.int i_1)) (fun h => by rw [Bd.returns] at h; cases h) (Q := QP (some (.int i_1)) h0) ⟨rfl, rfl, e'1⟩ (fun fs hr => retI X'1 hx Bd.returns (hb hby d16_11) hr) (by decide) (by decide)
def Q_rm_va01_0 (Z : State) (x0 : Addr) (ca ea : Addr) (kc ke : ClassId) (w0 w1 w2 w3 w4 w5 en1 en2 en3 : Int32) (cz : Int32) (fz : Value) (h0 : Heap) (n0 : Nat) (v : Option Value) (h : Heap) (L : List Loc) : Prop := ∃ RET : Addr, v = some (.ref RET) ∧ Fr n0 L ∧ Keep h0 h [] ∧ h0.size ≤ RET ∧ Exa Z h RET s_0 ∧ Fld Z h RET s_0 "coder" "B" (.int i_0) ∧ ∃ b k, h0.size ≤ b ∧ Fld Z h RET s_0 "value" "[B" (.ref b) ∧ Arv Z h b k .byte i_1 [.int (own_by w0)] (.int i_0)
theorem rm_va01_0 (l : Launch) (Z : State) (a0 : Array Value) (hw : own_HW a0 Z) (ws : List Jvm.Cond) (x0 : Addr) (ca ea : Addr) (kc ke : ClassId) (w0 w1 w2 w3 w4 w5 en1 en2 en3 : Int32) (cz : Int32) (fz : Value) (h0 : Heap) (n0 : Nat) (Z0 : n0 ≤ h0.size) (p0_ : Exa Z h0 x0 s_3) (p1_ : Fld Z h0 x0 s_3 "chars" "[C" (.ref ca)) (p2_ : Fld Z h0 x0 s_3 "ends" "[I" (.ref ea)) (p3_ : Fld Z h0 x0 s_3 "size" "I" (.int i_1)) (p4_ : Arv Z h0 ca kc .char i_256 [.int w0, .int w1, .int w2, .int w3, .int w4, .int w5] (.int i_0)) (p5_ : Arv Z h0 ea ke .int i_32 [.int i_1, .int en1, .int en2, .int en3] (.int i_0)) (p6_ : Sta Z h0 s_0 "COMPACT_STRINGS" "Z" (.int cz)) (p7_ : ¬ cz = i_0) (p8_ : Sta Z h0 s_1 "SIOOBE_FORMATTER" "Ljava/util/function/BiFunction;" fz) (p9_ : own_ok w0) (hfz : fz.isRef = true) :
  MetFree l Y36 (head1 (Jvm.Cond.code Y36 prog_116_method_9_code 2 (some (.object s_0)) :: ws) (rr 4 2 5 68)) (fun a U => a = #[.ref x0, .int i_0] ∧ Z.Warmed39 U.vm ∧ U.heap = h0) (fun _ _ _ _ _ => True) (fun _ U o U' => ∃ v L, o = .returned v ∧ Q_rm_va01_0 Z x0 ca ea kc ke w0 w1 w2 w3 w4 w5 en1 en2 en3 cz fz h0 n0 v U'.heap L ∧ FrameEnd U o U' L (rr 4 2 5 68).cells (rr 4 2 5 68).slots) := by
 refine MetFree.of_bodySF (plainFor_of_name own_pn5) hisR ?_
 intro p e s m args below meth c s₁ Bd hml0 hP hK
 obtain ⟨rfl, hZ, hh⟩ := hP
 have hx := Bd.exec
 have hby := Bd.bytes
 have hml : c.maxLocals = 2 := hml0
 have hown : s.vm.findClass s_3 = some m.cls := findClass_of_methodNamed Bd.named
 have hnm := (name_of_methodNamed Bd.named Bd.method).1
 have X0 : Stand p l e (rr 4 2 5 68) s m #[.ref x0, .int i_0] below meth c s₁ [] 0 0 := Stand.of_body Bd
 have e0 : s₁.heap = h0 := by rw [← hh, Bd.state]; rfl
 show own_G _ _ _ _ (s₁.setTop (entryFrame m #[.ref x0, .int i_0] 2))
 refine goo (fun _ k => castTop (ef_19_RI m x0 i_0) k) ?_
 have N0 := Fr.nil n0
 have KP0 := Keep.refl h0 []
 obtain ⟨T'0, h'0, X'0, e'0, E'0, A'0, D'0, -, st'0⟩ := newO X0 hx hZ hown (qw hw 105 rfl) (qw hw 11 rfl) (qw hw 3 rfl) e0 (g := (mkF m 0 #[rv x0, iv i_0] [])) rfl (hb hby d19_0) (by decide) (by decide)
 obtain ⟨b'0, g'0⟩ : ∃ z, z = h0.size := ⟨_, rfl⟩
 rw [← g'0] at A'0 D'0 st'0
 have ne_1 : ca ≠ b'0 := Nat.ne_of_lt (Nat.lt_of_lt_of_le p4_.lt (Nat.le_of_eq g'0.symm))
 have ge_2 : n0 ≤ b'0 := Nat.le_trans Z0 (Nat.le_of_eq g'0.symm)
 have sz_1148 : h0.size ≤ b'0 := Nat.le_trans KP0.1 (Nat.le_of_eq g'0.symm)
 have X_3 := p0_.ext E'0
 have F_4 := p1_.ext E'0
 have F_5 := p2_.ext E'0
 have F_6 := p3_.ext E'0
 have V_7 := p4_.ext E'0
 have V_8 := p5_.ext E'0
 have S_9 := p6_.ext E'0
 have S_a := p8_.ext E'0
 have Z_b : n0 ≤ h'0.size := Nat.le_trans Z0 E'0.1
 have KP_c : Keep h0 h'0 [] := KP0.ext E'0
 have F_d : Fld Z h'0 b'0 s_0 "value" "[B" .null := D'0 (Or.inr (qw hw 24 rfl)) (ty := (.array .byte)) (by decide)
 have F_e : Fld Z h'0 b'0 s_0 "coder" "B" (.int i_0) := D'0 (Or.inr (qw hw 26 rfl)) (ty := .byte) (by decide)
 refine goo st'0 ?_
 refine goo (fun _ k => XS.dup X'0.here hx rfl (hb hby d19_3) rfl rfl <| XS.aloadN X'0.here hx rfl (hb hby d19_4) rfl rfl k) ?_
 obtain ⟨T'f, X'f, e'f, st'f⟩ := getF X'0 hx hZ hown (host := "") (Or.inl (qw hw 51 rfl)) Via.refl e'0 F_4 (g := (mkF m 5 #[rv x0, iv i_0] [.ref x0, .ref b'0, .ref b'0])) rfl rfl (hb hby d19_5)
 refine goo st'f ?_
 refine goo (fun _ k => XS.aloadN X'f.here hx rfl (hb hby d19_8) rfl rfl k) ?_
 show own_G _ _ _ _ (T'f.setTop (mkF m 9 #[rv x0, iv i_0] [.ref x0, .ref ca, .ref b'0, .ref b'0]))
 refine goo (fun _ k => XS.iloadN X'f.here hx rfl (hb hby d19_9) rfl k) ?_
 obtain ⟨T'g, X'g, e'g, st'g⟩ := own_callV X'f hx hZ (y := Y34) hown (qw hw 95 rfl) (qw hw 96 rfl) (qw hw 98 rfl) (qw hw 97 rfl) (qw hw 46 rfl) (qw hw 99 rfl) (by decide) (W := 3) (rm_st0 l Z a0 hw [] x0 i_1 ea ke i_1 en1 en2 en3 h'0 X_3 F_6 F_5 V_8) (by decide) (by decide) rfl rfl e'f X_3 (g := (mkF m 10 #[rv x0, iv i_0] [.int i_0, .ref x0, .ref ca, .ref b'0, .ref b'0])) rfl (by rw [hml]; rfl) (argsL := [.int i_0]) (rest := [.ref ca, .ref b'0, .ref b'0]) (lenOf own_pd21 rfl) rfl rfl (Nat.le_of_eq rfl) (hb hby d19_10) (by decide) (by decide)
 refine goo st'g ?_
 refine goo (fun _ k => XS.aloadN X'g.here hx rfl (hb hby d19_13) rfl rfl <| XS.iloadN X'g.here hx rfl (hb hby d19_14) rfl k) ?_
 obtain ⟨T'h, X'h, e'h, st'h⟩ := own_callV X'g hx hZ (y := Y33) hown (qw hw 90 rfl) (qw hw 91 rfl) (qw hw 93 rfl) (qw hw 92 rfl) (qw hw 46 rfl) (qw hw 94 rfl) (by decide) (W := 4) (rm_en0 l Z a0 hw [] x0 i_1 ea ke i_1 en1 en2 en3 h'0 X_3 F_6 F_5 V_8 (by decide)) (by decide) (by decide) rfl rfl e'g X_3 (g := (mkF m 15 #[rv x0, iv i_0] [.int i_0, .ref x0, .int i_0, .ref ca, .ref b'0, .ref b'0])) rfl (by rw [hml]; rfl) (argsL := [.int i_0]) (rest := [.int i_0, .ref ca, .ref b'0, .ref b'0]) (lenOf own_pd21 rfl) rfl rfl (Nat.le_of_eq rfl) (hb hby d19_15) (by decide) (by decide)
 refine goo st'h ?_
 refine goo (fun _ k => XS.aloadN X'h.here hx rfl (hb hby d19_18) rfl rfl k) ?_
 show own_G _ _ _ _ (T'h.setTop (mkF m 19 #[rv x0, iv i_0] [.ref x0, .int i_1, .int i_0, .ref ca, .ref b'0, .ref b'0]))
 refine goo (fun _ k => XS.iloadN X'h.here hx rfl (hb hby d19_19) rfl k) ?_
 obtain ⟨T'i, X'i, e'i, st'i⟩ := own_callV X'h hx hZ (y := Y34) hown (qw hw 95 rfl) (qw hw 96 rfl) (qw hw 98 rfl) (qw hw 97 rfl) (qw hw 46 rfl) (qw hw 99 rfl) (by decide) (W := 5) (rm_st0 l Z a0 hw [] x0 i_1 ea ke i_1 en1 en2 en3 h'0 X_3 F_6 F_5 V_8) (by decide) (by decide) rfl rfl e'h X_3 (g := (mkF m 20 #[rv x0, iv i_0] [.int i_0, .ref x0, .int i_1, .int i_0, .ref ca, .ref b'0, .ref b'0])) rfl (by rw [hml]; rfl) (argsL := [.int i_0]) (rest := [.int i_1, .int i_0, .ref ca, .ref b'0, .ref b'0]) (lenOf own_pd21 rfl) rfl rfl (Nat.le_of_eq rfl) (hb hby d19_20) (by decide) (by decide)
 refine goo st'i ?_
 refine goo (fun _ k => XS.isub X'i.here hx rfl (hb hby d19_23) rfl k) ?_
 obtain ⟨_, _, ⟨T'j, L'j, k'j, n'j⟩, -, X'j, ⟨Lc'j, hQ'j, l'j, y'j, z'j⟩, st'j⟩ := X'i.specialBack hx (y := Y22) rfl hown (mvT hZ (qw hw 106 rfl)) (mvT hZ (qw hw 107 rfl)) (mvT hZ (qw hw 108 rfl)) (by decide) (backOf (W := 1) (rm_sc01 l Z a0 hw [] b'0 ca cz fz kc w0 w1 w2 w3 w4 w5 h'0 n0 Z_b A'0 ge_2 F_d F_e V_7 S_9 p7_ S_a (Ne.symm ne_1) p9_ hfz) hZ (qw hw 108 rfl) (qw hw 3 rfl) (by decide) (by decide)) (g := (mkF m 24 #[rv x0, iv i_0] [.int i_1, .int i_0, .ref ca, .ref b'0, .ref b'0])) rfl (by rw [hml]; rfl) (Steps.refl _) (a := b'0) (argsL := [.ref ca, .int i_0, .int i_1]) (rest := [.ref b'0]) (lenOf own_pd22 rfl) rfl (Nat.le_of_eq rfl) (hb hby d19_24) (fun _ _ => ⟨rfl, e'i, (by decide : 1 + 1 ≤ _), (by decide : 4 + 1 ≤ _)⟩)
 dsimp only [Pt.U, Pt.locs, Pt.cells, Pt.slots] at X'j l'j y'j z'j st'j hQ'j
 subst l'j y'j z'j
 obtain ⟨rfl, Nq'j, K'j, G_k, G_l, qx'j⟩ := hQ'j
 obtain ⟨vb'j, kv'j, gv'j, Fv'j, Vv'j⟩ := qx'j
 have sz_1173 : h0.size ≤ vb'j := Nat.le_trans KP_c.1 gv'j
 have KP_m : Keep h0 T'j.heap [] := KP_c.trans K'j (allS (Or.inr sz_1148) all0)
 have N_j := Fr.app N0 Nq'j
 refine goo (fun _ k => st'j.trans k) ?_
 show own_G _ _ _ _ (T'j.setTop (mkF m 27 #[rv x0, iv i_0] [.ref b'0]))
 exact own_end X'j Bd.notSynchronized (v := some (.ref b'0)) (fun h => by rw [Bd.returns] at h; cases h) (Q := Q_rm_va01_0 Z x0 ca ea kc ke w0 w1 w2 w3 w4 w5 en1 en2 en3 cz fz h0 n0) (by show Q_rm_va01_0 Z x0 ca ea kc ke w0 w1 w2 w3 w4 w5 en1 en2 en3 cz fz h0 n0 (some (.ref b'0)) T'j.heap _; exact ⟨b'0, rfl, N_j, KP_m, sz_1148, G_k, G_l, ⟨vb'j, kv'j, sz_1173, Fv'j, Vv'j⟩⟩) (fun fs hr => own_retA X'j hx Bd.returns rfl rfl (hb hby d19_27) hr) (by decide) (by decide)
theorem rm_ln10 (l : Launch) (Z : State) (a0 : Array Value) (hw : own_HW a0 Z) (ws : List Jvm.Cond) (x0 : Addr)  (ea : Addr) (ke : ClassId) (en2 en3 : Int32) (h0 : Heap) (Xr : Exa Z h0 x0 s_3) (Fs : Fld Z h0 x0 s_3 "size" "I" (.int i_2)) (Fe : Fld Z h0 x0 s_3 "ends" "[I" (.ref ea)) (Ve : Arv Z h0 ea ke .int i_32 [.int i_1, .int i_1, .int en2, .int en3] (.int i_0)) :
  MetFree l Y35 (head1 (Jvm.Cond.code Y35 prog_116_method_10_code 2 (some .int) :: ws) (rr 2 0 0 27)) (fun a U => a = #[.ref x0, .int i_1] ∧ Z.Warmed39 U.vm ∧ U.heap = h0) (fun _ _ _ _ _ => True) (fun _ U o U' => ∃ v L, o = .returned v ∧ QP (some (.int i_0)) h0 v U'.heap L ∧ FrameEnd U o U' L (rr 2 0 0 27).cells (rr 2 0 0 27).slots) := by
 refine MetFree.of_bodySF (plainFor_of_name own_pn5) hisR ?_
 intro p e s m args below meth c s₁ Bd hml0 hP hK
 obtain ⟨rfl, hZ, hh⟩ := hP
 have hx := Bd.exec
 have hby := Bd.bytes
 have hml : c.maxLocals = 2 := hml0
 have hown : s.vm.findClass s_3 = some m.cls := findClass_of_methodNamed Bd.named
 have hnm := (name_of_methodNamed Bd.named Bd.method).1
 have X0 : Stand p l e (rr 2 0 0 27) s m #[.ref x0, .int i_1] below meth c s₁ [] 0 0 := Stand.of_body Bd
 have e0 : s₁.heap = h0 := by rw [← hh, Bd.state]; rfl
 show own_G _ _ _ _ (s₁.setTop (entryFrame m #[.ref x0, .int i_1] 2))
 refine goo (fun _ k => castTop (ef_16_RI m x0 i_1) k) ?_
 refine goo (fun _ k => XS.aloadN X0.here hx rfl (hb hby d16_0) rfl rfl <| XS.iloadN X0.here hx rfl (hb hby d16_1) rfl k) ?_
 obtain ⟨T'0, X'0, e'0, st'0⟩ := own_callV X0 hx hZ (y := Y33) hown (qw hw 90 rfl) (qw hw 91 rfl) (qw hw 93 rfl) (qw hw 92 rfl) (qw hw 46 rfl) (qw hw 94 rfl) (by decide) (W := 0) (rm_en1 l Z a0 hw [] x0 i_2 ea ke i_1 i_1 en2 en3 h0 Xr Fs Fe Ve (by decide)) (by decide) (by decide) rfl rfl e0 Xr (g := (mkF m 2 #[rv x0, iv i_1] [.int i_1, .ref x0])) rfl (by rw [hml]; rfl) (argsL := [.int i_1]) (rest := []) (lenOf own_pd21 rfl) rfl rfl (Nat.le_of_eq rfl) (hb hby d16_2) (by decide) (by decide)
 refine goo st'0 ?_
 refine goo (fun _ k => XS.aloadN X'0.here hx rfl (hb hby d16_5) rfl rfl <| XS.iloadN X'0.here hx rfl (hb hby d16_6) rfl k) ?_
 show own_G _ _ _ _ (T'0.setTop (mkF m 7 #[rv x0, iv i_1] [.int i_1, .ref x0, .int i_1]))
 obtain ⟨T'1, X'1, e'1, st'1⟩ := own_callV X'0 hx hZ (y := Y34) hown (qw hw 95 rfl) (qw hw 96 rfl) (qw hw 98 rfl) (qw hw 97 rfl) (qw hw 46 rfl) (qw hw 99 rfl) (by decide) (W := 1) (rm_st1 l Z a0 hw [] x0 i_2 ea ke i_1 i_1 en2 en3 h0 Xr Fs Fe Ve (by decide)) (by decide) (by decide) rfl rfl e'0 Xr (g := (mkF m 7 #[rv x0, iv i_1] [.int i_1, .ref x0, .int i_1])) rfl (by rw [hml]; rfl) (argsL := [.int i_1]) (rest := [.int i_1]) (lenOf own_pd21 rfl) rfl rfl (Nat.le_of_eq rfl) (hb hby d16_7) (by decide) (by decide)
 refine goo st'1 ?_
 refine goo (fun _ k => XS.isub X'1.here hx rfl (hb hby d16_10) rfl k) ?_
 show own_G _ _ _ _ (T'1.setTop (mkF m 11 #[rv x0, iv i_1] [.int i_0]))
 exact own_end X'1 Bd.notSynchronized (v := some (.int i_0)) (fun h => by rw [Bd.returns] at h; cases h) (Q := QP (some (.int i_0)) h0) ⟨rfl, rfl, e'1⟩ (fun fs hr => retI X'1 hx Bd.returns (hb hby d16_11) hr) (by decide) (by decide)
def Q_rm_va10_1 (Z : State) (x0 : Addr) (ca ea : Addr) (kc ke : ClassId) (w0 w1 w2 w3 w4 w5 en2 en3 : Int32) (cz : Int32) (fz : Value) (h0 : Heap) (n0 : Nat) (v : Option Value) (h : Heap) (L : List Loc) : Prop := ∃ RET : Addr, v = some (.ref RET) ∧ Fr n0 L ∧ Keep h0 h [] ∧ h0.size ≤ RET ∧ Exa Z h RET s_0 ∧ Fld Z h RET s_0 "coder" "B" (.int i_0) ∧ ∃ b k, Fld Z h RET s_0 "value" "[B" (.ref b) ∧ Arv Z h b k .byte i_0 [] (.int i_0)
theorem rm_va10_1 (l : Launch) (Z : State) (a0 : Array Value) (hw : own_HW a0 Z) (ws : List Jvm.Cond) (x0 : Addr) (ca ea : Addr) (kc ke : ClassId) (w0 w1 w2 w3 w4 w5 en2 en3 : Int32) (cz : Int32) (fz : Value) (h0 : Heap) (n0 : Nat) (Z0 : n0 ≤ h0.size) (p0_ : Exa Z h0 x0 s_3) (p1_ : Fld Z h0 x0 s_3 "chars" "[C" (.ref ca)) (p2_ : Fld Z h0 x0 s_3 "ends" "[I" (.ref ea)) (p3_ : Fld Z h0 x0 s_3 "size" "I" (.int i_2)) (p4_ : Arv Z h0 ca kc .char i_256 [.int w0, .int w1, .int w2, .int w3, .int w4, .int w5] (.int i_0)) (p5_ : Arv Z h0 ea ke .int i_32 [.int i_1, .int i_1, .int en2, .int en3] (.int i_0)) (p6_ : Sta Z h0 s_0 "COMPACT_STRINGS" "Z" (.int cz)) (p7_ : ¬ cz = i_0) (p8_ : Sta Z h0 s_1 "SIOOBE_FORMATTER" "Ljava/util/function/BiFunction;" fz) (p9_ : Old Z n0 h0) (p10_ : Jvm.Lit.constHeld Z s_0 7) (p11_ : Jvm.Lit.compactW.before a0 Z = true) (hfz : fz.isRef = true) :
  MetFree l Y36 (head1 (Jvm.Cond.code Y36 prog_116_method_9_code 2 (some (.object s_0)) :: ws) (rr 4 3 8 63)) (fun a U => a = #[.ref x0, .int i_1] ∧ Z.Warmed39 U.vm ∧ U.heap = h0 ∧ IB Z U.vm []) (fun _ _ _ _ _ => True) (fun _ U o U' => ∃ v L, o = .returned v ∧ Q_rm_va10_1 Z x0 ca ea kc ke w0 w1 w2 w3 w4 w5 en2 en3 cz fz h0 n0 v U'.heap L ∧ ReturnedEndW U o U' L (rr 4 3 8 63).cells (rr 4 3 8 63).slots) := by
 refine MetFree.of_bodySF (plainFor_of_name own_pn5) hisR ?_
 intro p e s m args below meth c s₁ Bd hml0 hP hK
 obtain ⟨rfl, hZ, hh, hI⟩ := hP
 have hx := Bd.exec
 have hby := Bd.bytes
 have hml : c.maxLocals = 2 := hml0
 have hown : s.vm.findClass s_3 = some m.cls := findClass_of_methodNamed Bd.named
 have hnm := (name_of_methodNamed Bd.named Bd.method).1
 have X0 : Stand p l e (rr 4 3 8 63) s m #[.ref x0, .int i_1] below meth c s₁ [] 0 0 := Stand.of_body Bd
 have e0 : s₁.heap = h0 := by rw [← hh, Bd.state]; rfl
 show own_G _ _ _ _ (s₁.setTop (entryFrame m #[.ref x0, .int i_1] 2))
 refine goo (fun _ k => castTop (ef_19_RI m x0 i_1) k) ?_
 have N0 := Fr.nil n0
 have KP0 := Keep.refl h0 []
 have hS : s.Since s.vm h0.size := (State.WarmedH.refl s).since _
 have hk : h0.size ≤ h0.size := Nat.le_refl _
 have own_sA : ∀ a ∈ Bundle.stringAtoms, a.before a0 Z = true := own_strA hw
 obtain ⟨T'0, h'0, X'0, e'0, E'0, A'0, D'0, -, st'0⟩ := newO X0 hx hZ hown (qw hw 105 rfl) (qw hw 11 rfl) (qw hw 3 rfl) e0 (g := (mkF m 0 #[rv x0, iv i_1] [])) rfl (hb hby d19_0) (by decide) (by decide)
 obtain ⟨b'0, g'0⟩ : ∃ z, z = h0.size := ⟨_, rfl⟩
 rw [← g'0] at A'0 D'0 st'0
 have ne_1 : ca ≠ b'0 := Nat.ne_of_lt (Nat.lt_of_lt_of_le p4_.lt (Nat.le_of_eq g'0.symm))
 have ge_2 : n0 ≤ b'0 := Nat.le_trans Z0 (Nat.le_of_eq g'0.symm)
 have sz_1192 : h0.size ≤ b'0 := Nat.le_trans KP0.1 (Nat.le_of_eq g'0.symm)
 have X_3 := p0_.ext E'0
 have F_4 := p1_.ext E'0
 have F_5 := p2_.ext E'0
 have F_6 := p3_.ext E'0
 have V_7 := p4_.ext E'0
 have V_8 := p5_.ext E'0
 have S_9 := p6_.ext E'0
 have S_a := p8_.ext E'0
 have Old_b := p9_.ext E'0
 have Z_c : n0 ≤ h'0.size := Nat.le_trans Z0 E'0.1
 have hk_d := Nat.le_trans hk E'0.1
 have KP_e : Keep h0 h'0 [] := KP0.ext E'0
 have F_f : Fld Z h'0 b'0 s_0 "value" "[B" .null := D'0 (Or.inr (qw hw 24 rfl)) (ty := (.array .byte)) (by decide)
 have F_g : Fld Z h'0 b'0 s_0 "coder" "B" (.int i_0) := D'0 (Or.inr (qw hw 26 rfl)) (ty := .byte) (by decide)
 refine goo st'0 ?_
 refine goo (fun _ k => XS.dup X'0.here hx rfl (hb hby d19_3) rfl rfl <| XS.aloadN X'0.here hx rfl (hb hby d19_4) rfl rfl k) ?_
 obtain ⟨T'h, X'h, e'h, st'h⟩ := getF X'0 hx hZ hown (host := "") (Or.inl (qw hw 51 rfl)) Via.refl e'0 F_4 (g := (mkF m 5 #[rv x0, iv i_1] [.ref x0, .ref b'0, .ref b'0])) rfl rfl (hb hby d19_5)
 refine goo st'h ?_
 refine goo (fun _ k => XS.aloadN X'h.here hx rfl (hb hby d19_8) rfl rfl k) ?_
 show own_G _ _ _ _ (T'h.setTop (mkF m 9 #[rv x0, iv i_1] [.ref x0, .ref ca, .ref b'0, .ref b'0]))
 refine goo (fun _ k => XS.iloadN X'h.here hx rfl (hb hby d19_9) rfl k) ?_
 obtain ⟨T'i, X'i, e'i, st'i⟩ := own_callV X'h hx hZ (y := Y34) hown (qw hw 95 rfl) (qw hw 96 rfl) (qw hw 98 rfl) (qw hw 97 rfl) (qw hw 46 rfl) (qw hw 99 rfl) (by decide) (W := 3) (rm_st1 l Z a0 hw [] x0 i_2 ea ke i_1 i_1 en2 en3 h'0 X_3 F_6 F_5 V_8 (by decide)) (by decide) (by decide) rfl rfl e'h X_3 (g := (mkF m 10 #[rv x0, iv i_1] [.int i_1, .ref x0, .ref ca, .ref b'0, .ref b'0])) rfl (by rw [hml]; rfl) (argsL := [.int i_1]) (rest := [.ref ca, .ref b'0, .ref b'0]) (lenOf own_pd21 rfl) rfl rfl (Nat.le_of_eq rfl) (hb hby d19_10) (by decide) (by decide)
 refine goo st'i ?_
 refine goo (fun _ k => XS.aloadN X'i.here hx rfl (hb hby d19_13) rfl rfl <| XS.iloadN X'i.here hx rfl (hb hby d19_14) rfl k) ?_
 obtain ⟨T'j, X'j, e'j, st'j⟩ := own_callV X'i hx hZ (y := Y33) hown (qw hw 90 rfl) (qw hw 91 rfl) (qw hw 93 rfl) (qw hw 92 rfl) (qw hw 46 rfl) (qw hw 94 rfl) (by decide) (W := 4) (rm_en1 l Z a0 hw [] x0 i_2 ea ke i_1 i_1 en2 en3 h'0 X_3 F_6 F_5 V_8 (by decide)) (by decide) (by decide) rfl rfl e'i X_3 (g := (mkF m 15 #[rv x0, iv i_1] [.int i_1, .ref x0, .int i_1, .ref ca, .ref b'0, .ref b'0])) rfl (by rw [hml]; rfl) (argsL := [.int i_1]) (rest := [.int i_1, .ref ca, .ref b'0, .ref b'0]) (lenOf own_pd21 rfl) rfl rfl (Nat.le_of_eq rfl) (hb hby d19_15) (by decide) (by decide)
 refine goo st'j ?_
 refine goo (fun _ k => XS.aloadN X'j.here hx rfl (hb hby d19_18) rfl rfl k) ?_
 show own_G _ _ _ _ (T'j.setTop (mkF m 19 #[rv x0, iv i_1] [.ref x0, .int i_1, .int i_1, .ref ca, .ref b'0, .ref b'0]))
 refine goo (fun _ k => XS.iloadN X'j.here hx rfl (hb hby d19_19) rfl k) ?_
 obtain ⟨T'k, X'k, e'k, st'k⟩ := own_callV X'j hx hZ (y := Y34) hown (qw hw 95 rfl) (qw hw 96 rfl) (qw hw 98 rfl) (qw hw 97 rfl) (qw hw 46 rfl) (qw hw 99 rfl) (by decide) (W := 5) (rm_st1 l Z a0 hw [] x0 i_2 ea ke i_1 i_1 en2 en3 h'0 X_3 F_6 F_5 V_8 (by decide)) (by decide) (by decide) rfl rfl e'j X_3 (g := (mkF m 20 #[rv x0, iv i_1] [.int i_1, .ref x0, .int i_1, .int i_1, .ref ca, .ref b'0, .ref b'0])) rfl (by rw [hml]; rfl) (argsL := [.int i_1]) (rest := [.int i_1, .int i_1, .ref ca, .ref b'0, .ref b'0]) (lenOf own_pd21 rfl) rfl rfl (Nat.le_of_eq rfl) (hb hby d19_20) (by decide) (by decide)
 refine goo st'k ?_
 refine goo (fun _ k => XS.isub X'k.here hx rfl (hb hby d19_23) rfl k) ?_
 obtain ⟨_, _, ⟨T'l, L'l, k'l, n'l⟩, -, X'l, hSn, hgr, ⟨Lc'l, hQ'l, l'l, y'l, z'l⟩, st'l⟩ := X'k.specialBackS hx (y := Y22) rfl hown (mvT hZ (qw hw 106 rfl)) (mvT hZ (qw hw 107 rfl)) (mvT hZ (qw hw 108 rfl)) (by decide) (own_backI (W := 1) (rm_sc10 l Z a0 hw [] b'0 ca cz fz kc w0 w1 w2 w3 w4 w5 h'0 n0 Z_c A'0 ge_2 F_f F_g V_7 S_9 p7_ S_a (Ne.symm ne_1) Old_b p10_ p11_ hfz) hZ hI (qw hw 108 rfl) (qw hw 3 rfl) (by decide) (by decide)) (g := (mkF m 24 #[rv x0, iv i_1] [.int i_0, .int i_1, .ref ca, .ref b'0, .ref b'0])) rfl (by rw [hml]; rfl) (Steps.refl _) (a := b'0) (argsL := [.ref ca, .int i_1, .int i_0]) (rest := [.ref b'0]) (lenOf own_pd22 rfl) rfl (Nat.le_of_eq rfl) (hb hby d19_24) (fun _ _ => ⟨rfl, e'k, (by decide : 1 + 2 ≤ _), (by decide : 4 + 4 ≤ _)⟩)
 dsimp only [Pt.U, Pt.locs, Pt.cells, Pt.slots] at X'l l'l y'l z'l st'l hQ'l hSn hgr
 subst l'l y'l z'l
 obtain ⟨rfl, Nq'l, K'l, G_m, G_n, qx'l⟩ := hQ'l
 obtain ⟨vb'l, kv'l, Fv'l, Vv'l⟩ := qx'l
 have hS := foldS (s := s) hS (by rw [e'k]; exact hk_d) hSn hgr
 have hZ := State.Warmed39.trans (t := s) hZ hSn.1
 have hown : (s.setVm T'l.vm).vm.findClass s_3 = some m.cls := by rw [show (s.setVm T'l.vm).vm = T'l.vm from rfl, hSn.1.alike.findClass]; exact hown
 have KP_o : Keep h0 T'l.heap [] := KP_e.trans K'l (allS (Or.inr sz_1192) all0)
 have hk'l : T'l.heap.size ≤ T'l.heap.size := Nat.le_refl _
 have N_l := Fr.app N0 Nq'l
 have X'l : Stand p l e _ (s.setVm T'l.vm) m _ below meth c T'l _ _ _ := X'l
 refine goo (fun _ k => st'l.trans k) ?_
 show own_G _ _ _ _ (T'l.setTop (mkF m 27 #[rv x0, iv i_1] [.ref b'0]))
 exact own_endW X'l Bd.notSynchronized hS hk'l (v := some (.ref b'0)) (fun h => by rw [Bd.returns] at h; cases h) (Q := Q_rm_va10_1 Z x0 ca ea kc ke w0 w1 w2 w3 w4 w5 en2 en3 cz fz h0 n0) (by show Q_rm_va10_1 Z x0 ca ea kc ke w0 w1 w2 w3 w4 w5 en2 en3 cz fz h0 n0 (some (.ref b'0)) T'l.heap _; exact ⟨b'0, rfl, N_l, KP_o, sz_1192, G_m, G_n, ⟨vb'l, kv'l, Fv'l, Vv'l⟩⟩) (fun fs hr => own_retA X'l hx Bd.returns rfl rfl (hb hby d19_27) hr) (by decide) (by decide)
theorem rm_ln11 (l : Launch) (Z : State) (a0 : Array Value) (hw : own_HW a0 Z) (ws : List Jvm.Cond) (x0 : Addr)  (ea : Addr) (ke : ClassId) (en2 en3 : Int32) (h0 : Heap) (Xr : Exa Z h0 x0 s_3) (Fs : Fld Z h0 x0 s_3 "size" "I" (.int i_2)) (Fe : Fld Z h0 x0 s_3 "ends" "[I" (.ref ea)) (Ve : Arv Z h0 ea ke .int i_32 [.int i_1, .int i_2, .int en2, .int en3] (.int i_0)) :
  MetFree l Y35 (head1 (Jvm.Cond.code Y35 prog_116_method_10_code 2 (some .int) :: ws) (rr 2 0 0 27)) (fun a U => a = #[.ref x0, .int i_1] ∧ Z.Warmed39 U.vm ∧ U.heap = h0) (fun _ _ _ _ _ => True) (fun _ U o U' => ∃ v L, o = .returned v ∧ QP (some (.int i_1)) h0 v U'.heap L ∧ FrameEnd U o U' L (rr 2 0 0 27).cells (rr 2 0 0 27).slots) := by
 refine MetFree.of_bodySF (plainFor_of_name own_pn5) hisR ?_
 intro p e s m args below meth c s₁ Bd hml0 hP hK
 obtain ⟨rfl, hZ, hh⟩ := hP
 have hx := Bd.exec
 have hby := Bd.bytes
 have hml : c.maxLocals = 2 := hml0
 have hown : s.vm.findClass s_3 = some m.cls := findClass_of_methodNamed Bd.named
 have hnm := (name_of_methodNamed Bd.named Bd.method).1
 have X0 : Stand p l e (rr 2 0 0 27) s m #[.ref x0, .int i_1] below meth c s₁ [] 0 0 := Stand.of_body Bd
 have e0 : s₁.heap = h0 := by rw [← hh, Bd.state]; rfl
 show own_G _ _ _ _ (s₁.setTop (entryFrame m #[.ref x0, .int i_1] 2))
 refine goo (fun _ k => castTop (ef_16_RI m x0 i_1) k) ?_
 refine goo (fun _ k => XS.aloadN X0.here hx rfl (hb hby d16_0) rfl rfl <| XS.iloadN X0.here hx rfl (hb hby d16_1) rfl k) ?_
 obtain ⟨T'0, X'0, e'0, st'0⟩ := own_callV X0 hx hZ (y := Y33) hown (qw hw 90 rfl) (qw hw 91 rfl) (qw hw 93 rfl) (qw hw 92 rfl) (qw hw 46 rfl) (qw hw 94 rfl) (by decide) (W := 0) (rm_en1 l Z a0 hw [] x0 i_2 ea ke i_1 i_2 en2 en3 h0 Xr Fs Fe Ve (by decide)) (by decide) (by decide) rfl rfl e0 Xr (g := (mkF m 2 #[rv x0, iv i_1] [.int i_1, .ref x0])) rfl (by rw [hml]; rfl) (argsL := [.int i_1]) (rest := []) (lenOf own_pd21 rfl) rfl rfl (Nat.le_of_eq rfl) (hb hby d16_2) (by decide) (by decide)
 refine goo st'0 ?_
 refine goo (fun _ k => XS.aloadN X'0.here hx rfl (hb hby d16_5) rfl rfl <| XS.iloadN X'0.here hx rfl (hb hby d16_6) rfl k) ?_
 show own_G _ _ _ _ (T'0.setTop (mkF m 7 #[rv x0, iv i_1] [.int i_1, .ref x0, .int i_2]))
 obtain ⟨T'1, X'1, e'1, st'1⟩ := own_callV X'0 hx hZ (y := Y34) hown (qw hw 95 rfl) (qw hw 96 rfl) (qw hw 98 rfl) (qw hw 97 rfl) (qw hw 46 rfl) (qw hw 99 rfl) (by decide) (W := 1) (rm_st1 l Z a0 hw [] x0 i_2 ea ke i_1 i_2 en2 en3 h0 Xr Fs Fe Ve (by decide)) (by decide) (by decide) rfl rfl e'0 Xr (g := (mkF m 7 #[rv x0, iv i_1] [.int i_1, .ref x0, .int i_2])) rfl (by rw [hml]; rfl) (argsL := [.int i_1]) (rest := [.int i_2]) (lenOf own_pd21 rfl) rfl rfl (Nat.le_of_eq rfl) (hb hby d16_7) (by decide) (by decide)
 refine goo st'1 ?_
 refine goo (fun _ k => XS.isub X'1.here hx rfl (hb hby d16_10) rfl k) ?_
 show own_G _ _ _ _ (T'1.setTop (mkF m 11 #[rv x0, iv i_1] [.int i_1]))
 exact own_end X'1 Bd.notSynchronized (v := some (.int i_1)) (fun h => by rw [Bd.returns] at h; cases h) (Q := QP (some (.int i_1)) h0) ⟨rfl, rfl, e'1⟩ (fun fs hr => retI X'1 hx Bd.returns (hb hby d16_11) hr) (by decide) (by decide)
def Q_rm_va11_1 (Z : State) (x0 : Addr) (ca ea : Addr) (kc ke : ClassId) (w0 w1 w2 w3 w4 w5 en2 en3 : Int32) (cz : Int32) (fz : Value) (h0 : Heap) (n0 : Nat) (v : Option Value) (h : Heap) (L : List Loc) : Prop := ∃ RET : Addr, v = some (.ref RET) ∧ Fr n0 L ∧ Keep h0 h [] ∧ h0.size ≤ RET ∧ Exa Z h RET s_0 ∧ Fld Z h RET s_0 "coder" "B" (.int i_0) ∧ ∃ b k, h0.size ≤ b ∧ Fld Z h RET s_0 "value" "[B" (.ref b) ∧ Arv Z h b k .byte i_1 [.int (own_by w1)] (.int i_0)
theorem rm_va11_1 (l : Launch) (Z : State) (a0 : Array Value) (hw : own_HW a0 Z) (ws : List Jvm.Cond) (x0 : Addr) (ca ea : Addr) (kc ke : ClassId) (w0 w1 w2 w3 w4 w5 en2 en3 : Int32) (cz : Int32) (fz : Value) (h0 : Heap) (n0 : Nat) (Z0 : n0 ≤ h0.size) (p0_ : Exa Z h0 x0 s_3) (p1_ : Fld Z h0 x0 s_3 "chars" "[C" (.ref ca)) (p2_ : Fld Z h0 x0 s_3 "ends" "[I" (.ref ea)) (p3_ : Fld Z h0 x0 s_3 "size" "I" (.int i_2)) (p4_ : Arv Z h0 ca kc .char i_256 [.int w0, .int w1, .int w2, .int w3, .int w4, .int w5] (.int i_0)) (p5_ : Arv Z h0 ea ke .int i_32 [.int i_1, .int i_2, .int en2, .int en3] (.int i_0)) (p6_ : Sta Z h0 s_0 "COMPACT_STRINGS" "Z" (.int cz)) (p7_ : ¬ cz = i_0) (p8_ : Sta Z h0 s_1 "SIOOBE_FORMATTER" "Ljava/util/function/BiFunction;" fz) (p9_ : own_ok w1) (hfz : fz.isRef = true) :
  MetFree l Y36 (head1 (Jvm.Cond.code Y36 prog_116_method_9_code 2 (some (.object s_0)) :: ws) (rr 4 2 5 68)) (fun a U => a = #[.ref x0, .int i_1] ∧ Z.Warmed39 U.vm ∧ U.heap = h0) (fun _ _ _ _ _ => True) (fun _ U o U' => ∃ v L, o = .returned v ∧ Q_rm_va11_1 Z x0 ca ea kc ke w0 w1 w2 w3 w4 w5 en2 en3 cz fz h0 n0 v U'.heap L ∧ FrameEnd U o U' L (rr 4 2 5 68).cells (rr 4 2 5 68).slots) := by
 refine MetFree.of_bodySF (plainFor_of_name own_pn5) hisR ?_
 intro p e s m args below meth c s₁ Bd hml0 hP hK
 obtain ⟨rfl, hZ, hh⟩ := hP
 have hx := Bd.exec
 have hby := Bd.bytes
 have hml : c.maxLocals = 2 := hml0
 have hown : s.vm.findClass s_3 = some m.cls := findClass_of_methodNamed Bd.named
 have hnm := (name_of_methodNamed Bd.named Bd.method).1
 have X0 : Stand p l e (rr 4 2 5 68) s m #[.ref x0, .int i_1] below meth c s₁ [] 0 0 := Stand.of_body Bd
 have e0 : s₁.heap = h0 := by rw [← hh, Bd.state]; rfl
 show own_G _ _ _ _ (s₁.setTop (entryFrame m #[.ref x0, .int i_1] 2))
 refine goo (fun _ k => castTop (ef_19_RI m x0 i_1) k) ?_
 have N0 := Fr.nil n0
 have KP0 := Keep.refl h0 []
 obtain ⟨T'0, h'0, X'0, e'0, E'0, A'0, D'0, -, st'0⟩ := newO X0 hx hZ hown (qw hw 105 rfl) (qw hw 11 rfl) (qw hw 3 rfl) e0 (g := (mkF m 0 #[rv x0, iv i_1] [])) rfl (hb hby d19_0) (by decide) (by decide)
 obtain ⟨b'0, g'0⟩ : ∃ z, z = h0.size := ⟨_, rfl⟩
 rw [← g'0] at A'0 D'0 st'0
 have ne_1 : ca ≠ b'0 := Nat.ne_of_lt (Nat.lt_of_lt_of_le p4_.lt (Nat.le_of_eq g'0.symm))
 have ge_2 : n0 ≤ b'0 := Nat.le_trans Z0 (Nat.le_of_eq g'0.symm)
 have sz_1234 : h0.size ≤ b'0 := Nat.le_trans KP0.1 (Nat.le_of_eq g'0.symm)
 have X_3 := p0_.ext E'0
 have F_4 := p1_.ext E'0
 have F_5 := p2_.ext E'0
 have F_6 := p3_.ext E'0
 have V_7 := p4_.ext E'0
 have V_8 := p5_.ext E'0
 have S_9 := p6_.ext E'0
 have S_a := p8_.ext E'0
 have Z_b : n0 ≤ h'0.size := Nat.le_trans Z0 E'0.1
 have KP_c : Keep h0 h'0 [] := KP0.ext E'0
 have F_d : Fld Z h'0 b'0 s_0 "value" "[B" .null := D'0 (Or.inr (qw hw 24 rfl)) (ty := (.array .byte)) (by decide)
 have F_e : Fld Z h'0 b'0 s_0 "coder" "B" (.int i_0) := D'0 (Or.inr (qw hw 26 rfl)) (ty := .byte) (by decide)
 refine goo st'0 ?_
 refine goo (fun _ k => XS.dup X'0.here hx rfl (hb hby d19_3) rfl rfl <| XS.aloadN X'0.here hx rfl (hb hby d19_4) rfl rfl k) ?_
 obtain ⟨T'f, X'f, e'f, st'f⟩ := getF X'0 hx hZ hown (host := "") (Or.inl (qw hw 51 rfl)) Via.refl e'0 F_4 (g := (mkF m 5 #[rv x0, iv i_1] [.ref x0, .ref b'0, .ref b'0])) rfl rfl (hb hby d19_5)
 refine goo st'f ?_
 refine goo (fun _ k => XS.aloadN X'f.here hx rfl (hb hby d19_8) rfl rfl k) ?_
 show own_G _ _ _ _ (T'f.setTop (mkF m 9 #[rv x0, iv i_1] [.ref x0, .ref ca, .ref b'0, .ref b'0]))
 refine goo (fun _ k => XS.iloadN X'f.here hx rfl (hb hby d19_9) rfl k) ?_
 obtain ⟨T'g, X'g, e'g, st'g⟩ := own_callV X'f hx hZ (y := Y34) hown (qw hw 95 rfl) (qw hw 96 rfl) (qw hw 98 rfl) (qw hw 97 rfl) (qw hw 46 rfl) (qw hw 99 rfl) (by decide) (W := 3) (rm_st1 l Z a0 hw [] x0 i_2 ea ke i_1 i_2 en2 en3 h'0 X_3 F_6 F_5 V_8 (by decide)) (by decide) (by decide) rfl rfl e'f X_3 (g := (mkF m 10 #[rv x0, iv i_1] [.int i_1, .ref x0, .ref ca, .ref b'0, .ref b'0])) rfl (by rw [hml]; rfl) (argsL := [.int i_1]) (rest := [.ref ca, .ref b'0, .ref b'0]) (lenOf own_pd21 rfl) rfl rfl (Nat.le_of_eq rfl) (hb hby d19_10) (by decide) (by decide)
 refine goo st'g ?_
 refine goo (fun _ k => XS.aloadN X'g.here hx rfl (hb hby d19_13) rfl rfl <| XS.iloadN X'g.here hx rfl (hb hby d19_14) rfl k) ?_
 obtain ⟨T'h, X'h, e'h, st'h⟩ := own_callV X'g hx hZ (y := Y33) hown (qw hw 90 rfl) (qw hw 91 rfl) (qw hw 93 rfl) (qw hw 92 rfl) (qw hw 46 rfl) (qw hw 94 rfl) (by decide) (W := 4) (rm_en1 l Z a0 hw [] x0 i_2 ea ke i_1 i_2 en2 en3 h'0 X_3 F_6 F_5 V_8 (by decide)) (by decide) (by decide) rfl rfl e'g X_3 (g := (mkF m 15 #[rv x0, iv i_1] [.int i_1, .ref x0, .int i_1, .ref ca, .ref b'0, .ref b'0])) rfl (by rw [hml]; rfl) (argsL := [.int i_1]) (rest := [.int i_1, .ref ca, .ref b'0, .ref b'0]) (lenOf own_pd21 rfl) rfl rfl (Nat.le_of_eq rfl) (hb hby d19_15) (by decide) (by decide)
 refine goo st'h ?_
 refine goo (fun _ k => XS.aloadN X'h.here hx rfl (hb hby d19_18) rfl rfl k) ?_
 show own_G _ _ _ _ (T'h.setTop (mkF m 19 #[rv x0, iv i_1] [.ref x0, .int i_2, .int i_1, .ref ca, .ref b'0, .ref b'0]))
 refine goo (fun _ k => XS.iloadN X'h.here hx rfl (hb hby d19_19) rfl k) ?_
 obtain ⟨T'i, X'i, e'i, st'i⟩ := own_callV X'h hx hZ (y := Y34) hown (qw hw 95 rfl) (qw hw 96 rfl) (qw hw 98 rfl) (qw hw 97 rfl) (qw hw 46 rfl) (qw hw 99 rfl) (by decide) (W := 5) (rm_st1 l Z a0 hw [] x0 i_2 ea ke i_1 i_2 en2 en3 h'0 X_3 F_6 F_5 V_8 (by decide)) (by decide) (by decide) rfl rfl e'h X_3 (g := (mkF m 20 #[rv x0, iv i_1] [.int i_1, .ref x0, .int i_2, .int i_1, .ref ca, .ref b'0, .ref b'0])) rfl (by rw [hml]; rfl) (argsL := [.int i_1]) (rest := [.int i_2, .int i_1, .ref ca, .ref b'0, .ref b'0]) (lenOf own_pd21 rfl) rfl rfl (Nat.le_of_eq rfl) (hb hby d19_20) (by decide) (by decide)
 refine goo st'i ?_
 refine goo (fun _ k => XS.isub X'i.here hx rfl (hb hby d19_23) rfl k) ?_
 obtain ⟨_, _, ⟨T'j, L'j, k'j, n'j⟩, -, X'j, ⟨Lc'j, hQ'j, l'j, y'j, z'j⟩, st'j⟩ := X'i.specialBack hx (y := Y22) rfl hown (mvT hZ (qw hw 106 rfl)) (mvT hZ (qw hw 107 rfl)) (mvT hZ (qw hw 108 rfl)) (by decide) (backOf (W := 1) (rm_sc11 l Z a0 hw [] b'0 ca cz fz kc w0 w1 w2 w3 w4 w5 h'0 n0 Z_b A'0 ge_2 F_d F_e V_7 S_9 p7_ S_a (Ne.symm ne_1) p9_ hfz) hZ (qw hw 108 rfl) (qw hw 3 rfl) (by decide) (by decide)) (g := (mkF m 24 #[rv x0, iv i_1] [.int i_1, .int i_1, .ref ca, .ref b'0, .ref b'0])) rfl (by rw [hml]; rfl) (Steps.refl _) (a := b'0) (argsL := [.ref ca, .int i_1, .int i_1]) (rest := [.ref b'0]) (lenOf own_pd22 rfl) rfl (Nat.le_of_eq rfl) (hb hby d19_24) (fun _ _ => ⟨rfl, e'i, (by decide : 1 + 1 ≤ _), (by decide : 4 + 1 ≤ _)⟩)
 dsimp only [Pt.U, Pt.locs, Pt.cells, Pt.slots] at X'j l'j y'j z'j st'j hQ'j
 subst l'j y'j z'j
 obtain ⟨rfl, Nq'j, K'j, G_k, G_l, qx'j⟩ := hQ'j
 obtain ⟨vb'j, kv'j, gv'j, Fv'j, Vv'j⟩ := qx'j
 have sz_1259 : h0.size ≤ vb'j := Nat.le_trans KP_c.1 gv'j
 have KP_m : Keep h0 T'j.heap [] := KP_c.trans K'j (allS (Or.inr sz_1234) all0)
 have N_j := Fr.app N0 Nq'j
 refine goo (fun _ k => st'j.trans k) ?_
 show own_G _ _ _ _ (T'j.setTop (mkF m 27 #[rv x0, iv i_1] [.ref b'0]))
 exact own_end X'j Bd.notSynchronized (v := some (.ref b'0)) (fun h => by rw [Bd.returns] at h; cases h) (Q := Q_rm_va11_1 Z x0 ca ea kc ke w0 w1 w2 w3 w4 w5 en2 en3 cz fz h0 n0) (by show Q_rm_va11_1 Z x0 ca ea kc ke w0 w1 w2 w3 w4 w5 en2 en3 cz fz h0 n0 (some (.ref b'0)) T'j.heap _; exact ⟨b'0, rfl, N_j, KP_m, sz_1234, G_k, G_l, ⟨vb'j, kv'j, sz_1259, Fv'j, Vv'j⟩⟩) (fun fs hr => own_retA X'j hx Bd.returns rfl rfl (hb hby d19_27) hr) (by decide) (by decide)
theorem rm_ln20 (l : Launch) (Z : State) (a0 : Array Value) (hw : own_HW a0 Z) (ws : List Jvm.Cond) (x0 : Addr)  (ea : Addr) (ke : ClassId) (en3 : Int32) (h0 : Heap) (Xr : Exa Z h0 x0 s_3) (Fs : Fld Z h0 x0 s_3 "size" "I" (.int i_3)) (Fe : Fld Z h0 x0 s_3 "ends" "[I" (.ref ea)) (Ve : Arv Z h0 ea ke .int i_32 [.int i_1, .int i_1, .int i_1, .int en3] (.int i_0)) :
  MetFree l Y35 (head1 (Jvm.Cond.code Y35 prog_116_method_10_code 2 (some .int) :: ws) (rr 2 0 0 27)) (fun a U => a = #[.ref x0, .int i_2] ∧ Z.Warmed39 U.vm ∧ U.heap = h0) (fun _ _ _ _ _ => True) (fun _ U o U' => ∃ v L, o = .returned v ∧ QP (some (.int i_0)) h0 v U'.heap L ∧ FrameEnd U o U' L (rr 2 0 0 27).cells (rr 2 0 0 27).slots) := by
 refine MetFree.of_bodySF (plainFor_of_name own_pn5) hisR ?_
 intro p e s m args below meth c s₁ Bd hml0 hP hK
 obtain ⟨rfl, hZ, hh⟩ := hP
 have hx := Bd.exec
 have hby := Bd.bytes
 have hml : c.maxLocals = 2 := hml0
 have hown : s.vm.findClass s_3 = some m.cls := findClass_of_methodNamed Bd.named
 have hnm := (name_of_methodNamed Bd.named Bd.method).1
 have X0 : Stand p l e (rr 2 0 0 27) s m #[.ref x0, .int i_2] below meth c s₁ [] 0 0 := Stand.of_body Bd
 have e0 : s₁.heap = h0 := by rw [← hh, Bd.state]; rfl
 show own_G _ _ _ _ (s₁.setTop (entryFrame m #[.ref x0, .int i_2] 2))
 refine goo (fun _ k => castTop (ef_16_RI m x0 i_2) k) ?_
 refine goo (fun _ k => XS.aloadN X0.here hx rfl (hb hby d16_0) rfl rfl <| XS.iloadN X0.here hx rfl (hb hby d16_1) rfl k) ?_
 obtain ⟨T'0, X'0, e'0, st'0⟩ := own_callV X0 hx hZ (y := Y33) hown (qw hw 90 rfl) (qw hw 91 rfl) (qw hw 93 rfl) (qw hw 92 rfl) (qw hw 46 rfl) (qw hw 94 rfl) (by decide) (W := 0) (rm_en2 l Z a0 hw [] x0 i_3 ea ke i_1 i_1 i_1 en3 h0 Xr Fs Fe Ve (by decide)) (by decide) (by decide) rfl rfl e0 Xr (g := (mkF m 2 #[rv x0, iv i_2] [.int i_2, .ref x0])) rfl (by rw [hml]; rfl) (argsL := [.int i_2]) (rest := []) (lenOf own_pd21 rfl) rfl rfl (Nat.le_of_eq rfl) (hb hby d16_2) (by decide) (by decide)
 refine goo st'0 ?_
 refine goo (fun _ k => XS.aloadN X'0.here hx rfl (hb hby d16_5) rfl rfl <| XS.iloadN X'0.here hx rfl (hb hby d16_6) rfl k) ?_
 show own_G _ _ _ _ (T'0.setTop (mkF m 7 #[rv x0, iv i_2] [.int i_2, .ref x0, .int i_1]))
 obtain ⟨T'1, X'1, e'1, st'1⟩ := own_callV X'0 hx hZ (y := Y34) hown (qw hw 95 rfl) (qw hw 96 rfl) (qw hw 98 rfl) (qw hw 97 rfl) (qw hw 46 rfl) (qw hw 99 rfl) (by decide) (W := 1) (rm_st2 l Z a0 hw [] x0 i_3 ea ke i_1 i_1 i_1 en3 h0 Xr Fs Fe Ve (by decide)) (by decide) (by decide) rfl rfl e'0 Xr (g := (mkF m 7 #[rv x0, iv i_2] [.int i_2, .ref x0, .int i_1])) rfl (by rw [hml]; rfl) (argsL := [.int i_2]) (rest := [.int i_1]) (lenOf own_pd21 rfl) rfl rfl (Nat.le_of_eq rfl) (hb hby d16_7) (by decide) (by decide)
 refine goo st'1 ?_
 refine goo (fun _ k => XS.isub X'1.here hx rfl (hb hby d16_10) rfl k) ?_
 show own_G _ _ _ _ (T'1.setTop (mkF m 11 #[rv x0, iv i_2] [.int i_0]))
 exact own_end X'1 Bd.notSynchronized (v := some (.int i_0)) (fun h => by rw [Bd.returns] at h; cases h) (Q := QP (some (.int i_0)) h0) ⟨rfl, rfl, e'1⟩ (fun fs hr => retI X'1 hx Bd.returns (hb hby d16_11) hr) (by decide) (by decide)
def Q_rm_va20_2 (Z : State) (x0 : Addr) (ca ea : Addr) (kc ke : ClassId) (w0 w1 w2 w3 w4 w5 en3 : Int32) (cz : Int32) (fz : Value) (h0 : Heap) (n0 : Nat) (v : Option Value) (h : Heap) (L : List Loc) : Prop := ∃ RET : Addr, v = some (.ref RET) ∧ Fr n0 L ∧ Keep h0 h [] ∧ h0.size ≤ RET ∧ Exa Z h RET s_0 ∧ Fld Z h RET s_0 "coder" "B" (.int i_0) ∧ ∃ b k, Fld Z h RET s_0 "value" "[B" (.ref b) ∧ Arv Z h b k .byte i_0 [] (.int i_0)
theorem rm_va20_2 (l : Launch) (Z : State) (a0 : Array Value) (hw : own_HW a0 Z) (ws : List Jvm.Cond) (x0 : Addr) (ca ea : Addr) (kc ke : ClassId) (w0 w1 w2 w3 w4 w5 en3 : Int32) (cz : Int32) (fz : Value) (h0 : Heap) (n0 : Nat) (Z0 : n0 ≤ h0.size) (p0_ : Exa Z h0 x0 s_3) (p1_ : Fld Z h0 x0 s_3 "chars" "[C" (.ref ca)) (p2_ : Fld Z h0 x0 s_3 "ends" "[I" (.ref ea)) (p3_ : Fld Z h0 x0 s_3 "size" "I" (.int i_3)) (p4_ : Arv Z h0 ca kc .char i_256 [.int w0, .int w1, .int w2, .int w3, .int w4, .int w5] (.int i_0)) (p5_ : Arv Z h0 ea ke .int i_32 [.int i_1, .int i_1, .int i_1, .int en3] (.int i_0)) (p6_ : Sta Z h0 s_0 "COMPACT_STRINGS" "Z" (.int cz)) (p7_ : ¬ cz = i_0) (p8_ : Sta Z h0 s_1 "SIOOBE_FORMATTER" "Ljava/util/function/BiFunction;" fz) (p9_ : Old Z n0 h0) (p10_ : Jvm.Lit.constHeld Z s_0 7) (p11_ : Jvm.Lit.compactW.before a0 Z = true) (hfz : fz.isRef = true) :
  MetFree l Y36 (head1 (Jvm.Cond.code Y36 prog_116_method_9_code 2 (some (.object s_0)) :: ws) (rr 4 3 8 63)) (fun a U => a = #[.ref x0, .int i_2] ∧ Z.Warmed39 U.vm ∧ U.heap = h0 ∧ IB Z U.vm []) (fun _ _ _ _ _ => True) (fun _ U o U' => ∃ v L, o = .returned v ∧ Q_rm_va20_2 Z x0 ca ea kc ke w0 w1 w2 w3 w4 w5 en3 cz fz h0 n0 v U'.heap L ∧ ReturnedEndW U o U' L (rr 4 3 8 63).cells (rr 4 3 8 63).slots) := by
 refine MetFree.of_bodySF (plainFor_of_name own_pn5) hisR ?_
 intro p e s m args below meth c s₁ Bd hml0 hP hK
 obtain ⟨rfl, hZ, hh, hI⟩ := hP
 have hx := Bd.exec
 have hby := Bd.bytes
 have hml : c.maxLocals = 2 := hml0
 have hown : s.vm.findClass s_3 = some m.cls := findClass_of_methodNamed Bd.named
 have hnm := (name_of_methodNamed Bd.named Bd.method).1
 have X0 : Stand p l e (rr 4 3 8 63) s m #[.ref x0, .int i_2] below meth c s₁ [] 0 0 := Stand.of_body Bd
 have e0 : s₁.heap = h0 := by rw [← hh, Bd.state]; rfl
 show own_G _ _ _ _ (s₁.setTop (entryFrame m #[.ref x0, .int i_2] 2))
 refine goo (fun _ k => castTop (ef_19_RI m x0 i_2) k) ?_
 have N0 := Fr.nil n0
 have KP0 := Keep.refl h0 []
 have hS : s.Since s.vm h0.size := (State.WarmedH.refl s).since _
 have hk : h0.size ≤ h0.size := Nat.le_refl _
 have own_sA : ∀ a ∈ Bundle.stringAtoms, a.before a0 Z = true := own_strA hw
 obtain ⟨T'0, h'0, X'0, e'0, E'0, A'0, D'0, -, st'0⟩ := newO X0 hx hZ hown (qw hw 105 rfl) (qw hw 11 rfl) (qw hw 3 rfl) e0 (g := (mkF m 0 #[rv x0, iv i_2] [])) rfl (hb hby d19_0) (by decide) (by decide)
 obtain ⟨b'0, g'0⟩ : ∃ z, z = h0.size := ⟨_, rfl⟩
 rw [← g'0] at A'0 D'0 st'0
 have ne_1 : ca ≠ b'0 := Nat.ne_of_lt (Nat.lt_of_lt_of_le p4_.lt (Nat.le_of_eq g'0.symm))
 have ge_2 : n0 ≤ b'0 := Nat.le_trans Z0 (Nat.le_of_eq g'0.symm)
 have sz_1278 : h0.size ≤ b'0 := Nat.le_trans KP0.1 (Nat.le_of_eq g'0.symm)
 have X_3 := p0_.ext E'0
 have F_4 := p1_.ext E'0
 have F_5 := p2_.ext E'0
 have F_6 := p3_.ext E'0
 have V_7 := p4_.ext E'0
 have V_8 := p5_.ext E'0
 have S_9 := p6_.ext E'0
 have S_a := p8_.ext E'0
 have Old_b := p9_.ext E'0
 have Z_c : n0 ≤ h'0.size := Nat.le_trans Z0 E'0.1
 have hk_d := Nat.le_trans hk E'0.1
 have KP_e : Keep h0 h'0 [] := KP0.ext E'0
 have F_f : Fld Z h'0 b'0 s_0 "value" "[B" .null := D'0 (Or.inr (qw hw 24 rfl)) (ty := (.array .byte)) (by decide)
 have F_g : Fld Z h'0 b'0 s_0 "coder" "B" (.int i_0) := D'0 (Or.inr (qw hw 26 rfl)) (ty := .byte) (by decide)
 refine goo st'0 ?_
 refine goo (fun _ k => XS.dup X'0.here hx rfl (hb hby d19_3) rfl rfl <| XS.aloadN X'0.here hx rfl (hb hby d19_4) rfl rfl k) ?_
 obtain ⟨T'h, X'h, e'h, st'h⟩ := getF X'0 hx hZ hown (host := "") (Or.inl (qw hw 51 rfl)) Via.refl e'0 F_4 (g := (mkF m 5 #[rv x0, iv i_2] [.ref x0, .ref b'0, .ref b'0])) rfl rfl (hb hby d19_5)
 refine goo st'h ?_
 refine goo (fun _ k => XS.aloadN X'h.here hx rfl (hb hby d19_8) rfl rfl k) ?_
 show own_G _ _ _ _ (T'h.setTop (mkF m 9 #[rv x0, iv i_2] [.ref x0, .ref ca, .ref b'0, .ref b'0]))
 refine goo (fun _ k => XS.iloadN X'h.here hx rfl (hb hby d19_9) rfl k) ?_
 obtain ⟨T'i, X'i, e'i, st'i⟩ := own_callV X'h hx hZ (y := Y34) hown (qw hw 95 rfl) (qw hw 96 rfl) (qw hw 98 rfl) (qw hw 97 rfl) (qw hw 46 rfl) (qw hw 99 rfl) (by decide) (W := 3) (rm_st2 l Z a0 hw [] x0 i_3 ea ke i_1 i_1 i_1 en3 h'0 X_3 F_6 F_5 V_8 (by decide)) (by decide) (by decide) rfl rfl e'h X_3 (g := (mkF m 10 #[rv x0, iv i_2] [.int i_2, .ref x0, .ref ca, .ref b'0, .ref b'0])) rfl (by rw [hml]; rfl) (argsL := [.int i_2]) (rest := [.ref ca, .ref b'0, .ref b'0]) (lenOf own_pd21 rfl) rfl rfl (Nat.le_of_eq rfl) (hb hby d19_10) (by decide) (by decide)
 refine goo st'i ?_
 refine goo (fun _ k => XS.aloadN X'i.here hx rfl (hb hby d19_13) rfl rfl <| XS.iloadN X'i.here hx rfl (hb hby d19_14) rfl k) ?_
 obtain ⟨T'j, X'j, e'j, st'j⟩ := own_callV X'i hx hZ (y := Y33) hown (qw hw 90 rfl) (qw hw 91 rfl) (qw hw 93 rfl) (qw hw 92 rfl) (qw hw 46 rfl) (qw hw 94 rfl) (by decide) (W := 4) (rm_en2 l Z a0 hw [] x0 i_3 ea ke i_1 i_1 i_1 en3 h'0 X_3 F_6 F_5 V_8 (by decide)) (by decide) (by decide) rfl rfl e'i X_3 (g := (mkF m 15 #[rv x0, iv i_2] [.int i_2, .ref x0, .int i_1, .ref ca, .ref b'0, .ref b'0])) rfl (by rw [hml]; rfl) (argsL := [.int i_2]) (rest := [.int i_1, .ref ca, .ref b'0, .ref b'0]) (lenOf own_pd21 rfl) rfl rfl (Nat.le_of_eq rfl) (hb hby d19_15) (by decide) (by decide)
 refine goo st'j ?_
 refine goo (fun _ k => XS.aloadN X'j.here hx rfl (hb hby d19_18) rfl rfl k) ?_
 show own_G _ _ _ _ (T'j.setTop (mkF m 19 #[rv x0, iv i_2] [.ref x0, .int i_1, .int i_1, .ref ca, .ref b'0, .ref b'0]))
 refine goo (fun _ k => XS.iloadN X'j.here hx rfl (hb hby d19_19) rfl k) ?_
 obtain ⟨T'k, X'k, e'k, st'k⟩ := own_callV X'j hx hZ (y := Y34) hown (qw hw 95 rfl) (qw hw 96 rfl) (qw hw 98 rfl) (qw hw 97 rfl) (qw hw 46 rfl) (qw hw 99 rfl) (by decide) (W := 5) (rm_st2 l Z a0 hw [] x0 i_3 ea ke i_1 i_1 i_1 en3 h'0 X_3 F_6 F_5 V_8 (by decide)) (by decide) (by decide) rfl rfl e'j X_3 (g := (mkF m 20 #[rv x0, iv i_2] [.int i_2, .ref x0, .int i_1, .int i_1, .ref ca, .ref b'0, .ref b'0])) rfl (by rw [hml]; rfl) (argsL := [.int i_2]) (rest := [.int i_1, .int i_1, .ref ca, .ref b'0, .ref b'0]) (lenOf own_pd21 rfl) rfl rfl (Nat.le_of_eq rfl) (hb hby d19_20) (by decide) (by decide)
 refine goo st'k ?_
 refine goo (fun _ k => XS.isub X'k.here hx rfl (hb hby d19_23) rfl k) ?_
 obtain ⟨_, _, ⟨T'l, L'l, k'l, n'l⟩, -, X'l, hSn, hgr, ⟨Lc'l, hQ'l, l'l, y'l, z'l⟩, st'l⟩ := X'k.specialBackS hx (y := Y22) rfl hown (mvT hZ (qw hw 106 rfl)) (mvT hZ (qw hw 107 rfl)) (mvT hZ (qw hw 108 rfl)) (by decide) (own_backI (W := 1) (rm_sc10 l Z a0 hw [] b'0 ca cz fz kc w0 w1 w2 w3 w4 w5 h'0 n0 Z_c A'0 ge_2 F_f F_g V_7 S_9 p7_ S_a (Ne.symm ne_1) Old_b p10_ p11_ hfz) hZ hI (qw hw 108 rfl) (qw hw 3 rfl) (by decide) (by decide)) (g := (mkF m 24 #[rv x0, iv i_2] [.int i_0, .int i_1, .ref ca, .ref b'0, .ref b'0])) rfl (by rw [hml]; rfl) (Steps.refl _) (a := b'0) (argsL := [.ref ca, .int i_1, .int i_0]) (rest := [.ref b'0]) (lenOf own_pd22 rfl) rfl (Nat.le_of_eq rfl) (hb hby d19_24) (fun _ _ => ⟨rfl, e'k, (by decide : 1 + 2 ≤ _), (by decide : 4 + 4 ≤ _)⟩)
 dsimp only [Pt.U, Pt.locs, Pt.cells, Pt.slots] at X'l l'l y'l z'l st'l hQ'l hSn hgr
 subst l'l y'l z'l
 obtain ⟨rfl, Nq'l, K'l, G_m, G_n, qx'l⟩ := hQ'l
 obtain ⟨vb'l, kv'l, Fv'l, Vv'l⟩ := qx'l
 have hS := foldS (s := s) hS (by rw [e'k]; exact hk_d) hSn hgr
 have hZ := State.Warmed39.trans (t := s) hZ hSn.1
 have hown : (s.setVm T'l.vm).vm.findClass s_3 = some m.cls := by rw [show (s.setVm T'l.vm).vm = T'l.vm from rfl, hSn.1.alike.findClass]; exact hown
 have KP_o : Keep h0 T'l.heap [] := KP_e.trans K'l (allS (Or.inr sz_1278) all0)
 have hk'l : T'l.heap.size ≤ T'l.heap.size := Nat.le_refl _
 have N_l := Fr.app N0 Nq'l
 have X'l : Stand p l e _ (s.setVm T'l.vm) m _ below meth c T'l _ _ _ := X'l
 refine goo (fun _ k => st'l.trans k) ?_
 show own_G _ _ _ _ (T'l.setTop (mkF m 27 #[rv x0, iv i_2] [.ref b'0]))
 exact own_endW X'l Bd.notSynchronized hS hk'l (v := some (.ref b'0)) (fun h => by rw [Bd.returns] at h; cases h) (Q := Q_rm_va20_2 Z x0 ca ea kc ke w0 w1 w2 w3 w4 w5 en3 cz fz h0 n0) (by show Q_rm_va20_2 Z x0 ca ea kc ke w0 w1 w2 w3 w4 w5 en3 cz fz h0 n0 (some (.ref b'0)) T'l.heap _; exact ⟨b'0, rfl, N_l, KP_o, sz_1278, G_m, G_n, ⟨vb'l, kv'l, Fv'l, Vv'l⟩⟩) (fun fs hr => own_retA X'l hx Bd.returns rfl rfl (hb hby d19_27) hr) (by decide) (by decide)
theorem rm_ln21 (l : Launch) (Z : State) (a0 : Array Value) (hw : own_HW a0 Z) (ws : List Jvm.Cond) (x0 : Addr)  (ea : Addr) (ke : ClassId) (en3 : Int32) (h0 : Heap) (Xr : Exa Z h0 x0 s_3) (Fs : Fld Z h0 x0 s_3 "size" "I" (.int i_3)) (Fe : Fld Z h0 x0 s_3 "ends" "[I" (.ref ea)) (Ve : Arv Z h0 ea ke .int i_32 [.int i_1, .int i_1, .int i_2, .int en3] (.int i_0)) :
  MetFree l Y35 (head1 (Jvm.Cond.code Y35 prog_116_method_10_code 2 (some .int) :: ws) (rr 2 0 0 27)) (fun a U => a = #[.ref x0, .int i_2] ∧ Z.Warmed39 U.vm ∧ U.heap = h0) (fun _ _ _ _ _ => True) (fun _ U o U' => ∃ v L, o = .returned v ∧ QP (some (.int i_1)) h0 v U'.heap L ∧ FrameEnd U o U' L (rr 2 0 0 27).cells (rr 2 0 0 27).slots) := by
 refine MetFree.of_bodySF (plainFor_of_name own_pn5) hisR ?_
 intro p e s m args below meth c s₁ Bd hml0 hP hK
 obtain ⟨rfl, hZ, hh⟩ := hP
 have hx := Bd.exec
 have hby := Bd.bytes
 have hml : c.maxLocals = 2 := hml0
 have hown : s.vm.findClass s_3 = some m.cls := findClass_of_methodNamed Bd.named
 have hnm := (name_of_methodNamed Bd.named Bd.method).1
 have X0 : Stand p l e (rr 2 0 0 27) s m #[.ref x0, .int i_2] below meth c s₁ [] 0 0 := Stand.of_body Bd
 have e0 : s₁.heap = h0 := by rw [← hh, Bd.state]; rfl
 show own_G _ _ _ _ (s₁.setTop (entryFrame m #[.ref x0, .int i_2] 2))
 refine goo (fun _ k => castTop (ef_16_RI m x0 i_2) k) ?_
 refine goo (fun _ k => XS.aloadN X0.here hx rfl (hb hby d16_0) rfl rfl <| XS.iloadN X0.here hx rfl (hb hby d16_1) rfl k) ?_
 obtain ⟨T'0, X'0, e'0, st'0⟩ := own_callV X0 hx hZ (y := Y33) hown (qw hw 90 rfl) (qw hw 91 rfl) (qw hw 93 rfl) (qw hw 92 rfl) (qw hw 46 rfl) (qw hw 94 rfl) (by decide) (W := 0) (rm_en2 l Z a0 hw [] x0 i_3 ea ke i_1 i_1 i_2 en3 h0 Xr Fs Fe Ve (by decide)) (by decide) (by decide) rfl rfl e0 Xr (g := (mkF m 2 #[rv x0, iv i_2] [.int i_2, .ref x0])) rfl (by rw [hml]; rfl) (argsL := [.int i_2]) (rest := []) (lenOf own_pd21 rfl) rfl rfl (Nat.le_of_eq rfl) (hb hby d16_2) (by decide) (by decide)
 refine goo st'0 ?_
 refine goo (fun _ k => XS.aloadN X'0.here hx rfl (hb hby d16_5) rfl rfl <| XS.iloadN X'0.here hx rfl (hb hby d16_6) rfl k) ?_
 show own_G _ _ _ _ (T'0.setTop (mkF m 7 #[rv x0, iv i_2] [.int i_2, .ref x0, .int i_2]))
 obtain ⟨T'1, X'1, e'1, st'1⟩ := own_callV X'0 hx hZ (y := Y34) hown (qw hw 95 rfl) (qw hw 96 rfl) (qw hw 98 rfl) (qw hw 97 rfl) (qw hw 46 rfl) (qw hw 99 rfl) (by decide) (W := 1) (rm_st2 l Z a0 hw [] x0 i_3 ea ke i_1 i_1 i_2 en3 h0 Xr Fs Fe Ve (by decide)) (by decide) (by decide) rfl rfl e'0 Xr (g := (mkF m 7 #[rv x0, iv i_2] [.int i_2, .ref x0, .int i_2])) rfl (by rw [hml]; rfl) (argsL := [.int i_2]) (rest := [.int i_2]) (lenOf own_pd21 rfl) rfl rfl (Nat.le_of_eq rfl) (hb hby d16_7) (by decide) (by decide)
 refine goo st'1 ?_
 refine goo (fun _ k => XS.isub X'1.here hx rfl (hb hby d16_10) rfl k) ?_
 show own_G _ _ _ _ (T'1.setTop (mkF m 11 #[rv x0, iv i_2] [.int i_1]))
 exact own_end X'1 Bd.notSynchronized (v := some (.int i_1)) (fun h => by rw [Bd.returns] at h; cases h) (Q := QP (some (.int i_1)) h0) ⟨rfl, rfl, e'1⟩ (fun fs hr => retI X'1 hx Bd.returns (hb hby d16_11) hr) (by decide) (by decide)
def Q_rm_va21_2 (Z : State) (x0 : Addr) (ca ea : Addr) (kc ke : ClassId) (w0 w1 w2 w3 w4 w5 en3 : Int32) (cz : Int32) (fz : Value) (h0 : Heap) (n0 : Nat) (v : Option Value) (h : Heap) (L : List Loc) : Prop := ∃ RET : Addr, v = some (.ref RET) ∧ Fr n0 L ∧ Keep h0 h [] ∧ h0.size ≤ RET ∧ Exa Z h RET s_0 ∧ Fld Z h RET s_0 "coder" "B" (.int i_0) ∧ ∃ b k, h0.size ≤ b ∧ Fld Z h RET s_0 "value" "[B" (.ref b) ∧ Arv Z h b k .byte i_1 [.int (own_by w1)] (.int i_0)
theorem rm_va21_2 (l : Launch) (Z : State) (a0 : Array Value) (hw : own_HW a0 Z) (ws : List Jvm.Cond) (x0 : Addr) (ca ea : Addr) (kc ke : ClassId) (w0 w1 w2 w3 w4 w5 en3 : Int32) (cz : Int32) (fz : Value) (h0 : Heap) (n0 : Nat) (Z0 : n0 ≤ h0.size) (p0_ : Exa Z h0 x0 s_3) (p1_ : Fld Z h0 x0 s_3 "chars" "[C" (.ref ca)) (p2_ : Fld Z h0 x0 s_3 "ends" "[I" (.ref ea)) (p3_ : Fld Z h0 x0 s_3 "size" "I" (.int i_3)) (p4_ : Arv Z h0 ca kc .char i_256 [.int w0, .int w1, .int w2, .int w3, .int w4, .int w5] (.int i_0)) (p5_ : Arv Z h0 ea ke .int i_32 [.int i_1, .int i_1, .int i_2, .int en3] (.int i_0)) (p6_ : Sta Z h0 s_0 "COMPACT_STRINGS" "Z" (.int cz)) (p7_ : ¬ cz = i_0) (p8_ : Sta Z h0 s_1 "SIOOBE_FORMATTER" "Ljava/util/function/BiFunction;" fz) (p9_ : own_ok w1) (hfz : fz.isRef = true) :
  MetFree l Y36 (head1 (Jvm.Cond.code Y36 prog_116_method_9_code 2 (some (.object s_0)) :: ws) (rr 4 2 5 68)) (fun a U => a = #[.ref x0, .int i_2] ∧ Z.Warmed39 U.vm ∧ U.heap = h0) (fun _ _ _ _ _ => True) (fun _ U o U' => ∃ v L, o = .returned v ∧ Q_rm_va21_2 Z x0 ca ea kc ke w0 w1 w2 w3 w4 w5 en3 cz fz h0 n0 v U'.heap L ∧ FrameEnd U o U' L (rr 4 2 5 68).cells (rr 4 2 5 68).slots) := by
 refine MetFree.of_bodySF (plainFor_of_name own_pn5) hisR ?_
 intro p e s m args below meth c s₁ Bd hml0 hP hK
 obtain ⟨rfl, hZ, hh⟩ := hP
 have hx := Bd.exec
 have hby := Bd.bytes
 have hml : c.maxLocals = 2 := hml0
 have hown : s.vm.findClass s_3 = some m.cls := findClass_of_methodNamed Bd.named
 have hnm := (name_of_methodNamed Bd.named Bd.method).1
 have X0 : Stand p l e (rr 4 2 5 68) s m #[.ref x0, .int i_2] below meth c s₁ [] 0 0 := Stand.of_body Bd
 have e0 : s₁.heap = h0 := by rw [← hh, Bd.state]; rfl
 show own_G _ _ _ _ (s₁.setTop (entryFrame m #[.ref x0, .int i_2] 2))
 refine goo (fun _ k => castTop (ef_19_RI m x0 i_2) k) ?_
 have N0 := Fr.nil n0
 have KP0 := Keep.refl h0 []
 obtain ⟨T'0, h'0, X'0, e'0, E'0, A'0, D'0, -, st'0⟩ := newO X0 hx hZ hown (qw hw 105 rfl) (qw hw 11 rfl) (qw hw 3 rfl) e0 (g := (mkF m 0 #[rv x0, iv i_2] [])) rfl (hb hby d19_0) (by decide) (by decide)
 obtain ⟨b'0, g'0⟩ : ∃ z, z = h0.size := ⟨_, rfl⟩
 rw [← g'0] at A'0 D'0 st'0
 have ne_1 : ca ≠ b'0 := Nat.ne_of_lt (Nat.lt_of_lt_of_le p4_.lt (Nat.le_of_eq g'0.symm))
 have ge_2 : n0 ≤ b'0 := Nat.le_trans Z0 (Nat.le_of_eq g'0.symm)
 have sz_1320 : h0.size ≤ b'0 := Nat.le_trans KP0.1 (Nat.le_of_eq g'0.symm)
 have X_3 := p0_.ext E'0
 have F_4 := p1_.ext E'0
 have F_5 := p2_.ext E'0
 have F_6 := p3_.ext E'0
 have V_7 := p4_.ext E'0
 have V_8 := p5_.ext E'0
 have S_9 := p6_.ext E'0
 have S_a := p8_.ext E'0
 have Z_b : n0 ≤ h'0.size := Nat.le_trans Z0 E'0.1
 have KP_c : Keep h0 h'0 [] := KP0.ext E'0
 have F_d : Fld Z h'0 b'0 s_0 "value" "[B" .null := D'0 (Or.inr (qw hw 24 rfl)) (ty := (.array .byte)) (by decide)
 have F_e : Fld Z h'0 b'0 s_0 "coder" "B" (.int i_0) := D'0 (Or.inr (qw hw 26 rfl)) (ty := .byte) (by decide)
 refine goo st'0 ?_
 refine goo (fun _ k => XS.dup X'0.here hx rfl (hb hby d19_3) rfl rfl <| XS.aloadN X'0.here hx rfl (hb hby d19_4) rfl rfl k) ?_
 obtain ⟨T'f, X'f, e'f, st'f⟩ := getF X'0 hx hZ hown (host := "") (Or.inl (qw hw 51 rfl)) Via.refl e'0 F_4 (g := (mkF m 5 #[rv x0, iv i_2] [.ref x0, .ref b'0, .ref b'0])) rfl rfl (hb hby d19_5)
 refine goo st'f ?_
 refine goo (fun _ k => XS.aloadN X'f.here hx rfl (hb hby d19_8) rfl rfl k) ?_
 show own_G _ _ _ _ (T'f.setTop (mkF m 9 #[rv x0, iv i_2] [.ref x0, .ref ca, .ref b'0, .ref b'0]))
 refine goo (fun _ k => XS.iloadN X'f.here hx rfl (hb hby d19_9) rfl k) ?_
 obtain ⟨T'g, X'g, e'g, st'g⟩ := own_callV X'f hx hZ (y := Y34) hown (qw hw 95 rfl) (qw hw 96 rfl) (qw hw 98 rfl) (qw hw 97 rfl) (qw hw 46 rfl) (qw hw 99 rfl) (by decide) (W := 3) (rm_st2 l Z a0 hw [] x0 i_3 ea ke i_1 i_1 i_2 en3 h'0 X_3 F_6 F_5 V_8 (by decide)) (by decide) (by decide) rfl rfl e'f X_3 (g := (mkF m 10 #[rv x0, iv i_2] [.int i_2, .ref x0, .ref ca, .ref b'0, .ref b'0])) rfl (by rw [hml]; rfl) (argsL := [.int i_2]) (rest := [.ref ca, .ref b'0, .ref b'0]) (lenOf own_pd21 rfl) rfl rfl (Nat.le_of_eq rfl) (hb hby d19_10) (by decide) (by decide)
 refine goo st'g ?_
 refine goo (fun _ k => XS.aloadN X'g.here hx rfl (hb hby d19_13) rfl rfl <| XS.iloadN X'g.here hx rfl (hb hby d19_14) rfl k) ?_
 obtain ⟨T'h, X'h, e'h, st'h⟩ := own_callV X'g hx hZ (y := Y33) hown (qw hw 90 rfl) (qw hw 91 rfl) (qw hw 93 rfl) (qw hw 92 rfl) (qw hw 46 rfl) (qw hw 94 rfl) (by decide) (W := 4) (rm_en2 l Z a0 hw [] x0 i_3 ea ke i_1 i_1 i_2 en3 h'0 X_3 F_6 F_5 V_8 (by decide)) (by decide) (by decide) rfl rfl e'g X_3 (g := (mkF m 15 #[rv x0, iv i_2] [.int i_2, .ref x0, .int i_1, .ref ca, .ref b'0, .ref b'0])) rfl (by rw [hml]; rfl) (argsL := [.int i_2]) (rest := [.int i_1, .ref ca, .ref b'0, .ref b'0]) (lenOf own_pd21 rfl) rfl rfl (Nat.le_of_eq rfl) (hb hby d19_15) (by decide) (by decide)
 refine goo st'h ?_
 refine goo (fun _ k => XS.aloadN X'h.here hx rfl (hb hby d19_18) rfl rfl k) ?_
 show own_G _ _ _ _ (T'h.setTop (mkF m 19 #[rv x0, iv i_2] [.ref x0, .int i_2, .int i_1, .ref ca, .ref b'0, .ref b'0]))
 refine goo (fun _ k => XS.iloadN X'h.here hx rfl (hb hby d19_19) rfl k) ?_
 obtain ⟨T'i, X'i, e'i, st'i⟩ := own_callV X'h hx hZ (y := Y34) hown (qw hw 95 rfl) (qw hw 96 rfl) (qw hw 98 rfl) (qw hw 97 rfl) (qw hw 46 rfl) (qw hw 99 rfl) (by decide) (W := 5) (rm_st2 l Z a0 hw [] x0 i_3 ea ke i_1 i_1 i_2 en3 h'0 X_3 F_6 F_5 V_8 (by decide)) (by decide) (by decide) rfl rfl e'h X_3 (g := (mkF m 20 #[rv x0, iv i_2] [.int i_2, .ref x0, .int i_2, .int i_1, .ref ca, .ref b'0, .ref b'0])) rfl (by rw [hml]; rfl) (argsL := [.int i_2]) (rest := [.int i_2, .int i_1, .ref ca, .ref b'0, .ref b'0]) (lenOf own_pd21 rfl) rfl rfl (Nat.le_of_eq rfl) (hb hby d19_20) (by decide) (by decide)
 refine goo st'i ?_
 refine goo (fun _ k => XS.isub X'i.here hx rfl (hb hby d19_23) rfl k) ?_
 obtain ⟨_, _, ⟨T'j, L'j, k'j, n'j⟩, -, X'j, ⟨Lc'j, hQ'j, l'j, y'j, z'j⟩, st'j⟩ := X'i.specialBack hx (y := Y22) rfl hown (mvT hZ (qw hw 106 rfl)) (mvT hZ (qw hw 107 rfl)) (mvT hZ (qw hw 108 rfl)) (by decide) (backOf (W := 1) (rm_sc11 l Z a0 hw [] b'0 ca cz fz kc w0 w1 w2 w3 w4 w5 h'0 n0 Z_b A'0 ge_2 F_d F_e V_7 S_9 p7_ S_a (Ne.symm ne_1) p9_ hfz) hZ (qw hw 108 rfl) (qw hw 3 rfl) (by decide) (by decide)) (g := (mkF m 24 #[rv x0, iv i_2] [.int i_1, .int i_1, .ref ca, .ref b'0, .ref b'0])) rfl (by rw [hml]; rfl) (Steps.refl _) (a := b'0) (argsL := [.ref ca, .int i_1, .int i_1]) (rest := [.ref b'0]) (lenOf own_pd22 rfl) rfl (Nat.le_of_eq rfl) (hb hby d19_24) (fun _ _ => ⟨rfl, e'i, (by decide : 1 + 1 ≤ _), (by decide : 4 + 1 ≤ _)⟩)
 dsimp only [Pt.U, Pt.locs, Pt.cells, Pt.slots] at X'j l'j y'j z'j st'j hQ'j
 subst l'j y'j z'j
 obtain ⟨rfl, Nq'j, K'j, G_k, G_l, qx'j⟩ := hQ'j
 obtain ⟨vb'j, kv'j, gv'j, Fv'j, Vv'j⟩ := qx'j
 have sz_1345 : h0.size ≤ vb'j := Nat.le_trans KP_c.1 gv'j
 have KP_m : Keep h0 T'j.heap [] := KP_c.trans K'j (allS (Or.inr sz_1320) all0)
 have N_j := Fr.app N0 Nq'j
 refine goo (fun _ k => st'j.trans k) ?_
 show own_G _ _ _ _ (T'j.setTop (mkF m 27 #[rv x0, iv i_2] [.ref b'0]))
 exact own_end X'j Bd.notSynchronized (v := some (.ref b'0)) (fun h => by rw [Bd.returns] at h; cases h) (Q := Q_rm_va21_2 Z x0 ca ea kc ke w0 w1 w2 w3 w4 w5 en3 cz fz h0 n0) (by show Q_rm_va21_2 Z x0 ca ea kc ke w0 w1 w2 w3 w4 w5 en3 cz fz h0 n0 (some (.ref b'0)) T'j.heap _; exact ⟨b'0, rfl, N_j, KP_m, sz_1320, G_k, G_l, ⟨vb'j, kv'j, sz_1345, Fv'j, Vv'j⟩⟩) (fun fs hr => own_retA X'j hx Bd.returns rfl rfl (hb hby d19_27) hr) (by decide) (by decide)
theorem rm_ln30 (l : Launch) (Z : State) (a0 : Array Value) (hw : own_HW a0 Z) (ws : List Jvm.Cond) (x0 : Addr)  (ea : Addr) (ke : ClassId) (h0 : Heap) (Xr : Exa Z h0 x0 s_3) (Fs : Fld Z h0 x0 s_3 "size" "I" (.int i_4)) (Fe : Fld Z h0 x0 s_3 "ends" "[I" (.ref ea)) (Ve : Arv Z h0 ea ke .int i_32 [.int i_1, .int i_1, .int i_3, .int i_3] (.int i_0)) :
  MetFree l Y35 (head1 (Jvm.Cond.code Y35 prog_116_method_10_code 2 (some .int) :: ws) (rr 2 0 0 27)) (fun a U => a = #[.ref x0, .int i_3] ∧ Z.Warmed39 U.vm ∧ U.heap = h0) (fun _ _ _ _ _ => True) (fun _ U o U' => ∃ v L, o = .returned v ∧ QP (some (.int i_0)) h0 v U'.heap L ∧ FrameEnd U o U' L (rr 2 0 0 27).cells (rr 2 0 0 27).slots) := by
 refine MetFree.of_bodySF (plainFor_of_name own_pn5) hisR ?_
 intro p e s m args below meth c s₁ Bd hml0 hP hK
 obtain ⟨rfl, hZ, hh⟩ := hP
 have hx := Bd.exec
 have hby := Bd.bytes
 have hml : c.maxLocals = 2 := hml0
 have hown : s.vm.findClass s_3 = some m.cls := findClass_of_methodNamed Bd.named
 have hnm := (name_of_methodNamed Bd.named Bd.method).1
 have X0 : Stand p l e (rr 2 0 0 27) s m #[.ref x0, .int i_3] below meth c s₁ [] 0 0 := Stand.of_body Bd
 have e0 : s₁.heap = h0 := by rw [← hh, Bd.state]; rfl
 show own_G _ _ _ _ (s₁.setTop (entryFrame m #[.ref x0, .int i_3] 2))
 refine goo (fun _ k => castTop (ef_16_RI m x0 i_3) k) ?_
 refine goo (fun _ k => XS.aloadN X0.here hx rfl (hb hby d16_0) rfl rfl <| XS.iloadN X0.here hx rfl (hb hby d16_1) rfl k) ?_
 obtain ⟨T'0, X'0, e'0, st'0⟩ := own_callV X0 hx hZ (y := Y33) hown (qw hw 90 rfl) (qw hw 91 rfl) (qw hw 93 rfl) (qw hw 92 rfl) (qw hw 46 rfl) (qw hw 94 rfl) (by decide) (W := 0) (rm_en3 l Z a0 hw [] x0 i_4 ea ke i_1 i_1 i_3 i_3 h0 Xr Fs Fe Ve (by decide)) (by decide) (by decide) rfl rfl e0 Xr (g := (mkF m 2 #[rv x0, iv i_3] [.int i_3, .ref x0])) rfl (by rw [hml]; rfl) (argsL := [.int i_3]) (rest := []) (lenOf own_pd21 rfl) rfl rfl (Nat.le_of_eq rfl) (hb hby d16_2) (by decide) (by decide)
 refine goo st'0 ?_
 refine goo (fun _ k => XS.aloadN X'0.here hx rfl (hb hby d16_5) rfl rfl <| XS.iloadN X'0.here hx rfl (hb hby d16_6) rfl k) ?_
 show own_G _ _ _ _ (T'0.setTop (mkF m 7 #[rv x0, iv i_3] [.int i_3, .ref x0, .int i_3]))
 obtain ⟨T'1, X'1, e'1, st'1⟩ := own_callV X'0 hx hZ (y := Y34) hown (qw hw 95 rfl) (qw hw 96 rfl) (qw hw 98 rfl) (qw hw 97 rfl) (qw hw 46 rfl) (qw hw 99 rfl) (by decide) (W := 1) (rm_st3 l Z a0 hw [] x0 i_4 ea ke i_1 i_1 i_3 i_3 h0 Xr Fs Fe Ve (by decide)) (by decide) (by decide) rfl rfl e'0 Xr (g := (mkF m 7 #[rv x0, iv i_3] [.int i_3, .ref x0, .int i_3])) rfl (by rw [hml]; rfl) (argsL := [.int i_3]) (rest := [.int i_3]) (lenOf own_pd21 rfl) rfl rfl (Nat.le_of_eq rfl) (hb hby d16_7) (by decide) (by decide)
 refine goo st'1 ?_
 refine goo (fun _ k => XS.isub X'1.here hx rfl (hb hby d16_10) rfl k) ?_
 show own_G _ _ _ _ (T'1.setTop (mkF m 11 #[rv x0, iv i_3] [.int i_0]))
 exact own_end X'1 Bd.notSynchronized (v := some (.int i_0)) (fun h => by rw [Bd.returns] at h; cases h) (Q := QP (some (.int i_0)) h0) ⟨rfl, rfl, e'1⟩ (fun fs hr => retI X'1 hx Bd.returns (hb hby d16_11) hr) (by decide) (by decide)
def Q_rm_va30_3 (Z : State) (x0 : Addr) (ca ea : Addr) (kc ke : ClassId) (w0 w1 w2 w3 w4 w5 : Int32) (cz : Int32) (fz : Value) (h0 : Heap) (n0 : Nat) (v : Option Value) (h : Heap) (L : List Loc) : Prop := ∃ RET : Addr, v = some (.ref RET) ∧ Fr n0 L ∧ Keep h0 h [] ∧ h0.size ≤ RET ∧ Exa Z h RET s_0 ∧ Fld Z h RET s_0 "coder" "B" (.int i_0) ∧ ∃ b k, Fld Z h RET s_0 "value" "[B" (.ref b) ∧ Arv Z h b k .byte i_0 [] (.int i_0)
theorem rm_va30_3 (l : Launch) (Z : State) (a0 : Array Value) (hw : own_HW a0 Z) (ws : List Jvm.Cond) (x0 : Addr) (ca ea : Addr) (kc ke : ClassId) (w0 w1 w2 w3 w4 w5 : Int32) (cz : Int32) (fz : Value) (h0 : Heap) (n0 : Nat) (Z0 : n0 ≤ h0.size) (p0_ : Exa Z h0 x0 s_3) (p1_ : Fld Z h0 x0 s_3 "chars" "[C" (.ref ca)) (p2_ : Fld Z h0 x0 s_3 "ends" "[I" (.ref ea)) (p3_ : Fld Z h0 x0 s_3 "size" "I" (.int i_4)) (p4_ : Arv Z h0 ca kc .char i_256 [.int w0, .int w1, .int w2, .int w3, .int w4, .int w5] (.int i_0)) (p5_ : Arv Z h0 ea ke .int i_32 [.int i_1, .int i_1, .int i_3, .int i_3] (.int i_0)) (p6_ : Sta Z h0 s_0 "COMPACT_STRINGS" "Z" (.int cz)) (p7_ : ¬ cz = i_0) (p8_ : Sta Z h0 s_1 "SIOOBE_FORMATTER" "Ljava/util/function/BiFunction;" fz) (p9_ : Old Z n0 h0) (p10_ : Jvm.Lit.constHeld Z s_0 7) (p11_ : Jvm.Lit.compactW.before a0 Z = true) (hfz : fz.isRef = true) :
  MetFree l Y36 (head1 (Jvm.Cond.code Y36 prog_116_method_9_code 2 (some (.object s_0)) :: ws) (rr 4 3 8 63)) (fun a U => a = #[.ref x0, .int i_3] ∧ Z.Warmed39 U.vm ∧ U.heap = h0 ∧ IB Z U.vm []) (fun _ _ _ _ _ => True) (fun _ U o U' => ∃ v L, o = .returned v ∧ Q_rm_va30_3 Z x0 ca ea kc ke w0 w1 w2 w3 w4 w5 cz fz h0 n0 v U'.heap L ∧ ReturnedEndW U o U' L (rr 4 3 8 63).cells (rr 4 3 8 63).slots) := by
 refine MetFree.of_bodySF (plainFor_of_name own_pn5) hisR ?_
 intro p e s m args below meth c s₁ Bd hml0 hP hK
 obtain ⟨rfl, hZ, hh, hI⟩ := hP
 have hx := Bd.exec
 have hby := Bd.bytes
 have hml : c.maxLocals = 2 := hml0
 have hown : s.vm.findClass s_3 = some m.cls := findClass_of_methodNamed Bd.named
 have hnm := (name_of_methodNamed Bd.named Bd.method).1
 have X0 : Stand p l e (rr 4 3 8 63) s m #[.ref x0, .int i_3] below meth c s₁ [] 0 0 := Stand.of_body Bd
 have e0 : s₁.heap = h0 := by rw [← hh, Bd.state]; rfl
 show own_G _ _ _ _ (s₁.setTop (entryFrame m #[.ref x0, .int i_3] 2))
 refine goo (fun _ k => castTop (ef_19_RI m x0 i_3) k) ?_
 have N0 := Fr.nil n0
 have KP0 := Keep.refl h0 []
 have hS : s.Since s.vm h0.size := (State.WarmedH.refl s).since _
 have hk : h0.size ≤ h0.size := Nat.le_refl _
 have own_sA : ∀ a ∈ Bundle.stringAtoms, a.before a0 Z = true := own_strA hw
 obtain ⟨T'0, h'0, X'0, e'0, E'0, A'0, D'0, -, st'0⟩ := newO X0 hx hZ hown (qw hw 105 rfl) (qw hw 11 rfl) (qw hw 3 rfl) e0 (g := (mkF m 0 #[rv x0, iv i_3] [])) rfl (hb hby d19_0) (by decide) (by decide)
 obtain ⟨b'0, g'0⟩ : ∃ z, z = h0.size := ⟨_, rfl⟩
 rw [← g'0] at A'0 D'0 st'0
 have ne_1 : ca ≠ b'0 := Nat.ne_of_lt (Nat.lt_of_lt_of_le p4_.lt (Nat.le_of_eq g'0.symm))
 have ge_2 : n0 ≤ b'0 := Nat.le_trans Z0 (Nat.le_of_eq g'0.symm)
 have sz_1364 : h0.size ≤ b'0 := Nat.le_trans KP0.1 (Nat.le_of_eq g'0.symm)
 have X_3 := p0_.ext E'0
 have F_4 := p1_.ext E'0
 have F_5 := p2_.ext E'0
 have F_6 := p3_.ext E'0
 have V_7 := p4_.ext E'0
 have V_8 := p5_.ext E'0
 have S_9 := p6_.ext E'0
 have S_a := p8_.ext E'0
 have Old_b := p9_.ext E'0
 have Z_c : n0 ≤ h'0.size := Nat.le_trans Z0 E'0.1
 have hk_d := Nat.le_trans hk E'0.1
 have KP_e : Keep h0 h'0 [] := KP0.ext E'0
 have F_f : Fld Z h'0 b'0 s_0 "value" "[B" .null := D'0 (Or.inr (qw hw 24 rfl)) (ty := (.array .byte)) (by decide)
 have F_g : Fld Z h'0 b'0 s_0 "coder" "B" (.int i_0) := D'0 (Or.inr (qw hw 26 rfl)) (ty := .byte) (by decide)
 refine goo st'0 ?_
 refine goo (fun _ k => XS.dup X'0.here hx rfl (hb hby d19_3) rfl rfl <| XS.aloadN X'0.here hx rfl (hb hby d19_4) rfl rfl k) ?_
 obtain ⟨T'h, X'h, e'h, st'h⟩ := getF X'0 hx hZ hown (host := "") (Or.inl (qw hw 51 rfl)) Via.refl e'0 F_4 (g := (mkF m 5 #[rv x0, iv i_3] [.ref x0, .ref b'0, .ref b'0])) rfl rfl (hb hby d19_5)
 refine goo st'h ?_
 refine goo (fun _ k => XS.aloadN X'h.here hx rfl (hb hby d19_8) rfl rfl k) ?_
 show own_G _ _ _ _ (T'h.setTop (mkF m 9 #[rv x0, iv i_3] [.ref x0, .ref ca, .ref b'0, .ref b'0]))
 refine goo (fun _ k => XS.iloadN X'h.here hx rfl (hb hby d19_9) rfl k) ?_
 obtain ⟨T'i, X'i, e'i, st'i⟩ := own_callV X'h hx hZ (y := Y34) hown (qw hw 95 rfl) (qw hw 96 rfl) (qw hw 98 rfl) (qw hw 97 rfl) (qw hw 46 rfl) (qw hw 99 rfl) (by decide) (W := 3) (rm_st3 l Z a0 hw [] x0 i_4 ea ke i_1 i_1 i_3 i_3 h'0 X_3 F_6 F_5 V_8 (by decide)) (by decide) (by decide) rfl rfl e'h X_3 (g := (mkF m 10 #[rv x0, iv i_3] [.int i_3, .ref x0, .ref ca, .ref b'0, .ref b'0])) rfl (by rw [hml]; rfl) (argsL := [.int i_3]) (rest := [.ref ca, .ref b'0, .ref b'0]) (lenOf own_pd21 rfl) rfl rfl (Nat.le_of_eq rfl) (hb hby d19_10) (by decide) (by decide)
 refine goo st'i ?_
 refine goo (fun _ k => XS.aloadN X'i.here hx rfl (hb hby d19_13) rfl rfl <| XS.iloadN X'i.here hx rfl (hb hby d19_14) rfl k) ?_
 obtain ⟨T'j, X'j, e'j, st'j⟩ := own_callV X'i hx hZ (y := Y33) hown (qw hw 90 rfl) (qw hw 91 rfl) (qw hw 93 rfl) (qw hw 92 rfl) (qw hw 46 rfl) (qw hw 94 rfl) (by decide) (W := 4) (rm_en3 l Z a0 hw [] x0 i_4 ea ke i_1 i_1 i_3 i_3 h'0 X_3 F_6 F_5 V_8 (by decide)) (by decide) (by decide) rfl rfl e'i X_3 (g := (mkF m 15 #[rv x0, iv i_3] [.int i_3, .ref x0, .int i_3, .ref ca, .ref b'0, .ref b'0])) rfl (by rw [hml]; rfl) (argsL := [.int i_3]) (rest := [.int i_3, .ref ca, .ref b'0, .ref b'0]) (lenOf own_pd21 rfl) rfl rfl (Nat.le_of_eq rfl) (hb hby d19_15) (by decide) (by decide)
 refine goo st'j ?_
 refine goo (fun _ k => XS.aloadN X'j.here hx rfl (hb hby d19_18) rfl rfl k) ?_
 show own_G _ _ _ _ (T'j.setTop (mkF m 19 #[rv x0, iv i_3] [.ref x0, .int i_3, .int i_3, .ref ca, .ref b'0, .ref b'0]))
 refine goo (fun _ k => XS.iloadN X'j.here hx rfl (hb hby d19_19) rfl k) ?_
 obtain ⟨T'k, X'k, e'k, st'k⟩ := own_callV X'j hx hZ (y := Y34) hown (qw hw 95 rfl) (qw hw 96 rfl) (qw hw 98 rfl) (qw hw 97 rfl) (qw hw 46 rfl) (qw hw 99 rfl) (by decide) (W := 5) (rm_st3 l Z a0 hw [] x0 i_4 ea ke i_1 i_1 i_3 i_3 h'0 X_3 F_6 F_5 V_8 (by decide)) (by decide) (by decide) rfl rfl e'j X_3 (g := (mkF m 20 #[rv x0, iv i_3] [.int i_3, .ref x0, .int i_3, .int i_3, .ref ca, .ref b'0, .ref b'0])) rfl (by rw [hml]; rfl) (argsL := [.int i_3]) (rest := [.int i_3, .int i_3, .ref ca, .ref b'0, .ref b'0]) (lenOf own_pd21 rfl) rfl rfl (Nat.le_of_eq rfl) (hb hby d19_20) (by decide) (by decide)
 refine goo st'k ?_
 refine goo (fun _ k => XS.isub X'k.here hx rfl (hb hby d19_23) rfl k) ?_
 obtain ⟨_, _, ⟨T'l, L'l, k'l, n'l⟩, -, X'l, hSn, hgr, ⟨Lc'l, hQ'l, l'l, y'l, z'l⟩, st'l⟩ := X'k.specialBackS hx (y := Y22) rfl hown (mvT hZ (qw hw 106 rfl)) (mvT hZ (qw hw 107 rfl)) (mvT hZ (qw hw 108 rfl)) (by decide) (own_backI (W := 1) (rm_sc30 l Z a0 hw [] b'0 ca cz fz kc w0 w1 w2 w3 w4 w5 h'0 n0 Z_c A'0 ge_2 F_f F_g V_7 S_9 p7_ S_a (Ne.symm ne_1) Old_b p10_ p11_ hfz) hZ hI (qw hw 108 rfl) (qw hw 3 rfl) (by decide) (by decide)) (g := (mkF m 24 #[rv x0, iv i_3] [.int i_0, .int i_3, .ref ca, .ref b'0, .ref b'0])) rfl (by rw [hml]; rfl) (Steps.refl _) (a := b'0) (argsL := [.ref ca, .int i_3, .int i_0]) (rest := [.ref b'0]) (lenOf own_pd22 rfl) rfl (Nat.le_of_eq rfl) (hb hby d19_24) (fun _ _ => ⟨rfl, e'k, (by decide : 1 + 2 ≤ _), (by decide : 4 + 4 ≤ _)⟩)
 dsimp only [Pt.U, Pt.locs, Pt.cells, Pt.slots] at X'l l'l y'l z'l st'l hQ'l hSn hgr
 subst l'l y'l z'l
 obtain ⟨rfl, Nq'l, K'l, G_m, G_n, qx'l⟩ := hQ'l
 obtain ⟨vb'l, kv'l, Fv'l, Vv'l⟩ := qx'l
 have hS := foldS (s := s) hS (by rw [e'k]; exact hk_d) hSn hgr
 have hZ := State.Warmed39.trans (t := s) hZ hSn.1
 have hown : (s.setVm T'l.vm).vm.findClass s_3 = some m.cls := by rw [show (s.setVm T'l.vm).vm = T'l.vm from rfl, hSn.1.alike.findClass]; exact hown
 have KP_o : Keep h0 T'l.heap [] := KP_e.trans K'l (allS (Or.inr sz_1364) all0)
 have hk'l : T'l.heap.size ≤ T'l.heap.size := Nat.le_refl _
 have N_l := Fr.app N0 Nq'l
 have X'l : Stand p l e _ (s.setVm T'l.vm) m _ below meth c T'l _ _ _ := X'l
 refine goo (fun _ k => st'l.trans k) ?_
 show own_G _ _ _ _ (T'l.setTop (mkF m 27 #[rv x0, iv i_3] [.ref b'0]))
 exact own_endW X'l Bd.notSynchronized hS hk'l (v := some (.ref b'0)) (fun h => by rw [Bd.returns] at h; cases h) (Q := Q_rm_va30_3 Z x0 ca ea kc ke w0 w1 w2 w3 w4 w5 cz fz h0 n0) (by show Q_rm_va30_3 Z x0 ca ea kc ke w0 w1 w2 w3 w4 w5 cz fz h0 n0 (some (.ref b'0)) T'l.heap _; exact ⟨b'0, rfl, N_l, KP_o, sz_1364, G_m, G_n, ⟨vb'l, kv'l, Fv'l, Vv'l⟩⟩) (fun fs hr => own_retA X'l hx Bd.returns rfl rfl (hb hby d19_27) hr) (by decide) (by decide)
def Q_rm_va30_2 (Z : State) (x0 : Addr) (ca ea : Addr) (kc ke : ClassId) (w0 w1 w2 w3 w4 w5 : Int32) (cz : Int32) (fz : Value) (h0 : Heap) (n0 : Nat) (v : Option Value) (h : Heap) (L : List Loc) : Prop := ∃ RET : Addr, v = some (.ref RET) ∧ Fr n0 L ∧ Keep h0 h [] ∧ h0.size ≤ RET ∧ Exa Z h RET s_0 ∧ Fld Z h RET s_0 "coder" "B" (.int i_0) ∧ ∃ b k, h0.size ≤ b ∧ Fld Z h RET s_0 "value" "[B" (.ref b) ∧ Arv Z h b k .byte i_2 [.int (own_by w1), .int (own_by w2)] (.int i_0)
theorem rm_va30_2 (l : Launch) (Z : State) (a0 : Array Value) (hw : own_HW a0 Z) (ws : List Jvm.Cond) (x0 : Addr) (ca ea : Addr) (kc ke : ClassId) (w0 w1 w2 w3 w4 w5 : Int32) (cz : Int32) (fz : Value) (h0 : Heap) (n0 : Nat) (Z0 : n0 ≤ h0.size) (p0_ : Exa Z h0 x0 s_3) (p1_ : Fld Z h0 x0 s_3 "chars" "[C" (.ref ca)) (p2_ : Fld Z h0 x0 s_3 "ends" "[I" (.ref ea)) (p3_ : Fld Z h0 x0 s_3 "size" "I" (.int i_4)) (p4_ : Arv Z h0 ca kc .char i_256 [.int w0, .int w1, .int w2, .int w3, .int w4, .int w5] (.int i_0)) (p5_ : Arv Z h0 ea ke .int i_32 [.int i_1, .int i_1, .int i_3, .int i_3] (.int i_0)) (p6_ : Sta Z h0 s_0 "COMPACT_STRINGS" "Z" (.int cz)) (p7_ : ¬ cz = i_0) (p8_ : Sta Z h0 s_1 "SIOOBE_FORMATTER" "Ljava/util/function/BiFunction;" fz) (p9_ : own_ok w1) (p10_ : own_ok w2) (hfz : fz.isRef = true) :
  MetFree l Y36 (head1 (Jvm.Cond.code Y36 prog_116_method_9_code 2 (some (.object s_0)) :: ws) (rr 4 2 6 68)) (fun a U => a = #[.ref x0, .int i_2] ∧ Z.Warmed39 U.vm ∧ U.heap = h0) (fun _ _ _ _ _ => True) (fun _ U o U' => ∃ v L, o = .returned v ∧ Q_rm_va30_2 Z x0 ca ea kc ke w0 w1 w2 w3 w4 w5 cz fz h0 n0 v U'.heap L ∧ FrameEnd U o U' L (rr 4 2 6 68).cells (rr 4 2 6 68).slots) := by
 refine MetFree.of_bodySF (plainFor_of_name own_pn5) hisR ?_
 intro p e s m args below meth c s₁ Bd hml0 hP hK
 obtain ⟨rfl, hZ, hh⟩ := hP
 have hx := Bd.exec
 have hby := Bd.bytes
 have hml : c.maxLocals = 2 := hml0
 have hown : s.vm.findClass s_3 = some m.cls := findClass_of_methodNamed Bd.named
 have hnm := (name_of_methodNamed Bd.named Bd.method).1
 have X0 : Stand p l e (rr 4 2 6 68) s m #[.ref x0, .int i_2] below meth c s₁ [] 0 0 := Stand.of_body Bd
 have e0 : s₁.heap = h0 := by rw [← hh, Bd.state]; rfl
 show own_G _ _ _ _ (s₁.setTop (entryFrame m #[.ref x0, .int i_2] 2))
 refine goo (fun _ k => castTop (ef_19_RI m x0 i_2) k) ?_
 have N0 := Fr.nil n0
 have KP0 := Keep.refl h0 []
 obtain ⟨T'0, h'0, X'0, e'0, E'0, A'0, D'0, -, st'0⟩ := newO X0 hx hZ hown (qw hw 105 rfl) (qw hw 11 rfl) (qw hw 3 rfl) e0 (g := (mkF m 0 #[rv x0, iv i_2] [])) rfl (hb hby d19_0) (by decide) (by decide)
 obtain ⟨b'0, g'0⟩ : ∃ z, z = h0.size := ⟨_, rfl⟩
 rw [← g'0] at A'0 D'0 st'0
 have ne_1 : ca ≠ b'0 := Nat.ne_of_lt (Nat.lt_of_lt_of_le p4_.lt (Nat.le_of_eq g'0.symm))
 have ge_2 : n0 ≤ b'0 := Nat.le_trans Z0 (Nat.le_of_eq g'0.symm)
 have sz_1404 : h0.size ≤ b'0 := Nat.le_trans KP0.1 (Nat.le_of_eq g'0.symm)
 have X_3 := p0_.ext E'0
 have F_4 := p1_.ext E'0
 have F_5 := p2_.ext E'0
 have F_6 := p3_.ext E'0
 have V_7 := p4_.ext E'0
 have V_8 := p5_.ext E'0
 have S_9 := p6_.ext E'0
 have S_a := p8_.ext E'0
 have Z_b : n0 ≤ h'0.size := Nat.le_trans Z0 E'0.1
 have KP_c : Keep h0 h'0 [] := KP0.ext E'0
 have F_d : Fld Z h'0 b'0 s_0 "value" "[B" .null := D'0 (Or.inr (qw hw 24 rfl)) (ty := (.array .byte)) (by decide)
 have F_e : Fld Z h'0 b'0 s_0 "coder" "B" (.int i_0) := D'0 (Or.inr (qw hw 26 rfl)) (ty := .byte) (by decide)
 refine goo st'0 ?_
 refine goo (fun _ k => XS.dup X'0.here hx rfl (hb hby d19_3) rfl rfl <| XS.aloadN X'0.here hx rfl (hb hby d19_4) rfl rfl k) ?_
 obtain ⟨T'f, X'f, e'f, st'f⟩ := getF X'0 hx hZ hown (host := "") (Or.inl (qw hw 51 rfl)) Via.refl e'0 F_4 (g := (mkF m 5 #[rv x0, iv i_2] [.ref x0, .ref b'0, .ref b'0])) rfl rfl (hb hby d19_5)
 refine goo st'f ?_
 refine goo (fun _ k => XS.aloadN X'f.here hx rfl (hb hby d19_8) rfl rfl k) ?_
 show own_G _ _ _ _ (T'f.setTop (mkF m 9 #[rv x0, iv i_2] [.ref x0, .ref ca, .ref b'0, .ref b'0]))
 refine goo (fun _ k => XS.iloadN X'f.here hx rfl (hb hby d19_9) rfl k) ?_
 obtain ⟨T'g, X'g, e'g, st'g⟩ := own_callV X'f hx hZ (y := Y34) hown (qw hw 95 rfl) (qw hw 96 rfl) (qw hw 98 rfl) (qw hw 97 rfl) (qw hw 46 rfl) (qw hw 99 rfl) (by decide) (W := 3) (rm_st2 l Z a0 hw [] x0 i_4 ea ke i_1 i_1 i_3 i_3 h'0 X_3 F_6 F_5 V_8 (by decide)) (by decide) (by decide) rfl rfl e'f X_3 (g := (mkF m 10 #[rv x0, iv i_2] [.int i_2, .ref x0, .ref ca, .ref b'0, .ref b'0])) rfl (by rw [hml]; rfl) (argsL := [.int i_2]) (rest := [.ref ca, .ref b'0, .ref b'0]) (lenOf own_pd21 rfl) rfl rfl (Nat.le_of_eq rfl) (hb hby d19_10) (by decide) (by decide)
 refine goo st'g ?_
 refine goo (fun _ k => XS.aloadN X'g.here hx rfl (hb hby d19_13) rfl rfl <| XS.iloadN X'g.here hx rfl (hb hby d19_14) rfl k) ?_
 obtain ⟨T'h, X'h, e'h, st'h⟩ := own_callV X'g hx hZ (y := Y33) hown (qw hw 90 rfl) (qw hw 91 rfl) (qw hw 93 rfl) (qw hw 92 rfl) (qw hw 46 rfl) (qw hw 94 rfl) (by decide) (W := 4) (rm_en2 l Z a0 hw [] x0 i_4 ea ke i_1 i_1 i_3 i_3 h'0 X_3 F_6 F_5 V_8 (by decide)) (by decide) (by decide) rfl rfl e'g X_3 (g := (mkF m 15 #[rv x0, iv i_2] [.int i_2, .ref x0, .int i_1, .ref ca, .ref b'0, .ref b'0])) rfl (by rw [hml]; rfl) (argsL := [.int i_2]) (rest := [.int i_1, .ref ca, .ref b'0, .ref b'0]) (lenOf own_pd21 rfl) rfl rfl (Nat.le_of_eq rfl) (hb hby d19_15) (by decide) (by decide)
 refine goo st'h ?_
 refine goo (fun _ k => XS.aloadN X'h.here hx rfl (hb hby d19_18) rfl rfl k) ?_
 show own_G _ _ _ _ (T'h.setTop (mkF m 19 #[rv x0, iv i_2] [.ref x0, .int i_3, .int i_1, .ref ca, .ref b'0, .ref b'0]))
 refine goo (fun _ k => XS.iloadN X'h.here hx rfl (hb hby d19_19) rfl k) ?_
 obtain ⟨T'i, X'i, e'i, st'i⟩ := own_callV X'h hx hZ (y := Y34) hown (qw hw 95 rfl) (qw hw 96 rfl) (qw hw 98 rfl) (qw hw 97 rfl) (qw hw 46 rfl) (qw hw 99 rfl) (by decide) (W := 5) (rm_st2 l Z a0 hw [] x0 i_4 ea ke i_1 i_1 i_3 i_3 h'0 X_3 F_6 F_5 V_8 (by decide)) (by decide) (by decide) rfl rfl e'h X_3 (g := (mkF m 20 #[rv x0, iv i_2] [.int i_2, .ref x0, .int i_3, .int i_1, .ref ca, .ref b'0, .ref b'0])) rfl (by rw [hml]; rfl) (argsL := [.int i_2]) (rest := [.int i_3, .int i_1, .ref ca, .ref b'0, .ref b'0]) (lenOf own_pd21 rfl) rfl rfl (Nat.le_of_eq rfl) (hb hby d19_20) (by decide) (by decide)
 refine goo st'i ?_
 refine goo (fun _ k => XS.isub X'i.here hx rfl (hb hby d19_23) rfl k) ?_
 obtain ⟨_, _, ⟨T'j, L'j, k'j, n'j⟩, -, X'j, ⟨Lc'j, hQ'j, l'j, y'j, z'j⟩, st'j⟩ := X'i.specialBack hx (y := Y22) rfl hown (mvT hZ (qw hw 106 rfl)) (mvT hZ (qw hw 107 rfl)) (mvT hZ (qw hw 108 rfl)) (by decide) (backOf (W := 1) (rm_sc12 l Z a0 hw [] b'0 ca cz fz kc w0 w1 w2 w3 w4 w5 h'0 n0 Z_b A'0 ge_2 F_d F_e V_7 S_9 p7_ S_a (Ne.symm ne_1) p9_ p10_ hfz) hZ (qw hw 108 rfl) (qw hw 3 rfl) (by decide) (by decide)) (g := (mkF m 24 #[rv x0, iv i_2] [.int i_2, .int i_1, .ref ca, .ref b'0, .ref b'0])) rfl (by rw [hml]; rfl) (Steps.refl _) (a := b'0) (argsL := [.ref ca, .int i_1, .int i_2]) (rest := [.ref b'0]) (lenOf own_pd22 rfl) rfl (Nat.le_of_eq rfl) (hb hby d19_24) (fun _ _ => ⟨rfl, e'i, (by decide : 1 + 1 ≤ _), (by decide : 4 + 2 ≤ _)⟩)
 dsimp only [Pt.U, Pt.locs, Pt.cells, Pt.slots] at X'j l'j y'j z'j st'j hQ'j
 subst l'j y'j z'j
 obtain ⟨rfl, Nq'j, K'j, G_k, G_l, qx'j⟩ := hQ'j
 obtain ⟨vb'j, kv'j, gv'j, Fv'j, Vv'j⟩ := qx'j
 have sz_1429 : h0.size ≤ vb'j := Nat.le_trans KP_c.1 gv'j
 have KP_m : Keep h0 T'j.heap [] := KP_c.trans K'j (allS (Or.inr sz_1404) all0)
 have N_j := Fr.app N0 Nq'j
 refine goo (fun _ k => st'j.trans k) ?_
 show own_G _ _ _ _ (T'j.setTop (mkF m 27 #[rv x0, iv i_2] [.ref b'0]))
 exact own_end X'j Bd.notSynchronized (v := some (.ref b'0)) (fun h => by rw [Bd.returns] at h; cases h) (Q := Q_rm_va30_2 Z x0 ca ea kc ke w0 w1 w2 w3 w4 w5 cz fz h0 n0) (by show Q_rm_va30_2 Z x0 ca ea kc ke w0 w1 w2 w3 w4 w5 cz fz h0 n0 (some (.ref b'0)) T'j.heap _; exact ⟨b'0, rfl, N_j, KP_m, sz_1404, G_k, G_l, ⟨vb'j, kv'j, sz_1429, Fv'j, Vv'j⟩⟩) (fun fs hr => own_retA X'j hx Bd.returns rfl rfl (hb hby d19_27) hr) (by decide) (by decide)
theorem rm_ln31 (l : Launch) (Z : State) (a0 : Array Value) (hw : own_HW a0 Z) (ws : List Jvm.Cond) (x0 : Addr)  (ea : Addr) (ke : ClassId) (h0 : Heap) (Xr : Exa Z h0 x0 s_3) (Fs : Fld Z h0 x0 s_3 "size" "I" (.int i_4)) (Fe : Fld Z h0 x0 s_3 "ends" "[I" (.ref ea)) (Ve : Arv Z h0 ea ke .int i_32 [.int i_1, .int i_1, .int i_3, .int i_4] (.int i_0)) :
  MetFree l Y35 (head1 (Jvm.Cond.code Y35 prog_116_method_10_code 2 (some .int) :: ws) (rr 2 0 0 27)) (fun a U => a = #[.ref x0, .int i_3] ∧ Z.Warmed39 U.vm ∧ U.heap = h0) (fun _ _ _ _ _ => True) (fun _ U o U' => ∃ v L, o = .returned v ∧ QP (some (.int i_1)) h0 v U'.heap L ∧ FrameEnd U o U' L (rr 2 0 0 27).cells (rr 2 0 0 27).slots) := by
 refine MetFree.of_bodySF (plainFor_of_name own_pn5) hisR ?_
 intro p e s m args below meth c s₁ Bd hml0 hP hK
 obtain ⟨rfl, hZ, hh⟩ := hP
 have hx := Bd.exec
 have hby := Bd.bytes
 have hml : c.maxLocals = 2 := hml0
 have hown : s.vm.findClass s_3 = some m.cls := findClass_of_methodNamed Bd.named
 have hnm := (name_of_methodNamed Bd.named Bd.method).1
 have X0 : Stand p l e (rr 2 0 0 27) s m #[.ref x0, .int i_3] below meth c s₁ [] 0 0 := Stand.of_body Bd
 have e0 : s₁.heap = h0 := by rw [← hh, Bd.state]; rfl
 show own_G _ _ _ _ (s₁.setTop (entryFrame m #[.ref x0, .int i_3] 2))
 refine goo (fun _ k => castTop (ef_16_RI m x0 i_3) k) ?_
 refine goo (fun _ k => XS.aloadN X0.here hx rfl (hb hby d16_0) rfl rfl <| XS.iloadN X0.here hx rfl (hb hby d16_1) rfl k) ?_
 obtain ⟨T'0, X'0, e'0, st'0⟩ := own_callV X0 hx hZ (y := Y33) hown (qw hw 90 rfl) (qw hw 91 rfl) (qw hw 93 rfl) (qw hw 92 rfl) (qw hw 46 rfl) (qw hw 94 rfl) (by decide) (W := 0) (rm_en3 l Z a0 hw [] x0 i_4 ea ke i_1 i_1 i_3 i_4 h0 Xr Fs Fe Ve (by decide)) (by decide) (by decide) rfl rfl e0 Xr (g := (mkF m 2 #[rv x0, iv i_3] [.int i_3, .ref x0])) rfl (by rw [hml]; rfl) (argsL := [.int i_3]) (rest := []) (lenOf own_pd21 rfl) rfl rfl (Nat.le_of_eq rfl) (hb hby d16_2) (by decide) (by decide)
 refine goo st'0 ?_
 refine goo (fun _ k => XS.aloadN X'0.here hx rfl (hb hby d16_5) rfl rfl <| XS.iloadN X'0.here hx rfl (hb hby d16_6) rfl k) ?_
 show own_G _ _ _ _ (T'0.setTop (mkF m 7 #[rv x0, iv i_3] [.int i_3, .ref x0, .int i_4]))
 obtain ⟨T'1, X'1, e'1, st'1⟩ := own_callV X'0 hx hZ (y := Y34) hown (qw hw 95 rfl) (qw hw 96 rfl) (qw hw 98 rfl) (qw hw 97 rfl) (qw hw 46 rfl) (qw hw 99 rfl) (by decide) (W := 1) (rm_st3 l Z a0 hw [] x0 i_4 ea ke i_1 i_1 i_3 i_4 h0 Xr Fs Fe Ve (by decide)) (by decide) (by decide) rfl rfl e'0 Xr (g := (mkF m 7 #[rv x0, iv i_3] [.int i_3, .ref x0, .int i_4])) rfl (by rw [hml]; rfl) (argsL := [.int i_3]) (rest := [.int i_4]) (lenOf own_pd21 rfl) rfl rfl (Nat.le_of_eq rfl) (hb hby d16_7) (by decide) (by decide)
 refine goo st'1 ?_
 refine goo (fun _ k => XS.isub X'1.here hx rfl (hb hby d16_10) rfl k) ?_
 show own_G _ _ _ _ (T'1.setTop (mkF m 11 #[rv x0, iv i_3] [.int i_1]))
 exact own_end X'1 Bd.notSynchronized (v := some (.int i_1)) (fun h => by rw [Bd.returns] at h; cases h) (Q := QP (some (.int i_1)) h0) ⟨rfl, rfl, e'1⟩ (fun fs hr => retI X'1 hx Bd.returns (hb hby d16_11) hr) (by decide) (by decide)
def Q_rm_va31_3 (Z : State) (x0 : Addr) (ca ea : Addr) (kc ke : ClassId) (w0 w1 w2 w3 w4 w5 : Int32) (cz : Int32) (fz : Value) (h0 : Heap) (n0 : Nat) (v : Option Value) (h : Heap) (L : List Loc) : Prop := ∃ RET : Addr, v = some (.ref RET) ∧ Fr n0 L ∧ Keep h0 h [] ∧ h0.size ≤ RET ∧ Exa Z h RET s_0 ∧ Fld Z h RET s_0 "coder" "B" (.int i_0) ∧ ∃ b k, h0.size ≤ b ∧ Fld Z h RET s_0 "value" "[B" (.ref b) ∧ Arv Z h b k .byte i_1 [.int (own_by w3)] (.int i_0)
theorem rm_va31_3 (l : Launch) (Z : State) (a0 : Array Value) (hw : own_HW a0 Z) (ws : List Jvm.Cond) (x0 : Addr) (ca ea : Addr) (kc ke : ClassId) (w0 w1 w2 w3 w4 w5 : Int32) (cz : Int32) (fz : Value) (h0 : Heap) (n0 : Nat) (Z0 : n0 ≤ h0.size) (p0_ : Exa Z h0 x0 s_3) (p1_ : Fld Z h0 x0 s_3 "chars" "[C" (.ref ca)) (p2_ : Fld Z h0 x0 s_3 "ends" "[I" (.ref ea)) (p3_ : Fld Z h0 x0 s_3 "size" "I" (.int i_4)) (p4_ : Arv Z h0 ca kc .char i_256 [.int w0, .int w1, .int w2, .int w3, .int w4, .int w5] (.int i_0)) (p5_ : Arv Z h0 ea ke .int i_32 [.int i_1, .int i_1, .int i_3, .int i_4] (.int i_0)) (p6_ : Sta Z h0 s_0 "COMPACT_STRINGS" "Z" (.int cz)) (p7_ : ¬ cz = i_0) (p8_ : Sta Z h0 s_1 "SIOOBE_FORMATTER" "Ljava/util/function/BiFunction;" fz) (p9_ : own_ok w3) (hfz : fz.isRef = true) :
  MetFree l Y36 (head1 (Jvm.Cond.code Y36 prog_116_method_9_code 2 (some (.object s_0)) :: ws) (rr 4 2 5 68)) (fun a U => a = #[.ref x0, .int i_3] ∧ Z.Warmed39 U.vm ∧ U.heap = h0) (fun _ _ _ _ _ => True) (fun _ U o U' => ∃ v L, o = .returned v ∧ Q_rm_va31_3 Z x0 ca ea kc ke w0 w1 w2 w3 w4 w5 cz fz h0 n0 v U'.heap L ∧ FrameEnd U o U' L (rr 4 2 5 68).cells (rr 4 2 5 68).slots) := by
 refine MetFree.of_bodySF (plainFor_of_name own_pn5) hisR ?_
 intro p e s m args below meth c s₁ Bd hml0 hP hK
 obtain ⟨rfl, hZ, hh⟩ := hP
 have hx := Bd.exec
 have hby := Bd.bytes
 have hml : c.maxLocals = 2 := hml0
 have hown : s.vm.findClass s_3 = some m.cls := findClass_of_methodNamed Bd.named
 have hnm := (name_of_methodNamed Bd.named Bd.method).1
 have X0 : Stand p l e (rr 4 2 5 68) s m #[.ref x0, .int i_3] below meth c s₁ [] 0 0 := Stand.of_body Bd
 have e0 : s₁.heap = h0 := by rw [← hh, Bd.state]; rfl
 show own_G _ _ _ _ (s₁.setTop (entryFrame m #[.ref x0, .int i_3] 2))
 refine goo (fun _ k => castTop (ef_19_RI m x0 i_3) k) ?_
 have N0 := Fr.nil n0
 have KP0 := Keep.refl h0 []
 obtain ⟨T'0, h'0, X'0, e'0, E'0, A'0, D'0, -, st'0⟩ := newO X0 hx hZ hown (qw hw 105 rfl) (qw hw 11 rfl) (qw hw 3 rfl) e0 (g := (mkF m 0 #[rv x0, iv i_3] [])) rfl (hb hby d19_0) (by decide) (by decide)
 obtain ⟨b'0, g'0⟩ : ∃ z, z = h0.size := ⟨_, rfl⟩
 rw [← g'0] at A'0 D'0 st'0
 have ne_1 : ca ≠ b'0 := Nat.ne_of_lt (Nat.lt_of_lt_of_le p4_.lt (Nat.le_of_eq g'0.symm))
 have ge_2 : n0 ≤ b'0 := Nat.le_trans Z0 (Nat.le_of_eq g'0.symm)
 have sz_1448 : h0.size ≤ b'0 := Nat.le_trans KP0.1 (Nat.le_of_eq g'0.symm)
 have X_3 := p0_.ext E'0
 have F_4 := p1_.ext E'0
 have F_5 := p2_.ext E'0
 have F_6 := p3_.ext E'0
 have V_7 := p4_.ext E'0
 have V_8 := p5_.ext E'0
 have S_9 := p6_.ext E'0
 have S_a := p8_.ext E'0
 have Z_b : n0 ≤ h'0.size := Nat.le_trans Z0 E'0.1
 have KP_c : Keep h0 h'0 [] := KP0.ext E'0
 have F_d : Fld Z h'0 b'0 s_0 "value" "[B" .null := D'0 (Or.inr (qw hw 24 rfl)) (ty := (.array .byte)) (by decide)
 have F_e : Fld Z h'0 b'0 s_0 "coder" "B" (.int i_0) := D'0 (Or.inr (qw hw 26 rfl)) (ty := .byte) (by decide)
 refine goo st'0 ?_
 refine goo (fun _ k => XS.dup X'0.here hx rfl (hb hby d19_3) rfl rfl <| XS.aloadN X'0.here hx rfl (hb hby d19_4) rfl rfl k) ?_
 obtain ⟨T'f, X'f, e'f, st'f⟩ := getF X'0 hx hZ hown (host := "") (Or.inl (qw hw 51 rfl)) Via.refl e'0 F_4 (g := (mkF m 5 #[rv x0, iv i_3] [.ref x0, .ref b'0, .ref b'0])) rfl rfl (hb hby d19_5)
 refine goo st'f ?_
 refine goo (fun _ k => XS.aloadN X'f.here hx rfl (hb hby d19_8) rfl rfl k) ?_
 show own_G _ _ _ _ (T'f.setTop (mkF m 9 #[rv x0, iv i_3] [.ref x0, .ref ca, .ref b'0, .ref b'0]))
 refine goo (fun _ k => XS.iloadN X'f.here hx rfl (hb hby d19_9) rfl k) ?_
 obtain ⟨T'g, X'g, e'g, st'g⟩ := own_callV X'f hx hZ (y := Y34) hown (qw hw 95 rfl) (qw hw 96 rfl) (qw hw 98 rfl) (qw hw 97 rfl) (qw hw 46 rfl) (qw hw 99 rfl) (by decide) (W := 3) (rm_st3 l Z a0 hw [] x0 i_4 ea ke i_1 i_1 i_3 i_4 h'0 X_3 F_6 F_5 V_8 (by decide)) (by decide) (by decide) rfl rfl e'f X_3 (g := (mkF m 10 #[rv x0, iv i_3] [.int i_3, .ref x0, .ref ca, .ref b'0, .ref b'0])) rfl (by rw [hml]; rfl) (argsL := [.int i_3]) (rest := [.ref ca, .ref b'0, .ref b'0]) (lenOf own_pd21 rfl) rfl rfl (Nat.le_of_eq rfl) (hb hby d19_10) (by decide) (by decide)
 refine goo st'g ?_
 refine goo (fun _ k => XS.aloadN X'g.here hx rfl (hb hby d19_13) rfl rfl <| XS.iloadN X'g.here hx rfl (hb hby d19_14) rfl k) ?_
 obtain ⟨T'h, X'h, e'h, st'h⟩ := own_callV X'g hx hZ (y := Y33) hown (qw hw 90 rfl) (qw hw 91 rfl) (qw hw 93 rfl) (qw hw 92 rfl) (qw hw 46 rfl) (qw hw 94 rfl) (by decide) (W := 4) (rm_en3 l Z a0 hw [] x0 i_4 ea ke i_1 i_1 i_3 i_4 h'0 X_3 F_6 F_5 V_8 (by decide)) (by decide) (by decide) rfl rfl e'g X_3 (g := (mkF m 15 #[rv x0, iv i_3] [.int i_3, .ref x0, .int i_3, .ref ca, .ref b'0, .ref b'0])) rfl (by rw [hml]; rfl) (argsL := [.int i_3]) (rest := [.int i_3, .ref ca, .ref b'0, .ref b'0]) (lenOf own_pd21 rfl) rfl rfl (Nat.le_of_eq rfl) (hb hby d19_15) (by decide) (by decide)
 refine goo st'h ?_
 refine goo (fun _ k => XS.aloadN X'h.here hx rfl (hb hby d19_18) rfl rfl k) ?_
 show own_G _ _ _ _ (T'h.setTop (mkF m 19 #[rv x0, iv i_3] [.ref x0, .int i_4, .int i_3, .ref ca, .ref b'0, .ref b'0]))
 refine goo (fun _ k => XS.iloadN X'h.here hx rfl (hb hby d19_19) rfl k) ?_
 obtain ⟨T'i, X'i, e'i, st'i⟩ := own_callV X'h hx hZ (y := Y34) hown (qw hw 95 rfl) (qw hw 96 rfl) (qw hw 98 rfl) (qw hw 97 rfl) (qw hw 46 rfl) (qw hw 99 rfl) (by decide) (W := 5) (rm_st3 l Z a0 hw [] x0 i_4 ea ke i_1 i_1 i_3 i_4 h'0 X_3 F_6 F_5 V_8 (by decide)) (by decide) (by decide) rfl rfl e'h X_3 (g := (mkF m 20 #[rv x0, iv i_3] [.int i_3, .ref x0, .int i_4, .int i_3, .ref ca, .ref b'0, .ref b'0])) rfl (by rw [hml]; rfl) (argsL := [.int i_3]) (rest := [.int i_4, .int i_3, .ref ca, .ref b'0, .ref b'0]) (lenOf own_pd21 rfl) rfl rfl (Nat.le_of_eq rfl) (hb hby d19_20) (by decide) (by decide)
 refine goo st'i ?_
 refine goo (fun _ k => XS.isub X'i.here hx rfl (hb hby d19_23) rfl k) ?_
 obtain ⟨_, _, ⟨T'j, L'j, k'j, n'j⟩, -, X'j, ⟨Lc'j, hQ'j, l'j, y'j, z'j⟩, st'j⟩ := X'i.specialBack hx (y := Y22) rfl hown (mvT hZ (qw hw 106 rfl)) (mvT hZ (qw hw 107 rfl)) (mvT hZ (qw hw 108 rfl)) (by decide) (backOf (W := 1) (rm_sc31 l Z a0 hw [] b'0 ca cz fz kc w0 w1 w2 w3 w4 w5 h'0 n0 Z_b A'0 ge_2 F_d F_e V_7 S_9 p7_ S_a (Ne.symm ne_1) p9_ hfz) hZ (qw hw 108 rfl) (qw hw 3 rfl) (by decide) (by decide)) (g := (mkF m 24 #[rv x0, iv i_3] [.int i_1, .int i_3, .ref ca, .ref b'0, .ref b'0])) rfl (by rw [hml]; rfl) (Steps.refl _) (a := b'0) (argsL := [.ref ca, .int i_3, .int i_1]) (rest := [.ref b'0]) (lenOf own_pd22 rfl) rfl (Nat.le_of_eq rfl) (hb hby d19_24) (fun _ _ => ⟨rfl, e'i, (by decide : 1 + 1 ≤ _), (by decide : 4 + 1 ≤ _)⟩)
 dsimp only [Pt.U, Pt.locs, Pt.cells, Pt.slots] at X'j l'j y'j z'j st'j hQ'j
 subst l'j y'j z'j
 obtain ⟨rfl, Nq'j, K'j, G_k, G_l, qx'j⟩ := hQ'j
 obtain ⟨vb'j, kv'j, gv'j, Fv'j, Vv'j⟩ := qx'j
 have sz_1473 : h0.size ≤ vb'j := Nat.le_trans KP_c.1 gv'j
 have KP_m : Keep h0 T'j.heap [] := KP_c.trans K'j (allS (Or.inr sz_1448) all0)
 have N_j := Fr.app N0 Nq'j
 refine goo (fun _ k => st'j.trans k) ?_
 show own_G _ _ _ _ (T'j.setTop (mkF m 27 #[rv x0, iv i_3] [.ref b'0]))
 exact own_end X'j Bd.notSynchronized (v := some (.ref b'0)) (fun h => by rw [Bd.returns] at h; cases h) (Q := Q_rm_va31_3 Z x0 ca ea kc ke w0 w1 w2 w3 w4 w5 cz fz h0 n0) (by show Q_rm_va31_3 Z x0 ca ea kc ke w0 w1 w2 w3 w4 w5 cz fz h0 n0 (some (.ref b'0)) T'j.heap _; exact ⟨b'0, rfl, N_j, KP_m, sz_1448, G_k, G_l, ⟨vb'j, kv'j, sz_1473, Fv'j, Vv'j⟩⟩) (fun fs hr => own_retA X'j hx Bd.returns rfl rfl (hb hby d19_27) hr) (by decide) (by decide)
def Q_rm_va31_2 (Z : State) (x0 : Addr) (ca ea : Addr) (kc ke : ClassId) (w0 w1 w2 w3 w4 w5 : Int32) (cz : Int32) (fz : Value) (h0 : Heap) (n0 : Nat) (v : Option Value) (h : Heap) (L : List Loc) : Prop := ∃ RET : Addr, v = some (.ref RET) ∧ Fr n0 L ∧ Keep h0 h [] ∧ h0.size ≤ RET ∧ Exa Z h RET s_0 ∧ Fld Z h RET s_0 "coder" "B" (.int i_0) ∧ ∃ b k, h0.size ≤ b ∧ Fld Z h RET s_0 "value" "[B" (.ref b) ∧ Arv Z h b k .byte i_2 [.int (own_by w1), .int (own_by w2)] (.int i_0)
theorem rm_va31_2 (l : Launch) (Z : State) (a0 : Array Value) (hw : own_HW a0 Z) (ws : List Jvm.Cond) (x0 : Addr) (ca ea : Addr) (kc ke : ClassId) (w0 w1 w2 w3 w4 w5 : Int32) (cz : Int32) (fz : Value) (h0 : Heap) (n0 : Nat) (Z0 : n0 ≤ h0.size) (p0_ : Exa Z h0 x0 s_3) (p1_ : Fld Z h0 x0 s_3 "chars" "[C" (.ref ca)) (p2_ : Fld Z h0 x0 s_3 "ends" "[I" (.ref ea)) (p3_ : Fld Z h0 x0 s_3 "size" "I" (.int i_4)) (p4_ : Arv Z h0 ca kc .char i_256 [.int w0, .int w1, .int w2, .int w3, .int w4, .int w5] (.int i_0)) (p5_ : Arv Z h0 ea ke .int i_32 [.int i_1, .int i_1, .int i_3, .int i_4] (.int i_0)) (p6_ : Sta Z h0 s_0 "COMPACT_STRINGS" "Z" (.int cz)) (p7_ : ¬ cz = i_0) (p8_ : Sta Z h0 s_1 "SIOOBE_FORMATTER" "Ljava/util/function/BiFunction;" fz) (p9_ : own_ok w1) (p10_ : own_ok w2) (hfz : fz.isRef = true) :
  MetFree l Y36 (head1 (Jvm.Cond.code Y36 prog_116_method_9_code 2 (some (.object s_0)) :: ws) (rr 4 2 6 68)) (fun a U => a = #[.ref x0, .int i_2] ∧ Z.Warmed39 U.vm ∧ U.heap = h0) (fun _ _ _ _ _ => True) (fun _ U o U' => ∃ v L, o = .returned v ∧ Q_rm_va31_2 Z x0 ca ea kc ke w0 w1 w2 w3 w4 w5 cz fz h0 n0 v U'.heap L ∧ FrameEnd U o U' L (rr 4 2 6 68).cells (rr 4 2 6 68).slots) := by
 refine MetFree.of_bodySF (plainFor_of_name own_pn5) hisR ?_
 intro p e s m args below meth c s₁ Bd hml0 hP hK
 obtain ⟨rfl, hZ, hh⟩ := hP
 have hx := Bd.exec
 have hby := Bd.bytes
 have hml : c.maxLocals = 2 := hml0
 have hown : s.vm.findClass s_3 = some m.cls := findClass_of_methodNamed Bd.named
 have hnm := (name_of_methodNamed Bd.named Bd.method).1
 have X0 : Stand p l e (rr 4 2 6 68) s m #[.ref x0, .int i_2] below meth c s₁ [] 0 0 := Stand.of_body Bd
 have e0 : s₁.heap = h0 := by rw [← hh, Bd.state]; rfl
 show own_G _ _ _ _ (s₁.setTop (entryFrame m #[.ref x0, .int i_2] 2))
 refine goo (fun _ k => castTop (ef_19_RI m x0 i_2) k) ?_
 have N0 := Fr.nil n0
 have KP0 := Keep.refl h0 []
 obtain ⟨T'0, h'0, X'0, e'0, E'0, A'0, D'0, -, st'0⟩ := newO X0 hx hZ hown (qw hw 105 rfl) (qw hw 11 rfl) (qw hw 3 rfl) e0 (g := (mkF m 0 #[rv x0, iv i_2] [])) rfl (hb hby d19_0) (by decide) (by decide)
 obtain ⟨b'0, g'0⟩ : ∃ z, z = h0.size := ⟨_, rfl⟩
 rw [← g'0] at A'0 D'0 st'0
 have ne_1 : ca ≠ b'0 := Nat.ne_of_lt (Nat.lt_of_lt_of_le p4_.lt (Nat.le_of_eq g'0.symm))
 have ge_2 : n0 ≤ b'0 := Nat.le_trans Z0 (Nat.le_of_eq g'0.symm)
 have sz_1490 : h0.size ≤ b'0 := Nat.le_trans KP0.1 (Nat.le_of_eq g'0.symm)
 have X_3 := p0_.ext E'0
 have F_4 := p1_.ext E'0
 have F_5 := p2_.ext E'0
 have F_6 := p3_.ext E'0
 have V_7 := p4_.ext E'0
 have V_8 := p5_.ext E'0
 have S_9 := p6_.ext E'0
 have S_a := p8_.ext E'0
 have Z_b : n0 ≤ h'0.size := Nat.le_trans Z0 E'0.1
 have KP_c : Keep h0 h'0 [] := KP0.ext E'0
 have F_d : Fld Z h'0 b'0 s_0 "value" "[B" .null := D'0 (Or.inr (qw hw 24 rfl)) (ty := (.array .byte)) (by decide)
 have F_e : Fld Z h'0 b'0 s_0 "coder" "B" (.int i_0) := D'0 (Or.inr (qw hw 26 rfl)) (ty := .byte) (by decide)
 refine goo st'0 ?_
 refine goo (fun _ k => XS.dup X'0.here hx rfl (hb hby d19_3) rfl rfl <| XS.aloadN X'0.here hx rfl (hb hby d19_4) rfl rfl k) ?_
 obtain ⟨T'f, X'f, e'f, st'f⟩ := getF X'0 hx hZ hown (host := "") (Or.inl (qw hw 51 rfl)) Via.refl e'0 F_4 (g := (mkF m 5 #[rv x0, iv i_2] [.ref x0, .ref b'0, .ref b'0])) rfl rfl (hb hby d19_5)
 refine goo st'f ?_
 refine goo (fun _ k => XS.aloadN X'f.here hx rfl (hb hby d19_8) rfl rfl k) ?_
 show own_G _ _ _ _ (T'f.setTop (mkF m 9 #[rv x0, iv i_2] [.ref x0, .ref ca, .ref b'0, .ref b'0]))
 refine goo (fun _ k => XS.iloadN X'f.here hx rfl (hb hby d19_9) rfl k) ?_
 obtain ⟨T'g, X'g, e'g, st'g⟩ := own_callV X'f hx hZ (y := Y34) hown (qw hw 95 rfl) (qw hw 96 rfl) (qw hw 98 rfl) (qw hw 97 rfl) (qw hw 46 rfl) (qw hw 99 rfl) (by decide) (W := 3) (rm_st2 l Z a0 hw [] x0 i_4 ea ke i_1 i_1 i_3 i_4 h'0 X_3 F_6 F_5 V_8 (by decide)) (by decide) (by decide) rfl rfl e'f X_3 (g := (mkF m 10 #[rv x0, iv i_2] [.int i_2, .ref x0, .ref ca, .ref b'0, .ref b'0])) rfl (by rw [hml]; rfl) (argsL := [.int i_2]) (rest := [.ref ca, .ref b'0, .ref b'0]) (lenOf own_pd21 rfl) rfl rfl (Nat.le_of_eq rfl) (hb hby d19_10) (by decide) (by decide)
 refine goo st'g ?_
 refine goo (fun _ k => XS.aloadN X'g.here hx rfl (hb hby d19_13) rfl rfl <| XS.iloadN X'g.here hx rfl (hb hby d19_14) rfl k) ?_
 obtain ⟨T'h, X'h, e'h, st'h⟩ := own_callV X'g hx hZ (y := Y33) hown (qw hw 90 rfl) (qw hw 91 rfl) (qw hw 93 rfl) (qw hw 92 rfl) (qw hw 46 rfl) (qw hw 94 rfl) (by decide) (W := 4) (rm_en2 l Z a0 hw [] x0 i_4 ea ke i_1 i_1 i_3 i_4 h'0 X_3 F_6 F_5 V_8 (by decide)) (by decide) (by decide) rfl rfl e'g X_3 (g := (mkF m 15 #[rv x0, iv i_2] [.int i_2, .ref x0, .int i_1, .ref ca, .ref b'0, .ref b'0])) rfl (by rw [hml]; rfl) (argsL := [.int i_2]) (rest := [.int i_1, .ref ca, .ref b'0, .ref b'0]) (lenOf own_pd21 rfl) rfl rfl (Nat.le_of_eq rfl) (hb hby d19_15) (by decide) (by decide)
 refine goo st'h ?_
 refine goo (fun _ k => XS.aloadN X'h.here hx rfl (hb hby d19_18) rfl rfl k) ?_
 show own_G _ _ _ _ (T'h.setTop (mkF m 19 #[rv x0, iv i_2] [.ref x0, .int i_3, .int i_1, .ref ca, .ref b'0, .ref b'0]))
 refine goo (fun _ k => XS.iloadN X'h.here hx rfl (hb hby d19_19) rfl k) ?_
 obtain ⟨T'i, X'i, e'i, st'i⟩ := own_callV X'h hx hZ (y := Y34) hown (qw hw 95 rfl) (qw hw 96 rfl) (qw hw 98 rfl) (qw hw 97 rfl) (qw hw 46 rfl) (qw hw 99 rfl) (by decide) (W := 5) (rm_st2 l Z a0 hw [] x0 i_4 ea ke i_1 i_1 i_3 i_4 h'0 X_3 F_6 F_5 V_8 (by decide)) (by decide) (by decide) rfl rfl e'h X_3 (g := (mkF m 20 #[rv x0, iv i_2] [.int i_2, .ref x0, .int i_3, .int i_1, .ref ca, .ref b'0, .ref b'0])) rfl (by rw [hml]; rfl) (argsL := [.int i_2]) (rest := [.int i_3, .int i_1, .ref ca, .ref b'0, .ref b'0]) (lenOf own_pd21 rfl) rfl rfl (Nat.le_of_eq rfl) (hb hby d19_20) (by decide) (by decide)
 refine goo st'i ?_
 refine goo (fun _ k => XS.isub X'i.here hx rfl (hb hby d19_23) rfl k) ?_
 obtain ⟨_, _, ⟨T'j, L'j, k'j, n'j⟩, -, X'j, ⟨Lc'j, hQ'j, l'j, y'j, z'j⟩, st'j⟩ := X'i.specialBack hx (y := Y22) rfl hown (mvT hZ (qw hw 106 rfl)) (mvT hZ (qw hw 107 rfl)) (mvT hZ (qw hw 108 rfl)) (by decide) (backOf (W := 1) (rm_sc12 l Z a0 hw [] b'0 ca cz fz kc w0 w1 w2 w3 w4 w5 h'0 n0 Z_b A'0 ge_2 F_d F_e V_7 S_9 p7_ S_a (Ne.symm ne_1) p9_ p10_ hfz) hZ (qw hw 108 rfl) (qw hw 3 rfl) (by decide) (by decide)) (g := (mkF m 24 #[rv x0, iv i_2] [.int i_2, .int i_1, .ref ca, .ref b'0, .ref b'0])) rfl (by rw [hml]; rfl) (Steps.refl _) (a := b'0) (argsL := [.ref ca, .int i_1, .int i_2]) (rest := [.ref b'0]) (lenOf own_pd22 rfl) rfl (Nat.le_of_eq rfl) (hb hby d19_24) (fun _ _ => ⟨rfl, e'i, (by decide : 1 + 1 ≤ _), (by decide : 4 + 2 ≤ _)⟩)
 dsimp only [Pt.U, Pt.locs, Pt.cells, Pt.slots] at X'j l'j y'j z'j st'j hQ'j
 subst l'j y'j z'j
 obtain ⟨rfl, Nq'j, K'j, G_k, G_l, qx'j⟩ := hQ'j
 obtain ⟨vb'j, kv'j, gv'j, Fv'j, Vv'j⟩ := qx'j
 have sz_1515 : h0.size ≤ vb'j := Nat.le_trans KP_c.1 gv'j
 have KP_m : Keep h0 T'j.heap [] := KP_c.trans K'j (allS (Or.inr sz_1490) all0)
 have N_j := Fr.app N0 Nq'j
 refine goo (fun _ k => st'j.trans k) ?_
 show own_G _ _ _ _ (T'j.setTop (mkF m 27 #[rv x0, iv i_2] [.ref b'0]))
 exact own_end X'j Bd.notSynchronized (v := some (.ref b'0)) (fun h => by rw [Bd.returns] at h; cases h) (Q := Q_rm_va31_2 Z x0 ca ea kc ke w0 w1 w2 w3 w4 w5 cz fz h0 n0) (by show Q_rm_va31_2 Z x0 ca ea kc ke w0 w1 w2 w3 w4 w5 cz fz h0 n0 (some (.ref b'0)) T'j.heap _; exact ⟨b'0, rfl, N_j, KP_m, sz_1490, G_k, G_l, ⟨vb'j, kv'j, sz_1515, Fv'j, Vv'j⟩⟩) (fun fs hr => own_retA X'j hx Bd.returns rfl rfl (hb hby d19_27) hr) (by decide) (by decide)
theorem own_pd23 : parseMethodDescriptor "(C)Ljava/lang/String;" = some ⟨[.char], some (.object "java/lang/String")⟩ := by decide +kernel
theorem own_pd24 : parseMethodDescriptor "([C)V" = some ⟨[(.array .char)], none⟩ := by decide +kernel
theorem own_pd25 : parseMethodDescriptor "(C)Lcom/example/davka/davka/csv/Row;" = some ⟨[.char], some (.object "com/example/davka/davka/csv/Row")⟩ := by decide +kernel
theorem own_pd26 : parseMethodDescriptor "(I)Ljava/lang/String;" = some ⟨[.int], some (.object "java/lang/String")⟩ := by decide +kernel
theorem own_pd27 : parseMethodDescriptor "(Ljava/lang/Object;)Z" = some ⟨[(.object "java/lang/Object")], some .boolean⟩ := by decide +kernel
theorem own_pd28 : parseMethodDescriptor "(Ljava/lang/CharSequence;)V" = some ⟨[(.object "java/lang/CharSequence")], none⟩ := by decide +kernel
theorem own_pn6 : plainName "com/example/davka/davka/csv/RowDiscardPinLaw" = true := by first | (simp [plainName, overriddenIn]; done) | decide +kernel
theorem ef_0_IIIII (m : MethodId) (x0 : Int32) (x1 : Int32) (x2 : Int32) (x3 : Int32) (x4 : Int32) : entryFrame m #[(.int x0), (.int x1), (.int x2), (.int x3), (.int x4)] maxLocals = mkF m 0 #[.val (.int x0), .val (.int x1), .val (.int x2), .val (.int x3), .val (.int x4), .unset, .unset, .unset, .unset, .unset, .unset, .unset, .unset, .unset, .unset, .unset, .unset, .unset, .unset] [] := by
  first | (simp [entryFrame, mkF, argsToLocals, Value.category, maxLocals]; done) | rfl
theorem rm0 (l : Launch) (Z : State) (a0 : Array Value) (hw : own_HW a0 Z) (ws : List Jvm.Cond) (x0 : Int32) (x1 : Int32) (x2 : Int32) (x3 : Int32) (x4 : Int32) (cz : Int32) (fz : Value) (el : Addr) (h0 : Heap) (n0 : Nat) (Z0 : n0 ≤ h0.size) (Sc : Sta Z h0 s_0 "COMPACT_STRINGS" "Z" (.int cz)) (hcz : ¬ cz = i_0) (Sf : Sta Z h0 s_1 "SIOOBE_FORMATTER" "Ljava/util/function/BiFunction;" fz) (hfz : fz.isRef = true) (Sl : Sta Z h0 "java/util/ImmutableCollections" "EMPTY_LIST" "Ljava/util/ImmutableCollections$ListN;" (.ref el)) (O0 : Old Z n0 h0) (held : Jvm.Lit.constHeld Z s_0 7) (hcw : Jvm.Lit.compactW.before a0 Z = true) :
  MetFree l x (head1 (Jvm.Cond.code x code maxLocals ret :: ws) room_1) (fun a U => a = #[.int x0, .int x1, .int x2, .int x3, .int x4] ∧ Z.Warmed39 U.vm ∧ U.heap = h0 ∧ IB Z U.vm []) (fun _ _ _ _ _ => True) (fun _ U o U' => ∃ v L, o = .returned v ∧ QL (some (.int i_1)) n0 v U'.heap L ∧ ReturnedEndW U o U' L 40 2304) := by
 refine MetFree.of_bodySF (plainFor_of_name own_pn6) hisR ?_
 intro p e s m args below meth c s₁ Bd hml0 hP hK
 obtain ⟨rfl, hZ, hh, hI⟩ := hP
 have hx := Bd.exec
 have hby := Bd.bytes
 have hml : c.maxLocals = 19 := hml0
 have hown : s.vm.findClass s_4 = some m.cls := findClass_of_methodNamed Bd.named
 have hnm := (name_of_methodNamed Bd.named Bd.method).1
 have X0 : Stand p l e room_1 s m #[.int x0, .int x1, .int x2, .int x3, .int x4] below meth c s₁ [] 0 0 := Stand.of_body Bd
 have e0 : s₁.heap = h0 := by rw [← hh, Bd.state]; rfl
 show own_G _ _ _ _ (s₁.setTop (entryFrame m #[.int x0, .int x1, .int x2, .int x3, .int x4] maxLocals))
 refine goo (fun _ k => castTop (ef_0_IIIII m x0 x1 x2 x3 x4) k) ?_
 have N0 := Fr.nil n0
 have hS : s.Since s.vm h0.size := (State.WarmedH.refl s).since _
 have hk : h0.size ≤ h0.size := Nat.le_refl _
 have own_sA : ∀ a ∈ Bundle.stringAtoms, a.before a0 Z = true := own_strA hw
 refine goo (fun _ k => XS.iloadN X0.here hx rfl (hb hby at_0) rfl <| XS.sipush X0.here hx rfl (hb hby at_1) <| XS.iand X0.here hx rfl (hb hby at_4) rfl <| XS.i2c X0.here hx rfl (hb hby at_5) rfl k) ?_
 refine goo (fun _ k => XS.istore X0.here hx rfl (hb hby at_6) rfl (l' := #[iv x0, iv x1, iv x2, iv x3, iv x4, iv (own_c x0), .unset, .unset, .unset, .unset, .unset, .unset, .unset, .unset, .unset, .unset, .unset, .unset, .unset]) rfl k) ?_
 show own_G _ _ _ _ (s₁.setTop (mkF m 8 #[iv x0, iv x1, iv x2, iv x3, iv x4, iv (own_c x0), .unset, .unset, .unset, .unset, .unset, .unset, .unset, .unset, .unset, .unset, .unset, .unset, .unset] []))
 refine goo (fun _ k => XS.iloadN X0.here hx rfl (hb hby at_8) rfl <| XS.sipush X0.here hx rfl (hb hby at_9) <| XS.iand X0.here hx rfl (hb hby at_12) rfl <| XS.i2c X0.here hx rfl (hb hby at_13) rfl k) ?_
 refine goo (fun _ k => XS.istore X0.here hx rfl (hb hby at_14) rfl (l' := #[iv x0, iv x1, iv x2, iv x3, iv x4, iv (own_c x0), iv (own_c x1), .unset, .unset, .unset, .unset, .unset, .unset, .unset, .unset, .unset, .unset, .unset, .unset]) rfl <| XS.iloadN X0.here hx rfl (hb hby at_16) rfl k) ?_
 show own_G _ _ _ _ (s₁.setTop (mkF m 17 #[iv x0, iv x1, iv x2, iv x3, iv x4, iv (own_c x0), iv (own_c x1), .unset, .unset, .unset, .unset, .unset, .unset, .unset, .unset, .unset, .unset, .unset, .unset] [.int x2]))
 refine goo (fun _ k => XS.sipush X0.here hx rfl (hb hby at_17) <| XS.iand X0.here hx rfl (hb hby at_20) rfl <| XS.i2c X0.here hx rfl (hb hby at_21) rfl <| XS.istore X0.here hx rfl (hb hby at_22) rfl (l' := #[iv x0, iv x1, iv x2, iv x3, iv x4, iv (own_c x0), iv (own_c x1), iv (own_c x2), .unset, .unset, .unset, .unset, .unset, .unset, .unset, .unset, .unset, .unset, .unset]) rfl k) ?_
 refine goo (fun _ k => XS.iloadN X0.here hx rfl (hb hby at_24) rfl <| XS.sipush X0.here hx rfl (hb hby at_25) k) ?_
 show own_G _ _ _ _ (s₁.setTop (mkF m 28 #[iv x0, iv x1, iv x2, iv x3, iv x4, iv (own_c x0), iv (own_c x1), iv (own_c x2), .unset, .unset, .unset, .unset, .unset, .unset, .unset, .unset, .unset, .unset, .unset] [.int i_255, .int x3]))
 refine goo (fun _ k => XS.iand X0.here hx rfl (hb hby at_28) rfl <| XS.i2c X0.here hx rfl (hb hby at_29) rfl <| XS.istore X0.here hx rfl (hb hby at_30) rfl (l' := #[iv x0, iv x1, iv x2, iv x3, iv x4, iv (own_c x0), iv (own_c x1), iv (own_c x2), iv (own_c x3), .unset, .unset, .unset, .unset, .unset, .unset, .unset, .unset, .unset, .unset]) rfl <| XS.iload X0.here hx rfl (hb hby at_32) rfl k) ?_
 refine goo (fun _ k => XS.iconst X0.here hx rfl (hb hby at_34) <| XS.iand X0.here hx rfl (hb hby at_35) rfl k) ?_
 show own_G _ _ _ _ (s₁.setTop (mkF m 36 #[iv x0, iv x1, iv x2, iv x3, iv x4, iv (own_c x0), iv (own_c x1), iv (own_c x2), iv (own_c x3), .unset, .unset, .unset, .unset, .unset, .unset, .unset, .unset, .unset, .unset] [(.int (x4 &&& i_3))]))
 refine goo (fun _ k => XS.istore X0.here hx rfl (hb hby at_36) rfl (l' := #[iv x0, iv x1, iv x2, iv x3, iv x4, iv (own_c x0), iv (own_c x1), iv (own_c x2), iv (own_c x3), iv (own_pre x4), .unset, .unset, .unset, .unset, .unset, .unset, .unset, .unset, .unset]) rfl <| XS.iload X0.here hx rfl (hb hby at_38) rfl <| XS.iconst X0.here hx rfl (hb hby at_40) <| XS.iushr X0.here hx rfl (hb hby at_41) rfl k) ?_
 refine goo (fun _ k => XS.iconst X0.here hx rfl (hb hby at_42) <| XS.iand X0.here hx rfl (hb hby at_43) rfl k) ?_
 show own_G _ _ _ _ (s₁.setTop (mkF m 44 #[iv x0, iv x1, iv x2, iv x3, iv x4, iv (own_c x0), iv (own_c x1), iv (own_c x2), iv (own_c x3), iv (own_pre x4), .unset, .unset, .unset, .unset, .unset, .unset, .unset, .unset, .unset] [(.int (((x4.toUInt32 >>> (i_2 &&& 31).toUInt32).toInt32) &&& i_3))]))
 refine goo (fun _ k => XS.istore X0.here hx rfl (hb hby at_44) rfl (l' := #[iv x0, iv x1, iv x2, iv x3, iv x4, iv (own_c x0), iv (own_c x1), iv (own_c x2), iv (own_c x3), iv (own_pre x4), iv (own_pend x4), .unset, .unset, .unset, .unset, .unset, .unset, .unset, .unset]) rfl <| XS.iload X0.here hx rfl (hb hby at_46) rfl <| XS.iconst X0.here hx rfl (hb hby at_48) <| XS.iushr X0.here hx rfl (hb hby at_49) rfl k) ?_
 refine goo (fun _ k => XS.iconst X0.here hx rfl (hb hby at_50) <| XS.iand X0.here hx rfl (hb hby at_51) rfl k) ?_
 show own_G _ _ _ _ (s₁.setTop (mkF m 52 #[iv x0, iv x1, iv x2, iv x3, iv x4, iv (own_c x0), iv (own_c x1), iv (own_c x2), iv (own_c x3), iv (own_pre x4), iv (own_pend x4), .unset, .unset, .unset, .unset, .unset, .unset, .unset, .unset] [(.int (((x4.toUInt32 >>> (i_4 &&& 31).toUInt32).toInt32) &&& i_1))]))
 refine own_join (S' := s₁.setTop (mkF m 60 #[iv x0, iv x1, iv x2, iv x3, iv x4, iv (own_c x0), iv (own_c x1), iv (own_c x2), iv (own_c x3), iv (own_pre x4), iv (own_pend x4), .unset, .unset, .unset, .unset, .unset, .unset, .unset, .unset] [(.int (own_aft x4))])) (fun hj => ?_) ?_
 ·by_cases hc52_1527 : (((x4.toUInt32 >>> (i_4 &&& 31).toUInt32).toInt32) &&& i_1) = i_0
  ·have hv : (own_aft x4) = i_0 := by unfold own_aft; simp only [if_pos hc52_1527, if_true, if_false, ite_true, ite_false]; try rfl
   rw [hv] at hj
   refine goo (fun _ k => XS.ifYes X0.here hx rfl (pc0 := 52) (pc' := 59) rfl (hb hby at_52) rfl (((if0 _ _).trans (teq hc52_1527).1)) (by decide) (by decide) <| XS.iconst X0.here hx rfl (hb hby at_59) k) ?_
   exact hj
  ·have hv : (own_aft x4) = i_1 := by unfold own_aft; simp only [if_neg hc52_1527, if_true, if_false, ite_true, ite_false]; try rfl
   rw [hv] at hj
   refine goo (fun _ k => XS.ifNo X0.here hx rfl (hb hby at_52) rfl (((if0 _ _).trans (feq hc52_1527).1)) <| XS.iconst X0.here hx rfl (hb hby at_55) <| XS.goto X0.here hx rfl (pc0 := 56) (pc' := 60) rfl (hb hby at_56) (by decide) (by decide) k) ?_
   exact hj
 refine goo (fun _ k => XS.istore X0.here hx rfl (hb hby at_60) rfl (l' := #[iv x0, iv x1, iv x2, iv x3, iv x4, iv (own_c x0), iv (own_c x1), iv (own_c x2), iv (own_c x3), iv (own_pre x4), iv (own_pend x4), iv (own_aft x4), .unset, .unset, .unset, .unset, .unset, .unset, .unset]) rfl <| XS.iconst X0.here hx rfl (hb hby at_62) k) ?_
 obtain ⟨T'0, h'0, k'0, X'0, e'0, E'0, A'0, st'0⟩ := newP X0 hx hZ (qw hw 0 rfl) e0 (g := (mkF m 63 #[iv x0, iv x1, iv x2, iv x3, iv x4, iv (own_c x0), iv (own_c x1), iv (own_c x2), iv (own_c x3), iv (own_pre x4), iv (own_pend x4), iv (own_aft x4), .unset, .unset, .unset, .unset, .unset, .unset, .unset] [.int i_2])) rfl (hb hby at_63) rfl (by decide) (cap := 2) (by decide) (by decide) (by decide) (by decide)
 obtain ⟨b'0, g'0⟩ : ∃ z, z = h0.size := ⟨_, rfl⟩
 rw [← g'0] at A'0 st'0
 have ge_1 : n0 ≤ b'0 := Nat.le_trans Z0 (Nat.le_of_eq g'0.symm)
 have S_2 := Sc.ext E'0
 have S_3 := Sf.ext E'0
 have S_4 := Sl.ext E'0
 have Old_5 := O0.ext E'0
 have Z_6 : n0 ≤ h'0.size := Nat.le_trans Z0 E'0.1
 have hk_7 := Nat.le_trans hk E'0.1
 have V1528 : Arv Z h'0 b'0 k'0 .char i_2 [.int i_0, .int i_0] (.int i_0) := (Arv.new A'0 (by decide)).pad (pad_rep [] (.int i_0) 2)
 refine goo st'0 ?_
 refine goo (fun _ k => XS.astore X'0.here hx rfl (hb hby at_65) rfl rfl (l' := #[iv x0, iv x1, iv x2, iv x3, iv x4, iv (own_c x0), iv (own_c x1), iv (own_c x2), iv (own_c x3), iv (own_pre x4), iv (own_pend x4), iv (own_aft x4), rv b'0, .unset, .unset, .unset, .unset, .unset, .unset]) rfl <| XS.aload X'0.here hx rfl (hb hby at_67) rfl rfl k) ?_
 show own_G _ _ _ _ (T'0.setTop (mkF m 69 #[iv x0, iv x1, iv x2, iv x3, iv x4, iv (own_c x0), iv (own_c x1), iv (own_c x2), iv (own_c x3), iv (own_pre x4), iv (own_pend x4), iv (own_aft x4), rv b'0, .unset, .unset, .unset, .unset, .unset, .unset] [.ref b'0]))
 refine goo (fun _ k => XS.iconst X'0.here hx rfl (hb hby at_69) <| XS.iload X'0.here hx rfl (hb hby at_70) rfl k) ?_
 obtain ⟨cl1536, Ar1536, q'8, S1536, N1536, H1536, G1536⟩ := id V1528
 obtain ⟨T'8, h'8, X'8, e'8, W'8, st'8⟩ := stC X'0 hx hZ e'0 Ar1536 (j := i_0) (inb_of S1536 ⟨by decide, by decide⟩) (g := (mkF m 72 #[iv x0, iv x1, iv x2, iv x3, iv x4, iv (own_c x0), iv (own_c x1), iv (own_c x2), iv (own_c x3), iv (own_pre x4), iv (own_pend x4), iv (own_aft x4), rv b'0, .unset, .unset, .unset, .unset, .unset, .unset] [(.int (own_c x1)), .int i_0, .ref b'0])) rfl rfl (hb hby at_72)
 have S_9 := S_2.wr W'8
 have S_a := S_3.wr W'8
 have S_b := S_4.wr W'8
 have Old_c := Old_5.wr W'8 ge_1
 have V1536 : Arv Z h'8 b'0 k'0 .char i_2 [(.int (nar .char (own_c x1))), .int i_0] (.int i_0) := Arv.set Ar1536 q'8 S1536 N1536 H1536 G1536 (fits_nar_char _) W'8 0 rfl (Nat.le_of_ble_eq_true rfl)
 rw [own_nar (own_c_ok x1)] at V1536
 have Z_d : n0 ≤ h'8.size := Nat.le_trans Z_6 (Nat.le_of_eq W'8.size.symm)
 have hk_e := Nat.le_trans hk_7 (Nat.le_of_eq W'8.size.symm)
 have N_8 := Fr.snoc X'8 N0 ge_1
 refine goo st'8 ?_
 refine goo (fun _ k => XS.aload X'8.here hx rfl (hb hby at_73) rfl rfl <| XS.iconst X'8.here hx rfl (hb hby at_75) <| XS.iload X'8.here hx rfl (hb hby at_76) rfl k) ?_
 show own_G _ _ _ _ (T'8.setTop (mkF m 78 #[iv x0, iv x1, iv x2, iv x3, iv x4, iv (own_c x0), iv (own_c x1), iv (own_c x2), iv (own_c x3), iv (own_pre x4), iv (own_pend x4), iv (own_aft x4), rv b'0, .unset, .unset, .unset, .unset, .unset, .unset] [(.int (own_c x0)), .int i_1, .ref b'0]))
 obtain ⟨cl1543, Ar1543, q'f, S1543, N1543, H1543, G1543⟩ := id V1536
 obtain ⟨T'f, h'f, X'f, e'f, W'f, st'f⟩ := stC X'8 hx hZ e'8 Ar1543 (j := i_1) (inb_of S1543 ⟨by decide, by decide⟩) (g := (mkF m 78 #[iv x0, iv x1, iv x2, iv x3, iv x4, iv (own_c x0), iv (own_c x1), iv (own_c x2), iv (own_c x3), iv (own_pre x4), iv (own_pend x4), iv (own_aft x4), rv b'0, .unset, .unset, .unset, .unset, .unset, .unset] [(.int (own_c x0)), .int i_1, .ref b'0])) rfl rfl (hb hby at_78)
 have S_g := S_9.wr W'f
 have S_h := S_a.wr W'f
 have S_i := S_b.wr W'f
 have Old_j := Old_c.wr W'f ge_1
 have V1543 : Arv Z h'f b'0 k'0 .char i_2 [(.int (own_c x1)), (.int (nar .char (own_c x0)))] (.int i_0) := Arv.set Ar1543 q'f S1543 N1543 H1543 G1543 (fits_nar_char _) W'f 1 rfl (Nat.le_of_ble_eq_true rfl)
 rw [own_nar (own_c_ok x0)] at V1543
 have Z_k : n0 ≤ h'f.size := Nat.le_trans Z_d (Nat.le_of_eq W'f.size.symm)
 have hk_l := Nat.le_trans hk_e (Nat.le_of_eq W'f.size.symm)
 have N_f := Fr.snoc X'f N_8 ge_1
 refine goo st'f ?_
 refine goo (fun _ k => XS.iload X'f.here hx rfl (hb hby at_79) rfl k) ?_
 obtain ⟨_, _, ⟨T'm, L'm, k'm, n'm⟩, -, X'm, ⟨Lc'm, hQ'm, l'm, y'm, z'm⟩, st'm⟩ := Jvm.LawKit.callS X'f hx (y := Y3) hown (mvT hZ (qw hw 1 rfl)) (mvT hZ (qw hw 2 rfl)) (mvT hZ (qw hw 3 rfl)) (mvT hZ (qw hw 4 rfl)) (by decide) (backOf (W := 0) (rm1 l Z a0 hw [] (own_c x0) cz h'f n0 Z_k S_g hcz (own_c_ok x0)) hZ (qw hw 4 rfl) (qw hw 3 rfl) (by decide) (by decide)) (g := (mkF m 81 #[iv x0, iv x1, iv x2, iv x3, iv x4, iv (own_c x0), iv (own_c x1), iv (own_c x2), iv (own_c x3), iv (own_pre x4), iv (own_pend x4), iv (own_aft x4), rv b'0, .unset, .unset, .unset, .unset, .unset, .unset] [(.int (own_c x0))])) rfl (by rw [hml]; rfl) (argsL := [(.int (own_c x0))]) (rest := []) (lenOf own_pd23 rfl) rfl (Nat.le_of_eq rfl) (hb hby at_81) (fun _ _ => ⟨rfl, e'f, (by decide : 1 + 2 ≤ _), (by decide : 2 + 5 ≤ _)⟩)
 dsimp only [Pt.U, Pt.locs, Pt.cells, Pt.slots] at X'm l'm y'm z'm st'm hQ'm
 subst l'm y'm z'm
 obtain ⟨b'm, rfl, Nq'm, K'm, gz'm, G_n, G_o, qx'm⟩ := hQ'm
 obtain ⟨vb'm, kv'm, gv'm, Fv'm, Vv'm⟩ := qx'm
 have S_p := own_staKeep S_g K'm all0
 have S_q := own_staKeep S_h K'm all0
 have S_r := own_staKeep S_i K'm all0
 have Old_s := Old_j.keep K'm all0
 have V_t := V1543.keep K'm nin0
 have Z_u : n0 ≤ T'm.heap.size := Nat.le_trans Z_k K'm.1
 have hk_v := Nat.le_trans hk_l K'm.1
 have N_m := Fr.app N_f Nq'm
 refine goo (fun _ k => st'm _ k) ?_
 refine goo (fun _ k => XS.astore X'm.here hx rfl (hb hby at_84) rfl rfl (l' := #[iv x0, iv x1, iv x2, iv x3, iv x4, iv (own_c x0), iv (own_c x1), iv (own_c x2), iv (own_c x3), iv (own_pre x4), iv (own_pend x4), iv (own_aft x4), rv b'0, rv b'm, .unset, .unset, .unset, .unset, .unset]) rfl k) ?_
 obtain ⟨T'w, h'w, X'w, e'w, E'w, A'w, D'w, -, st'w⟩ := newO X'm hx hZ hown (qw hw 27 rfl) (qw hw 11 rfl) (qw hw 3 rfl) rfl (g := (mkF m 86 #[iv x0, iv x1, iv x2, iv x3, iv x4, iv (own_c x0), iv (own_c x1), iv (own_c x2), iv (own_c x3), iv (own_pre x4), iv (own_pend x4), iv (own_aft x4), rv b'0, rv b'm, .unset, .unset, .unset, .unset, .unset] [])) rfl (hb hby at_86) (by decide) (by decide)
 obtain ⟨b'w, g'w⟩ : ∃ z, z = T'm.heap.size := ⟨_, rfl⟩
 rw [← g'w] at A'w D'w st'w
 have ne_x : b'0 ≠ b'w := Nat.ne_of_lt (Nat.lt_of_lt_of_le V_t.lt (Nat.le_of_eq g'w.symm))
 have ne_y : b'm ≠ b'w := Nat.ne_of_lt (Nat.lt_of_lt_of_le G_n.lt (Nat.le_of_eq g'w.symm))
 have ne_z : vb'm ≠ b'w := Nat.ne_of_lt (Nat.lt_of_lt_of_le Vv'm.lt (Nat.le_of_eq g'w.symm))
 have ge_10 : n0 ≤ b'w := Nat.le_trans Z_u (Nat.le_of_eq g'w.symm)
 have S_11 := S_p.ext E'w
 have S_12 := S_q.ext E'w
 have S_13 := S_r.ext E'w
 have Old_14 := Old_s.ext E'w
 have V_15 := V_t.ext E'w
 have X_16 := G_n.ext E'w
 have F_17 := G_o.ext E'w
 have F_18 := Fv'm.ext E'w
 have V_19 := Vv'm.ext E'w
 have Z_1a : n0 ≤ h'w.size := Nat.le_trans Z_u E'w.1
 have hk_1b := Nat.le_trans hk_v E'w.1
 have F_1c : Fld Z h'w b'w s_0 "value" "[B" .null := D'w (Or.inr (qw hw 24 rfl)) (ty := (.array .byte)) (by decide)
 have F_1d : Fld Z h'w b'w s_0 "coder" "B" (.int i_0) := D'w (Or.inr (qw hw 26 rfl)) (ty := .byte) (by decide)
 refine goo st'w ?_
 refine goo (fun _ k => XS.dup X'w.here hx rfl (hb hby at_89) rfl rfl k) ?_
 show own_G _ _ _ _ (T'w.setTop (mkF m 90 #[iv x0, iv x1, iv x2, iv x3, iv x4, iv (own_c x0), iv (own_c x1), iv (own_c x2), iv (own_c x3), iv (own_pre x4), iv (own_pend x4), iv (own_aft x4), rv b'0, rv b'm, .unset, .unset, .unset, .unset, .unset] [.ref b'w, .ref b'w]))
 refine goo (fun _ k => XS.aload X'w.here hx rfl (hb hby at_90) rfl rfl k) ?_
 obtain ⟨_, _, ⟨T'1e, L'1e, k'1e, n'1e⟩, -, X'1e, ⟨Lc'1e, hQ'1e, l'1e, y'1e, z'1e⟩, st'1e⟩ := X'w.specialBack hx (y := Y18) rfl hown (mvT hZ (qw hw 28 rfl)) (mvT hZ (qw hw 29 rfl)) (mvT hZ (qw hw 30 rfl)) (by decide) (backOf (W := 1) (rm6 l Z a0 hw [] b'w b'0 cz k'0 (own_c x1) (own_c x0) h'w n0 Z_1a A'w ge_10 F_1c F_1d V_15 S_11 hcz (Ne.symm ne_x) (own_c_ok x1) (own_c_ok x0)) hZ (qw hw 30 rfl) (qw hw 3 rfl) (by decide) (by decide)) (g := (mkF m 92 #[iv x0, iv x1, iv x2, iv x3, iv x4, iv (own_c x0), iv (own_c x1), iv (own_c x2), iv (own_c x3), iv (own_pre x4), iv (own_pend x4), iv (own_aft x4), rv b'0, rv b'm, .unset, .unset, .unset, .unset, .unset] [.ref b'0, .ref b'w, .ref b'w])) rfl (by rw [hml]; rfl) (Steps.refl _) (a := b'w) (argsL := [.ref b'0]) (rest := [.ref b'w]) (lenOf own_pd24 rfl) rfl (Nat.le_of_eq rfl) (hb hby at_92) (fun _ _ => ⟨rfl, e'w, (by decide : 4 + 1 ≤ _), (by decide : 11 + 2 ≤ _)⟩)
 dsimp only [Pt.U, Pt.locs, Pt.cells, Pt.slots] at X'1e l'1e y'1e z'1e st'1e hQ'1e
 subst l'1e y'1e z'1e
 obtain ⟨rfl, Nq'1e, K'1e, G_1f, G_1g, qx'1e⟩ := hQ'1e
 obtain ⟨vb'1e, kv'1e, gv'1e, Fv'1e, Vv'1e⟩ := qx'1e
 have S_1h := own_staKeep S_11 K'1e (allS (own_nsX A'w) all0)
 have S_1i := own_staKeep S_12 K'1e (allS (own_nsX A'w) all0)
 have S_1j := own_staKeep S_13 K'1e (allS (own_nsX A'w) all0)
 have Old_1k := Old_14.keep K'1e (allS ge_10 all0)
 have X_1l := X_16.keep K'1e
 have F_1m := F_17.keep K'1e (ninS ne_y nin0)
 have F_1n := F_18.keep K'1e (ninS ne_y nin0)
 have V_1o := V_19.keep K'1e (ninS ne_z nin0)
 have Z_1p : n0 ≤ T'1e.heap.size := Nat.le_trans Z_1a K'1e.1
 have hk_1q := Nat.le_trans hk_1b K'1e.1
 have N_1e := Fr.app N_m Nq'1e
 refine goo (fun _ k => st'1e.trans k) ?_
 refine goo (fun _ k => XS.astore X'1e.here hx rfl (hb hby at_95) rfl rfl (l' := #[iv x0, iv x1, iv x2, iv x3, iv x4, iv (own_c x0), iv (own_c x1), iv (own_c x2), iv (own_c x3), iv (own_pre x4), iv (own_pend x4), iv (own_aft x4), rv b'0, rv b'm, rv b'w, .unset, .unset, .unset, .unset]) rfl k) ?_
 obtain ⟨T'1r, h'1r, X'1r, e'1r, E'1r, A'1r, D'1r, -, st'1r⟩ := newO X'1e hx hZ hown (qw hw 44 rfl) (qw hw 45 rfl) (qw hw 46 rfl) rfl (g := (mkF m 97 #[iv x0, iv x1, iv x2, iv x3, iv x4, iv (own_c x0), iv (own_c x1), iv (own_c x2), iv (own_c x3), iv (own_pre x4), iv (own_pend x4), iv (own_aft x4), rv b'0, rv b'm, rv b'w, .unset, .unset, .unset, .unset] [])) rfl (hb hby at_97) (by decide) (by decide)
 obtain ⟨b'1r, g'1r⟩ : ∃ z, z = T'1e.heap.size := ⟨_, rfl⟩
 rw [← g'1r] at A'1r D'1r st'1r
 have ne_1s : b'm ≠ b'1r := Nat.ne_of_lt (Nat.lt_of_lt_of_le X_1l.lt (Nat.le_of_eq g'1r.symm))
 have ne_1t : vb'm ≠ b'1r := Nat.ne_of_lt (Nat.lt_of_lt_of_le V_1o.lt (Nat.le_of_eq g'1r.symm))
 have ne_1u : b'w ≠ b'1r := Nat.ne_of_lt (Nat.lt_of_lt_of_le G_1f.lt (Nat.le_of_eq g'1r.symm))
 have ne_1v : vb'1e ≠ b'1r := Nat.ne_of_lt (Nat.lt_of_lt_of_le Vv'1e.lt (Nat.le_of_eq g'1r.symm))
 have ge_1w : n0 ≤ b'1r := Nat.le_trans Z_1p (Nat.le_of_eq g'1r.symm)
 have S_1x := S_1h.ext E'1r
 have S_1y := S_1i.ext E'1r
 have S_1z := S_1j.ext E'1r
 have Old_20 := Old_1k.ext E'1r
 have X_21 := X_1l.ext E'1r
 have F_22 := F_1m.ext E'1r
 have F_23 := F_1n.ext E'1r
 have V_24 := V_1o.ext E'1r
 have X_25 := G_1f.ext E'1r
 have F_26 := G_1g.ext E'1r
 have F_27 := Fv'1e.ext E'1r
 have V_28 := Vv'1e.ext E'1r
 have Z_29 : n0 ≤ h'1r.size := Nat.le_trans Z_1p E'1r.1
 have hk_2a := Nat.le_trans hk_1q E'1r.1
 have F_2b : Fld Z h'1r b'1r s_3 "chars" "[C" .null := D'1r (Or.inl (qw hw 52 rfl)) (ty := (.array .char)) (by decide)
 have F_2c : Fld Z h'1r b'1r s_3 "ends" "[I" .null := D'1r (Or.inl (qw hw 55 rfl)) (ty := (.array .int)) (by decide)
 have F_2d : Fld Z h'1r b'1r s_3 "columns" "Ljava/util/List;" .null := D'1r (Or.inl (qw hw 63 rfl)) (ty := (.object "java/util/List")) (by decide)
 have F_2e : Fld Z h'1r b'1r s_3 "record" "[C" .null := D'1r (Or.inl (qw hw 65 rfl)) (ty := (.array .char)) (by decide)
 have F_2f : Fld Z h'1r b'1r s_3 "size" "I" (.int i_0) := D'1r (Or.inl (qw hw 72 rfl)) (ty := .int) (by decide)
 have F_2g : Fld Z h'1r b'1r s_3 "length" "I" (.int i_0) := D'1r (Or.inl (qw hw 74 rfl)) (ty := .int) (by decide)
 refine goo st'1r ?_
 refine goo (fun _ k => XS.dup X'1r.here hx rfl (hb hby at_100) rfl rfl k) ?_
 obtain ⟨_, _, ⟨T'2h, L'2h, k'2h, n'2h⟩, -, X'2h, ⟨Lc'2h, hQ'2h, l'2h, y'2h, z'2h⟩, st'2h⟩ := X'1r.specialBack hx (y := Y24) rfl hown (mvT hZ (qw hw 47 rfl)) (mvT hZ (qw hw 48 rfl)) (mvT hZ (qw hw 49 rfl)) (by decide) (backOf (W := 1) (rm11 l Z a0 hw [] b'1r el h'1r n0 Z_29 A'1r ge_1w F_2b F_2c F_2g F_2f F_2d F_2e S_1z) hZ (qw hw 49 rfl) (qw hw 46 rfl) (by decide) (by decide)) (g := (mkF m 101 #[iv x0, iv x1, iv x2, iv x3, iv x4, iv (own_c x0), iv (own_c x1), iv (own_c x2), iv (own_c x3), iv (own_pre x4), iv (own_pend x4), iv (own_aft x4), rv b'0, rv b'm, rv b'w, .unset, .unset, .unset, .unset] [.ref b'1r, .ref b'1r])) rfl (by rw [hml]; rfl) (Steps.refl _) (a := b'1r) (argsL := []) (rest := [.ref b'1r]) (lenOf own_pd20 rfl) rfl (Nat.le_of_eq rfl) (hb hby at_101) (fun _ _ => ⟨rfl, e'1r, (by decide : 6 + 3 ≤ _), (by decide : 19 + 544 ≤ _)⟩)
 dsimp only [Pt.U, Pt.locs, Pt.cells, Pt.slots] at X'2h l'2h y'2h z'2h st'2h hQ'2h
 subst l'2h y'2h z'2h
 obtain ⟨rfl, Nq'2h, K'2h, G_2i, G_2j, G_2k, qx'2h⟩ := hQ'2h
 obtain ⟨ca'2h, ea'2h, kc'2h, ke'2h, ga1630, gb1630, nab'2h, Fa'2h, Fe'2h, Va'2h, Ve'2h⟩ := qx'2h
 have ne_2l : b'm ≠ ca'2h := Nat.ne_of_lt (Nat.lt_of_lt_of_le X_21.lt ga1630)
 have ne_2m : vb'm ≠ ca'2h := Nat.ne_of_lt (Nat.lt_of_lt_of_le V_24.lt ga1630)
 have ne_2n : b'w ≠ ca'2h := Nat.ne_of_lt (Nat.lt_of_lt_of_le X_25.lt ga1630)
 have ne_2o : vb'1e ≠ ca'2h := Nat.ne_of_lt (Nat.lt_of_lt_of_le V_28.lt ga1630)
 have ne_2p : b'1r ≠ ca'2h := Nat.ne_of_lt (Nat.lt_of_lt_of_le A'1r.lt ga1630)
 have ge_2q : n0 ≤ ca'2h := Nat.le_trans Z_29 ga1630
 have ne_2r : b'm ≠ ea'2h := Nat.ne_of_lt (Nat.lt_of_lt_of_le X_21.lt gb1630)
 have ne_2s : vb'm ≠ ea'2h := Nat.ne_of_lt (Nat.lt_of_lt_of_le V_24.lt gb1630)
 have ne_2t : b'w ≠ ea'2h := Nat.ne_of_lt (Nat.lt_of_lt_of_le X_25.lt gb1630)
 have ne_2u : vb'1e ≠ ea'2h := Nat.ne_of_lt (Nat.lt_of_lt_of_le V_28.lt gb1630)
 have ne_2v : b'1r ≠ ea'2h := Nat.ne_of_lt (Nat.lt_of_lt_of_le A'1r.lt gb1630)
 have ge_2w : n0 ≤ ea'2h := Nat.le_trans Z_29 gb1630
 have S_2x := own_staKeep S_1x K'2h (allS (own_nsX A'1r) all0)
 have S_2y := own_staKeep S_1y K'2h (allS (own_nsX A'1r) all0)
 have Old_2z := Old_20.keep K'2h (allS ge_1w all0)
 have X_30 := X_21.keep K'2h
 have F_31 := F_22.keep K'2h (ninS ne_1s nin0)
 have F_32 := F_23.keep K'2h (ninS ne_1s nin0)
 have V_33 := V_24.keep K'2h (ninS ne_1t nin0)
 have X_34 := X_25.keep K'2h
 have F_35 := F_26.keep K'2h (ninS ne_1u nin0)
 have F_36 := F_27.keep K'2h (ninS ne_1u nin0)
 have V_37 := V_28.keep K'2h (ninS ne_1v nin0)
 have Z_38 : n0 ≤ T'2h.heap.size := Nat.le_trans Z_29 K'2h.1
 have hk_39 := Nat.le_trans hk_2a K'2h.1
 have N_2h := Fr.app N_1e Nq'2h
 refine goo (fun _ k => st'2h.trans k) ?_
 show own_G _ _ _ _ (T'2h.setTop (mkF m 104 #[iv x0, iv x1, iv x2, iv x3, iv x4, iv (own_c x0), iv (own_c x1), iv (own_c x2), iv (own_c x3), iv (own_pre x4), iv (own_pend x4), iv (own_aft x4), rv b'0, rv b'm, rv b'w, .unset, .unset, .unset, .unset] [.ref b'1r]))
 refine goo (fun _ k => XS.astore X'2h.here hx rfl (hb hby at_104) rfl rfl (l' := #[iv x0, iv x1, iv x2, iv x3, iv x4, iv (own_c x0), iv (own_c x1), iv (own_c x2), iv (own_c x3), iv (own_pre x4), iv (own_pend x4), iv (own_aft x4), rv b'0, rv b'm, rv b'w, rv b'1r, .unset, .unset, .unset]) rfl k) ?_
 rcases own_pre4 x4 with hp | hp | hp | hp
 ·rw [hp]
  refine goo (fun _ k => XS.iload X'2h.here hx rfl (hb hby at_106) rfl <| XS.iconst X'2h.here hx rfl (hb hby at_108) <| XS.icmpYes X'2h.here hx rfl (pc0 := 109) (pc' := 119) rfl (hb hby at_109) rfl ((tlt (by decide : i_0 < i_1)).1) (by decide) (by decide) <| XS.iload X'2h.here hx rfl (hb hby at_119) rfl k) ?_
  show own_G _ _ _ _ (T'2h.setTop (mkF m 121 #[iv x0, iv x1, iv x2, iv x3, iv x4, iv (own_c x0), iv (own_c x1), iv (own_c x2), iv (own_c x3), iv i_0, iv (own_pend x4), iv (own_aft x4), rv b'0, rv b'm, rv b'w, rv b'1r, .unset, .unset, .unset] [.int i_0]))
  refine goo (fun _ k => XS.iconst X'2h.here hx rfl (hb hby at_121) <| XS.icmpYes X'2h.here hx rfl (pc0 := 122) (pc' := 130) rfl (hb hby at_122) rfl ((tlt (by decide : i_0 < i_2)).1) (by decide) (by decide) <| XS.iload X'2h.here hx rfl (hb hby at_130) rfl <| XS.iconst X'2h.here hx rfl (hb hby at_132) k) ?_
  refine goo (fun _ k => XS.icmpYes X'2h.here hx rfl (pc0 := 133) (pc' := 143) rfl (hb hby at_133) rfl ((tlt (by decide : i_0 < i_3)).1) (by decide) (by decide) k) ?_
  refine own_joinG (fun T' L' => Fr n0 L' ∧ Keep T'2h.heap T'.heap [b'1r, ca'2h, ea'2h] ∧ Exa Z T'.heap b'1r s_3 ∧ Fld Z T'.heap b'1r s_3 "chars" "[C" (.ref ca'2h) ∧ Fld Z T'.heap b'1r s_3 "ends" "[I" (.ref ea'2h) ∧ Fld Z T'.heap b'1r s_3 "length" "I" (.int i_0) ∧ Fld Z T'.heap b'1r s_3 "size" "I" (.int i_0) ∧ Arv Z T'.heap ea'2h ke'2h .int i_32 [.int i_0, .int i_0, .int i_0, .int i_0] (.int i_0) ∧ ∃ g0 g1 g2, Arv Z T'.heap ca'2h kc'2h .char i_256 [.int g0, .int g1, .int g2, .int i_0, .int i_0, .int i_0] (.int i_0)) X'2h (mkF m 190 #[iv x0, iv x1, iv x2, iv x3, iv x4, iv (own_c x0), iv (own_c x1), iv (own_c x2), iv (own_c x3), iv i_0, iv (own_pend x4), iv (own_aft x4), rv b'0, rv b'm, rv b'w, rv b'1r, .unset, .unset, .unset] []) (fun hj => ?_) (fun T'3a L'3a X'3a hJ'3a => ?_)
  ·rcases own_pend4 x4 with hq | hq | hq | hq
   ·rw [hq] at hj ⊢
    show own_G _ _ _ _ (T'2h.setTop (mkF m 143 #[iv x0, iv x1, iv x2, iv x3, iv x4, iv (own_c x0), iv (own_c x1), iv (own_c x2), iv (own_c x3), iv i_0, iv i_0, iv (own_aft x4), rv b'0, rv b'm, rv b'w, rv b'1r, .unset, .unset, .unset] []))
    refine goo (fun _ k => XS.iload X'2h.here hx rfl (hb hby at_143) rfl <| XS.iconst X'2h.here hx rfl (hb hby at_145) <| XS.icmpYes X'2h.here hx rfl (pc0 := 146) (pc' := 157) rfl (hb hby at_146) rfl ((tlt (by decide : i_0 < i_1)).1) (by decide) (by decide) <| XS.iload X'2h.here hx rfl (hb hby at_157) rfl k) ?_
    refine goo (fun _ k => XS.iconst X'2h.here hx rfl (hb hby at_159) <| XS.icmpYes X'2h.here hx rfl (pc0 := 160) (pc' := 171) rfl (hb hby at_160) rfl ((tlt (by decide : i_0 < i_2)).1) (by decide) (by decide) k) ?_
    show own_G _ _ _ _ (T'2h.setTop (mkF m 171 #[iv x0, iv x1, iv x2, iv x3, iv x4, iv (own_c x0), iv (own_c x1), iv (own_c x2), iv (own_c x3), iv i_0, iv i_0, iv (own_aft x4), rv b'0, rv b'm, rv b'w, rv b'1r, .unset, .unset, .unset] []))
    refine goo (fun _ k => XS.iload X'2h.here hx rfl (hb hby at_171) rfl <| XS.iconst X'2h.here hx rfl (hb hby at_173) <| XS.icmpYes X'2h.here hx rfl (pc0 := 174) (pc' := 185) rfl (hb hby at_174) rfl ((tlt (by decide : i_0 < i_3)).1) (by decide) (by decide) <| XS.aload X'2h.here hx rfl (hb hby at_185) rfl rfl k) ?_
    obtain ⟨cq'3b, kq'3b, q'3ba, q'3bb, q'3bc⟩ := isOf hZ rfl G_2i
    obtain ⟨_, _, ⟨T'3b, L'3b, k'3b, n'3b⟩, -, X'3b, ⟨Lc'3b, hQ'3b, l'3b, y'3b, z'3b⟩, st'3b⟩ := X'2h.virtualBack hx (y := Y31) (z := Y31) hown (mvT hZ (qw hw 66 rfl)) (mvT hZ (qw hw 67 rfl)) (notFace_of_selects (args := #[]) (mvT hZ (qw hw 69 rfl))) (mvT hZ (qw hw 69 rfl)) (mvT hZ (qw hw 68 rfl)) (by decide) (backOf (W := 0) (rm_dis0 l Z a0 hw [] b'1r ca'2h ea'2h kc'2h ke'2h i_0 i_0 i_0 i_0 i_0 i_0 i_0 i_0 i_0 i_0 i_0 T'2h.heap n0 Z_38 G_2i Fa'2h Fe'2h G_2j G_2k Va'2h Ve'2h ge_1w ge_2q ge_2w ne_2p ne_2v nab'2h) hZ (qw hw 70 rfl) (qw hw 46 rfl) (by decide) (by decide)) q'3ba q'3bc (g := (mkF m 187 #[iv x0, iv x1, iv x2, iv x3, iv x4, iv (own_c x0), iv (own_c x1), iv (own_c x2), iv (own_c x3), iv i_0, iv i_0, iv (own_aft x4), rv b'0, rv b'm, rv b'w, rv b'1r, .unset, .unset, .unset] [.ref b'1r])) rfl (by rw [hml]; rfl) (Steps.refl _) (argsL := []) (rest := []) (lenOf own_pd20 rfl) rfl (Nat.le_of_eq rfl) (hb hby at_187) (fun _ _ => ⟨rfl, rfl, (by decide : 9 + 0 ≤ _), (by decide : 563 + 0 ≤ _)⟩)
    dsimp only [Pt.U, Pt.locs, Pt.cells, Pt.slots] at X'3b l'3b y'3b z'3b st'3b hQ'3b
    subst l'3b y'3b z'3b
    obtain ⟨rfl, Nq'3b, K'3b, G_3c, G_3d, G_3e, G_3f, G_3g, G_3h, G_3i⟩ := hQ'3b
    have KP_3j : Keep T'2h.heap T'3b.heap [b'1r, ca'2h, ea'2h] := (Keep.refl T'2h.heap [b'1r, ca'2h, ea'2h]).trans K'3b (allS (Or.inl (List.mem_of_getElem? (i := 0) rfl)) all0)
    have N_3b := Fr.app N_2h Nq'3b
    refine goo (fun _ k => st'3b.trans k) ?_
    exact hj _ _ X'3b (by exact ⟨N_3b, KP_3j, G_3c, G_3d, G_3e, G_3f, G_3g, G_3i, _, _, _, G_3h⟩)
   ·rw [hq] at hj ⊢
    show own_G _ _ _ _ (T'2h.setTop (mkF m 143 #[iv x0, iv x1, iv x2, iv x3, iv x4, iv (own_c x0), iv (own_c x1), iv (own_c x2), iv (own_c x3), iv i_0, iv i_1, iv (own_aft x4), rv b'0, rv b'm, rv b'w, rv b'1r, .unset, .unset, .unset] []))
    refine goo (fun _ k => XS.iload X'2h.here hx rfl (hb hby at_143) rfl <| XS.iconst X'2h.here hx rfl (hb hby at_145) <| XS.icmpNo X'2h.here hx rfl (hb hby at_146) rfl ((flt (by decide : ¬ (i_1 < i_1))).1) <| XS.aload X'2h.here hx rfl (hb hby at_149) rfl rfl k) ?_
    refine goo (fun _ k => XS.iload X'2h.here hx rfl (hb hby at_151) rfl k) ?_
    obtain ⟨cq'3k, kq'3k, q'3ka, q'3kb, q'3kc⟩ := isOf hZ rfl G_2i
    obtain ⟨_, _, ⟨T'3k, L'3k, k'3k, n'3k⟩, -, X'3k, ⟨Lc'3k, hQ'3k, l'3k, y'3k, z'3k⟩, st'3k⟩ := X'2h.virtualBack hx (y := Y27) (z := Y27) hown (mvT hZ (qw hw 174 rfl)) (mvT hZ (qw hw 175 rfl)) (notFace_of_selects (args := #[]) (mvT hZ (qw hw 177 rfl))) (mvT hZ (qw hw 177 rfl)) (mvT hZ (qw hw 176 rfl)) (by decide) (backOf (W := 0) (rm_app0 l Z a0 hw [] b'1r (own_c x2) ca'2h ea'2h kc'2h ke'2h i_0 i_0 i_0 i_0 i_0 i_0 i_0 i_0 i_0 i_0 i_0 i_0 T'2h.heap n0 Z_38 G_2i Fa'2h Fe'2h G_2j G_2k Va'2h Ve'2h ge_1w ge_2q ge_2w ne_2p ne_2v nab'2h (own_c_ok x2)) hZ (qw hw 178 rfl) (qw hw 46 rfl) (by decide) (by decide)) q'3ka q'3kc (g := (mkF m 153 #[iv x0, iv x1, iv x2, iv x3, iv x4, iv (own_c x0), iv (own_c x1), iv (own_c x2), iv (own_c x3), iv i_0, iv i_1, iv (own_aft x4), rv b'0, rv b'm, rv b'w, rv b'1r, .unset, .unset, .unset] [(.int (own_c x2)), .ref b'1r])) rfl (by rw [hml]; rfl) (Steps.refl _) (argsL := [(.int (own_c x2))]) (rest := []) (lenOf own_pd25 rfl) rfl (Nat.le_of_eq rfl) (hb hby at_153) (fun _ _ => ⟨rfl, rfl, (by decide : 9 + 0 ≤ _), (by decide : 563 + 0 ≤ _)⟩)
    dsimp only [Pt.U, Pt.locs, Pt.cells, Pt.slots] at X'3k l'3k y'3k z'3k st'3k hQ'3k
    subst l'3k y'3k z'3k
    obtain ⟨rfl, Nq'3k, K'3k, G_3l, G_3m, G_3n, G_3o, G_3p, G_3q, G_3r⟩ := hQ'3k
    have Z_3s : n0 ≤ T'3k.heap.size := Nat.le_trans Z_38 K'3k.1
    have KP_3t : Keep T'2h.heap T'3k.heap [b'1r, ca'2h, ea'2h] := (Keep.refl T'2h.heap [b'1r, ca'2h, ea'2h]).trans K'3k (allS (Or.inl (List.mem_of_getElem? (i := 0) rfl)) (allS (Or.inl (List.mem_of_getElem? (i := 1) rfl)) all0))
    have N_3k := Fr.app N_2h Nq'3k
    refine goo (fun _ k => st'3k.trans k) ?_
    show own_G _ _ _ _ (T'3k.setTop (mkF m 156 #[iv x0, iv x1, iv x2, iv x3, iv x4, iv (own_c x0), iv (own_c x1), iv (own_c x2), iv (own_c x3), iv i_0, iv i_1, iv (own_aft x4), rv b'0, rv b'm, rv b'w, rv b'1r, .unset, .unset, .unset] [.ref b'1r]))
    refine goo (fun _ k => XS.pop X'3k.here hx rfl (hb hby at_156) rfl rfl <| XS.iload X'3k.here hx rfl (hb hby at_157) rfl <| XS.iconst X'3k.here hx rfl (hb hby at_159) <| XS.icmpYes X'3k.here hx rfl (pc0 := 160) (pc' := 171) rfl (hb hby at_160) rfl ((tlt (by decide : i_1 < i_2)).1) (by decide) (by decide) k) ?_
    refine goo (fun _ k => XS.iload X'3k.here hx rfl (hb hby at_171) rfl <| XS.iconst X'3k.here hx rfl (hb hby at_173) k) ?_
    show own_G _ _ _ _ (T'3k.setTop (mkF m 174 #[iv x0, iv x1, iv x2, iv x3, iv x4, iv (own_c x0), iv (own_c x1), iv (own_c x2), iv (own_c x3), iv i_0, iv i_1, iv (own_aft x4), rv b'0, rv b'm, rv b'w, rv b'1r, .unset, .unset, .unset] [.int i_3, .int i_1]))
    refine goo (fun _ k => XS.icmpYes X'3k.here hx rfl (pc0 := 174) (pc' := 185) rfl (hb hby at_174) rfl ((tlt (by decide : i_1 < i_3)).1) (by decide) (by decide) <| XS.aload X'3k.here hx rfl (hb hby at_185) rfl rfl k) ?_
    obtain ⟨cq'3u, kq'3u, q'3ua, q'3ub, q'3uc⟩ := isOf hZ rfl G_3l
    obtain ⟨_, _, ⟨T'3u, L'3u, k'3u, n'3u⟩, -, X'3u, ⟨Lc'3u, hQ'3u, l'3u, y'3u, z'3u⟩, st'3u⟩ := X'3k.virtualBack hx (y := Y31) (z := Y31) hown (mvT hZ (qw hw 66 rfl)) (mvT hZ (qw hw 67 rfl)) (notFace_of_selects (args := #[]) (mvT hZ (qw hw 69 rfl))) (mvT hZ (qw hw 69 rfl)) (mvT hZ (qw hw 68 rfl)) (by decide) (backOf (W := 0) (rm_dis0 l Z a0 hw [] b'1r ca'2h ea'2h kc'2h ke'2h (own_c x2) i_0 i_0 i_0 i_0 i_0 i_0 i_0 i_0 i_0 i_1 T'3k.heap n0 Z_3s G_3l G_3m G_3n G_3o G_3p G_3q G_3r ge_1w ge_2q ge_2w ne_2p ne_2v nab'2h) hZ (qw hw 70 rfl) (qw hw 46 rfl) (by decide) (by decide)) q'3ua q'3uc (g := (mkF m 187 #[iv x0, iv x1, iv x2, iv x3, iv x4, iv (own_c x0), iv (own_c x1), iv (own_c x2), iv (own_c x3), iv i_0, iv i_1, iv (own_aft x4), rv b'0, rv b'm, rv b'w, rv b'1r, .unset, .unset, .unset] [.ref b'1r])) rfl (by rw [hml]; rfl) (Steps.refl _) (argsL := []) (rest := []) (lenOf own_pd20 rfl) rfl (Nat.le_of_eq rfl) (hb hby at_187) (fun _ _ => ⟨rfl, rfl, (by decide : 9 + 0 ≤ _), (by decide : 563 + 0 ≤ _)⟩)
    dsimp only [Pt.U, Pt.locs, Pt.cells, Pt.slots] at X'3u l'3u y'3u z'3u st'3u hQ'3u
    subst l'3u y'3u z'3u
    obtain ⟨rfl, Nq'3u, K'3u, G_3v, G_3w, G_3x, G_3y, G_3z, G_40, G_41⟩ := hQ'3u
    have KP_42 : Keep T'2h.heap T'3u.heap [b'1r, ca'2h, ea'2h] := KP_3t.trans K'3u (allS (Or.inl (List.mem_of_getElem? (i := 0) rfl)) all0)
    have N_3u := Fr.app N_3k Nq'3u
    refine goo (fun _ k => st'3u.trans k) ?_
    exact hj _ _ X'3u (by exact ⟨N_3u, KP_42, G_3v, G_3w, G_3x, G_3y, G_3z, G_41, _, _, _, G_40⟩)
   ·rw [hq] at hj ⊢
    show own_G _ _ _ _ (T'2h.setTop (mkF m 143 #[iv x0, iv x1, iv x2, iv x3, iv x4, iv (own_c x0), iv (own_c x1), iv (own_c x2), iv (own_c x3), iv i_0, iv i_2, iv (own_aft x4), rv b'0, rv b'm, rv b'w, rv b'1r, .unset, .unset, .unset] []))
    refine goo (fun _ k => XS.iload X'2h.here hx rfl (hb hby at_143) rfl <| XS.iconst X'2h.here hx rfl (hb hby at_145) <| XS.icmpNo X'2h.here hx rfl (hb hby at_146) rfl ((flt (by decide : ¬ (i_2 < i_1))).1) <| XS.aload X'2h.here hx rfl (hb hby at_149) rfl rfl k) ?_
    refine goo (fun _ k => XS.iload X'2h.here hx rfl (hb hby at_151) rfl k) ?_
    obtain ⟨cq'43, kq'43, q'43a, q'43b, q'43c⟩ := isOf hZ rfl G_2i
    obtain ⟨_, _, ⟨T'43, L'43, k'43, n'43⟩, -, X'43, ⟨Lc'43, hQ'43, l'43, y'43, z'43⟩, st'43⟩ := X'2h.virtualBack hx (y := Y27) (z := Y27) hown (mvT hZ (qw hw 174 rfl)) (mvT hZ (qw hw 175 rfl)) (notFace_of_selects (args := #[]) (mvT hZ (qw hw 177 rfl))) (mvT hZ (qw hw 177 rfl)) (mvT hZ (qw hw 176 rfl)) (by decide) (backOf (W := 0) (rm_app0 l Z a0 hw [] b'1r (own_c x2) ca'2h ea'2h kc'2h ke'2h i_0 i_0 i_0 i_0 i_0 i_0 i_0 i_0 i_0 i_0 i_0 i_0 T'2h.heap n0 Z_38 G_2i Fa'2h Fe'2h G_2j G_2k Va'2h Ve'2h ge_1w ge_2q ge_2w ne_2p ne_2v nab'2h (own_c_ok x2)) hZ (qw hw 178 rfl) (qw hw 46 rfl) (by decide) (by decide)) q'43a q'43c (g := (mkF m 153 #[iv x0, iv x1, iv x2, iv x3, iv x4, iv (own_c x0), iv (own_c x1), iv (own_c x2), iv (own_c x3), iv i_0, iv i_2, iv (own_aft x4), rv b'0, rv b'm, rv b'w, rv b'1r, .unset, .unset, .unset] [(.int (own_c x2)), .ref b'1r])) rfl (by rw [hml]; rfl) (Steps.refl _) (argsL := [(.int (own_c x2))]) (rest := []) (lenOf own_pd25 rfl) rfl (Nat.le_of_eq rfl) (hb hby at_153) (fun _ _ => ⟨rfl, rfl, (by decide : 9 + 0 ≤ _), (by decide : 563 + 0 ≤ _)⟩)
    dsimp only [Pt.U, Pt.locs, Pt.cells, Pt.slots] at X'43 l'43 y'43 z'43 st'43 hQ'43
    subst l'43 y'43 z'43
    obtain ⟨rfl, Nq'43, K'43, G_44, G_45, G_46, G_47, G_48, G_49, G_4a⟩ := hQ'43
    have Z_4b : n0 ≤ T'43.heap.size := Nat.le_trans Z_38 K'43.1
    have KP_4c : Keep T'2h.heap T'43.heap [b'1r, ca'2h, ea'2h] := (Keep.refl T'2h.heap [b'1r, ca'2h, ea'2h]).trans K'43 (allS (Or.inl (List.mem_of_getElem? (i := 0) rfl)) (allS (Or.inl (List.mem_of_getElem? (i := 1) rfl)) all0))
    have N_43 := Fr.app N_2h Nq'43
    refine goo (fun _ k => st'43.trans k) ?_
    show own_G _ _ _ _ (T'43.setTop (mkF m 156 #[iv x0, iv x1, iv x2, iv x3, iv x4, iv (own_c x0), iv (own_c x1), iv (own_c x2), iv (own_c x3), iv i_0, iv i_2, iv (own_aft x4), rv b'0, rv b'm, rv b'w, rv b'1r, .unset, .unset, .unset] [.ref b'1r]))
    refine goo (fun _ k => XS.pop X'43.here hx rfl (hb hby at_156) rfl rfl <| XS.iload X'43.here hx rfl (hb hby at_157) rfl <| XS.iconst X'43.here hx rfl (hb hby at_159) <| XS.icmpNo X'43.here hx rfl (hb hby at_160) rfl ((flt (by decide : ¬ (i_2 < i_2))).1) k) ?_
    refine goo (fun _ k => XS.aload X'43.here hx rfl (hb hby at_163) rfl rfl <| XS.iload X'43.here hx rfl (hb hby at_165) rfl k) ?_
    show own_G _ _ _ _ (T'43.setTop (mkF m 167 #[iv x0, iv x1, iv x2, iv x3, iv x4, iv (own_c x0), iv (own_c x1), iv (own_c x2), iv (own_c x3), iv i_0, iv i_2, iv (own_aft x4), rv b'0, rv b'm, rv b'w, rv b'1r, .unset, .unset, .unset] [(.int (own_c x1)), .ref b'1r]))
    obtain ⟨cq'4d, kq'4d, q'4da, q'4db, q'4dc⟩ := isOf hZ rfl G_44
    obtain ⟨_, _, ⟨T'4d, L'4d, k'4d, n'4d⟩, -, X'4d, ⟨Lc'4d, hQ'4d, l'4d, y'4d, z'4d⟩, st'4d⟩ := X'43.virtualBack hx (y := Y27) (z := Y27) hown (mvT hZ (qw hw 174 rfl)) (mvT hZ (qw hw 175 rfl)) (notFace_of_selects (args := #[]) (mvT hZ (qw hw 177 rfl))) (mvT hZ (qw hw 177 rfl)) (mvT hZ (qw hw 176 rfl)) (by decide) (backOf (W := 0) (rm_app1 l Z a0 hw [] b'1r (own_c x1) ca'2h ea'2h kc'2h ke'2h (own_c x2) i_0 i_0 i_0 i_0 i_0 i_0 i_0 i_0 i_0 i_1 i_0 T'43.heap n0 Z_4b G_44 G_45 G_46 G_47 G_48 G_49 G_4a ge_1w ge_2q ge_2w ne_2p ne_2v nab'2h (own_c_ok x1)) hZ (qw hw 178 rfl) (qw hw 46 rfl) (by decide) (by decide)) q'4da q'4dc (g := (mkF m 167 #[iv x0, iv x1, iv x2, iv x3, iv x4, iv (own_c x0), iv (own_c x1), iv (own_c x2), iv (own_c x3), iv i_0, iv i_2, iv (own_aft x4), rv b'0, rv b'm, rv b'w, rv b'1r, .unset, .unset, .unset] [(.int (own_c x1)), .ref b'1r])) rfl (by rw [hml]; rfl) (Steps.refl _) (argsL := [(.int (own_c x1))]) (rest := []) (lenOf own_pd25 rfl) rfl (Nat.le_of_eq rfl) (hb hby at_167) (fun _ _ => ⟨rfl, rfl, (by decide : 9 + 0 ≤ _), (by decide : 563 + 0 ≤ _)⟩)
    dsimp only [Pt.U, Pt.locs, Pt.cells, Pt.slots] at X'4d l'4d y'4d z'4d st'4d hQ'4d
    subst l'4d y'4d z'4d
    obtain ⟨rfl, Nq'4d, K'4d, G_4e, G_4f, G_4g, G_4h, G_4i, G_4j, G_4k⟩ := hQ'4d
    have Z_4l : n0 ≤ T'4d.heap.size := Nat.le_trans Z_4b K'4d.1
    have KP_4m : Keep T'2h.heap T'4d.heap [b'1r, ca'2h, ea'2h] := KP_4c.trans K'4d (allS (Or.inl (List.mem_of_getElem? (i := 0) rfl)) (allS (Or.inl (List.mem_of_getElem? (i := 1) rfl)) all0))
    have N_4d := Fr.app N_43 Nq'4d
    refine goo (fun _ k => st'4d.trans k) ?_
    refine goo (fun _ k => XS.pop X'4d.here hx rfl (hb hby at_170) rfl rfl <| XS.iload X'4d.here hx rfl (hb hby at_171) rfl <| XS.iconst X'4d.here hx rfl (hb hby at_173) <| XS.icmpYes X'4d.here hx rfl (pc0 := 174) (pc' := 185) rfl (hb hby at_174) rfl ((tlt (by decide : i_2 < i_3)).1) (by decide) (by decide) k) ?_
    refine goo (fun _ k => XS.aload X'4d.here hx rfl (hb hby at_185) rfl rfl k) ?_
    show own_G _ _ _ _ (T'4d.setTop (mkF m 187 #[iv x0, iv x1, iv x2, iv x3, iv x4, iv (own_c x0), iv (own_c x1), iv (own_c x2), iv (own_c x3), iv i_0, iv i_2, iv (own_aft x4), rv b'0, rv b'm, rv b'w, rv b'1r, .unset, .unset, .unset] [.ref b'1r]))
    obtain ⟨cq'4n, kq'4n, q'4na, q'4nb, q'4nc⟩ := isOf hZ rfl G_4e
    obtain ⟨_, _, ⟨T'4n, L'4n, k'4n, n'4n⟩, -, X'4n, ⟨Lc'4n, hQ'4n, l'4n, y'4n, z'4n⟩, st'4n⟩ := X'4d.virtualBack hx (y := Y31) (z := Y31) hown (mvT hZ (qw hw 66 rfl)) (mvT hZ (qw hw 67 rfl)) (notFace_of_selects (args := #[]) (mvT hZ (qw hw 69 rfl))) (mvT hZ (qw hw 69 rfl)) (mvT hZ (qw hw 68 rfl)) (by decide) (backOf (W := 0) (rm_dis0 l Z a0 hw [] b'1r ca'2h ea'2h kc'2h ke'2h (own_c x2) (own_c x1) i_0 i_0 i_0 i_0 i_0 i_0 i_0 i_0 i_2 T'4d.heap n0 Z_4l G_4e G_4f G_4g G_4h G_4i G_4j G_4k ge_1w ge_2q ge_2w ne_2p ne_2v nab'2h) hZ (qw hw 70 rfl) (qw hw 46 rfl) (by decide) (by decide)) q'4na q'4nc (g := (mkF m 187 #[iv x0, iv x1, iv x2, iv x3, iv x4, iv (own_c x0), iv (own_c x1), iv (own_c x2), iv (own_c x3), iv i_0, iv i_2, iv (own_aft x4), rv b'0, rv b'm, rv b'w, rv b'1r, .unset, .unset, .unset] [.ref b'1r])) rfl (by rw [hml]; rfl) (Steps.refl _) (argsL := []) (rest := []) (lenOf own_pd20 rfl) rfl (Nat.le_of_eq rfl) (hb hby at_187) (fun _ _ => ⟨rfl, rfl, (by decide : 9 + 0 ≤ _), (by decide : 563 + 0 ≤ _)⟩)
    dsimp only [Pt.U, Pt.locs, Pt.cells, Pt.slots] at X'4n l'4n y'4n z'4n st'4n hQ'4n
    subst l'4n y'4n z'4n
    obtain ⟨rfl, Nq'4n, K'4n, G_4o, G_4p, G_4q, G_4r, G_4s, G_4t, G_4u⟩ := hQ'4n
    have KP_4v : Keep T'2h.heap T'4n.heap [b'1r, ca'2h, ea'2h] := KP_4m.trans K'4n (allS (Or.inl (List.mem_of_getElem? (i := 0) rfl)) all0)
    have N_4n := Fr.app N_4d Nq'4n
    refine goo (fun _ k => st'4n.trans k) ?_
    exact hj _ _ X'4n (by exact ⟨N_4n, KP_4v, G_4o, G_4p, G_4q, G_4r, G_4s, G_4u, _, _, _, G_4t⟩)
   ·rw [hq] at hj ⊢
    show own_G _ _ _ _ (T'2h.setTop (mkF m 143 #[iv x0, iv x1, iv x2, iv x3, iv x4, iv (own_c x0), iv (own_c x1), iv (own_c x2), iv (own_c x3), iv i_0, iv i_3, iv (own_aft x4), rv b'0, rv b'm, rv b'w, rv b'1r, .unset, .unset, .unset] []))
    refine goo (fun _ k => XS.iload X'2h.here hx rfl (hb hby at_143) rfl <| XS.iconst X'2h.here hx rfl (hb hby at_145) <| XS.icmpNo X'2h.here hx rfl (hb hby at_146) rfl ((flt (by decide : ¬ (i_3 < i_1))).1) <| XS.aload X'2h.here hx rfl (hb hby at_149) rfl rfl k) ?_
    refine goo (fun _ k => XS.iload X'2h.here hx rfl (hb hby at_151) rfl k) ?_
    obtain ⟨cq'4w, kq'4w, q'4wa, q'4wb, q'4wc⟩ := isOf hZ rfl G_2i
    obtain ⟨_, _, ⟨T'4w, L'4w, k'4w, n'4w⟩, -, X'4w, ⟨Lc'4w, hQ'4w, l'4w, y'4w, z'4w⟩, st'4w⟩ := X'2h.virtualBack hx (y := Y27) (z := Y27) hown (mvT hZ (qw hw 174 rfl)) (mvT hZ (qw hw 175 rfl)) (notFace_of_selects (args := #[]) (mvT hZ (qw hw 177 rfl))) (mvT hZ (qw hw 177 rfl)) (mvT hZ (qw hw 176 rfl)) (by decide) (backOf (W := 0) (rm_app0 l Z a0 hw [] b'1r (own_c x2) ca'2h ea'2h kc'2h ke'2h i_0 i_0 i_0 i_0 i_0 i_0 i_0 i_0 i_0 i_0 i_0 i_0 T'2h.heap n0 Z_38 G_2i Fa'2h Fe'2h G_2j G_2k Va'2h Ve'2h ge_1w ge_2q ge_2w ne_2p ne_2v nab'2h (own_c_ok x2)) hZ (qw hw 178 rfl) (qw hw 46 rfl) (by decide) (by decide)) q'4wa q'4wc (g := (mkF m 153 #[iv x0, iv x1, iv x2, iv x3, iv x4, iv (own_c x0), iv (own_c x1), iv (own_c x2), iv (own_c x3), iv i_0, iv i_3, iv (own_aft x4), rv b'0, rv b'm, rv b'w, rv b'1r, .unset, .unset, .unset] [(.int (own_c x2)), .ref b'1r])) rfl (by rw [hml]; rfl) (Steps.refl _) (argsL := [(.int (own_c x2))]) (rest := []) (lenOf own_pd25 rfl) rfl (Nat.le_of_eq rfl) (hb hby at_153) (fun _ _ => ⟨rfl, rfl, (by decide : 9 + 0 ≤ _), (by decide : 563 + 0 ≤ _)⟩)
    dsimp only [Pt.U, Pt.locs, Pt.cells, Pt.slots] at X'4w l'4w y'4w z'4w st'4w hQ'4w
    subst l'4w y'4w z'4w
    obtain ⟨rfl, Nq'4w, K'4w, G_4x, G_4y, G_4z, G_50, G_51, G_52, G_53⟩ := hQ'4w
    have Z_54 : n0 ≤ T'4w.heap.size := Nat.le_trans Z_38 K'4w.1
    have KP_55 : Keep T'2h.heap T'4w.heap [b'1r, ca'2h, ea'2h] := (Keep.refl T'2h.heap [b'1r, ca'2h, ea'2h]).trans K'4w (allS (Or.inl (List.mem_of_getElem? (i := 0) rfl)) (allS (Or.inl (List.mem_of_getElem? (i := 1) rfl)) all0))
    have N_4w := Fr.app N_2h Nq'4w
    refine goo (fun _ k => st'4w.trans k) ?_
    show own_G _ _ _ _ (T'4w.setTop (mkF m 156 #[iv x0, iv x1, iv x2, iv x3, iv x4, iv (own_c x0), iv (own_c x1), iv (own_c x2), iv (own_c x3), iv i_0, iv i_3, iv (own_aft x4), rv b'0, rv b'm, rv b'w, rv b'1r, .unset, .unset, .unset] [.ref b'1r]))
    refine goo (fun _ k => XS.pop X'4w.here hx rfl (hb hby at_156) rfl rfl <| XS.iload X'4w.here hx rfl (hb hby at_157) rfl <| XS.iconst X'4w.here hx rfl (hb hby at_159) <| XS.icmpNo X'4w.here hx rfl (hb hby at_160) rfl ((flt (by decide : ¬ (i_3 < i_2))).1) k) ?_
    refine goo (fun _ k => XS.aload X'4w.here hx rfl (hb hby at_163) rfl rfl <| XS.iload X'4w.here hx rfl (hb hby at_165) rfl k) ?_
    show own_G _ _ _ _ (T'4w.setTop (mkF m 167 #[iv x0, iv x1, iv x2, iv x3, iv x4, iv (own_c x0), iv (own_c x1), iv (own_c x2), iv (own_c x3), iv i_0, iv i_3, iv (own_aft x4), rv b'0, rv b'm, rv b'w, rv b'1r, .unset, .unset, .unset] [(.int (own_c x1)), .ref b'1r]))
    obtain ⟨cq'56, kq'56, q'56a, q'56b, q'56c⟩ := isOf hZ rfl G_4x
    obtain ⟨_, _, ⟨T'56, L'56, k'56, n'56⟩, -, X'56, ⟨Lc'56, hQ'56, l'56, y'56, z'56⟩, st'56⟩ := X'4w.virtualBack hx (y := Y27) (z := Y27) hown (mvT hZ (qw hw 174 rfl)) (mvT hZ (qw hw 175 rfl)) (notFace_of_selects (args := #[]) (mvT hZ (qw hw 177 rfl))) (mvT hZ (qw hw 177 rfl)) (mvT hZ (qw hw 176 rfl)) (by decide) (backOf (W := 0) (rm_app1 l Z a0 hw [] b'1r (own_c x1) ca'2h ea'2h kc'2h ke'2h (own_c x2) i_0 i_0 i_0 i_0 i_0 i_0 i_0 i_0 i_0 i_1 i_0 T'4w.heap n0 Z_54 G_4x G_4y G_4z G_50 G_51 G_52 G_53 ge_1w ge_2q ge_2w ne_2p ne_2v nab'2h (own_c_ok x1)) hZ (qw hw 178 rfl) (qw hw 46 rfl) (by decide) (by decide)) q'56a q'56c (g := (mkF m 167 #[iv x0, iv x1, iv x2, iv x3, iv x4, iv (own_c x0), iv (own_c x1), iv (own_c x2), iv (own_c x3), iv i_0, iv i_3, iv (own_aft x4), rv b'0, rv b'm, rv b'w, rv b'1r, .unset, .unset, .unset] [(.int (own_c x1)), .ref b'1r])) rfl (by rw [hml]; rfl) (Steps.refl _) (argsL := [(.int (own_c x1))]) (rest := []) (lenOf own_pd25 rfl) rfl (Nat.le_of_eq rfl) (hb hby at_167) (fun _ _ => ⟨rfl, rfl, (by decide : 9 + 0 ≤ _), (by decide : 563 + 0 ≤ _)⟩)
    dsimp only [Pt.U, Pt.locs, Pt.cells, Pt.slots] at X'56 l'56 y'56 z'56 st'56 hQ'56
    subst l'56 y'56 z'56
    obtain ⟨rfl, Nq'56, K'56, G_57, G_58, G_59, G_5a, G_5b, G_5c, G_5d⟩ := hQ'56
    have Z_5e : n0 ≤ T'56.heap.size := Nat.le_trans Z_54 K'56.1
    have KP_5f : Keep T'2h.heap T'56.heap [b'1r, ca'2h, ea'2h] := KP_55.trans K'56 (allS (Or.inl (List.mem_of_getElem? (i := 0) rfl)) (allS (Or.inl (List.mem_of_getElem? (i := 1) rfl)) all0))
    have N_56 := Fr.app N_4w Nq'56
    refine goo (fun _ k => st'56.trans k) ?_
    refine goo (fun _ k => XS.pop X'56.here hx rfl (hb hby at_170) rfl rfl <| XS.iload X'56.here hx rfl (hb hby at_171) rfl <| XS.iconst X'56.here hx rfl (hb hby at_173) <| XS.icmpNo X'56.here hx rfl (hb hby at_174) rfl ((flt (by decide : ¬ (i_3 < i_3))).1) k) ?_
    refine goo (fun _ k => XS.aload X'56.here hx rfl (hb hby at_177) rfl rfl k) ?_
    show own_G _ _ _ _ (T'56.setTop (mkF m 179 #[iv x0, iv x1, iv x2, iv x3, iv x4, iv (own_c x0), iv (own_c x1), iv (own_c x2), iv (own_c x3), iv i_0, iv i_3, iv (own_aft x4), rv b'0, rv b'm, rv b'w, rv b'1r, .unset, .unset, .unset] [.ref b'1r]))
    refine goo (fun _ k => XS.iload X'56.here hx rfl (hb hby at_179) rfl k) ?_
    obtain ⟨cq'5g, kq'5g, q'5ga, q'5gb, q'5gc⟩ := isOf hZ rfl G_57
    obtain ⟨_, _, ⟨T'5g, L'5g, k'5g, n'5g⟩, -, X'5g, ⟨Lc'5g, hQ'5g, l'5g, y'5g, z'5g⟩, st'5g⟩ := X'56.virtualBack hx (y := Y27) (z := Y27) hown (mvT hZ (qw hw 174 rfl)) (mvT hZ (qw hw 175 rfl)) (notFace_of_selects (args := #[]) (mvT hZ (qw hw 177 rfl))) (mvT hZ (qw hw 177 rfl)) (mvT hZ (qw hw 176 rfl)) (by decide) (backOf (W := 0) (rm_app2 l Z a0 hw [] b'1r (own_c x3) ca'2h ea'2h kc'2h ke'2h (own_c x2) (own_c x1) i_0 i_0 i_0 i_0 i_0 i_0 i_0 i_0 i_2 i_0 T'56.heap n0 Z_5e G_57 G_58 G_59 G_5a G_5b G_5c G_5d ge_1w ge_2q ge_2w ne_2p ne_2v nab'2h (own_c_ok x3)) hZ (qw hw 178 rfl) (qw hw 46 rfl) (by decide) (by decide)) q'5ga q'5gc (g := (mkF m 181 #[iv x0, iv x1, iv x2, iv x3, iv x4, iv (own_c x0), iv (own_c x1), iv (own_c x2), iv (own_c x3), iv i_0, iv i_3, iv (own_aft x4), rv b'0, rv b'm, rv b'w, rv b'1r, .unset, .unset, .unset] [(.int (own_c x3)), .ref b'1r])) rfl (by rw [hml]; rfl) (Steps.refl _) (argsL := [(.int (own_c x3))]) (rest := []) (lenOf own_pd25 rfl) rfl (Nat.le_of_eq rfl) (hb hby at_181) (fun _ _ => ⟨rfl, rfl, (by decide : 9 + 0 ≤ _), (by decide : 563 + 0 ≤ _)⟩)
    dsimp only [Pt.U, Pt.locs, Pt.cells, Pt.slots] at X'5g l'5g y'5g z'5g st'5g hQ'5g
    subst l'5g y'5g z'5g
    obtain ⟨rfl, Nq'5g, K'5g, G_5h, G_5i, G_5j, G_5k, G_5l, G_5m, G_5n⟩ := hQ'5g
    have Z_5o : n0 ≤ T'5g.heap.size := Nat.le_trans Z_5e K'5g.1
    have KP_5p : Keep T'2h.heap T'5g.heap [b'1r, ca'2h, ea'2h] := KP_5f.trans K'5g (allS (Or.inl (List.mem_of_getElem? (i := 0) rfl)) (allS (Or.inl (List.mem_of_getElem? (i := 1) rfl)) all0))
    have N_5g := Fr.app N_56 Nq'5g
    refine goo (fun _ k => st'5g.trans k) ?_
    refine goo (fun _ k => XS.pop X'5g.here hx rfl (hb hby at_184) rfl rfl <| XS.aload X'5g.here hx rfl (hb hby at_185) rfl rfl k) ?_
    obtain ⟨cq'5q, kq'5q, q'5qa, q'5qb, q'5qc⟩ := isOf hZ rfl G_5h
    obtain ⟨_, _, ⟨T'5q, L'5q, k'5q, n'5q⟩, -, X'5q, ⟨Lc'5q, hQ'5q, l'5q, y'5q, z'5q⟩, st'5q⟩ := X'5g.virtualBack hx (y := Y31) (z := Y31) hown (mvT hZ (qw hw 66 rfl)) (mvT hZ (qw hw 67 rfl)) (notFace_of_selects (args := #[]) (mvT hZ (qw hw 69 rfl))) (mvT hZ (qw hw 69 rfl)) (mvT hZ (qw hw 68 rfl)) (by decide) (backOf (W := 0) (rm_dis0 l Z a0 hw [] b'1r ca'2h ea'2h kc'2h ke'2h (own_c x2) (own_c x1) (own_c x3) i_0 i_0 i_0 i_0 i_0 i_0 i_0 i_3 T'5g.heap n0 Z_5o G_5h G_5i G_5j G_5k G_5l G_5m G_5n ge_1w ge_2q ge_2w ne_2p ne_2v nab'2h) hZ (qw hw 70 rfl) (qw hw 46 rfl) (by decide) (by decide)) q'5qa q'5qc (g := (mkF m 187 #[iv x0, iv x1, iv x2, iv x3, iv x4, iv (own_c x0), iv (own_c x1), iv (own_c x2), iv (own_c x3), iv i_0, iv i_3, iv (own_aft x4), rv b'0, rv b'm, rv b'w, rv b'1r, .unset, .unset, .unset] [.ref b'1r])) rfl (by rw [hml]; rfl) (Steps.refl _) (argsL := []) (rest := []) (lenOf own_pd20 rfl) rfl (Nat.le_of_eq rfl) (hb hby at_187) (fun _ _ => ⟨rfl, rfl, (by decide : 9 + 0 ≤ _), (by decide : 563 + 0 ≤ _)⟩)
    dsimp only [Pt.U, Pt.locs, Pt.cells, Pt.slots] at X'5q l'5q y'5q z'5q st'5q hQ'5q
    subst l'5q y'5q z'5q
    obtain ⟨rfl, Nq'5q, K'5q, G_5r, G_5s, G_5t, G_5u, G_5v, G_5w, G_5x⟩ := hQ'5q
    have KP_5y : Keep T'2h.heap T'5q.heap [b'1r, ca'2h, ea'2h] := KP_5p.trans K'5q (allS (Or.inl (List.mem_of_getElem? (i := 0) rfl)) all0)
    have N_5q := Fr.app N_5g Nq'5q
    refine goo (fun _ k => st'5q.trans k) ?_
    exact hj _ _ X'5q (by exact ⟨N_5q, KP_5y, G_5r, G_5s, G_5t, G_5u, G_5v, G_5x, _, _, _, G_5w⟩)
  obtain ⟨Nq'3a, K'3a, Xr'3a, Fa'3a, Fe'3a, Fl'3a, Fs'3a, Ve'3a, g0, g1, g2, Va'3a⟩ := hJ'3a
  have S_5z := own_staKeep S_2x K'3a (allS (own_nsX G_2i) (allS (own_nsV Va'2h) (allS (own_nsV Ve'2h) all0)))
  have S_60 := own_staKeep S_2y K'3a (allS (own_nsX G_2i) (allS (own_nsV Va'2h) (allS (own_nsV Ve'2h) all0)))
  have Old_61 := Old_2z.keep K'3a (allS ge_1w (allS ge_2q (allS ge_2w all0)))
  have Z_62 : n0 ≤ T'3a.heap.size := Nat.le_trans Z_38 K'3a.1
  have hk_63 := Nat.le_trans hk_39 K'3a.1
  show own_G _ _ _ _ (T'3a.setTop (mkF m 190 #[iv x0, iv x1, iv x2, iv x3, iv x4, iv (own_c x0), iv (own_c x1), iv (own_c x2), iv (own_c x3), iv i_0, iv (own_pend x4), iv (own_aft x4), rv b'0, rv b'm, rv b'w, rv b'1r, .unset, .unset, .unset] []))
  refine goo (fun _ k => XS.iload X'3a.here hx rfl (hb hby at_190) rfl k) ?_
  by_cases hc192_1923 : (own_aft x4) = i_0
  ·refine goo (fun _ k => XS.ifYes X'3a.here hx rfl (pc0 := 192) (pc' := 203) rfl (hb hby at_192) rfl (((if0 _ _).trans (teq hc192_1923).1)) (by decide) (by decide) k) ?_
   refine goo (fun _ k => XS.aload X'3a.here hx rfl (hb hby at_203) rfl rfl k) ?_
   obtain ⟨cq'64, kq'64, q'64a, q'64b, q'64c⟩ := isOf hZ rfl Xr'3a
   obtain ⟨_, _, ⟨T'64, L'64, k'64, n'64⟩, -, X'64, ⟨Lc'64, hQ'64, l'64, y'64, z'64⟩, st'64⟩ := X'3a.virtualBack hx (y := Y26) (z := Y26) hown (mvT hZ (qw hw 75 rfl)) (mvT hZ (qw hw 76 rfl)) (notFace_of_selects (args := #[]) (mvT hZ (qw hw 78 rfl))) (mvT hZ (qw hw 78 rfl)) (mvT hZ (qw hw 77 rfl)) (by decide) (backOf (W := 0) (rm_end0 l Z a0 hw [] b'1r ca'2h ea'2h kc'2h ke'2h g0 g1 g2 i_0 i_0 i_0 i_0 i_0 i_0 i_0 i_0 T'3a.heap n0 Z_62 Xr'3a Fa'3a Fe'3a Fl'3a Fs'3a Va'3a Ve'3a ge_1w ge_2q ge_2w ne_2p ne_2v nab'2h) hZ (qw hw 79 rfl) (qw hw 46 rfl) (by decide) (by decide)) q'64a q'64c (g := (mkF m 205 #[iv x0, iv x1, iv x2, iv x3, iv x4, iv (own_c x0), iv (own_c x1), iv (own_c x2), iv (own_c x3), iv i_0, iv (own_pend x4), iv (own_aft x4), rv b'0, rv b'm, rv b'w, rv b'1r, .unset, .unset, .unset] [.ref b'1r])) rfl (by rw [hml]; rfl) (Steps.refl _) (argsL := []) (rest := []) (lenOf own_pd20 rfl) rfl (Nat.le_of_eq rfl) (hb hby at_205) (fun _ _ => ⟨rfl, rfl, (by decide : 9 + 0 ≤ _), (by decide : 563 + 0 ≤ _)⟩)
   dsimp only [Pt.U, Pt.locs, Pt.cells, Pt.slots] at X'64 l'64 y'64 z'64 st'64 hQ'64
   subst l'64 y'64 z'64
   obtain ⟨rfl, Nq'64, K'64, G_65, G_66, G_67, G_68, G_69, G_6a, G_6b⟩ := hQ'64
   have S_6c := own_staKeep S_5z K'64 (allS (own_nsX Xr'3a) (allS (own_nsV Ve'3a) all0))
   have S_6d := own_staKeep S_60 K'64 (allS (own_nsX Xr'3a) (allS (own_nsV Ve'3a) all0))
   have Old_6e := Old_61.keep K'64 (allS ge_1w (allS ge_2w all0))
   have Z_6f : n0 ≤ T'64.heap.size := Nat.le_trans Z_62 K'64.1
   have hk_6g := Nat.le_trans hk_63 K'64.1
   have N_64 := Fr.app Nq'3a Nq'64
   refine goo (fun _ k => st'64.trans k) ?_
   refine goo (fun _ k => XS.iload X'64.here hx rfl (hb hby at_208) rfl <| XS.ifYes X'64.here hx rfl (pc0 := 210) (pc' := 217) rfl (hb hby at_210) rfl (((if0 _ _).trans (teq hc192_1923).1)) (by decide) (by decide) k) ?_
   show own_G _ _ _ _ (T'64.setTop (mkF m 217 #[iv x0, iv x1, iv x2, iv x3, iv x4, iv (own_c x0), iv (own_c x1), iv (own_c x2), iv (own_c x3), iv i_0, iv (own_pend x4), iv (own_aft x4), rv b'0, rv b'm, rv b'w, rv b'1r, .unset, .unset, .unset] []))
   refine goo (fun _ k => XS.iconst X'64.here hx rfl (hb hby at_217) <| XS.istore X'64.here hx rfl (hb hby at_218) rfl (l' := #[iv x0, iv x1, iv x2, iv x3, iv x4, iv (own_c x0), iv (own_c x1), iv (own_c x2), iv (own_c x3), iv i_0, iv (own_pend x4), iv (own_aft x4), rv b'0, rv b'm, rv b'w, rv b'1r, iv i_0, .unset, .unset]) rfl <| XS.aload X'64.here hx rfl (hb hby at_220) rfl rfl k) ?_
   obtain ⟨T'6h, X'6h, e'6h, st'6h⟩ := own_callV X'64 hx hZ (y := Y32) hown (qw hw 80 rfl) (qw hw 81 rfl) (qw hw 83 rfl) (qw hw 82 rfl) (qw hw 46 rfl) (qw hw 84 rfl) (by decide) (W := 0) (rm15 l Z a0 hw [] b'1r i_1 T'64.heap G_69) (by decide) (by decide) rfl rfl rfl G_65 (g := (mkF m 222 #[iv x0, iv x1, iv x2, iv x3, iv x4, iv (own_c x0), iv (own_c x1), iv (own_c x2), iv (own_c x3), iv i_0, iv (own_pend x4), iv (own_aft x4), rv b'0, rv b'm, rv b'w, rv b'1r, iv i_0, .unset, .unset] [.ref b'1r])) rfl (by rw [hml]; rfl) (argsL := []) (rest := []) (lenOf own_pd18 rfl) rfl rfl (Nat.le_of_eq rfl) (hb hby at_222) (by decide) (by decide)
   refine goo st'6h ?_
   refine goo (fun _ k => XS.iload X'6h.here hx rfl (hb hby at_225) rfl <| XS.iconst X'6h.here hx rfl (hb hby at_227) k) ?_
   show own_G _ _ _ _ (T'6h.setTop (mkF m 228 #[iv x0, iv x1, iv x2, iv x3, iv x4, iv (own_c x0), iv (own_c x1), iv (own_c x2), iv (own_c x3), iv i_0, iv (own_pend x4), iv (own_aft x4), rv b'0, rv b'm, rv b'w, rv b'1r, iv i_0, .unset, .unset] [.int i_1, .int i_0, .int i_1]))
   refine goo (fun _ k => XS.iadd X'6h.here hx rfl (hb hby at_228) rfl <| XS.icmpYes X'6h.here hx rfl (pc0 := 229) (pc' := 234) rfl (hb hby at_229) rfl ((teq (by decide : i_1 = i_1)).1) (by decide) (by decide) <| XS.aload X'6h.here hx rfl (hb hby at_234) rfl rfl <| XS.iload X'6h.here hx rfl (hb hby at_236) rfl k) ?_
   obtain ⟨T'6i, X'6i, e'6i, st'6i⟩ := own_callV X'6h hx hZ (y := Y35) hown (qw hw 85 rfl) (qw hw 86 rfl) (qw hw 88 rfl) (qw hw 87 rfl) (qw hw 46 rfl) (qw hw 89 rfl) (by decide) (W := 0) (rm_ln00 l Z a0 hw [] b'1r ea'2h ke'2h i_0 i_0 i_0 T'64.heap G_65 G_69 G_67 G_6b) (by decide) (by decide) rfl rfl e'6h G_65 (g := (mkF m 238 #[iv x0, iv x1, iv x2, iv x3, iv x4, iv (own_c x0), iv (own_c x1), iv (own_c x2), iv (own_c x3), iv i_0, iv (own_pend x4), iv (own_aft x4), rv b'0, rv b'm, rv b'w, rv b'1r, iv i_0, .unset, .unset] [.int i_0, .ref b'1r])) rfl (by rw [hml]; rfl) (argsL := [.int i_0]) (rest := []) (lenOf own_pd21 rfl) rfl rfl (Nat.le_of_eq rfl) (hb hby at_238) (by decide) (by decide)
   refine goo st'6i ?_
   refine goo (fun _ k => XS.iload X'6i.here hx rfl (hb hby at_241) rfl k) ?_
   show own_G _ _ _ _ (T'6i.setTop (mkF m 243 #[iv x0, iv x1, iv x2, iv x3, iv x4, iv (own_c x0), iv (own_c x1), iv (own_c x2), iv (own_c x3), iv i_0, iv (own_pend x4), iv (own_aft x4), rv b'0, rv b'm, rv b'w, rv b'1r, iv i_0, .unset, .unset] [.int i_0, .int i_0]))
   refine goo (fun _ k => XS.icmpYes X'6i.here hx rfl (pc0 := 243) (pc' := 248) rfl (hb hby at_243) rfl ((teq (by decide : i_0 = i_0)).1) (by decide) (by decide) <| XS.aload X'6i.here hx rfl (hb hby at_248) rfl rfl <| XS.iload X'6i.here hx rfl (hb hby at_250) rfl k) ?_
   obtain ⟨cq'6j, kq'6j, q'6ja, q'6jb, q'6jc⟩ := isOf hZ e'6i G_65
   obtain ⟨_, _, ⟨T'6j, L'6j, k'6j, n'6j⟩, -, X'6j, hSn, hgr, ⟨Lc'6j, hQ'6j, l'6j, y'6j, z'6j⟩, st'6j⟩ := X'6i.virtualBackS hx (y := Y36) (z := Y36) hown (mvT hZ (qw hw 100 rfl)) (mvT hZ (qw hw 101 rfl)) (notFace_of_selects (args := #[]) (mvT hZ (qw hw 103 rfl))) (mvT hZ (qw hw 103 rfl)) (mvT hZ (qw hw 102 rfl)) (by decide) (own_backI (W := 0) (rm_va00_0 l Z a0 hw [] b'1r ca'2h ea'2h kc'2h ke'2h g0 g1 g2 i_0 i_0 i_0 i_0 i_0 i_0 cz fz T'64.heap n0 Z_6f G_65 G_66 G_67 G_69 G_6a G_6b S_6c hcz S_6d Old_6e held hcw hfz) hZ hI (qw hw 104 rfl) (qw hw 46 rfl) (by decide) (by decide)) q'6ja q'6jc (g := (mkF m 252 #[iv x0, iv x1, iv x2, iv x3, iv x4, iv (own_c x0), iv (own_c x1), iv (own_c x2), iv (own_c x3), iv i_0, iv (own_pend x4), iv (own_aft x4), rv b'0, rv b'm, rv b'w, rv b'1r, iv i_0, .unset, .unset] [.int i_0, .ref b'1r])) rfl (by rw [hml]; rfl) (Steps.refl _) (argsL := [.int i_0]) (rest := []) (lenOf own_pd26 rfl) rfl (Nat.le_of_eq rfl) (hb hby at_252) (fun _ _ => ⟨rfl, e'6i, (by decide : 9 + 3 ≤ _), (by decide : 563 + 8 ≤ _)⟩)
   dsimp only [Pt.U, Pt.locs, Pt.cells, Pt.slots] at X'6j l'6j y'6j z'6j st'6j hQ'6j hSn hgr
   subst l'6j y'6j z'6j
   obtain ⟨b'6j, rfl, Nq'6j, K'6j, gz'6j, G_6k, G_6l, qx'6j⟩ := hQ'6j
   obtain ⟨vb'6j, kv'6j, Fv'6j, Vv'6j⟩ := qx'6j
   have hS := foldS (s := s) hS (by rw [e'6i]; exact hk_6g) hSn hgr
   have hZ := State.Warmed39.trans (t := s) hZ hSn.1
   have hown : (s.setVm T'6j.vm).vm.findClass s_4 = some m.cls := by rw [show (s.setVm T'6j.vm).vm = T'6j.vm from rfl, hSn.1.alike.findClass]; exact hown
   have hk'6j : T'6j.heap.size ≤ T'6j.heap.size := Nat.le_refl _
   have N_6j := Fr.app N_64 Nq'6j
   have X'6j : Stand p l e _ (s.setVm T'6j.vm) m _ below meth c T'6j _ _ _ := X'6j
   refine goo (fun _ k => st'6j.trans k) ?_
   refine goo (fun _ k => XS.astore X'6j.here hx rfl (hb hby at_255) rfl rfl (l' := #[iv x0, iv x1, iv x2, iv x3, iv x4, iv (own_c x0), iv (own_c x1), iv (own_c x2), iv (own_c x3), iv i_0, iv (own_pend x4), iv (own_aft x4), rv b'0, rv b'm, rv b'w, rv b'1r, iv i_0, rv b'6j, .unset]) rfl <| XS.iload X'6j.here hx rfl (hb hby at_257) rfl k) ?_
   show own_G _ _ _ _ (T'6j.setTop (mkF m 259 #[iv x0, iv x1, iv x2, iv x3, iv x4, iv (own_c x0), iv (own_c x1), iv (own_c x2), iv (own_c x3), iv i_0, iv (own_pend x4), iv (own_aft x4), rv b'0, rv b'm, rv b'w, rv b'1r, iv i_0, rv b'6j, .unset] [(.int (own_aft x4))]))
   refine goo (fun _ k => XS.ifYes X'6j.here hx rfl (pc0 := 259) (pc' := 275) rfl (hb hby at_259) rfl (((if0 _ _).trans (teq hc192_1923).1)) (by decide) (by decide) <| XS.aload X'6j.here hx rfl (hb hby at_275) rfl rfl k) ?_
   obtain ⟨T'6m, X'6m, e'6m, st'6m⟩ := own_callV X'6j hx hZ (y := Y13) hown (qw hw 123 rfl) (qw hw 124 rfl) (qw hw 126 rfl) (qw hw 125 rfl) (qw hw 3 rfl) (qw hw 127 rfl) (by decide) (W := 0) (rm24 l Z a0 hw [] b'6j vb'6j kv'6j T'6j.heap Fv'6j Vv'6j) (by decide) (by decide) rfl rfl rfl G_6k (g := (mkF m 277 #[iv x0, iv x1, iv x2, iv x3, iv x4, iv (own_c x0), iv (own_c x1), iv (own_c x2), iv (own_c x3), iv i_0, iv (own_pend x4), iv (own_aft x4), rv b'0, rv b'm, rv b'w, rv b'1r, iv i_0, rv b'6j, .unset] [.ref b'6j])) rfl (by rw [hml]; rfl) (argsL := []) (rest := []) (lenOf own_pd5 rfl) rfl rfl (Nat.le_of_eq rfl) (hb hby at_277) (by decide) (by decide)
   refine goo st'6m ?_
   refine goo (fun _ k => XS.istore X'6m.here hx rfl (hb hby at_280) rfl (l' := #[iv x0, iv x1, iv x2, iv x3, iv x4, iv (own_c x0), iv (own_c x1), iv (own_c x2), iv (own_c x3), iv i_0, iv (own_pend x4), iv (own_aft x4), rv b'0, rv b'm, rv b'w, rv b'1r, iv i_0, rv b'6j, iv i_1]) rfl <| XS.iload X'6m.here hx rfl (hb hby at_282) rfl <| XS.ifYes X'6m.here hx rfl (pc0 := 284) (pc' := 289) rfl (hb hby at_284) rfl (((if0 _ _).trans (feq (by decide : ¬ (i_1 = i_0))).2)) (by decide) (by decide) k) ?_
   show own_G _ _ _ _ (T'6m.setTop (mkF m 289 #[iv x0, iv x1, iv x2, iv x3, iv x4, iv (own_c x0), iv (own_c x1), iv (own_c x2), iv (own_c x3), iv i_0, iv (own_pend x4), iv (own_aft x4), rv b'0, rv b'm, rv b'w, rv b'1r, iv i_0, rv b'6j, iv i_1] []))
   refine goo (fun _ k => XS.iload X'6m.here hx rfl (hb hby at_289) rfl <| XS.iconst X'6m.here hx rfl (hb hby at_291) <| XS.icmpYes X'6m.here hx rfl (pc0 := 292) (pc' := 311) rfl (hb hby at_292) rfl ((feq (by decide : ¬ (i_0 = i_3))).2) (by decide) (by decide) <| XS.iconst X'6m.here hx rfl (hb hby at_311) k) ?_
   show own_G _ _ _ _ (T'6m.setTop (mkF m 312 #[iv x0, iv x1, iv x2, iv x3, iv x4, iv (own_c x0), iv (own_c x1), iv (own_c x2), iv (own_c x3), iv i_0, iv (own_pend x4), iv (own_aft x4), rv b'0, rv b'm, rv b'w, rv b'1r, iv i_0, rv b'6j, iv i_1] [.int i_1]))
   exact own_endW X'6m Bd.notSynchronized hS (by rw [e'6m]; exact hk'6j) (v := some (.int (nar .boolean i_1))) (fun h => by rw [Bd.returns] at h; cases h) (Q := QL (some (.int i_1)) n0) ⟨rfl, N_6j⟩ (fun fs hr => retN X'6m hx (t := .boolean) Bd.returns (by simp) (hb hby at_312) hr) (by decide) (by decide)
  ·refine goo (fun _ k => XS.ifNo X'3a.here hx rfl (hb hby at_192) rfl (((if0 _ _).trans (feq hc192_1923).1)) k) ?_
   refine goo (fun _ k => XS.aload X'3a.here hx rfl (hb hby at_195) rfl rfl <| XS.iload X'3a.here hx rfl (hb hby at_197) rfl k) ?_
   obtain ⟨cq'6n, kq'6n, q'6na, q'6nb, q'6nc⟩ := isOf hZ rfl Xr'3a
   obtain ⟨_, _, ⟨T'6n, L'6n, k'6n, n'6n⟩, -, X'6n, ⟨Lc'6n, hQ'6n, l'6n, y'6n, z'6n⟩, st'6n⟩ := X'3a.virtualBack hx (y := Y27) (z := Y27) hown (mvT hZ (qw hw 174 rfl)) (mvT hZ (qw hw 175 rfl)) (notFace_of_selects (args := #[]) (mvT hZ (qw hw 177 rfl))) (mvT hZ (qw hw 177 rfl)) (mvT hZ (qw hw 176 rfl)) (by decide) (backOf (W := 0) (rm_app0 l Z a0 hw [] b'1r (own_c x3) ca'2h ea'2h kc'2h ke'2h g0 g1 g2 i_0 i_0 i_0 i_0 i_0 i_0 i_0 i_0 i_0 T'3a.heap n0 Z_62 Xr'3a Fa'3a Fe'3a Fl'3a Fs'3a Va'3a Ve'3a ge_1w ge_2q ge_2w ne_2p ne_2v nab'2h (own_c_ok x3)) hZ (qw hw 178 rfl) (qw hw 46 rfl) (by decide) (by decide)) q'6na q'6nc (g := (mkF m 199 #[iv x0, iv x1, iv x2, iv x3, iv x4, iv (own_c x0), iv (own_c x1), iv (own_c x2), iv (own_c x3), iv i_0, iv (own_pend x4), iv (own_aft x4), rv b'0, rv b'm, rv b'w, rv b'1r, .unset, .unset, .unset] [(.int (own_c x3)), .ref b'1r])) rfl (by rw [hml]; rfl) (Steps.refl _) (argsL := [(.int (own_c x3))]) (rest := []) (lenOf own_pd25 rfl) rfl (Nat.le_of_eq rfl) (hb hby at_199) (fun _ _ => ⟨rfl, rfl, (by decide : 9 + 0 ≤ _), (by decide : 563 + 0 ≤ _)⟩)
   dsimp only [Pt.U, Pt.locs, Pt.cells, Pt.slots] at X'6n l'6n y'6n z'6n st'6n hQ'6n
   subst l'6n y'6n z'6n
   obtain ⟨rfl, Nq'6n, K'6n, G_6o, G_6p, G_6q, G_6r, G_6s, G_6t, G_6u⟩ := hQ'6n
   have S_6v := own_staKeep S_5z K'6n (allS (own_nsX Xr'3a) (allS (own_nsV Va'3a) all0))
   have S_6w := own_staKeep S_60 K'6n (allS (own_nsX Xr'3a) (allS (own_nsV Va'3a) all0))
   have Z_6x : n0 ≤ T'6n.heap.size := Nat.le_trans Z_62 K'6n.1
   have hk_6y := Nat.le_trans hk_63 K'6n.1
   have N_6n := Fr.app Nq'3a Nq'6n
   refine goo (fun _ k => st'6n.trans k) ?_
   refine goo (fun _ k => XS.pop X'6n.here hx rfl (hb hby at_202) rfl rfl k) ?_
   show own_G _ _ _ _ (T'6n.setTop (mkF m 203 #[iv x0, iv x1, iv x2, iv x3, iv x4, iv (own_c x0), iv (own_c x1), iv (own_c x2), iv (own_c x3), iv i_0, iv (own_pend x4), iv (own_aft x4), rv b'0, rv b'm, rv b'w, rv b'1r, .unset, .unset, .unset] []))
   refine goo (fun _ k => XS.aload X'6n.here hx rfl (hb hby at_203) rfl rfl k) ?_
   obtain ⟨cq'6z, kq'6z, q'6za, q'6zb, q'6zc⟩ := isOf hZ rfl G_6o
   obtain ⟨_, _, ⟨T'6z, L'6z, k'6z, n'6z⟩, -, X'6z, ⟨Lc'6z, hQ'6z, l'6z, y'6z, z'6z⟩, st'6z⟩ := X'6n.virtualBack hx (y := Y26) (z := Y26) hown (mvT hZ (qw hw 75 rfl)) (mvT hZ (qw hw 76 rfl)) (notFace_of_selects (args := #[]) (mvT hZ (qw hw 78 rfl))) (mvT hZ (qw hw 78 rfl)) (mvT hZ (qw hw 77 rfl)) (by decide) (backOf (W := 0) (rm_end0 l Z a0 hw [] b'1r ca'2h ea'2h kc'2h ke'2h (own_c x3) g1 g2 i_0 i_0 i_0 i_0 i_0 i_0 i_0 i_1 T'6n.heap n0 Z_6x G_6o G_6p G_6q G_6r G_6s G_6t G_6u ge_1w ge_2q ge_2w ne_2p ne_2v nab'2h) hZ (qw hw 79 rfl) (qw hw 46 rfl) (by decide) (by decide)) q'6za q'6zc (g := (mkF m 205 #[iv x0, iv x1, iv x2, iv x3, iv x4, iv (own_c x0), iv (own_c x1), iv (own_c x2), iv (own_c x3), iv i_0, iv (own_pend x4), iv (own_aft x4), rv b'0, rv b'm, rv b'w, rv b'1r, .unset, .unset, .unset] [.ref b'1r])) rfl (by rw [hml]; rfl) (Steps.refl _) (argsL := []) (rest := []) (lenOf own_pd20 rfl) rfl (Nat.le_of_eq rfl) (hb hby at_205) (fun _ _ => ⟨rfl, rfl, (by decide : 9 + 0 ≤ _), (by decide : 563 + 0 ≤ _)⟩)
   dsimp only [Pt.U, Pt.locs, Pt.cells, Pt.slots] at X'6z l'6z y'6z z'6z st'6z hQ'6z
   subst l'6z y'6z z'6z
   obtain ⟨rfl, Nq'6z, K'6z, G_70, G_71, G_72, G_73, G_74, G_75, G_76⟩ := hQ'6z
   have S_77 := own_staKeep S_6v K'6z (allS (own_nsX G_6o) (allS (own_nsV G_6u) all0))
   have S_78 := own_staKeep S_6w K'6z (allS (own_nsX G_6o) (allS (own_nsV G_6u) all0))
   have Z_79 : n0 ≤ T'6z.heap.size := Nat.le_trans Z_6x K'6z.1
   have hk_7a := Nat.le_trans hk_6y K'6z.1
   have N_6z := Fr.app N_6n Nq'6z
   refine goo (fun _ k => st'6z.trans k) ?_
   refine goo (fun _ k => XS.iload X'6z.here hx rfl (hb hby at_208) rfl <| XS.ifNo X'6z.here hx rfl (hb hby at_210) rfl (((if0 _ _).trans (feq hc192_1923).1)) <| XS.iconst X'6z.here hx rfl (hb hby at_213) <| XS.goto X'6z.here hx rfl (pc0 := 214) (pc' := 218) rfl (hb hby at_214) (by decide) (by decide) k) ?_
   show own_G _ _ _ _ (T'6z.setTop (mkF m 218 #[iv x0, iv x1, iv x2, iv x3, iv x4, iv (own_c x0), iv (own_c x1), iv (own_c x2), iv (own_c x3), iv i_0, iv (own_pend x4), iv (own_aft x4), rv b'0, rv b'm, rv b'w, rv b'1r, .unset, .unset, .unset] [.int i_1]))
   refine goo (fun _ k => XS.istore X'6z.here hx rfl (hb hby at_218) rfl (l' := #[iv x0, iv x1, iv x2, iv x3, iv x4, iv (own_c x0), iv (own_c x1), iv (own_c x2), iv (own_c x3), iv i_0, iv (own_pend x4), iv (own_aft x4), rv b'0, rv b'm, rv b'w, rv b'1r, iv i_1, .unset, .unset]) rfl <| XS.aload X'6z.here hx rfl (hb hby at_220) rfl rfl k) ?_
   obtain ⟨T'7b, X'7b, e'7b, st'7b⟩ := own_callV X'6z hx hZ (y := Y32) hown (qw hw 80 rfl) (qw hw 81 rfl) (qw hw 83 rfl) (qw hw 82 rfl) (qw hw 46 rfl) (qw hw 84 rfl) (by decide) (W := 0) (rm15 l Z a0 hw [] b'1r i_1 T'6z.heap G_74) (by decide) (by decide) rfl rfl rfl G_70 (g := (mkF m 222 #[iv x0, iv x1, iv x2, iv x3, iv x4, iv (own_c x0), iv (own_c x1), iv (own_c x2), iv (own_c x3), iv i_0, iv (own_pend x4), iv (own_aft x4), rv b'0, rv b'm, rv b'w, rv b'1r, iv i_1, .unset, .unset] [.ref b'1r])) rfl (by rw [hml]; rfl) (argsL := []) (rest := []) (lenOf own_pd18 rfl) rfl rfl (Nat.le_of_eq rfl) (hb hby at_222) (by decide) (by decide)
   refine goo st'7b ?_
   refine goo (fun _ k => XS.iload X'7b.here hx rfl (hb hby at_225) rfl <| XS.iconst X'7b.here hx rfl (hb hby at_227) <| XS.iadd X'7b.here hx rfl (hb hby at_228) rfl k) ?_
   show own_G _ _ _ _ (T'7b.setTop (mkF m 229 #[iv x0, iv x1, iv x2, iv x3, iv x4, iv (own_c x0), iv (own_c x1), iv (own_c x2), iv (own_c x3), iv i_0, iv (own_pend x4), iv (own_aft x4), rv b'0, rv b'm, rv b'w, rv b'1r, iv i_1, .unset, .unset] [.int i_1, .int i_1]))
   refine goo (fun _ k => XS.icmpYes X'7b.here hx rfl (pc0 := 229) (pc' := 234) rfl (hb hby at_229) rfl ((teq (by decide : i_1 = i_1)).1) (by decide) (by decide) <| XS.aload X'7b.here hx rfl (hb hby at_234) rfl rfl <| XS.iload X'7b.here hx rfl (hb hby at_236) rfl k) ?_
   obtain ⟨T'7c, X'7c, e'7c, st'7c⟩ := own_callV X'7b hx hZ (y := Y35) hown (qw hw 85 rfl) (qw hw 86 rfl) (qw hw 88 rfl) (qw hw 87 rfl) (qw hw 46 rfl) (qw hw 89 rfl) (by decide) (W := 0) (rm_ln01 l Z a0 hw [] b'1r ea'2h ke'2h i_0 i_0 i_0 T'6z.heap G_70 G_74 G_72 G_76) (by decide) (by decide) rfl rfl e'7b G_70 (g := (mkF m 238 #[iv x0, iv x1, iv x2, iv x3, iv x4, iv (own_c x0), iv (own_c x1), iv (own_c x2), iv (own_c x3), iv i_0, iv (own_pend x4), iv (own_aft x4), rv b'0, rv b'm, rv b'w, rv b'1r, iv i_1, .unset, .unset] [.int i_0, .ref b'1r])) rfl (by rw [hml]; rfl) (argsL := [.int i_0]) (rest := []) (lenOf own_pd21 rfl) rfl rfl (Nat.le_of_eq rfl) (hb hby at_238) (by decide) (by decide)
   refine goo st'7c ?_
   refine goo (fun _ k => XS.iload X'7c.here hx rfl (hb hby at_241) rfl <| XS.icmpYes X'7c.here hx rfl (pc0 := 243) (pc' := 248) rfl (hb hby at_243) rfl ((teq (by decide : i_1 = i_1)).1) (by decide) (by decide) k) ?_
   show own_G _ _ _ _ (T'7c.setTop (mkF m 248 #[iv x0, iv x1, iv x2, iv x3, iv x4, iv (own_c x0), iv (own_c x1), iv (own_c x2), iv (own_c x3), iv i_0, iv (own_pend x4), iv (own_aft x4), rv b'0, rv b'm, rv b'w, rv b'1r, iv i_1, .unset, .unset] []))
   refine goo (fun _ k => XS.aload X'7c.here hx rfl (hb hby at_248) rfl rfl <| XS.iload X'7c.here hx rfl (hb hby at_250) rfl k) ?_
   obtain ⟨cq'7d, kq'7d, q'7da, q'7db, q'7dc⟩ := isOf hZ e'7c G_70
   obtain ⟨_, _, ⟨T'7d, L'7d, k'7d, n'7d⟩, -, X'7d, ⟨Lc'7d, hQ'7d, l'7d, y'7d, z'7d⟩, st'7d⟩ := X'7c.virtualBack hx (y := Y36) (z := Y36) hown (mvT hZ (qw hw 100 rfl)) (mvT hZ (qw hw 101 rfl)) (notFace_of_selects (args := #[]) (mvT hZ (qw hw 103 rfl))) (mvT hZ (qw hw 103 rfl)) (mvT hZ (qw hw 102 rfl)) (by decide) (backOf (W := 0) (rm_va01_0 l Z a0 hw [] b'1r ca'2h ea'2h kc'2h ke'2h (own_c x3) g1 g2 i_0 i_0 i_0 i_0 i_0 i_0 cz fz T'6z.heap n0 Z_79 G_70 G_71 G_72 G_74 G_75 G_76 S_77 hcz S_78 (own_c_ok x3) hfz) hZ (qw hw 104 rfl) (qw hw 46 rfl) (by decide) (by decide)) q'7da q'7dc (g := (mkF m 252 #[iv x0, iv x1, iv x2, iv x3, iv x4, iv (own_c x0), iv (own_c x1), iv (own_c x2), iv (own_c x3), iv i_0, iv (own_pend x4), iv (own_aft x4), rv b'0, rv b'm, rv b'w, rv b'1r, iv i_1, .unset, .unset] [.int i_0, .ref b'1r])) rfl (by rw [hml]; rfl) (Steps.refl _) (argsL := [.int i_0]) (rest := []) (lenOf own_pd26 rfl) rfl (Nat.le_of_eq rfl) (hb hby at_252) (fun _ _ => ⟨rfl, e'7c, (by decide : 9 + 2 ≤ _), (by decide : 563 + 5 ≤ _)⟩)
   dsimp only [Pt.U, Pt.locs, Pt.cells, Pt.slots] at X'7d l'7d y'7d z'7d st'7d hQ'7d
   subst l'7d y'7d z'7d
   obtain ⟨b'7d, rfl, Nq'7d, K'7d, gz'7d, G_7e, G_7f, qx'7d⟩ := hQ'7d
   obtain ⟨vb'7d, kv'7d, gv'7d, Fv'7d, Vv'7d⟩ := qx'7d
   have S_7g := own_staKeep S_77 K'7d all0
   have Z_7h : n0 ≤ T'7d.heap.size := Nat.le_trans Z_79 K'7d.1
   have hk_7i := Nat.le_trans hk_7a K'7d.1
   have N_7d := Fr.app N_6z Nq'7d
   refine goo (fun _ k => st'7d.trans k) ?_
   refine goo (fun _ k => XS.astore X'7d.here hx rfl (hb hby at_255) rfl rfl (l' := #[iv x0, iv x1, iv x2, iv x3, iv x4, iv (own_c x0), iv (own_c x1), iv (own_c x2), iv (own_c x3), iv i_0, iv (own_pend x4), iv (own_aft x4), rv b'0, rv b'm, rv b'w, rv b'1r, iv i_1, rv b'7d, .unset]) rfl <| XS.iload X'7d.here hx rfl (hb hby at_257) rfl <| XS.ifNo X'7d.here hx rfl (hb hby at_259) rfl (((if0 _ _).trans (feq hc192_1923).1)) k) ?_
   show own_G _ _ _ _ (T'7d.setTop (mkF m 262 #[iv x0, iv x1, iv x2, iv x3, iv x4, iv (own_c x0), iv (own_c x1), iv (own_c x2), iv (own_c x3), iv i_0, iv (own_pend x4), iv (own_aft x4), rv b'0, rv b'm, rv b'w, rv b'1r, iv i_1, rv b'7d, .unset] []))
   refine goo (fun _ k => XS.aload X'7d.here hx rfl (hb hby at_262) rfl rfl <| XS.iload X'7d.here hx rfl (hb hby at_264) rfl k) ?_
   obtain ⟨_, _, ⟨T'7j, L'7j, k'7j, n'7j⟩, -, X'7j, ⟨Lc'7j, hQ'7j, l'7j, y'7j, z'7j⟩, st'7j⟩ := Jvm.LawKit.callS X'7d hx (y := Y3) hown (mvT hZ (qw hw 1 rfl)) (mvT hZ (qw hw 2 rfl)) (mvT hZ (qw hw 3 rfl)) (mvT hZ (qw hw 4 rfl)) (by decide) (backOf (W := 1) (rm1 l Z a0 hw [] (own_c x3) cz T'7d.heap n0 Z_7h S_7g hcz (own_c_ok x3)) hZ (qw hw 4 rfl) (qw hw 3 rfl) (by decide) (by decide)) (g := (mkF m 266 #[iv x0, iv x1, iv x2, iv x3, iv x4, iv (own_c x0), iv (own_c x1), iv (own_c x2), iv (own_c x3), iv i_0, iv (own_pend x4), iv (own_aft x4), rv b'0, rv b'm, rv b'w, rv b'1r, iv i_1, rv b'7d, .unset] [(.int (own_c x3)), .ref b'7d])) rfl (by rw [hml]; rfl) (argsL := [(.int (own_c x3))]) (rest := [.ref b'7d]) (lenOf own_pd23 rfl) rfl (Nat.le_of_eq rfl) (hb hby at_266) (fun _ _ => ⟨rfl, rfl, (by decide : 11 + 2 ≤ _), (by decide : 568 + 5 ≤ _)⟩)
   dsimp only [Pt.U, Pt.locs, Pt.cells, Pt.slots] at X'7j l'7j y'7j z'7j st'7j hQ'7j
   subst l'7j y'7j z'7j
   obtain ⟨b'7j, rfl, Nq'7j, K'7j, gz'7j, G_7k, G_7l, qx'7j⟩ := hQ'7j
   have ne_7m : b'7d ≠ b'7j := Nat.ne_of_lt (Nat.lt_of_lt_of_le G_7e.lt gz'7j)
   obtain ⟨vb'7j, kv'7j, gv'7j, Fv'7j, Vv'7j⟩ := qx'7j
   have S_7n := own_staKeep S_7g K'7j all0
   have X_7o := G_7e.keep K'7j
   have F_7p := G_7f.keep K'7j nin0
   have F_7q := Fv'7d.keep K'7j nin0
   have V_7r := Vv'7d.keep K'7j nin0
   have hk_7s := Nat.le_trans hk_7i K'7j.1
   have N_7j := Fr.app N_7d Nq'7j
   refine goo (fun _ k => st'7j _ k) ?_
   obtain ⟨T'7t, X'7t, e'7t, st'7t⟩ := own_callV X'7j hx hZ (y := Y12) hown (qw hw 179 rfl) (qw hw 180 rfl) (qw hw 182 rfl) (qw hw 181 rfl) (qw hw 3 rfl) (qw hw 183 rfl) (by decide) (W := 0) (rm_eq1 l Z a0 hw [] b'7d b'7j cz vb'7d vb'7j kv'7d kv'7j (own_by (own_c x3)) T'7j.heap S_7n hcz F_7p F_7q V_7r G_7l Fv'7j Vv'7j G_7k ne_7m) (by decide) (by decide) rfl rfl rfl X_7o (g := (mkF m 269 #[iv x0, iv x1, iv x2, iv x3, iv x4, iv (own_c x0), iv (own_c x1), iv (own_c x2), iv (own_c x3), iv i_0, iv (own_pend x4), iv (own_aft x4), rv b'0, rv b'm, rv b'w, rv b'1r, iv i_1, rv b'7d, .unset] [.ref b'7j, .ref b'7d])) rfl (by rw [hml]; rfl) (argsL := [.ref b'7j]) (rest := []) (lenOf own_pd27 rfl) rfl rfl (Nat.le_of_eq rfl) (hb hby at_269) (by decide) (by decide)
   refine goo st'7t ?_
   refine goo (fun _ k => XS.goto X'7t.here hx rfl (pc0 := 272) (pc' := 280) rfl (hb hby at_272) (by decide) (by decide) <| XS.istore X'7t.here hx rfl (hb hby at_280) rfl (l' := #[iv x0, iv x1, iv x2, iv x3, iv x4, iv (own_c x0), iv (own_c x1), iv (own_c x2), iv (own_c x3), iv i_0, iv (own_pend x4), iv (own_aft x4), rv b'0, rv b'm, rv b'w, rv b'1r, iv i_1, rv b'7d, iv i_1]) rfl k) ?_
   show own_G _ _ _ _ (T'7t.setTop (mkF m 282 #[iv x0, iv x1, iv x2, iv x3, iv x4, iv (own_c x0), iv (own_c x1), iv (own_c x2), iv (own_c x3), iv i_0, iv (own_pend x4), iv (own_aft x4), rv b'0, rv b'm, rv b'w, rv b'1r, iv i_1, rv b'7d, iv i_1] []))
   refine goo (fun _ k => XS.iload X'7t.here hx rfl (hb hby at_282) rfl <| XS.ifYes X'7t.here hx rfl (pc0 := 284) (pc' := 289) rfl (hb hby at_284) rfl (((if0 _ _).trans (feq (by decide : ¬ (i_1 = i_0))).2)) (by decide) (by decide) <| XS.iload X'7t.here hx rfl (hb hby at_289) rfl <| XS.iconst X'7t.here hx rfl (hb hby at_291) k) ?_
   refine goo (fun _ k => XS.icmpYes X'7t.here hx rfl (pc0 := 292) (pc' := 311) rfl (hb hby at_292) rfl ((feq (by decide : ¬ (i_0 = i_3))).2) (by decide) (by decide) <| XS.iconst X'7t.here hx rfl (hb hby at_311) k) ?_
   show own_G _ _ _ _ (T'7t.setTop (mkF m 312 #[iv x0, iv x1, iv x2, iv x3, iv x4, iv (own_c x0), iv (own_c x1), iv (own_c x2), iv (own_c x3), iv i_0, iv (own_pend x4), iv (own_aft x4), rv b'0, rv b'm, rv b'w, rv b'1r, iv i_1, rv b'7d, iv i_1] [.int i_1]))
   exact own_endW (vm₁ := s.vm) X'7t Bd.notSynchronized hS (by rw [e'7t]; exact hk_7s) (v := some (.int (nar .boolean i_1))) (fun h => by rw [Bd.returns] at h; cases h) (Q := QL (some (.int i_1)) n0) ⟨rfl, N_7j⟩ (fun fs hr => retN X'7t hx (t := .boolean) Bd.returns (by simp) (hb hby at_312) hr) (by decide) (by decide)
 ·rw [hp]
  refine goo (fun _ k => XS.iload X'2h.here hx rfl (hb hby at_106) rfl <| XS.iconst X'2h.here hx rfl (hb hby at_108) <| XS.icmpNo X'2h.here hx rfl (hb hby at_109) rfl ((flt (by decide : ¬ (i_1 < i_1))).1) <| XS.aload X'2h.here hx rfl (hb hby at_112) rfl rfl k) ?_
  show own_G _ _ _ _ (T'2h.setTop (mkF m 114 #[iv x0, iv x1, iv x2, iv x3, iv x4, iv (own_c x0), iv (own_c x1), iv (own_c x2), iv (own_c x3), iv i_1, iv (own_pend x4), iv (own_aft x4), rv b'0, rv b'm, rv b'w, rv b'1r, .unset, .unset, .unset] [.ref b'1r]))
  refine goo (fun _ k => XS.aload X'2h.here hx rfl (hb hby at_114) rfl rfl k) ?_
  obtain ⟨cq'7u, kq'7u, q'7ua, q'7ub, q'7uc⟩ := isOf hZ rfl G_2i
  obtain ⟨_, _, ⟨T'7u, L'7u, k'7u, n'7u⟩, -, X'7u, ⟨Lc'7u, hQ'7u, l'7u, y'7u, z'7u⟩, st'7u⟩ := X'2h.virtualBack hx (y := Y28) (z := Y28) hown (mvT hZ (qw hw 128 rfl)) (mvT hZ (qw hw 129 rfl)) (notFace_of_selects (args := #[]) (mvT hZ (qw hw 131 rfl))) (mvT hZ (qw hw 131 rfl)) (mvT hZ (qw hw 130 rfl)) (by decide) (backOf (W := 0) (rm_add1 l Z a0 hw [] b'1r b'm ca'2h ea'2h kc'2h ke'2h i_0 i_0 i_0 i_0 i_0 i_0 i_0 i_0 i_0 i_0 i_0 cz fz vb'm kv'm (own_c x0) T'2h.heap n0 Z_38 G_2i Fa'2h Fe'2h G_2j G_2k Va'2h Ve'2h ge_1w ge_2q ge_2w ne_2p ne_2v nab'2h X_30 F_31 F_32 V_33 S_2x hcz S_2y ne_1s ne_2l ne_2r ne_1t ne_2m ne_2s (own_c_ok x0) hfz) hZ (qw hw 132 rfl) (qw hw 46 rfl) (by decide) (by decide)) q'7ua q'7uc (g := (mkF m 116 #[iv x0, iv x1, iv x2, iv x3, iv x4, iv (own_c x0), iv (own_c x1), iv (own_c x2), iv (own_c x3), iv i_1, iv (own_pend x4), iv (own_aft x4), rv b'0, rv b'm, rv b'w, rv b'1r, .unset, .unset, .unset] [.ref b'm, .ref b'1r])) rfl (by rw [hml]; rfl) (Steps.refl _) (argsL := [.ref b'm]) (rest := []) (lenOf own_pd28 rfl) rfl (Nat.le_of_eq rfl) (hb hby at_116) (fun _ _ => ⟨rfl, rfl, (by decide : 9 + 0 ≤ _), (by decide : 563 + 0 ≤ _)⟩)
  dsimp only [Pt.U, Pt.locs, Pt.cells, Pt.slots] at X'7u l'7u y'7u z'7u st'7u hQ'7u
  subst l'7u y'7u z'7u
  obtain ⟨rfl, Nq'7u, K'7u, G_7v, G_7w, G_7x, G_7y, G_7z, G_80, G_81⟩ := hQ'7u
  have S_82 := own_staKeep S_2x K'7u (allS (own_nsX G_2i) (allS (own_nsV Va'2h) (allS (own_nsV Ve'2h) all0)))
  have S_83 := own_staKeep S_2y K'7u (allS (own_nsX G_2i) (allS (own_nsV Va'2h) (allS (own_nsV Ve'2h) all0)))
  have Old_84 := Old_2z.keep K'7u (allS ge_1w (allS ge_2q (allS ge_2w all0)))
  have Z_85 : n0 ≤ T'7u.heap.size := Nat.le_trans Z_38 K'7u.1
  have hk_86 := Nat.le_trans hk_39 K'7u.1
  have N_7u := Fr.app N_2h Nq'7u
  refine goo (fun _ k => st'7u.trans k) ?_
  refine goo (fun _ k => XS.iload X'7u.here hx rfl (hb hby at_119) rfl <| XS.iconst X'7u.here hx rfl (hb hby at_121) <| XS.icmpYes X'7u.here hx rfl (pc0 := 122) (pc' := 130) rfl (hb hby at_122) rfl ((tlt (by decide : i_1 < i_2)).1) (by decide) (by decide) <| XS.iload X'7u.here hx rfl (hb hby at_130) rfl k) ?_
  show own_G _ _ _ _ (T'7u.setTop (mkF m 132 #[iv x0, iv x1, iv x2, iv x3, iv x4, iv (own_c x0), iv (own_c x1), iv (own_c x2), iv (own_c x3), iv i_1, iv (own_pend x4), iv (own_aft x4), rv b'0, rv b'm, rv b'w, rv b'1r, .unset, .unset, .unset] [.int i_1]))
  refine goo (fun _ k => XS.iconst X'7u.here hx rfl (hb hby at_132) <| XS.icmpYes X'7u.here hx rfl (pc0 := 133) (pc' := 143) rfl (hb hby at_133) rfl ((tlt (by decide : i_1 < i_3)).1) (by decide) (by decide) k) ?_
  refine own_joinG (fun T' L' => Fr n0 L' ∧ Keep T'7u.heap T'.heap [b'1r, ca'2h, ea'2h] ∧ Exa Z T'.heap b'1r s_3 ∧ Fld Z T'.heap b'1r s_3 "chars" "[C" (.ref ca'2h) ∧ Fld Z T'.heap b'1r s_3 "ends" "[I" (.ref ea'2h) ∧ Fld Z T'.heap b'1r s_3 "length" "I" (.int i_1) ∧ Fld Z T'.heap b'1r s_3 "size" "I" (.int i_1) ∧ Arv Z T'.heap ea'2h ke'2h .int i_32 [.int i_1, .int i_0, .int i_0, .int i_0] (.int i_0) ∧ ∃ g0 g1 g2, Arv Z T'.heap ca'2h kc'2h .char i_256 [.int (own_c x0), .int g0, .int g1, .int g2, .int i_0, .int i_0] (.int i_0)) X'7u (mkF m 190 #[iv x0, iv x1, iv x2, iv x3, iv x4, iv (own_c x0), iv (own_c x1), iv (own_c x2), iv (own_c x3), iv i_1, iv (own_pend x4), iv (own_aft x4), rv b'0, rv b'm, rv b'w, rv b'1r, .unset, .unset, .unset] []) (fun hj => ?_) (fun T'87 L'87 X'87 hJ'87 => ?_)
  ·rcases own_pend4 x4 with hq | hq | hq | hq
   ·rw [hq] at hj ⊢
    refine goo (fun _ k => XS.iload X'7u.here hx rfl (hb hby at_143) rfl <| XS.iconst X'7u.here hx rfl (hb hby at_145) <| XS.icmpYes X'7u.here hx rfl (pc0 := 146) (pc' := 157) rfl (hb hby at_146) rfl ((tlt (by decide : i_0 < i_1)).1) (by decide) (by decide) k) ?_
    show own_G _ _ _ _ (T'7u.setTop (mkF m 157 #[iv x0, iv x1, iv x2, iv x3, iv x4, iv (own_c x0), iv (own_c x1), iv (own_c x2), iv (own_c x3), iv i_1, iv i_0, iv (own_aft x4), rv b'0, rv b'm, rv b'w, rv b'1r, .unset, .unset, .unset] []))
    refine goo (fun _ k => XS.iload X'7u.here hx rfl (hb hby at_157) rfl <| XS.iconst X'7u.here hx rfl (hb hby at_159) <| XS.icmpYes X'7u.here hx rfl (pc0 := 160) (pc' := 171) rfl (hb hby at_160) rfl ((tlt (by decide : i_0 < i_2)).1) (by decide) (by decide) <| XS.iload X'7u.here hx rfl (hb hby at_171) rfl k) ?_
    refine goo (fun _ k => XS.iconst X'7u.here hx rfl (hb hby at_173) <| XS.icmpYes X'7u.here hx rfl (pc0 := 174) (pc' := 185) rfl (hb hby at_174) rfl ((tlt (by decide : i_0 < i_3)).1) (by decide) (by decide) k) ?_
    show own_G _ _ _ _ (T'7u.setTop (mkF m 185 #[iv x0, iv x1, iv x2, iv x3, iv x4, iv (own_c x0), iv (own_c x1), iv (own_c x2), iv (own_c x3), iv i_1, iv i_0, iv (own_aft x4), rv b'0, rv b'm, rv b'w, rv b'1r, .unset, .unset, .unset] []))
    refine goo (fun _ k => XS.aload X'7u.here hx rfl (hb hby at_185) rfl rfl k) ?_
    obtain ⟨cq'88, kq'88, q'88a, q'88b, q'88c⟩ := isOf hZ rfl G_7v
    obtain ⟨_, _, ⟨T'88, L'88, k'88, n'88⟩, -, X'88, ⟨Lc'88, hQ'88, l'88, y'88, z'88⟩, st'88⟩ := X'7u.virtualBack hx (y := Y31) (z := Y31) hown (mvT hZ (qw hw 66 rfl)) (mvT hZ (qw hw 67 rfl)) (notFace_of_selects (args := #[]) (mvT hZ (qw hw 69 rfl))) (mvT hZ (qw hw 69 rfl)) (mvT hZ (qw hw 68 rfl)) (by decide) (backOf (W := 0) (rm_dis1 l Z a0 hw [] b'1r ca'2h ea'2h kc'2h ke'2h (own_c x0) i_0 i_0 i_0 i_0 i_0 i_1 i_0 i_0 i_0 i_1 T'7u.heap n0 Z_85 G_7v G_7w G_7x G_7y G_7z G_80 G_81 ge_1w ge_2q ge_2w ne_2p ne_2v nab'2h) hZ (qw hw 70 rfl) (qw hw 46 rfl) (by decide) (by decide)) q'88a q'88c (g := (mkF m 187 #[iv x0, iv x1, iv x2, iv x3, iv x4, iv (own_c x0), iv (own_c x1), iv (own_c x2), iv (own_c x3), iv i_1, iv i_0, iv (own_aft x4), rv b'0, rv b'm, rv b'w, rv b'1r, .unset, .unset, .unset] [.ref b'1r])) rfl (by rw [hml]; rfl) (Steps.refl _) (argsL := []) (rest := []) (lenOf own_pd20 rfl) rfl (Nat.le_of_eq rfl) (hb hby at_187) (fun _ _ => ⟨rfl, rfl, (by decide : 9 + 0 ≤ _), (by decide : 563 + 0 ≤ _)⟩)
    dsimp only [Pt.U, Pt.locs, Pt.cells, Pt.slots] at X'88 l'88 y'88 z'88 st'88 hQ'88
    subst l'88 y'88 z'88
    obtain ⟨rfl, Nq'88, K'88, G_89, G_8a, G_8b, G_8c, G_8d, G_8e, G_8f⟩ := hQ'88
    have KP_8g : Keep T'7u.heap T'88.heap [b'1r, ca'2h, ea'2h] := (Keep.refl T'7u.heap [b'1r, ca'2h, ea'2h]).trans K'88 (allS (Or.inl (List.mem_of_getElem? (i := 0) rfl)) all0)
    have N_88 := Fr.app N_7u Nq'88
    refine goo (fun _ k => st'88.trans k) ?_
    exact hj _ _ X'88 (by exact ⟨N_88, KP_8g, G_89, G_8a, G_8b, G_8c, G_8d, G_8f, _, _, _, G_8e⟩)
   ·rw [hq] at hj ⊢
    refine goo (fun _ k => XS.iload X'7u.here hx rfl (hb hby at_143) rfl <| XS.iconst X'7u.here hx rfl (hb hby at_145) <| XS.icmpNo X'7u.here hx rfl (hb hby at_146) rfl ((flt (by decide : ¬ (i_1 < i_1))).1) k) ?_
    show own_G _ _ _ _ (T'7u.setTop (mkF m 149 #[iv x0, iv x1, iv x2, iv x3, iv x4, iv (own_c x0), iv (own_c x1), iv (own_c x2), iv (own_c x3), iv i_1, iv i_1, iv (own_aft x4), rv b'0, rv b'm, rv b'w, rv b'1r, .unset, .unset, .unset] []))
    refine goo (fun _ k => XS.aload X'7u.here hx rfl (hb hby at_149) rfl rfl <| XS.iload X'7u.here hx rfl (hb hby at_151) rfl k) ?_
    obtain ⟨cq'8h, kq'8h, q'8ha, q'8hb, q'8hc⟩ := isOf hZ rfl G_7v
    obtain ⟨_, _, ⟨T'8h, L'8h, k'8h, n'8h⟩, -, X'8h, ⟨Lc'8h, hQ'8h, l'8h, y'8h, z'8h⟩, st'8h⟩ := X'7u.virtualBack hx (y := Y27) (z := Y27) hown (mvT hZ (qw hw 174 rfl)) (mvT hZ (qw hw 175 rfl)) (notFace_of_selects (args := #[]) (mvT hZ (qw hw 177 rfl))) (mvT hZ (qw hw 177 rfl)) (mvT hZ (qw hw 176 rfl)) (by decide) (backOf (W := 0) (rm_app1 l Z a0 hw [] b'1r (own_c x2) ca'2h ea'2h kc'2h ke'2h (own_c x0) i_0 i_0 i_0 i_0 i_0 i_1 i_0 i_0 i_0 i_1 i_1 T'7u.heap n0 Z_85 G_7v G_7w G_7x G_7y G_7z G_80 G_81 ge_1w ge_2q ge_2w ne_2p ne_2v nab'2h (own_c_ok x2)) hZ (qw hw 178 rfl) (qw hw 46 rfl) (by decide) (by decide)) q'8ha q'8hc (g := (mkF m 153 #[iv x0, iv x1, iv x2, iv x3, iv x4, iv (own_c x0), iv (own_c x1), iv (own_c x2), iv (own_c x3), iv i_1, iv i_1, iv (own_aft x4), rv b'0, rv b'm, rv b'w, rv b'1r, .unset, .unset, .unset] [(.int (own_c x2)), .ref b'1r])) rfl (by rw [hml]; rfl) (Steps.refl _) (argsL := [(.int (own_c x2))]) (rest := []) (lenOf own_pd25 rfl) rfl (Nat.le_of_eq rfl) (hb hby at_153) (fun _ _ => ⟨rfl, rfl, (by decide : 9 + 0 ≤ _), (by decide : 563 + 0 ≤ _)⟩)
    dsimp only [Pt.U, Pt.locs, Pt.cells, Pt.slots] at X'8h l'8h y'8h z'8h st'8h hQ'8h
    subst l'8h y'8h z'8h
    obtain ⟨rfl, Nq'8h, K'8h, G_8i, G_8j, G_8k, G_8l, G_8m, G_8n, G_8o⟩ := hQ'8h
    have Z_8p : n0 ≤ T'8h.heap.size := Nat.le_trans Z_85 K'8h.1
    have KP_8q : Keep T'7u.heap T'8h.heap [b'1r, ca'2h, ea'2h] := (Keep.refl T'7u.heap [b'1r, ca'2h, ea'2h]).trans K'8h (allS (Or.inl (List.mem_of_getElem? (i := 0) rfl)) (allS (Or.inl (List.mem_of_getElem? (i := 1) rfl)) all0))
    have N_8h := Fr.app N_7u Nq'8h
    refine goo (fun _ k => st'8h.trans k) ?_
    refine goo (fun _ k => XS.pop X'8h.here hx rfl (hb hby at_156) rfl rfl <| XS.iload X'8h.here hx rfl (hb hby at_157) rfl <| XS.iconst X'8h.here hx rfl (hb hby at_159) k) ?_
    show own_G _ _ _ _ (T'8h.setTop (mkF m 160 #[iv x0, iv x1, iv x2, iv x3, iv x4, iv (own_c x0), iv (own_c x1), iv (own_c x2), iv (own_c x3), iv i_1, iv i_1, iv (own_aft x4), rv b'0, rv b'm, rv b'w, rv b'1r, .unset, .unset, .unset] [.int i_2, .int i_1]))
    refine goo (fun _ k => XS.icmpYes X'8h.here hx rfl (pc0 := 160) (pc' := 171) rfl (hb hby at_160) rfl ((tlt (by decide : i_1 < i_2)).1) (by decide) (by decide) <| XS.iload X'8h.here hx rfl (hb hby at_171) rfl <| XS.iconst X'8h.here hx rfl (hb hby at_173) <| XS.icmpYes X'8h.here hx rfl (pc0 := 174) (pc' := 185) rfl (hb hby at_174) rfl ((tlt (by decide : i_1 < i_3)).1) (by decide) (by decide) k) ?_
    refine goo (fun _ k => XS.aload X'8h.here hx rfl (hb hby at_185) rfl rfl k) ?_
    obtain ⟨cq'8r, kq'8r, q'8ra, q'8rb, q'8rc⟩ := isOf hZ rfl G_8i
    obtain ⟨_, _, ⟨T'8r, L'8r, k'8r, n'8r⟩, -, X'8r, ⟨Lc'8r, hQ'8r, l'8r, y'8r, z'8r⟩, st'8r⟩ := X'8h.virtualBack hx (y := Y31) (z := Y31) hown (mvT hZ (qw hw 66 rfl)) (mvT hZ (qw hw 67 rfl)) (notFace_of_selects (args := #[]) (mvT hZ (qw hw 69 rfl))) (mvT hZ (qw hw 69 rfl)) (mvT hZ (qw hw 68 rfl)) (by decide) (backOf (W := 0) (rm_dis1 l Z a0 hw [] b'1r ca'2h ea'2h kc'2h ke'2h (own_c x0) (own_c x2) i_0 i_0 i_0 i_0 i_1 i_0 i_0 i_0 i_2 T'8h.heap n0 Z_8p G_8i G_8j G_8k G_8l G_8m G_8n G_8o ge_1w ge_2q ge_2w ne_2p ne_2v nab'2h) hZ (qw hw 70 rfl) (qw hw 46 rfl) (by decide) (by decide)) q'8ra q'8rc (g := (mkF m 187 #[iv x0, iv x1, iv x2, iv x3, iv x4, iv (own_c x0), iv (own_c x1), iv (own_c x2), iv (own_c x3), iv i_1, iv i_1, iv (own_aft x4), rv b'0, rv b'm, rv b'w, rv b'1r, .unset, .unset, .unset] [.ref b'1r])) rfl (by rw [hml]; rfl) (Steps.refl _) (argsL := []) (rest := []) (lenOf own_pd20 rfl) rfl (Nat.le_of_eq rfl) (hb hby at_187) (fun _ _ => ⟨rfl, rfl, (by decide : 9 + 0 ≤ _), (by decide : 563 + 0 ≤ _)⟩)
    dsimp only [Pt.U, Pt.locs, Pt.cells, Pt.slots] at X'8r l'8r y'8r z'8r st'8r hQ'8r
    subst l'8r y'8r z'8r
    obtain ⟨rfl, Nq'8r, K'8r, G_8s, G_8t, G_8u, G_8v, G_8w, G_8x, G_8y⟩ := hQ'8r
    have KP_8z : Keep T'7u.heap T'8r.heap [b'1r, ca'2h, ea'2h] := KP_8q.trans K'8r (allS (Or.inl (List.mem_of_getElem? (i := 0) rfl)) all0)
    have N_8r := Fr.app N_8h Nq'8r
    refine goo (fun _ k => st'8r.trans k) ?_
    show own_G _ _ _ _ (T'8r.setTop (mkF m 190 #[iv x0, iv x1, iv x2, iv x3, iv x4, iv (own_c x0), iv (own_c x1), iv (own_c x2), iv (own_c x3), iv i_1, iv i_1, iv (own_aft x4), rv b'0, rv b'm, rv b'w, rv b'1r, .unset, .unset, .unset] []))
    exact hj _ _ X'8r (by exact ⟨N_8r, KP_8z, G_8s, G_8t, G_8u, G_8v, G_8w, G_8y, _, _, _, G_8x⟩)
   ·rw [hq] at hj ⊢
    refine goo (fun _ k => XS.iload X'7u.here hx rfl (hb hby at_143) rfl <| XS.iconst X'7u.here hx rfl (hb hby at_145) <| XS.icmpNo X'7u.here hx rfl (hb hby at_146) rfl ((flt (by decide : ¬ (i_2 < i_1))).1) k) ?_
    show own_G _ _ _ _ (T'7u.setTop (mkF m 149 #[iv x0, iv x1, iv x2, iv x3, iv x4, iv (own_c x0), iv (own_c x1), iv (own_c x2), iv (own_c x3), iv i_1, iv i_2, iv (own_aft x4), rv b'0, rv b'm, rv b'w, rv b'1r, .unset, .unset, .unset] []))
    refine goo (fun _ k => XS.aload X'7u.here hx rfl (hb hby at_149) rfl rfl <| XS.iload X'7u.here hx rfl (hb hby at_151) rfl k) ?_
    obtain ⟨cq'90, kq'90, q'90a, q'90b, q'90c⟩ := isOf hZ rfl G_7v
    obtain ⟨_, _, ⟨T'90, L'90, k'90, n'90⟩, -, X'90, ⟨Lc'90, hQ'90, l'90, y'90, z'90⟩, st'90⟩ := X'7u.virtualBack hx (y := Y27) (z := Y27) hown (mvT hZ (qw hw 174 rfl)) (mvT hZ (qw hw 175 rfl)) (notFace_of_selects (args := #[]) (mvT hZ (qw hw 177 rfl))) (mvT hZ (qw hw 177 rfl)) (mvT hZ (qw hw 176 rfl)) (by decide) (backOf (W := 0) (rm_app1 l Z a0 hw [] b'1r (own_c x2) ca'2h ea'2h kc'2h ke'2h (own_c x0) i_0 i_0 i_0 i_0 i_0 i_1 i_0 i_0 i_0 i_1 i_1 T'7u.heap n0 Z_85 G_7v G_7w G_7x G_7y G_7z G_80 G_81 ge_1w ge_2q ge_2w ne_2p ne_2v nab'2h (own_c_ok x2)) hZ (qw hw 178 rfl) (qw hw 46 rfl) (by decide) (by decide)) q'90a q'90c (g := (mkF m 153 #[iv x0, iv x1, iv x2, iv x3, iv x4, iv (own_c x0), iv (own_c x1), iv (own_c x2), iv (own_c x3), iv i_1, iv i_2, iv (own_aft x4), rv b'0, rv b'm, rv b'w, rv b'1r, .unset, .unset, .unset] [(.int (own_c x2)), .ref b'1r])) rfl (by rw [hml]; rfl) (Steps.refl _) (argsL := [(.int (own_c x2))]) (rest := []) (lenOf own_pd25 rfl) rfl (Nat.le_of_eq rfl) (hb hby at_153) (fun _ _ => ⟨rfl, rfl, (by decide : 9 + 0 ≤ _), (by decide : 563 + 0 ≤ _)⟩)
    dsimp only [Pt.U, Pt.locs, Pt.cells, Pt.slots] at X'90 l'90 y'90 z'90 st'90 hQ'90
    subst l'90 y'90 z'90
    obtain ⟨rfl, Nq'90, K'90, G_91, G_92, G_93, G_94, G_95, G_96, G_97⟩ := hQ'90
    have Z_98 : n0 ≤ T'90.heap.size := Nat.le_trans Z_85 K'90.1
    have KP_99 : Keep T'7u.heap T'90.heap [b'1r, ca'2h, ea'2h] := (Keep.refl T'7u.heap [b'1r, ca'2h, ea'2h]).trans K'90 (allS (Or.inl (List.mem_of_getElem? (i := 0) rfl)) (allS (Or.inl (List.mem_of_getElem? (i := 1) rfl)) all0))
    have N_90 := Fr.app N_7u Nq'90
    refine goo (fun _ k => st'90.trans k) ?_
    refine goo (fun _ k => XS.pop X'90.here hx rfl (hb hby at_156) rfl rfl <| XS.iload X'90.here hx rfl (hb hby at_157) rfl <| XS.iconst X'90.here hx rfl (hb hby at_159) k) ?_
    show own_G _ _ _ _ (T'90.setTop (mkF m 160 #[iv x0, iv x1, iv x2, iv x3, iv x4, iv (own_c x0), iv (own_c x1), iv (own_c x2), iv (own_c x3), iv i_1, iv i_2, iv (own_aft x4), rv b'0, rv b'm, rv b'w, rv b'1r, .unset, .unset, .unset] [.int i_2, .int i_2]))
    refine goo (fun _ k => XS.icmpNo X'90.here hx rfl (hb hby at_160) rfl ((flt (by decide : ¬ (i_2 < i_2))).1) <| XS.aload X'90.here hx rfl (hb hby at_163) rfl rfl <| XS.iload X'90.here hx rfl (hb hby at_165) rfl k) ?_
    obtain ⟨cq'9a, kq'9a, q'9aa, q'9ab, q'9ac⟩ := isOf hZ rfl G_91
    obtain ⟨_, _, ⟨T'9a, L'9a, k'9a, n'9a⟩, -, X'9a, ⟨Lc'9a, hQ'9a, l'9a, y'9a, z'9a⟩, st'9a⟩ := X'90.virtualBack hx (y := Y27) (z := Y27) hown (mvT hZ (qw hw 174 rfl)) (mvT hZ (qw hw 175 rfl)) (notFace_of_selects (args := #[]) (mvT hZ (qw hw 177 rfl))) (mvT hZ (qw hw 177 rfl)) (mvT hZ (qw hw 176 rfl)) (by decide) (backOf (W := 0) (rm_app2 l Z a0 hw [] b'1r (own_c x1) ca'2h ea'2h kc'2h ke'2h (own_c x0) (own_c x2) i_0 i_0 i_0 i_0 i_1 i_0 i_0 i_0 i_2 i_1 T'90.heap n0 Z_98 G_91 G_92 G_93 G_94 G_95 G_96 G_97 ge_1w ge_2q ge_2w ne_2p ne_2v nab'2h (own_c_ok x1)) hZ (qw hw 178 rfl) (qw hw 46 rfl) (by decide) (by decide)) q'9aa q'9ac (g := (mkF m 167 #[iv x0, iv x1, iv x2, iv x3, iv x4, iv (own_c x0), iv (own_c x1), iv (own_c x2), iv (own_c x3), iv i_1, iv i_2, iv (own_aft x4), rv b'0, rv b'm, rv b'w, rv b'1r, .unset, .unset, .unset] [(.int (own_c x1)), .ref b'1r])) rfl (by rw [hml]; rfl) (Steps.refl _) (argsL := [(.int (own_c x1))]) (rest := []) (lenOf own_pd25 rfl) rfl (Nat.le_of_eq rfl) (hb hby at_167) (fun _ _ => ⟨rfl, rfl, (by decide : 9 + 0 ≤ _), (by decide : 563 + 0 ≤ _)⟩)
    dsimp only [Pt.U, Pt.locs, Pt.cells, Pt.slots] at X'9a l'9a y'9a z'9a st'9a hQ'9a
    subst l'9a y'9a z'9a
    obtain ⟨rfl, Nq'9a, K'9a, G_9b, G_9c, G_9d, G_9e, G_9f, G_9g, G_9h⟩ := hQ'9a
    have Z_9i : n0 ≤ T'9a.heap.size := Nat.le_trans Z_98 K'9a.1
    have KP_9j : Keep T'7u.heap T'9a.heap [b'1r, ca'2h, ea'2h] := KP_99.trans K'9a (allS (Or.inl (List.mem_of_getElem? (i := 0) rfl)) (allS (Or.inl (List.mem_of_getElem? (i := 1) rfl)) all0))
    have N_9a := Fr.app N_90 Nq'9a
    refine goo (fun _ k => st'9a.trans k) ?_
    refine goo (fun _ k => XS.pop X'9a.here hx rfl (hb hby at_170) rfl rfl <| XS.iload X'9a.here hx rfl (hb hby at_171) rfl k) ?_
    show own_G _ _ _ _ (T'9a.setTop (mkF m 173 #[iv x0, iv x1, iv x2, iv x3, iv x4, iv (own_c x0), iv (own_c x1), iv (own_c x2), iv (own_c x3), iv i_1, iv i_2, iv (own_aft x4), rv b'0, rv b'm, rv b'w, rv b'1r, .unset, .unset, .unset] [.int i_2]))
    refine goo (fun _ k => XS.iconst X'9a.here hx rfl (hb hby at_173) <| XS.icmpYes X'9a.here hx rfl (pc0 := 174) (pc' := 185) rfl (hb hby at_174) rfl ((tlt (by decide : i_2 < i_3)).1) (by decide) (by decide) <| XS.aload X'9a.here hx rfl (hb hby at_185) rfl rfl k) ?_
    obtain ⟨cq'9k, kq'9k, q'9ka, q'9kb, q'9kc⟩ := isOf hZ rfl G_9b
    obtain ⟨_, _, ⟨T'9k, L'9k, k'9k, n'9k⟩, -, X'9k, ⟨Lc'9k, hQ'9k, l'9k, y'9k, z'9k⟩, st'9k⟩ := X'9a.virtualBack hx (y := Y31) (z := Y31) hown (mvT hZ (qw hw 66 rfl)) (mvT hZ (qw hw 67 rfl)) (notFace_of_selects (args := #[]) (mvT hZ (qw hw 69 rfl))) (mvT hZ (qw hw 69 rfl)) (mvT hZ (qw hw 68 rfl)) (by decide) (backOf (W := 0) (rm_dis1 l Z a0 hw [] b'1r ca'2h ea'2h kc'2h ke'2h (own_c x0) (own_c x2) (own_c x1) i_0 i_0 i_0 i_1 i_0 i_0 i_0 i_3 T'9a.heap n0 Z_9i G_9b G_9c G_9d G_9e G_9f G_9g G_9h ge_1w ge_2q ge_2w ne_2p ne_2v nab'2h) hZ (qw hw 70 rfl) (qw hw 46 rfl) (by decide) (by decide)) q'9ka q'9kc (g := (mkF m 187 #[iv x0, iv x1, iv x2, iv x3, iv x4, iv (own_c x0), iv (own_c x1), iv (own_c x2), iv (own_c x3), iv i_1, iv i_2, iv (own_aft x4), rv b'0, rv b'm, rv b'w, rv b'1r, .unset, .unset, .unset] [.ref b'1r])) rfl (by rw [hml]; rfl) (Steps.refl _) (argsL := []) (rest := []) (lenOf own_pd20 rfl) rfl (Nat.le_of_eq rfl) (hb hby at_187) (fun _ _ => ⟨rfl, rfl, (by decide : 9 + 0 ≤ _), (by decide : 563 + 0 ≤ _)⟩)
    dsimp only [Pt.U, Pt.locs, Pt.cells, Pt.slots] at X'9k l'9k y'9k z'9k st'9k hQ'9k
    subst l'9k y'9k z'9k
    obtain ⟨rfl, Nq'9k, K'9k, G_9l, G_9m, G_9n, G_9o, G_9p, G_9q, G_9r⟩ := hQ'9k
    have KP_9s : Keep T'7u.heap T'9k.heap [b'1r, ca'2h, ea'2h] := KP_9j.trans K'9k (allS (Or.inl (List.mem_of_getElem? (i := 0) rfl)) all0)
    have N_9k := Fr.app N_9a Nq'9k
    refine goo (fun _ k => st'9k.trans k) ?_
    exact hj _ _ X'9k (by exact ⟨N_9k, KP_9s, G_9l, G_9m, G_9n, G_9o, G_9p, G_9r, _, _, _, G_9q⟩)
   ·rw [hq] at hj ⊢
    refine goo (fun _ k => XS.iload X'7u.here hx rfl (hb hby at_143) rfl <| XS.iconst X'7u.here hx rfl (hb hby at_145) <| XS.icmpNo X'7u.here hx rfl (hb hby at_146) rfl ((flt (by decide : ¬ (i_3 < i_1))).1) k) ?_
    show own_G _ _ _ _ (T'7u.setTop (mkF m 149 #[iv x0, iv x1, iv x2, iv x3, iv x4, iv (own_c x0), iv (own_c x1), iv (own_c x2), iv (own_c x3), iv i_1, iv i_3, iv (own_aft x4), rv b'0, rv b'm, rv b'w, rv b'1r, .unset, .unset, .unset] []))
    refine goo (fun _ k => XS.aload X'7u.here hx rfl (hb hby at_149) rfl rfl <| XS.iload X'7u.here hx rfl (hb hby at_151) rfl k) ?_
    obtain ⟨cq'9t, kq'9t, q'9ta, q'9tb, q'9tc⟩ := isOf hZ rfl G_7v
    obtain ⟨_, _, ⟨T'9t, L'9t, k'9t, n'9t⟩, -, X'9t, ⟨Lc'9t, hQ'9t, l'9t, y'9t, z'9t⟩, st'9t⟩ := X'7u.virtualBack hx (y := Y27) (z := Y27) hown (mvT hZ (qw hw 174 rfl)) (mvT hZ (qw hw 175 rfl)) (notFace_of_selects (args := #[]) (mvT hZ (qw hw 177 rfl))) (mvT hZ (qw hw 177 rfl)) (mvT hZ (qw hw 176 rfl)) (by decide) (backOf (W := 0) (rm_app1 l Z a0 hw [] b'1r (own_c x2) ca'2h ea'2h kc'2h ke'2h (own_c x0) i_0 i_0 i_0 i_0 i_0 i_1 i_0 i_0 i_0 i_1 i_1 T'7u.heap n0 Z_85 G_7v G_7w G_7x G_7y G_7z G_80 G_81 ge_1w ge_2q ge_2w ne_2p ne_2v nab'2h (own_c_ok x2)) hZ (qw hw 178 rfl) (qw hw 46 rfl) (by decide) (by decide)) q'9ta q'9tc (g := (mkF m 153 #[iv x0, iv x1, iv x2, iv x3, iv x4, iv (own_c x0), iv (own_c x1), iv (own_c x2), iv (own_c x3), iv i_1, iv i_3, iv (own_aft x4), rv b'0, rv b'm, rv b'w, rv b'1r, .unset, .unset, .unset] [(.int (own_c x2)), .ref b'1r])) rfl (by rw [hml]; rfl) (Steps.refl _) (argsL := [(.int (own_c x2))]) (rest := []) (lenOf own_pd25 rfl) rfl (Nat.le_of_eq rfl) (hb hby at_153) (fun _ _ => ⟨rfl, rfl, (by decide : 9 + 0 ≤ _), (by decide : 563 + 0 ≤ _)⟩)
    dsimp only [Pt.U, Pt.locs, Pt.cells, Pt.slots] at X'9t l'9t y'9t z'9t st'9t hQ'9t
    subst l'9t y'9t z'9t
    obtain ⟨rfl, Nq'9t, K'9t, G_9u, G_9v, G_9w, G_9x, G_9y, G_9z, G_a0⟩ := hQ'9t
    have Z_a1 : n0 ≤ T'9t.heap.size := Nat.le_trans Z_85 K'9t.1
    have KP_a2 : Keep T'7u.heap T'9t.heap [b'1r, ca'2h, ea'2h] := (Keep.refl T'7u.heap [b'1r, ca'2h, ea'2h]).trans K'9t (allS (Or.inl (List.mem_of_getElem? (i := 0) rfl)) (allS (Or.inl (List.mem_of_getElem? (i := 1) rfl)) all0))
    have N_9t := Fr.app N_7u Nq'9t
    refine goo (fun _ k => st'9t.trans k) ?_
    refine goo (fun _ k => XS.pop X'9t.here hx rfl (hb hby at_156) rfl rfl <| XS.iload X'9t.here hx rfl (hb hby at_157) rfl <| XS.iconst X'9t.here hx rfl (hb hby at_159) k) ?_
    show own_G _ _ _ _ (T'9t.setTop (mkF m 160 #[iv x0, iv x1, iv x2, iv x3, iv x4, iv (own_c x0), iv (own_c x1), iv (own_c x2), iv (own_c x3), iv i_1, iv i_3, iv (own_aft x4), rv b'0, rv b'm, rv b'w, rv b'1r, .unset, .unset, .unset] [.int i_2, .int i_3]))
    refine goo (fun _ k => XS.icmpNo X'9t.here hx rfl (hb hby at_160) rfl ((flt (by decide : ¬ (i_3 < i_2))).1) <| XS.aload X'9t.here hx rfl (hb hby at_163) rfl rfl <| XS.iload X'9t.here hx rfl (hb hby at_165) rfl k) ?_
    obtain ⟨cq'a3, kq'a3, q'a3a, q'a3b, q'a3c⟩ := isOf hZ rfl G_9u
    obtain ⟨_, _, ⟨T'a3, L'a3, k'a3, n'a3⟩, -, X'a3, ⟨Lc'a3, hQ'a3, l'a3, y'a3, z'a3⟩, st'a3⟩ := X'9t.virtualBack hx (y := Y27) (z := Y27) hown (mvT hZ (qw hw 174 rfl)) (mvT hZ (qw hw 175 rfl)) (notFace_of_selects (args := #[]) (mvT hZ (qw hw 177 rfl))) (mvT hZ (qw hw 177 rfl)) (mvT hZ (qw hw 176 rfl)) (by decide) (backOf (W := 0) (rm_app2 l Z a0 hw [] b'1r (own_c x1) ca'2h ea'2h kc'2h ke'2h (own_c x0) (own_c x2) i_0 i_0 i_0 i_0 i_1 i_0 i_0 i_0 i_2 i_1 T'9t.heap n0 Z_a1 G_9u G_9v G_9w G_9x G_9y G_9z G_a0 ge_1w ge_2q ge_2w ne_2p ne_2v nab'2h (own_c_ok x1)) hZ (qw hw 178 rfl) (qw hw 46 rfl) (by decide) (by decide)) q'a3a q'a3c (g := (mkF m 167 #[iv x0, iv x1, iv x2, iv x3, iv x4, iv (own_c x0), iv (own_c x1), iv (own_c x2), iv (own_c x3), iv i_1, iv i_3, iv (own_aft x4), rv b'0, rv b'm, rv b'w, rv b'1r, .unset, .unset, .unset] [(.int (own_c x1)), .ref b'1r])) rfl (by rw [hml]; rfl) (Steps.refl _) (argsL := [(.int (own_c x1))]) (rest := []) (lenOf own_pd25 rfl) rfl (Nat.le_of_eq rfl) (hb hby at_167) (fun _ _ => ⟨rfl, rfl, (by decide : 9 + 0 ≤ _), (by decide : 563 + 0 ≤ _)⟩)
    dsimp only [Pt.U, Pt.locs, Pt.cells, Pt.slots] at X'a3 l'a3 y'a3 z'a3 st'a3 hQ'a3
    subst l'a3 y'a3 z'a3
    obtain ⟨rfl, Nq'a3, K'a3, G_a4, G_a5, G_a6, G_a7, G_a8, G_a9, G_aa⟩ := hQ'a3
    have Z_ab : n0 ≤ T'a3.heap.size := Nat.le_trans Z_a1 K'a3.1
    have KP_ac : Keep T'7u.heap T'a3.heap [b'1r, ca'2h, ea'2h] := KP_a2.trans K'a3 (allS (Or.inl (List.mem_of_getElem? (i := 0) rfl)) (allS (Or.inl (List.mem_of_getElem? (i := 1) rfl)) all0))
    have N_a3 := Fr.app N_9t Nq'a3
    refine goo (fun _ k => st'a3.trans k) ?_
    refine goo (fun _ k => XS.pop X'a3.here hx rfl (hb hby at_170) rfl rfl <| XS.iload X'a3.here hx rfl (hb hby at_171) rfl k) ?_
    show own_G _ _ _ _ (T'a3.setTop (mkF m 173 #[iv x0, iv x1, iv x2, iv x3, iv x4, iv (own_c x0), iv (own_c x1), iv (own_c x2), iv (own_c x3), iv i_1, iv i_3, iv (own_aft x4), rv b'0, rv b'm, rv b'w, rv b'1r, .unset, .unset, .unset] [.int i_3]))
    refine goo (fun _ k => XS.iconst X'a3.here hx rfl (hb hby at_173) <| XS.icmpNo X'a3.here hx rfl (hb hby at_174) rfl ((flt (by decide : ¬ (i_3 < i_3))).1) <| XS.aload X'a3.here hx rfl (hb hby at_177) rfl rfl <| XS.iload X'a3.here hx rfl (hb hby at_179) rfl k) ?_
    obtain ⟨cq'ad, kq'ad, q'ada, q'adb, q'adc⟩ := isOf hZ rfl G_a4
    obtain ⟨_, _, ⟨T'ad, L'ad, k'ad, n'ad⟩, -, X'ad, ⟨Lc'ad, hQ'ad, l'ad, y'ad, z'ad⟩, st'ad⟩ := X'a3.virtualBack hx (y := Y27) (z := Y27) hown (mvT hZ (qw hw 174 rfl)) (mvT hZ (qw hw 175 rfl)) (notFace_of_selects (args := #[]) (mvT hZ (qw hw 177 rfl))) (mvT hZ (qw hw 177 rfl)) (mvT hZ (qw hw 176 rfl)) (by decide) (backOf (W := 0) (rm_app3 l Z a0 hw [] b'1r (own_c x3) ca'2h ea'2h kc'2h ke'2h (own_c x0) (own_c x2) (own_c x1) i_0 i_0 i_0 i_1 i_0 i_0 i_0 i_3 i_1 T'a3.heap n0 Z_ab G_a4 G_a5 G_a6 G_a7 G_a8 G_a9 G_aa ge_1w ge_2q ge_2w ne_2p ne_2v nab'2h (own_c_ok x3)) hZ (qw hw 178 rfl) (qw hw 46 rfl) (by decide) (by decide)) q'ada q'adc (g := (mkF m 181 #[iv x0, iv x1, iv x2, iv x3, iv x4, iv (own_c x0), iv (own_c x1), iv (own_c x2), iv (own_c x3), iv i_1, iv i_3, iv (own_aft x4), rv b'0, rv b'm, rv b'w, rv b'1r, .unset, .unset, .unset] [(.int (own_c x3)), .ref b'1r])) rfl (by rw [hml]; rfl) (Steps.refl _) (argsL := [(.int (own_c x3))]) (rest := []) (lenOf own_pd25 rfl) rfl (Nat.le_of_eq rfl) (hb hby at_181) (fun _ _ => ⟨rfl, rfl, (by decide : 9 + 0 ≤ _), (by decide : 563 + 0 ≤ _)⟩)
    dsimp only [Pt.U, Pt.locs, Pt.cells, Pt.slots] at X'ad l'ad y'ad z'ad st'ad hQ'ad
    subst l'ad y'ad z'ad
    obtain ⟨rfl, Nq'ad, K'ad, G_ae, G_af, G_ag, G_ah, G_ai, G_aj, G_ak⟩ := hQ'ad
    have Z_al : n0 ≤ T'ad.heap.size := Nat.le_trans Z_ab K'ad.1
    have KP_am : Keep T'7u.heap T'ad.heap [b'1r, ca'2h, ea'2h] := KP_ac.trans K'ad (allS (Or.inl (List.mem_of_getElem? (i := 0) rfl)) (allS (Or.inl (List.mem_of_getElem? (i := 1) rfl)) all0))
    have N_ad := Fr.app N_a3 Nq'ad
    refine goo (fun _ k => st'ad.trans k) ?_
    refine goo (fun _ k => XS.pop X'ad.here hx rfl (hb hby at_184) rfl rfl k) ?_
    show own_G _ _ _ _ (T'ad.setTop (mkF m 185 #[iv x0, iv x1, iv x2, iv x3, iv x4, iv (own_c x0), iv (own_c x1), iv (own_c x2), iv (own_c x3), iv i_1, iv i_3, iv (own_aft x4), rv b'0, rv b'm, rv b'w, rv b'1r, .unset, .unset, .unset] []))
    refine goo (fun _ k => XS.aload X'ad.here hx rfl (hb hby at_185) rfl rfl k) ?_
    obtain ⟨cq'an, kq'an, q'ana, q'anb, q'anc⟩ := isOf hZ rfl G_ae
    obtain ⟨_, _, ⟨T'an, L'an, k'an, n'an⟩, -, X'an, ⟨Lc'an, hQ'an, l'an, y'an, z'an⟩, st'an⟩ := X'ad.virtualBack hx (y := Y31) (z := Y31) hown (mvT hZ (qw hw 66 rfl)) (mvT hZ (qw hw 67 rfl)) (notFace_of_selects (args := #[]) (mvT hZ (qw hw 69 rfl))) (mvT hZ (qw hw 69 rfl)) (mvT hZ (qw hw 68 rfl)) (by decide) (backOf (W := 0) (rm_dis1 l Z a0 hw [] b'1r ca'2h ea'2h kc'2h ke'2h (own_c x0) (own_c x2) (own_c x1) (own_c x3) i_0 i_0 i_1 i_0 i_0 i_0 i_4 T'ad.heap n0 Z_al G_ae G_af G_ag G_ah G_ai G_aj G_ak ge_1w ge_2q ge_2w ne_2p ne_2v nab'2h) hZ (qw hw 70 rfl) (qw hw 46 rfl) (by decide) (by decide)) q'ana q'anc (g := (mkF m 187 #[iv x0, iv x1, iv x2, iv x3, iv x4, iv (own_c x0), iv (own_c x1), iv (own_c x2), iv (own_c x3), iv i_1, iv i_3, iv (own_aft x4), rv b'0, rv b'm, rv b'w, rv b'1r, .unset, .unset, .unset] [.ref b'1r])) rfl (by rw [hml]; rfl) (Steps.refl _) (argsL := []) (rest := []) (lenOf own_pd20 rfl) rfl (Nat.le_of_eq rfl) (hb hby at_187) (fun _ _ => ⟨rfl, rfl, (by decide : 9 + 0 ≤ _), (by decide : 563 + 0 ≤ _)⟩)
    dsimp only [Pt.U, Pt.locs, Pt.cells, Pt.slots] at X'an l'an y'an z'an st'an hQ'an
    subst l'an y'an z'an
    obtain ⟨rfl, Nq'an, K'an, G_ao, G_ap, G_aq, G_ar, G_as, G_at, G_au⟩ := hQ'an
    have KP_av : Keep T'7u.heap T'an.heap [b'1r, ca'2h, ea'2h] := KP_am.trans K'an (allS (Or.inl (List.mem_of_getElem? (i := 0) rfl)) all0)
    have N_an := Fr.app N_ad Nq'an
    refine goo (fun _ k => st'an.trans k) ?_
    exact hj _ _ X'an (by exact ⟨N_an, KP_av, G_ao, G_ap, G_aq, G_ar, G_as, G_au, _, _, _, G_at⟩)
  obtain ⟨Nq'87, K'87, Xr'87, Fa'87, Fe'87, Fl'87, Fs'87, Ve'87, g0, g1, g2, Va'87⟩ := hJ'87
  have S_aw := own_staKeep S_82 K'87 (allS (own_nsX G_7v) (allS (own_nsV G_80) (allS (own_nsV G_81) all0)))
  have S_ax := own_staKeep S_83 K'87 (allS (own_nsX G_7v) (allS (own_nsV G_80) (allS (own_nsV G_81) all0)))
  have Old_ay := Old_84.keep K'87 (allS ge_1w (allS ge_2q (allS ge_2w all0)))
  have Z_az : n0 ≤ T'87.heap.size := Nat.le_trans Z_85 K'87.1
  have hk_b0 := Nat.le_trans hk_86 K'87.1
  refine goo (fun _ k => XS.iload X'87.here hx rfl (hb hby at_190) rfl k) ?_
  by_cases hc192_2397 : (own_aft x4) = i_0
  ·refine goo (fun _ k => XS.ifYes X'87.here hx rfl (pc0 := 192) (pc' := 203) rfl (hb hby at_192) rfl (((if0 _ _).trans (teq hc192_2397).1)) (by decide) (by decide) k) ?_
   refine goo (fun _ k => XS.aload X'87.here hx rfl (hb hby at_203) rfl rfl k) ?_
   show own_G _ _ _ _ (T'87.setTop (mkF m 205 #[iv x0, iv x1, iv x2, iv x3, iv x4, iv (own_c x0), iv (own_c x1), iv (own_c x2), iv (own_c x3), iv i_1, iv (own_pend x4), iv (own_aft x4), rv b'0, rv b'm, rv b'w, rv b'1r, .unset, .unset, .unset] [.ref b'1r]))
   obtain ⟨cq'b1, kq'b1, q'b1a, q'b1b, q'b1c⟩ := isOf hZ rfl Xr'87
   obtain ⟨_, _, ⟨T'b1, L'b1, k'b1, n'b1⟩, -, X'b1, ⟨Lc'b1, hQ'b1, l'b1, y'b1, z'b1⟩, st'b1⟩ := X'87.virtualBack hx (y := Y26) (z := Y26) hown (mvT hZ (qw hw 75 rfl)) (mvT hZ (qw hw 76 rfl)) (notFace_of_selects (args := #[]) (mvT hZ (qw hw 78 rfl))) (mvT hZ (qw hw 78 rfl)) (mvT hZ (qw hw 77 rfl)) (by decide) (backOf (W := 0) (rm_end1 l Z a0 hw [] b'1r ca'2h ea'2h kc'2h ke'2h (own_c x0) g0 g1 g2 i_0 i_0 i_1 i_0 i_0 i_0 i_1 T'87.heap n0 Z_az Xr'87 Fa'87 Fe'87 Fl'87 Fs'87 Va'87 Ve'87 ge_1w ge_2q ge_2w ne_2p ne_2v nab'2h) hZ (qw hw 79 rfl) (qw hw 46 rfl) (by decide) (by decide)) q'b1a q'b1c (g := (mkF m 205 #[iv x0, iv x1, iv x2, iv x3, iv x4, iv (own_c x0), iv (own_c x1), iv (own_c x2), iv (own_c x3), iv i_1, iv (own_pend x4), iv (own_aft x4), rv b'0, rv b'm, rv b'w, rv b'1r, .unset, .unset, .unset] [.ref b'1r])) rfl (by rw [hml]; rfl) (Steps.refl _) (argsL := []) (rest := []) (lenOf own_pd20 rfl) rfl (Nat.le_of_eq rfl) (hb hby at_205) (fun _ _ => ⟨rfl, rfl, (by decide : 9 + 0 ≤ _), (by decide : 563 + 0 ≤ _)⟩)
   dsimp only [Pt.U, Pt.locs, Pt.cells, Pt.slots] at X'b1 l'b1 y'b1 z'b1 st'b1 hQ'b1
   subst l'b1 y'b1 z'b1
   obtain ⟨rfl, Nq'b1, K'b1, G_b2, G_b3, G_b4, G_b5, G_b6, G_b7, G_b8⟩ := hQ'b1
   have S_b9 := own_staKeep S_aw K'b1 (allS (own_nsX Xr'87) (allS (own_nsV Ve'87) all0))
   have S_ba := own_staKeep S_ax K'b1 (allS (own_nsX Xr'87) (allS (own_nsV Ve'87) all0))
   have Old_bb := Old_ay.keep K'b1 (allS ge_1w (allS ge_2w all0))
   have Z_bc : n0 ≤ T'b1.heap.size := Nat.le_trans Z_az K'b1.1
   have hk_bd := Nat.le_trans hk_b0 K'b1.1
   have N_b1 := Fr.app Nq'87 Nq'b1
   refine goo (fun _ k => st'b1.trans k) ?_
   refine goo (fun _ k => XS.iload X'b1.here hx rfl (hb hby at_208) rfl <| XS.ifYes X'b1.here hx rfl (pc0 := 210) (pc' := 217) rfl (hb hby at_210) rfl (((if0 _ _).trans (teq hc192_2397).1)) (by decide) (by decide) <| XS.iconst X'b1.here hx rfl (hb hby at_217) <| XS.istore X'b1.here hx rfl (hb hby at_218) rfl (l' := #[iv x0, iv x1, iv x2, iv x3, iv x4, iv (own_c x0), iv (own_c x1), iv (own_c x2), iv (own_c x3), iv i_1, iv (own_pend x4), iv (own_aft x4), rv b'0, rv b'm, rv b'w, rv b'1r, iv i_0, .unset, .unset]) rfl k) ?_
   refine goo (fun _ k => XS.aload X'b1.here hx rfl (hb hby at_220) rfl rfl k) ?_
   show own_G _ _ _ _ (T'b1.setTop (mkF m 222 #[iv x0, iv x1, iv x2, iv x3, iv x4, iv (own_c x0), iv (own_c x1), iv (own_c x2), iv (own_c x3), iv i_1, iv (own_pend x4), iv (own_aft x4), rv b'0, rv b'm, rv b'w, rv b'1r, iv i_0, .unset, .unset] [.ref b'1r]))
   obtain ⟨T'be, X'be, e'be, st'be⟩ := own_callV X'b1 hx hZ (y := Y32) hown (qw hw 80 rfl) (qw hw 81 rfl) (qw hw 83 rfl) (qw hw 82 rfl) (qw hw 46 rfl) (qw hw 84 rfl) (by decide) (W := 0) (rm15 l Z a0 hw [] b'1r i_2 T'b1.heap G_b6) (by decide) (by decide) rfl rfl rfl G_b2 (g := (mkF m 222 #[iv x0, iv x1, iv x2, iv x3, iv x4, iv (own_c x0), iv (own_c x1), iv (own_c x2), iv (own_c x3), iv i_1, iv (own_pend x4), iv (own_aft x4), rv b'0, rv b'm, rv b'w, rv b'1r, iv i_0, .unset, .unset] [.ref b'1r])) rfl (by rw [hml]; rfl) (argsL := []) (rest := []) (lenOf own_pd18 rfl) rfl rfl (Nat.le_of_eq rfl) (hb hby at_222) (by decide) (by decide)
   refine goo st'be ?_
   refine goo (fun _ k => XS.iload X'be.here hx rfl (hb hby at_225) rfl <| XS.iconst X'be.here hx rfl (hb hby at_227) <| XS.iadd X'be.here hx rfl (hb hby at_228) rfl <| XS.icmpYes X'be.here hx rfl (pc0 := 229) (pc' := 234) rfl (hb hby at_229) rfl ((teq (by decide : i_2 = i_2)).1) (by decide) (by decide) k) ?_
   refine goo (fun _ k => XS.aload X'be.here hx rfl (hb hby at_234) rfl rfl k) ?_
   show own_G _ _ _ _ (T'be.setTop (mkF m 236 #[iv x0, iv x1, iv x2, iv x3, iv x4, iv (own_c x0), iv (own_c x1), iv (own_c x2), iv (own_c x3), iv i_1, iv (own_pend x4), iv (own_aft x4), rv b'0, rv b'm, rv b'w, rv b'1r, iv i_0, .unset, .unset] [.ref b'1r]))
   refine goo (fun _ k => XS.iload X'be.here hx rfl (hb hby at_236) rfl k) ?_
   obtain ⟨T'bf, X'bf, e'bf, st'bf⟩ := own_callV X'be hx hZ (y := Y35) hown (qw hw 85 rfl) (qw hw 86 rfl) (qw hw 88 rfl) (qw hw 87 rfl) (qw hw 46 rfl) (qw hw 89 rfl) (by decide) (W := 0) (rm_ln10 l Z a0 hw [] b'1r ea'2h ke'2h i_0 i_0 T'b1.heap G_b2 G_b6 G_b4 G_b8) (by decide) (by decide) rfl rfl e'be G_b2 (g := (mkF m 238 #[iv x0, iv x1, iv x2, iv x3, iv x4, iv (own_c x0), iv (own_c x1), iv (own_c x2), iv (own_c x3), iv i_1, iv (own_pend x4), iv (own_aft x4), rv b'0, rv b'm, rv b'w, rv b'1r, iv i_0, .unset, .unset] [.int i_1, .ref b'1r])) rfl (by rw [hml]; rfl) (argsL := [.int i_1]) (rest := []) (lenOf own_pd21 rfl) rfl rfl (Nat.le_of_eq rfl) (hb hby at_238) (by decide) (by decide)
   refine goo st'bf ?_
   refine goo (fun _ k => XS.iload X'bf.here hx rfl (hb hby at_241) rfl <| XS.icmpYes X'bf.here hx rfl (pc0 := 243) (pc' := 248) rfl (hb hby at_243) rfl ((teq (by decide : i_0 = i_0)).1) (by decide) (by decide) <| XS.aload X'bf.here hx rfl (hb hby at_248) rfl rfl <| XS.iload X'bf.here hx rfl (hb hby at_250) rfl k) ?_
   show own_G _ _ _ _ (T'bf.setTop (mkF m 252 #[iv x0, iv x1, iv x2, iv x3, iv x4, iv (own_c x0), iv (own_c x1), iv (own_c x2), iv (own_c x3), iv i_1, iv (own_pend x4), iv (own_aft x4), rv b'0, rv b'm, rv b'w, rv b'1r, iv i_0, .unset, .unset] [.int i_1, .ref b'1r]))
   obtain ⟨cq'bg, kq'bg, q'bga, q'bgb, q'bgc⟩ := isOf hZ e'bf G_b2
   obtain ⟨_, _, ⟨T'bg, L'bg, k'bg, n'bg⟩, -, X'bg, hSn, hgr, ⟨Lc'bg, hQ'bg, l'bg, y'bg, z'bg⟩, st'bg⟩ := X'bf.virtualBackS hx (y := Y36) (z := Y36) hown (mvT hZ (qw hw 100 rfl)) (mvT hZ (qw hw 101 rfl)) (notFace_of_selects (args := #[]) (mvT hZ (qw hw 103 rfl))) (mvT hZ (qw hw 103 rfl)) (mvT hZ (qw hw 102 rfl)) (by decide) (own_backI (W := 0) (rm_va10_1 l Z a0 hw [] b'1r ca'2h ea'2h kc'2h ke'2h (own_c x0) g0 g1 g2 i_0 i_0 i_0 i_0 cz fz T'b1.heap n0 Z_bc G_b2 G_b3 G_b4 G_b6 G_b7 G_b8 S_b9 hcz S_ba Old_bb held hcw hfz) hZ hI (qw hw 104 rfl) (qw hw 46 rfl) (by decide) (by decide)) q'bga q'bgc (g := (mkF m 252 #[iv x0, iv x1, iv x2, iv x3, iv x4, iv (own_c x0), iv (own_c x1), iv (own_c x2), iv (own_c x3), iv i_1, iv (own_pend x4), iv (own_aft x4), rv b'0, rv b'm, rv b'w, rv b'1r, iv i_0, .unset, .unset] [.int i_1, .ref b'1r])) rfl (by rw [hml]; rfl) (Steps.refl _) (argsL := [.int i_1]) (rest := []) (lenOf own_pd26 rfl) rfl (Nat.le_of_eq rfl) (hb hby at_252) (fun _ _ => ⟨rfl, e'bf, (by decide : 9 + 3 ≤ _), (by decide : 563 + 8 ≤ _)⟩)
   dsimp only [Pt.U, Pt.locs, Pt.cells, Pt.slots] at X'bg l'bg y'bg z'bg st'bg hQ'bg hSn hgr
   subst l'bg y'bg z'bg
   obtain ⟨b'bg, rfl, Nq'bg, K'bg, gz'bg, G_bh, G_bi, qx'bg⟩ := hQ'bg
   obtain ⟨vb'bg, kv'bg, Fv'bg, Vv'bg⟩ := qx'bg
   have hS := foldS (s := s) hS (by rw [e'bf]; exact hk_bd) hSn hgr
   have hZ := State.Warmed39.trans (t := s) hZ hSn.1
   have hown : (s.setVm T'bg.vm).vm.findClass s_4 = some m.cls := by rw [show (s.setVm T'bg.vm).vm = T'bg.vm from rfl, hSn.1.alike.findClass]; exact hown
   have hk'bg : T'bg.heap.size ≤ T'bg.heap.size := Nat.le_refl _
   have N_bg := Fr.app N_b1 Nq'bg
   have X'bg : Stand p l e _ (s.setVm T'bg.vm) m _ below meth c T'bg _ _ _ := X'bg
   refine goo (fun _ k => st'bg.trans k) ?_
   refine goo (fun _ k => XS.astore X'bg.here hx rfl (hb hby at_255) rfl rfl (l' := #[iv x0, iv x1, iv x2, iv x3, iv x4, iv (own_c x0), iv (own_c x1), iv (own_c x2), iv (own_c x3), iv i_1, iv (own_pend x4), iv (own_aft x4), rv b'0, rv b'm, rv b'w, rv b'1r, iv i_0, rv b'bg, .unset]) rfl <| XS.iload X'bg.here hx rfl (hb hby at_257) rfl <| XS.ifYes X'bg.here hx rfl (pc0 := 259) (pc' := 275) rfl (hb hby at_259) rfl (((if0 _ _).trans (teq hc192_2397).1)) (by decide) (by decide) <| XS.aload X'bg.here hx rfl (hb hby at_275) rfl rfl k) ?_
   obtain ⟨T'bj, X'bj, e'bj, st'bj⟩ := own_callV X'bg hx hZ (y := Y13) hown (qw hw 123 rfl) (qw hw 124 rfl) (qw hw 126 rfl) (qw hw 125 rfl) (qw hw 3 rfl) (qw hw 127 rfl) (by decide) (W := 0) (rm24 l Z a0 hw [] b'bg vb'bg kv'bg T'bg.heap Fv'bg Vv'bg) (by decide) (by decide) rfl rfl rfl G_bh (g := (mkF m 277 #[iv x0, iv x1, iv x2, iv x3, iv x4, iv (own_c x0), iv (own_c x1), iv (own_c x2), iv (own_c x3), iv i_1, iv (own_pend x4), iv (own_aft x4), rv b'0, rv b'm, rv b'w, rv b'1r, iv i_0, rv b'bg, .unset] [.ref b'bg])) rfl (by rw [hml]; rfl) (argsL := []) (rest := []) (lenOf own_pd5 rfl) rfl rfl (Nat.le_of_eq rfl) (hb hby at_277) (by decide) (by decide)
   refine goo st'bj ?_
   show own_G _ _ _ _ (T'bj.setTop (mkF m 280 #[iv x0, iv x1, iv x2, iv x3, iv x4, iv (own_c x0), iv (own_c x1), iv (own_c x2), iv (own_c x3), iv i_1, iv (own_pend x4), iv (own_aft x4), rv b'0, rv b'm, rv b'w, rv b'1r, iv i_0, rv b'bg, .unset] [.int i_1]))
   refine goo (fun _ k => XS.istore X'bj.here hx rfl (hb hby at_280) rfl (l' := #[iv x0, iv x1, iv x2, iv x3, iv x4, iv (own_c x0), iv (own_c x1), iv (own_c x2), iv (own_c x3), iv i_1, iv (own_pend x4), iv (own_aft x4), rv b'0, rv b'm, rv b'w, rv b'1r, iv i_0, rv b'bg, iv i_1]) rfl <| XS.iload X'bj.here hx rfl (hb hby at_282) rfl <| XS.ifYes X'bj.here hx rfl (pc0 := 284) (pc' := 289) rfl (hb hby at_284) rfl (((if0 _ _).trans (feq (by decide : ¬ (i_1 = i_0))).2)) (by decide) (by decide) <| XS.iload X'bj.here hx rfl (hb hby at_289) rfl k) ?_
   refine goo (fun _ k => XS.iconst X'bj.here hx rfl (hb hby at_291) <| XS.icmpYes X'bj.here hx rfl (pc0 := 292) (pc' := 311) rfl (hb hby at_292) rfl ((feq (by decide : ¬ (i_1 = i_3))).2) (by decide) (by decide) k) ?_
   show own_G _ _ _ _ (T'bj.setTop (mkF m 311 #[iv x0, iv x1, iv x2, iv x3, iv x4, iv (own_c x0), iv (own_c x1), iv (own_c x2), iv (own_c x3), iv i_1, iv (own_pend x4), iv (own_aft x4), rv b'0, rv b'm, rv b'w, rv b'1r, iv i_0, rv b'bg, iv i_1] []))
   refine goo (fun _ k => XS.iconst X'bj.here hx rfl (hb hby at_311) k) ?_
   show own_G _ _ _ _ (T'bj.setTop (mkF m 312 #[iv x0, iv x1, iv x2, iv x3, iv x4, iv (own_c x0), iv (own_c x1), iv (own_c x2), iv (own_c x3), iv i_1, iv (own_pend x4), iv (own_aft x4), rv b'0, rv b'm, rv b'w, rv b'1r, iv i_0, rv b'bg, iv i_1] [.int i_1]))
   exact own_endW X'bj Bd.notSynchronized hS (by rw [e'bj]; exact hk'bg) (v := some (.int (nar .boolean i_1))) (fun h => by rw [Bd.returns] at h; cases h) (Q := QL (some (.int i_1)) n0) ⟨rfl, N_bg⟩ (fun fs hr => retN X'bj hx (t := .boolean) Bd.returns (by simp) (hb hby at_312) hr) (by decide) (by decide)
  ·refine goo (fun _ k => XS.ifNo X'87.here hx rfl (hb hby at_192) rfl (((if0 _ _).trans (feq hc192_2397).1)) k) ?_
   refine goo (fun _ k => XS.aload X'87.here hx rfl (hb hby at_195) rfl rfl k) ?_
   show own_G _ _ _ _ (T'87.setTop (mkF m 197 #[iv x0, iv x1, iv x2, iv x3, iv x4, iv (own_c x0), iv (own_c x1), iv (own_c x2), iv (own_c x3), iv i_1, iv (own_pend x4), iv (own_aft x4), rv b'0, rv b'm, rv b'w, rv b'1r, .unset, .unset, .unset] [.ref b'1r]))
   refine goo (fun _ k => XS.iload X'87.here hx rfl (hb hby at_197) rfl k) ?_
   obtain ⟨cq'bk, kq'bk, q'bka, q'bkb, q'bkc⟩ := isOf hZ rfl Xr'87
   obtain ⟨_, _, ⟨T'bk, L'bk, k'bk, n'bk⟩, -, X'bk, ⟨Lc'bk, hQ'bk, l'bk, y'bk, z'bk⟩, st'bk⟩ := X'87.virtualBack hx (y := Y27) (z := Y27) hown (mvT hZ (qw hw 174 rfl)) (mvT hZ (qw hw 175 rfl)) (notFace_of_selects (args := #[]) (mvT hZ (qw hw 177 rfl))) (mvT hZ (qw hw 177 rfl)) (mvT hZ (qw hw 176 rfl)) (by decide) (backOf (W := 0) (rm_app1 l Z a0 hw [] b'1r (own_c x3) ca'2h ea'2h kc'2h ke'2h (own_c x0) g0 g1 g2 i_0 i_0 i_1 i_0 i_0 i_0 i_1 i_1 T'87.heap n0 Z_az Xr'87 Fa'87 Fe'87 Fl'87 Fs'87 Va'87 Ve'87 ge_1w ge_2q ge_2w ne_2p ne_2v nab'2h (own_c_ok x3)) hZ (qw hw 178 rfl) (qw hw 46 rfl) (by decide) (by decide)) q'bka q'bkc (g := (mkF m 199 #[iv x0, iv x1, iv x2, iv x3, iv x4, iv (own_c x0), iv (own_c x1), iv (own_c x2), iv (own_c x3), iv i_1, iv (own_pend x4), iv (own_aft x4), rv b'0, rv b'm, rv b'w, rv b'1r, .unset, .unset, .unset] [(.int (own_c x3)), .ref b'1r])) rfl (by rw [hml]; rfl) (Steps.refl _) (argsL := [(.int (own_c x3))]) (rest := []) (lenOf own_pd25 rfl) rfl (Nat.le_of_eq rfl) (hb hby at_199) (fun _ _ => ⟨rfl, rfl, (by decide : 9 + 0 ≤ _), (by decide : 563 + 0 ≤ _)⟩)
   dsimp only [Pt.U, Pt.locs, Pt.cells, Pt.slots] at X'bk l'bk y'bk z'bk st'bk hQ'bk
   subst l'bk y'bk z'bk
   obtain ⟨rfl, Nq'bk, K'bk, G_bl, G_bm, G_bn, G_bo, G_bp, G_bq, G_br⟩ := hQ'bk
   have S_bs := own_staKeep S_aw K'bk (allS (own_nsX Xr'87) (allS (own_nsV Va'87) all0))
   have S_bt := own_staKeep S_ax K'bk (allS (own_nsX Xr'87) (allS (own_nsV Va'87) all0))
   have Z_bu : n0 ≤ T'bk.heap.size := Nat.le_trans Z_az K'bk.1
   have hk_bv := Nat.le_trans hk_b0 K'bk.1
   have N_bk := Fr.app Nq'87 Nq'bk
   refine goo (fun _ k => st'bk.trans k) ?_
   refine goo (fun _ k => XS.pop X'bk.here hx rfl (hb hby at_202) rfl rfl <| XS.aload X'bk.here hx rfl (hb hby at_203) rfl rfl k) ?_
   obtain ⟨cq'bw, kq'bw, q'bwa, q'bwb, q'bwc⟩ := isOf hZ rfl G_bl
   obtain ⟨_, _, ⟨T'bw, L'bw, k'bw, n'bw⟩, -, X'bw, ⟨Lc'bw, hQ'bw, l'bw, y'bw, z'bw⟩, st'bw⟩ := X'bk.virtualBack hx (y := Y26) (z := Y26) hown (mvT hZ (qw hw 75 rfl)) (mvT hZ (qw hw 76 rfl)) (notFace_of_selects (args := #[]) (mvT hZ (qw hw 78 rfl))) (mvT hZ (qw hw 78 rfl)) (mvT hZ (qw hw 77 rfl)) (by decide) (backOf (W := 0) (rm_end1 l Z a0 hw [] b'1r ca'2h ea'2h kc'2h ke'2h (own_c x0) (own_c x3) g1 g2 i_0 i_0 i_1 i_0 i_0 i_0 i_2 T'bk.heap n0 Z_bu G_bl G_bm G_bn G_bo G_bp G_bq G_br ge_1w ge_2q ge_2w ne_2p ne_2v nab'2h) hZ (qw hw 79 rfl) (qw hw 46 rfl) (by decide) (by decide)) q'bwa q'bwc (g := (mkF m 205 #[iv x0, iv x1, iv x2, iv x3, iv x4, iv (own_c x0), iv (own_c x1), iv (own_c x2), iv (own_c x3), iv i_1, iv (own_pend x4), iv (own_aft x4), rv b'0, rv b'm, rv b'w, rv b'1r, .unset, .unset, .unset] [.ref b'1r])) rfl (by rw [hml]; rfl) (Steps.refl _) (argsL := []) (rest := []) (lenOf own_pd20 rfl) rfl (Nat.le_of_eq rfl) (hb hby at_205) (fun _ _ => ⟨rfl, rfl, (by decide : 9 + 0 ≤ _), (by decide : 563 + 0 ≤ _)⟩)
   dsimp only [Pt.U, Pt.locs, Pt.cells, Pt.slots] at X'bw l'bw y'bw z'bw st'bw hQ'bw
   subst l'bw y'bw z'bw
   obtain ⟨rfl, Nq'bw, K'bw, G_bx, G_by, G_bz, G_c0, G_c1, G_c2, G_c3⟩ := hQ'bw
   have S_c4 := own_staKeep S_bs K'bw (allS (own_nsX G_bl) (allS (own_nsV G_br) all0))
   have S_c5 := own_staKeep S_bt K'bw (allS (own_nsX G_bl) (allS (own_nsV G_br) all0))
   have Z_c6 : n0 ≤ T'bw.heap.size := Nat.le_trans Z_bu K'bw.1
   have hk_c7 := Nat.le_trans hk_bv K'bw.1
   have N_bw := Fr.app N_bk Nq'bw
   refine goo (fun _ k => st'bw.trans k) ?_
   refine goo (fun _ k => XS.iload X'bw.here hx rfl (hb hby at_208) rfl k) ?_
   show own_G _ _ _ _ (T'bw.setTop (mkF m 210 #[iv x0, iv x1, iv x2, iv x3, iv x4, iv (own_c x0), iv (own_c x1), iv (own_c x2), iv (own_c x3), iv i_1, iv (own_pend x4), iv (own_aft x4), rv b'0, rv b'm, rv b'w, rv b'1r, .unset, .unset, .unset] [(.int (own_aft x4))]))
   refine goo (fun _ k => XS.ifNo X'bw.here hx rfl (hb hby at_210) rfl (((if0 _ _).trans (feq hc192_2397).1)) <| XS.iconst X'bw.here hx rfl (hb hby at_213) <| XS.goto X'bw.here hx rfl (pc0 := 214) (pc' := 218) rfl (hb hby at_214) (by decide) (by decide) <| XS.istore X'bw.here hx rfl (hb hby at_218) rfl (l' := #[iv x0, iv x1, iv x2, iv x3, iv x4, iv (own_c x0), iv (own_c x1), iv (own_c x2), iv (own_c x3), iv i_1, iv (own_pend x4), iv (own_aft x4), rv b'0, rv b'm, rv b'w, rv b'1r, iv i_1, .unset, .unset]) rfl k) ?_
   refine goo (fun _ k => XS.aload X'bw.here hx rfl (hb hby at_220) rfl rfl k) ?_
   obtain ⟨T'c8, X'c8, e'c8, st'c8⟩ := own_callV X'bw hx hZ (y := Y32) hown (qw hw 80 rfl) (qw hw 81 rfl) (qw hw 83 rfl) (qw hw 82 rfl) (qw hw 46 rfl) (qw hw 84 rfl) (by decide) (W := 0) (rm15 l Z a0 hw [] b'1r i_2 T'bw.heap G_c1) (by decide) (by decide) rfl rfl rfl G_bx (g := (mkF m 222 #[iv x0, iv x1, iv x2, iv x3, iv x4, iv (own_c x0), iv (own_c x1), iv (own_c x2), iv (own_c x3), iv i_1, iv (own_pend x4), iv (own_aft x4), rv b'0, rv b'm, rv b'w, rv b'1r, iv i_1, .unset, .unset] [.ref b'1r])) rfl (by rw [hml]; rfl) (argsL := []) (rest := []) (lenOf own_pd18 rfl) rfl rfl (Nat.le_of_eq rfl) (hb hby at_222) (by decide) (by decide)
   refine goo st'c8 ?_
   show own_G _ _ _ _ (T'c8.setTop (mkF m 225 #[iv x0, iv x1, iv x2, iv x3, iv x4, iv (own_c x0), iv (own_c x1), iv (own_c x2), iv (own_c x3), iv i_1, iv (own_pend x4), iv (own_aft x4), rv b'0, rv b'm, rv b'w, rv b'1r, iv i_1, .unset, .unset] [.int i_2]))
   refine goo (fun _ k => XS.iload X'c8.here hx rfl (hb hby at_225) rfl <| XS.iconst X'c8.here hx rfl (hb hby at_227) <| XS.iadd X'c8.here hx rfl (hb hby at_228) rfl <| XS.icmpYes X'c8.here hx rfl (pc0 := 229) (pc' := 234) rfl (hb hby at_229) rfl ((teq (by decide : i_2 = i_2)).1) (by decide) (by decide) k) ?_
   refine goo (fun _ k => XS.aload X'c8.here hx rfl (hb hby at_234) rfl rfl <| XS.iload X'c8.here hx rfl (hb hby at_236) rfl k) ?_
   show own_G _ _ _ _ (T'c8.setTop (mkF m 238 #[iv x0, iv x1, iv x2, iv x3, iv x4, iv (own_c x0), iv (own_c x1), iv (own_c x2), iv (own_c x3), iv i_1, iv (own_pend x4), iv (own_aft x4), rv b'0, rv b'm, rv b'w, rv b'1r, iv i_1, .unset, .unset] [.int i_1, .ref b'1r]))
   obtain ⟨T'c9, X'c9, e'c9, st'c9⟩ := own_callV X'c8 hx hZ (y := Y35) hown (qw hw 85 rfl) (qw hw 86 rfl) (qw hw 88 rfl) (qw hw 87 rfl) (qw hw 46 rfl) (qw hw 89 rfl) (by decide) (W := 0) (rm_ln11 l Z a0 hw [] b'1r ea'2h ke'2h i_0 i_0 T'bw.heap G_bx G_c1 G_bz G_c3) (by decide) (by decide) rfl rfl e'c8 G_bx (g := (mkF m 238 #[iv x0, iv x1, iv x2, iv x3, iv x4, iv (own_c x0), iv (own_c x1), iv (own_c x2), iv (own_c x3), iv i_1, iv (own_pend x4), iv (own_aft x4), rv b'0, rv b'm, rv b'w, rv b'1r, iv i_1, .unset, .unset] [.int i_1, .ref b'1r])) rfl (by rw [hml]; rfl) (argsL := [.int i_1]) (rest := []) (lenOf own_pd21 rfl) rfl rfl (Nat.le_of_eq rfl) (hb hby at_238) (by decide) (by decide)
   refine goo st'c9 ?_
   refine goo (fun _ k => XS.iload X'c9.here hx rfl (hb hby at_241) rfl <| XS.icmpYes X'c9.here hx rfl (pc0 := 243) (pc' := 248) rfl (hb hby at_243) rfl ((teq (by decide : i_1 = i_1)).1) (by decide) (by decide) <| XS.aload X'c9.here hx rfl (hb hby at_248) rfl rfl <| XS.iload X'c9.here hx rfl (hb hby at_250) rfl k) ?_
   obtain ⟨cq'ca, kq'ca, q'caa, q'cab, q'cac⟩ := isOf hZ e'c9 G_bx
   obtain ⟨_, _, ⟨T'ca, L'ca, k'ca, n'ca⟩, -, X'ca, ⟨Lc'ca, hQ'ca, l'ca, y'ca, z'ca⟩, st'ca⟩ := X'c9.virtualBack hx (y := Y36) (z := Y36) hown (mvT hZ (qw hw 100 rfl)) (mvT hZ (qw hw 101 rfl)) (notFace_of_selects (args := #[]) (mvT hZ (qw hw 103 rfl))) (mvT hZ (qw hw 103 rfl)) (mvT hZ (qw hw 102 rfl)) (by decide) (backOf (W := 0) (rm_va11_1 l Z a0 hw [] b'1r ca'2h ea'2h kc'2h ke'2h (own_c x0) (own_c x3) g1 g2 i_0 i_0 i_0 i_0 cz fz T'bw.heap n0 Z_c6 G_bx G_by G_bz G_c1 G_c2 G_c3 S_c4 hcz S_c5 (own_c_ok x3) hfz) hZ (qw hw 104 rfl) (qw hw 46 rfl) (by decide) (by decide)) q'caa q'cac (g := (mkF m 252 #[iv x0, iv x1, iv x2, iv x3, iv x4, iv (own_c x0), iv (own_c x1), iv (own_c x2), iv (own_c x3), iv i_1, iv (own_pend x4), iv (own_aft x4), rv b'0, rv b'm, rv b'w, rv b'1r, iv i_1, .unset, .unset] [.int i_1, .ref b'1r])) rfl (by rw [hml]; rfl) (Steps.refl _) (argsL := [.int i_1]) (rest := []) (lenOf own_pd26 rfl) rfl (Nat.le_of_eq rfl) (hb hby at_252) (fun _ _ => ⟨rfl, e'c9, (by decide : 9 + 2 ≤ _), (by decide : 563 + 5 ≤ _)⟩)
   dsimp only [Pt.U, Pt.locs, Pt.cells, Pt.slots] at X'ca l'ca y'ca z'ca st'ca hQ'ca
   subst l'ca y'ca z'ca
   obtain ⟨b'ca, rfl, Nq'ca, K'ca, gz'ca, G_cb, G_cc, qx'ca⟩ := hQ'ca
   obtain ⟨vb'ca, kv'ca, gv'ca, Fv'ca, Vv'ca⟩ := qx'ca
   have S_cd := own_staKeep S_c4 K'ca all0
   have Z_ce : n0 ≤ T'ca.heap.size := Nat.le_trans Z_c6 K'ca.1
   have hk_cf := Nat.le_trans hk_c7 K'ca.1
   have N_ca := Fr.app N_bw Nq'ca
   refine goo (fun _ k => st'ca.trans k) ?_
   show own_G _ _ _ _ (T'ca.setTop (mkF m 255 #[iv x0, iv x1, iv x2, iv x3, iv x4, iv (own_c x0), iv (own_c x1), iv (own_c x2), iv (own_c x3), iv i_1, iv (own_pend x4), iv (own_aft x4), rv b'0, rv b'm, rv b'w, rv b'1r, iv i_1, .unset, .unset] [.ref b'ca]))
   refine goo (fun _ k => XS.astore X'ca.here hx rfl (hb hby at_255) rfl rfl (l' := #[iv x0, iv x1, iv x2, iv x3, iv x4, iv (own_c x0), iv (own_c x1), iv (own_c x2), iv (own_c x3), iv i_1, iv (own_pend x4), iv (own_aft x4), rv b'0, rv b'm, rv b'w, rv b'1r, iv i_1, rv b'ca, .unset]) rfl <| XS.iload X'ca.here hx rfl (hb hby at_257) rfl <| XS.ifNo X'ca.here hx rfl (hb hby at_259) rfl (((if0 _ _).trans (feq hc192_2397).1)) <| XS.aload X'ca.here hx rfl (hb hby at_262) rfl rfl k) ?_
   refine goo (fun _ k => XS.iload X'ca.here hx rfl (hb hby at_264) rfl k) ?_
   obtain ⟨_, _, ⟨T'cg, L'cg, k'cg, n'cg⟩, -, X'cg, ⟨Lc'cg, hQ'cg, l'cg, y'cg, z'cg⟩, st'cg⟩ := Jvm.LawKit.callS X'ca hx (y := Y3) hown (mvT hZ (qw hw 1 rfl)) (mvT hZ (qw hw 2 rfl)) (mvT hZ (qw hw 3 rfl)) (mvT hZ (qw hw 4 rfl)) (by decide) (backOf (W := 1) (rm1 l Z a0 hw [] (own_c x3) cz T'ca.heap n0 Z_ce S_cd hcz (own_c_ok x3)) hZ (qw hw 4 rfl) (qw hw 3 rfl) (by decide) (by decide)) (g := (mkF m 266 #[iv x0, iv x1, iv x2, iv x3, iv x4, iv (own_c x0), iv (own_c x1), iv (own_c x2), iv (own_c x3), iv i_1, iv (own_pend x4), iv (own_aft x4), rv b'0, rv b'm, rv b'w, rv b'1r, iv i_1, rv b'ca, .unset] [(.int (own_c x3)), .ref b'ca])) rfl (by rw [hml]; rfl) (argsL := [(.int (own_c x3))]) (rest := [.ref b'ca]) (lenOf own_pd23 rfl) rfl (Nat.le_of_eq rfl) (hb hby at_266) (fun _ _ => ⟨rfl, rfl, (by decide : 11 + 2 ≤ _), (by decide : 568 + 5 ≤ _)⟩)
   dsimp only [Pt.U, Pt.locs, Pt.cells, Pt.slots] at X'cg l'cg y'cg z'cg st'cg hQ'cg
   subst l'cg y'cg z'cg
   obtain ⟨b'cg, rfl, Nq'cg, K'cg, gz'cg, G_ch, G_ci, qx'cg⟩ := hQ'cg
   have ne_cj : b'ca ≠ b'cg := Nat.ne_of_lt (Nat.lt_of_lt_of_le G_cb.lt gz'cg)
   obtain ⟨vb'cg, kv'cg, gv'cg, Fv'cg, Vv'cg⟩ := qx'cg
   have S_ck := own_staKeep S_cd K'cg all0
   have X_cl := G_cb.keep K'cg
   have F_cm := G_cc.keep K'cg nin0
   have F_cn := Fv'ca.keep K'cg nin0
   have V_co := Vv'ca.keep K'cg nin0
   have hk_cp := Nat.le_trans hk_cf K'cg.1
   have N_cg := Fr.app N_ca Nq'cg
   refine goo (fun _ k => st'cg _ k) ?_
   show own_G _ _ _ _ (T'cg.setTop (mkF m 269 #[iv x0, iv x1, iv x2, iv x3, iv x4, iv (own_c x0), iv (own_c x1), iv (own_c x2), iv (own_c x3), iv i_1, iv (own_pend x4), iv (own_aft x4), rv b'0, rv b'm, rv b'w, rv b'1r, iv i_1, rv b'ca, .unset] [.ref b'cg, .ref b'ca]))
   obtain ⟨T'cq, X'cq, e'cq, st'cq⟩ := own_callV X'cg hx hZ (y := Y12) hown (qw hw 179 rfl) (qw hw 180 rfl) (qw hw 182 rfl) (qw hw 181 rfl) (qw hw 3 rfl) (qw hw 183 rfl) (by decide) (W := 0) (rm_eq1 l Z a0 hw [] b'ca b'cg cz vb'ca vb'cg kv'ca kv'cg (own_by (own_c x3)) T'cg.heap S_ck hcz F_cm F_cn V_co G_ci Fv'cg Vv'cg G_ch ne_cj) (by decide) (by decide) rfl rfl rfl X_cl (g := (mkF m 269 #[iv x0, iv x1, iv x2, iv x3, iv x4, iv (own_c x0), iv (own_c x1), iv (own_c x2), iv (own_c x3), iv i_1, iv (own_pend x4), iv (own_aft x4), rv b'0, rv b'm, rv b'w, rv b'1r, iv i_1, rv b'ca, .unset] [.ref b'cg, .ref b'ca])) rfl (by rw [hml]; rfl) (argsL := [.ref b'cg]) (rest := []) (lenOf own_pd27 rfl) rfl rfl (Nat.le_of_eq rfl) (hb hby at_269) (by decide) (by decide)
   refine goo st'cq ?_
   refine goo (fun _ k => XS.goto X'cq.here hx rfl (pc0 := 272) (pc' := 280) rfl (hb hby at_272) (by decide) (by decide) <| XS.istore X'cq.here hx rfl (hb hby at_280) rfl (l' := #[iv x0, iv x1, iv x2, iv x3, iv x4, iv (own_c x0), iv (own_c x1), iv (own_c x2), iv (own_c x3), iv i_1, iv (own_pend x4), iv (own_aft x4), rv b'0, rv b'm, rv b'w, rv b'1r, iv i_1, rv b'ca, iv i_1]) rfl <| XS.iload X'cq.here hx rfl (hb hby at_282) rfl <| XS.ifYes X'cq.here hx rfl (pc0 := 284) (pc' := 289) rfl (hb hby at_284) rfl (((if0 _ _).trans (feq (by decide : ¬ (i_1 = i_0))).2)) (by decide) (by decide) k) ?_
   refine goo (fun _ k => XS.iload X'cq.here hx rfl (hb hby at_289) rfl k) ?_
   show own_G _ _ _ _ (T'cq.setTop (mkF m 291 #[iv x0, iv x1, iv x2, iv x3, iv x4, iv (own_c x0), iv (own_c x1), iv (own_c x2), iv (own_c x3), iv i_1, iv (own_pend x4), iv (own_aft x4), rv b'0, rv b'm, rv b'w, rv b'1r, iv i_1, rv b'ca, iv i_1] [.int i_1]))
   refine goo (fun _ k => XS.iconst X'cq.here hx rfl (hb hby at_291) <| XS.icmpYes X'cq.here hx rfl (pc0 := 292) (pc' := 311) rfl (hb hby at_292) rfl ((feq (by decide : ¬ (i_1 = i_3))).2) (by decide) (by decide) <| XS.iconst X'cq.here hx rfl (hb hby at_311) k) ?_
   show own_G _ _ _ _ (T'cq.setTop (mkF m 312 #[iv x0, iv x1, iv x2, iv x3, iv x4, iv (own_c x0), iv (own_c x1), iv (own_c x2), iv (own_c x3), iv i_1, iv (own_pend x4), iv (own_aft x4), rv b'0, rv b'm, rv b'w, rv b'1r, iv i_1, rv b'ca, iv i_1] [.int i_1]))
   exact own_endW (vm₁ := s.vm) X'cq Bd.notSynchronized hS (by rw [e'cq]; exact hk_cp) (v := some (.int (nar .boolean i_1))) (fun h => by rw [Bd.returns] at h; cases h) (Q := QL (some (.int i_1)) n0) ⟨rfl, N_cg⟩ (fun fs hr => retN X'cq hx (t := .boolean) Bd.returns (by simp) (hb hby at_312) hr) (by decide) (by decide)
 ·rw [hp]
  refine goo (fun _ k => XS.iload X'2h.here hx rfl (hb hby at_106) rfl <| XS.iconst X'2h.here hx rfl (hb hby at_108) <| XS.icmpNo X'2h.here hx rfl (hb hby at_109) rfl ((flt (by decide : ¬ (i_2 < i_1))).1) <| XS.aload X'2h.here hx rfl (hb hby at_112) rfl rfl k) ?_
  show own_G _ _ _ _ (T'2h.setTop (mkF m 114 #[iv x0, iv x1, iv x2, iv x3, iv x4, iv (own_c x0), iv (own_c x1), iv (own_c x2), iv (own_c x3), iv i_2, iv (own_pend x4), iv (own_aft x4), rv b'0, rv b'm, rv b'w, rv b'1r, .unset, .unset, .unset] [.ref b'1r]))
  refine goo (fun _ k => XS.aload X'2h.here hx rfl (hb hby at_114) rfl rfl k) ?_
  obtain ⟨cq'cr, kq'cr, q'cra, q'crb, q'crc⟩ := isOf hZ rfl G_2i
  obtain ⟨_, _, ⟨T'cr, L'cr, k'cr, n'cr⟩, -, X'cr, ⟨Lc'cr, hQ'cr, l'cr, y'cr, z'cr⟩, st'cr⟩ := X'2h.virtualBack hx (y := Y28) (z := Y28) hown (mvT hZ (qw hw 128 rfl)) (mvT hZ (qw hw 129 rfl)) (notFace_of_selects (args := #[]) (mvT hZ (qw hw 131 rfl))) (mvT hZ (qw hw 131 rfl)) (mvT hZ (qw hw 130 rfl)) (by decide) (backOf (W := 0) (rm_add1 l Z a0 hw [] b'1r b'm ca'2h ea'2h kc'2h ke'2h i_0 i_0 i_0 i_0 i_0 i_0 i_0 i_0 i_0 i_0 i_0 cz fz vb'm kv'm (own_c x0) T'2h.heap n0 Z_38 G_2i Fa'2h Fe'2h G_2j G_2k Va'2h Ve'2h ge_1w ge_2q ge_2w ne_2p ne_2v nab'2h X_30 F_31 F_32 V_33 S_2x hcz S_2y ne_1s ne_2l ne_2r ne_1t ne_2m ne_2s (own_c_ok x0) hfz) hZ (qw hw 132 rfl) (qw hw 46 rfl) (by decide) (by decide)) q'cra q'crc (g := (mkF m 116 #[iv x0, iv x1, iv x2, iv x3, iv x4, iv (own_c x0), iv (own_c x1), iv (own_c x2), iv (own_c x3), iv i_2, iv (own_pend x4), iv (own_aft x4), rv b'0, rv b'm, rv b'w, rv b'1r, .unset, .unset, .unset] [.ref b'm, .ref b'1r])) rfl (by rw [hml]; rfl) (Steps.refl _) (argsL := [.ref b'm]) (rest := []) (lenOf own_pd28 rfl) rfl (Nat.le_of_eq rfl) (hb hby at_116) (fun _ _ => ⟨rfl, rfl, (by decide : 9 + 0 ≤ _), (by decide : 563 + 0 ≤ _)⟩)
  dsimp only [Pt.U, Pt.locs, Pt.cells, Pt.slots] at X'cr l'cr y'cr z'cr st'cr hQ'cr
  subst l'cr y'cr z'cr
  obtain ⟨rfl, Nq'cr, K'cr, G_cs, G_ct, G_cu, G_cv, G_cw, G_cx, G_cy⟩ := hQ'cr
  have S_cz := own_staKeep S_2x K'cr (allS (own_nsX G_2i) (allS (own_nsV Va'2h) (allS (own_nsV Ve'2h) all0)))
  have S_d0 := own_staKeep S_2y K'cr (allS (own_nsX G_2i) (allS (own_nsV Va'2h) (allS (own_nsV Ve'2h) all0)))
  have Old_d1 := Old_2z.keep K'cr (allS ge_1w (allS ge_2q (allS ge_2w all0)))
  have Z_d2 : n0 ≤ T'cr.heap.size := Nat.le_trans Z_38 K'cr.1
  have hk_d3 := Nat.le_trans hk_39 K'cr.1
  have N_cr := Fr.app N_2h Nq'cr
  refine goo (fun _ k => st'cr.trans k) ?_
  refine goo (fun _ k => XS.iload X'cr.here hx rfl (hb hby at_119) rfl <| XS.iconst X'cr.here hx rfl (hb hby at_121) <| XS.icmpNo X'cr.here hx rfl (hb hby at_122) rfl ((flt (by decide : ¬ (i_2 < i_2))).1) <| XS.aload X'cr.here hx rfl (hb hby at_125) rfl rfl k) ?_
  show own_G _ _ _ _ (T'cr.setTop (mkF m 127 #[iv x0, iv x1, iv x2, iv x3, iv x4, iv (own_c x0), iv (own_c x1), iv (own_c x2), iv (own_c x3), iv i_2, iv (own_pend x4), iv (own_aft x4), rv b'0, rv b'm, rv b'w, rv b'1r, .unset, .unset, .unset] [.ref b'1r]))
  obtain ⟨cq'd4, kq'd4, q'd4a, q'd4b, q'd4c⟩ := isOf hZ rfl G_cs
  obtain ⟨_, _, ⟨T'd4, L'd4, k'd4, n'd4⟩, -, X'd4, ⟨Lc'd4, hQ'd4, l'd4, y'd4, z'd4⟩, st'd4⟩ := X'cr.virtualBack hx (y := Y26) (z := Y26) hown (mvT hZ (qw hw 75 rfl)) (mvT hZ (qw hw 76 rfl)) (notFace_of_selects (args := #[]) (mvT hZ (qw hw 78 rfl))) (mvT hZ (qw hw 78 rfl)) (mvT hZ (qw hw 77 rfl)) (by decide) (backOf (W := 0) (rm_end1 l Z a0 hw [] b'1r ca'2h ea'2h kc'2h ke'2h (own_c x0) i_0 i_0 i_0 i_0 i_0 i_1 i_0 i_0 i_0 i_1 T'cr.heap n0 Z_d2 G_cs G_ct G_cu G_cv G_cw G_cx G_cy ge_1w ge_2q ge_2w ne_2p ne_2v nab'2h) hZ (qw hw 79 rfl) (qw hw 46 rfl) (by decide) (by decide)) q'd4a q'd4c (g := (mkF m 127 #[iv x0, iv x1, iv x2, iv x3, iv x4, iv (own_c x0), iv (own_c x1), iv (own_c x2), iv (own_c x3), iv i_2, iv (own_pend x4), iv (own_aft x4), rv b'0, rv b'm, rv b'w, rv b'1r, .unset, .unset, .unset] [.ref b'1r])) rfl (by rw [hml]; rfl) (Steps.refl _) (argsL := []) (rest := []) (lenOf own_pd20 rfl) rfl (Nat.le_of_eq rfl) (hb hby at_127) (fun _ _ => ⟨rfl, rfl, (by decide : 9 + 0 ≤ _), (by decide : 563 + 0 ≤ _)⟩)
  dsimp only [Pt.U, Pt.locs, Pt.cells, Pt.slots] at X'd4 l'd4 y'd4 z'd4 st'd4 hQ'd4
  subst l'd4 y'd4 z'd4
  obtain ⟨rfl, Nq'd4, K'd4, G_d5, G_d6, G_d7, G_d8, G_d9, G_da, G_db⟩ := hQ'd4
  have S_dc := own_staKeep S_cz K'd4 (allS (own_nsX G_cs) (allS (own_nsV G_cy) all0))
  have S_dd := own_staKeep S_d0 K'd4 (allS (own_nsX G_cs) (allS (own_nsV G_cy) all0))
  have Old_de := Old_d1.keep K'd4 (allS ge_1w (allS ge_2w all0))
  have Z_df : n0 ≤ T'd4.heap.size := Nat.le_trans Z_d2 K'd4.1
  have hk_dg := Nat.le_trans hk_d3 K'd4.1
  have N_d4 := Fr.app N_cr Nq'd4
  refine goo (fun _ k => st'd4.trans k) ?_
  refine goo (fun _ k => XS.iload X'd4.here hx rfl (hb hby at_130) rfl <| XS.iconst X'd4.here hx rfl (hb hby at_132) <| XS.icmpYes X'd4.here hx rfl (pc0 := 133) (pc' := 143) rfl (hb hby at_133) rfl ((tlt (by decide : i_2 < i_3)).1) (by decide) (by decide) k) ?_
  refine own_joinG (fun T' L' => Fr n0 L' ∧ Keep T'd4.heap T'.heap [b'1r, ca'2h, ea'2h] ∧ Exa Z T'.heap b'1r s_3 ∧ Fld Z T'.heap b'1r s_3 "chars" "[C" (.ref ca'2h) ∧ Fld Z T'.heap b'1r s_3 "ends" "[I" (.ref ea'2h) ∧ Fld Z T'.heap b'1r s_3 "length" "I" (.int i_1) ∧ Fld Z T'.heap b'1r s_3 "size" "I" (.int i_2) ∧ Arv Z T'.heap ea'2h ke'2h .int i_32 [.int i_1, .int i_1, .int i_0, .int i_0] (.int i_0) ∧ ∃ g0 g1 g2, Arv Z T'.heap ca'2h kc'2h .char i_256 [.int (own_c x0), .int g0, .int g1, .int g2, .int i_0, .int i_0] (.int i_0)) X'd4 (mkF m 190 #[iv x0, iv x1, iv x2, iv x3, iv x4, iv (own_c x0), iv (own_c x1), iv (own_c x2), iv (own_c x3), iv i_2, iv (own_pend x4), iv (own_aft x4), rv b'0, rv b'm, rv b'w, rv b'1r, .unset, .unset, .unset] []) (fun hj => ?_) (fun T'dh L'dh X'dh hJ'dh => ?_)
  ·rcases own_pend4 x4 with hq | hq | hq | hq
   ·rw [hq] at hj ⊢
    refine goo (fun _ k => XS.iload X'd4.here hx rfl (hb hby at_143) rfl k) ?_
    show own_G _ _ _ _ (T'd4.setTop (mkF m 145 #[iv x0, iv x1, iv x2, iv x3, iv x4, iv (own_c x0), iv (own_c x1), iv (own_c x2), iv (own_c x3), iv i_2, iv i_0, iv (own_aft x4), rv b'0, rv b'm, rv b'w, rv b'1r, .unset, .unset, .unset] [.int i_0]))
    refine goo (fun _ k => XS.iconst X'd4.here hx rfl (hb hby at_145) <| XS.icmpYes X'd4.here hx rfl (pc0 := 146) (pc' := 157) rfl (hb hby at_146) rfl ((tlt (by decide : i_0 < i_1)).1) (by decide) (by decide) <| XS.iload X'd4.here hx rfl (hb hby at_157) rfl <| XS.iconst X'd4.here hx rfl (hb hby at_159) k) ?_
    refine goo (fun _ k => XS.icmpYes X'd4.here hx rfl (pc0 := 160) (pc' := 171) rfl (hb hby at_160) rfl ((tlt (by decide : i_0 < i_2)).1) (by decide) (by decide) <| XS.iload X'd4.here hx rfl (hb hby at_171) rfl k) ?_
    show own_G _ _ _ _ (T'd4.setTop (mkF m 173 #[iv x0, iv x1, iv x2, iv x3, iv x4, iv (own_c x0), iv (own_c x1), iv (own_c x2), iv (own_c x3), iv i_2, iv i_0, iv (own_aft x4), rv b'0, rv b'm, rv b'w, rv b'1r, .unset, .unset, .unset] [.int i_0]))
    refine goo (fun _ k => XS.iconst X'd4.here hx rfl (hb hby at_173) <| XS.icmpYes X'd4.here hx rfl (pc0 := 174) (pc' := 185) rfl (hb hby at_174) rfl ((tlt (by decide : i_0 < i_3)).1) (by decide) (by decide) <| XS.aload X'd4.here hx rfl (hb hby at_185) rfl rfl k) ?_
    obtain ⟨cq'di, kq'di, q'dia, q'dib, q'dic⟩ := isOf hZ rfl G_d5
    obtain ⟨_, _, ⟨T'di, L'di, k'di, n'di⟩, -, X'di, ⟨Lc'di, hQ'di, l'di, y'di, z'di⟩, st'di⟩ := X'd4.virtualBack hx (y := Y31) (z := Y31) hown (mvT hZ (qw hw 66 rfl)) (mvT hZ (qw hw 67 rfl)) (notFace_of_selects (args := #[]) (mvT hZ (qw hw 69 rfl))) (mvT hZ (qw hw 69 rfl)) (mvT hZ (qw hw 68 rfl)) (by decide) (backOf (W := 0) (rm_dis2 l Z a0 hw [] b'1r ca'2h ea'2h kc'2h ke'2h (own_c x0) i_0 i_0 i_0 i_0 i_0 i_1 i_1 i_0 i_0 i_1 T'd4.heap n0 Z_df G_d5 G_d6 G_d7 G_d8 G_d9 G_da G_db ge_1w ge_2q ge_2w ne_2p ne_2v nab'2h) hZ (qw hw 70 rfl) (qw hw 46 rfl) (by decide) (by decide)) q'dia q'dic (g := (mkF m 187 #[iv x0, iv x1, iv x2, iv x3, iv x4, iv (own_c x0), iv (own_c x1), iv (own_c x2), iv (own_c x3), iv i_2, iv i_0, iv (own_aft x4), rv b'0, rv b'm, rv b'w, rv b'1r, .unset, .unset, .unset] [.ref b'1r])) rfl (by rw [hml]; rfl) (Steps.refl _) (argsL := []) (rest := []) (lenOf own_pd20 rfl) rfl (Nat.le_of_eq rfl) (hb hby at_187) (fun _ _ => ⟨rfl, rfl, (by decide : 9 + 0 ≤ _), (by decide : 563 + 0 ≤ _)⟩)
    dsimp only [Pt.U, Pt.locs, Pt.cells, Pt.slots] at X'di l'di y'di z'di st'di hQ'di
    subst l'di y'di z'di
    obtain ⟨rfl, Nq'di, K'di, G_dj, G_dk, G_dl, G_dm, G_dn, G_do, G_dp⟩ := hQ'di
    have KP_dq : Keep T'd4.heap T'di.heap [b'1r, ca'2h, ea'2h] := (Keep.refl T'd4.heap [b'1r, ca'2h, ea'2h]).trans K'di (allS (Or.inl (List.mem_of_getElem? (i := 0) rfl)) all0)
    have N_di := Fr.app N_d4 Nq'di
    refine goo (fun _ k => st'di.trans k) ?_
    exact hj _ _ X'di (by exact ⟨N_di, KP_dq, G_dj, G_dk, G_dl, G_dm, G_dn, G_dp, _, _, _, G_do⟩)
   ·rw [hq] at hj ⊢
    refine goo (fun _ k => XS.iload X'd4.here hx rfl (hb hby at_143) rfl k) ?_
    show own_G _ _ _ _ (T'd4.setTop (mkF m 145 #[iv x0, iv x1, iv x2, iv x3, iv x4, iv (own_c x0), iv (own_c x1), iv (own_c x2), iv (own_c x3), iv i_2, iv i_1, iv (own_aft x4), rv b'0, rv b'm, rv b'w, rv b'1r, .unset, .unset, .unset] [.int i_1]))
    refine goo (fun _ k => XS.iconst X'd4.here hx rfl (hb hby at_145) <| XS.icmpNo X'd4.here hx rfl (hb hby at_146) rfl ((flt (by decide : ¬ (i_1 < i_1))).1) <| XS.aload X'd4.here hx rfl (hb hby at_149) rfl rfl <| XS.iload X'd4.here hx rfl (hb hby at_151) rfl k) ?_
    obtain ⟨cq'dr, kq'dr, q'dra, q'drb, q'drc⟩ := isOf hZ rfl G_d5
    obtain ⟨_, _, ⟨T'dr, L'dr, k'dr, n'dr⟩, -, X'dr, ⟨Lc'dr, hQ'dr, l'dr, y'dr, z'dr⟩, st'dr⟩ := X'd4.virtualBack hx (y := Y27) (z := Y27) hown (mvT hZ (qw hw 174 rfl)) (mvT hZ (qw hw 175 rfl)) (notFace_of_selects (args := #[]) (mvT hZ (qw hw 177 rfl))) (mvT hZ (qw hw 177 rfl)) (mvT hZ (qw hw 176 rfl)) (by decide) (backOf (W := 0) (rm_app1 l Z a0 hw [] b'1r (own_c x2) ca'2h ea'2h kc'2h ke'2h (own_c x0) i_0 i_0 i_0 i_0 i_0 i_1 i_1 i_0 i_0 i_1 i_2 T'd4.heap n0 Z_df G_d5 G_d6 G_d7 G_d8 G_d9 G_da G_db ge_1w ge_2q ge_2w ne_2p ne_2v nab'2h (own_c_ok x2)) hZ (qw hw 178 rfl) (qw hw 46 rfl) (by decide) (by decide)) q'dra q'drc (g := (mkF m 153 #[iv x0, iv x1, iv x2, iv x3, iv x4, iv (own_c x0), iv (own_c x1), iv (own_c x2), iv (own_c x3), iv i_2, iv i_1, iv (own_aft x4), rv b'0, rv b'm, rv b'w, rv b'1r, .unset, .unset, .unset] [(.int (own_c x2)), .ref b'1r])) rfl (by rw [hml]; rfl) (Steps.refl _) (argsL := [(.int (own_c x2))]) (rest := []) (lenOf own_pd25 rfl) rfl (Nat.le_of_eq rfl) (hb hby at_153) (fun _ _ => ⟨rfl, rfl, (by decide : 9 + 0 ≤ _), (by decide : 563 + 0 ≤ _)⟩)
    dsimp only [Pt.U, Pt.locs, Pt.cells, Pt.slots] at X'dr l'dr y'dr z'dr st'dr hQ'dr
    subst l'dr y'dr z'dr
    obtain ⟨rfl, Nq'dr, K'dr, G_ds, G_dt, G_du, G_dv, G_dw, G_dx, G_dy⟩ := hQ'dr
    have Z_dz : n0 ≤ T'dr.heap.size := Nat.le_trans Z_df K'dr.1
    have KP_e0 : Keep T'd4.heap T'dr.heap [b'1r, ca'2h, ea'2h] := (Keep.refl T'd4.heap [b'1r, ca'2h, ea'2h]).trans K'dr (allS (Or.inl (List.mem_of_getElem? (i := 0) rfl)) (allS (Or.inl (List.mem_of_getElem? (i := 1) rfl)) all0))
    have N_dr := Fr.app N_d4 Nq'dr
    refine goo (fun _ k => st'dr.trans k) ?_
    refine goo (fun _ k => XS.pop X'dr.here hx rfl (hb hby at_156) rfl rfl k) ?_
    show own_G _ _ _ _ (T'dr.setTop (mkF m 157 #[iv x0, iv x1, iv x2, iv x3, iv x4, iv (own_c x0), iv (own_c x1), iv (own_c x2), iv (own_c x3), iv i_2, iv i_1, iv (own_aft x4), rv b'0, rv b'm, rv b'w, rv b'1r, .unset, .unset, .unset] []))
    refine goo (fun _ k => XS.iload X'dr.here hx rfl (hb hby at_157) rfl <| XS.iconst X'dr.here hx rfl (hb hby at_159) <| XS.icmpYes X'dr.here hx rfl (pc0 := 160) (pc' := 171) rfl (hb hby at_160) rfl ((tlt (by decide : i_1 < i_2)).1) (by decide) (by decide) <| XS.iload X'dr.here hx rfl (hb hby at_171) rfl k) ?_
    refine goo (fun _ k => XS.iconst X'dr.here hx rfl (hb hby at_173) <| XS.icmpYes X'dr.here hx rfl (pc0 := 174) (pc' := 185) rfl (hb hby at_174) rfl ((tlt (by decide : i_1 < i_3)).1) (by decide) (by decide) k) ?_
    show own_G _ _ _ _ (T'dr.setTop (mkF m 185 #[iv x0, iv x1, iv x2, iv x3, iv x4, iv (own_c x0), iv (own_c x1), iv (own_c x2), iv (own_c x3), iv i_2, iv i_1, iv (own_aft x4), rv b'0, rv b'm, rv b'w, rv b'1r, .unset, .unset, .unset] []))
    refine goo (fun _ k => XS.aload X'dr.here hx rfl (hb hby at_185) rfl rfl k) ?_
    obtain ⟨cq'e1, kq'e1, q'e1a, q'e1b, q'e1c⟩ := isOf hZ rfl G_ds
    obtain ⟨_, _, ⟨T'e1, L'e1, k'e1, n'e1⟩, -, X'e1, ⟨Lc'e1, hQ'e1, l'e1, y'e1, z'e1⟩, st'e1⟩ := X'dr.virtualBack hx (y := Y31) (z := Y31) hown (mvT hZ (qw hw 66 rfl)) (mvT hZ (qw hw 67 rfl)) (notFace_of_selects (args := #[]) (mvT hZ (qw hw 69 rfl))) (mvT hZ (qw hw 69 rfl)) (mvT hZ (qw hw 68 rfl)) (by decide) (backOf (W := 0) (rm_dis2 l Z a0 hw [] b'1r ca'2h ea'2h kc'2h ke'2h (own_c x0) (own_c x2) i_0 i_0 i_0 i_0 i_1 i_1 i_0 i_0 i_2 T'dr.heap n0 Z_dz G_ds G_dt G_du G_dv G_dw G_dx G_dy ge_1w ge_2q ge_2w ne_2p ne_2v nab'2h) hZ (qw hw 70 rfl) (qw hw 46 rfl) (by decide) (by decide)) q'e1a q'e1c (g := (mkF m 187 #[iv x0, iv x1, iv x2, iv x3, iv x4, iv (own_c x0), iv (own_c x1), iv (own_c x2), iv (own_c x3), iv i_2, iv i_1, iv (own_aft x4), rv b'0, rv b'm, rv b'w, rv b'1r, .unset, .unset, .unset] [.ref b'1r])) rfl (by rw [hml]; rfl) (Steps.refl _) (argsL := []) (rest := []) (lenOf own_pd20 rfl) rfl (Nat.le_of_eq rfl) (hb hby at_187) (fun _ _ => ⟨rfl, rfl, (by decide : 9 + 0 ≤ _), (by decide : 563 + 0 ≤ _)⟩)
    dsimp only [Pt.U, Pt.locs, Pt.cells, Pt.slots] at X'e1 l'e1 y'e1 z'e1 st'e1 hQ'e1
    subst l'e1 y'e1 z'e1
    obtain ⟨rfl, Nq'e1, K'e1, G_e2, G_e3, G_e4, G_e5, G_e6, G_e7, G_e8⟩ := hQ'e1
    have KP_e9 : Keep T'd4.heap T'e1.heap [b'1r, ca'2h, ea'2h] := KP_e0.trans K'e1 (allS (Or.inl (List.mem_of_getElem? (i := 0) rfl)) all0)
    have N_e1 := Fr.app N_dr Nq'e1
    refine goo (fun _ k => st'e1.trans k) ?_
    exact hj _ _ X'e1 (by exact ⟨N_e1, KP_e9, G_e2, G_e3, G_e4, G_e5, G_e6, G_e8, _, _, _, G_e7⟩)
   ·rw [hq] at hj ⊢
    refine goo (fun _ k => XS.iload X'd4.here hx rfl (hb hby at_143) rfl k) ?_
    show own_G _ _ _ _ (T'd4.setTop (mkF m 145 #[iv x0, iv x1, iv x2, iv x3, iv x4, iv (own_c x0), iv (own_c x1), iv (own_c x2), iv (own_c x3), iv i_2, iv i_2, iv (own_aft x4), rv b'0, rv b'm, rv b'w, rv b'1r, .unset, .unset, .unset] [.int i_2]))
    refine goo (fun _ k => XS.iconst X'd4.here hx rfl (hb hby at_145) <| XS.icmpNo X'd4.here hx rfl (hb hby at_146) rfl ((flt (by decide : ¬ (i_2 < i_1))).1) <| XS.aload X'd4.here hx rfl (hb hby at_149) rfl rfl <| XS.iload X'd4.here hx rfl (hb hby at_151) rfl k) ?_
    obtain ⟨cq'ea, kq'ea, q'eaa, q'eab, q'eac⟩ := isOf hZ rfl G_d5
    obtain ⟨_, _, ⟨T'ea, L'ea, k'ea, n'ea⟩, -, X'ea, ⟨Lc'ea, hQ'ea, l'ea, y'ea, z'ea⟩, st'ea⟩ := X'd4.virtualBack hx (y := Y27) (z := Y27) hown (mvT hZ (qw hw 174 rfl)) (mvT hZ (qw hw 175 rfl)) (notFace_of_selects (args := #[]) (mvT hZ (qw hw 177 rfl))) (mvT hZ (qw hw 177 rfl)) (mvT hZ (qw hw 176 rfl)) (by decide) (backOf (W := 0) (rm_app1 l Z a0 hw [] b'1r (own_c x2) ca'2h ea'2h kc'2h ke'2h (own_c x0) i_0 i_0 i_0 i_0 i_0 i_1 i_1 i_0 i_0 i_1 i_2 T'd4.heap n0 Z_df G_d5 G_d6 G_d7 G_d8 G_d9 G_da G_db ge_1w ge_2q ge_2w ne_2p ne_2v nab'2h (own_c_ok x2)) hZ (qw hw 178 rfl) (qw hw 46 rfl) (by decide) (by decide)) q'eaa q'eac (g := (mkF m 153 #[iv x0, iv x1, iv x2, iv x3, iv x4, iv (own_c x0), iv (own_c x1), iv (own_c x2), iv (own_c x3), iv i_2, iv i_2, iv (own_aft x4), rv b'0, rv b'm, rv b'w, rv b'1r, .unset, .unset, .unset] [(.int (own_c x2)), .ref b'1r])) rfl (by rw [hml]; rfl) (Steps.refl _) (argsL := [(.int (own_c x2))]) (rest := []) (lenOf own_pd25 rfl) rfl (Nat.le_of_eq rfl) (hb hby at_153) (fun _ _ => ⟨rfl, rfl, (by decide : 9 + 0 ≤ _), (by decide : 563 + 0 ≤ _)⟩)
    dsimp only [Pt.U, Pt.locs, Pt.cells, Pt.slots] at X'ea l'ea y'ea z'ea st'ea hQ'ea
    subst l'ea y'ea z'ea
    obtain ⟨rfl, Nq'ea, K'ea, G_eb, G_ec, G_ed, G_ee, G_ef, G_eg, G_eh⟩ := hQ'ea
    have Z_ei : n0 ≤ T'ea.heap.size := Nat.le_trans Z_df K'ea.1
    have KP_ej : Keep T'd4.heap T'ea.heap [b'1r, ca'2h, ea'2h] := (Keep.refl T'd4.heap [b'1r, ca'2h, ea'2h]).trans K'ea (allS (Or.inl (List.mem_of_getElem? (i := 0) rfl)) (allS (Or.inl (List.mem_of_getElem? (i := 1) rfl)) all0))
    have N_ea := Fr.app N_d4 Nq'ea
    refine goo (fun _ k => st'ea.trans k) ?_
    refine goo (fun _ k => XS.pop X'ea.here hx rfl (hb hby at_156) rfl rfl k) ?_
    show own_G _ _ _ _ (T'ea.setTop (mkF m 157 #[iv x0, iv x1, iv x2, iv x3, iv x4, iv (own_c x0), iv (own_c x1), iv (own_c x2), iv (own_c x3), iv i_2, iv i_2, iv (own_aft x4), rv b'0, rv b'm, rv b'w, rv b'1r, .unset, .unset, .unset] []))
    refine goo (fun _ k => XS.iload X'ea.here hx rfl (hb hby at_157) rfl <| XS.iconst X'ea.here hx rfl (hb hby at_159) <| XS.icmpNo X'ea.here hx rfl (hb hby at_160) rfl ((flt (by decide : ¬ (i_2 < i_2))).1) <| XS.aload X'ea.here hx rfl (hb hby at_163) rfl rfl k) ?_
    refine goo (fun _ k => XS.iload X'ea.here hx rfl (hb hby at_165) rfl k) ?_
    obtain ⟨cq'ek, kq'ek, q'eka, q'ekb, q'ekc⟩ := isOf hZ rfl G_eb
    obtain ⟨_, _, ⟨T'ek, L'ek, k'ek, n'ek⟩, -, X'ek, ⟨Lc'ek, hQ'ek, l'ek, y'ek, z'ek⟩, st'ek⟩ := X'ea.virtualBack hx (y := Y27) (z := Y27) hown (mvT hZ (qw hw 174 rfl)) (mvT hZ (qw hw 175 rfl)) (notFace_of_selects (args := #[]) (mvT hZ (qw hw 177 rfl))) (mvT hZ (qw hw 177 rfl)) (mvT hZ (qw hw 176 rfl)) (by decide) (backOf (W := 0) (rm_app2 l Z a0 hw [] b'1r (own_c x1) ca'2h ea'2h kc'2h ke'2h (own_c x0) (own_c x2) i_0 i_0 i_0 i_0 i_1 i_1 i_0 i_0 i_2 i_2 T'ea.heap n0 Z_ei G_eb G_ec G_ed G_ee G_ef G_eg G_eh ge_1w ge_2q ge_2w ne_2p ne_2v nab'2h (own_c_ok x1)) hZ (qw hw 178 rfl) (qw hw 46 rfl) (by decide) (by decide)) q'eka q'ekc (g := (mkF m 167 #[iv x0, iv x1, iv x2, iv x3, iv x4, iv (own_c x0), iv (own_c x1), iv (own_c x2), iv (own_c x3), iv i_2, iv i_2, iv (own_aft x4), rv b'0, rv b'm, rv b'w, rv b'1r, .unset, .unset, .unset] [(.int (own_c x1)), .ref b'1r])) rfl (by rw [hml]; rfl) (Steps.refl _) (argsL := [(.int (own_c x1))]) (rest := []) (lenOf own_pd25 rfl) rfl (Nat.le_of_eq rfl) (hb hby at_167) (fun _ _ => ⟨rfl, rfl, (by decide : 9 + 0 ≤ _), (by decide : 563 + 0 ≤ _)⟩)
    dsimp only [Pt.U, Pt.locs, Pt.cells, Pt.slots] at X'ek l'ek y'ek z'ek st'ek hQ'ek
    subst l'ek y'ek z'ek
    obtain ⟨rfl, Nq'ek, K'ek, G_el, G_em, G_en, G_eo, G_ep, G_eq, G_er⟩ := hQ'ek
    have Z_es : n0 ≤ T'ek.heap.size := Nat.le_trans Z_ei K'ek.1
    have KP_et : Keep T'd4.heap T'ek.heap [b'1r, ca'2h, ea'2h] := KP_ej.trans K'ek (allS (Or.inl (List.mem_of_getElem? (i := 0) rfl)) (allS (Or.inl (List.mem_of_getElem? (i := 1) rfl)) all0))
    have N_ek := Fr.app N_ea Nq'ek
    refine goo (fun _ k => st'ek.trans k) ?_
    show own_G _ _ _ _ (T'ek.setTop (mkF m 170 #[iv x0, iv x1, iv x2, iv x3, iv x4, iv (own_c x0), iv (own_c x1), iv (own_c x2), iv (own_c x3), iv i_2, iv i_2, iv (own_aft x4), rv b'0, rv b'm, rv b'w, rv b'1r, .unset, .unset, .unset] [.ref b'1r]))
    refine goo (fun _ k => XS.pop X'ek.here hx rfl (hb hby at_170) rfl rfl <| XS.iload X'ek.here hx rfl (hb hby at_171) rfl <| XS.iconst X'ek.here hx rfl (hb hby at_173) <| XS.icmpYes X'ek.here hx rfl (pc0 := 174) (pc' := 185) rfl (hb hby at_174) rfl ((tlt (by decide : i_2 < i_3)).1) (by decide) (by decide) k) ?_
    refine goo (fun _ k => XS.aload X'ek.here hx rfl (hb hby at_185) rfl rfl k) ?_
    obtain ⟨cq'eu, kq'eu, q'eua, q'eub, q'euc⟩ := isOf hZ rfl G_el
    obtain ⟨_, _, ⟨T'eu, L'eu, k'eu, n'eu⟩, -, X'eu, ⟨Lc'eu, hQ'eu, l'eu, y'eu, z'eu⟩, st'eu⟩ := X'ek.virtualBack hx (y := Y31) (z := Y31) hown (mvT hZ (qw hw 66 rfl)) (mvT hZ (qw hw 67 rfl)) (notFace_of_selects (args := #[]) (mvT hZ (qw hw 69 rfl))) (mvT hZ (qw hw 69 rfl)) (mvT hZ (qw hw 68 rfl)) (by decide) (backOf (W := 0) (rm_dis2 l Z a0 hw [] b'1r ca'2h ea'2h kc'2h ke'2h (own_c x0) (own_c x2) (own_c x1) i_0 i_0 i_0 i_1 i_1 i_0 i_0 i_3 T'ek.heap n0 Z_es G_el G_em G_en G_eo G_ep G_eq G_er ge_1w ge_2q ge_2w ne_2p ne_2v nab'2h) hZ (qw hw 70 rfl) (qw hw 46 rfl) (by decide) (by decide)) q'eua q'euc (g := (mkF m 187 #[iv x0, iv x1, iv x2, iv x3, iv x4, iv (own_c x0), iv (own_c x1), iv (own_c x2), iv (own_c x3), iv i_2, iv i_2, iv (own_aft x4), rv b'0, rv b'm, rv b'w, rv b'1r, .unset, .unset, .unset] [.ref b'1r])) rfl (by rw [hml]; rfl) (Steps.refl _) (argsL := []) (rest := []) (lenOf own_pd20 rfl) rfl (Nat.le_of_eq rfl) (hb hby at_187) (fun _ _ => ⟨rfl, rfl, (by decide : 9 + 0 ≤ _), (by decide : 563 + 0 ≤ _)⟩)
    dsimp only [Pt.U, Pt.locs, Pt.cells, Pt.slots] at X'eu l'eu y'eu z'eu st'eu hQ'eu
    subst l'eu y'eu z'eu
    obtain ⟨rfl, Nq'eu, K'eu, G_ev, G_ew, G_ex, G_ey, G_ez, G_f0, G_f1⟩ := hQ'eu
    have KP_f2 : Keep T'd4.heap T'eu.heap [b'1r, ca'2h, ea'2h] := KP_et.trans K'eu (allS (Or.inl (List.mem_of_getElem? (i := 0) rfl)) all0)
    have N_eu := Fr.app N_ek Nq'eu
    refine goo (fun _ k => st'eu.trans k) ?_
    show own_G _ _ _ _ (T'eu.setTop (mkF m 190 #[iv x0, iv x1, iv x2, iv x3, iv x4, iv (own_c x0), iv (own_c x1), iv (own_c x2), iv (own_c x3), iv i_2, iv i_2, iv (own_aft x4), rv b'0, rv b'm, rv b'w, rv b'1r, .unset, .unset, .unset] []))
    exact hj _ _ X'eu (by exact ⟨N_eu, KP_f2, G_ev, G_ew, G_ex, G_ey, G_ez, G_f1, _, _, _, G_f0⟩)
   ·rw [hq] at hj ⊢
    refine goo (fun _ k => XS.iload X'd4.here hx rfl (hb hby at_143) rfl k) ?_
    show own_G _ _ _ _ (T'd4.setTop (mkF m 145 #[iv x0, iv x1, iv x2, iv x3, iv x4, iv (own_c x0), iv (own_c x1), iv (own_c x2), iv (own_c x3), iv i_2, iv i_3, iv (own_aft x4), rv b'0, rv b'm, rv b'w, rv b'1r, .unset, .unset, .unset] [.int i_3]))
    refine goo (fun _ k => XS.iconst X'd4.here hx rfl (hb hby at_145) <| XS.icmpNo X'd4.here hx rfl (hb hby at_146) rfl ((flt (by decide : ¬ (i_3 < i_1))).1) <| XS.aload X'd4.here hx rfl (hb hby at_149) rfl rfl <| XS.iload X'd4.here hx rfl (hb hby at_151) rfl k) ?_
    obtain ⟨cq'f3, kq'f3, q'f3a, q'f3b, q'f3c⟩ := isOf hZ rfl G_d5
    obtain ⟨_, _, ⟨T'f3, L'f3, k'f3, n'f3⟩, -, X'f3, ⟨Lc'f3, hQ'f3, l'f3, y'f3, z'f3⟩, st'f3⟩ := X'd4.virtualBack hx (y := Y27) (z := Y27) hown (mvT hZ (qw hw 174 rfl)) (mvT hZ (qw hw 175 rfl)) (notFace_of_selects (args := #[]) (mvT hZ (qw hw 177 rfl))) (mvT hZ (qw hw 177 rfl)) (mvT hZ (qw hw 176 rfl)) (by decide) (backOf (W := 0) (rm_app1 l Z a0 hw [] b'1r (own_c x2) ca'2h ea'2h kc'2h ke'2h (own_c x0) i_0 i_0 i_0 i_0 i_0 i_1 i_1 i_0 i_0 i_1 i_2 T'd4.heap n0 Z_df G_d5 G_d6 G_d7 G_d8 G_d9 G_da G_db ge_1w ge_2q ge_2w ne_2p ne_2v nab'2h (own_c_ok x2)) hZ (qw hw 178 rfl) (qw hw 46 rfl) (by decide) (by decide)) q'f3a q'f3c (g := (mkF m 153 #[iv x0, iv x1, iv x2, iv x3, iv x4, iv (own_c x0), iv (own_c x1), iv (own_c x2), iv (own_c x3), iv i_2, iv i_3, iv (own_aft x4), rv b'0, rv b'm, rv b'w, rv b'1r, .unset, .unset, .unset] [(.int (own_c x2)), .ref b'1r])) rfl (by rw [hml]; rfl) (Steps.refl _) (argsL := [(.int (own_c x2))]) (rest := []) (lenOf own_pd25 rfl) rfl (Nat.le_of_eq rfl) (hb hby at_153) (fun _ _ => ⟨rfl, rfl, (by decide : 9 + 0 ≤ _), (by decide : 563 + 0 ≤ _)⟩)
    dsimp only [Pt.U, Pt.locs, Pt.cells, Pt.slots] at X'f3 l'f3 y'f3 z'f3 st'f3 hQ'f3
    subst l'f3 y'f3 z'f3
    obtain ⟨rfl, Nq'f3, K'f3, G_f4, G_f5, G_f6, G_f7, G_f8, G_f9, G_fa⟩ := hQ'f3
    have Z_fb : n0 ≤ T'f3.heap.size := Nat.le_trans Z_df K'f3.1
    have KP_fc : Keep T'd4.heap T'f3.heap [b'1r, ca'2h, ea'2h] := (Keep.refl T'd4.heap [b'1r, ca'2h, ea'2h]).trans K'f3 (allS (Or.inl (List.mem_of_getElem? (i := 0) rfl)) (allS (Or.inl (List.mem_of_getElem? (i := 1) rfl)) all0))
    have N_f3 := Fr.app N_d4 Nq'f3
    refine goo (fun _ k => st'f3.trans k) ?_
    refine goo (fun _ k => XS.pop X'f3.here hx rfl (hb hby at_156) rfl rfl k) ?_
    show own_G _ _ _ _ (T'f3.setTop (mkF m 157 #[iv x0, iv x1, iv x2, iv x3, iv x4, iv (own_c x0), iv (own_c x1), iv (own_c x2), iv (own_c x3), iv i_2, iv i_3, iv (own_aft x4), rv b'0, rv b'm, rv b'w, rv b'1r, .unset, .unset, .unset] []))
    refine goo (fun _ k => XS.iload X'f3.here hx rfl (hb hby at_157) rfl <| XS.iconst X'f3.here hx rfl (hb hby at_159) <| XS.icmpNo X'f3.here hx rfl (hb hby at_160) rfl ((flt (by decide : ¬ (i_3 < i_2))).1) <| XS.aload X'f3.here hx rfl (hb hby at_163) rfl rfl k) ?_
    refine goo (fun _ k => XS.iload X'f3.here hx rfl (hb hby at_165) rfl k) ?_
    obtain ⟨cq'fd, kq'fd, q'fda, q'fdb, q'fdc⟩ := isOf hZ rfl G_f4
    obtain ⟨_, _, ⟨T'fd, L'fd, k'fd, n'fd⟩, -, X'fd, ⟨Lc'fd, hQ'fd, l'fd, y'fd, z'fd⟩, st'fd⟩ := X'f3.virtualBack hx (y := Y27) (z := Y27) hown (mvT hZ (qw hw 174 rfl)) (mvT hZ (qw hw 175 rfl)) (notFace_of_selects (args := #[]) (mvT hZ (qw hw 177 rfl))) (mvT hZ (qw hw 177 rfl)) (mvT hZ (qw hw 176 rfl)) (by decide) (backOf (W := 0) (rm_app2 l Z a0 hw [] b'1r (own_c x1) ca'2h ea'2h kc'2h ke'2h (own_c x0) (own_c x2) i_0 i_0 i_0 i_0 i_1 i_1 i_0 i_0 i_2 i_2 T'f3.heap n0 Z_fb G_f4 G_f5 G_f6 G_f7 G_f8 G_f9 G_fa ge_1w ge_2q ge_2w ne_2p ne_2v nab'2h (own_c_ok x1)) hZ (qw hw 178 rfl) (qw hw 46 rfl) (by decide) (by decide)) q'fda q'fdc (g := (mkF m 167 #[iv x0, iv x1, iv x2, iv x3, iv x4, iv (own_c x0), iv (own_c x1), iv (own_c x2), iv (own_c x3), iv i_2, iv i_3, iv (own_aft x4), rv b'0, rv b'm, rv b'w, rv b'1r, .unset, .unset, .unset] [(.int (own_c x1)), .ref b'1r])) rfl (by rw [hml]; rfl) (Steps.refl _) (argsL := [(.int (own_c x1))]) (rest := []) (lenOf own_pd25 rfl) rfl (Nat.le_of_eq rfl) (hb hby at_167) (fun _ _ => ⟨rfl, rfl, (by decide : 9 + 0 ≤ _), (by decide : 563 + 0 ≤ _)⟩)
    dsimp only [Pt.U, Pt.locs, Pt.cells, Pt.slots] at X'fd l'fd y'fd z'fd st'fd hQ'fd
    subst l'fd y'fd z'fd
    obtain ⟨rfl, Nq'fd, K'fd, G_fe, G_ff, G_fg, G_fh, G_fi, G_fj, G_fk⟩ := hQ'fd
    have Z_fl : n0 ≤ T'fd.heap.size := Nat.le_trans Z_fb K'fd.1
    have KP_fm : Keep T'd4.heap T'fd.heap [b'1r, ca'2h, ea'2h] := KP_fc.trans K'fd (allS (Or.inl (List.mem_of_getElem? (i := 0) rfl)) (allS (Or.inl (List.mem_of_getElem? (i := 1) rfl)) all0))
    have N_fd := Fr.app N_f3 Nq'fd
    refine goo (fun _ k => st'fd.trans k) ?_
    show own_G _ _ _ _ (T'fd.setTop (mkF m 170 #[iv x0, iv x1, iv x2, iv x3, iv x4, iv (own_c x0), iv (own_c x1), iv (own_c x2), iv (own_c x3), iv i_2, iv i_3, iv (own_aft x4), rv b'0, rv b'm, rv b'w, rv b'1r, .unset, .unset, .unset] [.ref b'1r]))
    refine goo (fun _ k => XS.pop X'fd.here hx rfl (hb hby at_170) rfl rfl <| XS.iload X'fd.here hx rfl (hb hby at_171) rfl <| XS.iconst X'fd.here hx rfl (hb hby at_173) <| XS.icmpNo X'fd.here hx rfl (hb hby at_174) rfl ((flt (by decide : ¬ (i_3 < i_3))).1) k) ?_
    refine goo (fun _ k => XS.aload X'fd.here hx rfl (hb hby at_177) rfl rfl <| XS.iload X'fd.here hx rfl (hb hby at_179) rfl k) ?_
    show own_G _ _ _ _ (T'fd.setTop (mkF m 181 #[iv x0, iv x1, iv x2, iv x3, iv x4, iv (own_c x0), iv (own_c x1), iv (own_c x2), iv (own_c x3), iv i_2, iv i_3, iv (own_aft x4), rv b'0, rv b'm, rv b'w, rv b'1r, .unset, .unset, .unset] [(.int (own_c x3)), .ref b'1r]))
    obtain ⟨cq'fn, kq'fn, q'fna, q'fnb, q'fnc⟩ := isOf hZ rfl G_fe
    obtain ⟨_, _, ⟨T'fn, L'fn, k'fn, n'fn⟩, -, X'fn, ⟨Lc'fn, hQ'fn, l'fn, y'fn, z'fn⟩, st'fn⟩ := X'fd.virtualBack hx (y := Y27) (z := Y27) hown (mvT hZ (qw hw 174 rfl)) (mvT hZ (qw hw 175 rfl)) (notFace_of_selects (args := #[]) (mvT hZ (qw hw 177 rfl))) (mvT hZ (qw hw 177 rfl)) (mvT hZ (qw hw 176 rfl)) (by decide) (backOf (W := 0) (rm_app3 l Z a0 hw [] b'1r (own_c x3) ca'2h ea'2h kc'2h ke'2h (own_c x0) (own_c x2) (own_c x1) i_0 i_0 i_0 i_1 i_1 i_0 i_0 i_3 i_2 T'fd.heap n0 Z_fl G_fe G_ff G_fg G_fh G_fi G_fj G_fk ge_1w ge_2q ge_2w ne_2p ne_2v nab'2h (own_c_ok x3)) hZ (qw hw 178 rfl) (qw hw 46 rfl) (by decide) (by decide)) q'fna q'fnc (g := (mkF m 181 #[iv x0, iv x1, iv x2, iv x3, iv x4, iv (own_c x0), iv (own_c x1), iv (own_c x2), iv (own_c x3), iv i_2, iv i_3, iv (own_aft x4), rv b'0, rv b'm, rv b'w, rv b'1r, .unset, .unset, .unset] [(.int (own_c x3)), .ref b'1r])) rfl (by rw [hml]; rfl) (Steps.refl _) (argsL := [(.int (own_c x3))]) (rest := []) (lenOf own_pd25 rfl) rfl (Nat.le_of_eq rfl) (hb hby at_181) (fun _ _ => ⟨rfl, rfl, (by decide : 9 + 0 ≤ _), (by decide : 563 + 0 ≤ _)⟩)
    dsimp only [Pt.U, Pt.locs, Pt.cells, Pt.slots] at X'fn l'fn y'fn z'fn st'fn hQ'fn
    subst l'fn y'fn z'fn
    obtain ⟨rfl, Nq'fn, K'fn, G_fo, G_fp, G_fq, G_fr, G_fs, G_ft, G_fu⟩ := hQ'fn
    have Z_fv : n0 ≤ T'fn.heap.size := Nat.le_trans Z_fl K'fn.1
    have KP_fw : Keep T'd4.heap T'fn.heap [b'1r, ca'2h, ea'2h] := KP_fm.trans K'fn (allS (Or.inl (List.mem_of_getElem? (i := 0) rfl)) (allS (Or.inl (List.mem_of_getElem? (i := 1) rfl)) all0))
    have N_fn := Fr.app N_fd Nq'fn
    refine goo (fun _ k => st'fn.trans k) ?_
    refine goo (fun _ k => XS.pop X'fn.here hx rfl (hb hby at_184) rfl rfl <| XS.aload X'fn.here hx rfl (hb hby at_185) rfl rfl k) ?_
    obtain ⟨cq'fx, kq'fx, q'fxa, q'fxb, q'fxc⟩ := isOf hZ rfl G_fo
    obtain ⟨_, _, ⟨T'fx, L'fx, k'fx, n'fx⟩, -, X'fx, ⟨Lc'fx, hQ'fx, l'fx, y'fx, z'fx⟩, st'fx⟩ := X'fn.virtualBack hx (y := Y31) (z := Y31) hown (mvT hZ (qw hw 66 rfl)) (mvT hZ (qw hw 67 rfl)) (notFace_of_selects (args := #[]) (mvT hZ (qw hw 69 rfl))) (mvT hZ (qw hw 69 rfl)) (mvT hZ (qw hw 68 rfl)) (by decide) (backOf (W := 0) (rm_dis2 l Z a0 hw [] b'1r ca'2h ea'2h kc'2h ke'2h (own_c x0) (own_c x2) (own_c x1) (own_c x3) i_0 i_0 i_1 i_1 i_0 i_0 i_4 T'fn.heap n0 Z_fv G_fo G_fp G_fq G_fr G_fs G_ft G_fu ge_1w ge_2q ge_2w ne_2p ne_2v nab'2h) hZ (qw hw 70 rfl) (qw hw 46 rfl) (by decide) (by decide)) q'fxa q'fxc (g := (mkF m 187 #[iv x0, iv x1, iv x2, iv x3, iv x4, iv (own_c x0), iv (own_c x1), iv (own_c x2), iv (own_c x3), iv i_2, iv i_3, iv (own_aft x4), rv b'0, rv b'm, rv b'w, rv b'1r, .unset, .unset, .unset] [.ref b'1r])) rfl (by rw [hml]; rfl) (Steps.refl _) (argsL := []) (rest := []) (lenOf own_pd20 rfl) rfl (Nat.le_of_eq rfl) (hb hby at_187) (fun _ _ => ⟨rfl, rfl, (by decide : 9 + 0 ≤ _), (by decide : 563 + 0 ≤ _)⟩)
    dsimp only [Pt.U, Pt.locs, Pt.cells, Pt.slots] at X'fx l'fx y'fx z'fx st'fx hQ'fx
    subst l'fx y'fx z'fx
    obtain ⟨rfl, Nq'fx, K'fx, G_fy, G_fz, G_g0, G_g1, G_g2, G_g3, G_g4⟩ := hQ'fx
    have KP_g5 : Keep T'd4.heap T'fx.heap [b'1r, ca'2h, ea'2h] := KP_fw.trans K'fx (allS (Or.inl (List.mem_of_getElem? (i := 0) rfl)) all0)
    have N_fx := Fr.app N_fn Nq'fx
    refine goo (fun _ k => st'fx.trans k) ?_
    exact hj _ _ X'fx (by exact ⟨N_fx, KP_g5, G_fy, G_fz, G_g0, G_g1, G_g2, G_g4, _, _, _, G_g3⟩)
  obtain ⟨Nq'dh, K'dh, Xr'dh, Fa'dh, Fe'dh, Fl'dh, Fs'dh, Ve'dh, g0, g1, g2, Va'dh⟩ := hJ'dh
  have S_g6 := own_staKeep S_dc K'dh (allS (own_nsX G_d5) (allS (own_nsV G_da) (allS (own_nsV G_db) all0)))
  have S_g7 := own_staKeep S_dd K'dh (allS (own_nsX G_d5) (allS (own_nsV G_da) (allS (own_nsV G_db) all0)))
  have Old_g8 := Old_de.keep K'dh (allS ge_1w (allS ge_2q (allS ge_2w all0)))
  have Z_g9 : n0 ≤ T'dh.heap.size := Nat.le_trans Z_df K'dh.1
  have hk_ga := Nat.le_trans hk_dg K'dh.1
  refine goo (fun _ k => XS.iload X'dh.here hx rfl (hb hby at_190) rfl k) ?_
  show own_G _ _ _ _ (T'dh.setTop (mkF m 192 #[iv x0, iv x1, iv x2, iv x3, iv x4, iv (own_c x0), iv (own_c x1), iv (own_c x2), iv (own_c x3), iv i_2, iv (own_pend x4), iv (own_aft x4), rv b'0, rv b'm, rv b'w, rv b'1r, .unset, .unset, .unset] [(.int (own_aft x4))]))
  by_cases hc192_2894 : (own_aft x4) = i_0
  ·refine goo (fun _ k => XS.ifYes X'dh.here hx rfl (pc0 := 192) (pc' := 203) rfl (hb hby at_192) rfl (((if0 _ _).trans (teq hc192_2894).1)) (by decide) (by decide) k) ?_
   refine goo (fun _ k => XS.aload X'dh.here hx rfl (hb hby at_203) rfl rfl k) ?_
   obtain ⟨cq'gb, kq'gb, q'gba, q'gbb, q'gbc⟩ := isOf hZ rfl Xr'dh
   obtain ⟨_, _, ⟨T'gb, L'gb, k'gb, n'gb⟩, -, X'gb, ⟨Lc'gb, hQ'gb, l'gb, y'gb, z'gb⟩, st'gb⟩ := X'dh.virtualBack hx (y := Y26) (z := Y26) hown (mvT hZ (qw hw 75 rfl)) (mvT hZ (qw hw 76 rfl)) (notFace_of_selects (args := #[]) (mvT hZ (qw hw 78 rfl))) (mvT hZ (qw hw 78 rfl)) (mvT hZ (qw hw 77 rfl)) (by decide) (backOf (W := 0) (rm_end2 l Z a0 hw [] b'1r ca'2h ea'2h kc'2h ke'2h (own_c x0) g0 g1 g2 i_0 i_0 i_1 i_1 i_0 i_0 i_1 T'dh.heap n0 Z_g9 Xr'dh Fa'dh Fe'dh Fl'dh Fs'dh Va'dh Ve'dh ge_1w ge_2q ge_2w ne_2p ne_2v nab'2h) hZ (qw hw 79 rfl) (qw hw 46 rfl) (by decide) (by decide)) q'gba q'gbc (g := (mkF m 205 #[iv x0, iv x1, iv x2, iv x3, iv x4, iv (own_c x0), iv (own_c x1), iv (own_c x2), iv (own_c x3), iv i_2, iv (own_pend x4), iv (own_aft x4), rv b'0, rv b'm, rv b'w, rv b'1r, .unset, .unset, .unset] [.ref b'1r])) rfl (by rw [hml]; rfl) (Steps.refl _) (argsL := []) (rest := []) (lenOf own_pd20 rfl) rfl (Nat.le_of_eq rfl) (hb hby at_205) (fun _ _ => ⟨rfl, rfl, (by decide : 9 + 0 ≤ _), (by decide : 563 + 0 ≤ _)⟩)
   dsimp only [Pt.U, Pt.locs, Pt.cells, Pt.slots] at X'gb l'gb y'gb z'gb st'gb hQ'gb
   subst l'gb y'gb z'gb
   obtain ⟨rfl, Nq'gb, K'gb, G_gc, G_gd, G_ge, G_gf, G_gg, G_gh, G_gi⟩ := hQ'gb
   have S_gj := own_staKeep S_g6 K'gb (allS (own_nsX Xr'dh) (allS (own_nsV Ve'dh) all0))
   have S_gk := own_staKeep S_g7 K'gb (allS (own_nsX Xr'dh) (allS (own_nsV Ve'dh) all0))
   have Old_gl := Old_g8.keep K'gb (allS ge_1w (allS ge_2w all0))
   have Z_gm : n0 ≤ T'gb.heap.size := Nat.le_trans Z_g9 K'gb.1
   have hk_gn := Nat.le_trans hk_ga K'gb.1
   have N_gb := Fr.app Nq'dh Nq'gb
   refine goo (fun _ k => st'gb.trans k) ?_
   refine goo (fun _ k => XS.iload X'gb.here hx rfl (hb hby at_208) rfl <| XS.ifYes X'gb.here hx rfl (pc0 := 210) (pc' := 217) rfl (hb hby at_210) rfl (((if0 _ _).trans (teq hc192_2894).1)) (by decide) (by decide) <| XS.iconst X'gb.here hx rfl (hb hby at_217) k) ?_
   show own_G _ _ _ _ (T'gb.setTop (mkF m 218 #[iv x0, iv x1, iv x2, iv x3, iv x4, iv (own_c x0), iv (own_c x1), iv (own_c x2), iv (own_c x3), iv i_2, iv (own_pend x4), iv (own_aft x4), rv b'0, rv b'm, rv b'w, rv b'1r, .unset, .unset, .unset] [.int i_0]))
   refine goo (fun _ k => XS.istore X'gb.here hx rfl (hb hby at_218) rfl (l' := #[iv x0, iv x1, iv x2, iv x3, iv x4, iv (own_c x0), iv (own_c x1), iv (own_c x2), iv (own_c x3), iv i_2, iv (own_pend x4), iv (own_aft x4), rv b'0, rv b'm, rv b'w, rv b'1r, iv i_0, .unset, .unset]) rfl <| XS.aload X'gb.here hx rfl (hb hby at_220) rfl rfl k) ?_
   obtain ⟨T'go, X'go, e'go, st'go⟩ := own_callV X'gb hx hZ (y := Y32) hown (qw hw 80 rfl) (qw hw 81 rfl) (qw hw 83 rfl) (qw hw 82 rfl) (qw hw 46 rfl) (qw hw 84 rfl) (by decide) (W := 0) (rm15 l Z a0 hw [] b'1r i_3 T'gb.heap G_gg) (by decide) (by decide) rfl rfl rfl G_gc (g := (mkF m 222 #[iv x0, iv x1, iv x2, iv x3, iv x4, iv (own_c x0), iv (own_c x1), iv (own_c x2), iv (own_c x3), iv i_2, iv (own_pend x4), iv (own_aft x4), rv b'0, rv b'm, rv b'w, rv b'1r, iv i_0, .unset, .unset] [.ref b'1r])) rfl (by rw [hml]; rfl) (argsL := []) (rest := []) (lenOf own_pd18 rfl) rfl rfl (Nat.le_of_eq rfl) (hb hby at_222) (by decide) (by decide)
   refine goo st'go ?_
   refine goo (fun _ k => XS.iload X'go.here hx rfl (hb hby at_225) rfl <| XS.iconst X'go.here hx rfl (hb hby at_227) <| XS.iadd X'go.here hx rfl (hb hby at_228) rfl k) ?_
   show own_G _ _ _ _ (T'go.setTop (mkF m 229 #[iv x0, iv x1, iv x2, iv x3, iv x4, iv (own_c x0), iv (own_c x1), iv (own_c x2), iv (own_c x3), iv i_2, iv (own_pend x4), iv (own_aft x4), rv b'0, rv b'm, rv b'w, rv b'1r, iv i_0, .unset, .unset] [.int i_3, .int i_3]))
   refine goo (fun _ k => XS.icmpYes X'go.here hx rfl (pc0 := 229) (pc' := 234) rfl (hb hby at_229) rfl ((teq (by decide : i_3 = i_3)).1) (by decide) (by decide) <| XS.aload X'go.here hx rfl (hb hby at_234) rfl rfl <| XS.iload X'go.here hx rfl (hb hby at_236) rfl k) ?_
   obtain ⟨T'gp, X'gp, e'gp, st'gp⟩ := own_callV X'go hx hZ (y := Y35) hown (qw hw 85 rfl) (qw hw 86 rfl) (qw hw 88 rfl) (qw hw 87 rfl) (qw hw 46 rfl) (qw hw 89 rfl) (by decide) (W := 0) (rm_ln20 l Z a0 hw [] b'1r ea'2h ke'2h i_0 T'gb.heap G_gc G_gg G_ge G_gi) (by decide) (by decide) rfl rfl e'go G_gc (g := (mkF m 238 #[iv x0, iv x1, iv x2, iv x3, iv x4, iv (own_c x0), iv (own_c x1), iv (own_c x2), iv (own_c x3), iv i_2, iv (own_pend x4), iv (own_aft x4), rv b'0, rv b'm, rv b'w, rv b'1r, iv i_0, .unset, .unset] [.int i_2, .ref b'1r])) rfl (by rw [hml]; rfl) (argsL := [.int i_2]) (rest := []) (lenOf own_pd21 rfl) rfl rfl (Nat.le_of_eq rfl) (hb hby at_238) (by decide) (by decide)
   refine goo st'gp ?_
   refine goo (fun _ k => XS.iload X'gp.here hx rfl (hb hby at_241) rfl <| XS.icmpYes X'gp.here hx rfl (pc0 := 243) (pc' := 248) rfl (hb hby at_243) rfl ((teq (by decide : i_0 = i_0)).1) (by decide) (by decide) k) ?_
   show own_G _ _ _ _ (T'gp.setTop (mkF m 248 #[iv x0, iv x1, iv x2, iv x3, iv x4, iv (own_c x0), iv (own_c x1), iv (own_c x2), iv (own_c x3), iv i_2, iv (own_pend x4), iv (own_aft x4), rv b'0, rv b'm, rv b'w, rv b'1r, iv i_0, .unset, .unset] []))
   refine goo (fun _ k => XS.aload X'gp.here hx rfl (hb hby at_248) rfl rfl <| XS.iload X'gp.here hx rfl (hb hby at_250) rfl k) ?_
   obtain ⟨cq'gq, kq'gq, q'gqa, q'gqb, q'gqc⟩ := isOf hZ e'gp G_gc
   obtain ⟨_, _, ⟨T'gq, L'gq, k'gq, n'gq⟩, -, X'gq, hSn, hgr, ⟨Lc'gq, hQ'gq, l'gq, y'gq, z'gq⟩, st'gq⟩ := X'gp.virtualBackS hx (y := Y36) (z := Y36) hown (mvT hZ (qw hw 100 rfl)) (mvT hZ (qw hw 101 rfl)) (notFace_of_selects (args := #[]) (mvT hZ (qw hw 103 rfl))) (mvT hZ (qw hw 103 rfl)) (mvT hZ (qw hw 102 rfl)) (by decide) (own_backI (W := 0) (rm_va20_2 l Z a0 hw [] b'1r ca'2h ea'2h kc'2h ke'2h (own_c x0) g0 g1 g2 i_0 i_0 i_0 cz fz T'gb.heap n0 Z_gm G_gc G_gd G_ge G_gg G_gh G_gi S_gj hcz S_gk Old_gl held hcw hfz) hZ hI (qw hw 104 rfl) (qw hw 46 rfl) (by decide) (by decide)) q'gqa q'gqc (g := (mkF m 252 #[iv x0, iv x1, iv x2, iv x3, iv x4, iv (own_c x0), iv (own_c x1), iv (own_c x2), iv (own_c x3), iv i_2, iv (own_pend x4), iv (own_aft x4), rv b'0, rv b'm, rv b'w, rv b'1r, iv i_0, .unset, .unset] [.int i_2, .ref b'1r])) rfl (by rw [hml]; rfl) (Steps.refl _) (argsL := [.int i_2]) (rest := []) (lenOf own_pd26 rfl) rfl (Nat.le_of_eq rfl) (hb hby at_252) (fun _ _ => ⟨rfl, e'gp, (by decide : 9 + 3 ≤ _), (by decide : 563 + 8 ≤ _)⟩)
   dsimp only [Pt.U, Pt.locs, Pt.cells, Pt.slots] at X'gq l'gq y'gq z'gq st'gq hQ'gq hSn hgr
   subst l'gq y'gq z'gq
   obtain ⟨b'gq, rfl, Nq'gq, K'gq, gz'gq, G_gr, G_gs, qx'gq⟩ := hQ'gq
   obtain ⟨vb'gq, kv'gq, Fv'gq, Vv'gq⟩ := qx'gq
   have hS := foldS (s := s) hS (by rw [e'gp]; exact hk_gn) hSn hgr
   have hZ := State.Warmed39.trans (t := s) hZ hSn.1
   have hown : (s.setVm T'gq.vm).vm.findClass s_4 = some m.cls := by rw [show (s.setVm T'gq.vm).vm = T'gq.vm from rfl, hSn.1.alike.findClass]; exact hown
   have hk'gq : T'gq.heap.size ≤ T'gq.heap.size := Nat.le_refl _
   have N_gq := Fr.app N_gb Nq'gq
   have X'gq : Stand p l e _ (s.setVm T'gq.vm) m _ below meth c T'gq _ _ _ := X'gq
   refine goo (fun _ k => st'gq.trans k) ?_
   refine goo (fun _ k => XS.astore X'gq.here hx rfl (hb hby at_255) rfl rfl (l' := #[iv x0, iv x1, iv x2, iv x3, iv x4, iv (own_c x0), iv (own_c x1), iv (own_c x2), iv (own_c x3), iv i_2, iv (own_pend x4), iv (own_aft x4), rv b'0, rv b'm, rv b'w, rv b'1r, iv i_0, rv b'gq, .unset]) rfl <| XS.iload X'gq.here hx rfl (hb hby at_257) rfl <| XS.ifYes X'gq.here hx rfl (pc0 := 259) (pc' := 275) rfl (hb hby at_259) rfl (((if0 _ _).trans (teq hc192_2894).1)) (by decide) (by decide) k) ?_
   show own_G _ _ _ _ (T'gq.setTop (mkF m 275 #[iv x0, iv x1, iv x2, iv x3, iv x4, iv (own_c x0), iv (own_c x1), iv (own_c x2), iv (own_c x3), iv i_2, iv (own_pend x4), iv (own_aft x4), rv b'0, rv b'm, rv b'w, rv b'1r, iv i_0, rv b'gq, .unset] []))
   refine goo (fun _ k => XS.aload X'gq.here hx rfl (hb hby at_275) rfl rfl k) ?_
   obtain ⟨T'gt, X'gt, e'gt, st'gt⟩ := own_callV X'gq hx hZ (y := Y13) hown (qw hw 123 rfl) (qw hw 124 rfl) (qw hw 126 rfl) (qw hw 125 rfl) (qw hw 3 rfl) (qw hw 127 rfl) (by decide) (W := 0) (rm24 l Z a0 hw [] b'gq vb'gq kv'gq T'gq.heap Fv'gq Vv'gq) (by decide) (by decide) rfl rfl rfl G_gr (g := (mkF m 277 #[iv x0, iv x1, iv x2, iv x3, iv x4, iv (own_c x0), iv (own_c x1), iv (own_c x2), iv (own_c x3), iv i_2, iv (own_pend x4), iv (own_aft x4), rv b'0, rv b'm, rv b'w, rv b'1r, iv i_0, rv b'gq, .unset] [.ref b'gq])) rfl (by rw [hml]; rfl) (argsL := []) (rest := []) (lenOf own_pd5 rfl) rfl rfl (Nat.le_of_eq rfl) (hb hby at_277) (by decide) (by decide)
   refine goo st'gt ?_
   refine goo (fun _ k => XS.istore X'gt.here hx rfl (hb hby at_280) rfl (l' := #[iv x0, iv x1, iv x2, iv x3, iv x4, iv (own_c x0), iv (own_c x1), iv (own_c x2), iv (own_c x3), iv i_2, iv (own_pend x4), iv (own_aft x4), rv b'0, rv b'm, rv b'w, rv b'1r, iv i_0, rv b'gq, iv i_1]) rfl <| XS.iload X'gt.here hx rfl (hb hby at_282) rfl <| XS.ifYes X'gt.here hx rfl (pc0 := 284) (pc' := 289) rfl (hb hby at_284) rfl (((if0 _ _).trans (feq (by decide : ¬ (i_1 = i_0))).2)) (by decide) (by decide) <| XS.iload X'gt.here hx rfl (hb hby at_289) rfl k) ?_
   show own_G _ _ _ _ (T'gt.setTop (mkF m 291 #[iv x0, iv x1, iv x2, iv x3, iv x4, iv (own_c x0), iv (own_c x1), iv (own_c x2), iv (own_c x3), iv i_2, iv (own_pend x4), iv (own_aft x4), rv b'0, rv b'm, rv b'w, rv b'1r, iv i_0, rv b'gq, iv i_1] [.int i_2]))
   refine goo (fun _ k => XS.iconst X'gt.here hx rfl (hb hby at_291) <| XS.icmpYes X'gt.here hx rfl (pc0 := 292) (pc' := 311) rfl (hb hby at_292) rfl ((feq (by decide : ¬ (i_2 = i_3))).2) (by decide) (by decide) <| XS.iconst X'gt.here hx rfl (hb hby at_311) k) ?_
   show own_G _ _ _ _ (T'gt.setTop (mkF m 312 #[iv x0, iv x1, iv x2, iv x3, iv x4, iv (own_c x0), iv (own_c x1), iv (own_c x2), iv (own_c x3), iv i_2, iv (own_pend x4), iv (own_aft x4), rv b'0, rv b'm, rv b'w, rv b'1r, iv i_0, rv b'gq, iv i_1] [.int i_1]))
   exact own_endW X'gt Bd.notSynchronized hS (by rw [e'gt]; exact hk'gq) (v := some (.int (nar .boolean i_1))) (fun h => by rw [Bd.returns] at h; cases h) (Q := QL (some (.int i_1)) n0) ⟨rfl, N_gq⟩ (fun fs hr => retN X'gt hx (t := .boolean) Bd.returns (by simp) (hb hby at_312) hr) (by decide) (by decide)
  ·refine goo (fun _ k => XS.ifNo X'dh.here hx rfl (hb hby at_192) rfl (((if0 _ _).trans (feq hc192_2894).1)) k) ?_
   refine goo (fun _ k => XS.aload X'dh.here hx rfl (hb hby at_195) rfl rfl <| XS.iload X'dh.here hx rfl (hb hby at_197) rfl k) ?_
   obtain ⟨cq'gu, kq'gu, q'gua, q'gub, q'guc⟩ := isOf hZ rfl Xr'dh
   obtain ⟨_, _, ⟨T'gu, L'gu, k'gu, n'gu⟩, -, X'gu, ⟨Lc'gu, hQ'gu, l'gu, y'gu, z'gu⟩, st'gu⟩ := X'dh.virtualBack hx (y := Y27) (z := Y27) hown (mvT hZ (qw hw 174 rfl)) (mvT hZ (qw hw 175 rfl)) (notFace_of_selects (args := #[]) (mvT hZ (qw hw 177 rfl))) (mvT hZ (qw hw 177 rfl)) (mvT hZ (qw hw 176 rfl)) (by decide) (backOf (W := 0) (rm_app1 l Z a0 hw [] b'1r (own_c x3) ca'2h ea'2h kc'2h ke'2h (own_c x0) g0 g1 g2 i_0 i_0 i_1 i_1 i_0 i_0 i_1 i_2 T'dh.heap n0 Z_g9 Xr'dh Fa'dh Fe'dh Fl'dh Fs'dh Va'dh Ve'dh ge_1w ge_2q ge_2w ne_2p ne_2v nab'2h (own_c_ok x3)) hZ (qw hw 178 rfl) (qw hw 46 rfl) (by decide) (by decide)) q'gua q'guc (g := (mkF m 199 #[iv x0, iv x1, iv x2, iv x3, iv x4, iv (own_c x0), iv (own_c x1), iv (own_c x2), iv (own_c x3), iv i_2, iv (own_pend x4), iv (own_aft x4), rv b'0, rv b'm, rv b'w, rv b'1r, .unset, .unset, .unset] [(.int (own_c x3)), .ref b'1r])) rfl (by rw [hml]; rfl) (Steps.refl _) (argsL := [(.int (own_c x3))]) (rest := []) (lenOf own_pd25 rfl) rfl (Nat.le_of_eq rfl) (hb hby at_199) (fun _ _ => ⟨rfl, rfl, (by decide : 9 + 0 ≤ _), (by decide : 563 + 0 ≤ _)⟩)
   dsimp only [Pt.U, Pt.locs, Pt.cells, Pt.slots] at X'gu l'gu y'gu z'gu st'gu hQ'gu
   subst l'gu y'gu z'gu
   obtain ⟨rfl, Nq'gu, K'gu, G_gv, G_gw, G_gx, G_gy, G_gz, G_h0, G_h1⟩ := hQ'gu
   have S_h2 := own_staKeep S_g6 K'gu (allS (own_nsX Xr'dh) (allS (own_nsV Va'dh) all0))
   have S_h3 := own_staKeep S_g7 K'gu (allS (own_nsX Xr'dh) (allS (own_nsV Va'dh) all0))
   have Z_h4 : n0 ≤ T'gu.heap.size := Nat.le_trans Z_g9 K'gu.1
   have hk_h5 := Nat.le_trans hk_ga K'gu.1
   have N_gu := Fr.app Nq'dh Nq'gu
   refine goo (fun _ k => st'gu.trans k) ?_
   refine goo (fun _ k => XS.pop X'gu.here hx rfl (hb hby at_202) rfl rfl <| XS.aload X'gu.here hx rfl (hb hby at_203) rfl rfl k) ?_
   show own_G _ _ _ _ (T'gu.setTop (mkF m 205 #[iv x0, iv x1, iv x2, iv x3, iv x4, iv (own_c x0), iv (own_c x1), iv (own_c x2), iv (own_c x3), iv i_2, iv (own_pend x4), iv (own_aft x4), rv b'0, rv b'm, rv b'w, rv b'1r, .unset, .unset, .unset] [.ref b'1r]))
   obtain ⟨cq'h6, kq'h6, q'h6a, q'h6b, q'h6c⟩ := isOf hZ rfl G_gv
   obtain ⟨_, _, ⟨T'h6, L'h6, k'h6, n'h6⟩, -, X'h6, ⟨Lc'h6, hQ'h6, l'h6, y'h6, z'h6⟩, st'h6⟩ := X'gu.virtualBack hx (y := Y26) (z := Y26) hown (mvT hZ (qw hw 75 rfl)) (mvT hZ (qw hw 76 rfl)) (notFace_of_selects (args := #[]) (mvT hZ (qw hw 78 rfl))) (mvT hZ (qw hw 78 rfl)) (mvT hZ (qw hw 77 rfl)) (by decide) (backOf (W := 0) (rm_end2 l Z a0 hw [] b'1r ca'2h ea'2h kc'2h ke'2h (own_c x0) (own_c x3) g1 g2 i_0 i_0 i_1 i_1 i_0 i_0 i_2 T'gu.heap n0 Z_h4 G_gv G_gw G_gx G_gy G_gz G_h0 G_h1 ge_1w ge_2q ge_2w ne_2p ne_2v nab'2h) hZ (qw hw 79 rfl) (qw hw 46 rfl) (by decide) (by decide)) q'h6a q'h6c (g := (mkF m 205 #[iv x0, iv x1, iv x2, iv x3, iv x4, iv (own_c x0), iv (own_c x1), iv (own_c x2), iv (own_c x3), iv i_2, iv (own_pend x4), iv (own_aft x4), rv b'0, rv b'm, rv b'w, rv b'1r, .unset, .unset, .unset] [.ref b'1r])) rfl (by rw [hml]; rfl) (Steps.refl _) (argsL := []) (rest := []) (lenOf own_pd20 rfl) rfl (Nat.le_of_eq rfl) (hb hby at_205) (fun _ _ => ⟨rfl, rfl, (by decide : 9 + 0 ≤ _), (by decide : 563 + 0 ≤ _)⟩)
   dsimp only [Pt.U, Pt.locs, Pt.cells, Pt.slots] at X'h6 l'h6 y'h6 z'h6 st'h6 hQ'h6
   subst l'h6 y'h6 z'h6
   obtain ⟨rfl, Nq'h6, K'h6, G_h7, G_h8, G_h9, G_ha, G_hb, G_hc, G_hd⟩ := hQ'h6
   have S_he := own_staKeep S_h2 K'h6 (allS (own_nsX G_gv) (allS (own_nsV G_h1) all0))
   have S_hf := own_staKeep S_h3 K'h6 (allS (own_nsX G_gv) (allS (own_nsV G_h1) all0))
   have Z_hg : n0 ≤ T'h6.heap.size := Nat.le_trans Z_h4 K'h6.1
   have hk_hh := Nat.le_trans hk_h5 K'h6.1
   have N_h6 := Fr.app N_gu Nq'h6
   refine goo (fun _ k => st'h6.trans k) ?_
   refine goo (fun _ k => XS.iload X'h6.here hx rfl (hb hby at_208) rfl <| XS.ifNo X'h6.here hx rfl (hb hby at_210) rfl (((if0 _ _).trans (feq hc192_2894).1)) <| XS.iconst X'h6.here hx rfl (hb hby at_213) <| XS.goto X'h6.here hx rfl (pc0 := 214) (pc' := 218) rfl (hb hby at_214) (by decide) (by decide) k) ?_
   refine goo (fun _ k => XS.istore X'h6.here hx rfl (hb hby at_218) rfl (l' := #[iv x0, iv x1, iv x2, iv x3, iv x4, iv (own_c x0), iv (own_c x1), iv (own_c x2), iv (own_c x3), iv i_2, iv (own_pend x4), iv (own_aft x4), rv b'0, rv b'm, rv b'w, rv b'1r, iv i_1, .unset, .unset]) rfl k) ?_
   show own_G _ _ _ _ (T'h6.setTop (mkF m 220 #[iv x0, iv x1, iv x2, iv x3, iv x4, iv (own_c x0), iv (own_c x1), iv (own_c x2), iv (own_c x3), iv i_2, iv (own_pend x4), iv (own_aft x4), rv b'0, rv b'm, rv b'w, rv b'1r, iv i_1, .unset, .unset] []))
   refine goo (fun _ k => XS.aload X'h6.here hx rfl (hb hby at_220) rfl rfl k) ?_
   obtain ⟨T'hi, X'hi, e'hi, st'hi⟩ := own_callV X'h6 hx hZ (y := Y32) hown (qw hw 80 rfl) (qw hw 81 rfl) (qw hw 83 rfl) (qw hw 82 rfl) (qw hw 46 rfl) (qw hw 84 rfl) (by decide) (W := 0) (rm15 l Z a0 hw [] b'1r i_3 T'h6.heap G_hb) (by decide) (by decide) rfl rfl rfl G_h7 (g := (mkF m 222 #[iv x0, iv x1, iv x2, iv x3, iv x4, iv (own_c x0), iv (own_c x1), iv (own_c x2), iv (own_c x3), iv i_2, iv (own_pend x4), iv (own_aft x4), rv b'0, rv b'm, rv b'w, rv b'1r, iv i_1, .unset, .unset] [.ref b'1r])) rfl (by rw [hml]; rfl) (argsL := []) (rest := []) (lenOf own_pd18 rfl) rfl rfl (Nat.le_of_eq rfl) (hb hby at_222) (by decide) (by decide)
   refine goo st'hi ?_
   refine goo (fun _ k => XS.iload X'hi.here hx rfl (hb hby at_225) rfl <| XS.iconst X'hi.here hx rfl (hb hby at_227) <| XS.iadd X'hi.here hx rfl (hb hby at_228) rfl <| XS.icmpYes X'hi.here hx rfl (pc0 := 229) (pc' := 234) rfl (hb hby at_229) rfl ((teq (by decide : i_3 = i_3)).1) (by decide) (by decide) k) ?_
   show own_G _ _ _ _ (T'hi.setTop (mkF m 234 #[iv x0, iv x1, iv x2, iv x3, iv x4, iv (own_c x0), iv (own_c x1), iv (own_c x2), iv (own_c x3), iv i_2, iv (own_pend x4), iv (own_aft x4), rv b'0, rv b'm, rv b'w, rv b'1r, iv i_1, .unset, .unset] []))
   refine goo (fun _ k => XS.aload X'hi.here hx rfl (hb hby at_234) rfl rfl <| XS.iload X'hi.here hx rfl (hb hby at_236) rfl k) ?_
   obtain ⟨T'hj, X'hj, e'hj, st'hj⟩ := own_callV X'hi hx hZ (y := Y35) hown (qw hw 85 rfl) (qw hw 86 rfl) (qw hw 88 rfl) (qw hw 87 rfl) (qw hw 46 rfl) (qw hw 89 rfl) (by decide) (W := 0) (rm_ln21 l Z a0 hw [] b'1r ea'2h ke'2h i_0 T'h6.heap G_h7 G_hb G_h9 G_hd) (by decide) (by decide) rfl rfl e'hi G_h7 (g := (mkF m 238 #[iv x0, iv x1, iv x2, iv x3, iv x4, iv (own_c x0), iv (own_c x1), iv (own_c x2), iv (own_c x3), iv i_2, iv (own_pend x4), iv (own_aft x4), rv b'0, rv b'm, rv b'w, rv b'1r, iv i_1, .unset, .unset] [.int i_2, .ref b'1r])) rfl (by rw [hml]; rfl) (argsL := [.int i_2]) (rest := []) (lenOf own_pd21 rfl) rfl rfl (Nat.le_of_eq rfl) (hb hby at_238) (by decide) (by decide)
   refine goo st'hj ?_
   refine goo (fun _ k => XS.iload X'hj.here hx rfl (hb hby at_241) rfl <| XS.icmpYes X'hj.here hx rfl (pc0 := 243) (pc' := 248) rfl (hb hby at_243) rfl ((teq (by decide : i_1 = i_1)).1) (by decide) (by decide) <| XS.aload X'hj.here hx rfl (hb hby at_248) rfl rfl k) ?_
   show own_G _ _ _ _ (T'hj.setTop (mkF m 250 #[iv x0, iv x1, iv x2, iv x3, iv x4, iv (own_c x0), iv (own_c x1), iv (own_c x2), iv (own_c x3), iv i_2, iv (own_pend x4), iv (own_aft x4), rv b'0, rv b'm, rv b'w, rv b'1r, iv i_1, .unset, .unset] [.ref b'1r]))
   refine goo (fun _ k => XS.iload X'hj.here hx rfl (hb hby at_250) rfl k) ?_
   obtain ⟨cq'hk, kq'hk, q'hka, q'hkb, q'hkc⟩ := isOf hZ e'hj G_h7
   obtain ⟨_, _, ⟨T'hk, L'hk, k'hk, n'hk⟩, -, X'hk, ⟨Lc'hk, hQ'hk, l'hk, y'hk, z'hk⟩, st'hk⟩ := X'hj.virtualBack hx (y := Y36) (z := Y36) hown (mvT hZ (qw hw 100 rfl)) (mvT hZ (qw hw 101 rfl)) (notFace_of_selects (args := #[]) (mvT hZ (qw hw 103 rfl))) (mvT hZ (qw hw 103 rfl)) (mvT hZ (qw hw 102 rfl)) (by decide) (backOf (W := 0) (rm_va21_2 l Z a0 hw [] b'1r ca'2h ea'2h kc'2h ke'2h (own_c x0) (own_c x3) g1 g2 i_0 i_0 i_0 cz fz T'h6.heap n0 Z_hg G_h7 G_h8 G_h9 G_hb G_hc G_hd S_he hcz S_hf (own_c_ok x3) hfz) hZ (qw hw 104 rfl) (qw hw 46 rfl) (by decide) (by decide)) q'hka q'hkc (g := (mkF m 252 #[iv x0, iv x1, iv x2, iv x3, iv x4, iv (own_c x0), iv (own_c x1), iv (own_c x2), iv (own_c x3), iv i_2, iv (own_pend x4), iv (own_aft x4), rv b'0, rv b'm, rv b'w, rv b'1r, iv i_1, .unset, .unset] [.int i_2, .ref b'1r])) rfl (by rw [hml]; rfl) (Steps.refl _) (argsL := [.int i_2]) (rest := []) (lenOf own_pd26 rfl) rfl (Nat.le_of_eq rfl) (hb hby at_252) (fun _ _ => ⟨rfl, e'hj, (by decide : 9 + 2 ≤ _), (by decide : 563 + 5 ≤ _)⟩)
   dsimp only [Pt.U, Pt.locs, Pt.cells, Pt.slots] at X'hk l'hk y'hk z'hk st'hk hQ'hk
   subst l'hk y'hk z'hk
   obtain ⟨b'hk, rfl, Nq'hk, K'hk, gz'hk, G_hl, G_hm, qx'hk⟩ := hQ'hk
   obtain ⟨vb'hk, kv'hk, gv'hk, Fv'hk, Vv'hk⟩ := qx'hk
   have S_hn := own_staKeep S_he K'hk all0
   have Z_ho : n0 ≤ T'hk.heap.size := Nat.le_trans Z_hg K'hk.1
   have hk_hp := Nat.le_trans hk_hh K'hk.1
   have N_hk := Fr.app N_h6 Nq'hk
   refine goo (fun _ k => st'hk.trans k) ?_
   refine goo (fun _ k => XS.astore X'hk.here hx rfl (hb hby at_255) rfl rfl (l' := #[iv x0, iv x1, iv x2, iv x3, iv x4, iv (own_c x0), iv (own_c x1), iv (own_c x2), iv (own_c x3), iv i_2, iv (own_pend x4), iv (own_aft x4), rv b'0, rv b'm, rv b'w, rv b'1r, iv i_1, rv b'hk, .unset]) rfl <| XS.iload X'hk.here hx rfl (hb hby at_257) rfl <| XS.ifNo X'hk.here hx rfl (hb hby at_259) rfl (((if0 _ _).trans (feq hc192_2894).1)) <| XS.aload X'hk.here hx rfl (hb hby at_262) rfl rfl k) ?_
   show own_G _ _ _ _ (T'hk.setTop (mkF m 264 #[iv x0, iv x1, iv x2, iv x3, iv x4, iv (own_c x0), iv (own_c x1), iv (own_c x2), iv (own_c x3), iv i_2, iv (own_pend x4), iv (own_aft x4), rv b'0, rv b'm, rv b'w, rv b'1r, iv i_1, rv b'hk, .unset] [.ref b'hk]))
   refine goo (fun _ k => XS.iload X'hk.here hx rfl (hb hby at_264) rfl k) ?_
   obtain ⟨_, _, ⟨T'hq, L'hq, k'hq, n'hq⟩, -, X'hq, ⟨Lc'hq, hQ'hq, l'hq, y'hq, z'hq⟩, st'hq⟩ := Jvm.LawKit.callS X'hk hx (y := Y3) hown (mvT hZ (qw hw 1 rfl)) (mvT hZ (qw hw 2 rfl)) (mvT hZ (qw hw 3 rfl)) (mvT hZ (qw hw 4 rfl)) (by decide) (backOf (W := 1) (rm1 l Z a0 hw [] (own_c x3) cz T'hk.heap n0 Z_ho S_hn hcz (own_c_ok x3)) hZ (qw hw 4 rfl) (qw hw 3 rfl) (by decide) (by decide)) (g := (mkF m 266 #[iv x0, iv x1, iv x2, iv x3, iv x4, iv (own_c x0), iv (own_c x1), iv (own_c x2), iv (own_c x3), iv i_2, iv (own_pend x4), iv (own_aft x4), rv b'0, rv b'm, rv b'w, rv b'1r, iv i_1, rv b'hk, .unset] [(.int (own_c x3)), .ref b'hk])) rfl (by rw [hml]; rfl) (argsL := [(.int (own_c x3))]) (rest := [.ref b'hk]) (lenOf own_pd23 rfl) rfl (Nat.le_of_eq rfl) (hb hby at_266) (fun _ _ => ⟨rfl, rfl, (by decide : 11 + 2 ≤ _), (by decide : 568 + 5 ≤ _)⟩)
   dsimp only [Pt.U, Pt.locs, Pt.cells, Pt.slots] at X'hq l'hq y'hq z'hq st'hq hQ'hq
   subst l'hq y'hq z'hq
   obtain ⟨b'hq, rfl, Nq'hq, K'hq, gz'hq, G_hr, G_hs, qx'hq⟩ := hQ'hq
   have ne_ht : b'hk ≠ b'hq := Nat.ne_of_lt (Nat.lt_of_lt_of_le G_hl.lt gz'hq)
   obtain ⟨vb'hq, kv'hq, gv'hq, Fv'hq, Vv'hq⟩ := qx'hq
   have S_hu := own_staKeep S_hn K'hq all0
   have X_hv := G_hl.keep K'hq
   have F_hw := G_hm.keep K'hq nin0
   have F_hx := Fv'hk.keep K'hq nin0
   have V_hy := Vv'hk.keep K'hq nin0
   have hk_hz := Nat.le_trans hk_hp K'hq.1
   have N_hq := Fr.app N_hk Nq'hq
   refine goo (fun _ k => st'hq _ k) ?_
   obtain ⟨T'i0, X'i0, e'i0, st'i0⟩ := own_callV X'hq hx hZ (y := Y12) hown (qw hw 179 rfl) (qw hw 180 rfl) (qw hw 182 rfl) (qw hw 181 rfl) (qw hw 3 rfl) (qw hw 183 rfl) (by decide) (W := 0) (rm_eq1 l Z a0 hw [] b'hk b'hq cz vb'hk vb'hq kv'hk kv'hq (own_by (own_c x3)) T'hq.heap S_hu hcz F_hw F_hx V_hy G_hs Fv'hq Vv'hq G_hr ne_ht) (by decide) (by decide) rfl rfl rfl X_hv (g := (mkF m 269 #[iv x0, iv x1, iv x2, iv x3, iv x4, iv (own_c x0), iv (own_c x1), iv (own_c x2), iv (own_c x3), iv i_2, iv (own_pend x4), iv (own_aft x4), rv b'0, rv b'm, rv b'w, rv b'1r, iv i_1, rv b'hk, .unset] [.ref b'hq, .ref b'hk])) rfl (by rw [hml]; rfl) (argsL := [.ref b'hq]) (rest := []) (lenOf own_pd27 rfl) rfl rfl (Nat.le_of_eq rfl) (hb hby at_269) (by decide) (by decide)
   refine goo st'i0 ?_
   refine goo (fun _ k => XS.goto X'i0.here hx rfl (pc0 := 272) (pc' := 280) rfl (hb hby at_272) (by decide) (by decide) <| XS.istore X'i0.here hx rfl (hb hby at_280) rfl (l' := #[iv x0, iv x1, iv x2, iv x3, iv x4, iv (own_c x0), iv (own_c x1), iv (own_c x2), iv (own_c x3), iv i_2, iv (own_pend x4), iv (own_aft x4), rv b'0, rv b'm, rv b'w, rv b'1r, iv i_1, rv b'hk, iv i_1]) rfl <| XS.iload X'i0.here hx rfl (hb hby at_282) rfl k) ?_
   show own_G _ _ _ _ (T'i0.setTop (mkF m 284 #[iv x0, iv x1, iv x2, iv x3, iv x4, iv (own_c x0), iv (own_c x1), iv (own_c x2), iv (own_c x3), iv i_2, iv (own_pend x4), iv (own_aft x4), rv b'0, rv b'm, rv b'w, rv b'1r, iv i_1, rv b'hk, iv i_1] [.int i_1]))
   refine goo (fun _ k => XS.ifYes X'i0.here hx rfl (pc0 := 284) (pc' := 289) rfl (hb hby at_284) rfl (((if0 _ _).trans (feq (by decide : ¬ (i_1 = i_0))).2)) (by decide) (by decide) <| XS.iload X'i0.here hx rfl (hb hby at_289) rfl <| XS.iconst X'i0.here hx rfl (hb hby at_291) <| XS.icmpYes X'i0.here hx rfl (pc0 := 292) (pc' := 311) rfl (hb hby at_292) rfl ((feq (by decide : ¬ (i_2 = i_3))).2) (by decide) (by decide) k) ?_
   refine goo (fun _ k => XS.iconst X'i0.here hx rfl (hb hby at_311) k) ?_
   show own_G _ _ _ _ (T'i0.setTop (mkF m 312 #[iv x0, iv x1, iv x2, iv x3, iv x4, iv (own_c x0), iv (own_c x1), iv (own_c x2), iv (own_c x3), iv i_2, iv (own_pend x4), iv (own_aft x4), rv b'0, rv b'm, rv b'w, rv b'1r, iv i_1, rv b'hk, iv i_1] [.int i_1]))
   exact own_endW (vm₁ := s.vm) X'i0 Bd.notSynchronized hS (by rw [e'i0]; exact hk_hz) (v := some (.int (nar .boolean i_1))) (fun h => by rw [Bd.returns] at h; cases h) (Q := QL (some (.int i_1)) n0) ⟨rfl, N_hq⟩ (fun fs hr => retN X'i0 hx (t := .boolean) Bd.returns (by simp) (hb hby at_312) hr) (by decide) (by decide)
 ·rw [hp]
  refine goo (fun _ k => XS.iload X'2h.here hx rfl (hb hby at_106) rfl <| XS.iconst X'2h.here hx rfl (hb hby at_108) <| XS.icmpNo X'2h.here hx rfl (hb hby at_109) rfl ((flt (by decide : ¬ (i_3 < i_1))).1) <| XS.aload X'2h.here hx rfl (hb hby at_112) rfl rfl k) ?_
  show own_G _ _ _ _ (T'2h.setTop (mkF m 114 #[iv x0, iv x1, iv x2, iv x3, iv x4, iv (own_c x0), iv (own_c x1), iv (own_c x2), iv (own_c x3), iv i_3, iv (own_pend x4), iv (own_aft x4), rv b'0, rv b'm, rv b'w, rv b'1r, .unset, .unset, .unset] [.ref b'1r]))
  refine goo (fun _ k => XS.aload X'2h.here hx rfl (hb hby at_114) rfl rfl k) ?_
  obtain ⟨cq'i1, kq'i1, q'i1a, q'i1b, q'i1c⟩ := isOf hZ rfl G_2i
  obtain ⟨_, _, ⟨T'i1, L'i1, k'i1, n'i1⟩, -, X'i1, ⟨Lc'i1, hQ'i1, l'i1, y'i1, z'i1⟩, st'i1⟩ := X'2h.virtualBack hx (y := Y28) (z := Y28) hown (mvT hZ (qw hw 128 rfl)) (mvT hZ (qw hw 129 rfl)) (notFace_of_selects (args := #[]) (mvT hZ (qw hw 131 rfl))) (mvT hZ (qw hw 131 rfl)) (mvT hZ (qw hw 130 rfl)) (by decide) (backOf (W := 0) (rm_add1 l Z a0 hw [] b'1r b'm ca'2h ea'2h kc'2h ke'2h i_0 i_0 i_0 i_0 i_0 i_0 i_0 i_0 i_0 i_0 i_0 cz fz vb'm kv'm (own_c x0) T'2h.heap n0 Z_38 G_2i Fa'2h Fe'2h G_2j G_2k Va'2h Ve'2h ge_1w ge_2q ge_2w ne_2p ne_2v nab'2h X_30 F_31 F_32 V_33 S_2x hcz S_2y ne_1s ne_2l ne_2r ne_1t ne_2m ne_2s (own_c_ok x0) hfz) hZ (qw hw 132 rfl) (qw hw 46 rfl) (by decide) (by decide)) q'i1a q'i1c (g := (mkF m 116 #[iv x0, iv x1, iv x2, iv x3, iv x4, iv (own_c x0), iv (own_c x1), iv (own_c x2), iv (own_c x3), iv i_3, iv (own_pend x4), iv (own_aft x4), rv b'0, rv b'm, rv b'w, rv b'1r, .unset, .unset, .unset] [.ref b'm, .ref b'1r])) rfl (by rw [hml]; rfl) (Steps.refl _) (argsL := [.ref b'm]) (rest := []) (lenOf own_pd28 rfl) rfl (Nat.le_of_eq rfl) (hb hby at_116) (fun _ _ => ⟨rfl, rfl, (by decide : 9 + 0 ≤ _), (by decide : 563 + 0 ≤ _)⟩)
  dsimp only [Pt.U, Pt.locs, Pt.cells, Pt.slots] at X'i1 l'i1 y'i1 z'i1 st'i1 hQ'i1
  subst l'i1 y'i1 z'i1
  obtain ⟨rfl, Nq'i1, K'i1, G_i2, G_i3, G_i4, G_i5, G_i6, G_i7, G_i8⟩ := hQ'i1
  have S_i9 := own_staKeep S_2x K'i1 (allS (own_nsX G_2i) (allS (own_nsV Va'2h) (allS (own_nsV Ve'2h) all0)))
  have S_ia := own_staKeep S_2y K'i1 (allS (own_nsX G_2i) (allS (own_nsV Va'2h) (allS (own_nsV Ve'2h) all0)))
  have Old_ib := Old_2z.keep K'i1 (allS ge_1w (allS ge_2q (allS ge_2w all0)))
  have X_ic := X_34.keep K'i1
  have F_id := F_35.keep K'i1 (ninS ne_1u (ninS ne_2n (ninS ne_2t nin0)))
  have F_ie := F_36.keep K'i1 (ninS ne_1u (ninS ne_2n (ninS ne_2t nin0)))
  have V_if := V_37.keep K'i1 (ninS ne_1v (ninS ne_2o (ninS ne_2u nin0)))
  have Z_ig : n0 ≤ T'i1.heap.size := Nat.le_trans Z_38 K'i1.1
  have hk_ih := Nat.le_trans hk_39 K'i1.1
  have N_i1 := Fr.app N_2h Nq'i1
  refine goo (fun _ k => st'i1.trans k) ?_
  refine goo (fun _ k => XS.iload X'i1.here hx rfl (hb hby at_119) rfl <| XS.iconst X'i1.here hx rfl (hb hby at_121) <| XS.icmpNo X'i1.here hx rfl (hb hby at_122) rfl ((flt (by decide : ¬ (i_3 < i_2))).1) <| XS.aload X'i1.here hx rfl (hb hby at_125) rfl rfl k) ?_
  show own_G _ _ _ _ (T'i1.setTop (mkF m 127 #[iv x0, iv x1, iv x2, iv x3, iv x4, iv (own_c x0), iv (own_c x1), iv (own_c x2), iv (own_c x3), iv i_3, iv (own_pend x4), iv (own_aft x4), rv b'0, rv b'm, rv b'w, rv b'1r, .unset, .unset, .unset] [.ref b'1r]))
  obtain ⟨cq'ii, kq'ii, q'iia, q'iib, q'iic⟩ := isOf hZ rfl G_i2
  obtain ⟨_, _, ⟨T'ii, L'ii, k'ii, n'ii⟩, -, X'ii, ⟨Lc'ii, hQ'ii, l'ii, y'ii, z'ii⟩, st'ii⟩ := X'i1.virtualBack hx (y := Y26) (z := Y26) hown (mvT hZ (qw hw 75 rfl)) (mvT hZ (qw hw 76 rfl)) (notFace_of_selects (args := #[]) (mvT hZ (qw hw 78 rfl))) (mvT hZ (qw hw 78 rfl)) (mvT hZ (qw hw 77 rfl)) (by decide) (backOf (W := 0) (rm_end1 l Z a0 hw [] b'1r ca'2h ea'2h kc'2h ke'2h (own_c x0) i_0 i_0 i_0 i_0 i_0 i_1 i_0 i_0 i_0 i_1 T'i1.heap n0 Z_ig G_i2 G_i3 G_i4 G_i5 G_i6 G_i7 G_i8 ge_1w ge_2q ge_2w ne_2p ne_2v nab'2h) hZ (qw hw 79 rfl) (qw hw 46 rfl) (by decide) (by decide)) q'iia q'iic (g := (mkF m 127 #[iv x0, iv x1, iv x2, iv x3, iv x4, iv (own_c x0), iv (own_c x1), iv (own_c x2), iv (own_c x3), iv i_3, iv (own_pend x4), iv (own_aft x4), rv b'0, rv b'm, rv b'w, rv b'1r, .unset, .unset, .unset] [.ref b'1r])) rfl (by rw [hml]; rfl) (Steps.refl _) (argsL := []) (rest := []) (lenOf own_pd20 rfl) rfl (Nat.le_of_eq rfl) (hb hby at_127) (fun _ _ => ⟨rfl, rfl, (by decide : 9 + 0 ≤ _), (by decide : 563 + 0 ≤ _)⟩)
  dsimp only [Pt.U, Pt.locs, Pt.cells, Pt.slots] at X'ii l'ii y'ii z'ii st'ii hQ'ii
  subst l'ii y'ii z'ii
  obtain ⟨rfl, Nq'ii, K'ii, G_ij, G_ik, G_il, G_im, G_in, G_io, G_ip⟩ := hQ'ii
  have S_iq := own_staKeep S_i9 K'ii (allS (own_nsX G_i2) (allS (own_nsV G_i8) all0))
  have S_ir := own_staKeep S_ia K'ii (allS (own_nsX G_i2) (allS (own_nsV G_i8) all0))
  have Old_is := Old_ib.keep K'ii (allS ge_1w (allS ge_2w all0))
  have X_it := X_ic.keep K'ii
  have F_iu := F_id.keep K'ii (ninS ne_1u (ninS ne_2t nin0))
  have F_iv := F_ie.keep K'ii (ninS ne_1u (ninS ne_2t nin0))
  have V_iw := V_if.keep K'ii (ninS ne_1v (ninS ne_2u nin0))
  have Z_ix : n0 ≤ T'ii.heap.size := Nat.le_trans Z_ig K'ii.1
  have hk_iy := Nat.le_trans hk_ih K'ii.1
  have N_ii := Fr.app N_i1 Nq'ii
  refine goo (fun _ k => st'ii.trans k) ?_
  refine goo (fun _ k => XS.iload X'ii.here hx rfl (hb hby at_130) rfl <| XS.iconst X'ii.here hx rfl (hb hby at_132) <| XS.icmpNo X'ii.here hx rfl (hb hby at_133) rfl ((flt (by decide : ¬ (i_3 < i_3))).1) <| XS.aload X'ii.here hx rfl (hb hby at_136) rfl rfl k) ?_
  refine goo (fun _ k => XS.aload X'ii.here hx rfl (hb hby at_138) rfl rfl k) ?_
  show own_G _ _ _ _ (T'ii.setTop (mkF m 140 #[iv x0, iv x1, iv x2, iv x3, iv x4, iv (own_c x0), iv (own_c x1), iv (own_c x2), iv (own_c x3), iv i_3, iv (own_pend x4), iv (own_aft x4), rv b'0, rv b'm, rv b'w, rv b'1r, .unset, .unset, .unset] [.ref b'w, .ref b'1r]))
  obtain ⟨cq'iz, kq'iz, q'iza, q'izb, q'izc⟩ := isOf hZ rfl G_ij
  obtain ⟨_, _, ⟨T'iz, L'iz, k'iz, n'iz⟩, -, X'iz, ⟨Lc'iz, hQ'iz, l'iz, y'iz, z'iz⟩, st'iz⟩ := X'ii.virtualBack hx (y := Y28) (z := Y28) hown (mvT hZ (qw hw 128 rfl)) (mvT hZ (qw hw 129 rfl)) (notFace_of_selects (args := #[]) (mvT hZ (qw hw 131 rfl))) (mvT hZ (qw hw 131 rfl)) (mvT hZ (qw hw 130 rfl)) (by decide) (backOf (W := 0) (rm_add2 l Z a0 hw [] b'1r b'w ca'2h ea'2h kc'2h ke'2h (own_c x0) i_0 i_0 i_0 i_0 i_0 i_1 i_1 i_0 i_0 i_1 cz fz vb'1e kv'1e (own_c x1) (own_c x0) T'ii.heap n0 Z_ix G_ij G_ik G_il G_im G_in G_io G_ip ge_1w ge_2q ge_2w ne_2p ne_2v nab'2h X_it F_iu F_iv V_iw S_iq hcz S_ir ne_1u ne_2n ne_2t ne_1v ne_2o ne_2u (own_c_ok x1) (own_c_ok x0) hfz) hZ (qw hw 132 rfl) (qw hw 46 rfl) (by decide) (by decide)) q'iza q'izc (g := (mkF m 140 #[iv x0, iv x1, iv x2, iv x3, iv x4, iv (own_c x0), iv (own_c x1), iv (own_c x2), iv (own_c x3), iv i_3, iv (own_pend x4), iv (own_aft x4), rv b'0, rv b'm, rv b'w, rv b'1r, .unset, .unset, .unset] [.ref b'w, .ref b'1r])) rfl (by rw [hml]; rfl) (Steps.refl _) (argsL := [.ref b'w]) (rest := []) (lenOf own_pd28 rfl) rfl (Nat.le_of_eq rfl) (hb hby at_140) (fun _ _ => ⟨rfl, rfl, (by decide : 9 + 0 ≤ _), (by decide : 563 + 0 ≤ _)⟩)
  dsimp only [Pt.U, Pt.locs, Pt.cells, Pt.slots] at X'iz l'iz y'iz z'iz st'iz hQ'iz
  subst l'iz y'iz z'iz
  obtain ⟨rfl, Nq'iz, K'iz, G_j0, G_j1, G_j2, G_j3, G_j4, G_j5, G_j6⟩ := hQ'iz
  have S_j7 := own_staKeep S_iq K'iz (allS (own_nsX G_ij) (allS (own_nsV G_io) (allS (own_nsV G_ip) all0)))
  have S_j8 := own_staKeep S_ir K'iz (allS (own_nsX G_ij) (allS (own_nsV G_io) (allS (own_nsV G_ip) all0)))
  have Old_j9 := Old_is.keep K'iz (allS ge_1w (allS ge_2q (allS ge_2w all0)))
  have X_ja := X_it.keep K'iz
  have F_jb := F_iu.keep K'iz (ninS ne_1u (ninS ne_2n (ninS ne_2t nin0)))
  have F_jc := F_iv.keep K'iz (ninS ne_1u (ninS ne_2n (ninS ne_2t nin0)))
  have V_jd := V_iw.keep K'iz (ninS ne_1v (ninS ne_2o (ninS ne_2u nin0)))
  have Z_je : n0 ≤ T'iz.heap.size := Nat.le_trans Z_ix K'iz.1
  have hk_jf := Nat.le_trans hk_iy K'iz.1
  have N_iz := Fr.app N_ii Nq'iz
  refine goo (fun _ k => st'iz.trans k) ?_
  refine own_joinG (fun T' L' => Fr n0 L' ∧ Keep T'iz.heap T'.heap [b'1r, ca'2h, ea'2h] ∧ Exa Z T'.heap b'1r s_3 ∧ Fld Z T'.heap b'1r s_3 "chars" "[C" (.ref ca'2h) ∧ Fld Z T'.heap b'1r s_3 "ends" "[I" (.ref ea'2h) ∧ Fld Z T'.heap b'1r s_3 "length" "I" (.int i_3) ∧ Fld Z T'.heap b'1r s_3 "size" "I" (.int i_3) ∧ Arv Z T'.heap ea'2h ke'2h .int i_32 [.int i_1, .int i_1, .int i_3, .int i_0] (.int i_0) ∧ ∃ g0 g1 g2, Arv Z T'.heap ca'2h kc'2h .char i_256 [.int (own_c x0), .int (own_c x1), .int (own_c x0), .int g0, .int g1, .int g2] (.int i_0)) X'iz (mkF m 190 #[iv x0, iv x1, iv x2, iv x3, iv x4, iv (own_c x0), iv (own_c x1), iv (own_c x2), iv (own_c x3), iv i_3, iv (own_pend x4), iv (own_aft x4), rv b'0, rv b'm, rv b'w, rv b'1r, .unset, .unset, .unset] []) (fun hj => ?_) (fun T'jg L'jg X'jg hJ'jg => ?_)
  ·rcases own_pend4 x4 with hq | hq | hq | hq
   ·rw [hq] at hj ⊢
    refine goo (fun _ k => XS.iload X'iz.here hx rfl (hb hby at_143) rfl <| XS.iconst X'iz.here hx rfl (hb hby at_145) <| XS.icmpYes X'iz.here hx rfl (pc0 := 146) (pc' := 157) rfl (hb hby at_146) rfl ((tlt (by decide : i_0 < i_1)).1) (by decide) (by decide) <| XS.iload X'iz.here hx rfl (hb hby at_157) rfl k) ?_
    show own_G _ _ _ _ (T'iz.setTop (mkF m 159 #[iv x0, iv x1, iv x2, iv x3, iv x4, iv (own_c x0), iv (own_c x1), iv (own_c x2), iv (own_c x3), iv i_3, iv i_0, iv (own_aft x4), rv b'0, rv b'm, rv b'w, rv b'1r, .unset, .unset, .unset] [.int i_0]))
    refine goo (fun _ k => XS.iconst X'iz.here hx rfl (hb hby at_159) <| XS.icmpYes X'iz.here hx rfl (pc0 := 160) (pc' := 171) rfl (hb hby at_160) rfl ((tlt (by decide : i_0 < i_2)).1) (by decide) (by decide) <| XS.iload X'iz.here hx rfl (hb hby at_171) rfl <| XS.iconst X'iz.here hx rfl (hb hby at_173) k) ?_
    refine goo (fun _ k => XS.icmpYes X'iz.here hx rfl (pc0 := 174) (pc' := 185) rfl (hb hby at_174) rfl ((tlt (by decide : i_0 < i_3)).1) (by decide) (by decide) <| XS.aload X'iz.here hx rfl (hb hby at_185) rfl rfl k) ?_
    show own_G _ _ _ _ (T'iz.setTop (mkF m 187 #[iv x0, iv x1, iv x2, iv x3, iv x4, iv (own_c x0), iv (own_c x1), iv (own_c x2), iv (own_c x3), iv i_3, iv i_0, iv (own_aft x4), rv b'0, rv b'm, rv b'w, rv b'1r, .unset, .unset, .unset] [.ref b'1r]))
    obtain ⟨cq'jh, kq'jh, q'jha, q'jhb, q'jhc⟩ := isOf hZ rfl G_j0
    obtain ⟨_, _, ⟨T'jh, L'jh, k'jh, n'jh⟩, -, X'jh, ⟨Lc'jh, hQ'jh, l'jh, y'jh, z'jh⟩, st'jh⟩ := X'iz.virtualBack hx (y := Y31) (z := Y31) hown (mvT hZ (qw hw 66 rfl)) (mvT hZ (qw hw 67 rfl)) (notFace_of_selects (args := #[]) (mvT hZ (qw hw 69 rfl))) (mvT hZ (qw hw 69 rfl)) (mvT hZ (qw hw 68 rfl)) (by decide) (backOf (W := 0) (rm_dis3 l Z a0 hw [] b'1r ca'2h ea'2h kc'2h ke'2h (own_c x0) (own_c x1) (own_c x0) i_0 i_0 i_0 i_1 i_1 i_3 i_0 i_3 T'iz.heap n0 Z_je G_j0 G_j1 G_j2 G_j3 G_j4 G_j5 G_j6 ge_1w ge_2q ge_2w ne_2p ne_2v nab'2h) hZ (qw hw 70 rfl) (qw hw 46 rfl) (by decide) (by decide)) q'jha q'jhc (g := (mkF m 187 #[iv x0, iv x1, iv x2, iv x3, iv x4, iv (own_c x0), iv (own_c x1), iv (own_c x2), iv (own_c x3), iv i_3, iv i_0, iv (own_aft x4), rv b'0, rv b'm, rv b'w, rv b'1r, .unset, .unset, .unset] [.ref b'1r])) rfl (by rw [hml]; rfl) (Steps.refl _) (argsL := []) (rest := []) (lenOf own_pd20 rfl) rfl (Nat.le_of_eq rfl) (hb hby at_187) (fun _ _ => ⟨rfl, rfl, (by decide : 9 + 0 ≤ _), (by decide : 563 + 0 ≤ _)⟩)
    dsimp only [Pt.U, Pt.locs, Pt.cells, Pt.slots] at X'jh l'jh y'jh z'jh st'jh hQ'jh
    subst l'jh y'jh z'jh
    obtain ⟨rfl, Nq'jh, K'jh, G_ji, G_jj, G_jk, G_jl, G_jm, G_jn, G_jo⟩ := hQ'jh
    have KP_jp : Keep T'iz.heap T'jh.heap [b'1r, ca'2h, ea'2h] := (Keep.refl T'iz.heap [b'1r, ca'2h, ea'2h]).trans K'jh (allS (Or.inl (List.mem_of_getElem? (i := 0) rfl)) all0)
    have N_jh := Fr.app N_iz Nq'jh
    refine goo (fun _ k => st'jh.trans k) ?_
    exact hj _ _ X'jh (by exact ⟨N_jh, KP_jp, G_ji, G_jj, G_jk, G_jl, G_jm, G_jo, _, _, _, G_jn⟩)
   ·rw [hq] at hj ⊢
    refine goo (fun _ k => XS.iload X'iz.here hx rfl (hb hby at_143) rfl <| XS.iconst X'iz.here hx rfl (hb hby at_145) <| XS.icmpNo X'iz.here hx rfl (hb hby at_146) rfl ((flt (by decide : ¬ (i_1 < i_1))).1) <| XS.aload X'iz.here hx rfl (hb hby at_149) rfl rfl k) ?_
    show own_G _ _ _ _ (T'iz.setTop (mkF m 151 #[iv x0, iv x1, iv x2, iv x3, iv x4, iv (own_c x0), iv (own_c x1), iv (own_c x2), iv (own_c x3), iv i_3, iv i_1, iv (own_aft x4), rv b'0, rv b'm, rv b'w, rv b'1r, .unset, .unset, .unset] [.ref b'1r]))
    refine goo (fun _ k => XS.iload X'iz.here hx rfl (hb hby at_151) rfl k) ?_
    obtain ⟨cq'jq, kq'jq, q'jqa, q'jqb, q'jqc⟩ := isOf hZ rfl G_j0
    obtain ⟨_, _, ⟨T'jq, L'jq, k'jq, n'jq⟩, -, X'jq, ⟨Lc'jq, hQ'jq, l'jq, y'jq, z'jq⟩, st'jq⟩ := X'iz.virtualBack hx (y := Y27) (z := Y27) hown (mvT hZ (qw hw 174 rfl)) (mvT hZ (qw hw 175 rfl)) (notFace_of_selects (args := #[]) (mvT hZ (qw hw 177 rfl))) (mvT hZ (qw hw 177 rfl)) (mvT hZ (qw hw 176 rfl)) (by decide) (backOf (W := 0) (rm_app3 l Z a0 hw [] b'1r (own_c x2) ca'2h ea'2h kc'2h ke'2h (own_c x0) (own_c x1) (own_c x0) i_0 i_0 i_0 i_1 i_1 i_3 i_0 i_3 i_3 T'iz.heap n0 Z_je G_j0 G_j1 G_j2 G_j3 G_j4 G_j5 G_j6 ge_1w ge_2q ge_2w ne_2p ne_2v nab'2h (own_c_ok x2)) hZ (qw hw 178 rfl) (qw hw 46 rfl) (by decide) (by decide)) q'jqa q'jqc (g := (mkF m 153 #[iv x0, iv x1, iv x2, iv x3, iv x4, iv (own_c x0), iv (own_c x1), iv (own_c x2), iv (own_c x3), iv i_3, iv i_1, iv (own_aft x4), rv b'0, rv b'm, rv b'w, rv b'1r, .unset, .unset, .unset] [(.int (own_c x2)), .ref b'1r])) rfl (by rw [hml]; rfl) (Steps.refl _) (argsL := [(.int (own_c x2))]) (rest := []) (lenOf own_pd25 rfl) rfl (Nat.le_of_eq rfl) (hb hby at_153) (fun _ _ => ⟨rfl, rfl, (by decide : 9 + 0 ≤ _), (by decide : 563 + 0 ≤ _)⟩)
    dsimp only [Pt.U, Pt.locs, Pt.cells, Pt.slots] at X'jq l'jq y'jq z'jq st'jq hQ'jq
    subst l'jq y'jq z'jq
    obtain ⟨rfl, Nq'jq, K'jq, G_jr, G_js, G_jt, G_ju, G_jv, G_jw, G_jx⟩ := hQ'jq
    have Z_jy : n0 ≤ T'jq.heap.size := Nat.le_trans Z_je K'jq.1
    have KP_jz : Keep T'iz.heap T'jq.heap [b'1r, ca'2h, ea'2h] := (Keep.refl T'iz.heap [b'1r, ca'2h, ea'2h]).trans K'jq (allS (Or.inl (List.mem_of_getElem? (i := 0) rfl)) (allS (Or.inl (List.mem_of_getElem? (i := 1) rfl)) all0))
    have N_jq := Fr.app N_iz Nq'jq
    refine goo (fun _ k => st'jq.trans k) ?_
    refine goo (fun _ k => XS.pop X'jq.here hx rfl (hb hby at_156) rfl rfl <| XS.iload X'jq.here hx rfl (hb hby at_157) rfl <| XS.iconst X'jq.here hx rfl (hb hby at_159) <| XS.icmpYes X'jq.here hx rfl (pc0 := 160) (pc' := 171) rfl (hb hby at_160) rfl ((tlt (by decide : i_1 < i_2)).1) (by decide) (by decide) k) ?_
    show own_G _ _ _ _ (T'jq.setTop (mkF m 171 #[iv x0, iv x1, iv x2, iv x3, iv x4, iv (own_c x0), iv (own_c x1), iv (own_c x2), iv (own_c x3), iv i_3, iv i_1, iv (own_aft x4), rv b'0, rv b'm, rv b'w, rv b'1r, .unset, .unset, .unset] []))
    refine goo (fun _ k => XS.iload X'jq.here hx rfl (hb hby at_171) rfl <| XS.iconst X'jq.here hx rfl (hb hby at_173) <| XS.icmpYes X'jq.here hx rfl (pc0 := 174) (pc' := 185) rfl (hb hby at_174) rfl ((tlt (by decide : i_1 < i_3)).1) (by decide) (by decide) <| XS.aload X'jq.here hx rfl (hb hby at_185) rfl rfl k) ?_
    obtain ⟨cq'k0, kq'k0, q'k0a, q'k0b, q'k0c⟩ := isOf hZ rfl G_jr
    obtain ⟨_, _, ⟨T'k0, L'k0, k'k0, n'k0⟩, -, X'k0, ⟨Lc'k0, hQ'k0, l'k0, y'k0, z'k0⟩, st'k0⟩ := X'jq.virtualBack hx (y := Y31) (z := Y31) hown (mvT hZ (qw hw 66 rfl)) (mvT hZ (qw hw 67 rfl)) (notFace_of_selects (args := #[]) (mvT hZ (qw hw 69 rfl))) (mvT hZ (qw hw 69 rfl)) (mvT hZ (qw hw 68 rfl)) (by decide) (backOf (W := 0) (rm_dis3 l Z a0 hw [] b'1r ca'2h ea'2h kc'2h ke'2h (own_c x0) (own_c x1) (own_c x0) (own_c x2) i_0 i_0 i_1 i_1 i_3 i_0 i_4 T'jq.heap n0 Z_jy G_jr G_js G_jt G_ju G_jv G_jw G_jx ge_1w ge_2q ge_2w ne_2p ne_2v nab'2h) hZ (qw hw 70 rfl) (qw hw 46 rfl) (by decide) (by decide)) q'k0a q'k0c (g := (mkF m 187 #[iv x0, iv x1, iv x2, iv x3, iv x4, iv (own_c x0), iv (own_c x1), iv (own_c x2), iv (own_c x3), iv i_3, iv i_1, iv (own_aft x4), rv b'0, rv b'm, rv b'w, rv b'1r, .unset, .unset, .unset] [.ref b'1r])) rfl (by rw [hml]; rfl) (Steps.refl _) (argsL := []) (rest := []) (lenOf own_pd20 rfl) rfl (Nat.le_of_eq rfl) (hb hby at_187) (fun _ _ => ⟨rfl, rfl, (by decide : 9 + 0 ≤ _), (by decide : 563 + 0 ≤ _)⟩)
    dsimp only [Pt.U, Pt.locs, Pt.cells, Pt.slots] at X'k0 l'k0 y'k0 z'k0 st'k0 hQ'k0
    subst l'k0 y'k0 z'k0
    obtain ⟨rfl, Nq'k0, K'k0, G_k1, G_k2, G_k3, G_k4, G_k5, G_k6, G_k7⟩ := hQ'k0
    have KP_k8 : Keep T'iz.heap T'k0.heap [b'1r, ca'2h, ea'2h] := KP_jz.trans K'k0 (allS (Or.inl (List.mem_of_getElem? (i := 0) rfl)) all0)
    have N_k0 := Fr.app N_jq Nq'k0
    refine goo (fun _ k => st'k0.trans k) ?_
    exact hj _ _ X'k0 (by exact ⟨N_k0, KP_k8, G_k1, G_k2, G_k3, G_k4, G_k5, G_k7, _, _, _, G_k6⟩)
   ·rw [hq] at hj ⊢
    refine goo (fun _ k => XS.iload X'iz.here hx rfl (hb hby at_143) rfl <| XS.iconst X'iz.here hx rfl (hb hby at_145) <| XS.icmpNo X'iz.here hx rfl (hb hby at_146) rfl ((flt (by decide : ¬ (i_2 < i_1))).1) <| XS.aload X'iz.here hx rfl (hb hby at_149) rfl rfl k) ?_
    show own_G _ _ _ _ (T'iz.setTop (mkF m 151 #[iv x0, iv x1, iv x2, iv x3, iv x4, iv (own_c x0), iv (own_c x1), iv (own_c x2), iv (own_c x3), iv i_3, iv i_2, iv (own_aft x4), rv b'0, rv b'm, rv b'w, rv b'1r, .unset, .unset, .unset] [.ref b'1r]))
    refine goo (fun _ k => XS.iload X'iz.here hx rfl (hb hby at_151) rfl k) ?_
    obtain ⟨cq'k9, kq'k9, q'k9a, q'k9b, q'k9c⟩ := isOf hZ rfl G_j0
    obtain ⟨_, _, ⟨T'k9, L'k9, k'k9, n'k9⟩, -, X'k9, ⟨Lc'k9, hQ'k9, l'k9, y'k9, z'k9⟩, st'k9⟩ := X'iz.virtualBack hx (y := Y27) (z := Y27) hown (mvT hZ (qw hw 174 rfl)) (mvT hZ (qw hw 175 rfl)) (notFace_of_selects (args := #[]) (mvT hZ (qw hw 177 rfl))) (mvT hZ (qw hw 177 rfl)) (mvT hZ (qw hw 176 rfl)) (by decide) (backOf (W := 0) (rm_app3 l Z a0 hw [] b'1r (own_c x2) ca'2h ea'2h kc'2h ke'2h (own_c x0) (own_c x1) (own_c x0) i_0 i_0 i_0 i_1 i_1 i_3 i_0 i_3 i_3 T'iz.heap n0 Z_je G_j0 G_j1 G_j2 G_j3 G_j4 G_j5 G_j6 ge_1w ge_2q ge_2w ne_2p ne_2v nab'2h (own_c_ok x2)) hZ (qw hw 178 rfl) (qw hw 46 rfl) (by decide) (by decide)) q'k9a q'k9c (g := (mkF m 153 #[iv x0, iv x1, iv x2, iv x3, iv x4, iv (own_c x0), iv (own_c x1), iv (own_c x2), iv (own_c x3), iv i_3, iv i_2, iv (own_aft x4), rv b'0, rv b'm, rv b'w, rv b'1r, .unset, .unset, .unset] [(.int (own_c x2)), .ref b'1r])) rfl (by rw [hml]; rfl) (Steps.refl _) (argsL := [(.int (own_c x2))]) (rest := []) (lenOf own_pd25 rfl) rfl (Nat.le_of_eq rfl) (hb hby at_153) (fun _ _ => ⟨rfl, rfl, (by decide : 9 + 0 ≤ _), (by decide : 563 + 0 ≤ _)⟩)
    dsimp only [Pt.U, Pt.locs, Pt.cells, Pt.slots] at X'k9 l'k9 y'k9 z'k9 st'k9 hQ'k9
    subst l'k9 y'k9 z'k9
    obtain ⟨rfl, Nq'k9, K'k9, G_ka, G_kb, G_kc, G_kd, G_ke, G_kf, G_kg⟩ := hQ'k9
    have Z_kh : n0 ≤ T'k9.heap.size := Nat.le_trans Z_je K'k9.1
    have KP_ki : Keep T'iz.heap T'k9.heap [b'1r, ca'2h, ea'2h] := (Keep.refl T'iz.heap [b'1r, ca'2h, ea'2h]).trans K'k9 (allS (Or.inl (List.mem_of_getElem? (i := 0) rfl)) (allS (Or.inl (List.mem_of_getElem? (i := 1) rfl)) all0))
    have N_k9 := Fr.app N_iz Nq'k9
    refine goo (fun _ k => st'k9.trans k) ?_
    refine goo (fun _ k => XS.pop X'k9.here hx rfl (hb hby at_156) rfl rfl <| XS.iload X'k9.here hx rfl (hb hby at_157) rfl <| XS.iconst X'k9.here hx rfl (hb hby at_159) <| XS.icmpNo X'k9.here hx rfl (hb hby at_160) rfl ((flt (by decide : ¬ (i_2 < i_2))).1) k) ?_
    show own_G _ _ _ _ (T'k9.setTop (mkF m 163 #[iv x0, iv x1, iv x2, iv x3, iv x4, iv (own_c x0), iv (own_c x1), iv (own_c x2), iv (own_c x3), iv i_3, iv i_2, iv (own_aft x4), rv b'0, rv b'm, rv b'w, rv b'1r, .unset, .unset, .unset] []))
    refine goo (fun _ k => XS.aload X'k9.here hx rfl (hb hby at_163) rfl rfl <| XS.iload X'k9.here hx rfl (hb hby at_165) rfl k) ?_
    obtain ⟨cq'kj, kq'kj, q'kja, q'kjb, q'kjc⟩ := isOf hZ rfl G_ka
    obtain ⟨_, _, ⟨T'kj, L'kj, k'kj, n'kj⟩, -, X'kj, ⟨Lc'kj, hQ'kj, l'kj, y'kj, z'kj⟩, st'kj⟩ := X'k9.virtualBack hx (y := Y27) (z := Y27) hown (mvT hZ (qw hw 174 rfl)) (mvT hZ (qw hw 175 rfl)) (notFace_of_selects (args := #[]) (mvT hZ (qw hw 177 rfl))) (mvT hZ (qw hw 177 rfl)) (mvT hZ (qw hw 176 rfl)) (by decide) (backOf (W := 0) (rm_app4 l Z a0 hw [] b'1r (own_c x1) ca'2h ea'2h kc'2h ke'2h (own_c x0) (own_c x1) (own_c x0) (own_c x2) i_0 i_0 i_1 i_1 i_3 i_0 i_4 i_3 T'k9.heap n0 Z_kh G_ka G_kb G_kc G_kd G_ke G_kf G_kg ge_1w ge_2q ge_2w ne_2p ne_2v nab'2h (own_c_ok x1)) hZ (qw hw 178 rfl) (qw hw 46 rfl) (by decide) (by decide)) q'kja q'kjc (g := (mkF m 167 #[iv x0, iv x1, iv x2, iv x3, iv x4, iv (own_c x0), iv (own_c x1), iv (own_c x2), iv (own_c x3), iv i_3, iv i_2, iv (own_aft x4), rv b'0, rv b'm, rv b'w, rv b'1r, .unset, .unset, .unset] [(.int (own_c x1)), .ref b'1r])) rfl (by rw [hml]; rfl) (Steps.refl _) (argsL := [(.int (own_c x1))]) (rest := []) (lenOf own_pd25 rfl) rfl (Nat.le_of_eq rfl) (hb hby at_167) (fun _ _ => ⟨rfl, rfl, (by decide : 9 + 0 ≤ _), (by decide : 563 + 0 ≤ _)⟩)
    dsimp only [Pt.U, Pt.locs, Pt.cells, Pt.slots] at X'kj l'kj y'kj z'kj st'kj hQ'kj
    subst l'kj y'kj z'kj
    obtain ⟨rfl, Nq'kj, K'kj, G_kk, G_kl, G_km, G_kn, G_ko, G_kp, G_kq⟩ := hQ'kj
    have Z_kr : n0 ≤ T'kj.heap.size := Nat.le_trans Z_kh K'kj.1
    have KP_ks : Keep T'iz.heap T'kj.heap [b'1r, ca'2h, ea'2h] := KP_ki.trans K'kj (allS (Or.inl (List.mem_of_getElem? (i := 0) rfl)) (allS (Or.inl (List.mem_of_getElem? (i := 1) rfl)) all0))
    have N_kj := Fr.app N_k9 Nq'kj
    refine goo (fun _ k => st'kj.trans k) ?_
    refine goo (fun _ k => XS.pop X'kj.here hx rfl (hb hby at_170) rfl rfl <| XS.iload X'kj.here hx rfl (hb hby at_171) rfl <| XS.iconst X'kj.here hx rfl (hb hby at_173) k) ?_
    show own_G _ _ _ _ (T'kj.setTop (mkF m 174 #[iv x0, iv x1, iv x2, iv x3, iv x4, iv (own_c x0), iv (own_c x1), iv (own_c x2), iv (own_c x3), iv i_3, iv i_2, iv (own_aft x4), rv b'0, rv b'm, rv b'w, rv b'1r, .unset, .unset, .unset] [.int i_3, .int i_2]))
    refine goo (fun _ k => XS.icmpYes X'kj.here hx rfl (pc0 := 174) (pc' := 185) rfl (hb hby at_174) rfl ((tlt (by decide : i_2 < i_3)).1) (by decide) (by decide) <| XS.aload X'kj.here hx rfl (hb hby at_185) rfl rfl k) ?_
    obtain ⟨cq'kt, kq'kt, q'kta, q'ktb, q'ktc⟩ := isOf hZ rfl G_kk
    obtain ⟨_, _, ⟨T'kt, L'kt, k'kt, n'kt⟩, -, X'kt, ⟨Lc'kt, hQ'kt, l'kt, y'kt, z'kt⟩, st'kt⟩ := X'kj.virtualBack hx (y := Y31) (z := Y31) hown (mvT hZ (qw hw 66 rfl)) (mvT hZ (qw hw 67 rfl)) (notFace_of_selects (args := #[]) (mvT hZ (qw hw 69 rfl))) (mvT hZ (qw hw 69 rfl)) (mvT hZ (qw hw 68 rfl)) (by decide) (backOf (W := 0) (rm_dis3 l Z a0 hw [] b'1r ca'2h ea'2h kc'2h ke'2h (own_c x0) (own_c x1) (own_c x0) (own_c x2) (own_c x1) i_0 i_1 i_1 i_3 i_0 i_5 T'kj.heap n0 Z_kr G_kk G_kl G_km G_kn G_ko G_kp G_kq ge_1w ge_2q ge_2w ne_2p ne_2v nab'2h) hZ (qw hw 70 rfl) (qw hw 46 rfl) (by decide) (by decide)) q'kta q'ktc (g := (mkF m 187 #[iv x0, iv x1, iv x2, iv x3, iv x4, iv (own_c x0), iv (own_c x1), iv (own_c x2), iv (own_c x3), iv i_3, iv i_2, iv (own_aft x4), rv b'0, rv b'm, rv b'w, rv b'1r, .unset, .unset, .unset] [.ref b'1r])) rfl (by rw [hml]; rfl) (Steps.refl _) (argsL := []) (rest := []) (lenOf own_pd20 rfl) rfl (Nat.le_of_eq rfl) (hb hby at_187) (fun _ _ => ⟨rfl, rfl, (by decide : 9 + 0 ≤ _), (by decide : 563 + 0 ≤ _)⟩)
    dsimp only [Pt.U, Pt.locs, Pt.cells, Pt.slots] at X'kt l'kt y'kt z'kt st'kt hQ'kt
    subst l'kt y'kt z'kt
    obtain ⟨rfl, Nq'kt, K'kt, G_ku, G_kv, G_kw, G_kx, G_ky, G_kz, G_l0⟩ := hQ'kt
    have KP_l1 : Keep T'iz.heap T'kt.heap [b'1r, ca'2h, ea'2h] := KP_ks.trans K'kt (allS (Or.inl (List.mem_of_getElem? (i := 0) rfl)) all0)
    have N_kt := Fr.app N_kj Nq'kt
    refine goo (fun _ k => st'kt.trans k) ?_
    exact hj _ _ X'kt (by exact ⟨N_kt, KP_l1, G_ku, G_kv, G_kw, G_kx, G_ky, G_l0, _, _, _, G_kz⟩)
   ·rw [hq] at hj ⊢
    refine goo (fun _ k => XS.iload X'iz.here hx rfl (hb hby at_143) rfl <| XS.iconst X'iz.here hx rfl (hb hby at_145) <| XS.icmpNo X'iz.here hx rfl (hb hby at_146) rfl ((flt (by decide : ¬ (i_3 < i_1))).1) <| XS.aload X'iz.here hx rfl (hb hby at_149) rfl rfl k) ?_
    show own_G _ _ _ _ (T'iz.setTop (mkF m 151 #[iv x0, iv x1, iv x2, iv x3, iv x4, iv (own_c x0), iv (own_c x1), iv (own_c x2), iv (own_c x3), iv i_3, iv i_3, iv (own_aft x4), rv b'0, rv b'm, rv b'w, rv b'1r, .unset, .unset, .unset] [.ref b'1r]))
    refine goo (fun _ k => XS.iload X'iz.here hx rfl (hb hby at_151) rfl k) ?_
    obtain ⟨cq'l2, kq'l2, q'l2a, q'l2b, q'l2c⟩ := isOf hZ rfl G_j0
    obtain ⟨_, _, ⟨T'l2, L'l2, k'l2, n'l2⟩, -, X'l2, ⟨Lc'l2, hQ'l2, l'l2, y'l2, z'l2⟩, st'l2⟩ := X'iz.virtualBack hx (y := Y27) (z := Y27) hown (mvT hZ (qw hw 174 rfl)) (mvT hZ (qw hw 175 rfl)) (notFace_of_selects (args := #[]) (mvT hZ (qw hw 177 rfl))) (mvT hZ (qw hw 177 rfl)) (mvT hZ (qw hw 176 rfl)) (by decide) (backOf (W := 0) (rm_app3 l Z a0 hw [] b'1r (own_c x2) ca'2h ea'2h kc'2h ke'2h (own_c x0) (own_c x1) (own_c x0) i_0 i_0 i_0 i_1 i_1 i_3 i_0 i_3 i_3 T'iz.heap n0 Z_je G_j0 G_j1 G_j2 G_j3 G_j4 G_j5 G_j6 ge_1w ge_2q ge_2w ne_2p ne_2v nab'2h (own_c_ok x2)) hZ (qw hw 178 rfl) (qw hw 46 rfl) (by decide) (by decide)) q'l2a q'l2c (g := (mkF m 153 #[iv x0, iv x1, iv x2, iv x3, iv x4, iv (own_c x0), iv (own_c x1), iv (own_c x2), iv (own_c x3), iv i_3, iv i_3, iv (own_aft x4), rv b'0, rv b'm, rv b'w, rv b'1r, .unset, .unset, .unset] [(.int (own_c x2)), .ref b'1r])) rfl (by rw [hml]; rfl) (Steps.refl _) (argsL := [(.int (own_c x2))]) (rest := []) (lenOf own_pd25 rfl) rfl (Nat.le_of_eq rfl) (hb hby at_153) (fun _ _ => ⟨rfl, rfl, (by decide : 9 + 0 ≤ _), (by decide : 563 + 0 ≤ _)⟩)
    dsimp only [Pt.U, Pt.locs, Pt.cells, Pt.slots] at X'l2 l'l2 y'l2 z'l2 st'l2 hQ'l2
    subst l'l2 y'l2 z'l2
    obtain ⟨rfl, Nq'l2, K'l2, G_l3, G_l4, G_l5, G_l6, G_l7, G_l8, G_l9⟩ := hQ'l2
    have Z_la : n0 ≤ T'l2.heap.size := Nat.le_trans Z_je K'l2.1
    have KP_lb : Keep T'iz.heap T'l2.heap [b'1r, ca'2h, ea'2h] := (Keep.refl T'iz.heap [b'1r, ca'2h, ea'2h]).trans K'l2 (allS (Or.inl (List.mem_of_getElem? (i := 0) rfl)) (allS (Or.inl (List.mem_of_getElem? (i := 1) rfl)) all0))
    have N_l2 := Fr.app N_iz Nq'l2
    refine goo (fun _ k => st'l2.trans k) ?_
    refine goo (fun _ k => XS.pop X'l2.here hx rfl (hb hby at_156) rfl rfl <| XS.iload X'l2.here hx rfl (hb hby at_157) rfl <| XS.iconst X'l2.here hx rfl (hb hby at_159) <| XS.icmpNo X'l2.here hx rfl (hb hby at_160) rfl ((flt (by decide : ¬ (i_3 < i_2))).1) k) ?_
    show own_G _ _ _ _ (T'l2.setTop (mkF m 163 #[iv x0, iv x1, iv x2, iv x3, iv x4, iv (own_c x0), iv (own_c x1), iv (own_c x2), iv (own_c x3), iv i_3, iv i_3, iv (own_aft x4), rv b'0, rv b'm, rv b'w, rv b'1r, .unset, .unset, .unset] []))
    refine goo (fun _ k => XS.aload X'l2.here hx rfl (hb hby at_163) rfl rfl <| XS.iload X'l2.here hx rfl (hb hby at_165) rfl k) ?_
    obtain ⟨cq'lc, kq'lc, q'lca, q'lcb, q'lcc⟩ := isOf hZ rfl G_l3
    obtain ⟨_, _, ⟨T'lc, L'lc, k'lc, n'lc⟩, -, X'lc, ⟨Lc'lc, hQ'lc, l'lc, y'lc, z'lc⟩, st'lc⟩ := X'l2.virtualBack hx (y := Y27) (z := Y27) hown (mvT hZ (qw hw 174 rfl)) (mvT hZ (qw hw 175 rfl)) (notFace_of_selects (args := #[]) (mvT hZ (qw hw 177 rfl))) (mvT hZ (qw hw 177 rfl)) (mvT hZ (qw hw 176 rfl)) (by decide) (backOf (W := 0) (rm_app4 l Z a0 hw [] b'1r (own_c x1) ca'2h ea'2h kc'2h ke'2h (own_c x0) (own_c x1) (own_c x0) (own_c x2) i_0 i_0 i_1 i_1 i_3 i_0 i_4 i_3 T'l2.heap n0 Z_la G_l3 G_l4 G_l5 G_l6 G_l7 G_l8 G_l9 ge_1w ge_2q ge_2w ne_2p ne_2v nab'2h (own_c_ok x1)) hZ (qw hw 178 rfl) (qw hw 46 rfl) (by decide) (by decide)) q'lca q'lcc (g := (mkF m 167 #[iv x0, iv x1, iv x2, iv x3, iv x4, iv (own_c x0), iv (own_c x1), iv (own_c x2), iv (own_c x3), iv i_3, iv i_3, iv (own_aft x4), rv b'0, rv b'm, rv b'w, rv b'1r, .unset, .unset, .unset] [(.int (own_c x1)), .ref b'1r])) rfl (by rw [hml]; rfl) (Steps.refl _) (argsL := [(.int (own_c x1))]) (rest := []) (lenOf own_pd25 rfl) rfl (Nat.le_of_eq rfl) (hb hby at_167) (fun _ _ => ⟨rfl, rfl, (by decide : 9 + 0 ≤ _), (by decide : 563 + 0 ≤ _)⟩)
    dsimp only [Pt.U, Pt.locs, Pt.cells, Pt.slots] at X'lc l'lc y'lc z'lc st'lc hQ'lc
    subst l'lc y'lc z'lc
    obtain ⟨rfl, Nq'lc, K'lc, G_ld, G_le, G_lf, G_lg, G_lh, G_li, G_lj⟩ := hQ'lc
    have Z_lk : n0 ≤ T'lc.heap.size := Nat.le_trans Z_la K'lc.1
    have KP_ll : Keep T'iz.heap T'lc.heap [b'1r, ca'2h, ea'2h] := KP_lb.trans K'lc (allS (Or.inl (List.mem_of_getElem? (i := 0) rfl)) (allS (Or.inl (List.mem_of_getElem? (i := 1) rfl)) all0))
    have N_lc := Fr.app N_l2 Nq'lc
    refine goo (fun _ k => st'lc.trans k) ?_
    refine goo (fun _ k => XS.pop X'lc.here hx rfl (hb hby at_170) rfl rfl <| XS.iload X'lc.here hx rfl (hb hby at_171) rfl <| XS.iconst X'lc.here hx rfl (hb hby at_173) k) ?_
    show own_G _ _ _ _ (T'lc.setTop (mkF m 174 #[iv x0, iv x1, iv x2, iv x3, iv x4, iv (own_c x0), iv (own_c x1), iv (own_c x2), iv (own_c x3), iv i_3, iv i_3, iv (own_aft x4), rv b'0, rv b'm, rv b'w, rv b'1r, .unset, .unset, .unset] [.int i_3, .int i_3]))
    refine goo (fun _ k => XS.icmpNo X'lc.here hx rfl (hb hby at_174) rfl ((flt (by decide : ¬ (i_3 < i_3))).1) <| XS.aload X'lc.here hx rfl (hb hby at_177) rfl rfl <| XS.iload X'lc.here hx rfl (hb hby at_179) rfl k) ?_
    obtain ⟨cq'lm, kq'lm, q'lma, q'lmb, q'lmc⟩ := isOf hZ rfl G_ld
    obtain ⟨_, _, ⟨T'lm, L'lm, k'lm, n'lm⟩, -, X'lm, ⟨Lc'lm, hQ'lm, l'lm, y'lm, z'lm⟩, st'lm⟩ := X'lc.virtualBack hx (y := Y27) (z := Y27) hown (mvT hZ (qw hw 174 rfl)) (mvT hZ (qw hw 175 rfl)) (notFace_of_selects (args := #[]) (mvT hZ (qw hw 177 rfl))) (mvT hZ (qw hw 177 rfl)) (mvT hZ (qw hw 176 rfl)) (by decide) (backOf (W := 0) (rm_app5 l Z a0 hw [] b'1r (own_c x3) ca'2h ea'2h kc'2h ke'2h (own_c x0) (own_c x1) (own_c x0) (own_c x2) (own_c x1) i_0 i_1 i_1 i_3 i_0 i_5 i_3 T'lc.heap n0 Z_lk G_ld G_le G_lf G_lg G_lh G_li G_lj ge_1w ge_2q ge_2w ne_2p ne_2v nab'2h (own_c_ok x3)) hZ (qw hw 178 rfl) (qw hw 46 rfl) (by decide) (by decide)) q'lma q'lmc (g := (mkF m 181 #[iv x0, iv x1, iv x2, iv x3, iv x4, iv (own_c x0), iv (own_c x1), iv (own_c x2), iv (own_c x3), iv i_3, iv i_3, iv (own_aft x4), rv b'0, rv b'm, rv b'w, rv b'1r, .unset, .unset, .unset] [(.int (own_c x3)), .ref b'1r])) rfl (by rw [hml]; rfl) (Steps.refl _) (argsL := [(.int (own_c x3))]) (rest := []) (lenOf own_pd25 rfl) rfl (Nat.le_of_eq rfl) (hb hby at_181) (fun _ _ => ⟨rfl, rfl, (by decide : 9 + 0 ≤ _), (by decide : 563 + 0 ≤ _)⟩)
    dsimp only [Pt.U, Pt.locs, Pt.cells, Pt.slots] at X'lm l'lm y'lm z'lm st'lm hQ'lm
    subst l'lm y'lm z'lm
    obtain ⟨rfl, Nq'lm, K'lm, G_ln, G_lo, G_lp, G_lq, G_lr, G_ls, G_lt⟩ := hQ'lm
    have Z_lu : n0 ≤ T'lm.heap.size := Nat.le_trans Z_lk K'lm.1
    have KP_lv : Keep T'iz.heap T'lm.heap [b'1r, ca'2h, ea'2h] := KP_ll.trans K'lm (allS (Or.inl (List.mem_of_getElem? (i := 0) rfl)) (allS (Or.inl (List.mem_of_getElem? (i := 1) rfl)) all0))
    have N_lm := Fr.app N_lc Nq'lm
    refine goo (fun _ k => st'lm.trans k) ?_
    refine goo (fun _ k => XS.pop X'lm.here hx rfl (hb hby at_184) rfl rfl <| XS.aload X'lm.here hx rfl (hb hby at_185) rfl rfl k) ?_
    show own_G _ _ _ _ (T'lm.setTop (mkF m 187 #[iv x0, iv x1, iv x2, iv x3, iv x4, iv (own_c x0), iv (own_c x1), iv (own_c x2), iv (own_c x3), iv i_3, iv i_3, iv (own_aft x4), rv b'0, rv b'm, rv b'w, rv b'1r, .unset, .unset, .unset] [.ref b'1r]))
    obtain ⟨cq'lw, kq'lw, q'lwa, q'lwb, q'lwc⟩ := isOf hZ rfl G_ln
    obtain ⟨_, _, ⟨T'lw, L'lw, k'lw, n'lw⟩, -, X'lw, ⟨Lc'lw, hQ'lw, l'lw, y'lw, z'lw⟩, st'lw⟩ := X'lm.virtualBack hx (y := Y31) (z := Y31) hown (mvT hZ (qw hw 66 rfl)) (mvT hZ (qw hw 67 rfl)) (notFace_of_selects (args := #[]) (mvT hZ (qw hw 69 rfl))) (mvT hZ (qw hw 69 rfl)) (mvT hZ (qw hw 68 rfl)) (by decide) (backOf (W := 0) (rm_dis3 l Z a0 hw [] b'1r ca'2h ea'2h kc'2h ke'2h (own_c x0) (own_c x1) (own_c x0) (own_c x2) (own_c x1) (own_c x3) i_1 i_1 i_3 i_0 i_6 T'lm.heap n0 Z_lu G_ln G_lo G_lp G_lq G_lr G_ls G_lt ge_1w ge_2q ge_2w ne_2p ne_2v nab'2h) hZ (qw hw 70 rfl) (qw hw 46 rfl) (by decide) (by decide)) q'lwa q'lwc (g := (mkF m 187 #[iv x0, iv x1, iv x2, iv x3, iv x4, iv (own_c x0), iv (own_c x1), iv (own_c x2), iv (own_c x3), iv i_3, iv i_3, iv (own_aft x4), rv b'0, rv b'm, rv b'w, rv b'1r, .unset, .unset, .unset] [.ref b'1r])) rfl (by rw [hml]; rfl) (Steps.refl _) (argsL := []) (rest := []) (lenOf own_pd20 rfl) rfl (Nat.le_of_eq rfl) (hb hby at_187) (fun _ _ => ⟨rfl, rfl, (by decide : 9 + 0 ≤ _), (by decide : 563 + 0 ≤ _)⟩)
    dsimp only [Pt.U, Pt.locs, Pt.cells, Pt.slots] at X'lw l'lw y'lw z'lw st'lw hQ'lw
    subst l'lw y'lw z'lw
    obtain ⟨rfl, Nq'lw, K'lw, G_lx, G_ly, G_lz, G_m0, G_m1, G_m2, G_m3⟩ := hQ'lw
    have KP_m4 : Keep T'iz.heap T'lw.heap [b'1r, ca'2h, ea'2h] := KP_lv.trans K'lw (allS (Or.inl (List.mem_of_getElem? (i := 0) rfl)) all0)
    have N_lw := Fr.app N_lm Nq'lw
    refine goo (fun _ k => st'lw.trans k) ?_
    exact hj _ _ X'lw (by exact ⟨N_lw, KP_m4, G_lx, G_ly, G_lz, G_m0, G_m1, G_m3, _, _, _, G_m2⟩)
  obtain ⟨Nq'jg, K'jg, Xr'jg, Fa'jg, Fe'jg, Fl'jg, Fs'jg, Ve'jg, g0, g1, g2, Va'jg⟩ := hJ'jg
  have S_m5 := own_staKeep S_j7 K'jg (allS (own_nsX G_j0) (allS (own_nsV G_j5) (allS (own_nsV G_j6) all0)))
  have S_m6 := own_staKeep S_j8 K'jg (allS (own_nsX G_j0) (allS (own_nsV G_j5) (allS (own_nsV G_j6) all0)))
  have Old_m7 := Old_j9.keep K'jg (allS ge_1w (allS ge_2q (allS ge_2w all0)))
  have X_m8 := X_ja.keep K'jg
  have F_m9 := F_jb.keep K'jg (ninS ne_1u (ninS ne_2n (ninS ne_2t nin0)))
  have F_ma := F_jc.keep K'jg (ninS ne_1u (ninS ne_2n (ninS ne_2t nin0)))
  have V_mb := V_jd.keep K'jg (ninS ne_1v (ninS ne_2o (ninS ne_2u nin0)))
  have Z_mc : n0 ≤ T'jg.heap.size := Nat.le_trans Z_je K'jg.1
  have hk_md := Nat.le_trans hk_jf K'jg.1
  refine goo (fun _ k => XS.iload X'jg.here hx rfl (hb hby at_190) rfl k) ?_
  by_cases hc192_3413 : (own_aft x4) = i_0
  ·refine goo (fun _ k => XS.ifYes X'jg.here hx rfl (pc0 := 192) (pc' := 203) rfl (hb hby at_192) rfl (((if0 _ _).trans (teq hc192_3413).1)) (by decide) (by decide) k) ?_
   refine goo (fun _ k => XS.aload X'jg.here hx rfl (hb hby at_203) rfl rfl k) ?_
   obtain ⟨cq'me, kq'me, q'mea, q'meb, q'mec⟩ := isOf hZ rfl Xr'jg
   obtain ⟨_, _, ⟨T'me, L'me, k'me, n'me⟩, -, X'me, ⟨Lc'me, hQ'me, l'me, y'me, z'me⟩, st'me⟩ := X'jg.virtualBack hx (y := Y26) (z := Y26) hown (mvT hZ (qw hw 75 rfl)) (mvT hZ (qw hw 76 rfl)) (notFace_of_selects (args := #[]) (mvT hZ (qw hw 78 rfl))) (mvT hZ (qw hw 78 rfl)) (mvT hZ (qw hw 77 rfl)) (by decide) (backOf (W := 0) (rm_end3 l Z a0 hw [] b'1r ca'2h ea'2h kc'2h ke'2h (own_c x0) (own_c x1) (own_c x0) g0 g1 g2 i_1 i_1 i_3 i_0 i_3 T'jg.heap n0 Z_mc Xr'jg Fa'jg Fe'jg Fl'jg Fs'jg Va'jg Ve'jg ge_1w ge_2q ge_2w ne_2p ne_2v nab'2h) hZ (qw hw 79 rfl) (qw hw 46 rfl) (by decide) (by decide)) q'mea q'mec (g := (mkF m 205 #[iv x0, iv x1, iv x2, iv x3, iv x4, iv (own_c x0), iv (own_c x1), iv (own_c x2), iv (own_c x3), iv i_3, iv (own_pend x4), iv (own_aft x4), rv b'0, rv b'm, rv b'w, rv b'1r, .unset, .unset, .unset] [.ref b'1r])) rfl (by rw [hml]; rfl) (Steps.refl _) (argsL := []) (rest := []) (lenOf own_pd20 rfl) rfl (Nat.le_of_eq rfl) (hb hby at_205) (fun _ _ => ⟨rfl, rfl, (by decide : 9 + 0 ≤ _), (by decide : 563 + 0 ≤ _)⟩)
   dsimp only [Pt.U, Pt.locs, Pt.cells, Pt.slots] at X'me l'me y'me z'me st'me hQ'me
   subst l'me y'me z'me
   obtain ⟨rfl, Nq'me, K'me, G_mf, G_mg, G_mh, G_mi, G_mj, G_mk, G_ml⟩ := hQ'me
   have S_mm := own_staKeep S_m5 K'me (allS (own_nsX Xr'jg) (allS (own_nsV Ve'jg) all0))
   have S_mn := own_staKeep S_m6 K'me (allS (own_nsX Xr'jg) (allS (own_nsV Ve'jg) all0))
   have Old_mo := Old_m7.keep K'me (allS ge_1w (allS ge_2w all0))
   have X_mp := X_m8.keep K'me
   have F_mq := F_m9.keep K'me (ninS ne_1u (ninS ne_2t nin0))
   have F_mr := F_ma.keep K'me (ninS ne_1u (ninS ne_2t nin0))
   have V_ms := V_mb.keep K'me (ninS ne_1v (ninS ne_2u nin0))
   have Z_mt : n0 ≤ T'me.heap.size := Nat.le_trans Z_mc K'me.1
   have hk_mu := Nat.le_trans hk_md K'me.1
   have N_me := Fr.app Nq'jg Nq'me
   refine goo (fun _ k => st'me.trans k) ?_
   show own_G _ _ _ _ (T'me.setTop (mkF m 208 #[iv x0, iv x1, iv x2, iv x3, iv x4, iv (own_c x0), iv (own_c x1), iv (own_c x2), iv (own_c x3), iv i_3, iv (own_pend x4), iv (own_aft x4), rv b'0, rv b'm, rv b'w, rv b'1r, .unset, .unset, .unset] []))
   refine goo (fun _ k => XS.iload X'me.here hx rfl (hb hby at_208) rfl <| XS.ifYes X'me.here hx rfl (pc0 := 210) (pc' := 217) rfl (hb hby at_210) rfl (((if0 _ _).trans (teq hc192_3413).1)) (by decide) (by decide) <| XS.iconst X'me.here hx rfl (hb hby at_217) <| XS.istore X'me.here hx rfl (hb hby at_218) rfl (l' := #[iv x0, iv x1, iv x2, iv x3, iv x4, iv (own_c x0), iv (own_c x1), iv (own_c x2), iv (own_c x3), iv i_3, iv (own_pend x4), iv (own_aft x4), rv b'0, rv b'm, rv b'w, rv b'1r, iv i_0, .unset, .unset]) rfl k) ?_
   refine goo (fun _ k => XS.aload X'me.here hx rfl (hb hby at_220) rfl rfl k) ?_
   obtain ⟨T'mv, X'mv, e'mv, st'mv⟩ := own_callV X'me hx hZ (y := Y32) hown (qw hw 80 rfl) (qw hw 81 rfl) (qw hw 83 rfl) (qw hw 82 rfl) (qw hw 46 rfl) (qw hw 84 rfl) (by decide) (W := 0) (rm15 l Z a0 hw [] b'1r i_4 T'me.heap G_mj) (by decide) (by decide) rfl rfl rfl G_mf (g := (mkF m 222 #[iv x0, iv x1, iv x2, iv x3, iv x4, iv (own_c x0), iv (own_c x1), iv (own_c x2), iv (own_c x3), iv i_3, iv (own_pend x4), iv (own_aft x4), rv b'0, rv b'm, rv b'w, rv b'1r, iv i_0, .unset, .unset] [.ref b'1r])) rfl (by rw [hml]; rfl) (argsL := []) (rest := []) (lenOf own_pd18 rfl) rfl rfl (Nat.le_of_eq rfl) (hb hby at_222) (by decide) (by decide)
   refine goo st'mv ?_
   show own_G _ _ _ _ (T'mv.setTop (mkF m 225 #[iv x0, iv x1, iv x2, iv x3, iv x4, iv (own_c x0), iv (own_c x1), iv (own_c x2), iv (own_c x3), iv i_3, iv (own_pend x4), iv (own_aft x4), rv b'0, rv b'm, rv b'w, rv b'1r, iv i_0, .unset, .unset] [.int i_4]))
   refine goo (fun _ k => XS.iload X'mv.here hx rfl (hb hby at_225) rfl <| XS.iconst X'mv.here hx rfl (hb hby at_227) <| XS.iadd X'mv.here hx rfl (hb hby at_228) rfl <| XS.icmpYes X'mv.here hx rfl (pc0 := 229) (pc' := 234) rfl (hb hby at_229) rfl ((teq (by decide : i_4 = i_4)).1) (by decide) (by decide) k) ?_
   refine goo (fun _ k => XS.aload X'mv.here hx rfl (hb hby at_234) rfl rfl <| XS.iload X'mv.here hx rfl (hb hby at_236) rfl k) ?_
   show own_G _ _ _ _ (T'mv.setTop (mkF m 238 #[iv x0, iv x1, iv x2, iv x3, iv x4, iv (own_c x0), iv (own_c x1), iv (own_c x2), iv (own_c x3), iv i_3, iv (own_pend x4), iv (own_aft x4), rv b'0, rv b'm, rv b'w, rv b'1r, iv i_0, .unset, .unset] [.int i_3, .ref b'1r]))
   obtain ⟨T'mw, X'mw, e'mw, st'mw⟩ := own_callV X'mv hx hZ (y := Y35) hown (qw hw 85 rfl) (qw hw 86 rfl) (qw hw 88 rfl) (qw hw 87 rfl) (qw hw 46 rfl) (qw hw 89 rfl) (by decide) (W := 0) (rm_ln30 l Z a0 hw [] b'1r ea'2h ke'2h  T'me.heap G_mf G_mj G_mh G_ml) (by decide) (by decide) rfl rfl e'mv G_mf (g := (mkF m 238 #[iv x0, iv x1, iv x2, iv x3, iv x4, iv (own_c x0), iv (own_c x1), iv (own_c x2), iv (own_c x3), iv i_3, iv (own_pend x4), iv (own_aft x4), rv b'0, rv b'm, rv b'w, rv b'1r, iv i_0, .unset, .unset] [.int i_3, .ref b'1r])) rfl (by rw [hml]; rfl) (argsL := [.int i_3]) (rest := []) (lenOf own_pd21 rfl) rfl rfl (Nat.le_of_eq rfl) (hb hby at_238) (by decide) (by decide)
   refine goo st'mw ?_
   refine goo (fun _ k => XS.iload X'mw.here hx rfl (hb hby at_241) rfl <| XS.icmpYes X'mw.here hx rfl (pc0 := 243) (pc' := 248) rfl (hb hby at_243) rfl ((teq (by decide : i_0 = i_0)).1) (by decide) (by decide) <| XS.aload X'mw.here hx rfl (hb hby at_248) rfl rfl <| XS.iload X'mw.here hx rfl (hb hby at_250) rfl k) ?_
   obtain ⟨cq'mx, kq'mx, q'mxa, q'mxb, q'mxc⟩ := isOf hZ e'mw G_mf
   obtain ⟨_, _, ⟨T'mx, L'mx, k'mx, n'mx⟩, -, X'mx, hSn, hgr, ⟨Lc'mx, hQ'mx, l'mx, y'mx, z'mx⟩, st'mx⟩ := X'mw.virtualBackS hx (y := Y36) (z := Y36) hown (mvT hZ (qw hw 100 rfl)) (mvT hZ (qw hw 101 rfl)) (notFace_of_selects (args := #[]) (mvT hZ (qw hw 103 rfl))) (mvT hZ (qw hw 103 rfl)) (mvT hZ (qw hw 102 rfl)) (by decide) (own_backI (W := 0) (rm_va30_3 l Z a0 hw [] b'1r ca'2h ea'2h kc'2h ke'2h (own_c x0) (own_c x1) (own_c x0) g0 g1 g2  cz fz T'me.heap n0 Z_mt G_mf G_mg G_mh G_mj G_mk G_ml S_mm hcz S_mn Old_mo held hcw hfz) hZ hI (qw hw 104 rfl) (qw hw 46 rfl) (by decide) (by decide)) q'mxa q'mxc (g := (mkF m 252 #[iv x0, iv x1, iv x2, iv x3, iv x4, iv (own_c x0), iv (own_c x1), iv (own_c x2), iv (own_c x3), iv i_3, iv (own_pend x4), iv (own_aft x4), rv b'0, rv b'm, rv b'w, rv b'1r, iv i_0, .unset, .unset] [.int i_3, .ref b'1r])) rfl (by rw [hml]; rfl) (Steps.refl _) (argsL := [.int i_3]) (rest := []) (lenOf own_pd26 rfl) rfl (Nat.le_of_eq rfl) (hb hby at_252) (fun _ _ => ⟨rfl, e'mw, (by decide : 9 + 3 ≤ _), (by decide : 563 + 8 ≤ _)⟩)
   dsimp only [Pt.U, Pt.locs, Pt.cells, Pt.slots] at X'mx l'mx y'mx z'mx st'mx hQ'mx hSn hgr
   subst l'mx y'mx z'mx
   obtain ⟨b'mx, rfl, Nq'mx, K'mx, gz'mx, G_my, G_mz, qx'mx⟩ := hQ'mx
   obtain ⟨vb'mx, kv'mx, Fv'mx, Vv'mx⟩ := qx'mx
   have hS := foldS (s := s) hS (by rw [e'mw]; exact hk_mu) hSn hgr
   have hZ := State.Warmed39.trans (t := s) hZ hSn.1
   have hown : (s.setVm T'mx.vm).vm.findClass s_4 = some m.cls := by rw [show (s.setVm T'mx.vm).vm = T'mx.vm from rfl, hSn.1.alike.findClass]; exact hown
   have S_n0 := own_staKeep S_mm K'mx all0
   have S_n1 := own_staKeep S_mn K'mx all0
   have X_n2 := X_mp.keep K'mx
   have F_n3 := F_mq.keep K'mx nin0
   have F_n4 := F_mr.keep K'mx nin0
   have V_n5 := V_ms.keep K'mx nin0
   have X_n6 := G_mf.keep K'mx
   have V_n7 := G_mk.keep K'mx nin0
   have F_n8 := G_mg.keep K'mx nin0
   have F_n9 := G_mh.keep K'mx nin0
   have F_na := G_mj.keep K'mx nin0
   have V_nb := G_ml.keep K'mx nin0
   have Z_nc : n0 ≤ T'mx.heap.size := Nat.le_trans Z_mt K'mx.1
   have hk'mx : T'mx.heap.size ≤ T'mx.heap.size := Nat.le_refl _
   have N_mx := Fr.app N_me Nq'mx
   have X'mx : Stand p l e _ (s.setVm T'mx.vm) m _ below meth c T'mx _ _ _ := X'mx
   refine goo (fun _ k => st'mx.trans k) ?_
   show own_G _ _ _ _ (T'mx.setTop (mkF m 255 #[iv x0, iv x1, iv x2, iv x3, iv x4, iv (own_c x0), iv (own_c x1), iv (own_c x2), iv (own_c x3), iv i_3, iv (own_pend x4), iv (own_aft x4), rv b'0, rv b'm, rv b'w, rv b'1r, iv i_0, .unset, .unset] [.ref b'mx]))
   refine goo (fun _ k => XS.astore X'mx.here hx rfl (hb hby at_255) rfl rfl (l' := #[iv x0, iv x1, iv x2, iv x3, iv x4, iv (own_c x0), iv (own_c x1), iv (own_c x2), iv (own_c x3), iv i_3, iv (own_pend x4), iv (own_aft x4), rv b'0, rv b'm, rv b'w, rv b'1r, iv i_0, rv b'mx, .unset]) rfl <| XS.iload X'mx.here hx rfl (hb hby at_257) rfl <| XS.ifYes X'mx.here hx rfl (pc0 := 259) (pc' := 275) rfl (hb hby at_259) rfl (((if0 _ _).trans (teq hc192_3413).1)) (by decide) (by decide) <| XS.aload X'mx.here hx rfl (hb hby at_275) rfl rfl k) ?_
   obtain ⟨T'nd, X'nd, e'nd, st'nd⟩ := own_callV X'mx hx hZ (y := Y13) hown (qw hw 123 rfl) (qw hw 124 rfl) (qw hw 126 rfl) (qw hw 125 rfl) (qw hw 3 rfl) (qw hw 127 rfl) (by decide) (W := 0) (rm24 l Z a0 hw [] b'mx vb'mx kv'mx T'mx.heap Fv'mx Vv'mx) (by decide) (by decide) rfl rfl rfl G_my (g := (mkF m 277 #[iv x0, iv x1, iv x2, iv x3, iv x4, iv (own_c x0), iv (own_c x1), iv (own_c x2), iv (own_c x3), iv i_3, iv (own_pend x4), iv (own_aft x4), rv b'0, rv b'm, rv b'w, rv b'1r, iv i_0, rv b'mx, .unset] [.ref b'mx])) rfl (by rw [hml]; rfl) (argsL := []) (rest := []) (lenOf own_pd5 rfl) rfl rfl (Nat.le_of_eq rfl) (hb hby at_277) (by decide) (by decide)
   refine goo st'nd ?_
   refine goo (fun _ k => XS.istore X'nd.here hx rfl (hb hby at_280) rfl (l' := #[iv x0, iv x1, iv x2, iv x3, iv x4, iv (own_c x0), iv (own_c x1), iv (own_c x2), iv (own_c x3), iv i_3, iv (own_pend x4), iv (own_aft x4), rv b'0, rv b'm, rv b'w, rv b'1r, iv i_0, rv b'mx, iv i_1]) rfl k) ?_
   show own_G _ _ _ _ (T'nd.setTop (mkF m 282 #[iv x0, iv x1, iv x2, iv x3, iv x4, iv (own_c x0), iv (own_c x1), iv (own_c x2), iv (own_c x3), iv i_3, iv (own_pend x4), iv (own_aft x4), rv b'0, rv b'm, rv b'w, rv b'1r, iv i_0, rv b'mx, iv i_1] []))
   refine goo (fun _ k => XS.iload X'nd.here hx rfl (hb hby at_282) rfl <| XS.ifYes X'nd.here hx rfl (pc0 := 284) (pc' := 289) rfl (hb hby at_284) rfl (((if0 _ _).trans (feq (by decide : ¬ (i_1 = i_0))).2)) (by decide) (by decide) <| XS.iload X'nd.here hx rfl (hb hby at_289) rfl <| XS.iconst X'nd.here hx rfl (hb hby at_291) k) ?_
   refine goo (fun _ k => XS.icmpNo X'nd.here hx rfl (hb hby at_292) rfl ((teq (by decide : i_3 = i_3)).2) <| XS.aload X'nd.here hx rfl (hb hby at_295) rfl rfl k) ?_
   show own_G _ _ _ _ (T'nd.setTop (mkF m 297 #[iv x0, iv x1, iv x2, iv x3, iv x4, iv (own_c x0), iv (own_c x1), iv (own_c x2), iv (own_c x3), iv i_3, iv (own_pend x4), iv (own_aft x4), rv b'0, rv b'm, rv b'w, rv b'1r, iv i_0, rv b'mx, iv i_1] [.ref b'1r]))
   refine goo (fun _ k => XS.iconst X'nd.here hx rfl (hb hby at_297) k) ?_
   obtain ⟨cq'ne, kq'ne, q'nea, q'neb, q'nec⟩ := isOf hZ e'nd X_n6
   obtain ⟨_, _, ⟨T'ne, L'ne, k'ne, n'ne⟩, -, X'ne, ⟨Lc'ne, hQ'ne, l'ne, y'ne, z'ne⟩, st'ne⟩ := X'nd.virtualBack hx (y := Y36) (z := Y36) hown (mvT hZ (qw hw 100 rfl)) (mvT hZ (qw hw 101 rfl)) (notFace_of_selects (args := #[]) (mvT hZ (qw hw 103 rfl))) (mvT hZ (qw hw 103 rfl)) (mvT hZ (qw hw 102 rfl)) (by decide) (backOf (W := 0) (rm_va30_2 l Z a0 hw [] b'1r ca'2h ea'2h kc'2h ke'2h (own_c x0) (own_c x1) (own_c x0) g0 g1 g2  cz fz T'mx.heap n0 Z_nc X_n6 F_n8 F_n9 F_na V_n7 V_nb S_n0 hcz S_n1 (own_c_ok x1) (own_c_ok x0) hfz) hZ (qw hw 104 rfl) (qw hw 46 rfl) (by decide) (by decide)) q'nea q'nec (g := (mkF m 298 #[iv x0, iv x1, iv x2, iv x3, iv x4, iv (own_c x0), iv (own_c x1), iv (own_c x2), iv (own_c x3), iv i_3, iv (own_pend x4), iv (own_aft x4), rv b'0, rv b'm, rv b'w, rv b'1r, iv i_0, rv b'mx, iv i_1] [.int i_2, .ref b'1r])) rfl (by rw [hml]; rfl) (Steps.refl _) (argsL := [.int i_2]) (rest := []) (lenOf own_pd26 rfl) rfl (Nat.le_of_eq rfl) (hb hby at_298) (fun _ _ => ⟨rfl, e'nd, (by decide : 12 + 2 ≤ _), (by decide : 571 + 6 ≤ _)⟩)
   dsimp only [Pt.U, Pt.locs, Pt.cells, Pt.slots] at X'ne l'ne y'ne z'ne st'ne hQ'ne
   subst l'ne y'ne z'ne
   obtain ⟨b'ne, rfl, Nq'ne, K'ne, gz'ne, G_nf, G_ng, qx'ne⟩ := hQ'ne
   have ne_nh : b'w ≠ b'ne := Nat.ne_of_lt (Nat.lt_of_lt_of_le X_n2.lt gz'ne)
   obtain ⟨vb'ne, kv'ne, gv'ne, Fv'ne, Vv'ne⟩ := qx'ne
   have S_ni := own_staKeep S_n0 K'ne all0
   have X_nj := X_n2.keep K'ne
   have F_nk := F_n3.keep K'ne nin0
   have F_nl := F_n4.keep K'ne nin0
   have V_nm := V_n5.keep K'ne nin0
   have hk_nn := Nat.le_trans hk'mx K'ne.1
   have N_ne := Fr.app N_mx Nq'ne
   refine goo (fun _ k => st'ne.trans k) ?_
   refine goo (fun _ k => XS.aload X'ne.here hx rfl (hb hby at_301) rfl rfl k) ?_
   obtain ⟨T'no, X'no, e'no, st'no⟩ := own_callV X'ne hx hZ (y := Y12) hown (qw hw 179 rfl) (qw hw 180 rfl) (qw hw 182 rfl) (qw hw 181 rfl) (qw hw 3 rfl) (qw hw 183 rfl) (by decide) (W := 0) (rm_eq2 l Z a0 hw [] b'ne b'w cz vb'ne vb'1e kv'ne kv'1e (own_by (own_c x1)) (own_by (own_c x0)) T'ne.heap S_ni hcz G_ng Fv'ne Vv'ne F_nk F_nl V_nm X_nj (Ne.symm ne_nh)) (by decide) (by decide) rfl rfl rfl G_nf (g := (mkF m 303 #[iv x0, iv x1, iv x2, iv x3, iv x4, iv (own_c x0), iv (own_c x1), iv (own_c x2), iv (own_c x3), iv i_3, iv (own_pend x4), iv (own_aft x4), rv b'0, rv b'm, rv b'w, rv b'1r, iv i_0, rv b'mx, iv i_1] [.ref b'w, .ref b'ne])) rfl (by rw [hml]; rfl) (argsL := [.ref b'w]) (rest := []) (lenOf own_pd27 rfl) rfl rfl (Nat.le_of_eq rfl) (hb hby at_303) (by decide) (by decide)
   refine goo st'no ?_
   refine goo (fun _ k => XS.ifYes X'no.here hx rfl (pc0 := 306) (pc' := 311) rfl (hb hby at_306) rfl (((if0 _ _).trans (feq (by decide : ¬ (i_1 = i_0))).2)) (by decide) (by decide) <| XS.iconst X'no.here hx rfl (hb hby at_311) k) ?_
   show own_G _ _ _ _ (T'no.setTop (mkF m 312 #[iv x0, iv x1, iv x2, iv x3, iv x4, iv (own_c x0), iv (own_c x1), iv (own_c x2), iv (own_c x3), iv i_3, iv (own_pend x4), iv (own_aft x4), rv b'0, rv b'm, rv b'w, rv b'1r, iv i_0, rv b'mx, iv i_1] [.int i_1]))
   exact own_endW X'no Bd.notSynchronized hS (by rw [e'no]; exact hk_nn) (v := some (.int (nar .boolean i_1))) (fun h => by rw [Bd.returns] at h; cases h) (Q := QL (some (.int i_1)) n0) ⟨rfl, N_ne⟩ (fun fs hr => retN X'no hx (t := .boolean) Bd.returns (by simp) (hb hby at_312) hr) (by decide) (by decide)
  ·refine goo (fun _ k => XS.ifNo X'jg.here hx rfl (hb hby at_192) rfl (((if0 _ _).trans (feq hc192_3413).1)) k) ?_
   refine goo (fun _ k => XS.aload X'jg.here hx rfl (hb hby at_195) rfl rfl <| XS.iload X'jg.here hx rfl (hb hby at_197) rfl k) ?_
   show own_G _ _ _ _ (T'jg.setTop (mkF m 199 #[iv x0, iv x1, iv x2, iv x3, iv x4, iv (own_c x0), iv (own_c x1), iv (own_c x2), iv (own_c x3), iv i_3, iv (own_pend x4), iv (own_aft x4), rv b'0, rv b'm, rv b'w, rv b'1r, .unset, .unset, .unset] [(.int (own_c x3)), .ref b'1r]))
   obtain ⟨cq'np, kq'np, q'npa, q'npb, q'npc⟩ := isOf hZ rfl Xr'jg
   obtain ⟨_, _, ⟨T'np, L'np, k'np, n'np⟩, -, X'np, ⟨Lc'np, hQ'np, l'np, y'np, z'np⟩, st'np⟩ := X'jg.virtualBack hx (y := Y27) (z := Y27) hown (mvT hZ (qw hw 174 rfl)) (mvT hZ (qw hw 175 rfl)) (notFace_of_selects (args := #[]) (mvT hZ (qw hw 177 rfl))) (mvT hZ (qw hw 177 rfl)) (mvT hZ (qw hw 176 rfl)) (by decide) (backOf (W := 0) (rm_app3 l Z a0 hw [] b'1r (own_c x3) ca'2h ea'2h kc'2h ke'2h (own_c x0) (own_c x1) (own_c x0) g0 g1 g2 i_1 i_1 i_3 i_0 i_3 i_3 T'jg.heap n0 Z_mc Xr'jg Fa'jg Fe'jg Fl'jg Fs'jg Va'jg Ve'jg ge_1w ge_2q ge_2w ne_2p ne_2v nab'2h (own_c_ok x3)) hZ (qw hw 178 rfl) (qw hw 46 rfl) (by decide) (by decide)) q'npa q'npc (g := (mkF m 199 #[iv x0, iv x1, iv x2, iv x3, iv x4, iv (own_c x0), iv (own_c x1), iv (own_c x2), iv (own_c x3), iv i_3, iv (own_pend x4), iv (own_aft x4), rv b'0, rv b'm, rv b'w, rv b'1r, .unset, .unset, .unset] [(.int (own_c x3)), .ref b'1r])) rfl (by rw [hml]; rfl) (Steps.refl _) (argsL := [(.int (own_c x3))]) (rest := []) (lenOf own_pd25 rfl) rfl (Nat.le_of_eq rfl) (hb hby at_199) (fun _ _ => ⟨rfl, rfl, (by decide : 9 + 0 ≤ _), (by decide : 563 + 0 ≤ _)⟩)
   dsimp only [Pt.U, Pt.locs, Pt.cells, Pt.slots] at X'np l'np y'np z'np st'np hQ'np
   subst l'np y'np z'np
   obtain ⟨rfl, Nq'np, K'np, G_nq, G_nr, G_ns, G_nt, G_nu, G_nv, G_nw⟩ := hQ'np
   have S_nx := own_staKeep S_m5 K'np (allS (own_nsX Xr'jg) (allS (own_nsV Va'jg) all0))
   have S_ny := own_staKeep S_m6 K'np (allS (own_nsX Xr'jg) (allS (own_nsV Va'jg) all0))
   have X_nz := X_m8.keep K'np
   have F_o0 := F_m9.keep K'np (ninS ne_1u (ninS ne_2n nin0))
   have F_o1 := F_ma.keep K'np (ninS ne_1u (ninS ne_2n nin0))
   have V_o2 := V_mb.keep K'np (ninS ne_1v (ninS ne_2o nin0))
   have Z_o3 : n0 ≤ T'np.heap.size := Nat.le_trans Z_mc K'np.1
   have hk_o4 := Nat.le_trans hk_md K'np.1
   have N_np := Fr.app Nq'jg Nq'np
   refine goo (fun _ k => st'np.trans k) ?_
   refine goo (fun _ k => XS.pop X'np.here hx rfl (hb hby at_202) rfl rfl <| XS.aload X'np.here hx rfl (hb hby at_203) rfl rfl k) ?_
   obtain ⟨cq'o5, kq'o5, q'o5a, q'o5b, q'o5c⟩ := isOf hZ rfl G_nq
   obtain ⟨_, _, ⟨T'o5, L'o5, k'o5, n'o5⟩, -, X'o5, ⟨Lc'o5, hQ'o5, l'o5, y'o5, z'o5⟩, st'o5⟩ := X'np.virtualBack hx (y := Y26) (z := Y26) hown (mvT hZ (qw hw 75 rfl)) (mvT hZ (qw hw 76 rfl)) (notFace_of_selects (args := #[]) (mvT hZ (qw hw 78 rfl))) (mvT hZ (qw hw 78 rfl)) (mvT hZ (qw hw 77 rfl)) (by decide) (backOf (W := 0) (rm_end3 l Z a0 hw [] b'1r ca'2h ea'2h kc'2h ke'2h (own_c x0) (own_c x1) (own_c x0) (own_c x3) g1 g2 i_1 i_1 i_3 i_0 i_4 T'np.heap n0 Z_o3 G_nq G_nr G_ns G_nt G_nu G_nv G_nw ge_1w ge_2q ge_2w ne_2p ne_2v nab'2h) hZ (qw hw 79 rfl) (qw hw 46 rfl) (by decide) (by decide)) q'o5a q'o5c (g := (mkF m 205 #[iv x0, iv x1, iv x2, iv x3, iv x4, iv (own_c x0), iv (own_c x1), iv (own_c x2), iv (own_c x3), iv i_3, iv (own_pend x4), iv (own_aft x4), rv b'0, rv b'm, rv b'w, rv b'1r, .unset, .unset, .unset] [.ref b'1r])) rfl (by rw [hml]; rfl) (Steps.refl _) (argsL := []) (rest := []) (lenOf own_pd20 rfl) rfl (Nat.le_of_eq rfl) (hb hby at_205) (fun _ _ => ⟨rfl, rfl, (by decide : 9 + 0 ≤ _), (by decide : 563 + 0 ≤ _)⟩)
   dsimp only [Pt.U, Pt.locs, Pt.cells, Pt.slots] at X'o5 l'o5 y'o5 z'o5 st'o5 hQ'o5
   subst l'o5 y'o5 z'o5
   obtain ⟨rfl, Nq'o5, K'o5, G_o6, G_o7, G_o8, G_o9, G_oa, G_ob, G_oc⟩ := hQ'o5
   have S_od := own_staKeep S_nx K'o5 (allS (own_nsX G_nq) (allS (own_nsV G_nw) all0))
   have S_oe := own_staKeep S_ny K'o5 (allS (own_nsX G_nq) (allS (own_nsV G_nw) all0))
   have X_of := X_nz.keep K'o5
   have F_og := F_o0.keep K'o5 (ninS ne_1u (ninS ne_2t nin0))
   have F_oh := F_o1.keep K'o5 (ninS ne_1u (ninS ne_2t nin0))
   have V_oi := V_o2.keep K'o5 (ninS ne_1v (ninS ne_2u nin0))
   have Z_oj : n0 ≤ T'o5.heap.size := Nat.le_trans Z_o3 K'o5.1
   have hk_ok := Nat.le_trans hk_o4 K'o5.1
   have N_o5 := Fr.app N_np Nq'o5
   refine goo (fun _ k => st'o5.trans k) ?_
   refine goo (fun _ k => XS.iload X'o5.here hx rfl (hb hby at_208) rfl <| XS.ifNo X'o5.here hx rfl (hb hby at_210) rfl (((if0 _ _).trans (feq hc192_3413).1)) k) ?_
   show own_G _ _ _ _ (T'o5.setTop (mkF m 213 #[iv x0, iv x1, iv x2, iv x3, iv x4, iv (own_c x0), iv (own_c x1), iv (own_c x2), iv (own_c x3), iv i_3, iv (own_pend x4), iv (own_aft x4), rv b'0, rv b'm, rv b'w, rv b'1r, .unset, .unset, .unset] []))
   refine goo (fun _ k => XS.iconst X'o5.here hx rfl (hb hby at_213) <| XS.goto X'o5.here hx rfl (pc0 := 214) (pc' := 218) rfl (hb hby at_214) (by decide) (by decide) <| XS.istore X'o5.here hx rfl (hb hby at_218) rfl (l' := #[iv x0, iv x1, iv x2, iv x3, iv x4, iv (own_c x0), iv (own_c x1), iv (own_c x2), iv (own_c x3), iv i_3, iv (own_pend x4), iv (own_aft x4), rv b'0, rv b'm, rv b'w, rv b'1r, iv i_1, .unset, .unset]) rfl <| XS.aload X'o5.here hx rfl (hb hby at_220) rfl rfl k) ?_
   obtain ⟨T'ol, X'ol, e'ol, st'ol⟩ := own_callV X'o5 hx hZ (y := Y32) hown (qw hw 80 rfl) (qw hw 81 rfl) (qw hw 83 rfl) (qw hw 82 rfl) (qw hw 46 rfl) (qw hw 84 rfl) (by decide) (W := 0) (rm15 l Z a0 hw [] b'1r i_4 T'o5.heap G_oa) (by decide) (by decide) rfl rfl rfl G_o6 (g := (mkF m 222 #[iv x0, iv x1, iv x2, iv x3, iv x4, iv (own_c x0), iv (own_c x1), iv (own_c x2), iv (own_c x3), iv i_3, iv (own_pend x4), iv (own_aft x4), rv b'0, rv b'm, rv b'w, rv b'1r, iv i_1, .unset, .unset] [.ref b'1r])) rfl (by rw [hml]; rfl) (argsL := []) (rest := []) (lenOf own_pd18 rfl) rfl rfl (Nat.le_of_eq rfl) (hb hby at_222) (by decide) (by decide)
   refine goo st'ol ?_
   refine goo (fun _ k => XS.iload X'ol.here hx rfl (hb hby at_225) rfl k) ?_
   show own_G _ _ _ _ (T'ol.setTop (mkF m 227 #[iv x0, iv x1, iv x2, iv x3, iv x4, iv (own_c x0), iv (own_c x1), iv (own_c x2), iv (own_c x3), iv i_3, iv (own_pend x4), iv (own_aft x4), rv b'0, rv b'm, rv b'w, rv b'1r, iv i_1, .unset, .unset] [.int i_3, .int i_4]))
   refine goo (fun _ k => XS.iconst X'ol.here hx rfl (hb hby at_227) <| XS.iadd X'ol.here hx rfl (hb hby at_228) rfl <| XS.icmpYes X'ol.here hx rfl (pc0 := 229) (pc' := 234) rfl (hb hby at_229) rfl ((teq (by decide : i_4 = i_4)).1) (by decide) (by decide) <| XS.aload X'ol.here hx rfl (hb hby at_234) rfl rfl k) ?_
   refine goo (fun _ k => XS.iload X'ol.here hx rfl (hb hby at_236) rfl k) ?_
   obtain ⟨T'om, X'om, e'om, st'om⟩ := own_callV X'ol hx hZ (y := Y35) hown (qw hw 85 rfl) (qw hw 86 rfl) (qw hw 88 rfl) (qw hw 87 rfl) (qw hw 46 rfl) (qw hw 89 rfl) (by decide) (W := 0) (rm_ln31 l Z a0 hw [] b'1r ea'2h ke'2h  T'o5.heap G_o6 G_oa G_o8 G_oc) (by decide) (by decide) rfl rfl e'ol G_o6 (g := (mkF m 238 #[iv x0, iv x1, iv x2, iv x3, iv x4, iv (own_c x0), iv (own_c x1), iv (own_c x2), iv (own_c x3), iv i_3, iv (own_pend x4), iv (own_aft x4), rv b'0, rv b'm, rv b'w, rv b'1r, iv i_1, .unset, .unset] [.int i_3, .ref b'1r])) rfl (by rw [hml]; rfl) (argsL := [.int i_3]) (rest := []) (lenOf own_pd21 rfl) rfl rfl (Nat.le_of_eq rfl) (hb hby at_238) (by decide) (by decide)
   refine goo st'om ?_
   show own_G _ _ _ _ (T'om.setTop (mkF m 241 #[iv x0, iv x1, iv x2, iv x3, iv x4, iv (own_c x0), iv (own_c x1), iv (own_c x2), iv (own_c x3), iv i_3, iv (own_pend x4), iv (own_aft x4), rv b'0, rv b'm, rv b'w, rv b'1r, iv i_1, .unset, .unset] [.int i_1]))
   refine goo (fun _ k => XS.iload X'om.here hx rfl (hb hby at_241) rfl <| XS.icmpYes X'om.here hx rfl (pc0 := 243) (pc' := 248) rfl (hb hby at_243) rfl ((teq (by decide : i_1 = i_1)).1) (by decide) (by decide) <| XS.aload X'om.here hx rfl (hb hby at_248) rfl rfl <| XS.iload X'om.here hx rfl (hb hby at_250) rfl k) ?_
   obtain ⟨cq'on, kq'on, q'ona, q'onb, q'onc⟩ := isOf hZ e'om G_o6
   obtain ⟨_, _, ⟨T'on, L'on, k'on, n'on⟩, -, X'on, ⟨Lc'on, hQ'on, l'on, y'on, z'on⟩, st'on⟩ := X'om.virtualBack hx (y := Y36) (z := Y36) hown (mvT hZ (qw hw 100 rfl)) (mvT hZ (qw hw 101 rfl)) (notFace_of_selects (args := #[]) (mvT hZ (qw hw 103 rfl))) (mvT hZ (qw hw 103 rfl)) (mvT hZ (qw hw 102 rfl)) (by decide) (backOf (W := 0) (rm_va31_3 l Z a0 hw [] b'1r ca'2h ea'2h kc'2h ke'2h (own_c x0) (own_c x1) (own_c x0) (own_c x3) g1 g2  cz fz T'o5.heap n0 Z_oj G_o6 G_o7 G_o8 G_oa G_ob G_oc S_od hcz S_oe (own_c_ok x3) hfz) hZ (qw hw 104 rfl) (qw hw 46 rfl) (by decide) (by decide)) q'ona q'onc (g := (mkF m 252 #[iv x0, iv x1, iv x2, iv x3, iv x4, iv (own_c x0), iv (own_c x1), iv (own_c x2), iv (own_c x3), iv i_3, iv (own_pend x4), iv (own_aft x4), rv b'0, rv b'm, rv b'w, rv b'1r, iv i_1, .unset, .unset] [.int i_3, .ref b'1r])) rfl (by rw [hml]; rfl) (Steps.refl _) (argsL := [.int i_3]) (rest := []) (lenOf own_pd26 rfl) rfl (Nat.le_of_eq rfl) (hb hby at_252) (fun _ _ => ⟨rfl, e'om, (by decide : 9 + 2 ≤ _), (by decide : 563 + 5 ≤ _)⟩)
   dsimp only [Pt.U, Pt.locs, Pt.cells, Pt.slots] at X'on l'on y'on z'on st'on hQ'on
   subst l'on y'on z'on
   obtain ⟨b'on, rfl, Nq'on, K'on, gz'on, G_oo, G_op, qx'on⟩ := hQ'on
   obtain ⟨vb'on, kv'on, gv'on, Fv'on, Vv'on⟩ := qx'on
   have S_oq := own_staKeep S_od K'on all0
   have S_or := own_staKeep S_oe K'on all0
   have X_os := X_of.keep K'on
   have F_ot := F_og.keep K'on nin0
   have F_ou := F_oh.keep K'on nin0
   have V_ov := V_oi.keep K'on nin0
   have X_ow := G_o6.keep K'on
   have V_ox := G_ob.keep K'on nin0
   have F_oy := G_o7.keep K'on nin0
   have F_oz := G_o8.keep K'on nin0
   have F_p0 := G_oa.keep K'on nin0
   have V_p1 := G_oc.keep K'on nin0
   have Z_p2 : n0 ≤ T'on.heap.size := Nat.le_trans Z_oj K'on.1
   have hk_p3 := Nat.le_trans hk_ok K'on.1
   have N_on := Fr.app N_o5 Nq'on
   refine goo (fun _ k => st'on.trans k) ?_
   refine goo (fun _ k => XS.astore X'on.here hx rfl (hb hby at_255) rfl rfl (l' := #[iv x0, iv x1, iv x2, iv x3, iv x4, iv (own_c x0), iv (own_c x1), iv (own_c x2), iv (own_c x3), iv i_3, iv (own_pend x4), iv (own_aft x4), rv b'0, rv b'm, rv b'w, rv b'1r, iv i_1, rv b'on, .unset]) rfl k) ?_
   show own_G _ _ _ _ (T'on.setTop (mkF m 257 #[iv x0, iv x1, iv x2, iv x3, iv x4, iv (own_c x0), iv (own_c x1), iv (own_c x2), iv (own_c x3), iv i_3, iv (own_pend x4), iv (own_aft x4), rv b'0, rv b'm, rv b'w, rv b'1r, iv i_1, rv b'on, .unset] []))
   refine goo (fun _ k => XS.iload X'on.here hx rfl (hb hby at_257) rfl <| XS.ifNo X'on.here hx rfl (hb hby at_259) rfl (((if0 _ _).trans (feq hc192_3413).1)) <| XS.aload X'on.here hx rfl (hb hby at_262) rfl rfl <| XS.iload X'on.here hx rfl (hb hby at_264) rfl k) ?_
   obtain ⟨_, _, ⟨T'p4, L'p4, k'p4, n'p4⟩, -, X'p4, ⟨Lc'p4, hQ'p4, l'p4, y'p4, z'p4⟩, st'p4⟩ := Jvm.LawKit.callS X'on hx (y := Y3) hown (mvT hZ (qw hw 1 rfl)) (mvT hZ (qw hw 2 rfl)) (mvT hZ (qw hw 3 rfl)) (mvT hZ (qw hw 4 rfl)) (by decide) (backOf (W := 1) (rm1 l Z a0 hw [] (own_c x3) cz T'on.heap n0 Z_p2 S_oq hcz (own_c_ok x3)) hZ (qw hw 4 rfl) (qw hw 3 rfl) (by decide) (by decide)) (g := (mkF m 266 #[iv x0, iv x1, iv x2, iv x3, iv x4, iv (own_c x0), iv (own_c x1), iv (own_c x2), iv (own_c x3), iv i_3, iv (own_pend x4), iv (own_aft x4), rv b'0, rv b'm, rv b'w, rv b'1r, iv i_1, rv b'on, .unset] [(.int (own_c x3)), .ref b'on])) rfl (by rw [hml]; rfl) (argsL := [(.int (own_c x3))]) (rest := [.ref b'on]) (lenOf own_pd23 rfl) rfl (Nat.le_of_eq rfl) (hb hby at_266) (fun _ _ => ⟨rfl, rfl, (by decide : 11 + 2 ≤ _), (by decide : 568 + 5 ≤ _)⟩)
   dsimp only [Pt.U, Pt.locs, Pt.cells, Pt.slots] at X'p4 l'p4 y'p4 z'p4 st'p4 hQ'p4
   subst l'p4 y'p4 z'p4
   obtain ⟨b'p4, rfl, Nq'p4, K'p4, gz'p4, G_p5, G_p6, qx'p4⟩ := hQ'p4
   have ne_p7 : b'on ≠ b'p4 := Nat.ne_of_lt (Nat.lt_of_lt_of_le G_oo.lt gz'p4)
   obtain ⟨vb'p4, kv'p4, gv'p4, Fv'p4, Vv'p4⟩ := qx'p4
   have S_p8 := own_staKeep S_oq K'p4 all0
   have S_p9 := own_staKeep S_or K'p4 all0
   have X_pa := X_os.keep K'p4
   have F_pb := F_ot.keep K'p4 nin0
   have F_pc := F_ou.keep K'p4 nin0
   have V_pd := V_ov.keep K'p4 nin0
   have X_pe := X_ow.keep K'p4
   have V_pf := V_ox.keep K'p4 nin0
   have F_pg := F_oy.keep K'p4 nin0
   have F_ph := F_oz.keep K'p4 nin0
   have F_pi := F_p0.keep K'p4 nin0
   have V_pj := V_p1.keep K'p4 nin0
   have X_pk := G_oo.keep K'p4
   have F_pl := G_op.keep K'p4 nin0
   have F_pm := Fv'on.keep K'p4 nin0
   have V_pn := Vv'on.keep K'p4 nin0
   have Z_po : n0 ≤ T'p4.heap.size := Nat.le_trans Z_p2 K'p4.1
   have hk_pp := Nat.le_trans hk_p3 K'p4.1
   have N_p4 := Fr.app N_on Nq'p4
   refine goo (fun _ k => st'p4 _ k) ?_
   obtain ⟨T'pq, X'pq, e'pq, st'pq⟩ := own_callV X'p4 hx hZ (y := Y12) hown (qw hw 179 rfl) (qw hw 180 rfl) (qw hw 182 rfl) (qw hw 181 rfl) (qw hw 3 rfl) (qw hw 183 rfl) (by decide) (W := 0) (rm_eq1 l Z a0 hw [] b'on b'p4 cz vb'on vb'p4 kv'on kv'p4 (own_by (own_c x3)) T'p4.heap S_p8 hcz F_pl F_pm V_pn G_p6 Fv'p4 Vv'p4 G_p5 ne_p7) (by decide) (by decide) rfl rfl rfl X_pk (g := (mkF m 269 #[iv x0, iv x1, iv x2, iv x3, iv x4, iv (own_c x0), iv (own_c x1), iv (own_c x2), iv (own_c x3), iv i_3, iv (own_pend x4), iv (own_aft x4), rv b'0, rv b'm, rv b'w, rv b'1r, iv i_1, rv b'on, .unset] [.ref b'p4, .ref b'on])) rfl (by rw [hml]; rfl) (argsL := [.ref b'p4]) (rest := []) (lenOf own_pd27 rfl) rfl rfl (Nat.le_of_eq rfl) (hb hby at_269) (by decide) (by decide)
   refine goo st'pq ?_
   show own_G _ _ _ _ (T'pq.setTop (mkF m 272 #[iv x0, iv x1, iv x2, iv x3, iv x4, iv (own_c x0), iv (own_c x1), iv (own_c x2), iv (own_c x3), iv i_3, iv (own_pend x4), iv (own_aft x4), rv b'0, rv b'm, rv b'w, rv b'1r, iv i_1, rv b'on, .unset] [.int i_1]))
   refine goo (fun _ k => XS.goto X'pq.here hx rfl (pc0 := 272) (pc' := 280) rfl (hb hby at_272) (by decide) (by decide) <| XS.istore X'pq.here hx rfl (hb hby at_280) rfl (l' := #[iv x0, iv x1, iv x2, iv x3, iv x4, iv (own_c x0), iv (own_c x1), iv (own_c x2), iv (own_c x3), iv i_3, iv (own_pend x4), iv (own_aft x4), rv b'0, rv b'm, rv b'w, rv b'1r, iv i_1, rv b'on, iv i_1]) rfl <| XS.iload X'pq.here hx rfl (hb hby at_282) rfl <| XS.ifYes X'pq.here hx rfl (pc0 := 284) (pc' := 289) rfl (hb hby at_284) rfl (((if0 _ _).trans (feq (by decide : ¬ (i_1 = i_0))).2)) (by decide) (by decide) k) ?_
   refine goo (fun _ k => XS.iload X'pq.here hx rfl (hb hby at_289) rfl <| XS.iconst X'pq.here hx rfl (hb hby at_291) k) ?_
   show own_G _ _ _ _ (T'pq.setTop (mkF m 292 #[iv x0, iv x1, iv x2, iv x3, iv x4, iv (own_c x0), iv (own_c x1), iv (own_c x2), iv (own_c x3), iv i_3, iv (own_pend x4), iv (own_aft x4), rv b'0, rv b'm, rv b'w, rv b'1r, iv i_1, rv b'on, iv i_1] [.int i_3, .int i_3]))
   refine goo (fun _ k => XS.icmpNo X'pq.here hx rfl (hb hby at_292) rfl ((teq (by decide : i_3 = i_3)).2) <| XS.aload X'pq.here hx rfl (hb hby at_295) rfl rfl <| XS.iconst X'pq.here hx rfl (hb hby at_297) k) ?_
   obtain ⟨cq'pr, kq'pr, q'pra, q'prb, q'prc⟩ := isOf hZ e'pq X_pe
   obtain ⟨_, _, ⟨T'pr, L'pr, k'pr, n'pr⟩, -, X'pr, ⟨Lc'pr, hQ'pr, l'pr, y'pr, z'pr⟩, st'pr⟩ := X'pq.virtualBack hx (y := Y36) (z := Y36) hown (mvT hZ (qw hw 100 rfl)) (mvT hZ (qw hw 101 rfl)) (notFace_of_selects (args := #[]) (mvT hZ (qw hw 103 rfl))) (mvT hZ (qw hw 103 rfl)) (mvT hZ (qw hw 102 rfl)) (by decide) (backOf (W := 0) (rm_va31_2 l Z a0 hw [] b'1r ca'2h ea'2h kc'2h ke'2h (own_c x0) (own_c x1) (own_c x0) (own_c x3) g1 g2  cz fz T'p4.heap n0 Z_po X_pe F_pg F_ph F_pi V_pf V_pj S_p8 hcz S_p9 (own_c_ok x1) (own_c_ok x0) hfz) hZ (qw hw 104 rfl) (qw hw 46 rfl) (by decide) (by decide)) q'pra q'prc (g := (mkF m 298 #[iv x0, iv x1, iv x2, iv x3, iv x4, iv (own_c x0), iv (own_c x1), iv (own_c x2), iv (own_c x3), iv i_3, iv (own_pend x4), iv (own_aft x4), rv b'0, rv b'm, rv b'w, rv b'1r, iv i_1, rv b'on, iv i_1] [.int i_2, .ref b'1r])) rfl (by rw [hml]; rfl) (Steps.refl _) (argsL := [.int i_2]) (rest := []) (lenOf own_pd26 rfl) rfl (Nat.le_of_eq rfl) (hb hby at_298) (fun _ _ => ⟨rfl, e'pq, (by decide : 13 + 2 ≤ _), (by decide : 573 + 6 ≤ _)⟩)
   dsimp only [Pt.U, Pt.locs, Pt.cells, Pt.slots] at X'pr l'pr y'pr z'pr st'pr hQ'pr
   subst l'pr y'pr z'pr
   obtain ⟨b'pr, rfl, Nq'pr, K'pr, gz'pr, G_ps, G_pt, qx'pr⟩ := hQ'pr
   have ne_pu : b'w ≠ b'pr := Nat.ne_of_lt (Nat.lt_of_lt_of_le X_pa.lt gz'pr)
   obtain ⟨vb'pr, kv'pr, gv'pr, Fv'pr, Vv'pr⟩ := qx'pr
   have S_pv := own_staKeep S_p8 K'pr all0
   have X_pw := X_pa.keep K'pr
   have F_px := F_pb.keep K'pr nin0
   have F_py := F_pc.keep K'pr nin0
   have V_pz := V_pd.keep K'pr nin0
   have hk_q0 := Nat.le_trans hk_pp K'pr.1
   have N_pr := Fr.app N_p4 Nq'pr
   refine goo (fun _ k => st'pr.trans k) ?_
   refine goo (fun _ k => XS.aload X'pr.here hx rfl (hb hby at_301) rfl rfl k) ?_
   obtain ⟨T'q1, X'q1, e'q1, st'q1⟩ := own_callV X'pr hx hZ (y := Y12) hown (qw hw 179 rfl) (qw hw 180 rfl) (qw hw 182 rfl) (qw hw 181 rfl) (qw hw 3 rfl) (qw hw 183 rfl) (by decide) (W := 0) (rm_eq2 l Z a0 hw [] b'pr b'w cz vb'pr vb'1e kv'pr kv'1e (own_by (own_c x1)) (own_by (own_c x0)) T'pr.heap S_pv hcz G_pt Fv'pr Vv'pr F_px F_py V_pz X_pw (Ne.symm ne_pu)) (by decide) (by decide) rfl rfl rfl G_ps (g := (mkF m 303 #[iv x0, iv x1, iv x2, iv x3, iv x4, iv (own_c x0), iv (own_c x1), iv (own_c x2), iv (own_c x3), iv i_3, iv (own_pend x4), iv (own_aft x4), rv b'0, rv b'm, rv b'w, rv b'1r, iv i_1, rv b'on, iv i_1] [.ref b'w, .ref b'pr])) rfl (by rw [hml]; rfl) (argsL := [.ref b'w]) (rest := []) (lenOf own_pd27 rfl) rfl rfl (Nat.le_of_eq rfl) (hb hby at_303) (by decide) (by decide)
   refine goo st'q1 ?_
   show own_G _ _ _ _ (T'q1.setTop (mkF m 306 #[iv x0, iv x1, iv x2, iv x3, iv x4, iv (own_c x0), iv (own_c x1), iv (own_c x2), iv (own_c x3), iv i_3, iv (own_pend x4), iv (own_aft x4), rv b'0, rv b'm, rv b'w, rv b'1r, iv i_1, rv b'on, iv i_1] [.int i_1]))
   refine goo (fun _ k => XS.ifYes X'q1.here hx rfl (pc0 := 306) (pc' := 311) rfl (hb hby at_306) rfl (((if0 _ _).trans (feq (by decide : ¬ (i_1 = i_0))).2)) (by decide) (by decide) <| XS.iconst X'q1.here hx rfl (hb hby at_311) k) ?_
   show own_G _ _ _ _ (T'q1.setTop (mkF m 312 #[iv x0, iv x1, iv x2, iv x3, iv x4, iv (own_c x0), iv (own_c x1), iv (own_c x2), iv (own_c x3), iv i_3, iv (own_pend x4), iv (own_aft x4), rv b'0, rv b'm, rv b'w, rv b'1r, iv i_1, rv b'on, iv i_1] [.int i_1]))
   exact own_endW (vm₁ := s.vm) X'q1 Bd.notSynchronized hS (by rw [e'q1]; exact hk_q0) (v := some (.int (nar .boolean i_1))) (fun h => by rw [Bd.returns] at h; cases h) (Q := QL (some (.int i_1)) n0) ⟨rfl, N_pr⟩ (fun fs hr => retN X'q1 hx (t := .boolean) Bd.returns (by simp) (hb hby at_312) hr) (by decide) (by decide)
theorem own_cz {s : State} {args : Array Value} {t : Term} {cz : Int32} (ht : t.eval args s none [] s = some (.int cz)) (h : (Jvm.Cond.not (Jvm.Cond.eq t (.int 0))).value args s none s [] = some true) : ¬ cz = (0 : Int32) := by
  have h2 := not_v h
  intro e
  subst e
  have e2 : (Term.int 0).eval args s none [] s = some (.int 0) := rfl
  simp [Cond.value, ht, e2] at h2
set_option maxRecDepth 65536 in
set_option maxHeartbeats 40000000 in
theorem comes_1 {Post : Tables → Env → Array Value → State → Outcome → State → Prop} (hpost : ∀ tb e args s v u, (limb_1_1.after args s (.returned v) u = true ∧ limb_1_2.after args s (.returned v) u = true ∧ True) → ReturnedEndW s (.returned v) u (Jvm.fieldLocs frame_1_writes args s ++ Jvm.arrayLocs frame_1_arrays args s ++ Jvm.staticLocs frame_1_statics s) 40 2304 → Post tb e args s (.returned v) u) :
    ArmFor flags0 classFile x code maxLocals ret World_1 tables_1 room_1 Calls_1 rest_1 Pre_1 Post := by
  intro l hfl _ _ p e ha hc hk s m args below hf hA hF happ hP
  obtain ⟨hcalls, hrest, hpre⟩ := hP
  obtain ⟨-, -, -, hnamed, -, -, -, hat⟩ := (Spec.applies_iff hf).mp happ
  obtain ⟨hg, hn⟩ := and_e (Cond.before_iff.mp (show (Jvm.Cond.and given_1 narrow_1).before args s = true from hpre))
  obtain ⟨hcnt, hq0⟩ := and_e hg
  obtain ⟨ha0, hq1⟩ := and_e hq0
  obtain ⟨ha1, hq2⟩ := and_e hq1
  obtain ⟨ha2, hq3⟩ := and_e hq2
  obtain ⟨ha3, hq4⟩ := and_e hq3
  have ha4 := hq4
  obtain ⟨w0, w1, w2, w3, w4, rfl⟩ : ∃ w0 w1 w2 w3 w4 : Value, args = #[w0, w1, w2, w3, w4] := by
    have hs : args.size = 5 := by simpa [Cond.value, given_1] using hcnt
    obtain ⟨L⟩ := args
    match L, hs with
    | [w0, w1, w2, w3, w4], _ => exact ⟨w0, w1, w2, w3, w4, rfl⟩
  have hw := fun d (hd : d ∈ tables_1) => atoms_spec (ws := Jvm.Cond.code x code maxLocals ret :: tables_1) hat d (List.mem_cons_of_mem _ hd)
  have hfit : Fit s := fun {y c} hc i hi => by
    obtain ⟨ha, rfl⟩ := Array.getElem?_eq_some_iff.mp hc
    have q := List.all_eq_true.mp ((Array.all_eq_true_iff_forall_mem.mp hF) _ (Array.getElem_mem ha)) i (List.mem_range.mpr hi)
    simpa [Array.getElem?_eq_getElem hi] using q
  obtain ⟨hsets, hown0⟩ := atoms_of _ (rest_1_c_eq ▸ (show rest_1_c.before _ s = true from hrest))
  obtain ⟨i0, ei0⟩ := is_v ha0
  obtain rfl : w0 = (.int i0) := Option.some.inj ei0
  obtain ⟨i1, ei1⟩ := is_v ha1
  obtain rfl : w1 = (.int i1) := Option.some.inj ei1
  obtain ⟨i2, ei2⟩ := is_v ha2
  obtain rfl : w2 = (.int i2) := Option.some.inj ei2
  obtain ⟨i3, ei3⟩ := is_v ha3
  obtain rfl : w3 = (.int i3) := Option.some.inj ei3
  obtain ⟨i4, ei4⟩ := is_v ha4
  obtain rfl : w4 = (.int i4) := Option.some.inj ei4
  obtain ⟨cz, ecz⟩ := is_v (Cond.before_iff.mp (hsets _ (List.mem_of_getElem? (i := 1) rfl)))
  have Sc : Sta s s.heap "java/lang/String" "COMPACT_STRINGS" "Z" (.int cz) := Sta.start ecz (Or.inl (hsets _ (List.mem_of_getElem? (i := 0) rfl)))
  have hcw := hsets _ (List.mem_of_getElem? (i := 2) rfl)
  have hcz : ¬ cz = (0 : Int32) := own_cz ecz (Cond.before_iff.mp hcw)
  obtain ⟨fz, efz, hfz⟩ := isR_v (Cond.before_iff.mp (hsets _ (List.mem_of_getElem? (i := 8) rfl)))
  have Sf : Sta s s.heap "jdk/internal/util/Preconditions" "SIOOBE_FORMATTER" "Ljava/util/function/BiFunction;" fz := Sta.start efz (Or.inl (hsets _ (List.mem_of_getElem? (i := 7) rfl)))
  obtain ⟨el, eel⟩ := exa_v (Cond.before_iff.mp (hsets _ (List.mem_of_getElem? (i := 11) rfl)))
  have Sl : Sta s s.heap "java/util/ImmutableCollections" "EMPTY_LIST" "Ljava/util/ImmutableCollections$ListN;" (.ref el) := Sta.start eel (Or.inl (hsets _ (List.mem_of_getElem? (i := 10) rfl)))
  have held : Jvm.Lit.constHeld s "java/lang/String" 7 := hcalls.1 _ (List.mem_of_getElem? (i := 0) rfl)
  obtain ⟨n, o, h1, h2, h3, _, L, rfl, ⟨rfl, N⟩, hq⟩ := rm0 l s _ hw tables_1 i0 i1 i2 i3 i4 cz fz el s.heap s.heap.size (Nat.le_refl _) Sc hcz Sf hfz Sl (Old.start s) held hcw p e ha hc hk s m _ below hf ((Spec.applies_iff_loose hf).mp happ).1 ⟨rfl, State.Warmed39.refl s, rfl, IB.start⟩ trivial
  refine ⟨n, _, h1, h2, h3, hpost _ _ _ _ _ _ ⟨Cond.after_iff.mpr rfl, Cond.after_iff.mpr (eq_i res_at (Term.int_eval (1)) rfl), trivial⟩ ⟨hq.1, hq.2.1, hq.2.2.1, (hq.2.2.2.sift fun y hy => Or.inr (N y hy)).mono (by decide) (by decide)⟩⟩
theorem main_1_1 : Claimed_1_1 := comes_1 fun _ _ _ _ _ _ h hF => ⟨h.1, hF⟩
theorem main_1_2 : Claimed_1_2 := comes_1 fun _ _ _ _ _ _ h hF => ⟨h.2.1, hF⟩
end Jvm.Pilot.@@N@@
namespace Jvm.Pilot.@@N@@
open Jvm Jvm.ClassFile Sem Op Lib Jvm.Free Jvm.Stand Jvm.Pilot.@@N@@.Jvm.D
/-! MADE BY PROGRAM (witnessworld.py) out of the Statement's table words and the real class files: 31 classes; the members and pool entries that the words name. The judged class is class 1, her method 1. -/
namespace start1
open Jvm.ClassFile
def u (s : String) : CpInfo := .utf8 (stringToUtf16 s)
/-- a pool by its gaps: so many unusable entries, then the entry; so many at the end -/
def gap : Nat → List CpInfo → List CpInfo
  | 0, r => r
  | n + 1, r => .unusable :: gap n r
def poolList (es : List (Nat × CpInfo)) (last : Nat) : List CpInfo := es.foldr (fun e r => gap e.1 (e.2 :: r)) (gap last [])
def pool (es : List (Nat × CpInfo)) (last : Nat) : Array CpInfo := ⟨poolList es last⟩
def fileOf (pool : Array CpInfo) (this : Nat) (attrs : Array Attribute := #[]) (ms : Array MethodInfo := #[]) (fl : Nat := 33) (sup : Nat := 0) (ifs : Array Nat := #[]) (fds : Array FieldInfo := #[]) : ClassFile where
  minorVersion := 0
  majorVersion := 65
  constantPool := pool
  accessFlags := fl
  thisClass := this
  superClass := sup
  interfaces := ifs
  fields := fds
  methods := ms
  attributes := attrs
def plain (name : String) (sup : Option ClassId) : Class where
  name := name
  kind := .ordinary
  loader := none
  accessFlags := 33
  super := sup
  interfaces := #[]
  cf := none
  fields := #[]
  methods := #[]
  instanceTypes := #[]
  staticTypes := #[]
  resolved := #[]
  callSites := []
  init := .initialized
  statics := none
  mirror := none

def pool0 : Array CpInfo := pool [(5, u "<init>"), (0, u "()V"), (1, .class_ 10), (1, u "java/lang/Object")] 113

def k0c0 : Code := { maxStack := 0, maxLocals := 1, code := object_method_1_code, exceptionTable := #[], attributes := #[] }
def k0m0 : Method := { name := "<init>", desc := "()V", sig := { parameters := [], returnType := none }, accessFlags := 1, code := some k0c0 }
/-- java/lang/Object -/
def k0 : Class := { plain "java/lang/Object" none with
  accessFlags := 33
  interfaces := #[]
  cf := some (fileOf pool0 8 #[] #[{ accessFlags := 1, nameIndex := 5, descriptorIndex := 6, attributes := #[] }] 33 0 #[] #[])
  fields := #[]
  methods := #[k0m0]
  instanceTypes := #[]
  staticTypes := #[]
  resolved := Array.replicate 124 none
  statics := none }

def pool1 : Array CpInfo := pool [(2, .class_ 4), (0, .nameAndType 5 6), (0, u "java/lang/Object"), (0, u "<init>"), (0, u "()V"), (0, .methodref 8 9), (0, .class_ 10), (0, .nameAndType 11 12), (0, u "java/lang/String"), (0, u "valueOf"), (0, u "(C)Ljava/lang/String;"), (0, .methodref 8 14), (0, .nameAndType 5 15), (0, u "([C)V"), (0, .class_ 17), (0, u "com/example/davka/davka/csv/Row"), (0, .methodref 16 3), (0, .methodref 16 20), (0, .nameAndType 21 22), (0, u "add"), (0, u "(Ljava/lang/CharSequence;)V"), (0, .methodref 16 24), (0, .nameAndType 25 6), (0, u "end"), (0, .methodref 16 27), (0, .nameAndType 28 29), (0, u "append"), (0, u "(C)Lcom/example/davka/davka/csv/Row;"), (0, .methodref 16 31), (0, .nameAndType 32 6), (0, u "discard"), (0, .methodref 16 34), (0, .nameAndType 35 36), (0, u "size"), (0, u "()I"), (0, .methodref 16 38), (0, .nameAndType 39 40), (0, u "length"), (0, u "(I)I"), (0, .methodref 16 42), (0, .nameAndType 43 44), (0, u "value"), (0, u "(I)Ljava/lang/String;"), (0, .methodref 8 46), (0, .nameAndType 47 48), (0, u "equals"), (0, u "(Ljava/lang/Object;)Z"), (0, .methodref 8 50), (0, .nameAndType 51 52), (0, u "isEmpty"), (0, u "()Z"), (0, .class_ 54), (0, u "com/example/davka/davka/csv/RowDiscardPinLaw"), (2, u "law"), (0, u "(IIIII)Z")] 5

def k1m0 : Method := { name := "<init>", desc := "()V", sig := { parameters := [], returnType := none }, accessFlags := 1, code := none }
def k1c1 : Code := { maxStack := 3, maxLocals := 19, code := code, exceptionTable := #[], attributes := #[] }
def k1m1 : Method := { name := "law", desc := "(IIIII)Z", sig := { parameters := [.int, .int, .int, .int, .int], returnType := some .boolean }, accessFlags := 9, code := some k1c1 }
/-- com/example/davka/davka/csv/RowDiscardPinLaw -/
def k1 : Class := { plain "com/example/davka/davka/csv/RowDiscardPinLaw" (some 0) with
  accessFlags := 49
  interfaces := #[]
  cf := some (fileOf pool1 53 #[] #[{ accessFlags := 1, nameIndex := 5, descriptorIndex := 6, attributes := #[] }, { accessFlags := 9, nameIndex := 57, descriptorIndex := 58, attributes := #[] }] 49 2 #[] #[])
  fields := #[]
  methods := #[k1m0, k1m1]
  instanceTypes := #[]
  staticTypes := #[]
  resolved := Array.replicate 64 none
  statics := none }

def pool2 : Array CpInfo := pool [(1, .class_ 2), (0, u "java/io/Serializable"), (0, .class_ 4), (0, u "java/lang/Object")] 2

/-- java/io/Serializable -/
def k2 : Class := { plain "java/io/Serializable" (some 0) with
  accessFlags := 1537
  interfaces := #[]
  cf := some (fileOf pool2 1 #[] #[] 1537 3 #[] #[])
  fields := #[]
  methods := #[]
  instanceTypes := #[]
  staticTypes := #[]
  resolved := Array.replicate 7 none
  statics := none }

def pool3 : Array CpInfo := pool [(1, .class_ 2), (0, u "java/lang/Comparable"), (0, .class_ 4), (0, u "java/lang/Object")] 7

/-- java/lang/Comparable -/
def k3 : Class := { plain "java/lang/Comparable" (some 0) with
  accessFlags := 1537
  interfaces := #[]
  cf := some (fileOf pool3 1 #[] #[] 1537 3 #[] #[])
  fields := #[]
  methods := #[]
  instanceTypes := #[]
  staticTypes := #[]
  resolved := Array.replicate 12 none
  statics := none }

def pool4 : Array CpInfo := pool [(2, .class_ 4), (1, u "java/lang/CharSequence"), (0, u "length"), (0, u "()I"), (38, u "charAt"), (0, u "(I)C"), (0, .class_ 48), (0, u "java/lang/CharSequence$1CodePointIterator"), (10, .class_ 60), (0, u "java/lang/CharSequence$1CharIterator"), (5, .class_ 67), (0, u "java/lang/Object")] 63

def k4m0 : Method := { name := "length", desc := "()I", sig := { parameters := [], returnType := some .int }, accessFlags := 1025, code := none }
def k4m1 : Method := { name := "charAt", desc := "(I)C", sig := { parameters := [.int], returnType := some .char }, accessFlags := 1025, code := none }
/-- java/lang/CharSequence -/
def k4 : Class := { plain "java/lang/CharSequence" (some 0) with
  accessFlags := 1537
  interfaces := #[]
  cf := some (fileOf pool4 2 #[.nestMembers #[47, 59]] #[{ accessFlags := 1025, nameIndex := 5, descriptorIndex := 6, attributes := #[] }, { accessFlags := 1025, nameIndex := 45, descriptorIndex := 46, attributes := #[] }] 1537 66 #[] #[])
  fields := #[]
  methods := #[k4m0, k4m1]
  instanceTypes := #[]
  staticTypes := #[]
  resolved := Array.replicate 131 none
  statics := none }

def pool5 : Array CpInfo := pool [(1, .class_ 2), (0, u "java/lang/constant/Constable"), (0, .class_ 4), (0, u "java/lang/Object")] 6

/-- java/lang/constant/Constable -/
def k5 : Class := { plain "java/lang/constant/Constable" (some 0) with
  accessFlags := 1537
  interfaces := #[]
  cf := some (fileOf pool5 1 #[] #[] 1537 3 #[] #[])
  fields := #[]
  methods := #[]
  instanceTypes := #[]
  staticTypes := #[]
  resolved := Array.replicate 11 none
  statics := none }

def pool6 : Array CpInfo := pool [(1, .class_ 2), (0, u "java/lang/constant/ConstantDesc"), (0, .class_ 4), (0, u "java/lang/Object")] 32

/-- java/lang/constant/ConstantDesc -/
def k6 : Class := { plain "java/lang/constant/ConstantDesc" (some 0) with
  accessFlags := 1537
  interfaces := #[]
  cf := some (fileOf pool6 1 #[] #[] 1537 3 #[] #[])
  fields := #[]
  methods := #[]
  instanceTypes := #[]
  staticTypes := #[]
  resolved := Array.replicate 37 none
  statics := none }

def pool7 : Array CpInfo := pool [(1, .methodref 2 3), (0, .class_ 4), (0, .nameAndType 5 6), (0, u "java/lang/Object"), (0, u "<init>"), (0, u "()V"), (0, .string 8), (0, u ""), (0, .fieldref 10 11), (0, .class_ 12), (0, .nameAndType 13 14), (0, u "java/lang/String"), (0, u "value"), (0, u "[B"), (0, .fieldref 10 16), (0, .nameAndType 17 18), (0, u "coder"), (0, u "B"), (2, u "hash"), (0, u "I"), (2, u "hashIsZero"), (0, u "Z"), (0, .methodref 10 28), (0, .nameAndType 5 29), (0, u "([CIILjava/lang/Void;)V"), (0, .methodref 10 31), (0, .nameAndType 32 33), (0, u "rangeCheck"), (0, u "([CII)Ljava/lang/Void;"), (0, .methodref 10 35), (0, .nameAndType 36 37), (0, u "checkBoundsOffCount"), (0, u "(III)I"), (0, .fieldref 10 39), (0, .nameAndType 40 26), (0, u "COMPACT_STRINGS"), (1, .class_ 44), (1, u "java/lang/StringUTF16"), (0, u "compress"), (1, .methodref 42 48), (0, .nameAndType 49 50), (0, u "coderFromArrayLen"), (0, u "([BI)B"), (2, u "toBytes"), (53, .class_ 109), (1, u "java/lang/StringLatin1"), (32, u "()Z"), (34, .methodref 42 178), (0, .nameAndType 45 179), (0, u "([CII)[B"), (29, .methodref 10 210), (0, .nameAndType 5 211), (0, u "([BB)V"), (122, u "()I"), (0, .methodref 10 336), (0, .nameAndType 17 337), (0, u "()B"), (25, u "([BI)C"), (5, u "(C)Z"), (21, u "(II)V"), (35, u "(I)C"), (64, .methodref 10 493), (0, .nameAndType 494 142), (0, u "isLatin1"), (0, .methodref 107 496), (0, .nameAndType 497 363), (0, u "charAt"), (3, u "checkIndex"), (5, u "length"), (33, .methodref 107 542), (0, .nameAndType 543 544), (0, u "equals"), (0, u "([B[B)Z"), (28, u "(Ljava/lang/Object;)Z"), (1, .class_ 576), (0, u "java/lang/CharSequence"), (22, u "CASE_INSENSITIVE_ORDER"), (0, u "Ljava/util/Comparator;"), (91, u "isEmpty"), (89, u "valueOf"), (0, u "(C)Ljava/lang/String;"), (188, u "([CII)V"), (37, u "([C)V"), (4, .methodref 107 1016), (0, .nameAndType 1017 369), (0, u "canEncode"), (0, .methodref 107 1019), (0, .nameAndType 53 1020), (0, u "(C)[B"), (32, .fieldref 1054 1055), (0, .class_ 1056), (0, .nameAndType 1057 1058), (0, u "jdk/internal/util/Preconditions"), (0, u "SIOOBE_FORMATTER"), (0, u "Ljava/util/function/BiFunction;"), (0, .methodref 1054 1060), (0, .nameAndType 501 1061), (0, u "(IILjava/util/function/BiFunction;)I"), (2, u "(IIILjava/util/function/BiFunction;)I"), (0, .methodref 1054 1066), (0, .nameAndType 1067 1064), (0, u "checkFromIndexSize"), (33, u "serialPersistentFields"), (0, u "[Ljava/io/ObjectStreamField;"), (0, .class_ 1104), (0, u "java/lang/String$CaseInsensitiveComparator"), (1, .class_ 1107), (0, u "java/io/Serializable"), (0, .class_ 1109), (0, u "java/lang/Comparable"), (0, .class_ 1111), (0, u "java/lang/constant/Constable"), (0, .class_ 1113), (0, u "java/lang/constant/ConstantDesc"), (2, u "serialVersionUID"), (0, u "J"), (3, u "REPL"), (0, u "C"), (2, u "LATIN1"), (1, u "UTF16")] 323

def k7m0 : Method := { name := "<init>", desc := "()V", sig := { parameters := [], returnType := none }, accessFlags := 1, code := none }
def k7c1 : Code := { maxStack := 5, maxLocals := 2, code := jdk_42_method_3_code, exceptionTable := #[], attributes := #[] }
def k7m1 : Method := { name := "<init>", desc := "([C)V", sig := { parameters := [(.array .char)], returnType := none }, accessFlags := 1, code := some k7c1 }
def k7c2 : Code := { maxStack := 7, maxLocals := 4, code := jdk_42_method_4_code, exceptionTable := #[], attributes := #[] }
def k7m2 : Method := { name := "<init>", desc := "([CII)V", sig := { parameters := [(.array .char), .int, .int], returnType := none }, accessFlags := 1, code := some k7c2 }
def k7c3 : Code := { maxStack := 3, maxLocals := 3, code := jdk_42_method_5_code, exceptionTable := #[], attributes := #[] }
def k7m3 : Method := { name := "rangeCheck", desc := "([CII)Ljava/lang/Void;", sig := { parameters := [(.array .char), .int, .int], returnType := some (.object "java/lang/Void") }, accessFlags := 10, code := some k7c3 }
def k7c4 : Code := { maxStack := 2, maxLocals := 1, code := jdk_42_method_54_code, exceptionTable := #[], attributes := #[] }
def k7m4 : Method := { name := "length", desc := "()I", sig := { parameters := [], returnType := some .int }, accessFlags := 1, code := some k7c4 }
def k7c5 : Code := { maxStack := 1, maxLocals := 1, code := jdk_42_method_55_code, exceptionTable := #[], attributes := #[] }
def k7m5 : Method := { name := "isEmpty", desc := "()Z", sig := { parameters := [], returnType := some .boolean }, accessFlags := 1, code := some k7c5 }
def k7c6 : Code := { maxStack := 2, maxLocals := 2, code := jdk_42_method_56_code, exceptionTable := #[], attributes := #[] }
def k7m6 : Method := { name := "charAt", desc := "(I)C", sig := { parameters := [.int], returnType := some .char }, accessFlags := 1, code := some k7c6 }
def k7c7 : Code := { maxStack := 2, maxLocals := 3, code := jdk_42_method_66_code, exceptionTable := #[], attributes := #[] }
def k7m7 : Method := { name := "equals", desc := "(Ljava/lang/Object;)Z", sig := { parameters := [(.object "java/lang/Object")], returnType := some .boolean }, accessFlags := 1, code := some k7c7 }
def k7c8 : Code := { maxStack := 4, maxLocals := 1, code := jdk_42_method_139_code, exceptionTable := #[], attributes := #[] }
def k7m8 : Method := { name := "valueOf", desc := "(C)Ljava/lang/String;", sig := { parameters := [.char], returnType := some (.object "java/lang/String") }, accessFlags := 9, code := some k7c8 }
def k7c9 : Code := { maxStack := 4, maxLocals := 6, code := jdk_42_method_149_code, exceptionTable := #[], attributes := #[] }
def k7m9 : Method := { name := "<init>", desc := "([CIILjava/lang/Void;)V", sig := { parameters := [(.array .char), .int, .int, (.object "java/lang/Void")], returnType := none }, accessFlags := 2, code := some k7c9 }
def k7c10 : Code := { maxStack := 2, maxLocals := 3, code := jdk_42_method_151_code, exceptionTable := #[], attributes := #[] }
def k7m10 : Method := { name := "<init>", desc := "([BB)V", sig := { parameters := [(.array .byte), .byte], returnType := none }, accessFlags := 0, code := some k7c10 }
def k7c11 : Code := { maxStack := 1, maxLocals := 1, code := jdk_42_method_152_code, exceptionTable := #[], attributes := #[] }
def k7m11 : Method := { name := "coder", desc := "()B", sig := { parameters := [], returnType := some .byte }, accessFlags := 0, code := some k7c11 }
def k7c12 : Code := { maxStack := 1, maxLocals := 1, code := jdk_42_method_154_code, exceptionTable := #[], attributes := #[] }
def k7m12 : Method := { name := "isLatin1", desc := "()Z", sig := { parameters := [], returnType := some .boolean }, accessFlags := 0, code := some k7c12 }
def k7c13 : Code := { maxStack := 3, maxLocals := 2, code := jdk_42_method_155_code, exceptionTable := #[], attributes := #[] }
def k7m13 : Method := { name := "checkIndex", desc := "(II)V", sig := { parameters := [.int, .int], returnType := none }, accessFlags := 8, code := some k7c13 }
def k7c14 : Code := { maxStack := 4, maxLocals := 3, code := jdk_42_method_157_code, exceptionTable := #[], attributes := #[] }
def k7m14 : Method := { name := "checkBoundsOffCount", desc := "(III)I", sig := { parameters := [.int, .int, .int], returnType := some .int }, accessFlags := 8, code := some k7c14 }
/-- java/lang/String -/
def k7 : Class := { plain "java/lang/String" (some 0) with
  accessFlags := 49
  interfaces := #[2, 3, 4, 5, 6]
  cf := some (fileOf pool7 10 #[.nestMembers #[1103]] #[{ accessFlags := 1, nameIndex := 5, descriptorIndex := 6, attributes := #[] }, { accessFlags := 1, nameIndex := 5, descriptorIndex := 1010, attributes := #[] }, { accessFlags := 1, nameIndex := 5, descriptorIndex := 972, attributes := #[] }, { accessFlags := 10, nameIndex := 32, descriptorIndex := 33, attributes := #[] }, { accessFlags := 1, nameIndex := 507, descriptorIndex := 334, attributes := #[] }, { accessFlags := 1, nameIndex := 692, descriptorIndex := 142, attributes := #[] }, { accessFlags := 1, nameIndex := 497, descriptorIndex := 427, attributes := #[] }, { accessFlags := 1, nameIndex := 543, descriptorIndex := 573, attributes := #[] }, { accessFlags := 9, nameIndex := 782, descriptorIndex := 783, attributes := #[] }, { accessFlags := 2, nameIndex := 5, descriptorIndex := 29, attributes := #[] }, { accessFlags := 0, nameIndex := 5, descriptorIndex := 211, attributes := #[] }, { accessFlags := 0, nameIndex := 17, descriptorIndex := 337, attributes := #[] }, { accessFlags := 0, nameIndex := 494, descriptorIndex := 142, attributes := #[] }, { accessFlags := 8, nameIndex := 501, descriptorIndex := 391, attributes := #[] }, { accessFlags := 8, nameIndex := 36, descriptorIndex := 37, attributes := #[] }] 49 2 #[1106, 1108, 575, 1110, 1112] #[{ accessFlags := 18, nameIndex := 13, descriptorIndex := 14, attributes := #[] }, { accessFlags := 18, nameIndex := 17, descriptorIndex := 18, attributes := #[] }, { accessFlags := 2, nameIndex := 21, descriptorIndex := 22, attributes := #[] }, { accessFlags := 2, nameIndex := 25, descriptorIndex := 26, attributes := #[] }, { accessFlags := 26, nameIndex := 1116, descriptorIndex := 1117, attributes := #[] }, { accessFlags := 24, nameIndex := 40, descriptorIndex := 26, attributes := #[] }, { accessFlags := 26, nameIndex := 1101, descriptorIndex := 1102, attributes := #[] }, { accessFlags := 26, nameIndex := 1121, descriptorIndex := 1122, attributes := #[] }, { accessFlags := 25, nameIndex := 599, descriptorIndex := 600, attributes := #[] }, { accessFlags := 24, nameIndex := 1125, descriptorIndex := 18, attributes := #[] }, { accessFlags := 24, nameIndex := 1127, descriptorIndex := 18, attributes := #[] }])
  fields := #[{ name := "value", type := (.array .byte), accessFlags := 18, slot := 0, constantValue := 0 }, { name := "coder", type := .byte, accessFlags := 18, slot := 1, constantValue := 0 }, { name := "hash", type := .int, accessFlags := 2, slot := 2, constantValue := 0 }, { name := "hashIsZero", type := .boolean, accessFlags := 2, slot := 3, constantValue := 0 }, { name := "serialVersionUID", type := .long, accessFlags := 26, slot := 0, constantValue := 0 }, { name := "COMPACT_STRINGS", type := .boolean, accessFlags := 24, slot := 1, constantValue := 0 }, { name := "serialPersistentFields", type := (.array (.object "java/io/ObjectStreamField")), accessFlags := 26, slot := 2, constantValue := 0 }, { name := "REPL", type := .char, accessFlags := 26, slot := 3, constantValue := 0 }, { name := "CASE_INSENSITIVE_ORDER", type := (.object "java/util/Comparator"), accessFlags := 25, slot := 4, constantValue := 0 }, { name := "LATIN1", type := .byte, accessFlags := 24, slot := 5, constantValue := 0 }, { name := "UTF16", type := .byte, accessFlags := 24, slot := 6, constantValue := 0 }]
  methods := #[k7m0, k7m1, k7m2, k7m3, k7m4, k7m5, k7m6, k7m7, k7m8, k7m9, k7m10, k7m11, k7m12, k7m13, k7m14]
  instanceTypes := #[(.array .byte), .byte, .int, .boolean]
  staticTypes := #[.long, .boolean, (.array (.object "java/io/ObjectStreamField")), .char, (.object "java/util/Comparator"), .byte, .byte]
  resolved := Array.replicate 1451 none
  statics := some 0 }

def pool8 : Array CpInfo := pool [(1, .class_ 2), (0, u "java/lang/String"), (1, .class_ 6), (1, u "java/lang/Object"), (0, u "<init>"), (0, u "()V"), (0, .methodref 1 10), (0, .nameAndType 11 12), (0, u "checkIndex"), (0, u "(II)V"), (1, .class_ 16), (1, u "java/lang/StringLatin1"), (36, u "([BI)C"), (36, u "canEncode"), (14, u "(C)Z"), (15, u "$assertionsDisabled"), (0, u "Z"), (98, .class_ 223), (1, u "java/lang/StringLatin1$LinesSpliterator"), (28, u "charAt"), (28, u "equals"), (0, u "([B[B)Z"), (97, u "toBytes"), (1, u "(C)[B"), (7, .class_ 391), (0, u "java/lang/StringLatin1$CharsSpliterator")] 3

def k8m0 : Method := { name := "<init>", desc := "()V", sig := { parameters := [], returnType := none }, accessFlags := 0, code := none }
def k8c1 : Code := { maxStack := 2, maxLocals := 2, code := jdk_43_method_2_code, exceptionTable := #[], attributes := #[] }
def k8m1 : Method := { name := "charAt", desc := "([BI)C", sig := { parameters := [(.array .byte), .int], returnType := some .char }, accessFlags := 9, code := some k8c1 }
def k8c2 : Code := { maxStack := 2, maxLocals := 1, code := jdk_43_method_3_code, exceptionTable := #[], attributes := #[] }
def k8m2 : Method := { name := "canEncode", desc := "(C)Z", sig := { parameters := [.char], returnType := some .boolean }, accessFlags := 9, code := some k8c2 }
def k8c3 : Code := { maxStack := 3, maxLocals := 3, code := jdk_43_method_13_code, exceptionTable := #[], attributes := #[] }
def k8m3 : Method := { name := "equals", desc := "([B[B)Z", sig := { parameters := [(.array .byte), (.array .byte)], returnType := some .boolean }, accessFlags := 9, code := some k8c3 }
def k8c4 : Code := { maxStack := 4, maxLocals := 1, code := jdk_43_method_46_code, exceptionTable := #[], attributes := #[] }
def k8m4 : Method := { name := "toBytes", desc := "(C)[B", sig := { parameters := [.char], returnType := some (.array .byte) }, accessFlags := 9, code := some k8c4 }
/-- java/lang/StringLatin1 -/
def k8 : Class := { plain "java/lang/StringLatin1" (some 0) with
  accessFlags := 48
  interfaces := #[]
  cf := some (fileOf pool8 14 #[.nestMembers #[390, 221]] #[{ accessFlags := 0, nameIndex := 7, descriptorIndex := 8, attributes := #[] }, { accessFlags := 9, nameIndex := 252, descriptorIndex := 53, attributes := #[] }, { accessFlags := 9, nameIndex := 90, descriptorIndex := 105, attributes := #[] }, { accessFlags := 9, nameIndex := 281, descriptorIndex := 282, attributes := #[] }, { accessFlags := 9, nameIndex := 380, descriptorIndex := 382, attributes := #[] }] 48 4 #[] #[{ accessFlags := 4120, nameIndex := 121, descriptorIndex := 122, attributes := #[] }])
  fields := #[{ name := "$assertionsDisabled", type := .boolean, accessFlags := 4120, slot := 0, constantValue := 0 }]
  methods := #[k8m0, k8m1, k8m2, k8m3, k8m4]
  instanceTypes := #[]
  staticTypes := #[.boolean]
  resolved := Array.replicate 395 none
  statics := none }

def pool9 : Array CpInfo := pool [(6, .class_ 8), (1, u "java/lang/Object"), (0, u "<init>"), (0, u "()V"), (1, .class_ 14), (1, u "java/lang/StringUTF16"), (31, u "$assertionsDisabled"), (0, u "Z"), (13, u "HI_BYTE_SHIFT"), (0, u "I"), (2, u "LO_BYTE_SHIFT"), (49, .methodref 12 116), (0, .nameAndType 117 118), (0, u "compress"), (0, u "([CI[BII)I"), (3, u "([CII)[B"), (138, u "coderFromArrayLen"), (0, u "([BI)B"), (106, .class_ 371), (1, u "java/lang/StringUTF16$LinesSpliterator"), (58, u "MAX_LENGTH"), (196, .class_ 628), (0, u "java/lang/StringUTF16$CodePointsSpliterator"), (0, .class_ 630), (0, u "java/lang/StringUTF16$CharsSpliterator")] 4

def k9m0 : Method := { name := "<init>", desc := "()V", sig := { parameters := [], returnType := none }, accessFlags := 0, code := none }
def k9c1 : Code := { maxStack := 2, maxLocals := 2, code := jdk_52_method_15_code, exceptionTable := #[], attributes := #[] }
def k9m1 : Method := { name := "coderFromArrayLen", desc := "([BI)B", sig := { parameters := [(.array .byte), .int], returnType := some .byte }, accessFlags := 8, code := some k9c1 }
def k9c2 : Code := { maxStack := 5, maxLocals := 6, code := jdk_52_method_16_code, exceptionTable := #[], attributes := #[] }
def k9m2 : Method := { name := "compress", desc := "([CII)[B", sig := { parameters := [(.array .char), .int, .int], returnType := some (.array .byte) }, accessFlags := 9, code := some k9c2 }
def k9c3 : Code := { maxStack := 3, maxLocals := 7, code := jdk_52_method_21_code, exceptionTable := #[], attributes := #[] }
def k9m3 : Method := { name := "compress", desc := "([CI[BII)I", sig := { parameters := [(.array .char), .int, (.array .byte), .int, .int], returnType := some .int }, accessFlags := 9, code := some k9c3 }
/-- java/lang/StringUTF16 -/
def k9 : Class := { plain "java/lang/StringUTF16" (some 0) with
  accessFlags := 48
  interfaces := #[]
  cf := some (fileOf pool9 12 #[.nestMembers #[627, 629, 369]] #[{ accessFlags := 0, nameIndex := 9, descriptorIndex := 10, attributes := #[] }, { accessFlags := 8, nameIndex := 261, descriptorIndex := 262, attributes := #[] }, { accessFlags := 9, nameIndex := 117, descriptorIndex := 122, attributes := #[] }, { accessFlags := 9, nameIndex := 117, descriptorIndex := 118, attributes := #[] }] 48 6 #[] #[{ accessFlags := 26, nameIndex := 61, descriptorIndex := 62, attributes := #[] }, { accessFlags := 26, nameIndex := 65, descriptorIndex := 62, attributes := #[] }, { accessFlags := 24, nameIndex := 430, descriptorIndex := 62, attributes := #[] }, { accessFlags := 4120, nameIndex := 46, descriptorIndex := 47, attributes := #[] }])
  fields := #[{ name := "HI_BYTE_SHIFT", type := .int, accessFlags := 26, slot := 0, constantValue := 0 }, { name := "LO_BYTE_SHIFT", type := .int, accessFlags := 26, slot := 1, constantValue := 0 }, { name := "MAX_LENGTH", type := .int, accessFlags := 24, slot := 2, constantValue := 0 }, { name := "$assertionsDisabled", type := .boolean, accessFlags := 4120, slot := 3, constantValue := 0 }]
  methods := #[k9m0, k9m1, k9m2, k9m3]
  instanceTypes := #[]
  staticTypes := #[.int, .int, .int, .boolean]
  resolved := Array.replicate 635 none
  statics := none }

def pool10 : Array CpInfo := pool [(1, .methodref 2 3), (0, .class_ 4), (0, .nameAndType 5 6), (0, u "java/lang/Object"), (0, u "<init>"), (0, u "()V"), (0, .fieldref 8 9), (0, .class_ 10), (0, .nameAndType 11 12), (0, u "com/example/davka/davka/csv/Row"), (0, u "chars"), (0, u "[C"), (0, .fieldref 8 14), (0, .nameAndType 15 16), (0, u "ends"), (0, u "[I"), (0, .interfaceMethodref 18 19), (0, .class_ 20), (0, .nameAndType 21 22), (0, u "java/util/List"), (0, u "of"), (0, u "()Ljava/util/List;"), (0, .fieldref 8 24), (0, .nameAndType 25 26), (0, u "columns"), (0, u "Ljava/util/List;"), (0, .fieldref 8 28), (0, .nameAndType 29 12), (0, u "record"), (0, .fieldref 8 31), (0, .nameAndType 32 33), (0, u "length"), (0, u "I"), (0, .fieldref 8 35), (0, .nameAndType 36 33), (0, u "size"), (0, .interfaceMethodref 38 39), (0, .class_ 40), (0, .nameAndType 32 41), (0, u "java/lang/CharSequence"), (0, u "()I"), (0, .methodref 8 43), (0, .nameAndType 44 45), (0, u "room"), (0, u "(I)V"), (0, .interfaceMethodref 38 47), (0, .nameAndType 48 49), (0, u "charAt"), (0, u "(I)C"), (0, .methodref 8 51), (0, .nameAndType 52 6), (0, u "end"), (0, .methodref 8 54), (0, .nameAndType 55 56), (0, u "start"), (0, u "(I)I"), (0, .methodref 8 58), (0, .nameAndType 52 56), (2, u "append"), (7, .class_ 70), (0, u "java/lang/String"), (0, .methodref 69 72), (0, .nameAndType 5 73), (0, u "([CII)V"), (24, u "value"), (0, u "(I)Ljava/lang/String;"), (58, u "add"), (0, u "(Ljava/lang/CharSequence;)V"), (1, u "(C)Lcom/example/davka/davka/csv/Row;"), (4, u "discard")] 21

def k10c0 : Code := { maxStack := 2, maxLocals := 1, code := prog_116_method_1_code, exceptionTable := #[], attributes := #[] }
def k10m0 : Method := { name := "<init>", desc := "()V", sig := { parameters := [], returnType := none }, accessFlags := 1, code := some k10c0 }
def k10c1 : Code := { maxStack := 1, maxLocals := 1, code := prog_116_method_4_code, exceptionTable := #[], attributes := #[] }
def k10m1 : Method := { name := "size", desc := "()I", sig := { parameters := [], returnType := some .int }, accessFlags := 1, code := some k10c1 }
def k10c2 : Code := { maxStack := 5, maxLocals := 3, code := prog_116_method_5_code, exceptionTable := #[], attributes := #[] }
def k10m2 : Method := { name := "add", desc := "(Ljava/lang/CharSequence;)V", sig := { parameters := [(.object "java/lang/CharSequence")], returnType := none }, accessFlags := 1, code := some k10c2 }
def k10c3 : Code := { maxStack := 5, maxLocals := 2, code := prog_116_method_6_code, exceptionTable := #[], attributes := #[] }
def k10m3 : Method := { name := "append", desc := "(C)Lcom/example/davka/davka/csv/Row;", sig := { parameters := [.char], returnType := some (.object "com/example/davka/davka/csv/Row") }, accessFlags := 1, code := some k10c3 }
def k10c4 : Code := { maxStack := 5, maxLocals := 1, code := prog_116_method_8_code, exceptionTable := #[], attributes := #[] }
def k10m4 : Method := { name := "end", desc := "()V", sig := { parameters := [], returnType := none }, accessFlags := 1, code := some k10c4 }
def k10c5 : Code := { maxStack := 7, maxLocals := 2, code := prog_116_method_9_code, exceptionTable := #[], attributes := #[] }
def k10m5 : Method := { name := "value", desc := "(I)Ljava/lang/String;", sig := { parameters := [.int], returnType := some (.object "java/lang/String") }, accessFlags := 1, code := some k10c5 }
def k10c6 : Code := { maxStack := 3, maxLocals := 2, code := prog_116_method_10_code, exceptionTable := #[], attributes := #[] }
def k10m6 : Method := { name := "length", desc := "(I)I", sig := { parameters := [.int], returnType := some .int }, accessFlags := 1, code := some k10c6 }
def k10c7 : Code := { maxStack := 4, maxLocals := 1, code := prog_116_method_13_code, exceptionTable := #[], attributes := #[] }
def k10m7 : Method := { name := "discard", desc := "()V", sig := { parameters := [], returnType := none }, accessFlags := 0, code := some k10c7 }
def k10c8 : Code := { maxStack := 3, maxLocals := 2, code := prog_116_method_15_code, exceptionTable := #[], attributes := #[] }
def k10m8 : Method := { name := "start", desc := "(I)I", sig := { parameters := [.int], returnType := some .int }, accessFlags := 0, code := some k10c8 }
def k10c9 : Code := { maxStack := 4, maxLocals := 2, code := prog_116_method_16_code, exceptionTable := #[], attributes := #[] }
def k10m9 : Method := { name := "end", desc := "(I)I", sig := { parameters := [.int], returnType := some .int }, accessFlags := 0, code := some k10c9 }
def k10c10 : Code := { maxStack := 5, maxLocals := 2, code := prog_116_method_20_code, exceptionTable := #[], attributes := #[] }
def k10m10 : Method := { name := "room", desc := "(I)V", sig := { parameters := [.int], returnType := none }, accessFlags := 2, code := some k10c10 }
/-- com/example/davka/davka/csv/Row -/
def k10 : Class := { plain "com/example/davka/davka/csv/Row" (some 0) with
  accessFlags := 49
  interfaces := #[]
  cf := some (fileOf pool10 8 #[] #[{ accessFlags := 1, nameIndex := 5, descriptorIndex := 6, attributes := #[] }, { accessFlags := 1, nameIndex := 36, descriptorIndex := 41, attributes := #[] }, { accessFlags := 1, nameIndex := 158, descriptorIndex := 159, attributes := #[] }, { accessFlags := 1, nameIndex := 61, descriptorIndex := 161, attributes := #[] }, { accessFlags := 1, nameIndex := 52, descriptorIndex := 6, attributes := #[] }, { accessFlags := 1, nameIndex := 98, descriptorIndex := 99, attributes := #[] }, { accessFlags := 1, nameIndex := 32, descriptorIndex := 56, attributes := #[] }, { accessFlags := 0, nameIndex := 166, descriptorIndex := 6, attributes := #[] }, { accessFlags := 0, nameIndex := 55, descriptorIndex := 56, attributes := #[] }, { accessFlags := 0, nameIndex := 52, descriptorIndex := 56, attributes := #[] }, { accessFlags := 2, nameIndex := 44, descriptorIndex := 45, attributes := #[] }] 49 2 #[] #[{ accessFlags := 2, nameIndex := 11, descriptorIndex := 12, attributes := #[] }, { accessFlags := 2, nameIndex := 32, descriptorIndex := 33, attributes := #[] }, { accessFlags := 2, nameIndex := 15, descriptorIndex := 16, attributes := #[] }, { accessFlags := 2, nameIndex := 36, descriptorIndex := 33, attributes := #[] }, { accessFlags := 2, nameIndex := 25, descriptorIndex := 26, attributes := #[] }, { accessFlags := 2, nameIndex := 29, descriptorIndex := 12, attributes := #[] }])
  fields := #[{ name := "chars", type := (.array .char), accessFlags := 2, slot := 0, constantValue := 0 }, { name := "length", type := .int, accessFlags := 2, slot := 1, constantValue := 0 }, { name := "ends", type := (.array .int), accessFlags := 2, slot := 2, constantValue := 0 }, { name := "size", type := .int, accessFlags := 2, slot := 3, constantValue := 0 }, { name := "columns", type := (.object "java/util/List"), accessFlags := 2, slot := 4, constantValue := 0 }, { name := "record", type := (.array .char), accessFlags := 2, slot := 5, constantValue := 0 }]
  methods := #[k10m0, k10m1, k10m2, k10m3, k10m4, k10m5, k10m6, k10m7, k10m8, k10m9, k10m10]
  instanceTypes := #[(.array .char), .int, (.array .int), .int, (.object "java/util/List"), (.array .char)]
  staticTypes := #[]
  resolved := Array.replicate 188 none
  statics := none }

def pool11 : Array CpInfo := pool [(8, .class_ 10), (1, u "java/lang/Iterable"), (24, .class_ 36), (0, u "java/lang/Object")] 25

/-- java/lang/Iterable -/
def k11 : Class := { plain "java/lang/Iterable" (some 0) with
  accessFlags := 1537
  interfaces := #[]
  cf := some (fileOf pool11 8 #[] #[] 1537 35 #[] #[])
  fields := #[]
  methods := #[]
  instanceTypes := #[]
  staticTypes := #[]
  resolved := Array.replicate 62 none
  statics := none }

def pool12 : Array CpInfo := pool [(10, .class_ 12), (1, u "java/util/Collection"), (47, .class_ 61), (0, u "java/lang/Object"), (0, .class_ 63), (0, u "java/lang/Iterable")] 51

/-- java/util/Collection -/
def k12 : Class := { plain "java/util/Collection" (some 0) with
  accessFlags := 1537
  interfaces := #[11]
  cf := some (fileOf pool12 10 #[] #[] 1537 60 #[62] #[])
  fields := #[]
  methods := #[]
  instanceTypes := #[]
  staticTypes := #[]
  resolved := Array.replicate 115 none
  statics := none }

def pool13 : Array CpInfo := pool [(8, .class_ 10), (1, u "java/util/SequencedCollection"), (15, .class_ 27), (0, u "java/lang/Object"), (0, .class_ 29), (0, u "java/util/Collection")] 27

/-- java/util/SequencedCollection -/
def k13 : Class := { plain "java/util/SequencedCollection" (some 0) with
  accessFlags := 1537
  interfaces := #[12]
  cf := some (fileOf pool13 8 #[] #[] 1537 26 #[28] #[])
  fields := #[]
  methods := #[]
  instanceTypes := #[]
  staticTypes := #[]
  resolved := Array.replicate 57 none
  statics := none }

def pool14 : Array CpInfo := pool [(8, .class_ 10), (1, u "java/util/List"), (77, u "of"), (1, .fieldref 91 92), (0, .class_ 93), (0, .nameAndType 94 95), (0, u "java/util/ImmutableCollections"), (0, u "EMPTY_LIST"), (0, u "Ljava/util/ImmutableCollections$ListN;"), (7, .class_ 104), (0, u "java/lang/Object"), (14, u "()Ljava/util/List;"), (0, .class_ 121), (0, u "java/util/SequencedCollection")] 129

def k14c0 : Code := { maxStack := 1, maxLocals := 0, code := jdk_40_method_36_code, exceptionTable := #[], attributes := #[] }
def k14m0 : Method := { name := "of", desc := "()Ljava/util/List;", sig := { parameters := [], returnType := some (.object "java/util/List") }, accessFlags := 9, code := some k14c0 }
/-- java/util/List -/
def k14 : Class := { plain "java/util/List" (some 0) with
  accessFlags := 1537
  interfaces := #[13]
  cf := some (fileOf pool14 8 #[] #[{ accessFlags := 9, nameIndex := 88, descriptorIndex := 119, attributes := #[] }] 1537 103 #[120] #[])
  fields := #[]
  methods := #[k14m0]
  instanceTypes := #[]
  staticTypes := #[]
  resolved := Array.replicate 251 none
  statics := none }

def pool15 : Array CpInfo := pool [(2, .class_ 4), (1, u "java/lang/Object"), (0, u "<init>"), (0, u "()V"), (3, .class_ 11), (0, u "java/util/ImmutableCollections$List12"), (0, .class_ 13), (0, u "java/util/ImmutableCollections$ListN"), (3, u "Z"), (29, .class_ 49), (1, u "java/util/ImmutableCollections"), (0, u "$assertionsDisabled"), (5, u "[Ljava/lang/Object;"), (5, u "EMPTY_LIST"), (0, u "Ljava/util/ImmutableCollections$ListN;"), (8, u "EMPTY_LIST_NULLS"), (22, u "SALT32L"), (0, u "J"), (2, u "REVERSE"), (6, u "archivedObjects"), (2, u "EMPTY"), (0, u "Ljava/lang/Object;"), (0, .class_ 112), (0, u "java/util/ImmutableCollections$SetN"), (5, u "EMPTY_SET"), (0, u "Ljava/util/ImmutableCollections$SetN;"), (0, .class_ 121), (0, u "java/util/ImmutableCollections$MapN"), (3, u "EMPTY_MAP"), (0, u "Ljava/util/ImmutableCollections$MapN;"), (4, u "EXPAND_FACTOR"), (0, u "I"), (36, .class_ 170), (0, u "java/util/ImmutableCollections$MapN$MapNIterator"), (0, .class_ 172), (0, u "java/util/ImmutableCollections$MapN$1"), (0, .class_ 174), (0, u "java/util/ImmutableCollections$Map1"), (0, .class_ 176), (0, u "java/util/ImmutableCollections$AbstractImmutableMap"), (0, .class_ 178), (0, u "java/util/ImmutableCollections$SetN$SetNIterator"), (0, .class_ 180), (0, u "java/util/ImmutableCollections$Set12"), (0, .class_ 182), (0, u "java/util/ImmutableCollections$Set12$1"), (0, .class_ 184), (0, u "java/util/ImmutableCollections$AbstractImmutableSet"), (0, .class_ 186), (0, u "java/util/ImmutableCollections$SubList"), (0, .class_ 188), (0, u "java/util/ImmutableCollections$ListItr"), (0, .class_ 190), (0, u "java/util/ImmutableCollections$AbstractImmutableList"), (0, .class_ 192), (0, u "java/util/ImmutableCollections$AbstractImmutableCollection"), (0, .class_ 194), (0, u "java/util/ImmutableCollections$Access"), (0, .class_ 196), (0, u "java/util/ImmutableCollections$Access$1")] 16

def k15m0 : Method := { name := "<init>", desc := "()V", sig := { parameters := [], returnType := none }, accessFlags := 2, code := none }
/-- java/util/ImmutableCollections -/
def k15 : Class := { plain "java/util/ImmutableCollections" (some 0) with
  accessFlags := 32
  interfaces := #[]
  cf := some (fileOf pool15 47 #[.nestMembers #[120, 169, 171, 173, 175, 111, 177, 179, 181, 183, 12, 10, 185, 187, 189, 191, 193, 195]] #[{ accessFlags := 2, nameIndex := 5, descriptorIndex := 6, attributes := #[] }] 32 2 #[] #[{ accessFlags := 26, nameIndex := 95, descriptorIndex := 96, attributes := #[] }, { accessFlags := 26, nameIndex := 99, descriptorIndex := 17, attributes := #[] }, { accessFlags := 10, nameIndex := 106, descriptorIndex := 56, attributes := #[] }, { accessFlags := 26, nameIndex := 109, descriptorIndex := 110, attributes := #[] }, { accessFlags := 24, nameIndex := 62, descriptorIndex := 63, attributes := #[] }, { accessFlags := 24, nameIndex := 72, descriptorIndex := 63, attributes := #[] }, { accessFlags := 24, nameIndex := 118, descriptorIndex := 119, attributes := #[] }, { accessFlags := 24, nameIndex := 125, descriptorIndex := 126, attributes := #[] }, { accessFlags := 24, nameIndex := 131, descriptorIndex := 132, attributes := #[] }, { accessFlags := 4120, nameIndex := 50, descriptorIndex := 17, attributes := #[] }])
  fields := #[{ name := "SALT32L", type := .long, accessFlags := 26, slot := 0, constantValue := 0 }, { name := "REVERSE", type := .boolean, accessFlags := 26, slot := 1, constantValue := 0 }, { name := "archivedObjects", type := (.array (.object "java/lang/Object")), accessFlags := 10, slot := 2, constantValue := 0 }, { name := "EMPTY", type := (.object "java/lang/Object"), accessFlags := 26, slot := 3, constantValue := 0 }, { name := "EMPTY_LIST", type := (.object "java/util/ImmutableCollections$ListN"), accessFlags := 24, slot := 4, constantValue := 0 }, { name := "EMPTY_LIST_NULLS", type := (.object "java/util/ImmutableCollections$ListN"), accessFlags := 24, slot := 5, constantValue := 0 }, { name := "EMPTY_SET", type := (.object "java/util/ImmutableCollections$SetN"), accessFlags := 24, slot := 6, constantValue := 0 }, { name := "EMPTY_MAP", type := (.object "java/util/ImmutableCollections$MapN"), accessFlags := 24, slot := 7, constantValue := 0 }, { name := "EXPAND_FACTOR", type := .int, accessFlags := 24, slot := 8, constantValue := 0 }, { name := "$assertionsDisabled", type := .boolean, accessFlags := 4120, slot := 9, constantValue := 0 }]
  methods := #[k15m0]
  instanceTypes := #[]
  staticTypes := #[.long, .boolean, (.array (.object "java/lang/Object")), (.object "java/lang/Object"), (.object "java/util/ImmutableCollections$ListN"), (.object "java/util/ImmutableCollections$ListN"), (.object "java/util/ImmutableCollections$SetN"), (.object "java/util/ImmutableCollections$MapN"), .int, .boolean]
  resolved := Array.replicate 213 none
  statics := some 1 }

def pool16 : Array CpInfo := pool [(2, .class_ 4), (1, u "java/lang/Object"), (0, u "<init>"), (0, u "()V"), (17, .class_ 26), (1, u "jdk/internal/util/Preconditions"), (6, u "checkIndex"), (15, u "checkFromIndexSize"), (5, .class_ 56), (0, u "jdk/internal/util/Preconditions$4"), (57, .class_ 115), (0, u "jdk/internal/util/Preconditions$1"), (7, u "SIOOBE_FORMATTER"), (0, u "Ljava/util/function/BiFunction;"), (0, .class_ 126), (0, u "jdk/internal/util/Preconditions$2"), (3, u "AIOOBE_FORMATTER"), (0, .class_ 132), (0, u "jdk/internal/util/Preconditions$3"), (3, u "IOOBE_FORMATTER"), (41, u "(IILjava/util/function/BiFunction;)I"), (4, u "(IIILjava/util/function/BiFunction;)I")] 10

def k16m0 : Method := { name := "<init>", desc := "()V", sig := { parameters := [], returnType := none }, accessFlags := 1, code := none }
def k16c1 : Code := { maxStack := 3, maxLocals := 3, code := jdk_41_method_11_code, exceptionTable := #[], attributes := #[] }
def k16m1 : Method := { name := "checkIndex", desc := "(IILjava/util/function/BiFunction;)I", sig := { parameters := [.int, .int, (.object "java/util/function/BiFunction")], returnType := some .int }, accessFlags := 9, code := some k16c1 }
def k16c2 : Code := { maxStack := 4, maxLocals := 4, code := jdk_41_method_13_code, exceptionTable := #[], attributes := #[] }
def k16m2 : Method := { name := "checkFromIndexSize", desc := "(IIILjava/util/function/BiFunction;)I", sig := { parameters := [.int, .int, .int, (.object "java/util/function/BiFunction")], returnType := some .int }, accessFlags := 9, code := some k16c2 }
/-- jdk/internal/util/Preconditions -/
def k16 : Class := { plain "jdk/internal/util/Preconditions" (some 0) with
  accessFlags := 33
  interfaces := #[]
  cf := some (fileOf pool16 24 #[.nestMembers #[55, 131, 125, 114]] #[{ accessFlags := 1, nameIndex := 5, descriptorIndex := 6, attributes := #[] }, { accessFlags := 9, nameIndex := 33, descriptorIndex := 178, attributes := #[] }, { accessFlags := 9, nameIndex := 49, descriptorIndex := 183, attributes := #[] }] 33 2 #[] #[{ accessFlags := 25, nameIndex := 123, descriptorIndex := 124, attributes := #[] }, { accessFlags := 25, nameIndex := 130, descriptorIndex := 124, attributes := #[] }, { accessFlags := 25, nameIndex := 136, descriptorIndex := 124, attributes := #[] }])
  fields := #[{ name := "SIOOBE_FORMATTER", type := (.object "java/util/function/BiFunction"), accessFlags := 25, slot := 0, constantValue := 0 }, { name := "AIOOBE_FORMATTER", type := (.object "java/util/function/BiFunction"), accessFlags := 25, slot := 1, constantValue := 0 }, { name := "IOOBE_FORMATTER", type := (.object "java/util/function/BiFunction"), accessFlags := 25, slot := 2, constantValue := 0 }]
  methods := #[k16m0, k16m1, k16m2]
  instanceTypes := #[]
  staticTypes := #[(.object "java/util/function/BiFunction"), (.object "java/util/function/BiFunction"), (.object "java/util/function/BiFunction")]
  resolved := Array.replicate 194 none
  statics := some 2 }

def pool17 : Array CpInfo := pool [(9, u "<init>"), (6, .class_ 18), (1, u "java/lang/Object"), (0, u "()V"), (1, .class_ 23), (1, u "jdk/internal/util/ArraysSupport"), (0, u "LOG2_ARRAY_LONG_INDEX_SCALE"), (0, u "I"), (2, u "U"), (0, u "Ljdk/internal/misc/Unsafe;"), (8, u "BIG_ENDIAN"), (0, u "Z"), (8, u "LOG2_BYTE_BIT_SIZE"), (4, u "LOG2_ARRAY_INT_INDEX_SCALE"), (54, u "JLA"), (0, u "Ljdk/internal/access/JavaLangAccess;"), (11, u "LOG2_ARRAY_BOOLEAN_INDEX_SCALE"), (9, u "LOG2_ARRAY_BYTE_INDEX_SCALE"), (5, u "LOG2_ARRAY_CHAR_INDEX_SCALE"), (5, u "LOG2_ARRAY_SHORT_INDEX_SCALE"), (18, u "LOG2_ARRAY_FLOAT_INDEX_SCALE"), (24, u "LOG2_ARRAY_DOUBLE_INDEX_SCALE"), (89, u "T_BOOLEAN"), (2, u "T_CHAR"), (1, u "T_FLOAT"), (1, u "T_DOUBLE"), (1, u "T_BYTE"), (1, u "T_SHORT"), (1, u "T_INT"), (1, u "T_LONG"), (1, u "SOFT_MAX_ARRAY_LENGTH")] 83

def k17m0 : Method := { name := "<init>", desc := "()V", sig := { parameters := [], returnType := none }, accessFlags := 2, code := none }
/-- jdk/internal/util/ArraysSupport -/
def k17 : Class := { plain "jdk/internal/util/ArraysSupport" (some 0) with
  accessFlags := 33
  interfaces := #[]
  cf := some (fileOf pool17 21 #[] #[{ accessFlags := 2, nameIndex := 9, descriptorIndex := 19, attributes := #[] }] 33 16 #[] #[{ accessFlags := 24, nameIndex := 28, descriptorIndex := 29, attributes := #[] }, { accessFlags := 26, nameIndex := 38, descriptorIndex := 39, attributes := #[] }, { accessFlags := 25, nameIndex := 121, descriptorIndex := 25, attributes := #[] }, { accessFlags := 25, nameIndex := 131, descriptorIndex := 25, attributes := #[] }, { accessFlags := 25, nameIndex := 137, descriptorIndex := 25, attributes := #[] }, { accessFlags := 25, nameIndex := 143, descriptorIndex := 25, attributes := #[] }, { accessFlags := 25, nameIndex := 53, descriptorIndex := 25, attributes := #[] }, { accessFlags := 25, nameIndex := 24, descriptorIndex := 25, attributes := #[] }, { accessFlags := 25, nameIndex := 162, descriptorIndex := 25, attributes := #[] }, { accessFlags := 25, nameIndex := 187, descriptorIndex := 25, attributes := #[] }, { accessFlags := 26, nameIndex := 48, descriptorIndex := 25, attributes := #[] }, { accessFlags := 25, nameIndex := 277, descriptorIndex := 25, attributes := #[] }, { accessFlags := 25, nameIndex := 280, descriptorIndex := 25, attributes := #[] }, { accessFlags := 25, nameIndex := 282, descriptorIndex := 25, attributes := #[] }, { accessFlags := 25, nameIndex := 284, descriptorIndex := 25, attributes := #[] }, { accessFlags := 25, nameIndex := 286, descriptorIndex := 25, attributes := #[] }, { accessFlags := 25, nameIndex := 288, descriptorIndex := 25, attributes := #[] }, { accessFlags := 25, nameIndex := 290, descriptorIndex := 25, attributes := #[] }, { accessFlags := 25, nameIndex := 292, descriptorIndex := 25, attributes := #[] }, { accessFlags := 26, nameIndex := 108, descriptorIndex := 109, attributes := #[] }, { accessFlags := 25, nameIndex := 294, descriptorIndex := 25, attributes := #[] }])
  fields := #[{ name := "U", type := (.object "jdk/internal/misc/Unsafe"), accessFlags := 24, slot := 0, constantValue := 0 }, { name := "BIG_ENDIAN", type := .boolean, accessFlags := 26, slot := 1, constantValue := 0 }, { name := "LOG2_ARRAY_BOOLEAN_INDEX_SCALE", type := .int, accessFlags := 25, slot := 2, constantValue := 0 }, { name := "LOG2_ARRAY_BYTE_INDEX_SCALE", type := .int, accessFlags := 25, slot := 3, constantValue := 0 }, { name := "LOG2_ARRAY_CHAR_INDEX_SCALE", type := .int, accessFlags := 25, slot := 4, constantValue := 0 }, { name := "LOG2_ARRAY_SHORT_INDEX_SCALE", type := .int, accessFlags := 25, slot := 5, constantValue := 0 }, { name := "LOG2_ARRAY_INT_INDEX_SCALE", type := .int, accessFlags := 25, slot := 6, constantValue := 0 }, { name := "LOG2_ARRAY_LONG_INDEX_SCALE", type := .int, accessFlags := 25, slot := 7, constantValue := 0 }, { name := "LOG2_ARRAY_FLOAT_INDEX_SCALE", type := .int, accessFlags := 25, slot := 8, constantValue := 0 }, { name := "LOG2_ARRAY_DOUBLE_INDEX_SCALE", type := .int, accessFlags := 25, slot := 9, constantValue := 0 }, { name := "LOG2_BYTE_BIT_SIZE", type := .int, accessFlags := 26, slot := 10, constantValue := 0 }, { name := "T_BOOLEAN", type := .int, accessFlags := 25, slot := 11, constantValue := 0 }, { name := "T_CHAR", type := .int, accessFlags := 25, slot := 12, constantValue := 0 }, { name := "T_FLOAT", type := .int, accessFlags := 25, slot := 13, constantValue := 0 }, { name := "T_DOUBLE", type := .int, accessFlags := 25, slot := 14, constantValue := 0 }, { name := "T_BYTE", type := .int, accessFlags := 25, slot := 15, constantValue := 0 }, { name := "T_SHORT", type := .int, accessFlags := 25, slot := 16, constantValue := 0 }, { name := "T_INT", type := .int, accessFlags := 25, slot := 17, constantValue := 0 }, { name := "T_LONG", type := .int, accessFlags := 25, slot := 18, constantValue := 0 }, { name := "JLA", type := (.object "jdk/internal/access/JavaLangAccess"), accessFlags := 26, slot := 19, constantValue := 0 }, { name := "SOFT_MAX_ARRAY_LENGTH", type := .int, accessFlags := 25, slot := 20, constantValue := 0 }]
  methods := #[k17m0]
  instanceTypes := #[]
  staticTypes := #[(.object "jdk/internal/misc/Unsafe"), .boolean, .int, .int, .int, .int, .int, .int, .int, .int, .int, .int, .int, .int, .int, .int, .int, .int, .int, (.object "jdk/internal/access/JavaLangAccess"), .int]
  resolved := Array.replicate 378 none
  statics := none }

def pool18 : Array CpInfo := pool [(2, .class_ 4), (1, u "java/lang/Object"), (0, u "<init>"), (0, u "()V"), (1, .class_ 10), (1, u "java/util/AbstractCollection"), (66, .class_ 78), (0, u "java/util/Collection")] 81

def k18m0 : Method := { name := "<init>", desc := "()V", sig := { parameters := [], returnType := none }, accessFlags := 4, code := none }
/-- java/util/AbstractCollection -/
def k18 : Class := { plain "java/util/AbstractCollection" (some 0) with
  accessFlags := 1057
  interfaces := #[12]
  cf := some (fileOf pool18 8 #[] #[{ accessFlags := 4, nameIndex := 5, descriptorIndex := 6, attributes := #[] }] 1057 2 #[77] #[])
  fields := #[]
  methods := #[k18m0]
  instanceTypes := #[]
  staticTypes := #[]
  resolved := Array.replicate 160 none
  statics := none }

def pool19 : Array CpInfo := pool [(2, .class_ 4), (1, u "java/util/AbstractCollection"), (0, u "<init>"), (0, u "()V"), (1, .class_ 10), (1, u "java/util/ImmutableCollections"), (2, .class_ 14), (0, u "java/util/ImmutableCollections$AbstractImmutableCollection")] 41

def k19m0 : Method := { name := "<init>", desc := "()V", sig := { parameters := [], returnType := none }, accessFlags := 0, code := none }
/-- java/util/ImmutableCollections$AbstractImmutableCollection -/
def k19 : Class := { plain "java/util/ImmutableCollections$AbstractImmutableCollection" (some 18) with
  accessFlags := 1056
  interfaces := #[]
  cf := some (fileOf pool19 13 #[.nestHost 8] #[{ accessFlags := 0, nameIndex := 5, descriptorIndex := 6, attributes := #[] }] 1056 2 #[] #[])
  fields := #[]
  methods := #[k19m0]
  instanceTypes := #[]
  staticTypes := #[]
  resolved := Array.replicate 56 none
  statics := none }

def pool20 : Array CpInfo := pool [(1, .class_ 2), (0, u "java/util/RandomAccess"), (0, .class_ 4), (0, u "java/lang/Object")] 2

/-- java/util/RandomAccess -/
def k20 : Class := { plain "java/util/RandomAccess" (some 0) with
  accessFlags := 1537
  interfaces := #[]
  cf := some (fileOf pool20 1 #[] #[] 1537 3 #[] #[])
  fields := #[]
  methods := #[]
  instanceTypes := #[]
  staticTypes := #[]
  resolved := Array.replicate 7 none
  statics := none }

def pool21 : Array CpInfo := pool [(2, .class_ 4), (1, u "java/util/ImmutableCollections$AbstractImmutableCollection"), (0, u "<init>"), (0, u "()V"), (1, .class_ 10), (1, u "java/util/ImmutableCollections"), (3, .class_ 16), (1, u "java/util/ImmutableCollections$AbstractImmutableList"), (60, .class_ 78), (0, u "java/util/List"), (45, .class_ 125), (0, u "java/util/RandomAccess")] 70

def k21m0 : Method := { name := "<init>", desc := "()V", sig := { parameters := [], returnType := none }, accessFlags := 0, code := none }
/-- java/util/ImmutableCollections$AbstractImmutableList -/
def k21 : Class := { plain "java/util/ImmutableCollections$AbstractImmutableList" (some 19) with
  accessFlags := 1056
  interfaces := #[14, 20]
  cf := some (fileOf pool21 14 #[.nestHost 8] #[{ accessFlags := 0, nameIndex := 5, descriptorIndex := 6, attributes := #[] }] 1056 2 #[77, 124] #[])
  fields := #[]
  methods := #[k21m0]
  instanceTypes := #[]
  staticTypes := #[]
  resolved := Array.replicate 196 none
  statics := none }

def pool22 : Array CpInfo := pool [(2, .class_ 4), (1, u "java/util/ImmutableCollections$AbstractImmutableList"), (3, .class_ 10), (1, u "java/util/ImmutableCollections$ListN"), (0, u "elements"), (0, u "[Ljava/lang/Object;"), (2, u "allowNulls"), (0, u "Z"), (42, .class_ 60), (0, u "java/io/Serializable"), (53, .class_ 115), (0, u "java/util/ImmutableCollections")] 3

/-- java/util/ImmutableCollections$ListN -/
def k22 : Class := { plain "java/util/ImmutableCollections$ListN" (some 21) with
  accessFlags := 48
  interfaces := #[2]
  cf := some (fileOf pool22 8 #[.nestHost 114] #[] 48 2 #[59] #[{ accessFlags := 18, nameIndex := 11, descriptorIndex := 12, attributes := #[] }, { accessFlags := 18, nameIndex := 15, descriptorIndex := 16, attributes := #[] }])
  fields := #[{ name := "elements", type := (.array (.object "java/lang/Object")), accessFlags := 18, slot := 0, constantValue := 0 }, { name := "allowNulls", type := .boolean, accessFlags := 18, slot := 1, constantValue := 0 }]
  methods := #[]
  instanceTypes := #[(.array (.object "java/lang/Object")), .boolean]
  staticTypes := #[]
  resolved := Array.replicate 119 none
  statics := none }

def pool23 : Array CpInfo := pool [(1, u "java/lang/Cloneable"), (0, .class_ 1), (0, u "java/lang/Object"), (0, .class_ 3)] 3

/-- java/lang/Cloneable -/
def k23 : Class := { plain "java/lang/Cloneable" (some 0) with
  accessFlags := 1537
  interfaces := #[]
  cf := some (fileOf pool23 2 #[] #[] 1537 4 #[] #[])
  fields := #[]
  methods := #[]
  instanceTypes := #[]
  staticTypes := #[]
  resolved := Array.replicate 8 none
  statics := none }

/-- the primitive byte -/
def k24 : Class := { plain "byte" none with kind := .primitive 'B', accessFlags := 0x411 }
/-- [B -/
def k25 : Class := { plain "[B" (some 0) with kind := .array 24 .byte, interfaces := #[23, 2], accessFlags := 1041 }

/-- the primitive char -/
def k26 : Class := { plain "char" none with kind := .primitive 'C', accessFlags := 0x411 }
/-- [C -/
def k27 : Class := { plain "[C" (some 0) with kind := .array 26 .char, interfaces := #[23, 2], accessFlags := 1041 }

/-- the primitive int -/
def k28 : Class := { plain "int" none with kind := .primitive 'I', accessFlags := 0x411 }
/-- [I -/
def k29 : Class := { plain "[I" (some 0) with kind := .array 28 .int, interfaces := #[23, 2], accessFlags := 1041 }

/-- [Ljava/lang/Object; -/
def k30 : Class := { plain "[Ljava/lang/Object;" (some 0) with kind := .array 0 (.object "java/lang/Object"), interfaces := #[23, 2], accessFlags := 1041 }

def heap : Heap := #[{ cls := 7, slots := #[.long 0, .int 1, .null, .int 0, .null, .int 0, .int 0], vm := .statics 7 },
  { cls := 15, slots := #[.long 0, .int 0, .null, .null, .ref 4, .null, .null, .null, .int 0, .int 0], vm := .statics 15 },
  { cls := 16, slots := #[.null, .null, .null], vm := .statics 16 },
  { cls := 30, slots := #[], vm := .none },
  { cls := 22, slots := #[.ref 3, .int 0], vm := .none }]
def classes : Array Class := #[k0, k1, k2, k3, k4, k5, k6, k7, k8, k9, k10, k11, k12, k13, k14, k15, k16, k17, k18, k19, k20, k21, k22, k23, k24, k25, k26, k27, k28, k29, k30]
def interned : List (Array UInt16 × Addr) := []
def slotsUsed : Nat := 22
def theMethod : MethodId := ⟨1, 1⟩
def args0 : Array Value := #[.int 5, .int 3, .int 7, .int 2, .int 9]
def aboutOver (below : List Frame) : State where
  vm := { classes := classes, interned := interned.toArray }
  heap := heap
  slotsUsed := slotsUsed
  threads := #[{ frames := .invoking theMethod args0 :: below }]
def below0 : List Frame := [.native { method := ⟨0, 0⟩, args := #[] }]
def about1 : State := aboutOver below0
def p0 : Program := .bare "" "" ""
def e0 : Env := launch0.env 0 0 0
theorem w_frames : about1.frames = Frame.invoking theMethod args0 :: below0 := rfl
set_option maxRecDepth 65536 in
theorem w_args : argsFit about1.vm theMethod args0 = true := by decide +kernel
set_option maxRecDepth 65536 in
theorem w_heap : heapFits about1 = true := by decide +kernel
set_option maxRecDepth 65536 in
theorem w_runnable : about1.curStatus? = some .runnable := by decide +kernel
set_option maxRecDepth 65536 in
theorem w_alone : about1.alone = true := by decide +kernel
set_option maxRecDepth 65536 in
theorem w_named : about1.methodNamed? x = some theMethod := by decide +kernel
set_option maxRecDepth 65536 in
theorem w_hears : about1.hears theMethod below0 = true := by decide +kernel
set_option maxRecDepth 65536 in
theorem w_ripe : about1.ripe theMethod args0 below0 = true := by decide +kernel
theorem w_running : about1.status = .running := rfl
set_option maxRecDepth 65536 in
theorem w_room : about1.hasRoom e0.platform room_1 = true :=
  launch0.hasRoom_least _ room_1 (by decide +kernel) (by decide +kernel) (by decide +kernel) (by decide +kernel) (by decide +kernel) (by decide +kernel)
theorem allAtoms_all (ts : List Jvm.Cond) (a : Array Jvm.Value) (st : Jvm.State) : (allAtoms ts).before a st = ts.all (fun c => c.before a st) := by
  induction ts with
  | nil => rfl
  | cons c t ih =>
    show (Jvm.Cond.and c (allAtoms t)).before a st = _
    rw [Jvm.Cond.before_and, ih, List.all_cons]
def words1 : List Jvm.Cond := Jvm.Cond.code x code maxLocals ret :: tables_1
/-- a 'code' word, met by the world's own term for the bytes: nothing is compared byte by byte -/
theorem code_word {y : MethodName} {bytes : ByteArray} {mx : Nat} {rt : Option FieldType} {a : Array Value} {s : State} {m : MethodId} {meth : Method} {c : Code} (h1 : s.methodNamed? y = some m) (h2 : s.vm.method? m = some meth) (h3 : meth.code = some c) (h4 : c.code = bytes)
    (h5 : (c.maxLocals == mx && c.exceptionTable.isEmpty && decide (c.maxStack ≤ mostOperands) && decide (meth.sig.returnType = rt) && !meth.locks && decide (parseMethodDescriptor y.desc = some meth.sig)) = true) : (Jvm.Cond.code y bytes mx rt).before a s = true := by
  simp only [Bool.and_eq_true, beq_iff_eq, Bool.not_eq_true', decide_eq_true_eq] at h5
  obtain ⟨⟨⟨⟨⟨g1, g2⟩, g3⟩, g4⟩, g5⟩, g6⟩ := h5
  simp [Cond.before, Cond.holds, Cond.value, h1, h2, h3, h4, g1, g2, g3, g4, g5, g6]
def isCode : Jvm.Cond → Bool
  | .code _ _ _ _ => true
  | _ => false
theorem all_split {L : List Jvm.Cond} {P : Jvm.Cond → Bool} (h1 : L.all (fun c => isCode c || P c) = true) (h2 : ∀ c ∈ L.filter isCode, P c = true) : L.all P = true := by
  refine List.all_eq_true.mpr fun c hc => ?_
  have h := List.all_eq_true.mp h1 c hc
  rcases Bool.eq_false_or_eq_true (isCode c) with hi | hi
  · exact h2 c (List.mem_filter.mpr ⟨hc, hi⟩)
  · simpa [hi] using h
set_option maxRecDepth 65536 in
theorem w_c0 : (Jvm.Cond.code x code maxLocals ret).before args0 about1 = true := code_word (m := ⟨1, 1⟩) (meth := k1m1) (c := k1c1) (by decide +kernel) rfl rfl rfl (by decide +kernel)
set_option maxRecDepth 65536 in
theorem w_c1 : (Jvm.Cond.code ({ cls := "java/lang/String", name := "valueOf", desc := "(C)Ljava/lang/String;" } : Jvm.MethodName) jdk_42_method_139_code (1 : Nat) (Option.some (Jvm.ClassFile.FieldType.object "java/lang/String"))).before args0 about1 = true := code_word (m := ⟨7, 8⟩) (meth := k7m8) (c := k7c8) (by decide +kernel) rfl rfl rfl (by decide +kernel)
set_option maxRecDepth 65536 in
theorem w_c2 : (Jvm.Cond.code ({ cls := "java/lang/StringLatin1", name := "canEncode", desc := "(C)Z" } : Jvm.MethodName) jdk_43_method_3_code (1 : Nat) (Option.some Jvm.ClassFile.FieldType.boolean)).before args0 about1 = true := code_word (m := ⟨8, 2⟩) (meth := k8m2) (c := k8c2) (by decide +kernel) rfl rfl rfl (by decide +kernel)
set_option maxRecDepth 65536 in
theorem w_c3 : (Jvm.Cond.code ({ cls := "java/lang/StringLatin1", name := "toBytes", desc := "(C)[B" } : Jvm.MethodName) jdk_43_method_46_code (1 : Nat) (Option.some (Jvm.ClassFile.FieldType.array Jvm.ClassFile.FieldType.byte))).before args0 about1 = true := code_word (m := ⟨8, 4⟩) (meth := k8m4) (c := k8c4) (by decide +kernel) rfl rfl rfl (by decide +kernel)
set_option maxRecDepth 65536 in
theorem w_c4 : (Jvm.Cond.code ({ cls := "java/lang/String", name := "<init>", desc := "([BB)V" } : Jvm.MethodName) jdk_42_method_151_code (3 : Nat) (Option.none : Option Jvm.ClassFile.FieldType)).before args0 about1 = true := code_word (m := ⟨7, 10⟩) (meth := k7m10) (c := k7c10) (by decide +kernel) rfl rfl rfl (by decide +kernel)
set_option maxRecDepth 65536 in
theorem w_c5 : (Jvm.Cond.code ({ cls := "java/lang/Object", name := "<init>", desc := "()V" } : Jvm.MethodName) object_method_1_code (1 : Nat) (Option.none : Option Jvm.ClassFile.FieldType)).before args0 about1 = true := code_word (m := ⟨0, 0⟩) (meth := k0m0) (c := k0c0) (by decide +kernel) rfl rfl rfl (by decide +kernel)
set_option maxRecDepth 65536 in
theorem w_c6 : (Jvm.Cond.code ({ cls := "java/lang/String", name := "<init>", desc := "([C)V" } : Jvm.MethodName) jdk_42_method_3_code (2 : Nat) (Option.none : Option Jvm.ClassFile.FieldType)).before args0 about1 = true := code_word (m := ⟨7, 1⟩) (meth := k7m1) (c := k7c1) (by decide +kernel) rfl rfl rfl (by decide +kernel)
set_option maxRecDepth 65536 in
theorem w_c7 : (Jvm.Cond.code ({ cls := "java/lang/String", name := "<init>", desc := "([CIILjava/lang/Void;)V" } : Jvm.MethodName) jdk_42_method_149_code (6 : Nat) (Option.none : Option Jvm.ClassFile.FieldType)).before args0 about1 = true := code_word (m := ⟨7, 9⟩) (meth := k7m9) (c := k7c9) (by decide +kernel) rfl rfl rfl (by decide +kernel)
set_option maxRecDepth 65536 in
theorem w_c8 : (Jvm.Cond.code ({ cls := "java/lang/StringUTF16", name := "compress", desc := "([CII)[B" } : Jvm.MethodName) jdk_52_method_16_code (6 : Nat) (Option.some (Jvm.ClassFile.FieldType.array Jvm.ClassFile.FieldType.byte))).before args0 about1 = true := code_word (m := ⟨9, 2⟩) (meth := k9m2) (c := k9c2) (by decide +kernel) rfl rfl rfl (by decide +kernel)
set_option maxRecDepth 65536 in
theorem w_c9 : (Jvm.Cond.code ({ cls := "java/lang/StringUTF16", name := "compress", desc := "([CI[BII)I" } : Jvm.MethodName) jdk_52_method_21_code (7 : Nat) (Option.some Jvm.ClassFile.FieldType.int)).before args0 about1 = true := code_word (m := ⟨9, 3⟩) (meth := k9m3) (c := k9c3) (by decide +kernel) rfl rfl rfl (by decide +kernel)
set_option maxRecDepth 65536 in
theorem w_c10 : (Jvm.Cond.code ({ cls := "java/lang/StringUTF16", name := "coderFromArrayLen", desc := "([BI)B" } : Jvm.MethodName) jdk_52_method_15_code (2 : Nat) (Option.some Jvm.ClassFile.FieldType.byte)).before args0 about1 = true := code_word (m := ⟨9, 1⟩) (meth := k9m1) (c := k9c1) (by decide +kernel) rfl rfl rfl (by decide +kernel)
set_option maxRecDepth 65536 in
theorem w_c11 : (Jvm.Cond.code ({ cls := "com/example/davka/davka/csv/Row", name := "<init>", desc := "()V" } : Jvm.MethodName) prog_116_method_1_code (1 : Nat) (Option.none : Option Jvm.ClassFile.FieldType)).before args0 about1 = true := code_word (m := ⟨10, 0⟩) (meth := k10m0) (c := k10c0) (by decide +kernel) rfl rfl rfl (by decide +kernel)
set_option maxRecDepth 65536 in
theorem w_c12 : (Jvm.Cond.code ({ cls := "java/util/List", name := "of", desc := "()Ljava/util/List;" } : Jvm.MethodName) jdk_40_method_36_code (0 : Nat) (Option.some (Jvm.ClassFile.FieldType.object "java/util/List"))).before args0 about1 = true := code_word (m := ⟨14, 0⟩) (meth := k14m0) (c := k14c0) (by decide +kernel) rfl rfl rfl (by decide +kernel)
set_option maxRecDepth 65536 in
theorem w_c13 : (Jvm.Cond.code ({ cls := "com/example/davka/davka/csv/Row", name := "discard", desc := "()V" } : Jvm.MethodName) prog_116_method_13_code (1 : Nat) (Option.none : Option Jvm.ClassFile.FieldType)).before args0 about1 = true := code_word (m := ⟨10, 7⟩) (meth := k10m7) (c := k10c7) (by decide +kernel) rfl rfl rfl (by decide +kernel)
set_option maxRecDepth 65536 in
theorem w_c14 : (Jvm.Cond.code ({ cls := "com/example/davka/davka/csv/Row", name := "end", desc := "()V" } : Jvm.MethodName) prog_116_method_8_code (1 : Nat) (Option.none : Option Jvm.ClassFile.FieldType)).before args0 about1 = true := code_word (m := ⟨10, 4⟩) (meth := k10m4) (c := k10c4) (by decide +kernel) rfl rfl rfl (by decide +kernel)
set_option maxRecDepth 65536 in
theorem w_c15 : (Jvm.Cond.code ({ cls := "com/example/davka/davka/csv/Row", name := "size", desc := "()I" } : Jvm.MethodName) prog_116_method_4_code (1 : Nat) (Option.some Jvm.ClassFile.FieldType.int)).before args0 about1 = true := code_word (m := ⟨10, 1⟩) (meth := k10m1) (c := k10c1) (by decide +kernel) rfl rfl rfl (by decide +kernel)
set_option maxRecDepth 65536 in
theorem w_c16 : (Jvm.Cond.code ({ cls := "com/example/davka/davka/csv/Row", name := "length", desc := "(I)I" } : Jvm.MethodName) prog_116_method_10_code (2 : Nat) (Option.some Jvm.ClassFile.FieldType.int)).before args0 about1 = true := code_word (m := ⟨10, 6⟩) (meth := k10m6) (c := k10c6) (by decide +kernel) rfl rfl rfl (by decide +kernel)
set_option maxRecDepth 65536 in
theorem w_c17 : (Jvm.Cond.code ({ cls := "com/example/davka/davka/csv/Row", name := "end", desc := "(I)I" } : Jvm.MethodName) prog_116_method_16_code (2 : Nat) (Option.some Jvm.ClassFile.FieldType.int)).before args0 about1 = true := code_word (m := ⟨10, 9⟩) (meth := k10m9) (c := k10c9) (by decide +kernel) rfl rfl rfl (by decide +kernel)
set_option maxRecDepth 65536 in
theorem w_c18 : (Jvm.Cond.code ({ cls := "com/example/davka/davka/csv/Row", name := "start", desc := "(I)I" } : Jvm.MethodName) prog_116_method_15_code (2 : Nat) (Option.some Jvm.ClassFile.FieldType.int)).before args0 about1 = true := code_word (m := ⟨10, 8⟩) (meth := k10m8) (c := k10c8) (by decide +kernel) rfl rfl rfl (by decide +kernel)
set_option maxRecDepth 65536 in
theorem w_c19 : (Jvm.Cond.code ({ cls := "com/example/davka/davka/csv/Row", name := "value", desc := "(I)Ljava/lang/String;" } : Jvm.MethodName) prog_116_method_9_code (2 : Nat) (Option.some (Jvm.ClassFile.FieldType.object "java/lang/String"))).before args0 about1 = true := code_word (m := ⟨10, 5⟩) (meth := k10m5) (c := k10c5) (by decide +kernel) rfl rfl rfl (by decide +kernel)
set_option maxRecDepth 65536 in
theorem w_c20 : (Jvm.Cond.code ({ cls := "java/lang/String", name := "<init>", desc := "([CII)V" } : Jvm.MethodName) jdk_42_method_4_code (4 : Nat) (Option.none : Option Jvm.ClassFile.FieldType)).before args0 about1 = true := code_word (m := ⟨7, 2⟩) (meth := k7m2) (c := k7c2) (by decide +kernel) rfl rfl rfl (by decide +kernel)
set_option maxRecDepth 65536 in
theorem w_c21 : (Jvm.Cond.code ({ cls := "java/lang/String", name := "rangeCheck", desc := "([CII)Ljava/lang/Void;" } : Jvm.MethodName) jdk_42_method_5_code (3 : Nat) (Option.some (Jvm.ClassFile.FieldType.object "java/lang/Void"))).before args0 about1 = true := code_word (m := ⟨7, 3⟩) (meth := k7m3) (c := k7c3) (by decide +kernel) rfl rfl rfl (by decide +kernel)
set_option maxRecDepth 65536 in
theorem w_c22 : (Jvm.Cond.code ({ cls := "java/lang/String", name := "checkBoundsOffCount", desc := "(III)I" } : Jvm.MethodName) jdk_42_method_157_code (3 : Nat) (Option.some Jvm.ClassFile.FieldType.int)).before args0 about1 = true := code_word (m := ⟨7, 14⟩) (meth := k7m14) (c := k7c14) (by decide +kernel) rfl rfl rfl (by decide +kernel)
set_option maxRecDepth 65536 in
theorem w_c23 : (Jvm.Cond.code ({ cls := "jdk/internal/util/Preconditions", name := "checkFromIndexSize", desc := "(IIILjava/util/function/BiFunction;)I" } : Jvm.MethodName) jdk_41_method_13_code (4 : Nat) (Option.some Jvm.ClassFile.FieldType.int)).before args0 about1 = true := code_word (m := ⟨16, 2⟩) (meth := k16m2) (c := k16c2) (by decide +kernel) rfl rfl rfl (by decide +kernel)
set_option maxRecDepth 65536 in
theorem w_c24 : (Jvm.Cond.code ({ cls := "java/lang/String", name := "isEmpty", desc := "()Z" } : Jvm.MethodName) jdk_42_method_55_code (1 : Nat) (Option.some Jvm.ClassFile.FieldType.boolean)).before args0 about1 = true := code_word (m := ⟨7, 5⟩) (meth := k7m5) (c := k7c5) (by decide +kernel) rfl rfl rfl (by decide +kernel)
set_option maxRecDepth 65536 in
theorem w_c25 : (Jvm.Cond.code ({ cls := "com/example/davka/davka/csv/Row", name := "add", desc := "(Ljava/lang/CharSequence;)V" } : Jvm.MethodName) prog_116_method_5_code (3 : Nat) (Option.none : Option Jvm.ClassFile.FieldType)).before args0 about1 = true := code_word (m := ⟨10, 2⟩) (meth := k10m2) (c := k10c2) (by decide +kernel) rfl rfl rfl (by decide +kernel)
set_option maxRecDepth 65536 in
theorem w_c26 : (Jvm.Cond.code ({ cls := "java/lang/String", name := "length", desc := "()I" } : Jvm.MethodName) jdk_42_method_54_code (1 : Nat) (Option.some Jvm.ClassFile.FieldType.int)).before args0 about1 = true := code_word (m := ⟨7, 4⟩) (meth := k7m4) (c := k7c4) (by decide +kernel) rfl rfl rfl (by decide +kernel)
set_option maxRecDepth 65536 in
theorem w_c27 : (Jvm.Cond.code ({ cls := "java/lang/String", name := "coder", desc := "()B" } : Jvm.MethodName) jdk_42_method_152_code (1 : Nat) (Option.some Jvm.ClassFile.FieldType.byte)).before args0 about1 = true := code_word (m := ⟨7, 11⟩) (meth := k7m11) (c := k7c11) (by decide +kernel) rfl rfl rfl (by decide +kernel)
set_option maxRecDepth 65536 in
theorem w_c28 : (Jvm.Cond.code ({ cls := "com/example/davka/davka/csv/Row", name := "room", desc := "(I)V" } : Jvm.MethodName) prog_116_method_20_code (2 : Nat) (Option.none : Option Jvm.ClassFile.FieldType)).before args0 about1 = true := code_word (m := ⟨10, 10⟩) (meth := k10m10) (c := k10c10) (by decide +kernel) rfl rfl rfl (by decide +kernel)
set_option maxRecDepth 65536 in
theorem w_c29 : (Jvm.Cond.code ({ cls := "java/lang/String", name := "charAt", desc := "(I)C" } : Jvm.MethodName) jdk_42_method_56_code (2 : Nat) (Option.some Jvm.ClassFile.FieldType.char)).before args0 about1 = true := code_word (m := ⟨7, 6⟩) (meth := k7m6) (c := k7c6) (by decide +kernel) rfl rfl rfl (by decide +kernel)
set_option maxRecDepth 65536 in
theorem w_c30 : (Jvm.Cond.code ({ cls := "java/lang/String", name := "isLatin1", desc := "()Z" } : Jvm.MethodName) jdk_42_method_154_code (1 : Nat) (Option.some Jvm.ClassFile.FieldType.boolean)).before args0 about1 = true := code_word (m := ⟨7, 12⟩) (meth := k7m12) (c := k7c12) (by decide +kernel) rfl rfl rfl (by decide +kernel)
set_option maxRecDepth 65536 in
theorem w_c31 : (Jvm.Cond.code ({ cls := "java/lang/StringLatin1", name := "charAt", desc := "([BI)C" } : Jvm.MethodName) jdk_43_method_2_code (2 : Nat) (Option.some Jvm.ClassFile.FieldType.char)).before args0 about1 = true := code_word (m := ⟨8, 1⟩) (meth := k8m1) (c := k8c1) (by decide +kernel) rfl rfl rfl (by decide +kernel)
set_option maxRecDepth 65536 in
theorem w_c32 : (Jvm.Cond.code ({ cls := "java/lang/String", name := "checkIndex", desc := "(II)V" } : Jvm.MethodName) jdk_42_method_155_code (2 : Nat) (Option.none : Option Jvm.ClassFile.FieldType)).before args0 about1 = true := code_word (m := ⟨7, 13⟩) (meth := k7m13) (c := k7c13) (by decide +kernel) rfl rfl rfl (by decide +kernel)
set_option maxRecDepth 65536 in
theorem w_c33 : (Jvm.Cond.code ({ cls := "jdk/internal/util/Preconditions", name := "checkIndex", desc := "(IILjava/util/function/BiFunction;)I" } : Jvm.MethodName) jdk_41_method_11_code (3 : Nat) (Option.some Jvm.ClassFile.FieldType.int)).before args0 about1 = true := code_word (m := ⟨16, 1⟩) (meth := k16m1) (c := k16c1) (by decide +kernel) rfl rfl rfl (by decide +kernel)
set_option maxRecDepth 65536 in
theorem w_c34 : (Jvm.Cond.code ({ cls := "com/example/davka/davka/csv/Row", name := "append", desc := "(C)Lcom/example/davka/davka/csv/Row;" } : Jvm.MethodName) prog_116_method_6_code (2 : Nat) (Option.some (Jvm.ClassFile.FieldType.object "com/example/davka/davka/csv/Row"))).before args0 about1 = true := code_word (m := ⟨10, 3⟩) (meth := k10m3) (c := k10c3) (by decide +kernel) rfl rfl rfl (by decide +kernel)
set_option maxRecDepth 65536 in
theorem w_c35 : (Jvm.Cond.code ({ cls := "java/lang/String", name := "equals", desc := "(Ljava/lang/Object;)Z" } : Jvm.MethodName) jdk_42_method_66_code (3 : Nat) (Option.some Jvm.ClassFile.FieldType.boolean)).before args0 about1 = true := code_word (m := ⟨7, 7⟩) (meth := k7m7) (c := k7c7) (by decide +kernel) rfl rfl rfl (by decide +kernel)
set_option maxRecDepth 65536 in
theorem w_c36 : (Jvm.Cond.code ({ cls := "java/lang/StringLatin1", name := "equals", desc := "([B[B)Z" } : Jvm.MethodName) jdk_43_method_13_code (3 : Nat) (Option.some Jvm.ClassFile.FieldType.boolean)).before args0 about1 = true := code_word (m := ⟨8, 3⟩) (meth := k8m3) (c := k8c3) (by decide +kernel) rfl rfl rfl (by decide +kernel)
def codes1 : List Jvm.Cond := [Jvm.Cond.code x code maxLocals ret, Jvm.Cond.code ({ cls := "java/lang/String", name := "valueOf", desc := "(C)Ljava/lang/String;" } : Jvm.MethodName) jdk_42_method_139_code (1 : Nat) (Option.some (Jvm.ClassFile.FieldType.object "java/lang/String")), Jvm.Cond.code ({ cls := "java/lang/StringLatin1", name := "canEncode", desc := "(C)Z" } : Jvm.MethodName) jdk_43_method_3_code (1 : Nat) (Option.some Jvm.ClassFile.FieldType.boolean), Jvm.Cond.code ({ cls := "java/lang/StringLatin1", name := "toBytes", desc := "(C)[B" } : Jvm.MethodName) jdk_43_method_46_code (1 : Nat) (Option.some (Jvm.ClassFile.FieldType.array Jvm.ClassFile.FieldType.byte)), Jvm.Cond.code ({ cls := "java/lang/String", name := "<init>", desc := "([BB)V" } : Jvm.MethodName) jdk_42_method_151_code (3 : Nat) (Option.none : Option Jvm.ClassFile.FieldType), Jvm.Cond.code ({ cls := "java/lang/Object", name := "<init>", desc := "()V" } : Jvm.MethodName) object_method_1_code (1 : Nat) (Option.none : Option Jvm.ClassFile.FieldType), Jvm.Cond.code ({ cls := "java/lang/String", name := "<init>", desc := "([C)V" } : Jvm.MethodName) jdk_42_method_3_code (2 : Nat) (Option.none : Option Jvm.ClassFile.FieldType), Jvm.Cond.code ({ cls := "java/lang/String", name := "<init>", desc := "([CIILjava/lang/Void;)V" } : Jvm.MethodName) jdk_42_method_149_code (6 : Nat) (Option.none : Option Jvm.ClassFile.FieldType), Jvm.Cond.code ({ cls := "java/lang/StringUTF16", name := "compress", desc := "([CII)[B" } : Jvm.MethodName) jdk_52_method_16_code (6 : Nat) (Option.some (Jvm.ClassFile.FieldType.array Jvm.ClassFile.FieldType.byte)), Jvm.Cond.code ({ cls := "java/lang/StringUTF16", name := "compress", desc := "([CI[BII)I" } : Jvm.MethodName) jdk_52_method_21_code (7 : Nat) (Option.some Jvm.ClassFile.FieldType.int), Jvm.Cond.code ({ cls := "java/lang/StringUTF16", name := "coderFromArrayLen", desc := "([BI)B" } : Jvm.MethodName) jdk_52_method_15_code (2 : Nat) (Option.some Jvm.ClassFile.FieldType.byte), Jvm.Cond.code ({ cls := "com/example/davka/davka/csv/Row", name := "<init>", desc := "()V" } : Jvm.MethodName) prog_116_method_1_code (1 : Nat) (Option.none : Option Jvm.ClassFile.FieldType), Jvm.Cond.code ({ cls := "java/util/List", name := "of", desc := "()Ljava/util/List;" } : Jvm.MethodName) jdk_40_method_36_code (0 : Nat) (Option.some (Jvm.ClassFile.FieldType.object "java/util/List")), Jvm.Cond.code ({ cls := "com/example/davka/davka/csv/Row", name := "discard", desc := "()V" } : Jvm.MethodName) prog_116_method_13_code (1 : Nat) (Option.none : Option Jvm.ClassFile.FieldType), Jvm.Cond.code ({ cls := "com/example/davka/davka/csv/Row", name := "end", desc := "()V" } : Jvm.MethodName) prog_116_method_8_code (1 : Nat) (Option.none : Option Jvm.ClassFile.FieldType), Jvm.Cond.code ({ cls := "com/example/davka/davka/csv/Row", name := "size", desc := "()I" } : Jvm.MethodName) prog_116_method_4_code (1 : Nat) (Option.some Jvm.ClassFile.FieldType.int), Jvm.Cond.code ({ cls := "com/example/davka/davka/csv/Row", name := "length", desc := "(I)I" } : Jvm.MethodName) prog_116_method_10_code (2 : Nat) (Option.some Jvm.ClassFile.FieldType.int), Jvm.Cond.code ({ cls := "com/example/davka/davka/csv/Row", name := "end", desc := "(I)I" } : Jvm.MethodName) prog_116_method_16_code (2 : Nat) (Option.some Jvm.ClassFile.FieldType.int), Jvm.Cond.code ({ cls := "com/example/davka/davka/csv/Row", name := "start", desc := "(I)I" } : Jvm.MethodName) prog_116_method_15_code (2 : Nat) (Option.some Jvm.ClassFile.FieldType.int), Jvm.Cond.code ({ cls := "com/example/davka/davka/csv/Row", name := "value", desc := "(I)Ljava/lang/String;" } : Jvm.MethodName) prog_116_method_9_code (2 : Nat) (Option.some (Jvm.ClassFile.FieldType.object "java/lang/String")), Jvm.Cond.code ({ cls := "java/lang/String", name := "<init>", desc := "([CII)V" } : Jvm.MethodName) jdk_42_method_4_code (4 : Nat) (Option.none : Option Jvm.ClassFile.FieldType), Jvm.Cond.code ({ cls := "java/lang/String", name := "rangeCheck", desc := "([CII)Ljava/lang/Void;" } : Jvm.MethodName) jdk_42_method_5_code (3 : Nat) (Option.some (Jvm.ClassFile.FieldType.object "java/lang/Void")), Jvm.Cond.code ({ cls := "java/lang/String", name := "checkBoundsOffCount", desc := "(III)I" } : Jvm.MethodName) jdk_42_method_157_code (3 : Nat) (Option.some Jvm.ClassFile.FieldType.int), Jvm.Cond.code ({ cls := "jdk/internal/util/Preconditions", name := "checkFromIndexSize", desc := "(IIILjava/util/function/BiFunction;)I" } : Jvm.MethodName) jdk_41_method_13_code (4 : Nat) (Option.some Jvm.ClassFile.FieldType.int), Jvm.Cond.code ({ cls := "java/lang/String", name := "isEmpty", desc := "()Z" } : Jvm.MethodName) jdk_42_method_55_code (1 : Nat) (Option.some Jvm.ClassFile.FieldType.boolean), Jvm.Cond.code ({ cls := "com/example/davka/davka/csv/Row", name := "add", desc := "(Ljava/lang/CharSequence;)V" } : Jvm.MethodName) prog_116_method_5_code (3 : Nat) (Option.none : Option Jvm.ClassFile.FieldType), Jvm.Cond.code ({ cls := "java/lang/String", name := "length", desc := "()I" } : Jvm.MethodName) jdk_42_method_54_code (1 : Nat) (Option.some Jvm.ClassFile.FieldType.int), Jvm.Cond.code ({ cls := "java/lang/String", name := "coder", desc := "()B" } : Jvm.MethodName) jdk_42_method_152_code (1 : Nat) (Option.some Jvm.ClassFile.FieldType.byte), Jvm.Cond.code ({ cls := "com/example/davka/davka/csv/Row", name := "room", desc := "(I)V" } : Jvm.MethodName) prog_116_method_20_code (2 : Nat) (Option.none : Option Jvm.ClassFile.FieldType), Jvm.Cond.code ({ cls := "java/lang/String", name := "charAt", desc := "(I)C" } : Jvm.MethodName) jdk_42_method_56_code (2 : Nat) (Option.some Jvm.ClassFile.FieldType.char), Jvm.Cond.code ({ cls := "java/lang/String", name := "isLatin1", desc := "()Z" } : Jvm.MethodName) jdk_42_method_154_code (1 : Nat) (Option.some Jvm.ClassFile.FieldType.boolean), Jvm.Cond.code ({ cls := "java/lang/StringLatin1", name := "charAt", desc := "([BI)C" } : Jvm.MethodName) jdk_43_method_2_code (2 : Nat) (Option.some Jvm.ClassFile.FieldType.char), Jvm.Cond.code ({ cls := "java/lang/String", name := "checkIndex", desc := "(II)V" } : Jvm.MethodName) jdk_42_method_155_code (2 : Nat) (Option.none : Option Jvm.ClassFile.FieldType), Jvm.Cond.code ({ cls := "jdk/internal/util/Preconditions", name := "checkIndex", desc := "(IILjava/util/function/BiFunction;)I" } : Jvm.MethodName) jdk_41_method_11_code (3 : Nat) (Option.some Jvm.ClassFile.FieldType.int), Jvm.Cond.code ({ cls := "com/example/davka/davka/csv/Row", name := "append", desc := "(C)Lcom/example/davka/davka/csv/Row;" } : Jvm.MethodName) prog_116_method_6_code (2 : Nat) (Option.some (Jvm.ClassFile.FieldType.object "com/example/davka/davka/csv/Row")), Jvm.Cond.code ({ cls := "java/lang/String", name := "equals", desc := "(Ljava/lang/Object;)Z" } : Jvm.MethodName) jdk_42_method_66_code (3 : Nat) (Option.some Jvm.ClassFile.FieldType.boolean), Jvm.Cond.code ({ cls := "java/lang/StringLatin1", name := "equals", desc := "([B[B)Z" } : Jvm.MethodName) jdk_43_method_13_code (3 : Nat) (Option.some Jvm.ClassFile.FieldType.boolean)]
set_option maxRecDepth 65536 in
theorem codes_eq : words1.filter isCode = codes1 := rfl
theorem w_codes : ∀ c ∈ words1.filter isCode, c.before args0 about1 = true := by
  rw [codes_eq]
  intro c hc
  simp only [codes1, List.mem_cons, List.not_mem_nil, or_false] at hc
  rcases hc with rfl | rfl | rfl | rfl | rfl | rfl | rfl | rfl | rfl | rfl | rfl | rfl | rfl | rfl | rfl | rfl | rfl | rfl | rfl | rfl | rfl | rfl | rfl | rfl | rfl | rfl | rfl | rfl | rfl | rfl | rfl | rfl | rfl | rfl | rfl | rfl | rfl
  · exact w_c0
  · exact w_c1
  · exact w_c2
  · exact w_c3
  · exact w_c4
  · exact w_c5
  · exact w_c6
  · exact w_c7
  · exact w_c8
  · exact w_c9
  · exact w_c10
  · exact w_c11
  · exact w_c12
  · exact w_c13
  · exact w_c14
  · exact w_c15
  · exact w_c16
  · exact w_c17
  · exact w_c18
  · exact w_c19
  · exact w_c20
  · exact w_c21
  · exact w_c22
  · exact w_c23
  · exact w_c24
  · exact w_c25
  · exact w_c26
  · exact w_c27
  · exact w_c28
  · exact w_c29
  · exact w_c30
  · exact w_c31
  · exact w_c32
  · exact w_c33
  · exact w_c34
  · exact w_c35
  · exact w_c36
set_option maxRecDepth 65536 in
theorem w_t1 : (words1.take 24).all (fun c => isCode c || c.before args0 about1) = true := by decide +kernel
set_option maxRecDepth 65536 in
theorem w_t2 : ((words1.drop 24).take 24).all (fun c => isCode c || c.before args0 about1) = true := by decide +kernel
set_option maxRecDepth 65536 in
theorem w_t3 : (((words1.drop 24).drop 24).take 24).all (fun c => isCode c || c.before args0 about1) = true := by decide +kernel
set_option maxRecDepth 65536 in
theorem w_t4 : ((((words1.drop 24).drop 24).drop 24).take 24).all (fun c => isCode c || c.before args0 about1) = true := by decide +kernel
set_option maxRecDepth 65536 in
theorem w_t5 : (((((words1.drop 24).drop 24).drop 24).drop 24).take 24).all (fun c => isCode c || c.before args0 about1) = true := by decide +kernel
set_option maxRecDepth 65536 in
theorem w_t6 : ((((((words1.drop 24).drop 24).drop 24).drop 24).drop 24).take 24).all (fun c => isCode c || c.before args0 about1) = true := by decide +kernel
set_option maxRecDepth 65536 in
theorem w_t7 : (((((((words1.drop 24).drop 24).drop 24).drop 24).drop 24).drop 24).take 24).all (fun c => isCode c || c.before args0 about1) = true := by decide +kernel
set_option maxRecDepth 65536 in
theorem w_t8 : (((((((words1.drop 24).drop 24).drop 24).drop 24).drop 24).drop 24).drop 24).all (fun c => isCode c || c.before args0 about1) = true := by decide +kernel
theorem w_tables : (allAtoms (Jvm.Cond.code x code maxLocals ret :: tables_1)).before args0 about1 = true := by
  rw [allAtoms_all]
  show words1.all (fun c => c.before args0 about1) = true
  refine all_split ?_ w_codes
  rw [← List.take_append_drop 24 words1, List.all_append, w_t1, ← List.take_append_drop 24 (words1.drop 24), List.all_append, w_t2, ← List.take_append_drop 24 ((words1.drop 24).drop 24), List.all_append, w_t3, ← List.take_append_drop 24 (((words1.drop 24).drop 24).drop 24), List.all_append, w_t4, ← List.take_append_drop 24 ((((words1.drop 24).drop 24).drop 24).drop 24), List.all_append, w_t5, ← List.take_append_drop 24 (((((words1.drop 24).drop 24).drop 24).drop 24).drop 24), List.all_append, w_t6, ← List.take_append_drop 24 ((((((words1.drop 24).drop 24).drop 24).drop 24).drop 24).drop 24), List.all_append, w_t7, w_t8]
  rfl
set_option maxRecDepth 65536 in
theorem w_rest : rest_1_c.before args0 about1 = true := by decide +kernel
set_option maxRecDepth 65536 in
theorem w_case : (Jvm.Cond.and given_1 narrow_1).before args0 about1 = true := by decide +kernel
set_option maxRecDepth 65536 in
theorem w_consts : constsHeld consts_1 about1 := Jvm.Lit.constsHeldB_iff.mp (by decide +kernel)
theorem w_applies : (headSpec (Jvm.Cond.code x code maxLocals ret :: tables_1) room_1).applies x e0.platform about1 = true :=
  (Spec.applies_iff w_frames).mpr ⟨w_running, w_runnable, w_alone, w_named, w_hears, w_ripe, w_room, w_tables⟩
theorem atStart : AtStart classFile x code maxLocals ret World_1 tables_1 room_1 Calls_1 rest_1 Pre_1 launch0 p0 e0 about1 theMethod args0 below0 :=
  ⟨lists_1, trivial, launch0.admits_env _ _ _, launch0.least_env, fairChoices_fair.cas, fairChoices_fair.clock, w_frames, w_args, w_heap, w_applies, ⟨w_consts, trivial⟩, w_rest, w_case⟩
end start1
theorem witness_1 : WitnessClaimed_1 := ⟨start1.p0, start1.e0, start1.about1, start1.theMethod, start1.args0, start1.below0, start1.atStart⟩
end Jvm.Pilot.@@N@@
