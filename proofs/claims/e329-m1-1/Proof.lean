import JvmDerived
import JvmDerived.Pilot.@@N@@Statement
import JvmDerived.Pilot.@@N@@Code
set_option linter.unusedVariables false
set_option linter.unusedSimpArgs false
@@BLOCK:NumsL.lean.txt@@
@@BLOCK:Masks.lean.txt@@
namespace Jvm.RoadKit
open Sem ClassFile Op Lib Jvm.Stand Jvm.Free Jvm.LawKit
section New
variable {p : Program} {l : Launch} {e : Env} {R : Room} {s : State} {m : MethodId} {args : Array Value} {below : List Frame} {meth : Method} {c : Code} {T : State} {locs : List Loc} {cells slots : Nat}
theorem retI (X : Stand p l e R s m args below meth c T locs cells slots) (hx : p.tables.exec = Jvm.exec) {pc : Nat} {Ls : Array Slot} {z : Int32} {rest : List Value} (hret : meth.sig.returnType = some .int) (hd : decode c.code pc = .ok (.ireturn, 1)) {fs : List Frame}
    (hl : ∀ (f : JFrame) (acts : List Action), f.method = m → f.locked = none → f.entered = [] → (doReturn e (T.setTop f) acts (some (.int z))).1 = T.setFrames fs) : Steps p.tables e below (T.setTop (mkF m pc Ls (.int z :: rest))) (T.setFrames fs) := by
  have hm' : T.vm.method? m = some meth := X.method'
  have hn : narrow .int (.int z) = .int z := rfl
  show Steps p.tables e below (T.setTop { method := m, pc := pc, locals := Ls, stack := _ :: rest, locked := none }) _
  jvm_step X.here [X.here.top, hx, hd, hm', hret, hn]
  first | (intro acts; rw [hl _ acts rfl rfl rfl]) | rw [hl _ _ rfl rfl rfl]
  exact Steps.refl _
theorem own_retA (X : Stand p l e R s m args below meth c T locs cells slots) (hx : p.tables.exec = Jvm.exec) {pc : Nat} {Ls : Array Slot} {z : Value} {t : FieldType} {rest : List Value} (hret : meth.sig.returnType = some t) (ht : t.isReference = true) (hz : z.isRef = true) (hd : decode c.code pc = .ok (.areturn, 1)) {fs : List Frame}
    (hl : ∀ (f : JFrame) (acts : List Action), f.method = m → f.locked = none → f.entered = [] → (doReturn e (T.setTop f) acts (some z)).1 = T.setFrames fs) : Steps p.tables e below (T.setTop (mkF m pc Ls (z :: rest))) (T.setFrames fs) := by
  have hm' : T.vm.method? m = some meth := X.method'
  show Steps p.tables e below (T.setTop { method := m, pc := pc, locals := Ls, stack := z :: rest, locked := none }) _
  rcases ref_cases hz with rfl | ⟨a, rfl⟩ <;>
  · jvm_step X.here [X.here.top, hx, hd, hm', hret, ht, Value.isRef]
    first | (intro acts; rw [hl _ acts rfl rfl rfl]) | rw [hl _ _ rfl rfl rfl]
    exact Steps.refl _
end New
end Jvm.RoadKit
namespace Jvm.Pilot.@@N@@
open Jvm Jvm.ClassFile Sem Op Lib Jvm.Free Jvm.Stand Jvm.LawKit Jvm.RoadKit Bundle Jvm.Pilot.@@N@@.Jvm.D
set_option maxRecDepth 65536
set_option maxHeartbeats 40000000
abbrev Y0 : MethodName := ⟨"java/lang/Math", "max", "(JJ)J"⟩
abbrev Y1 : MethodName := ⟨"java/lang/Math", "min", "(JJ)J"⟩
abbrev Y2 : MethodName := ⟨"java/lang/Math", "min", "(II)I"⟩
abbrev Y3 : MethodName := ⟨"java/lang/Integer", "numberOfLeadingZeros", "(I)I"⟩
abbrev Y4 : MethodName := ⟨"java/lang/Integer", "highestOneBit", "(I)I"⟩
abbrev Y5 : MethodName := ⟨"com/example/plainsong/plainsong/engine/HashPart", "capacityFor", "(J)I"⟩
abbrev Y6 : MethodName := ⟨"com/example/plainsong/plainsong/engine/Table", "capacity", "(J)I"⟩
abbrev Y7 : MethodName := ⟨"java/util/Arrays", "fill", "([II)V"⟩
abbrev Y8 : MethodName := ⟨"com/example/plainsong/plainsong/engine/HashPart", "allocate", "(I)V"⟩
abbrev Y9 : MethodName := ⟨"com/example/plainsong/plainsong/engine/HashPart", "<init>", "(I)V"⟩
abbrev Y10 : MethodName := ⟨"com/example/plainsong/plainsong/engine/HashPart", "spread", "(I)I"⟩
abbrev Y11 : MethodName := ⟨"java/lang/Long", "hashCode", "(J)I"⟩
abbrev Y12 : MethodName := ⟨"java/lang/Long", "hashCode", "()I"⟩
abbrev Y13 : MethodName := ⟨"java/lang/Long", "valueOf", "(J)Ljava/lang/Long;"⟩
abbrev Y14 : MethodName := ⟨"com/example/plainsong/plainsong/engine/HashPart", "isInteger", "(Ljava/lang/Object;)Z"⟩
abbrev Y15 : MethodName := ⟨"com/example/plainsong/plainsong/engine/HashPart", "heldEntry", "(Ljava/lang/Object;I)I"⟩
abbrev Y16 : MethodName := ⟨"com/example/plainsong/plainsong/engine/HashPart", "entryOf", "(Ljava/lang/Object;)I"⟩
abbrev Y17 : MethodName := ⟨"java/lang/Object", "hashCode", "()I"⟩
abbrev Y18 : MethodName := ⟨"com/example/plainsong/plainsong/engine/HashPart", "place", "(Ljava/lang/Object;ILjava/lang/Object;)V"⟩
abbrev Y19 : MethodName := ⟨"com/example/plainsong/plainsong/engine/HashPart", "add", "(Ljava/lang/Object;ILjava/lang/Object;)V"⟩
abbrev Y20 : MethodName := ⟨"com/example/plainsong/plainsong/engine/HashPart", "put", "(Ljava/lang/Object;Ljava/lang/Object;)V"⟩
abbrev Y21 : MethodName := ⟨"com/example/plainsong/plainsong/engine/Table", "putInHash", "(Ljava/lang/Object;Ljava/lang/Object;)V"⟩
abbrev Y22 : MethodName := ⟨"com/example/plainsong/plainsong/engine/Table", "put", "(JLjava/lang/Object;)V"⟩
abbrev Y23 : MethodName := ⟨"java/lang/Number", "<init>", "()V"⟩
abbrev Y24 : MethodName := ⟨"java/lang/Long", "<init>", "(J)V"⟩
abbrev Y25 : MethodName := ⟨"com/example/plainsong/plainsong/engine/Table", "firstBorder", "()J"⟩
abbrev Y26 : MethodName := ⟨"com/example/plainsong/plainsong/engine/Table", "append", "(Ljava/lang/Object;)V"⟩
abbrev Y27 : MethodName := ⟨"com/example/plainsong/plainsong/engine/Table", "<init>", "()V"⟩
abbrev Y28 : MethodName := ⟨"java/util/Arrays", "copyOf", "([Ljava/lang/Object;ILjava/lang/Class;)[Ljava/lang/Object;"⟩
abbrev Y29 : MethodName := ⟨"java/util/Arrays", "copyOf", "([Ljava/lang/Object;I)[Ljava/lang/Object;"⟩
abbrev Y30 : MethodName := ⟨"com/example/plainsong/plainsong/engine/Table", "makeRoom", "()Z"⟩
abbrev rr (f c s l : Nat) : Room := { frames := f, cells := c, slots := s, locals := l }
abbrev i_0 : Int32 := 0
abbrev i_1 : Int32 := 1
abbrev i_2 : Int32 := 2
abbrev i_3 : Int32 := 3
abbrev i_4 : Int32 := 4
abbrev i_5 : Int32 := 5
abbrev i_6 : Int32 := 6
abbrev i_8 : Int32 := 8
abbrev i_16 : Int32 := 16
abbrev i_30 : Int32 := 30
abbrev i_31 : Int32 := 31
abbrev i_32 : Int32 := 32
abbrev i_64 : Int32 := 64
abbrev i_128 : Int32 := 128
abbrev i_130 : Int32 := 130
abbrev i_131 : Int32 := 131
abbrev i_132 : Int32 := 132
abbrev i_133 : Int32 := 133
abbrev i_256 : Int32 := 256
abbrev i_65536 : Int32 := 65536
abbrev i_387282824 : Int32 := 387282824
abbrev i_1013894940 : Int32 := 1013894940
abbrev i_2027789881 : Int32 := 2027789881
abbrev i_2147483639 : Int32 := 2147483639
abbrev i_2147483647 : Int32 := 2147483647
abbrev s_0 : String := "com/example/plainsong/plainsong/engine/HashPart"
abbrev s_1 : String := "com/example/plainsong/plainsong/engine/Table"
abbrev s_2 : String := "java/lang/Object"
abbrev s_3 : String := "java/lang/Long"
abbrev own_HW (a0 : Array Value) (Z : State) : Prop := ∀ d ∈ tables_1, d.before a0 Z = true
section OwnKit
variable {p : Program} {l : Launch} {e : Env} {R : Room} {s : State} {m : MethodId} {args : Array Value} {below : List Frame} {meth : Method} {c : Code} {T : State} {locs : List Loc} {cells slots : Nat} {Z : State} {a0 : Array Value} {h : Heap}
def own_G (tb : Tables) (e : Env) (below : List Frame) (Post : Outcome → State → Prop) (S : State) : Prop := ∃ s₂ o, Steps tb e below S s₂ ∧ s₂.status = .running ∧ Ended s₂ below o ∧ Post o s₂
theorem goo {tb : Tables} {Post : Outcome → State → Prop} {S S' : State} (k : ∀ t, Steps tb e below S' t → Steps tb e below S t) (h : own_G tb e below Post S') : own_G tb e below Post S := by
  obtain ⟨a, b, st, d⟩ := h
  exact ⟨a, b, k _ st, d⟩
theorem own_join {tb : Tables} {Post : Outcome → State → Prop} {S S' : State} (k : own_G tb e below Post S' → own_G tb e below Post S) (h : own_G tb e below Post S') : own_G tb e below Post S := k h
theorem own_end (X : Stand p l e R s m args below meth c T locs cells slots) (hlocks : meth.locks = false) {v : Option Value} (hv : meth.sig.returnType = none → v = none) {S : State} {Q : Option Value → Heap → List Loc → Prop} {rc rs : Nat} (hQ : Q v T.heap locs)
    (st : ∀ fs, (∀ (f : JFrame) (acts : List Action), f.method = m → f.locked = none → f.entered = [] → (doReturn e (T.setTop f) acts v).1 = T.setFrames fs) → Steps p.tables e below S (T.setFrames fs)) (hc : cells ≤ rc) (hs : slots ≤ rs) :
    own_G p.tables e below (fun o U' => ∃ v L, o = .returned v ∧ Q v U'.heap L ∧ FrameEnd s o U' L rc rs) S := by
  obtain ⟨fs, hr, hrun, hended, hW, hsame⟩ := X.leave (v := v) hv hlocks
  exact ⟨_, _, st fs hr, hrun, hended, _, _, rfl, hQ, ⟨_, rfl⟩, hW, hsame.mono hc hs⟩
def QP (r : Option Value) (h0 : Heap) (v : Option Value) (h : Heap) (L : List Loc) : Prop := v = r ∧ L = [] ∧ h = h0
def QL (r : Option Value) (n0 : Nat) (v : Option Value) (h : Heap) (L : List Loc) : Prop := v = r ∧ Fr n0 L
theorem own_staKeep {h' : Heap} {C n d : String} {v : Value} {ws : List Addr} (F : Sta Z h C n d v) (K : Keep h h' ws) (q : ∀ x ∈ ws, ∃ cell : Cell, h[x]? = some cell ∧ cell.vm.isStatics = false) : Sta Z h' C n d v := by
  obtain ⟨cf, i, k, f, st, cell, h1, h2, h3, h4, h5, h6, h7⟩ := F
  refine ⟨cf, i, k, f, st, cell, h1, h2, h3, h4, K.2.1 st cell h5 (fun z => ?_), h6, h7⟩
  obtain ⟨c', e1, e2⟩ := q st z
  cases e1.symm.trans h5
  rw [e2] at h6; cases h6
theorem own_callP (X : Stand p l e R s m args below meth c T locs cells slots) (hx : p.tables.exec = Jvm.exec) (hZ : Z.Warmed39 s.vm) {own : String} {index : Nat} {y : MethodName} {bytes : ByteArray} {maxL : Nat} {ret : Option FieldType} {rm : Room} {r : Option Value} {as' : Array Value}
    (hown : s.vm.findClass own = some m.cls) (w1 : (Jvm.Cond.methodLink own index y).before a0 Z = true) (w2 : (Jvm.Cond.static y).before a0 Z = true) (w3 : (Jvm.Cond.initialized y.cls).before a0 Z = true) (w4 : (Jvm.Cond.code y bytes maxL ret).before a0 Z = true)
    (hy : y.cls ≠ "java/lang/invoke/MethodHandle" ∧ y.cls ≠ "java/lang/invoke/VarHandle") {W : Nat}
    (hM : MetFree l y (head1 [Jvm.Cond.code y bytes maxL ret] rm) (fun a U => a = as' ∧ Z.Warmed39 U.vm ∧ U.heap = h) (fun _ _ _ _ _ => True) (fun _ U o U' => ∃ v L, o = .returned v ∧ QP r h v U'.heap L ∧ FrameEnd U o U' L rm.cells rm.slots))
    (hf : rm.frames + 1 ≤ R.frames) (hl : W + (maxL + 11) + rm.locals ≤ R.locals) (hc : rm.cells = 0) (hs0 : rm.slots = 0) (eT : T.heap = h)
    {g : JFrame} (hg : g.method = m) (hsize : g.locals.size = c.maxLocals) {argsL rest : List Value} (hlen : ∀ sig, parseMethodDescriptor y.desc = some sig → argsL.length = sig.parameters.length) (hstack : g.stack = argsL.reverse ++ rest) (ha : argsL.toArray = as')
    (hW : 2 * g.monitorRoom + (rest.map fun v => v.category).sum ≤ W) (hd : decode c.code g.pc = .ok (.invokestatic index, 3)) (hcr : cells ≤ R.cells) (hsr : slots ≤ R.slots) :
    ∃ T', Stand p l e R s m args below meth c T' locs cells slots ∧ T'.heap = h ∧ ∀ target, Steps p.tables e below (T'.setTop { g with pc := g.pc + 3, stack := r.toList ++ rest }) target → Steps p.tables e below (T.setTop g) target := by
  obtain ⟨_, _, ⟨T1, L1, k1, n1⟩, -, X1, ⟨Lc, hQ, l1, y1, z1⟩, st⟩ := Jvm.LawKit.callS X hx hown (mvT hZ w1) (mvT hZ w2) (mvT hZ w3) (mvT hZ w4) hy (backOf (W := W) hM hZ w4 w3 hf hl) hg hsize hlen hstack hW hd (fun _ _ => ⟨ha, eT, by rw [hc]; exact hcr, by rw [hs0]; exact hsr⟩)
  dsimp only [Pt.U, Pt.locs, Pt.cells, Pt.slots] at X1 l1 y1 z1 st hQ
  obtain ⟨rfl, rfl, e1⟩ := hQ
  rw [List.append_nil] at l1
  rw [hc] at y1
  rw [hs0] at z1
  subst l1 y1 z1
  exact ⟨T1, X1, e1, st⟩
theorem own_callI (X : Stand p l e R s m args below meth c T locs cells slots) (hx : p.tables.exec = Jvm.exec) (hZ : Z.Warmed39 s.vm) {own : String} {index : Nat} {y : MethodName} (hy1 : y.name = "<init>") {bytes : ByteArray} {maxL : Nat} {rm : Room} {as' : Array Value} {a : Addr}
    (hown : s.vm.findClass own = some m.cls) (w1 : (Jvm.Cond.methodLink own index y).before a0 Z = true) (w4 : (Jvm.Cond.instanceMethod y).before a0 Z = true) (w5 : (Jvm.Cond.initialized y.cls).before a0 Z = true) (w6 : (Jvm.Cond.code y bytes maxL none).before a0 Z = true)
    (hy : y.cls ≠ "java/lang/invoke/MethodHandle" ∧ y.cls ≠ "java/lang/invoke/VarHandle") {W : Nat}
    (hM : MetFree l y (head1 [Jvm.Cond.code y bytes maxL none] rm) (fun a U => a = as' ∧ Z.Warmed39 U.vm ∧ U.heap = h) (fun _ _ _ _ _ => True) (fun _ U o U' => ∃ v L, o = .returned v ∧ QP none h v U'.heap L ∧ FrameEnd U o U' L rm.cells rm.slots))
    (hf : rm.frames + 1 ≤ R.frames) (hl : W + (maxL + 11) + rm.locals ≤ R.locals) (hc : rm.cells = 0) (hs0 : rm.slots = 0) (eT : T.heap = h)
    {g : JFrame} (hg : g.method = m) (hsize : g.locals.size = c.maxLocals) {argsL rest : List Value} (hlen : ∀ sig, parseMethodDescriptor y.desc = some sig → argsL.length = sig.parameters.length) (hstack : g.stack = argsL.reverse ++ .ref a :: rest) (ha : (.ref a :: argsL).toArray = as')
    (hW : 2 * g.monitorRoom + (rest.map fun v => v.category).sum ≤ W) (hd : decode c.code g.pc = .ok (.invokespecial index, 3)) (hcr : cells ≤ R.cells) (hsr : slots ≤ R.slots) :
    ∃ T', Stand p l e R s m args below meth c T' locs cells slots ∧ T'.heap = h ∧ ∀ target, Steps p.tables e below (T'.setTop { g with pc := g.pc + 3, stack := rest }) target → Steps p.tables e below (T.setTop g) target := by
  obtain ⟨_, _, ⟨T1, L1, k1, n1⟩, -, X1, ⟨Lc, hQ, l1, y1, z1⟩, st⟩ := X.specialBack hx hy1 hown (mvT hZ w1) (mvT hZ w4) (mvT hZ w6) hy (backOf (W := W) hM hZ w6 w5 hf hl) hg hsize (Steps.refl _) hlen hstack hW hd (fun _ _ => ⟨ha, eT, by rw [hc]; exact hcr, by rw [hs0]; exact hsr⟩)
  dsimp only [Pt.U, Pt.locs, Pt.cells, Pt.slots] at X1 l1 y1 z1 st hQ
  obtain ⟨rfl, rfl, e1⟩ := hQ
  rw [List.append_nil] at l1
  rw [hc] at y1
  rw [hs0] at z1
  subst l1 y1 z1
  exact ⟨T1, X1, e1, fun target k => st.trans k⟩
theorem own_joinG {Post : Outcome → State → Prop} {S : State} (J : State → List Loc → Prop) (X : Stand p l e R s m args below meth c T locs cells slots) (g : JFrame)
    (k : (∀ T' L', Stand p l e R s m args below meth c T' L' cells slots → J T' L' → own_G p.tables e below Post (T'.setTop g)) → own_G p.tables e below Post S)
    (hj : ∀ T' L', Stand p l e R s m args below meth c T' L' cells slots → J T' L' → own_G p.tables e below Post (T'.setTop g)) : own_G p.tables e below Post S := k hj
theorem own_nsX {a : Addr} {C : String} (E : Exa Z h a C) : ∃ cell : Cell, h[a]? = some cell ∧ cell.vm.isStatics = false := by
  obtain ⟨cell, k, h1, -, -, h4, -⟩ := E
  exact ⟨cell, h1, h4⟩
theorem own_nsV {a : Addr} {k : ClassId} {ty : FieldType} {z : Int32} {vs : List Value} {d : Value} (V : Arv Z h a k ty z vs d) : ∃ cell : Cell, h[a]? = some cell ∧ cell.vm.isStatics = false := by
  obtain ⟨cell, A, -⟩ := V
  exact ⟨cell, A.1, A.plain⟩
theorem own_privB (X : Stand p l e R s m args below meth c T locs cells slots) (hexec : p.tables.exec = Jvm.exec) {own : String} {index kk : Nat} {y : MethodName} {bytes : ByteArray} {maxL : Nat} {ret : Option FieldType}
    (hown : s.vm.findClass own = some m.cls) (hlink : (Jvm.Cond.methodLink own index y).before args s = true) (hinst : (Jvm.Cond.instanceMethod y).before args s = true) (hmade : (Jvm.Cond.instantiable y.cls kk).before args s = true)
    (hpriv : s.PrivateAt y) (hcode : (Jvm.Cond.code y bytes maxL ret).before args s = true) (hy : y.cls ≠ "java/lang/invoke/MethodHandle" ∧ y.cls ≠ "java/lang/invoke/VarHandle")
    {W : Nat} {Pre : Pt → Array Value → Prop} {Post : Pt → Array Value → Option Value → Pt → Prop} (hK : Back l R p e below s args y 3 W Pre Post)
    {g : JFrame} (hg : g.method = m) (hsize : g.locals.size = c.maxLocals) {a : Addr} {cell : Cell} (hcell : T.heap[a]? = some cell) (hobj : ∀ q, cell.vm ≠ .statics q)
    {argsL rest : List Value} (hlen : ∀ sig, parseMethodDescriptor y.desc = some sig → argsL.length = sig.parameters.length)
    (hstack : g.stack = argsL.reverse ++ .ref a :: rest) (hW : 2 * g.monitorRoom + (rest.map fun v => v.category).sum ≤ W) (hdg : decode c.code g.pc = .ok (.invokevirtual index, 3))
    (hpre : ∀ vm₁, s.WarmedH vm₁ → Pre ⟨T.setVm vm₁, locs, cells, slots⟩ (.ref a :: argsL).toArray) :
    ∃ (v : Option Value) (vm₁ : Vm) (B : Pt), s.WarmedH vm₁ ∧ Stand p l e R s m args below meth c B.U B.locs B.cells B.slots ∧ Post ⟨T.setVm vm₁, locs, cells, slots⟩ (.ref a :: argsL).toArray v B ∧
      Steps p.tables e below (T.setTop g) (B.U.setTop { g with pc := g.pc + 3, stack := v.toList ++ rest }) := by
  obtain ⟨mk, methM, hnamed, hmethM, hstM, habM⟩ := Cond.instanceMethod_spec hinst
  obtain ⟨methM', cM, hmethM', -, -, -, -, -, -, hsigM⟩ := Cond.code_spec hnamed hcode
  cases hmethM.symm.trans hmethM'
  obtain ⟨cP, kP, hcP, hkP, -, hkI, -⟩ := Cond.instantiable_spec hmade
  cases (findClass_of_methodNamed hnamed).symm.trans hcP
  have hkPi : kP.isInterface = false := by simp only [Bool.or_eq_false_iff] at hkI; exact hkI.1
  have hselP : selectMethod e.platform s.vm cell.cls mk = .method mk := selectMethod_private hmethM (hpriv mk methM hnamed hmethM)
  obtain ⟨vm₁, X₁, hstep₁⟩ := X.invokevirtual hexec hown hlink hnamed hmethM hstM hkP hkPi hy (a := a) (cell := cell) hcell hobj hselP hmethM habM hkP hkPi (g := g) hg (argsL := argsL) (rest := rest) (hlen _ hsigM) hstack hdg
  obtain ⟨v, B, X', hpost, hsteps⟩ := hK m meth c ⟨T.setVm vm₁, locs, cells, slots⟩ { g with stack := rest } (.invokevirtual index) mk (.ref a :: argsL).toArray X₁ hg hsize hdg hW (X₁.named hnamed) (hpre vm₁ X₁.warmed)
  exact ⟨v, vm₁, B, X₁.warmed, X', hpost, (hstep₁ _ fun acts => by rw [doInvoke_state]; exact Steps.refl _).trans hsteps⟩
theorem own_l1 {x y : Int64} (h : x < y) : lcmpW x y < 0 := by rw [lcW]; exact (lc_lt x y).mpr h
theorem own_l2 {x y : Int64} (h : ¬ x < y) : ¬ lcmpW x y < 0 := by rw [lcW]; exact fun q => h ((lc_lt x y).mp q)
theorem own_g1 {x y : Int64} (h : y < x) : 0 < lcmpW x y := by rw [lcW]; exact (lc_gt x y).mpr h
theorem own_g2 {x y : Int64} (h : ¬ y < x) : ¬ 0 < lcmpW x y := by rw [lcW]; exact fun q => h ((lc_gt x y).mp q)
theorem own_e1 {x y : Int64} (h : x = y) : lcmpW x y = 0 := by rw [lcW]; exact (lc_eq x y).mpr h
theorem own_e2 {x y : Int64} (h : ¬ x = y) : ¬ lcmpW x y = 0 := by rw [lcW]; exact fun q => h ((lc_eq x y).mp q)
end OwnKit
theorem own_mod (x m : Int32) (hm : 0 < m.toInt) : 0 ≤ ((x &&& (2147483647 : Int32)) % m).toInt ∧ ((x &&& (2147483647 : Int32)) % m).toInt < m.toInt := by
  have e := Jvm.Kit.i32_mask x 2147483647 (k := 31) (by decide) (by decide)
  have h0 : 0 ≤ (x &&& (2147483647 : Int32)).toInt := by omega
  rw [Jvm.Kit.i32_rem_nonneg h0]
  exact ⟨Int.emod_nonneg _ (by omega), Int.emod_lt_of_pos _ hm⟩
theorem own_ext {x : Int32} {n : Nat} (h : x.toInt = n) (hn : n < 2 ^ 31) : x = Int32.ofNat n := Int32.toInt_inj.mp (by rw [h, Int32.toInt_ofNat_of_lt hn])

theorem qw {a0 : Array Value} {Z : State} (hw : ∀ d ∈ tables_1, d.before a0 Z = true) (i : Nat) {d : Jvm.Cond} (q : tables_1[i]? = some d) : d.before a0 Z = true := hw d (List.mem_of_getElem? q)
theorem d10_0 : decode jdk_29_method_66_code 0 = .ok (.lload_n 0, 1) := by decide +kernel
theorem d10_1 : decode jdk_29_method_66_code 1 = .ok (.lload_n 2, 1) := by decide +kernel
theorem d10_2 : decode jdk_29_method_66_code 2 = .ok (.lcmp, 1) := by decide +kernel
theorem d10_3 : decode jdk_29_method_66_code 3 = .ok (.ifCond .lt 7, 3) := by decide +kernel
theorem d10_6 : decode jdk_29_method_66_code 6 = .ok (.lload_n 0, 1) := by decide +kernel
theorem d10_7 : decode jdk_29_method_66_code 7 = .ok (.goto 4, 3) := by decide +kernel
theorem d10_10 : decode jdk_29_method_66_code 10 = .ok (.lload_n 2, 1) := by decide +kernel
theorem d10_11 : decode jdk_29_method_66_code 11 = .ok (.lreturn, 1) := by decide +kernel
theorem ef_10_JJ (m : MethodId) (x0 : Int64) (x1 : Int64) : entryFrame m #[(.long x0), (.long x1)] 4 = mkF m 0 #[.val (.long x0), .second, .val (.long x1), .second] [] := by
  first | (simp [entryFrame, mkF, argsToLocals, Value.category]; done) | rfl
theorem rm10_4_1 (l : Launch) (Z : State) (a0 : Array Value) (hw : own_HW a0 Z) (ws : List Jvm.Cond)   (h0 : Heap)  :
  MetFree l Y0 (head1 (Jvm.Cond.code Y0 jdk_29_method_66_code 4 (some .long) :: ws) (rr 0 0 0 0)) (fun a U => a = #[(.long (4 : Int64)), (.long (1 : Int64))] ∧ Z.Warmed39 U.vm ∧ U.heap = h0) (fun _ _ _ _ _ => True) (fun _ U o U' => ∃ v L, o = .returned v ∧ QP (some (.long (4 : Int64))) h0 v U'.heap L ∧ FrameEnd U o U' L (rr 0 0 0 0).cells (rr 0 0 0 0).slots) := by
 refine MetFree.of_bodySF (Jvm.Free.JP.mathPlain rfl (by decide +kernel)) hisR ?_
 intro p e s m args below meth c s₁ Bd hml0 hP hK
 obtain ⟨rfl, hZ, hh⟩ := hP
 have hx := Bd.exec
 have hby := Bd.bytes
 have hml : c.maxLocals = 4 := hml0
 have hown : s.vm.findClass "java/lang/Math" = some m.cls := findClass_of_methodNamed Bd.named
 have hnm := (name_of_methodNamed Bd.named Bd.method).1
 have X0 : Stand p l e (rr 0 0 0 0) s m #[(.long (4 : Int64)), (.long (1 : Int64))] below meth c s₁ [] 0 0 := Stand.of_body Bd
 have e0 : s₁.heap = h0 := by rw [← hh, Bd.state]; rfl
 show own_G _ _ _ _ (s₁.setTop (entryFrame m #[(.long (4 : Int64)), (.long (1 : Int64))] 4))
 refine goo (fun _ k => castTop (ef_10_JJ m (4 : Int64) (1 : Int64)) k) ?_
 refine goo (fun _ k => XS.lloadN X0.here hx rfl (hb hby d10_0) rfl <| XS.lloadN X0.here hx rfl (hb hby d10_1) rfl <| XS.lcmp X0.here hx rfl (hb hby d10_2) rfl <| XS.ifNo X0.here hx rfl (hb hby d10_3) rfl (((if0 _ _).trans (flt (own_l2 (by decide : ¬ ((4 : Int64) < (1 : Int64))))).1)) k) ?_
 refine goo (fun _ k => XS.lloadN X0.here hx rfl (hb hby d10_6) rfl k) ?_
 show own_G _ _ _ _ (s₁.setTop (mkF m 7 #[.val (.long (4 : Int64)), .second, .val (.long (1 : Int64)), .second] [(.long (4 : Int64))]))
 refine goo (fun _ k => XS.goto X0.here hx rfl (pc0 := 7) (pc' := 11) rfl (hb hby d10_7) (by decide) (by decide) k) ?_
 show own_G _ _ _ _ (s₁.setTop (mkF m 11 #[.val (.long (4 : Int64)), .second, .val (.long (1 : Int64)), .second] [(.long (4 : Int64))]))
 exact own_end X0 Bd.notSynchronized (v := some (.long (4 : Int64))) (fun h => by rw [Bd.returns] at h; cases h) (Q := QP (some (.long (4 : Int64))) h0) ⟨rfl, rfl, e0⟩ (fun fs hr => X0.lreturnOut hx Bd.returns (hb hby d10_11) hr) (by decide) (by decide)
theorem rm10_4_0 (l : Launch) (Z : State) (a0 : Array Value) (hw : own_HW a0 Z) (ws : List Jvm.Cond)   (h0 : Heap)  :
  MetFree l Y0 (head1 (Jvm.Cond.code Y0 jdk_29_method_66_code 4 (some .long) :: ws) (rr 0 0 0 0)) (fun a U => a = #[(.long (4 : Int64)), (.long (0 : Int64))] ∧ Z.Warmed39 U.vm ∧ U.heap = h0) (fun _ _ _ _ _ => True) (fun _ U o U' => ∃ v L, o = .returned v ∧ QP (some (.long (4 : Int64))) h0 v U'.heap L ∧ FrameEnd U o U' L (rr 0 0 0 0).cells (rr 0 0 0 0).slots) := by
 refine MetFree.of_bodySF (Jvm.Free.JP.mathPlain rfl (by decide +kernel)) hisR ?_
 intro p e s m args below meth c s₁ Bd hml0 hP hK
 obtain ⟨rfl, hZ, hh⟩ := hP
 have hx := Bd.exec
 have hby := Bd.bytes
 have hml : c.maxLocals = 4 := hml0
 have hown : s.vm.findClass "java/lang/Math" = some m.cls := findClass_of_methodNamed Bd.named
 have hnm := (name_of_methodNamed Bd.named Bd.method).1
 have X0 : Stand p l e (rr 0 0 0 0) s m #[(.long (4 : Int64)), (.long (0 : Int64))] below meth c s₁ [] 0 0 := Stand.of_body Bd
 have e0 : s₁.heap = h0 := by rw [← hh, Bd.state]; rfl
 show own_G _ _ _ _ (s₁.setTop (entryFrame m #[(.long (4 : Int64)), (.long (0 : Int64))] 4))
 refine goo (fun _ k => castTop (ef_10_JJ m (4 : Int64) (0 : Int64)) k) ?_
 refine goo (fun _ k => XS.lloadN X0.here hx rfl (hb hby d10_0) rfl <| XS.lloadN X0.here hx rfl (hb hby d10_1) rfl <| XS.lcmp X0.here hx rfl (hb hby d10_2) rfl <| XS.ifNo X0.here hx rfl (hb hby d10_3) rfl (((if0 _ _).trans (flt (own_l2 (by decide : ¬ ((4 : Int64) < (0 : Int64))))).1)) k) ?_
 refine goo (fun _ k => XS.lloadN X0.here hx rfl (hb hby d10_6) rfl k) ?_
 show own_G _ _ _ _ (s₁.setTop (mkF m 7 #[.val (.long (4 : Int64)), .second, .val (.long (0 : Int64)), .second] [(.long (4 : Int64))]))
 refine goo (fun _ k => XS.goto X0.here hx rfl (pc0 := 7) (pc' := 11) rfl (hb hby d10_7) (by decide) (by decide) k) ?_
 show own_G _ _ _ _ (s₁.setTop (mkF m 11 #[.val (.long (4 : Int64)), .second, .val (.long (0 : Int64)), .second] [(.long (4 : Int64))]))
 exact own_end X0 Bd.notSynchronized (v := some (.long (4 : Int64))) (fun h => by rw [Bd.returns] at h; cases h) (Q := QP (some (.long (4 : Int64))) h0) ⟨rfl, rfl, e0⟩ (fun fs hr => X0.lreturnOut hx Bd.returns (hb hby d10_11) hr) (by decide) (by decide)
theorem rm10_4_8 (l : Launch) (Z : State) (a0 : Array Value) (hw : own_HW a0 Z) (ws : List Jvm.Cond)   (h0 : Heap)  :
  MetFree l Y0 (head1 (Jvm.Cond.code Y0 jdk_29_method_66_code 4 (some .long) :: ws) (rr 0 0 0 0)) (fun a U => a = #[(.long (4 : Int64)), (.long (8 : Int64))] ∧ Z.Warmed39 U.vm ∧ U.heap = h0) (fun _ _ _ _ _ => True) (fun _ U o U' => ∃ v L, o = .returned v ∧ QP (some (.long (8 : Int64))) h0 v U'.heap L ∧ FrameEnd U o U' L (rr 0 0 0 0).cells (rr 0 0 0 0).slots) := by
 refine MetFree.of_bodySF (Jvm.Free.JP.mathPlain rfl (by decide +kernel)) hisR ?_
 intro p e s m args below meth c s₁ Bd hml0 hP hK
 obtain ⟨rfl, hZ, hh⟩ := hP
 have hx := Bd.exec
 have hby := Bd.bytes
 have hml : c.maxLocals = 4 := hml0
 have hown : s.vm.findClass "java/lang/Math" = some m.cls := findClass_of_methodNamed Bd.named
 have hnm := (name_of_methodNamed Bd.named Bd.method).1
 have X0 : Stand p l e (rr 0 0 0 0) s m #[(.long (4 : Int64)), (.long (8 : Int64))] below meth c s₁ [] 0 0 := Stand.of_body Bd
 have e0 : s₁.heap = h0 := by rw [← hh, Bd.state]; rfl
 show own_G _ _ _ _ (s₁.setTop (entryFrame m #[(.long (4 : Int64)), (.long (8 : Int64))] 4))
 refine goo (fun _ k => castTop (ef_10_JJ m (4 : Int64) (8 : Int64)) k) ?_
 refine goo (fun _ k => XS.lloadN X0.here hx rfl (hb hby d10_0) rfl <| XS.lloadN X0.here hx rfl (hb hby d10_1) rfl <| XS.lcmp X0.here hx rfl (hb hby d10_2) rfl <| XS.ifYes X0.here hx rfl (pc0 := 3) (pc' := 10) rfl (hb hby d10_3) rfl (((if0 _ _).trans (tlt (own_l1 (by decide : (4 : Int64) < (8 : Int64)))).1)) (by decide) (by decide) k) ?_
 refine goo (fun _ k => XS.lloadN X0.here hx rfl (hb hby d10_10) rfl k) ?_
 show own_G _ _ _ _ (s₁.setTop (mkF m 11 #[.val (.long (4 : Int64)), .second, .val (.long (8 : Int64)), .second] [(.long (8 : Int64))]))
 exact own_end X0 Bd.notSynchronized (v := some (.long (8 : Int64))) (fun h => by rw [Bd.returns] at h; cases h) (Q := QP (some (.long (8 : Int64))) h0) ⟨rfl, rfl, e0⟩ (fun fs hr => X0.lreturnOut hx Bd.returns (hb hby d10_11) hr) (by decide) (by decide)
theorem d28_0 : decode jdk_29_method_70_code 0 = .ok (.lload_n 0, 1) := by decide +kernel
theorem d28_1 : decode jdk_29_method_70_code 1 = .ok (.lload_n 2, 1) := by decide +kernel
theorem d28_2 : decode jdk_29_method_70_code 2 = .ok (.lcmp, 1) := by decide +kernel
theorem d28_3 : decode jdk_29_method_70_code 3 = .ok (.ifCond .gt 7, 3) := by decide +kernel
theorem d28_6 : decode jdk_29_method_70_code 6 = .ok (.lload_n 0, 1) := by decide +kernel
theorem d28_7 : decode jdk_29_method_70_code 7 = .ok (.goto 4, 3) := by decide +kernel
theorem d28_11 : decode jdk_29_method_70_code 11 = .ok (.lreturn, 1) := by decide +kernel
theorem ef_28_JJ (m : MethodId) (x0 : Int64) (x1 : Int64) : entryFrame m #[(.long x0), (.long x1)] 4 = mkF m 0 #[.val (.long x0), .second, .val (.long x1), .second] [] := by
  first | (simp [entryFrame, mkF, argsToLocals, Value.category]; done) | rfl
theorem rm28_4_2147483639 (l : Launch) (Z : State) (a0 : Array Value) (hw : own_HW a0 Z) (ws : List Jvm.Cond)   (h0 : Heap)  :
  MetFree l Y1 (head1 (Jvm.Cond.code Y1 jdk_29_method_70_code 4 (some .long) :: ws) (rr 0 0 0 0)) (fun a U => a = #[(.long (4 : Int64)), (.long (2147483639 : Int64))] ∧ Z.Warmed39 U.vm ∧ U.heap = h0) (fun _ _ _ _ _ => True) (fun _ U o U' => ∃ v L, o = .returned v ∧ QP (some (.long (4 : Int64))) h0 v U'.heap L ∧ FrameEnd U o U' L (rr 0 0 0 0).cells (rr 0 0 0 0).slots) := by
 refine MetFree.of_bodySF (Jvm.Free.JP.mathPlain rfl (by decide +kernel)) hisR ?_
 intro p e s m args below meth c s₁ Bd hml0 hP hK
 obtain ⟨rfl, hZ, hh⟩ := hP
 have hx := Bd.exec
 have hby := Bd.bytes
 have hml : c.maxLocals = 4 := hml0
 have hown : s.vm.findClass "java/lang/Math" = some m.cls := findClass_of_methodNamed Bd.named
 have hnm := (name_of_methodNamed Bd.named Bd.method).1
 have X0 : Stand p l e (rr 0 0 0 0) s m #[(.long (4 : Int64)), (.long (2147483639 : Int64))] below meth c s₁ [] 0 0 := Stand.of_body Bd
 have e0 : s₁.heap = h0 := by rw [← hh, Bd.state]; rfl
 show own_G _ _ _ _ (s₁.setTop (entryFrame m #[(.long (4 : Int64)), (.long (2147483639 : Int64))] 4))
 refine goo (fun _ k => castTop (ef_28_JJ m (4 : Int64) (2147483639 : Int64)) k) ?_
 refine goo (fun _ k => XS.lloadN X0.here hx rfl (hb hby d28_0) rfl <| XS.lloadN X0.here hx rfl (hb hby d28_1) rfl <| XS.lcmp X0.here hx rfl (hb hby d28_2) rfl <| XS.ifNo X0.here hx rfl (hb hby d28_3) rfl (((if0 _ _).trans (flt (own_g2 (by decide : ¬ ((2147483639 : Int64) < (4 : Int64))))).2.2.1)) k) ?_
 refine goo (fun _ k => XS.lloadN X0.here hx rfl (hb hby d28_6) rfl k) ?_
 show own_G _ _ _ _ (s₁.setTop (mkF m 7 #[.val (.long (4 : Int64)), .second, .val (.long (2147483639 : Int64)), .second] [(.long (4 : Int64))]))
 refine goo (fun _ k => XS.goto X0.here hx rfl (pc0 := 7) (pc' := 11) rfl (hb hby d28_7) (by decide) (by decide) k) ?_
 show own_G _ _ _ _ (s₁.setTop (mkF m 11 #[.val (.long (4 : Int64)), .second, .val (.long (2147483639 : Int64)), .second] [(.long (4 : Int64))]))
 exact own_end X0 Bd.notSynchronized (v := some (.long (4 : Int64))) (fun h => by rw [Bd.returns] at h; cases h) (Q := QP (some (.long (4 : Int64))) h0) ⟨rfl, rfl, e0⟩ (fun fs hr => X0.lreturnOut hx Bd.returns (hb hby d28_11) hr) (by decide) (by decide)
theorem rm28_8_2147483639 (l : Launch) (Z : State) (a0 : Array Value) (hw : own_HW a0 Z) (ws : List Jvm.Cond)   (h0 : Heap)  :
  MetFree l Y1 (head1 (Jvm.Cond.code Y1 jdk_29_method_70_code 4 (some .long) :: ws) (rr 0 0 0 0)) (fun a U => a = #[(.long (8 : Int64)), (.long (2147483639 : Int64))] ∧ Z.Warmed39 U.vm ∧ U.heap = h0) (fun _ _ _ _ _ => True) (fun _ U o U' => ∃ v L, o = .returned v ∧ QP (some (.long (8 : Int64))) h0 v U'.heap L ∧ FrameEnd U o U' L (rr 0 0 0 0).cells (rr 0 0 0 0).slots) := by
 refine MetFree.of_bodySF (Jvm.Free.JP.mathPlain rfl (by decide +kernel)) hisR ?_
 intro p e s m args below meth c s₁ Bd hml0 hP hK
 obtain ⟨rfl, hZ, hh⟩ := hP
 have hx := Bd.exec
 have hby := Bd.bytes
 have hml : c.maxLocals = 4 := hml0
 have hown : s.vm.findClass "java/lang/Math" = some m.cls := findClass_of_methodNamed Bd.named
 have hnm := (name_of_methodNamed Bd.named Bd.method).1
 have X0 : Stand p l e (rr 0 0 0 0) s m #[(.long (8 : Int64)), (.long (2147483639 : Int64))] below meth c s₁ [] 0 0 := Stand.of_body Bd
 have e0 : s₁.heap = h0 := by rw [← hh, Bd.state]; rfl
 show own_G _ _ _ _ (s₁.setTop (entryFrame m #[(.long (8 : Int64)), (.long (2147483639 : Int64))] 4))
 refine goo (fun _ k => castTop (ef_28_JJ m (8 : Int64) (2147483639 : Int64)) k) ?_
 refine goo (fun _ k => XS.lloadN X0.here hx rfl (hb hby d28_0) rfl <| XS.lloadN X0.here hx rfl (hb hby d28_1) rfl <| XS.lcmp X0.here hx rfl (hb hby d28_2) rfl <| XS.ifNo X0.here hx rfl (hb hby d28_3) rfl (((if0 _ _).trans (flt (own_g2 (by decide : ¬ ((2147483639 : Int64) < (8 : Int64))))).2.2.1)) k) ?_
 refine goo (fun _ k => XS.lloadN X0.here hx rfl (hb hby d28_6) rfl k) ?_
 show own_G _ _ _ _ (s₁.setTop (mkF m 7 #[.val (.long (8 : Int64)), .second, .val (.long (2147483639 : Int64)), .second] [(.long (8 : Int64))]))
 refine goo (fun _ k => XS.goto X0.here hx rfl (pc0 := 7) (pc' := 11) rfl (hb hby d28_7) (by decide) (by decide) k) ?_
 show own_G _ _ _ _ (s₁.setTop (mkF m 11 #[.val (.long (8 : Int64)), .second, .val (.long (2147483639 : Int64)), .second] [(.long (8 : Int64))]))
 exact own_end X0 Bd.notSynchronized (v := some (.long (8 : Int64))) (fun h => by rw [Bd.returns] at h; cases h) (Q := QP (some (.long (8 : Int64))) h0) ⟨rfl, rfl, e0⟩ (fun fs hr => X0.lreturnOut hx Bd.returns (hb hby d28_11) hr) (by decide) (by decide)
theorem d31_0 : decode jdk_29_method_69_code 0 = .ok (.iload_n 0, 1) := by decide +kernel
theorem d31_1 : decode jdk_29_method_69_code 1 = .ok (.iload_n 1, 1) := by decide +kernel
theorem d31_2 : decode jdk_29_method_69_code 2 = .ok (.if_icmp .gt 7, 3) := by decide +kernel
theorem d31_5 : decode jdk_29_method_69_code 5 = .ok (.iload_n 0, 1) := by decide +kernel
theorem d31_6 : decode jdk_29_method_69_code 6 = .ok (.goto 4, 3) := by decide +kernel
theorem d31_10 : decode jdk_29_method_69_code 10 = .ok (.ireturn, 1) := by decide +kernel
theorem ef_31_II (m : MethodId) (x0 : Int32) (x1 : Int32) : entryFrame m #[(.int x0), (.int x1)] 2 = mkF m 0 #[.val (.int x0), .val (.int x1)] [] := by
  first | (simp [entryFrame, mkF, argsToLocals, Value.category]; done) | rfl
theorem rm31_0_4 (l : Launch) (Z : State) (a0 : Array Value) (hw : own_HW a0 Z) (ws : List Jvm.Cond)   (h0 : Heap)  :
  MetFree l Y2 (head1 (Jvm.Cond.code Y2 jdk_29_method_69_code 2 (some .int) :: ws) (rr 0 0 0 0)) (fun a U => a = #[.int i_0, .int i_4] ∧ Z.Warmed39 U.vm ∧ U.heap = h0) (fun _ _ _ _ _ => True) (fun _ U o U' => ∃ v L, o = .returned v ∧ QP (some (.int i_0)) h0 v U'.heap L ∧ FrameEnd U o U' L (rr 0 0 0 0).cells (rr 0 0 0 0).slots) := by
 refine MetFree.of_bodySF (Jvm.Free.JP.mathPlain rfl (by decide +kernel)) hisR ?_
 intro p e s m args below meth c s₁ Bd hml0 hP hK
 obtain ⟨rfl, hZ, hh⟩ := hP
 have hx := Bd.exec
 have hby := Bd.bytes
 have hml : c.maxLocals = 2 := hml0
 have hown : s.vm.findClass "java/lang/Math" = some m.cls := findClass_of_methodNamed Bd.named
 have hnm := (name_of_methodNamed Bd.named Bd.method).1
 have X0 : Stand p l e (rr 0 0 0 0) s m #[.int i_0, .int i_4] below meth c s₁ [] 0 0 := Stand.of_body Bd
 have e0 : s₁.heap = h0 := by rw [← hh, Bd.state]; rfl
 show own_G _ _ _ _ (s₁.setTop (entryFrame m #[.int i_0, .int i_4] 2))
 refine goo (fun _ k => castTop (ef_31_II m i_0 i_4) k) ?_
 refine goo (fun _ k => XS.iloadN X0.here hx rfl (hb hby d31_0) rfl <| XS.iloadN X0.here hx rfl (hb hby d31_1) rfl <| XS.icmpNo X0.here hx rfl (hb hby d31_2) rfl ((flt (by decide : ¬ (i_4 < i_0))).2.2.1) <| XS.iloadN X0.here hx rfl (hb hby d31_5) rfl k) ?_
 refine goo (fun _ k => XS.goto X0.here hx rfl (pc0 := 6) (pc' := 10) rfl (hb hby d31_6) (by decide) (by decide) k) ?_
 show own_G _ _ _ _ (s₁.setTop (mkF m 10 #[iv i_0, iv i_4] [.int i_0]))
 exact own_end X0 Bd.notSynchronized (v := some (.int i_0)) (fun h => by rw [Bd.returns] at h; cases h) (Q := QP (some (.int i_0)) h0) ⟨rfl, rfl, e0⟩ (fun fs hr => retI X0 hx Bd.returns (hb hby d31_10) hr) (by decide) (by decide)
theorem rm31_4_8 (l : Launch) (Z : State) (a0 : Array Value) (hw : own_HW a0 Z) (ws : List Jvm.Cond)   (h0 : Heap)  :
  MetFree l Y2 (head1 (Jvm.Cond.code Y2 jdk_29_method_69_code 2 (some .int) :: ws) (rr 0 0 0 0)) (fun a U => a = #[.int i_4, .int i_8] ∧ Z.Warmed39 U.vm ∧ U.heap = h0) (fun _ _ _ _ _ => True) (fun _ U o U' => ∃ v L, o = .returned v ∧ QP (some (.int i_4)) h0 v U'.heap L ∧ FrameEnd U o U' L (rr 0 0 0 0).cells (rr 0 0 0 0).slots) := by
 refine MetFree.of_bodySF (Jvm.Free.JP.mathPlain rfl (by decide +kernel)) hisR ?_
 intro p e s m args below meth c s₁ Bd hml0 hP hK
 obtain ⟨rfl, hZ, hh⟩ := hP
 have hx := Bd.exec
 have hby := Bd.bytes
 have hml : c.maxLocals = 2 := hml0
 have hown : s.vm.findClass "java/lang/Math" = some m.cls := findClass_of_methodNamed Bd.named
 have hnm := (name_of_methodNamed Bd.named Bd.method).1
 have X0 : Stand p l e (rr 0 0 0 0) s m #[.int i_4, .int i_8] below meth c s₁ [] 0 0 := Stand.of_body Bd
 have e0 : s₁.heap = h0 := by rw [← hh, Bd.state]; rfl
 show own_G _ _ _ _ (s₁.setTop (entryFrame m #[.int i_4, .int i_8] 2))
 refine goo (fun _ k => castTop (ef_31_II m i_4 i_8) k) ?_
 refine goo (fun _ k => XS.iloadN X0.here hx rfl (hb hby d31_0) rfl <| XS.iloadN X0.here hx rfl (hb hby d31_1) rfl <| XS.icmpNo X0.here hx rfl (hb hby d31_2) rfl ((flt (by decide : ¬ (i_8 < i_4))).2.2.1) <| XS.iloadN X0.here hx rfl (hb hby d31_5) rfl k) ?_
 refine goo (fun _ k => XS.goto X0.here hx rfl (pc0 := 6) (pc' := 10) rfl (hb hby d31_6) (by decide) (by decide) k) ?_
 show own_G _ _ _ _ (s₁.setTop (mkF m 10 #[iv i_4, iv i_8] [.int i_4]))
 exact own_end X0 Bd.notSynchronized (v := some (.int i_4)) (fun h => by rw [Bd.returns] at h; cases h) (Q := QP (some (.int i_4)) h0) ⟨rfl, rfl, e0⟩ (fun fs hr => retI X0 hx Bd.returns (hb hby d31_10) hr) (by decide) (by decide)
theorem d12_0 : decode jdk_33_method_47_code 0 = .ok (.iload_n 0, 1) := by decide +kernel
theorem d12_1 : decode jdk_33_method_47_code 1 = .ok (.ifCond .gt 14, 3) := by decide +kernel
theorem d12_15 : decode jdk_33_method_47_code 15 = .ok (.bipush 31, 2) := by decide +kernel
theorem d12_17 : decode jdk_33_method_47_code 17 = .ok (.istore_n 1, 1) := by decide +kernel
theorem d12_18 : decode jdk_33_method_47_code 18 = .ok (.iload_n 0, 1) := by decide +kernel
theorem d12_19 : decode jdk_33_method_47_code 19 = .ok (.ldc_w 264, 3) := by decide +kernel
theorem d12_22 : decode jdk_33_method_47_code 22 = .ok (.if_icmp .lt 11, 3) := by decide +kernel
theorem d12_33 : decode jdk_33_method_47_code 33 = .ok (.iload_n 0, 1) := by decide +kernel
theorem d12_34 : decode jdk_33_method_47_code 34 = .ok (.sipush 256, 3) := by decide +kernel
theorem d12_37 : decode jdk_33_method_47_code 37 = .ok (.if_icmp .lt 11, 3) := by decide +kernel
theorem d12_48 : decode jdk_33_method_47_code 48 = .ok (.iload_n 0, 1) := by decide +kernel
theorem d12_49 : decode jdk_33_method_47_code 49 = .ok (.bipush 16, 2) := by decide +kernel
theorem d12_51 : decode jdk_33_method_47_code 51 = .ok (.if_icmp .lt 10, 3) := by decide +kernel
theorem d12_61 : decode jdk_33_method_47_code 61 = .ok (.iload_n 0, 1) := by decide +kernel
theorem d12_62 : decode jdk_33_method_47_code 62 = .ok (.iconst 4, 1) := by decide +kernel
theorem d12_63 : decode jdk_33_method_47_code 63 = .ok (.if_icmp .lt 10, 3) := by decide +kernel
theorem d12_73 : decode jdk_33_method_47_code 73 = .ok (.iload_n 1, 1) := by decide +kernel
theorem d12_74 : decode jdk_33_method_47_code 74 = .ok (.iload_n 0, 1) := by decide +kernel
theorem d12_75 : decode jdk_33_method_47_code 75 = .ok (.iconst 1, 1) := by decide +kernel
theorem d12_76 : decode jdk_33_method_47_code 76 = .ok (.iushr, 1) := by decide +kernel
theorem d12_77 : decode jdk_33_method_47_code 77 = .ok (.isub, 1) := by decide +kernel
theorem d12_78 : decode jdk_33_method_47_code 78 = .ok (.ireturn, 1) := by decide +kernel
theorem own_pn0 : plainName "java/lang/Integer" = true := by first | (simp [plainName, overriddenIn]; done) | decide +kernel
theorem ef_12_I (m : MethodId) (x0 : Int32) : entryFrame m #[(.int x0)] 2 = mkF m 0 #[.val (.int x0), .unset] [] := by
  first | (simp [entryFrame, mkF, argsToLocals, Value.category]; done) | rfl
theorem rm12_3 (l : Launch) (Z : State) (a0 : Array Value) (hw : own_HW a0 Z) (ws : List Jvm.Cond)   (h0 : Heap)  :
  MetFree l Y3 (head1 (Jvm.Cond.code Y3 jdk_33_method_47_code 2 (some .int) :: ws) (rr 0 0 0 0)) (fun a U => a = #[.int i_3] ∧ Z.Warmed39 U.vm ∧ U.heap = h0) (fun _ _ _ _ _ => True) (fun _ U o U' => ∃ v L, o = .returned v ∧ QP (some (.int i_30)) h0 v U'.heap L ∧ FrameEnd U o U' L (rr 0 0 0 0).cells (rr 0 0 0 0).slots) := by
 refine MetFree.of_bodySF (plainFor_of_name own_pn0) hisR ?_
 intro p e s m args below meth c s₁ Bd hml0 hP hK
 obtain ⟨rfl, hZ, hh⟩ := hP
 have hx := Bd.exec
 have hby := Bd.bytes
 have hml : c.maxLocals = 2 := hml0
 have hown : s.vm.findClass "java/lang/Integer" = some m.cls := findClass_of_methodNamed Bd.named
 have hnm := (name_of_methodNamed Bd.named Bd.method).1
 have X0 : Stand p l e (rr 0 0 0 0) s m #[.int i_3] below meth c s₁ [] 0 0 := Stand.of_body Bd
 have e0 : s₁.heap = h0 := by rw [← hh, Bd.state]; rfl
 show own_G _ _ _ _ (s₁.setTop (entryFrame m #[.int i_3] 2))
 refine goo (fun _ k => castTop (ef_12_I m i_3) k) ?_
 refine goo (fun _ k => XS.iloadN X0.here hx rfl (hb hby d12_0) rfl <| XS.ifYes X0.here hx rfl (pc0 := 1) (pc' := 15) rfl (hb hby d12_1) rfl (((if0 _ _).trans (tlt (by decide : i_0 < i_3)).2.2.1)) (by decide) (by decide) <| XS.bipush X0.here hx rfl (hb hby d12_15) <| XS.istoreN X0.here hx rfl (hb hby d12_17) rfl (l' := #[iv i_3, iv i_31]) rfl k) ?_
 refine goo (fun _ k => XS.iloadN X0.here hx rfl (hb hby d12_18) rfl k) ?_
 show own_G _ _ _ _ (s₁.setTop (mkF m 19 #[iv i_3, iv i_31] [.int i_3]))
 refine goo (fun _ k => X0.ldcwInt hx hown (mvT hZ (qw hw 77 rfl)) (g := (mkF m 19 #[iv i_3, iv i_31] [.int i_3])) rfl (hb hby d12_19) _ k) ?_
 refine goo (fun _ k => XS.icmpYes X0.here hx rfl (pc0 := 22) (pc' := 33) rfl (hb hby d12_22) rfl ((tlt (by decide : i_3 < i_65536)).1) (by decide) (by decide) <| XS.iloadN X0.here hx rfl (hb hby d12_33) rfl <| XS.sipush X0.here hx rfl (hb hby d12_34) <| XS.icmpYes X0.here hx rfl (pc0 := 37) (pc' := 48) rfl (hb hby d12_37) rfl ((tlt (by decide : i_3 < i_256)).1) (by decide) (by decide) k) ?_
 refine goo (fun _ k => XS.iloadN X0.here hx rfl (hb hby d12_48) rfl k) ?_
 show own_G _ _ _ _ (s₁.setTop (mkF m 49 #[iv i_3, iv i_31] [.int i_3]))
 refine goo (fun _ k => XS.bipush X0.here hx rfl (hb hby d12_49) <| XS.icmpYes X0.here hx rfl (pc0 := 51) (pc' := 61) rfl (hb hby d12_51) rfl ((tlt (by decide : i_3 < i_16)).1) (by decide) (by decide) <| XS.iloadN X0.here hx rfl (hb hby d12_61) rfl <| XS.iconst X0.here hx rfl (hb hby d12_62) k) ?_
 refine goo (fun _ k => XS.icmpYes X0.here hx rfl (pc0 := 63) (pc' := 73) rfl (hb hby d12_63) rfl ((tlt (by decide : i_3 < i_4)).1) (by decide) (by decide) <| XS.iloadN X0.here hx rfl (hb hby d12_73) rfl k) ?_
 show own_G _ _ _ _ (s₁.setTop (mkF m 74 #[iv i_3, iv i_31] [.int i_31]))
 refine goo (fun _ k => XS.iloadN X0.here hx rfl (hb hby d12_74) rfl <| XS.iconst X0.here hx rfl (hb hby d12_75) <| XS.iushr X0.here hx rfl (hb hby d12_76) rfl <| XS.isub X0.here hx rfl (hb hby d12_77) rfl k) ?_
 show own_G _ _ _ _ (s₁.setTop (mkF m 78 #[iv i_3, iv i_31] [.int i_30]))
 exact own_end X0 Bd.notSynchronized (v := some (.int i_30)) (fun h => by rw [Bd.returns] at h; cases h) (Q := QP (some (.int i_30)) h0) ⟨rfl, rfl, e0⟩ (fun fs hr => retI X0 hx Bd.returns (hb hby d12_78) hr) (by decide) (by decide)
theorem own_pd0 : parseMethodDescriptor "(I)I" = some ⟨[.int], some .int⟩ := by decide +kernel
theorem d11_0 : decode jdk_33_method_45_code 0 = .ok (.iload_n 0, 1) := by decide +kernel
theorem d11_1 : decode jdk_33_method_45_code 1 = .ok (.ldc 127, 2) := by decide +kernel
theorem d11_3 : decode jdk_33_method_45_code 3 = .ok (.iload_n 0, 1) := by decide +kernel
theorem d11_4 : decode jdk_33_method_45_code 4 = .ok (.invokestatic 51, 3) := by decide +kernel
theorem d11_7 : decode jdk_33_method_45_code 7 = .ok (.iushr, 1) := by decide +kernel
theorem d11_8 : decode jdk_33_method_45_code 8 = .ok (.iand, 1) := by decide +kernel
theorem d11_9 : decode jdk_33_method_45_code 9 = .ok (.ireturn, 1) := by decide +kernel
theorem ef_11_I (m : MethodId) (x0 : Int32) : entryFrame m #[(.int x0)] 1 = mkF m 0 #[.val (.int x0)] [] := by
  first | (simp [entryFrame, mkF, argsToLocals, Value.category]; done) | rfl
theorem rm11_3 (l : Launch) (Z : State) (a0 : Array Value) (hw : own_HW a0 Z) (ws : List Jvm.Cond)   (h0 : Heap)  :
  MetFree l Y4 (head1 (Jvm.Cond.code Y4 jdk_33_method_45_code 1 (some .int) :: ws) (rr 1 0 0 15)) (fun a U => a = #[.int i_3] ∧ Z.Warmed39 U.vm ∧ U.heap = h0) (fun _ _ _ _ _ => True) (fun _ U o U' => ∃ v L, o = .returned v ∧ QP (some (.int i_2)) h0 v U'.heap L ∧ FrameEnd U o U' L (rr 1 0 0 15).cells (rr 1 0 0 15).slots) := by
 refine MetFree.of_bodySF (plainFor_of_name own_pn0) hisR ?_
 intro p e s m args below meth c s₁ Bd hml0 hP hK
 obtain ⟨rfl, hZ, hh⟩ := hP
 have hx := Bd.exec
 have hby := Bd.bytes
 have hml : c.maxLocals = 1 := hml0
 have hown : s.vm.findClass "java/lang/Integer" = some m.cls := findClass_of_methodNamed Bd.named
 have hnm := (name_of_methodNamed Bd.named Bd.method).1
 have X0 : Stand p l e (rr 1 0 0 15) s m #[.int i_3] below meth c s₁ [] 0 0 := Stand.of_body Bd
 have e0 : s₁.heap = h0 := by rw [← hh, Bd.state]; rfl
 show own_G _ _ _ _ (s₁.setTop (entryFrame m #[.int i_3] 1))
 refine goo (fun _ k => castTop (ef_11_I m i_3) k) ?_
 refine goo (fun _ k => XS.iloadN X0.here hx rfl (hb hby d11_0) rfl k) ?_
 refine goo (fun _ k => X0.ldcInt hx hown (mvT hZ (qw hw 73 rfl)) (g := (mkF m 1 #[iv i_3] [.int i_3])) rfl (hb hby d11_1) _ k) ?_
 refine goo (fun _ k => XS.iloadN X0.here hx rfl (hb hby d11_3) rfl k) ?_
 obtain ⟨T1, X1, e1, st1⟩ := own_callP X0 hx hZ (y := Y3) hown (qw hw 74 rfl) (qw hw 75 rfl) (qw hw 71 rfl) (qw hw 76 rfl) (by decide) (W := 2) (rm12_3 l Z a0 hw []   h0 ) (by decide) (by decide) rfl rfl e0 (g := (mkF m 4 #[iv i_3] [.int i_3, (.int (-2147483648 : Int32)), .int i_3])) rfl (by rw [hml]; rfl) (argsL := [.int i_3]) (rest := [(.int (-2147483648 : Int32)), .int i_3]) (lenOf own_pd0 rfl) rfl rfl (Nat.le_of_eq rfl) (hb hby d11_4) (by decide) (by decide)
 refine goo st1 ?_
 refine goo (fun _ k => XS.iushr X1.here hx rfl (hb hby d11_7) rfl k) ?_
 show own_G _ _ _ _ (T1.setTop (mkF m 8 #[iv i_3] [.int i_2, .int i_3]))
 refine goo (fun _ k => XS.iand X1.here hx rfl (hb hby d11_8) rfl k) ?_
 show own_G _ _ _ _ (T1.setTop (mkF m 9 #[iv i_3] [.int i_2]))
 exact own_end X1 Bd.notSynchronized (v := some (.int i_2)) (fun h => by rw [Bd.returns] at h; cases h) (Q := QP (some (.int i_2)) h0) ⟨rfl, rfl, e1⟩ (fun fs hr => retI X1 hx Bd.returns (hb hby d11_9) hr) (by decide) (by decide)
theorem own_pd1 : parseMethodDescriptor "(JJ)J" = some ⟨[.long, .long], some .long⟩ := by decide +kernel
theorem d9_0 : decode prog_46_method_24_code 0 = .ok (.ldc2_w 164, 3) := by decide +kernel
theorem d9_3 : decode prog_46_method_24_code 3 = .ok (.lload_n 0, 1) := by decide +kernel
theorem d9_4 : decode prog_46_method_24_code 4 = .ok (.invokestatic 166, 3) := by decide +kernel
theorem d9_7 : decode prog_46_method_24_code 7 = .ok (.lstore_n 2, 1) := by decide +kernel
theorem d9_8 : decode prog_46_method_24_code 8 = .ok (.lload_n 2, 1) := by decide +kernel
theorem d9_9 : decode prog_46_method_24_code 9 = .ok (.ldc2_w 172, 3) := by decide +kernel
theorem d9_12 : decode prog_46_method_24_code 12 = .ok (.lcmp, 1) := by decide +kernel
theorem d9_13 : decode prog_46_method_24_code 13 = .ok (.ifCond .lt 6, 3) := by decide +kernel
theorem d9_19 : decode prog_46_method_24_code 19 = .ok (.lload_n 2, 1) := by decide +kernel
theorem d9_20 : decode prog_46_method_24_code 20 = .ok (.l2i, 1) := by decide +kernel
theorem d9_21 : decode prog_46_method_24_code 21 = .ok (.iconst 1, 1) := by decide +kernel
theorem d9_22 : decode prog_46_method_24_code 22 = .ok (.isub, 1) := by decide +kernel
theorem d9_23 : decode prog_46_method_24_code 23 = .ok (.invokestatic 175, 3) := by decide +kernel
theorem d9_26 : decode prog_46_method_24_code 26 = .ok (.iconst 1, 1) := by decide +kernel
theorem d9_27 : decode prog_46_method_24_code 27 = .ok (.ishl, 1) := by decide +kernel
theorem d9_28 : decode prog_46_method_24_code 28 = .ok (.ireturn, 1) := by decide +kernel
theorem own_pn1 : plainName "com/example/plainsong/plainsong/engine/HashPart" = true := by first | (simp [plainName, overriddenIn]; done) | decide +kernel
theorem ef_9_J (m : MethodId) (x0 : Int64) : entryFrame m #[(.long x0)] 4 = mkF m 0 #[.val (.long x0), .second, .unset, .unset] [] := by
  first | (simp [entryFrame, mkF, argsToLocals, Value.category]; done) | rfl
theorem rm9_1 (l : Launch) (Z : State) (a0 : Array Value) (hw : own_HW a0 Z) (ws : List Jvm.Cond)   (h0 : Heap)  :
  MetFree l Y5 (head1 (Jvm.Cond.code Y5 prog_46_method_24_code 4 (some .int) :: ws) (rr 2 0 0 27)) (fun a U => a = #[(.long (1 : Int64))] ∧ Z.Warmed39 U.vm ∧ U.heap = h0) (fun _ _ _ _ _ => True) (fun _ U o U' => ∃ v L, o = .returned v ∧ QP (some (.int i_4)) h0 v U'.heap L ∧ FrameEnd U o U' L (rr 2 0 0 27).cells (rr 2 0 0 27).slots) := by
 refine MetFree.of_bodySF (plainFor_of_name own_pn1) hisR ?_
 intro p e s m args below meth c s₁ Bd hml0 hP hK
 obtain ⟨rfl, hZ, hh⟩ := hP
 have hx := Bd.exec
 have hby := Bd.bytes
 have hml : c.maxLocals = 4 := hml0
 have hown : s.vm.findClass s_0 = some m.cls := findClass_of_methodNamed Bd.named
 have hnm := (name_of_methodNamed Bd.named Bd.method).1
 have X0 : Stand p l e (rr 2 0 0 27) s m #[(.long (1 : Int64))] below meth c s₁ [] 0 0 := Stand.of_body Bd
 have e0 : s₁.heap = h0 := by rw [← hh, Bd.state]; rfl
 show own_G _ _ _ _ (s₁.setTop (entryFrame m #[(.long (1 : Int64))] 4))
 refine goo (fun _ k => castTop (ef_9_J m (1 : Int64)) k) ?_
 refine goo (fun _ k => X0.ldc2Long hx hown (mvT hZ (qw hw 63 rfl)) (g := (mkF m 0 #[.val (.long (1 : Int64)), .second, .unset, .unset] [])) rfl (hb hby d9_0) _ k) ?_
 refine goo (fun _ k => XS.lloadN X0.here hx rfl (hb hby d9_3) rfl k) ?_
 obtain ⟨T2, X2, e2, st2⟩ := own_callP X0 hx hZ (y := Y0) hown (qw hw 64 rfl) (qw hw 65 rfl) (qw hw 66 rfl) (qw hw 67 rfl) (by decide) (W := 0) (rm10_4_1 l Z a0 hw []   h0 ) (by decide) (by decide) rfl rfl e0 (g := (mkF m 4 #[.val (.long (1 : Int64)), .second, .unset, .unset] [(.long (1 : Int64)), (.long (4 : Int64))])) rfl (by rw [hml]; rfl) (argsL := [(.long (4 : Int64)), (.long (1 : Int64))]) (rest := []) (lenOf own_pd1 rfl) rfl rfl (Nat.le_of_eq rfl) (hb hby d9_4) (by decide) (by decide)
 refine goo st2 ?_
 refine goo (fun _ k => XS.lstoreN X2.here hx rfl (hb hby d9_7) rfl (l' := #[.val (.long (1 : Int64)), .second, .val (.long (4 : Int64)), .second]) rfl <| XS.lloadN X2.here hx rfl (hb hby d9_8) rfl k) ?_
 show own_G _ _ _ _ (T2.setTop (mkF m 9 #[.val (.long (1 : Int64)), .second, .val (.long (4 : Int64)), .second] [(.long (4 : Int64))]))
 refine goo (fun _ k => X2.ldc2Long hx hown (mvT hZ (qw hw 68 rfl)) (g := (mkF m 9 #[.val (.long (1 : Int64)), .second, .val (.long (4 : Int64)), .second] [(.long (4 : Int64))])) rfl (hb hby d9_9) _ k) ?_
 refine goo (fun _ k => XS.lcmp X2.here hx rfl (hb hby d9_12) rfl <| XS.ifYes X2.here hx rfl (pc0 := 13) (pc' := 19) rfl (hb hby d9_13) rfl (((if0 _ _).trans (tlt (own_l1 (by decide : (4 : Int64) < (1073741824 : Int64)))).1)) (by decide) (by decide) <| XS.lloadN X2.here hx rfl (hb hby d9_19) rfl <| XS.l2i X2.here hx rfl (hb hby d9_20) rfl k) ?_
 refine goo (fun _ k => XS.iconst X2.here hx rfl (hb hby d9_21) k) ?_
 show own_G _ _ _ _ (T2.setTop (mkF m 22 #[.val (.long (1 : Int64)), .second, .val (.long (4 : Int64)), .second] [.int i_1, .int i_4]))
 refine goo (fun _ k => XS.isub X2.here hx rfl (hb hby d9_22) rfl k) ?_
 obtain ⟨T3, X3, e3, st3⟩ := own_callP X2 hx hZ (y := Y4) hown (qw hw 69 rfl) (qw hw 70 rfl) (qw hw 71 rfl) (qw hw 72 rfl) (by decide) (W := 0) (rm11_3 l Z a0 hw []   h0 ) (by decide) (by decide) rfl rfl e2 (g := (mkF m 23 #[.val (.long (1 : Int64)), .second, .val (.long (4 : Int64)), .second] [.int i_3])) rfl (by rw [hml]; rfl) (argsL := [.int i_3]) (rest := []) (lenOf own_pd0 rfl) rfl rfl (Nat.le_of_eq rfl) (hb hby d9_23) (by decide) (by decide)
 refine goo st3 ?_
 refine goo (fun _ k => XS.iconst X3.here hx rfl (hb hby d9_26) <| XS.ishl X3.here hx rfl (hb hby d9_27) rfl k) ?_
 show own_G _ _ _ _ (T3.setTop (mkF m 28 #[.val (.long (1 : Int64)), .second, .val (.long (4 : Int64)), .second] [.int i_4]))
 exact own_end X3 Bd.notSynchronized (v := some (.int i_4)) (fun h => by rw [Bd.returns] at h; cases h) (Q := QP (some (.int i_4)) h0) ⟨rfl, rfl, e3⟩ (fun fs hr => retI X3 hx Bd.returns (hb hby d9_28) hr) (by decide) (by decide)
theorem d27_0 : decode prog_60_method_16_code 0 = .ok (.ldc2_w 165, 3) := by decide +kernel
theorem d27_3 : decode prog_60_method_16_code 3 = .ok (.lload_n 0, 1) := by decide +kernel
theorem d27_4 : decode prog_60_method_16_code 4 = .ok (.invokestatic 167, 3) := by decide +kernel
theorem d27_7 : decode prog_60_method_16_code 7 = .ok (.ldc2_w 170, 3) := by decide +kernel
theorem d27_10 : decode prog_60_method_16_code 10 = .ok (.invokestatic 172, 3) := by decide +kernel
theorem d27_13 : decode prog_60_method_16_code 13 = .ok (.l2i, 1) := by decide +kernel
theorem d27_14 : decode prog_60_method_16_code 14 = .ok (.ireturn, 1) := by decide +kernel
theorem own_pn2 : plainName "com/example/plainsong/plainsong/engine/Table" = true := by first | (simp [plainName, overriddenIn]; done) | decide +kernel
theorem ef_27_J (m : MethodId) (x0 : Int64) : entryFrame m #[(.long x0)] 2 = mkF m 0 #[.val (.long x0), .second] [] := by
  first | (simp [entryFrame, mkF, argsToLocals, Value.category]; done) | rfl
theorem rm27_0 (l : Launch) (Z : State) (a0 : Array Value) (hw : own_HW a0 Z) (ws : List Jvm.Cond)   (h0 : Heap)  :
  MetFree l Y6 (head1 (Jvm.Cond.code Y6 prog_60_method_16_code 2 (some .int) :: ws) (rr 1 0 0 15)) (fun a U => a = #[(.long (0 : Int64))] ∧ Z.Warmed39 U.vm ∧ U.heap = h0) (fun _ _ _ _ _ => True) (fun _ U o U' => ∃ v L, o = .returned v ∧ QP (some (.int i_4)) h0 v U'.heap L ∧ FrameEnd U o U' L (rr 1 0 0 15).cells (rr 1 0 0 15).slots) := by
 refine MetFree.of_bodySF (plainFor_of_name own_pn2) hisR ?_
 intro p e s m args below meth c s₁ Bd hml0 hP hK
 obtain ⟨rfl, hZ, hh⟩ := hP
 have hx := Bd.exec
 have hby := Bd.bytes
 have hml : c.maxLocals = 2 := hml0
 have hown : s.vm.findClass s_1 = some m.cls := findClass_of_methodNamed Bd.named
 have hnm := (name_of_methodNamed Bd.named Bd.method).1
 have X0 : Stand p l e (rr 1 0 0 15) s m #[(.long (0 : Int64))] below meth c s₁ [] 0 0 := Stand.of_body Bd
 have e0 : s₁.heap = h0 := by rw [← hh, Bd.state]; rfl
 show own_G _ _ _ _ (s₁.setTop (entryFrame m #[(.long (0 : Int64))] 2))
 refine goo (fun _ k => castTop (ef_27_J m (0 : Int64)) k) ?_
 refine goo (fun _ k => X0.ldc2Long hx hown (mvT hZ (qw hw 165 rfl)) (g := (mkF m 0 #[.val (.long (0 : Int64)), .second] [])) rfl (hb hby d27_0) _ k) ?_
 refine goo (fun _ k => XS.lloadN X0.here hx rfl (hb hby d27_3) rfl k) ?_
 obtain ⟨T4, X4, e4, st4⟩ := own_callP X0 hx hZ (y := Y0) hown (qw hw 166 rfl) (qw hw 65 rfl) (qw hw 66 rfl) (qw hw 67 rfl) (by decide) (W := 0) (rm10_4_0 l Z a0 hw []   h0 ) (by decide) (by decide) rfl rfl e0 (g := (mkF m 4 #[.val (.long (0 : Int64)), .second] [(.long (0 : Int64)), (.long (4 : Int64))])) rfl (by rw [hml]; rfl) (argsL := [(.long (4 : Int64)), (.long (0 : Int64))]) (rest := []) (lenOf own_pd1 rfl) rfl rfl (Nat.le_of_eq rfl) (hb hby d27_4) (by decide) (by decide)
 refine goo st4 ?_
 refine goo (fun _ k => X4.ldc2Long hx hown (mvT hZ (qw hw 167 rfl)) (g := (mkF m 7 #[.val (.long (0 : Int64)), .second] [(.long (4 : Int64))])) rfl (hb hby d27_7) _ k) ?_
 obtain ⟨T5, X5, e5, st5⟩ := own_callP X4 hx hZ (y := Y1) hown (qw hw 168 rfl) (qw hw 169 rfl) (qw hw 66 rfl) (qw hw 170 rfl) (by decide) (W := 0) (rm28_4_2147483639 l Z a0 hw []   h0 ) (by decide) (by decide) rfl rfl e4 (g := (mkF m 10 #[.val (.long (0 : Int64)), .second] [(.long (2147483639 : Int64)), (.long (4 : Int64))])) rfl (by rw [hml]; rfl) (argsL := [(.long (4 : Int64)), (.long (2147483639 : Int64))]) (rest := []) (lenOf own_pd1 rfl) rfl rfl (Nat.le_of_eq rfl) (hb hby d27_10) (by decide) (by decide)
 refine goo st5 ?_
 show own_G _ _ _ _ (T5.setTop (mkF m 13 #[.val (.long (0 : Int64)), .second] [(.long (4 : Int64))]))
 refine goo (fun _ k => XS.l2i X5.here hx rfl (hb hby d27_13) rfl k) ?_
 show own_G _ _ _ _ (T5.setTop (mkF m 14 #[.val (.long (0 : Int64)), .second] [.int i_4]))
 exact own_end X5 Bd.notSynchronized (v := some (.int i_4)) (fun h => by rw [Bd.returns] at h; cases h) (Q := QP (some (.int i_4)) h0) ⟨rfl, rfl, e5⟩ (fun fs hr => retI X5 hx Bd.returns (hb hby d27_14) hr) (by decide) (by decide)
theorem rm27_8 (l : Launch) (Z : State) (a0 : Array Value) (hw : own_HW a0 Z) (ws : List Jvm.Cond)   (h0 : Heap)  :
  MetFree l Y6 (head1 (Jvm.Cond.code Y6 prog_60_method_16_code 2 (some .int) :: ws) (rr 1 0 0 15)) (fun a U => a = #[(.long (8 : Int64))] ∧ Z.Warmed39 U.vm ∧ U.heap = h0) (fun _ _ _ _ _ => True) (fun _ U o U' => ∃ v L, o = .returned v ∧ QP (some (.int i_8)) h0 v U'.heap L ∧ FrameEnd U o U' L (rr 1 0 0 15).cells (rr 1 0 0 15).slots) := by
 refine MetFree.of_bodySF (plainFor_of_name own_pn2) hisR ?_
 intro p e s m args below meth c s₁ Bd hml0 hP hK
 obtain ⟨rfl, hZ, hh⟩ := hP
 have hx := Bd.exec
 have hby := Bd.bytes
 have hml : c.maxLocals = 2 := hml0
 have hown : s.vm.findClass s_1 = some m.cls := findClass_of_methodNamed Bd.named
 have hnm := (name_of_methodNamed Bd.named Bd.method).1
 have X0 : Stand p l e (rr 1 0 0 15) s m #[(.long (8 : Int64))] below meth c s₁ [] 0 0 := Stand.of_body Bd
 have e0 : s₁.heap = h0 := by rw [← hh, Bd.state]; rfl
 show own_G _ _ _ _ (s₁.setTop (entryFrame m #[(.long (8 : Int64))] 2))
 refine goo (fun _ k => castTop (ef_27_J m (8 : Int64)) k) ?_
 refine goo (fun _ k => X0.ldc2Long hx hown (mvT hZ (qw hw 165 rfl)) (g := (mkF m 0 #[.val (.long (8 : Int64)), .second] [])) rfl (hb hby d27_0) _ k) ?_
 refine goo (fun _ k => XS.lloadN X0.here hx rfl (hb hby d27_3) rfl k) ?_
 obtain ⟨T6, X6, e6, st6⟩ := own_callP X0 hx hZ (y := Y0) hown (qw hw 166 rfl) (qw hw 65 rfl) (qw hw 66 rfl) (qw hw 67 rfl) (by decide) (W := 0) (rm10_4_8 l Z a0 hw []   h0 ) (by decide) (by decide) rfl rfl e0 (g := (mkF m 4 #[.val (.long (8 : Int64)), .second] [(.long (8 : Int64)), (.long (4 : Int64))])) rfl (by rw [hml]; rfl) (argsL := [(.long (4 : Int64)), (.long (8 : Int64))]) (rest := []) (lenOf own_pd1 rfl) rfl rfl (Nat.le_of_eq rfl) (hb hby d27_4) (by decide) (by decide)
 refine goo st6 ?_
 refine goo (fun _ k => X6.ldc2Long hx hown (mvT hZ (qw hw 167 rfl)) (g := (mkF m 7 #[.val (.long (8 : Int64)), .second] [(.long (8 : Int64))])) rfl (hb hby d27_7) _ k) ?_
 obtain ⟨T7, X7, e7, st7⟩ := own_callP X6 hx hZ (y := Y1) hown (qw hw 168 rfl) (qw hw 169 rfl) (qw hw 66 rfl) (qw hw 170 rfl) (by decide) (W := 0) (rm28_8_2147483639 l Z a0 hw []   h0 ) (by decide) (by decide) rfl rfl e6 (g := (mkF m 10 #[.val (.long (8 : Int64)), .second] [(.long (2147483639 : Int64)), (.long (8 : Int64))])) rfl (by rw [hml]; rfl) (argsL := [(.long (8 : Int64)), (.long (2147483639 : Int64))]) (rest := []) (lenOf own_pd1 rfl) rfl rfl (Nat.le_of_eq rfl) (hb hby d27_10) (by decide) (by decide)
 refine goo st7 ?_
 show own_G _ _ _ _ (T7.setTop (mkF m 13 #[.val (.long (8 : Int64)), .second] [(.long (8 : Int64))]))
 refine goo (fun _ k => XS.l2i X7.here hx rfl (hb hby d27_13) rfl k) ?_
 show own_G _ _ _ _ (T7.setTop (mkF m 14 #[.val (.long (8 : Int64)), .second] [.int i_8]))
 exact own_end X7 Bd.notSynchronized (v := some (.int i_8)) (fun h => by rw [Bd.returns] at h; cases h) (Q := QP (some (.int i_8)) h0) ⟨rfl, rfl, e7⟩ (fun fs hr => retI X7 hx Bd.returns (hb hby d27_14) hr) (by decide) (by decide)
def Q_rm14 (Z : State) (x0 : Addr) (k : ClassId) (h0 : Heap) (n0 : Nat) (v : Option Value) (h : Heap) (L : List Loc) : Prop := v = none ∧ Fr n0 L ∧ Keep h0 h [x0] ∧ Arv Z h x0 k .int i_4 [(.int (-1 : Int32)), (.int (-1 : Int32)), (.int (-1 : Int32)), (.int (-1 : Int32))] (.int i_0)
theorem d14_0 : decode jdk_65_method_103_code 0 = .ok (.iconst 0, 1) := by decide +kernel
theorem d14_1 : decode jdk_65_method_103_code 1 = .ok (.istore_n 2, 1) := by decide +kernel
theorem d14_2 : decode jdk_65_method_103_code 2 = .ok (.aload_n 0, 1) := by decide +kernel
theorem d14_3 : decode jdk_65_method_103_code 3 = .ok (.arraylength, 1) := by decide +kernel
theorem d14_4 : decode jdk_65_method_103_code 4 = .ok (.istore_n 3, 1) := by decide +kernel
theorem d14_5 : decode jdk_65_method_103_code 5 = .ok (.iload_n 2, 1) := by decide +kernel
theorem d14_6 : decode jdk_65_method_103_code 6 = .ok (.iload_n 3, 1) := by decide +kernel
theorem d14_7 : decode jdk_65_method_103_code 7 = .ok (.if_icmp .ge 13, 3) := by decide +kernel
theorem d14_10 : decode jdk_65_method_103_code 10 = .ok (.aload_n 0, 1) := by decide +kernel
theorem d14_11 : decode jdk_65_method_103_code 11 = .ok (.iload_n 2, 1) := by decide +kernel
theorem d14_12 : decode jdk_65_method_103_code 12 = .ok (.iload_n 1, 1) := by decide +kernel
theorem d14_13 : decode jdk_65_method_103_code 13 = .ok (.iastore, 1) := by decide +kernel
theorem d14_14 : decode jdk_65_method_103_code 14 = .ok (.iinc 2 1, 3) := by decide +kernel
theorem d14_17 : decode jdk_65_method_103_code 17 = .ok (.goto (-12), 3) := by decide +kernel
theorem d14_20 : decode jdk_65_method_103_code 20 = .ok (.return_, 1) := by decide +kernel
theorem own_pn3 : plainName "java/util/Arrays" = true := by first | (simp [plainName, overriddenIn]; done) | decide +kernel
theorem ef_14_RI (m : MethodId) (x0 : Addr) (x1 : Int32) : entryFrame m #[(.ref x0), (.int x1)] 4 = mkF m 0 #[.val (.ref x0), .val (.int x1), .unset, .unset] [] := by
  first | (simp [entryFrame, mkF, argsToLocals, Value.category]; done) | rfl
theorem rm14 (l : Launch) (Z : State) (a0 : Array Value) (hw : own_HW a0 Z) (ws : List Jvm.Cond) (x0 : Addr) (k : ClassId) (h0 : Heap) (n0 : Nat) (Z0 : n0 ≤ h0.size) (p0_ : Arv Z h0 x0 k .int i_4 [.int i_0, .int i_0, .int i_0, .int i_0] (.int i_0)) (p1_ : n0 ≤ x0)  :
  MetFree l Y7 (head1 (Jvm.Cond.code Y7 jdk_65_method_103_code 4 none :: ws) (rr 0 0 0 0)) (fun a U => a = #[.ref x0, (.int (-1 : Int32))] ∧ Z.Warmed39 U.vm ∧ U.heap = h0) (fun _ _ _ _ _ => True) (fun _ U o U' => ∃ v L, o = .returned v ∧ Q_rm14 Z x0 k h0 n0 v U'.heap L ∧ FrameEnd U o U' L (rr 0 0 0 0).cells (rr 0 0 0 0).slots) := by
 refine MetFree.of_bodySF (plainFor_of_name own_pn3) hisR ?_
 intro p e s m args below meth c s₁ Bd hml0 hP hK
 obtain ⟨rfl, hZ, hh⟩ := hP
 have hx := Bd.exec
 have hby := Bd.bytes
 have hml : c.maxLocals = 4 := hml0
 have hown : s.vm.findClass "java/util/Arrays" = some m.cls := findClass_of_methodNamed Bd.named
 have hnm := (name_of_methodNamed Bd.named Bd.method).1
 have X0 : Stand p l e (rr 0 0 0 0) s m #[.ref x0, (.int (-1 : Int32))] below meth c s₁ [] 0 0 := Stand.of_body Bd
 have e0 : s₁.heap = h0 := by rw [← hh, Bd.state]; rfl
 show own_G _ _ _ _ (s₁.setTop (entryFrame m #[.ref x0, (.int (-1 : Int32))] 4))
 refine goo (fun _ k => castTop (ef_14_RI m x0 (-1 : Int32)) k) ?_
 have N0 := Fr.nil n0
 have KP0 := Keep.refl h0 [x0]
 refine goo (fun _ k => XS.iconst X0.here hx rfl (hb hby d14_0) <| XS.istoreN X0.here hx rfl (hb hby d14_1) rfl (l' := #[rv x0, iv (-1 : Int32), iv i_0, .unset]) rfl <| XS.aloadN X0.here hx rfl (hb hby d14_2) rfl rfl k) ?_
 obtain ⟨cl8, Ar8, -, S8, N8, -, -⟩ := id p0_
 refine goo (fun _ k => X0.arraylength hx (cell := cl8) (by rw [e0]; exact Ar8.1) (State.isArrayOf_alike hZ.alike Ar8.2.1) (g := (mkF m 3 #[rv x0, iv (-1 : Int32), iv i_0, .unset] [.ref x0])) rfl rfl (hb hby d14_3) _ (by rw [len_of S8 N8]; exact k)) ?_
 refine goo (fun _ k => XS.istoreN X0.here hx rfl (hb hby d14_4) rfl (l' := #[rv x0, iv (-1 : Int32), iv i_0, iv i_4]) rfl k) ?_
 show own_G _ _ _ _ (s₁.setTop (mkF m 5 #[rv x0, iv (-1 : Int32), iv i_0, iv i_4] []))
 refine goo (fun _ k => XS.iloadN X0.here hx rfl (hb hby d14_5) rfl <| XS.iloadN X0.here hx rfl (hb hby d14_6) rfl <| XS.icmpNo X0.here hx rfl (hb hby d14_7) rfl ((tlt (by decide : i_0 < i_4)).2.1) <| XS.aloadN X0.here hx rfl (hb hby d14_10) rfl rfl k) ?_
 refine goo (fun _ k => XS.iloadN X0.here hx rfl (hb hby d14_11) rfl <| XS.iloadN X0.here hx rfl (hb hby d14_12) rfl k) ?_
 show own_G _ _ _ _ (s₁.setTop (mkF m 13 #[rv x0, iv (-1 : Int32), iv i_0, iv i_4] [(.int (-1 : Int32)), .int i_0, .ref x0]))
 obtain ⟨cl9, Ar9, q9, S9, N9, H9, G9⟩ := id p0_
 obtain ⟨T9, h9, X9, e9, W9, st9⟩ := stI X0 hx hZ e0 Ar9 (j := i_0) (inb_of S9 ⟨by decide, by decide⟩) (g := (mkF m 13 #[rv x0, iv (-1 : Int32), iv i_0, iv i_4] [(.int (-1 : Int32)), .int i_0, .ref x0])) rfl rfl (hb hby d14_13)
 have V9 : Arv Z h9 x0 k .int i_4 [(.int (-1 : Int32)), .int i_0, .int i_0, .int i_0] (.int i_0) := Arv.set Ar9 q9 S9 N9 H9 G9 rfl W9 0 rfl (Nat.le_of_ble_eq_true rfl)
 have KP_11 : Keep h0 h9 [x0] := KP0.wr W9 (Or.inl (List.mem_of_getElem? (i := 0) rfl))
 have N_9 := Fr.snoc X9 N0 p1_
 refine goo st9 ?_
 refine goo (fun _ k => XS.iinc X9.here hx rfl (hb hby d14_14) rfl (l' := #[rv x0, iv (-1 : Int32), iv i_1, iv i_4]) rfl <| XS.goto X9.here hx rfl (pc0 := 17) (pc' := 5) rfl (hb hby d14_17) (by decide) (by decide) <| XS.iloadN X9.here hx rfl (hb hby d14_5) rfl <| XS.iloadN X9.here hx rfl (hb hby d14_6) rfl k) ?_
 refine goo (fun _ k => XS.icmpNo X9.here hx rfl (hb hby d14_7) rfl ((tlt (by decide : i_1 < i_4)).2.1) k) ?_
 show own_G _ _ _ _ (T9.setTop (mkF m 10 #[rv x0, iv (-1 : Int32), iv i_1, iv i_4] []))
 refine goo (fun _ k => XS.aloadN X9.here hx rfl (hb hby d14_10) rfl rfl <| XS.iloadN X9.here hx rfl (hb hby d14_11) rfl <| XS.iloadN X9.here hx rfl (hb hby d14_12) rfl k) ?_
 obtain ⟨cl12, Ar12, q12, S12, N12, H12, G12⟩ := id V9
 obtain ⟨T12, h12, X12, e12, W12, st12⟩ := stI X9 hx hZ e9 Ar12 (j := i_1) (inb_of S12 ⟨by decide, by decide⟩) (g := (mkF m 13 #[rv x0, iv (-1 : Int32), iv i_1, iv i_4] [(.int (-1 : Int32)), .int i_1, .ref x0])) rfl rfl (hb hby d14_13)
 have V12 : Arv Z h12 x0 k .int i_4 [(.int (-1 : Int32)), (.int (-1 : Int32)), .int i_0, .int i_0] (.int i_0) := Arv.set Ar12 q12 S12 N12 H12 G12 rfl W12 1 rfl (Nat.le_of_ble_eq_true rfl)
 have KP_14 : Keep h0 h12 [x0] := KP_11.wr W12 (Or.inl (List.mem_of_getElem? (i := 0) rfl))
 have N_12 := Fr.snoc X12 N_9 p1_
 refine goo st12 ?_
 refine goo (fun _ k => XS.iinc X12.here hx rfl (hb hby d14_14) rfl (l' := #[rv x0, iv (-1 : Int32), iv i_2, iv i_4]) rfl <| XS.goto X12.here hx rfl (pc0 := 17) (pc' := 5) rfl (hb hby d14_17) (by decide) (by decide) k) ?_
 show own_G _ _ _ _ (T12.setTop (mkF m 5 #[rv x0, iv (-1 : Int32), iv i_2, iv i_4] []))
 refine goo (fun _ k => XS.iloadN X12.here hx rfl (hb hby d14_5) rfl <| XS.iloadN X12.here hx rfl (hb hby d14_6) rfl <| XS.icmpNo X12.here hx rfl (hb hby d14_7) rfl ((tlt (by decide : i_2 < i_4)).2.1) <| XS.aloadN X12.here hx rfl (hb hby d14_10) rfl rfl k) ?_
 refine goo (fun _ k => XS.iloadN X12.here hx rfl (hb hby d14_11) rfl <| XS.iloadN X12.here hx rfl (hb hby d14_12) rfl k) ?_
 show own_G _ _ _ _ (T12.setTop (mkF m 13 #[rv x0, iv (-1 : Int32), iv i_2, iv i_4] [(.int (-1 : Int32)), .int i_2, .ref x0]))
 obtain ⟨cl15, Ar15, q15, S15, N15, H15, G15⟩ := id V12
 obtain ⟨T15, h15, X15, e15, W15, st15⟩ := stI X12 hx hZ e12 Ar15 (j := i_2) (inb_of S15 ⟨by decide, by decide⟩) (g := (mkF m 13 #[rv x0, iv (-1 : Int32), iv i_2, iv i_4] [(.int (-1 : Int32)), .int i_2, .ref x0])) rfl rfl (hb hby d14_13)
 have V15 : Arv Z h15 x0 k .int i_4 [(.int (-1 : Int32)), (.int (-1 : Int32)), (.int (-1 : Int32)), .int i_0] (.int i_0) := Arv.set Ar15 q15 S15 N15 H15 G15 rfl W15 2 rfl (Nat.le_of_ble_eq_true rfl)
 have KP_17 : Keep h0 h15 [x0] := KP_14.wr W15 (Or.inl (List.mem_of_getElem? (i := 0) rfl))
 have N_15 := Fr.snoc X15 N_12 p1_
 refine goo st15 ?_
 refine goo (fun _ k => XS.iinc X15.here hx rfl (hb hby d14_14) rfl (l' := #[rv x0, iv (-1 : Int32), iv i_3, iv i_4]) rfl <| XS.goto X15.here hx rfl (pc0 := 17) (pc' := 5) rfl (hb hby d14_17) (by decide) (by decide) <| XS.iloadN X15.here hx rfl (hb hby d14_5) rfl <| XS.iloadN X15.here hx rfl (hb hby d14_6) rfl k) ?_
 refine goo (fun _ k => XS.icmpNo X15.here hx rfl (hb hby d14_7) rfl ((tlt (by decide : i_3 < i_4)).2.1) k) ?_
 show own_G _ _ _ _ (T15.setTop (mkF m 10 #[rv x0, iv (-1 : Int32), iv i_3, iv i_4] []))
 refine goo (fun _ k => XS.aloadN X15.here hx rfl (hb hby d14_10) rfl rfl <| XS.iloadN X15.here hx rfl (hb hby d14_11) rfl <| XS.iloadN X15.here hx rfl (hb hby d14_12) rfl k) ?_
 obtain ⟨cl18, Ar18, q18, S18, N18, H18, G18⟩ := id V15
 obtain ⟨T18, h18, X18, e18, W18, st18⟩ := stI X15 hx hZ e15 Ar18 (j := i_3) (inb_of S18 ⟨by decide, by decide⟩) (g := (mkF m 13 #[rv x0, iv (-1 : Int32), iv i_3, iv i_4] [(.int (-1 : Int32)), .int i_3, .ref x0])) rfl rfl (hb hby d14_13)
 have V18 : Arv Z h18 x0 k .int i_4 [(.int (-1 : Int32)), (.int (-1 : Int32)), (.int (-1 : Int32)), (.int (-1 : Int32))] (.int i_0) := Arv.set Ar18 q18 S18 N18 H18 G18 rfl W18 3 rfl (Nat.le_of_ble_eq_true rfl)
 have KP_20 : Keep h0 h18 [x0] := KP_17.wr W18 (Or.inl (List.mem_of_getElem? (i := 0) rfl))
 have N_18 := Fr.snoc X18 N_15 p1_
 refine goo st18 ?_
 refine goo (fun _ k => XS.iinc X18.here hx rfl (hb hby d14_14) rfl (l' := #[rv x0, iv (-1 : Int32), iv i_4, iv i_4]) rfl <| XS.goto X18.here hx rfl (pc0 := 17) (pc' := 5) rfl (hb hby d14_17) (by decide) (by decide) k) ?_
 show own_G _ _ _ _ (T18.setTop (mkF m 5 #[rv x0, iv (-1 : Int32), iv i_4, iv i_4] []))
 refine goo (fun _ k => XS.iloadN X18.here hx rfl (hb hby d14_5) rfl <| XS.iloadN X18.here hx rfl (hb hby d14_6) rfl <| XS.icmpYes X18.here hx rfl (pc0 := 7) (pc' := 20) rfl (hb hby d14_7) rfl ((flt (by decide : ¬ (i_4 < i_4))).2.1) (by decide) (by decide) k) ?_
 show own_G _ _ _ _ (T18.setTop (mkF m 20 #[rv x0, iv (-1 : Int32), iv i_4, iv i_4] []))
 exact own_end X18 Bd.notSynchronized (v := none) (fun _ => rfl) (Q := Q_rm14 Z x0 k h0 n0) (by show Q_rm14 Z x0 k h0 n0 (none) T18.heap _; rw [e18]; exact ⟨rfl, N_18, KP_20, V18⟩) (fun fs hr => X18.returnOut hx Bd.returns (hb hby d14_20) hr) (by decide) (by decide)
def Q_rm13 (Z : State) (x0 : Addr)  (h0 : Heap) (n0 : Nat) (v : Option Value) (h : Heap) (L : List Loc) : Prop := v = none ∧ Fr n0 L ∧ Keep h0 h [x0] ∧ Exa Z h x0 s_0 ∧ ∃ bk ky vl hs ch k1 k2 k3 k4 k5, h0.size ≤ bk ∧ h0.size ≤ ky ∧ h0.size ≤ vl ∧ h0.size ≤ hs ∧ h0.size ≤ ch ∧ Fld Z h x0 s_0 "buckets" "[I" (.ref bk) ∧ Fld Z h x0 s_0 "keys" "[Ljava/lang/Object;" (.ref ky) ∧ Fld Z h x0 s_0 "values" "[Ljava/lang/Object;" (.ref vl) ∧ Fld Z h x0 s_0 "hashes" "[I" (.ref hs) ∧ Fld Z h x0 s_0 "chain" "[I" (.ref ch) ∧ Fld Z h x0 s_0 "size" "I" (.int i_0) ∧ Fld Z h x0 s_0 "count" "I" (.int i_0) ∧ Fld Z h x0 s_0 "emptied" "Z" (.int i_0) ∧ Arv Z h bk k1 .int i_4 [(.int (-1 : Int32)), (.int (-1 : Int32)), (.int (-1 : Int32)), (.int (-1 : Int32))] (.int i_0) ∧ Arv Z h ky k2 (.object s_2) i_4 [.null, .null, .null, .null] .null ∧ Arv Z h vl k3 (.object s_2) i_4 [.null, .null, .null, .null] .null ∧ Arv Z h hs k4 .int i_4 [.int i_0, .int i_0, .int i_0, .int i_0] (.int i_0) ∧ Arv Z h ch k5 .int i_4 [.int i_0, .int i_0, .int i_0, .int i_0] (.int i_0) ∧ bk ≠ ky ∧ bk ≠ vl ∧ bk ≠ hs ∧ bk ≠ ch ∧ ky ≠ vl ∧ ky ≠ hs ∧ ky ≠ ch ∧ vl ≠ hs ∧ vl ≠ ch ∧ hs ≠ ch ∧ Ovr Z k2 s_2 ∧ Ovr Z k3 s_2
theorem own_pd2 : parseMethodDescriptor "([II)V" = some ⟨[(.array .int), .int], none⟩ := by decide +kernel
theorem d13_0 : decode prog_46_method_23_code 0 = .ok (.aload_n 0, 1) := by decide +kernel
theorem d13_1 : decode prog_46_method_23_code 1 = .ok (.iload_n 1, 1) := by decide +kernel
theorem d13_2 : decode prog_46_method_23_code 2 = .ok (.newarray .int, 2) := by decide +kernel
theorem d13_4 : decode prog_46_method_23_code 4 = .ok (.putfield 102, 3) := by decide +kernel
theorem d13_7 : decode prog_46_method_23_code 7 = .ok (.aload_n 0, 1) := by decide +kernel
theorem d13_8 : decode prog_46_method_23_code 8 = .ok (.getfield 102, 3) := by decide +kernel
theorem d13_11 : decode prog_46_method_23_code 11 = .ok (.iconst (-1), 1) := by decide +kernel
theorem d13_12 : decode prog_46_method_23_code 12 = .ok (.invokestatic 127, 3) := by decide +kernel
theorem d13_15 : decode prog_46_method_23_code 15 = .ok (.aload_n 0, 1) := by decide +kernel
theorem d13_16 : decode prog_46_method_23_code 16 = .ok (.iload_n 1, 1) := by decide +kernel
theorem d13_17 : decode prog_46_method_23_code 17 = .ok (.anewarray 2, 3) := by decide +kernel
theorem d13_20 : decode prog_46_method_23_code 20 = .ok (.putfield 36, 3) := by decide +kernel
theorem d13_23 : decode prog_46_method_23_code 23 = .ok (.aload_n 0, 1) := by decide +kernel
theorem d13_24 : decode prog_46_method_23_code 24 = .ok (.iload_n 1, 1) := by decide +kernel
theorem d13_25 : decode prog_46_method_23_code 25 = .ok (.anewarray 2, 3) := by decide +kernel
theorem d13_28 : decode prog_46_method_23_code 28 = .ok (.putfield 32, 3) := by decide +kernel
theorem d13_31 : decode prog_46_method_23_code 31 = .ok (.aload_n 0, 1) := by decide +kernel
theorem d13_32 : decode prog_46_method_23_code 32 = .ok (.iload_n 1, 1) := by decide +kernel
theorem d13_33 : decode prog_46_method_23_code 33 = .ok (.newarray .int, 2) := by decide +kernel
theorem d13_35 : decode prog_46_method_23_code 35 = .ok (.putfield 72, 3) := by decide +kernel
theorem d13_38 : decode prog_46_method_23_code 38 = .ok (.aload_n 0, 1) := by decide +kernel
theorem d13_39 : decode prog_46_method_23_code 39 = .ok (.iload_n 1, 1) := by decide +kernel
theorem d13_40 : decode prog_46_method_23_code 40 = .ok (.newarray .int, 2) := by decide +kernel
theorem d13_42 : decode prog_46_method_23_code 42 = .ok (.putfield 105, 3) := by decide +kernel
theorem d13_45 : decode prog_46_method_23_code 45 = .ok (.aload_n 0, 1) := by decide +kernel
theorem d13_46 : decode prog_46_method_23_code 46 = .ok (.iconst 0, 1) := by decide +kernel
theorem d13_47 : decode prog_46_method_23_code 47 = .ok (.putfield 21, 3) := by decide +kernel
theorem d13_50 : decode prog_46_method_23_code 50 = .ok (.aload_n 0, 1) := by decide +kernel
theorem d13_51 : decode prog_46_method_23_code 51 = .ok (.iload_n 1, 1) := by decide +kernel
theorem d13_52 : decode prog_46_method_23_code 52 = .ok (.bipush 64, 2) := by decide +kernel
theorem d13_54 : decode prog_46_method_23_code 54 = .ok (.if_icmp .le 10, 3) := by decide +kernel
theorem d13_64 : decode prog_46_method_23_code 64 = .ok (.iconst 0, 1) := by decide +kernel
theorem d13_65 : decode prog_46_method_23_code 65 = .ok (.putfield 121, 3) := by decide +kernel
theorem d13_68 : decode prog_46_method_23_code 68 = .ok (.return_, 1) := by decide +kernel
theorem ef_13_RI (m : MethodId) (x0 : Addr) (x1 : Int32) : entryFrame m #[(.ref x0), (.int x1)] 2 = mkF m 0 #[.val (.ref x0), .val (.int x1)] [] := by
  first | (simp [entryFrame, mkF, argsToLocals, Value.category]; done) | rfl
theorem rm13 (l : Launch) (Z : State) (a0 : Array Value) (hw : own_HW a0 Z) (ws : List Jvm.Cond) (x0 : Addr)  (h0 : Heap) (n0 : Nat) (Z0 : n0 ≤ h0.size) (p0_ : Exa Z h0 x0 s_0) (p1_ : n0 ≤ x0) (p2_ : Fld Z h0 x0 s_0 "buckets" "[I" .null) (p3_ : Fld Z h0 x0 s_0 "keys" "[Ljava/lang/Object;" .null) (p4_ : Fld Z h0 x0 s_0 "values" "[Ljava/lang/Object;" .null) (p5_ : Fld Z h0 x0 s_0 "hashes" "[I" .null) (p6_ : Fld Z h0 x0 s_0 "chain" "[I" .null) (p7_ : Fld Z h0 x0 s_0 "size" "I" (.int i_0)) (p8_ : Fld Z h0 x0 s_0 "count" "I" (.int i_0)) (p9_ : Fld Z h0 x0 s_0 "fewest" "I" (.int i_0)) (p10_ : Fld Z h0 x0 s_0 "emptied" "Z" (.int i_0))  :
  MetFree l Y8 (head1 (Jvm.Cond.code Y8 prog_46_method_23_code 2 none :: ws) (rr 1 5 20 15)) (fun a U => a = #[.ref x0, .int i_4] ∧ Z.Warmed39 U.vm ∧ U.heap = h0) (fun _ _ _ _ _ => True) (fun _ U o U' => ∃ v L, o = .returned v ∧ Q_rm13 Z x0 h0 n0 v U'.heap L ∧ FrameEnd U o U' L (rr 1 5 20 15).cells (rr 1 5 20 15).slots) := by
 refine MetFree.of_bodySF (plainFor_of_name own_pn1) hisR ?_
 intro p e s m args below meth c s₁ Bd hml0 hP hK
 obtain ⟨rfl, hZ, hh⟩ := hP
 have hx := Bd.exec
 have hby := Bd.bytes
 have hml : c.maxLocals = 2 := hml0
 have hown : s.vm.findClass s_0 = some m.cls := findClass_of_methodNamed Bd.named
 have hnm := (name_of_methodNamed Bd.named Bd.method).1
 have X0 : Stand p l e (rr 1 5 20 15) s m #[.ref x0, .int i_4] below meth c s₁ [] 0 0 := Stand.of_body Bd
 have e0 : s₁.heap = h0 := by rw [← hh, Bd.state]; rfl
 show own_G _ _ _ _ (s₁.setTop (entryFrame m #[.ref x0, .int i_4] 2))
 refine goo (fun _ k => castTop (ef_13_RI m x0 i_4) k) ?_
 have N0 := Fr.nil n0
 have KP0 := Keep.refl h0 [x0]
 refine goo (fun _ k => XS.aloadN X0.here hx rfl (hb hby d13_0) rfl rfl <| XS.iloadN X0.here hx rfl (hb hby d13_1) rfl k) ?_
 obtain ⟨T21, h21, k21, X21, e21, E21, A21, st21⟩ := newP X0 hx hZ (qw hw 82 rfl) e0 (g := (mkF m 2 #[rv x0, iv i_4] [.int i_4, .ref x0])) rfl (hb hby d13_2) rfl (by decide) (cap := 4) (by decide) (by decide) (by decide) (by decide)
 obtain ⟨b21, g21⟩ : ∃ z, z = h0.size := ⟨_, rfl⟩
 rw [← g21] at A21 st21
 have ne_22 : x0 ≠ b21 := Nat.ne_of_lt (Nat.lt_of_lt_of_le p0_.lt (Nat.le_of_eq g21.symm))
 have ge_23 : n0 ≤ b21 := Nat.le_trans Z0 (Nat.le_of_eq g21.symm)
 have sz_24 : h0.size ≤ b21 := Nat.le_trans KP0.1 (Nat.le_of_eq g21.symm)
 have X_25 := p0_.ext E21
 have F_26 := p2_.ext E21
 have F_27 := p3_.ext E21
 have F_28 := p4_.ext E21
 have F_29 := p5_.ext E21
 have F_30 := p6_.ext E21
 have F_31 := p7_.ext E21
 have F_32 := p8_.ext E21
 have F_33 := p9_.ext E21
 have F_34 := p10_.ext E21
 have Z_35 : n0 ≤ h21.size := Nat.le_trans Z0 E21.1
 have KP_36 : Keep h0 h21 [x0] := KP0.ext E21
 have V21 : Arv Z h21 b21 k21 .int i_4 [.int i_0, .int i_0, .int i_0, .int i_0] (.int i_0) := (Arv.new A21 (by decide)).pad (pad_rep [] (.int i_0) 4)
 refine goo st21 ?_
 obtain ⟨T37, h37, X37, e37, W37, st37⟩ := putF X21 hx hZ hown (host := "") (Or.inl (qw hw 83 rfl)) Via.refl e21 F_26 X_25 (Or.inl (qw hw 84 rfl)) (qw hw 54 rfl) (ty := (.array .int)) (by decide) rfl rfl (g := (mkF m 4 #[rv x0, iv i_4] [.ref b21, .ref x0])) rfl rfl (hb hby d13_4)
 have X_38 := X_25.wr W37
 have F_39 := F_27.other W37 (Or.inr (slot_ne (Or.inl (qw hw 92 rfl)) (Or.inl (qw hw 84 rfl)) (by decide) (t := (.array (.object s_2))) (t' := (.array .int)) (by decide) (by decide)))
 have F_40 := F_28.other W37 (Or.inr (slot_ne (Or.inl (qw hw 94 rfl)) (Or.inl (qw hw 84 rfl)) (by decide) (t := (.array (.object s_2))) (t' := (.array .int)) (by decide) (by decide)))
 have F_41 := F_29.other W37 (Or.inr (slot_ne (Or.inl (qw hw 96 rfl)) (Or.inl (qw hw 84 rfl)) (by decide) (t := (.array .int)) (t' := (.array .int)) (by decide) (by decide)))
 have F_42 := F_30.other W37 (Or.inr (slot_ne (Or.inl (qw hw 98 rfl)) (Or.inl (qw hw 84 rfl)) (by decide) (t := (.array .int)) (t' := (.array .int)) (by decide) (by decide)))
 have F_43 := F_31.other W37 (Or.inr (slot_ne (Or.inl (qw hw 100 rfl)) (Or.inl (qw hw 84 rfl)) (by decide) (t := .int) (t' := (.array .int)) (by decide) (by decide)))
 have F_44 := F_32.other W37 (Or.inr (slot_ne (Or.inl (qw hw 143 rfl)) (Or.inl (qw hw 84 rfl)) (by decide) (t := .int) (t' := (.array .int)) (by decide) (by decide)))
 have F_45 := F_33.other W37 (Or.inr (slot_ne (Or.inl (qw hw 102 rfl)) (Or.inl (qw hw 84 rfl)) (by decide) (t := .int) (t' := (.array .int)) (by decide) (by decide)))
 have F_46 := F_34.other W37 (Or.inr (slot_ne (Or.inl (qw hw 145 rfl)) (Or.inl (qw hw 84 rfl)) (by decide) (t := .boolean) (t' := (.array .int)) (by decide) (by decide)))
 have V_47 := V21.other W37 (Ne.symm ne_22)
 have F_48 := F_26.same W37
 have Z_49 : n0 ≤ h37.size := Nat.le_trans Z_35 (Nat.le_of_eq W37.size.symm)
 have KP_50 : Keep h0 h37 [x0] := KP_36.wr W37 (Or.inl (List.mem_of_getElem? (i := 0) rfl))
 have N_37 := Fr.snoc X37 N0 p1_
 refine goo st37 ?_
 refine goo (fun _ k => XS.aloadN X37.here hx rfl (hb hby d13_7) rfl rfl k) ?_
 show own_G _ _ _ _ (T37.setTop (mkF m 8 #[rv x0, iv i_4] [.ref x0]))
 obtain ⟨T51, X51, e51, st51⟩ := getF X37 hx hZ hown (host := "") (Or.inl (qw hw 83 rfl)) Via.refl e37 F_48 (g := (mkF m 8 #[rv x0, iv i_4] [.ref x0])) rfl rfl (hb hby d13_8)
 refine goo st51 ?_
 refine goo (fun _ k => XS.iconst X51.here hx rfl (hb hby d13_11) k) ?_
 obtain ⟨_, _, ⟨T52, L52, k52, n52⟩, -, X52, ⟨Lc52, hQ52, l52, y52, z52⟩, st52⟩ := Jvm.LawKit.callS X51 hx (y := Y7) hown (mvT hZ (qw hw 85 rfl)) (mvT hZ (qw hw 86 rfl)) (mvT hZ (qw hw 87 rfl)) (mvT hZ (qw hw 88 rfl)) (by decide) (backOf (W := 0) (rm14 l Z a0 hw [] b21 k21 h37 n0 Z_49 V_47 ge_23) hZ (qw hw 88 rfl) (qw hw 87 rfl) (by decide) (by decide)) (g := (mkF m 12 #[rv x0, iv i_4] [(.int (-1 : Int32)), .ref b21])) rfl (by rw [hml]; rfl) (argsL := [.ref b21, (.int (-1 : Int32))]) (rest := []) (lenOf own_pd2 rfl) rfl (Nat.le_of_eq rfl) (hb hby d13_12) (fun _ _ => ⟨rfl, e51, (by decide : 1 + 0 ≤ _), (by decide : 4 + 0 ≤ _)⟩)
 dsimp only [Pt.U, Pt.locs, Pt.cells, Pt.slots] at X52 l52 y52 z52 st52 hQ52
 subst l52 y52 z52
 obtain ⟨rfl, Nq52, K52, G_53⟩ := hQ52
 have X_54 := X_38.keep K52
 have F_55 := F_48.keep K52 (ninS ne_22 nin0)
 have F_56 := F_39.keep K52 (ninS ne_22 nin0)
 have F_57 := F_40.keep K52 (ninS ne_22 nin0)
 have F_58 := F_41.keep K52 (ninS ne_22 nin0)
 have F_59 := F_42.keep K52 (ninS ne_22 nin0)
 have F_60 := F_43.keep K52 (ninS ne_22 nin0)
 have F_61 := F_44.keep K52 (ninS ne_22 nin0)
 have F_62 := F_45.keep K52 (ninS ne_22 nin0)
 have F_63 := F_46.keep K52 (ninS ne_22 nin0)
 have KP_65 : Keep h0 T52.heap [x0] := KP_50.trans K52 (allS (Or.inr sz_24) all0)
 have N_52 := Fr.app N_37 Nq52
 refine goo (fun _ k => st52 _ k) ?_
 refine goo (fun _ k => XS.aloadN X52.here hx rfl (hb hby d13_15) rfl rfl <| XS.iloadN X52.here hx rfl (hb hby d13_16) rfl k) ?_
 obtain ⟨T66, h66, k66, X66, e66, E66, A66, O66, st66⟩ := newR X52 hx hZ hown (qw hw 89 rfl) (qw hw 90 rfl) rfl (g := (mkF m 17 #[rv x0, iv i_4] [.int i_4, .ref x0])) rfl (hb hby d13_17) rfl (by decide) (cap := 4) (by decide) (by decide) (by decide) (by decide)
 obtain ⟨b66, g66⟩ : ∃ z, z = T52.heap.size := ⟨_, rfl⟩
 rw [← g66] at A66 st66
 have ne_67 : x0 ≠ b66 := Nat.ne_of_lt (Nat.lt_of_lt_of_le X_54.lt (Nat.le_of_eq g66.symm))
 have ne_68 : b21 ≠ b66 := Nat.ne_of_lt (Nat.lt_of_lt_of_le G_53.lt (Nat.le_of_eq g66.symm))
 have sz_70 : h0.size ≤ b66 := Nat.le_trans KP_65.1 (Nat.le_of_eq g66.symm)
 have X_71 := X_54.ext E66
 have F_72 := F_55.ext E66
 have F_73 := F_56.ext E66
 have F_74 := F_57.ext E66
 have F_75 := F_58.ext E66
 have F_76 := F_59.ext E66
 have F_77 := F_60.ext E66
 have F_78 := F_61.ext E66
 have F_79 := F_62.ext E66
 have F_80 := F_63.ext E66
 have V_81 := G_53.ext E66
 have KP_83 : Keep h0 h66 [x0] := KP_65.ext E66
 have V66 : Arv Z h66 b66 k66 (.object s_2) i_4 [.null, .null, .null, .null] .null := (Arv.new A66 (by decide)).pad (pad_rep [] .null 4)
 refine goo st66 ?_
 show own_G _ _ _ _ (T66.setTop (mkF m 20 #[rv x0, iv i_4] [.ref b66, .ref x0]))
 obtain ⟨T84, h84, X84, e84, W84, st84⟩ := putF X66 hx hZ hown (host := "") (Or.inl (qw hw 91 rfl)) Via.refl e66 F_73 X_71 (Or.inl (qw hw 92 rfl)) (qw hw 54 rfl) (ty := (.array (.object s_2))) (by decide) rfl rfl (g := (mkF m 20 #[rv x0, iv i_4] [.ref b66, .ref x0])) rfl rfl (hb hby d13_20)
 have X_85 := X_71.wr W84
 have F_86 := F_72.other W84 (Or.inr (slot_ne (Or.inl (qw hw 84 rfl)) (Or.inl (qw hw 92 rfl)) (by decide) (t := (.array .int)) (t' := (.array (.object s_2))) (by decide) (by decide)))
 have F_87 := F_74.other W84 (Or.inr (slot_ne (Or.inl (qw hw 94 rfl)) (Or.inl (qw hw 92 rfl)) (by decide) (t := (.array (.object s_2))) (t' := (.array (.object s_2))) (by decide) (by decide)))
 have F_88 := F_75.other W84 (Or.inr (slot_ne (Or.inl (qw hw 96 rfl)) (Or.inl (qw hw 92 rfl)) (by decide) (t := (.array .int)) (t' := (.array (.object s_2))) (by decide) (by decide)))
 have F_89 := F_76.other W84 (Or.inr (slot_ne (Or.inl (qw hw 98 rfl)) (Or.inl (qw hw 92 rfl)) (by decide) (t := (.array .int)) (t' := (.array (.object s_2))) (by decide) (by decide)))
 have F_90 := F_77.other W84 (Or.inr (slot_ne (Or.inl (qw hw 100 rfl)) (Or.inl (qw hw 92 rfl)) (by decide) (t := .int) (t' := (.array (.object s_2))) (by decide) (by decide)))
 have F_91 := F_78.other W84 (Or.inr (slot_ne (Or.inl (qw hw 143 rfl)) (Or.inl (qw hw 92 rfl)) (by decide) (t := .int) (t' := (.array (.object s_2))) (by decide) (by decide)))
 have F_92 := F_79.other W84 (Or.inr (slot_ne (Or.inl (qw hw 102 rfl)) (Or.inl (qw hw 92 rfl)) (by decide) (t := .int) (t' := (.array (.object s_2))) (by decide) (by decide)))
 have F_93 := F_80.other W84 (Or.inr (slot_ne (Or.inl (qw hw 145 rfl)) (Or.inl (qw hw 92 rfl)) (by decide) (t := .boolean) (t' := (.array (.object s_2))) (by decide) (by decide)))
 have V_94 := V_81.other W84 (Ne.symm ne_22)
 have V_95 := V66.other W84 (Ne.symm ne_67)
 have F_96 := F_73.same W84
 have KP_98 : Keep h0 h84 [x0] := KP_83.wr W84 (Or.inl (List.mem_of_getElem? (i := 0) rfl))
 have N_84 := Fr.snoc X84 N_52 p1_
 refine goo st84 ?_
 refine goo (fun _ k => XS.aloadN X84.here hx rfl (hb hby d13_23) rfl rfl <| XS.iloadN X84.here hx rfl (hb hby d13_24) rfl k) ?_
 obtain ⟨T99, h99, k99, X99, e99, E99, A99, O99, st99⟩ := newR X84 hx hZ hown (qw hw 89 rfl) (qw hw 90 rfl) e84 (g := (mkF m 25 #[rv x0, iv i_4] [.int i_4, .ref x0])) rfl (hb hby d13_25) rfl (by decide) (cap := 4) (by decide) (by decide) (by decide) (by decide)
 obtain ⟨b99, g99⟩ : ∃ z, z = h84.size := ⟨_, rfl⟩
 rw [← g99] at A99 st99
 have ne_0 : x0 ≠ b99 := Nat.ne_of_lt (Nat.lt_of_lt_of_le X_85.lt (Nat.le_of_eq g99.symm))
 have ne_1 : b21 ≠ b99 := Nat.ne_of_lt (Nat.lt_of_lt_of_le V_94.lt (Nat.le_of_eq g99.symm))
 have ne_2 : b66 ≠ b99 := Nat.ne_of_lt (Nat.lt_of_lt_of_le V_95.lt (Nat.le_of_eq g99.symm))
 have sz_104 : h0.size ≤ b99 := Nat.le_trans KP_98.1 (Nat.le_of_eq g99.symm)
 have X_3 := X_85.ext E99
 have F_4 := F_86.ext E99
 have F_5 := F_96.ext E99
 have F_6 := F_87.ext E99
 have F_7 := F_88.ext E99
 have F_8 := F_89.ext E99
 have F_9 := F_90.ext E99
 have F_a := F_91.ext E99
 have F_b := F_92.ext E99
 have F_c := F_93.ext E99
 have V_d := V_94.ext E99
 have V_e := V_95.ext E99
 have KP_f : Keep h0 h99 [x0] := KP_98.ext E99
 have V99 : Arv Z h99 b99 k99 (.object s_2) i_4 [.null, .null, .null, .null] .null := (Arv.new A99 (by decide)).pad (pad_rep [] .null 4)
 refine goo st99 ?_
 obtain ⟨T'g, h'g, X'g, e'g, W'g, st'g⟩ := putF X99 hx hZ hown (host := "") (Or.inl (qw hw 93 rfl)) Via.refl e99 F_6 X_3 (Or.inl (qw hw 94 rfl)) (qw hw 54 rfl) (ty := (.array (.object s_2))) (by decide) rfl rfl (g := (mkF m 28 #[rv x0, iv i_4] [.ref b99, .ref x0])) rfl rfl (hb hby d13_28)
 have X_h := X_3.wr W'g
 have F_i := F_4.other W'g (Or.inr (slot_ne (Or.inl (qw hw 84 rfl)) (Or.inl (qw hw 94 rfl)) (by decide) (t := (.array .int)) (t' := (.array (.object s_2))) (by decide) (by decide)))
 have F_j := F_5.other W'g (Or.inr (slot_ne (Or.inl (qw hw 92 rfl)) (Or.inl (qw hw 94 rfl)) (by decide) (t := (.array (.object s_2))) (t' := (.array (.object s_2))) (by decide) (by decide)))
 have F_k := F_7.other W'g (Or.inr (slot_ne (Or.inl (qw hw 96 rfl)) (Or.inl (qw hw 94 rfl)) (by decide) (t := (.array .int)) (t' := (.array (.object s_2))) (by decide) (by decide)))
 have F_l := F_8.other W'g (Or.inr (slot_ne (Or.inl (qw hw 98 rfl)) (Or.inl (qw hw 94 rfl)) (by decide) (t := (.array .int)) (t' := (.array (.object s_2))) (by decide) (by decide)))
 have F_m := F_9.other W'g (Or.inr (slot_ne (Or.inl (qw hw 100 rfl)) (Or.inl (qw hw 94 rfl)) (by decide) (t := .int) (t' := (.array (.object s_2))) (by decide) (by decide)))
 have F_n := F_a.other W'g (Or.inr (slot_ne (Or.inl (qw hw 143 rfl)) (Or.inl (qw hw 94 rfl)) (by decide) (t := .int) (t' := (.array (.object s_2))) (by decide) (by decide)))
 have F_o := F_b.other W'g (Or.inr (slot_ne (Or.inl (qw hw 102 rfl)) (Or.inl (qw hw 94 rfl)) (by decide) (t := .int) (t' := (.array (.object s_2))) (by decide) (by decide)))
 have F_p := F_c.other W'g (Or.inr (slot_ne (Or.inl (qw hw 145 rfl)) (Or.inl (qw hw 94 rfl)) (by decide) (t := .boolean) (t' := (.array (.object s_2))) (by decide) (by decide)))
 have V_q := V_d.other W'g (Ne.symm ne_22)
 have V_r := V_e.other W'g (Ne.symm ne_67)
 have V_s := V99.other W'g (Ne.symm ne_0)
 have F_t := F_6.same W'g
 have KP_u : Keep h0 h'g [x0] := KP_f.wr W'g (Or.inl (List.mem_of_getElem? (i := 0) rfl))
 have N_g := Fr.snoc X'g N_84 p1_
 refine goo st'g ?_
 refine goo (fun _ k => XS.aloadN X'g.here hx rfl (hb hby d13_31) rfl rfl k) ?_
 show own_G _ _ _ _ (T'g.setTop (mkF m 32 #[rv x0, iv i_4] [.ref x0]))
 refine goo (fun _ k => XS.iloadN X'g.here hx rfl (hb hby d13_32) rfl k) ?_
 obtain ⟨T'v, h'v, k'v, X'v, e'v, E'v, A'v, st'v⟩ := newP X'g hx hZ (qw hw 82 rfl) e'g (g := (mkF m 33 #[rv x0, iv i_4] [.int i_4, .ref x0])) rfl (hb hby d13_33) rfl (by decide) (cap := 4) (by decide) (by decide) (by decide) (by decide)
 obtain ⟨b'v, g'v⟩ : ∃ z, z = h'g.size := ⟨_, rfl⟩
 rw [← g'v] at A'v st'v
 have ne_w : x0 ≠ b'v := Nat.ne_of_lt (Nat.lt_of_lt_of_le X_h.lt (Nat.le_of_eq g'v.symm))
 have ne_x : b21 ≠ b'v := Nat.ne_of_lt (Nat.lt_of_lt_of_le V_q.lt (Nat.le_of_eq g'v.symm))
 have ne_y : b66 ≠ b'v := Nat.ne_of_lt (Nat.lt_of_lt_of_le V_r.lt (Nat.le_of_eq g'v.symm))
 have ne_z : b99 ≠ b'v := Nat.ne_of_lt (Nat.lt_of_lt_of_le V_s.lt (Nat.le_of_eq g'v.symm))
 have sz_141 : h0.size ≤ b'v := Nat.le_trans KP_u.1 (Nat.le_of_eq g'v.symm)
 have X_10 := X_h.ext E'v
 have F_11 := F_i.ext E'v
 have F_12 := F_j.ext E'v
 have F_13 := F_t.ext E'v
 have F_14 := F_k.ext E'v
 have F_15 := F_l.ext E'v
 have F_16 := F_m.ext E'v
 have F_17 := F_n.ext E'v
 have F_18 := F_o.ext E'v
 have F_19 := F_p.ext E'v
 have V_1a := V_q.ext E'v
 have V_1b := V_r.ext E'v
 have V_1c := V_s.ext E'v
 have KP_1d : Keep h0 h'v [x0] := KP_u.ext E'v
 have V135 : Arv Z h'v b'v k'v .int i_4 [.int i_0, .int i_0, .int i_0, .int i_0] (.int i_0) := (Arv.new A'v (by decide)).pad (pad_rep [] (.int i_0) 4)
 refine goo st'v ?_
 obtain ⟨T'1e, h'1e, X'1e, e'1e, W'1e, st'1e⟩ := putF X'v hx hZ hown (host := "") (Or.inl (qw hw 95 rfl)) Via.refl e'v F_14 X_10 (Or.inl (qw hw 96 rfl)) (qw hw 54 rfl) (ty := (.array .int)) (by decide) rfl rfl (g := (mkF m 35 #[rv x0, iv i_4] [.ref b'v, .ref x0])) rfl rfl (hb hby d13_35)
 have X_1f := X_10.wr W'1e
 have F_1g := F_11.other W'1e (Or.inr (slot_ne (Or.inl (qw hw 84 rfl)) (Or.inl (qw hw 96 rfl)) (by decide) (t := (.array .int)) (t' := (.array .int)) (by decide) (by decide)))
 have F_1h := F_12.other W'1e (Or.inr (slot_ne (Or.inl (qw hw 92 rfl)) (Or.inl (qw hw 96 rfl)) (by decide) (t := (.array (.object s_2))) (t' := (.array .int)) (by decide) (by decide)))
 have F_1i := F_13.other W'1e (Or.inr (slot_ne (Or.inl (qw hw 94 rfl)) (Or.inl (qw hw 96 rfl)) (by decide) (t := (.array (.object s_2))) (t' := (.array .int)) (by decide) (by decide)))
 have F_1j := F_15.other W'1e (Or.inr (slot_ne (Or.inl (qw hw 98 rfl)) (Or.inl (qw hw 96 rfl)) (by decide) (t := (.array .int)) (t' := (.array .int)) (by decide) (by decide)))
 have F_1k := F_16.other W'1e (Or.inr (slot_ne (Or.inl (qw hw 100 rfl)) (Or.inl (qw hw 96 rfl)) (by decide) (t := .int) (t' := (.array .int)) (by decide) (by decide)))
 have F_1l := F_17.other W'1e (Or.inr (slot_ne (Or.inl (qw hw 143 rfl)) (Or.inl (qw hw 96 rfl)) (by decide) (t := .int) (t' := (.array .int)) (by decide) (by decide)))
 have F_1m := F_18.other W'1e (Or.inr (slot_ne (Or.inl (qw hw 102 rfl)) (Or.inl (qw hw 96 rfl)) (by decide) (t := .int) (t' := (.array .int)) (by decide) (by decide)))
 have F_1n := F_19.other W'1e (Or.inr (slot_ne (Or.inl (qw hw 145 rfl)) (Or.inl (qw hw 96 rfl)) (by decide) (t := .boolean) (t' := (.array .int)) (by decide) (by decide)))
 have V_1o := V_1a.other W'1e (Ne.symm ne_22)
 have V_1p := V_1b.other W'1e (Ne.symm ne_67)
 have V_1q := V_1c.other W'1e (Ne.symm ne_0)
 have V_1r := V135.other W'1e (Ne.symm ne_w)
 have F_1s := F_14.same W'1e
 have KP_1t : Keep h0 h'1e [x0] := KP_1d.wr W'1e (Or.inl (List.mem_of_getElem? (i := 0) rfl))
 have N_1e := Fr.snoc X'1e N_g p1_
 refine goo st'1e ?_
 refine goo (fun _ k => XS.aloadN X'1e.here hx rfl (hb hby d13_38) rfl rfl <| XS.iloadN X'1e.here hx rfl (hb hby d13_39) rfl k) ?_
 obtain ⟨T'1u, h'1u, k'1u, X'1u, e'1u, E'1u, A'1u, st'1u⟩ := newP X'1e hx hZ (qw hw 82 rfl) e'1e (g := (mkF m 40 #[rv x0, iv i_4] [.int i_4, .ref x0])) rfl (hb hby d13_40) rfl (by decide) (cap := 4) (by decide) (by decide) (by decide) (by decide)
 obtain ⟨b'1u, g'1u⟩ : ∃ z, z = h'1e.size := ⟨_, rfl⟩
 rw [← g'1u] at A'1u st'1u
 have ne_1v : x0 ≠ b'1u := Nat.ne_of_lt (Nat.lt_of_lt_of_le X_1f.lt (Nat.le_of_eq g'1u.symm))
 have ne_1w : b21 ≠ b'1u := Nat.ne_of_lt (Nat.lt_of_lt_of_le V_1o.lt (Nat.le_of_eq g'1u.symm))
 have ne_1x : b66 ≠ b'1u := Nat.ne_of_lt (Nat.lt_of_lt_of_le V_1p.lt (Nat.le_of_eq g'1u.symm))
 have ne_1y : b99 ≠ b'1u := Nat.ne_of_lt (Nat.lt_of_lt_of_le V_1q.lt (Nat.le_of_eq g'1u.symm))
 have ne_1z : b'v ≠ b'1u := Nat.ne_of_lt (Nat.lt_of_lt_of_le V_1r.lt (Nat.le_of_eq g'1u.symm))
 have sz_181 : h0.size ≤ b'1u := Nat.le_trans KP_1t.1 (Nat.le_of_eq g'1u.symm)
 have X_20 := X_1f.ext E'1u
 have F_21 := F_1g.ext E'1u
 have F_22 := F_1h.ext E'1u
 have F_23 := F_1i.ext E'1u
 have F_24 := F_1s.ext E'1u
 have F_25 := F_1j.ext E'1u
 have F_26 := F_1k.ext E'1u
 have F_27 := F_1l.ext E'1u
 have F_28 := F_1m.ext E'1u
 have F_29 := F_1n.ext E'1u
 have V_2a := V_1o.ext E'1u
 have V_2b := V_1p.ext E'1u
 have V_2c := V_1q.ext E'1u
 have V_2d := V_1r.ext E'1u
 have KP_2e : Keep h0 h'1u [x0] := KP_1t.ext E'1u
 have V174 : Arv Z h'1u b'1u k'1u .int i_4 [.int i_0, .int i_0, .int i_0, .int i_0] (.int i_0) := (Arv.new A'1u (by decide)).pad (pad_rep [] (.int i_0) 4)
 refine goo st'1u ?_
 show own_G _ _ _ _ (T'1u.setTop (mkF m 42 #[rv x0, iv i_4] [.ref b'1u, .ref x0]))
 obtain ⟨T'2f, h'2f, X'2f, e'2f, W'2f, st'2f⟩ := putF X'1u hx hZ hown (host := "") (Or.inl (qw hw 97 rfl)) Via.refl e'1u F_25 X_20 (Or.inl (qw hw 98 rfl)) (qw hw 54 rfl) (ty := (.array .int)) (by decide) rfl rfl (g := (mkF m 42 #[rv x0, iv i_4] [.ref b'1u, .ref x0])) rfl rfl (hb hby d13_42)
 have X_2g := X_20.wr W'2f
 have F_2h := F_21.other W'2f (Or.inr (slot_ne (Or.inl (qw hw 84 rfl)) (Or.inl (qw hw 98 rfl)) (by decide) (t := (.array .int)) (t' := (.array .int)) (by decide) (by decide)))
 have F_2i := F_22.other W'2f (Or.inr (slot_ne (Or.inl (qw hw 92 rfl)) (Or.inl (qw hw 98 rfl)) (by decide) (t := (.array (.object s_2))) (t' := (.array .int)) (by decide) (by decide)))
 have F_2j := F_23.other W'2f (Or.inr (slot_ne (Or.inl (qw hw 94 rfl)) (Or.inl (qw hw 98 rfl)) (by decide) (t := (.array (.object s_2))) (t' := (.array .int)) (by decide) (by decide)))
 have F_2k := F_24.other W'2f (Or.inr (slot_ne (Or.inl (qw hw 96 rfl)) (Or.inl (qw hw 98 rfl)) (by decide) (t := (.array .int)) (t' := (.array .int)) (by decide) (by decide)))
 have F_2l := F_26.other W'2f (Or.inr (slot_ne (Or.inl (qw hw 100 rfl)) (Or.inl (qw hw 98 rfl)) (by decide) (t := .int) (t' := (.array .int)) (by decide) (by decide)))
 have F_2m := F_27.other W'2f (Or.inr (slot_ne (Or.inl (qw hw 143 rfl)) (Or.inl (qw hw 98 rfl)) (by decide) (t := .int) (t' := (.array .int)) (by decide) (by decide)))
 have F_2n := F_28.other W'2f (Or.inr (slot_ne (Or.inl (qw hw 102 rfl)) (Or.inl (qw hw 98 rfl)) (by decide) (t := .int) (t' := (.array .int)) (by decide) (by decide)))
 have F_2o := F_29.other W'2f (Or.inr (slot_ne (Or.inl (qw hw 145 rfl)) (Or.inl (qw hw 98 rfl)) (by decide) (t := .boolean) (t' := (.array .int)) (by decide) (by decide)))
 have V_2p := V_2a.other W'2f (Ne.symm ne_22)
 have V_2q := V_2b.other W'2f (Ne.symm ne_67)
 have V_2r := V_2c.other W'2f (Ne.symm ne_0)
 have V_2s := V_2d.other W'2f (Ne.symm ne_w)
 have V_2t := V174.other W'2f (Ne.symm ne_1v)
 have F_2u := F_25.same W'2f
 have KP_2v : Keep h0 h'2f [x0] := KP_2e.wr W'2f (Or.inl (List.mem_of_getElem? (i := 0) rfl))
 have N_2f := Fr.snoc X'2f N_1e p1_
 refine goo st'2f ?_
 refine goo (fun _ k => XS.aloadN X'2f.here hx rfl (hb hby d13_45) rfl rfl <| XS.iconst X'2f.here hx rfl (hb hby d13_46) k) ?_
 obtain ⟨T'2w, h'2w, X'2w, e'2w, W'2w, st'2w⟩ := putF X'2f hx hZ hown (host := "") (Or.inl (qw hw 99 rfl)) Via.refl e'2f F_2l X_2g (Or.inl (qw hw 100 rfl)) (qw hw 54 rfl) (ty := .int) (by decide) rfl rfl (g := (mkF m 47 #[rv x0, iv i_4] [.int i_0, .ref x0])) rfl rfl (hb hby d13_47)
 have X_2x := X_2g.wr W'2w
 have F_2y := F_2h.other W'2w (Or.inr (slot_ne (Or.inl (qw hw 84 rfl)) (Or.inl (qw hw 100 rfl)) (by decide) (t := (.array .int)) (t' := .int) (by decide) (by decide)))
 have F_2z := F_2i.other W'2w (Or.inr (slot_ne (Or.inl (qw hw 92 rfl)) (Or.inl (qw hw 100 rfl)) (by decide) (t := (.array (.object s_2))) (t' := .int) (by decide) (by decide)))
 have F_30 := F_2j.other W'2w (Or.inr (slot_ne (Or.inl (qw hw 94 rfl)) (Or.inl (qw hw 100 rfl)) (by decide) (t := (.array (.object s_2))) (t' := .int) (by decide) (by decide)))
 have F_31 := F_2k.other W'2w (Or.inr (slot_ne (Or.inl (qw hw 96 rfl)) (Or.inl (qw hw 100 rfl)) (by decide) (t := (.array .int)) (t' := .int) (by decide) (by decide)))
 have F_32 := F_2u.other W'2w (Or.inr (slot_ne (Or.inl (qw hw 98 rfl)) (Or.inl (qw hw 100 rfl)) (by decide) (t := (.array .int)) (t' := .int) (by decide) (by decide)))
 have F_33 := F_2m.other W'2w (Or.inr (slot_ne (Or.inl (qw hw 143 rfl)) (Or.inl (qw hw 100 rfl)) (by decide) (t := .int) (t' := .int) (by decide) (by decide)))
 have F_34 := F_2n.other W'2w (Or.inr (slot_ne (Or.inl (qw hw 102 rfl)) (Or.inl (qw hw 100 rfl)) (by decide) (t := .int) (t' := .int) (by decide) (by decide)))
 have F_35 := F_2o.other W'2w (Or.inr (slot_ne (Or.inl (qw hw 145 rfl)) (Or.inl (qw hw 100 rfl)) (by decide) (t := .boolean) (t' := .int) (by decide) (by decide)))
 have V_36 := V_2p.other W'2w (Ne.symm ne_22)
 have V_37 := V_2q.other W'2w (Ne.symm ne_67)
 have V_38 := V_2r.other W'2w (Ne.symm ne_0)
 have V_39 := V_2s.other W'2w (Ne.symm ne_w)
 have V_3a := V_2t.other W'2w (Ne.symm ne_1v)
 have F_3b := F_2l.same W'2w
 have KP_3c : Keep h0 h'2w [x0] := KP_2v.wr W'2w (Or.inl (List.mem_of_getElem? (i := 0) rfl))
 have N_2w := Fr.snoc X'2w N_2f p1_
 refine goo st'2w ?_
 refine goo (fun _ k => XS.aloadN X'2w.here hx rfl (hb hby d13_50) rfl rfl <| XS.iloadN X'2w.here hx rfl (hb hby d13_51) rfl k) ?_
 show own_G _ _ _ _ (T'2w.setTop (mkF m 52 #[rv x0, iv i_4] [.int i_4, .ref x0]))
 refine goo (fun _ k => XS.bipush X'2w.here hx rfl (hb hby d13_52) <| XS.icmpYes X'2w.here hx rfl (pc0 := 54) (pc' := 64) rfl (hb hby d13_54) rfl ((flt (by decide : ¬ (i_64 < i_4))).2.2.2) (by decide) (by decide) <| XS.iconst X'2w.here hx rfl (hb hby d13_64) k) ?_
 obtain ⟨T'3d, h'3d, X'3d, e'3d, W'3d, st'3d⟩ := putF X'2w hx hZ hown (host := "") (Or.inl (qw hw 101 rfl)) Via.refl e'2w F_34 X_2x (Or.inl (qw hw 102 rfl)) (qw hw 54 rfl) (ty := .int) (by decide) rfl rfl (g := (mkF m 65 #[rv x0, iv i_4] [.int i_0, .ref x0])) rfl rfl (hb hby d13_65)
 have X_3e := X_2x.wr W'3d
 have F_3f := F_2y.other W'3d (Or.inr (slot_ne (Or.inl (qw hw 84 rfl)) (Or.inl (qw hw 102 rfl)) (by decide) (t := (.array .int)) (t' := .int) (by decide) (by decide)))
 have F_3g := F_2z.other W'3d (Or.inr (slot_ne (Or.inl (qw hw 92 rfl)) (Or.inl (qw hw 102 rfl)) (by decide) (t := (.array (.object s_2))) (t' := .int) (by decide) (by decide)))
 have F_3h := F_30.other W'3d (Or.inr (slot_ne (Or.inl (qw hw 94 rfl)) (Or.inl (qw hw 102 rfl)) (by decide) (t := (.array (.object s_2))) (t' := .int) (by decide) (by decide)))
 have F_3i := F_31.other W'3d (Or.inr (slot_ne (Or.inl (qw hw 96 rfl)) (Or.inl (qw hw 102 rfl)) (by decide) (t := (.array .int)) (t' := .int) (by decide) (by decide)))
 have F_3j := F_32.other W'3d (Or.inr (slot_ne (Or.inl (qw hw 98 rfl)) (Or.inl (qw hw 102 rfl)) (by decide) (t := (.array .int)) (t' := .int) (by decide) (by decide)))
 have F_3k := F_3b.other W'3d (Or.inr (slot_ne (Or.inl (qw hw 100 rfl)) (Or.inl (qw hw 102 rfl)) (by decide) (t := .int) (t' := .int) (by decide) (by decide)))
 have F_3l := F_33.other W'3d (Or.inr (slot_ne (Or.inl (qw hw 143 rfl)) (Or.inl (qw hw 102 rfl)) (by decide) (t := .int) (t' := .int) (by decide) (by decide)))
 have F_3m := F_35.other W'3d (Or.inr (slot_ne (Or.inl (qw hw 145 rfl)) (Or.inl (qw hw 102 rfl)) (by decide) (t := .boolean) (t' := .int) (by decide) (by decide)))
 have V_3n := V_36.other W'3d (Ne.symm ne_22)
 have V_3o := V_37.other W'3d (Ne.symm ne_67)
 have V_3p := V_38.other W'3d (Ne.symm ne_0)
 have V_3q := V_39.other W'3d (Ne.symm ne_w)
 have V_3r := V_3a.other W'3d (Ne.symm ne_1v)
 have KP_3s : Keep h0 h'3d [x0] := KP_3c.wr W'3d (Or.inl (List.mem_of_getElem? (i := 0) rfl))
 have N_3d := Fr.snoc X'3d N_2w p1_
 refine goo st'3d ?_
 show own_G _ _ _ _ (T'3d.setTop (mkF m 68 #[rv x0, iv i_4] []))
 exact own_end X'3d Bd.notSynchronized (v := none) (fun _ => rfl) (Q := Q_rm13 Z x0 h0 n0) (by show Q_rm13 Z x0 h0 n0 (none) T'3d.heap _; rw [e'3d]; exact ⟨rfl, N_3d, KP_3s, X_3e, ⟨b21, b66, b99, b'v, b'1u, k21, k66, k99, k'v, k'1u, sz_24, sz_70, sz_104, sz_141, sz_181, F_3f, F_3g, F_3h, F_3i, F_3j, F_3k, F_3l, F_3m, V_3n, V_3o, V_3p, V_3q, V_3r, ne_68, ne_1, ne_x, ne_1w, ne_2, ne_y, ne_1x, ne_z, ne_1y, ne_1z, O66, O99⟩⟩) (fun fs hr => X'3d.returnOut hx Bd.returns (hb hby d13_68) hr) (by decide) (by decide)
def Q_rm8 (Z : State) (x0 : Addr)  (h0 : Heap) (n0 : Nat) (v : Option Value) (h : Heap) (L : List Loc) : Prop := v = none ∧ Fr n0 L ∧ Keep h0 h [x0] ∧ Exa Z h x0 s_0 ∧ ∃ bk ky vl hs ch k1 k2 k3 k4 k5, h0.size ≤ bk ∧ h0.size ≤ ky ∧ h0.size ≤ vl ∧ h0.size ≤ hs ∧ h0.size ≤ ch ∧ Fld Z h x0 s_0 "buckets" "[I" (.ref bk) ∧ Fld Z h x0 s_0 "keys" "[Ljava/lang/Object;" (.ref ky) ∧ Fld Z h x0 s_0 "values" "[Ljava/lang/Object;" (.ref vl) ∧ Fld Z h x0 s_0 "hashes" "[I" (.ref hs) ∧ Fld Z h x0 s_0 "chain" "[I" (.ref ch) ∧ Fld Z h x0 s_0 "size" "I" (.int i_0) ∧ Fld Z h x0 s_0 "count" "I" (.int i_0) ∧ Fld Z h x0 s_0 "emptied" "Z" (.int i_0) ∧ Arv Z h bk k1 .int i_4 [(.int (-1 : Int32)), (.int (-1 : Int32)), (.int (-1 : Int32)), (.int (-1 : Int32))] (.int i_0) ∧ Arv Z h ky k2 (.object s_2) i_4 [.null, .null, .null, .null] .null ∧ Arv Z h vl k3 (.object s_2) i_4 [.null, .null, .null, .null] .null ∧ Arv Z h hs k4 .int i_4 [.int i_0, .int i_0, .int i_0, .int i_0] (.int i_0) ∧ Arv Z h ch k5 .int i_4 [.int i_0, .int i_0, .int i_0, .int i_0] (.int i_0) ∧ bk ≠ ky ∧ bk ≠ vl ∧ bk ≠ hs ∧ bk ≠ ch ∧ ky ≠ vl ∧ ky ≠ hs ∧ ky ≠ ch ∧ vl ≠ hs ∧ vl ≠ ch ∧ hs ≠ ch ∧ Ovr Z k2 s_2 ∧ Ovr Z k3 s_2
theorem own_pd3 : parseMethodDescriptor "(J)I" = some ⟨[.long], some .int⟩ := by decide +kernel
theorem own_pd4 : parseMethodDescriptor "(I)V" = some ⟨[.int], none⟩ := by decide +kernel
theorem d8_0 : decode prog_46_method_1_code 0 = .ok (.aload_n 0, 1) := by decide +kernel
theorem d8_1 : decode prog_46_method_1_code 1 = .ok (.invokespecial 1, 3) := by decide +kernel
theorem d8_4 : decode prog_46_method_1_code 4 = .ok (.aload_n 0, 1) := by decide +kernel
theorem d8_5 : decode prog_46_method_1_code 5 = .ok (.iload_n 1, 1) := by decide +kernel
theorem d8_6 : decode prog_46_method_1_code 6 = .ok (.i2l, 1) := by decide +kernel
theorem d8_7 : decode prog_46_method_1_code 7 = .ok (.invokestatic 7, 3) := by decide +kernel
theorem d8_10 : decode prog_46_method_1_code 10 = .ok (.invokevirtual 13, 3) := by decide +kernel
theorem d8_13 : decode prog_46_method_1_code 13 = .ok (.return_, 1) := by decide +kernel
theorem ef_8_RI (m : MethodId) (x0 : Addr) (x1 : Int32) : entryFrame m #[(.ref x0), (.int x1)] 2 = mkF m 0 #[.val (.ref x0), .val (.int x1)] [] := by
  first | (simp [entryFrame, mkF, argsToLocals, Value.category]; done) | rfl
theorem rm8 (l : Launch) (Z : State) (a0 : Array Value) (hw : own_HW a0 Z) (ws : List Jvm.Cond) (x0 : Addr)  (h0 : Heap) (n0 : Nat) (Z0 : n0 ≤ h0.size) (p0_ : Exa Z h0 x0 s_0) (p1_ : n0 ≤ x0) (p2_ : Fld Z h0 x0 s_0 "buckets" "[I" .null) (p3_ : Fld Z h0 x0 s_0 "keys" "[Ljava/lang/Object;" .null) (p4_ : Fld Z h0 x0 s_0 "values" "[Ljava/lang/Object;" .null) (p5_ : Fld Z h0 x0 s_0 "hashes" "[I" .null) (p6_ : Fld Z h0 x0 s_0 "chain" "[I" .null) (p7_ : Fld Z h0 x0 s_0 "size" "I" (.int i_0)) (p8_ : Fld Z h0 x0 s_0 "count" "I" (.int i_0)) (p9_ : Fld Z h0 x0 s_0 "fewest" "I" (.int i_0)) (p10_ : Fld Z h0 x0 s_0 "emptied" "Z" (.int i_0))  :
  MetFree l Y9 (head1 (Jvm.Cond.code Y9 prog_46_method_1_code 2 none :: ws) (rr 3 5 20 43)) (fun a U => a = #[.ref x0, .int i_1] ∧ Z.Warmed39 U.vm ∧ U.heap = h0) (fun _ _ _ _ _ => True) (fun _ U o U' => ∃ v L, o = .returned v ∧ Q_rm8 Z x0 h0 n0 v U'.heap L ∧ FrameEnd U o U' L (rr 3 5 20 43).cells (rr 3 5 20 43).slots) := by
 refine MetFree.of_bodySF (plainFor_of_name own_pn1) hisR ?_
 intro p e s m args below meth c s₁ Bd hml0 hP hK
 obtain ⟨rfl, hZ, hh⟩ := hP
 have hx := Bd.exec
 have hby := Bd.bytes
 have hml : c.maxLocals = 2 := hml0
 have hown : s.vm.findClass s_0 = some m.cls := findClass_of_methodNamed Bd.named
 have hnm := (name_of_methodNamed Bd.named Bd.method).1
 have X0 : Stand p l e (rr 3 5 20 43) s m #[.ref x0, .int i_1] below meth c s₁ [] 0 0 := Stand.of_body Bd
 have e0 : s₁.heap = h0 := by rw [← hh, Bd.state]; rfl
 show own_G _ _ _ _ (s₁.setTop (entryFrame m #[.ref x0, .int i_1] 2))
 refine goo (fun _ k => castTop (ef_8_RI m x0 i_1) k) ?_
 have N0 := Fr.nil n0
 have KP0 := Keep.refl h0 [x0]
 refine goo (fun _ k => XS.aloadN X0.here hx rfl (hb hby d8_0) rfl rfl k) ?_
 obtain ⟨T'0, X'0, e'0, st'0⟩ := initO X0 hx hZ hown (qw hw 59 rfl) (qw hw 19 rfl) (qw hw 20 rfl) e0 (g := (mkF m 1 #[rv x0, iv i_1] [.ref x0])) rfl (by rw [hml]; rfl) rfl (hb hby d8_1) (by decide) (W := 0) (Nat.le_of_eq rfl) (by decide)
 refine goo st'0 ?_
 refine goo (fun _ k => XS.aloadN X'0.here hx rfl (hb hby d8_4) rfl rfl <| XS.iloadN X'0.here hx rfl (hb hby d8_5) rfl <| XS.i2l X'0.here hx rfl (hb hby d8_6) rfl k) ?_
 show own_G _ _ _ _ (T'0.setTop (mkF m 7 #[rv x0, iv i_1] [(.long (1 : Int64)), .ref x0]))
 obtain ⟨T'1, X'1, e'1, st'1⟩ := own_callP X'0 hx hZ (y := Y5) hown (qw hw 60 rfl) (qw hw 61 rfl) (qw hw 55 rfl) (qw hw 62 rfl) (by decide) (W := 1) (rm9_1 l Z a0 hw []   h0 ) (by decide) (by decide) rfl rfl e'0 (g := (mkF m 7 #[rv x0, iv i_1] [(.long (1 : Int64)), .ref x0])) rfl (by rw [hml]; rfl) (argsL := [(.long (1 : Int64))]) (rest := [.ref x0]) (lenOf own_pd3 rfl) rfl rfl (Nat.le_of_eq rfl) (hb hby d8_7) (by decide) (by decide)
 refine goo st'1 ?_
 obtain ⟨cq'2, kq'2, q'2a, q'2b, q'2c⟩ := isOf hZ e'1 p0_
 obtain ⟨cp'2, cq'3, cq'4⟩ := p0_.cell
 obtain ⟨_, _, ⟨T'2, L'2, k'2, n'2⟩, -, X'2, ⟨Lc'2, hQ'2, l'2, y'2, z'2⟩, st'2⟩ := own_privB X'1 hx (y := Y8) hown (mvT hZ (qw hw 78 rfl)) (mvT hZ (qw hw 79 rfl)) (mvT hZ (qw hw 54 rfl)) (Cond.privateMethod_at (mvP hZ (qw hw 80 rfl) (args := #[]))) (mvT hZ (qw hw 81 rfl)) (by decide) (backOf (W := 0) (rm13 l Z a0 hw [] x0  h0 n0 Z0 p0_ p1_ p2_ p3_ p4_ p5_ p6_ p7_ p8_ p9_ p10_) hZ (qw hw 81 rfl) (qw hw 55 rfl) (by decide) (by decide)) (g := (mkF m 10 #[rv x0, iv i_1] [.int i_4, .ref x0])) rfl (by rw [hml]; rfl) (a := x0) (by rw [e'1]; exact cq'3) cq'4 (argsL := [.int i_4]) (rest := []) (lenOf own_pd4 rfl) rfl (Nat.le_of_eq rfl) (hb hby d8_10) (fun _ _ => ⟨rfl, e'1, (by decide : 0 + 5 ≤ _), (by decide : 0 + 20 ≤ _)⟩)
 dsimp only [Pt.U, Pt.locs, Pt.cells, Pt.slots] at X'2 l'2 y'2 z'2 st'2 hQ'2
 subst l'2 y'2 z'2
 obtain ⟨rfl, Nq'2, K'2, G_5, qx'2⟩ := hQ'2
 obtain ⟨bk254, ky254, vl254, hs254, ch254, k'6, k'7, k'8, k'9, k'a, Hg0_254, Hg1_254, Hg2_254, Hg3_254, Hg4_254, Hf0_254, Hf1_254, Hf2_254, Hf3_254, Hf4_254, Hf5_254, Hf6_254, Hf7_254, Hf8_254, Hf9_254, Hf10_254, Hf11_254, Hf12_254, Hn0_254, Hn1_254, Hn2_254, Hn3_254, Hn4_254, Hn5_254, Hn6_254, Hn7_254, Hn8_254, Hn9_254, Ho2_254, Ho3_254⟩ := qx'2
 have sz_258 : h0.size ≤ bk254 := Nat.le_trans KP0.1 Hg0_254
 have sz_261 : h0.size ≤ ky254 := Nat.le_trans KP0.1 Hg1_254
 have sz_264 : h0.size ≤ vl254 := Nat.le_trans KP0.1 Hg2_254
 have sz_267 : h0.size ≤ hs254 := Nat.le_trans KP0.1 Hg3_254
 have sz_270 : h0.size ≤ ch254 := Nat.le_trans KP0.1 Hg4_254
 have KP_b : Keep h0 T'2.heap [x0] := KP0.trans K'2 (allS (Or.inl (List.mem_of_getElem? (i := 0) rfl)) all0)
 have N_2 := Fr.app N0 Nq'2
 refine goo (fun _ k => st'2.trans k) ?_
 show own_G _ _ _ _ (T'2.setTop (mkF m 13 #[rv x0, iv i_1] []))
 exact own_end X'2 Bd.notSynchronized (v := none) (fun _ => rfl) (Q := Q_rm8 Z x0 h0 n0) (by show Q_rm8 Z x0 h0 n0 (none) T'2.heap _; exact ⟨rfl, N_2, KP_b, G_5, ⟨bk254, ky254, vl254, hs254, ch254, k'6, k'7, k'8, k'9, k'a, sz_258, sz_261, sz_264, sz_267, sz_270, Hf0_254, Hf1_254, Hf2_254, Hf3_254, Hf4_254, Hf5_254, Hf6_254, Hf7_254, Hf8_254, Hf9_254, Hf10_254, Hf11_254, Hf12_254, Hn0_254, Hn1_254, Hn2_254, Hn3_254, Hn4_254, Hn5_254, Hn6_254, Hn7_254, Hn8_254, Hn9_254, Ho2_254, Ho3_254⟩⟩) (fun fs hr => X'2.returnOut hx Bd.returns (hb hby d8_13) hr) (by decide) (by decide)
theorem own_nf2 {s : State} {args : Array Value} {C : String} {y z : MethodName} (hsel : (Cond.selects C y y).before args s = true) (e : y.cls = z.cls) : NotFace s z := fun r0 h0 => by
  obtain ⟨c2, r2, m2, q1, q2, q3, q4, kP, hkP, hkPi⟩ := Cond.selects_spec hsel
  have a := findClass_of_methodNamed h0
  have b := findClass_of_methodNamed q3
  rw [e] at b
  have c := Option.some.inj (a.symm.trans b)
  exact ⟨kP, by rw [c]; exact hkP, hkPi⟩
section OwnVz
variable {p : Program} {l : Launch} {e : Env} {R : Room} {s : State} {m : MethodId} {args : Array Value} {below : List Frame} {meth : Method} {c : Code} {T : State} {locs : List Loc} {cells slots : Nat} {Z : State} {a0 : Array Value} {h : Heap}
theorem own_callVz (X : Stand p l e R s m args below meth c T locs cells slots) (hx : p.tables.exec = Jvm.exec) (hZ : Z.Warmed39 s.vm) {own C : String} {index : Nat} {y z : MethodName} {bytes : ByteArray} {maxL : Nat} {ret : Option FieldType} {rm : Room} {r : Option Value} {as' : Array Value} {a : Addr}
    (hown : s.vm.findClass own = some m.cls) (w1 : (Jvm.Cond.methodLink own index y).before a0 Z = true) (w2 : (Jvm.Cond.declares y).before a0 Z = true) (nf : NotFace s y) (w3 : (Jvm.Cond.selects C y z).before a0 Z = true) (w4 : (Jvm.Cond.instanceMethod z).before a0 Z = true) (w5 : (Jvm.Cond.initialized z.cls).before a0 Z = true) (w6 : (Jvm.Cond.code z bytes maxL ret).before a0 Z = true)
    (hy : y.cls ≠ "java/lang/invoke/MethodHandle" ∧ y.cls ≠ "java/lang/invoke/VarHandle") {W : Nat}
    (hM : MetFree l z (head1 [Jvm.Cond.code z bytes maxL ret] rm) (fun a U => a = as' ∧ Z.Warmed39 U.vm ∧ U.heap = h) (fun _ _ _ _ _ => True) (fun _ U o U' => ∃ v L, o = .returned v ∧ QP r h v U'.heap L ∧ FrameEnd U o U' L rm.cells rm.slots))
    (hf : rm.frames + 1 ≤ R.frames) (hl : W + (maxL + 11) + rm.locals ≤ R.locals) (hc : rm.cells = 0) (hs0 : rm.slots = 0) (eT : T.heap = h) (Ex : Exa Z h a C)
    {g : JFrame} (hg : g.method = m) (hsize : g.locals.size = c.maxLocals) {argsL rest : List Value} (hlen : ∀ sig, parseMethodDescriptor y.desc = some sig → argsL.length = sig.parameters.length) (hstack : g.stack = argsL.reverse ++ .ref a :: rest) (ha : (.ref a :: argsL).toArray = as')
    (hW : 2 * g.monitorRoom + (rest.map fun v => v.category).sum ≤ W) (hd : decode c.code g.pc = .ok (.invokevirtual index, 3)) (hcr : cells ≤ R.cells) (hsr : slots ≤ R.slots) :
    ∃ T', Stand p l e R s m args below meth c T' locs cells slots ∧ T'.heap = h ∧ ∀ target, Steps p.tables e below (T'.setTop { g with pc := g.pc + 3, stack := r.toList ++ rest }) target → Steps p.tables e below (T.setTop g) target := by
  obtain ⟨cq, kq, qa, qb, qc⟩ := isOf hZ eT Ex
  obtain ⟨_, _, ⟨T1, L1, k1, n1⟩, -, X1, ⟨Lc, hQ, l1, y1, z1⟩, st⟩ := X.virtualBack hx hown (mvT hZ w1) (mvT hZ w2) nf (mvT hZ w3) (mvT hZ w4) hy (backOf (W := W) hM hZ w6 w5 hf hl) qa qc hg hsize (Steps.refl _) hlen hstack hW hd (fun _ _ => ⟨ha, eT, by rw [hc]; exact hcr, by rw [hs0]; exact hsr⟩)
  dsimp only [Pt.U, Pt.locs, Pt.cells, Pt.slots] at X1 l1 y1 z1 st hQ
  obtain ⟨rfl, rfl, e1⟩ := hQ
  rw [List.append_nil] at l1
  rw [hc] at y1
  rw [hs0] at z1
  subst l1 y1 z1
  exact ⟨T1, X1, e1, fun target k => st.trans k⟩
end OwnVz
def own_LC (Z : State) (ca : Addr) (kca : ClassId) (cvs : List Value) (bx : Nat → Addr) : Prop := Sta Z Z.heap "java/lang/Long$LongCache" "cache" "[Ljava/lang/Long;" (.ref ca) ∧ Arv Z Z.heap ca kca (.object "java/lang/Long") (256 : Int32) cvs .null ∧ ∀ i, i < 256 → cvs.getD i .null = .ref (bx i) ∧ Exa Z Z.heap (bx i) "java/lang/Long" ∧ Fld Z Z.heap (bx i) "java/lang/Long" "value" "J" (.long ((Nat.toInt32 i - 128).toInt64))
theorem own_LCs {Z : State} {h : Heap} {n0 : Nat} {ca : Addr} {kca : ClassId} {cvs : List Value} {bx : Nat → Addr} (q : own_LC Z ca kca cvs bx) (O : Old Z n0 h) : Sta Z h "java/lang/Long$LongCache" "cache" "[Ljava/lang/Long;" (.ref ca) := q.1.ext O.2
theorem own_LCa {Z : State} {h : Heap} {n0 : Nat} {ca : Addr} {kca : ClassId} {cvs : List Value} {bx : Nat → Addr} (q : own_LC Z ca kca cvs bx) (O : Old Z n0 h) : Arv Z h ca kca (.object "java/lang/Long") (256 : Int32) cvs .null := q.2.1.ext O.2
theorem own_LCx {Z : State} {h : Heap} {n0 : Nat} {ca : Addr} {kca : ClassId} {cvs : List Value} {bx : Nat → Addr} (q : own_LC Z ca kca cvs bx) (O : Old Z n0 h) (i : Nat) (hi : i < 256) : Exa Z h (bx i) "java/lang/Long" := (q.2.2 i hi).2.1.ext O.2
theorem own_LCg {Z : State} {ca : Addr} {kca : ClassId} {cvs : List Value} {bx : Nat → Addr} (q : own_LC Z ca kca cvs bx) (i : Nat) (hi : i < 256) : cvs.getD i .null = .ref (bx i) := (q.2.2 i hi).1
theorem own_LCh {Z : State} {ca : Addr} {kca : ClassId} {cvs : List Value} {bx : Nat → Addr} (q : own_LC Z ca kca cvs bx) (i : Nat) (hi : i < 256) (k : Int64) (e : (Nat.toInt32 i - 128).toInt64 = k) : Fld Z Z.heap (bx i) "java/lang/Long" "value" "J" (.long k) := e ▸ (q.2.2 i hi).2.2

def own_sp (x : Int32) : Int32 := (x * (-1640531527 : Int32)) ^^^ ((((x * (-1640531527 : Int32)).toUInt32 >>> ((16 : Int32) &&& 31).toUInt32).toInt32))
theorem d19_0 : decode prog_46_method_26_code 0 = .ok (.iload_n 0, 1) := by decide +kernel
theorem d19_1 : decode prog_46_method_26_code 1 = .ok (.ldc 180, 2) := by decide +kernel
theorem d19_3 : decode prog_46_method_26_code 3 = .ok (.imul, 1) := by decide +kernel
theorem d19_4 : decode prog_46_method_26_code 4 = .ok (.istore_n 1, 1) := by decide +kernel
theorem d19_5 : decode prog_46_method_26_code 5 = .ok (.iload_n 1, 1) := by decide +kernel
theorem d19_6 : decode prog_46_method_26_code 6 = .ok (.iload_n 1, 1) := by decide +kernel
theorem d19_7 : decode prog_46_method_26_code 7 = .ok (.bipush 16, 2) := by decide +kernel
theorem d19_9 : decode prog_46_method_26_code 9 = .ok (.iushr, 1) := by decide +kernel
theorem d19_10 : decode prog_46_method_26_code 10 = .ok (.ixor, 1) := by decide +kernel
theorem d19_11 : decode prog_46_method_26_code 11 = .ok (.ireturn, 1) := by decide +kernel
theorem ef_19_I (m : MethodId) (x0 : Int32) : entryFrame m #[(.int x0)] 2 = mkF m 0 #[.val (.int x0), .unset] [] := by
  first | (simp [entryFrame, mkF, argsToLocals, Value.category]; done) | rfl
theorem rm19 (l : Launch) (Z : State) (a0 : Array Value) (hw : own_HW a0 Z) (ws : List Jvm.Cond) (x0 : Int32)  (hv : Int32) (h0 : Heap) (h2 : own_sp x0 = hv) :
  MetFree l Y10 (head1 (Jvm.Cond.code Y10 prog_46_method_26_code 2 (some .int) :: ws) (rr 0 0 0 0)) (fun a U => a = #[.int x0] ∧ Z.Warmed39 U.vm ∧ U.heap = h0) (fun _ _ _ _ _ => True) (fun _ U o U' => ∃ v L, o = .returned v ∧ QP (some (.int hv)) h0 v U'.heap L ∧ FrameEnd U o U' L (rr 0 0 0 0).cells (rr 0 0 0 0).slots) := by
 refine MetFree.of_bodySF (plainFor_of_name own_pn1) hisR ?_
 intro p e s m args below meth c s₁ Bd hml0 hP hK
 obtain ⟨rfl, hZ, hh⟩ := hP
 have hx := Bd.exec
 have hby := Bd.bytes
 have hml : c.maxLocals = 2 := hml0
 have hown : s.vm.findClass s_0 = some m.cls := findClass_of_methodNamed Bd.named
 have hnm := (name_of_methodNamed Bd.named Bd.method).1
 have X0 : Stand p l e (rr 0 0 0 0) s m #[.int x0] below meth c s₁ [] 0 0 := Stand.of_body Bd
 have e0 : s₁.heap = h0 := by rw [← hh, Bd.state]; rfl
 show own_G _ _ _ _ (s₁.setTop (entryFrame m #[.int x0] 2))
 refine goo (fun _ k => castTop (ef_19_I m x0) k) ?_
 refine goo (fun _ k => XS.iloadN X0.here hx rfl (hb hby d19_0) rfl k) ?_
 refine goo (fun _ k => X0.ldcInt hx hown (mvT hZ (qw hw 124 rfl)) (g := (mkF m 1 #[iv x0, .unset] [.int x0])) rfl (hb hby d19_1) _ k) ?_
 refine goo (fun _ k => XS.imul X0.here hx rfl (hb hby d19_3) rfl <| XS.istoreN X0.here hx rfl (hb hby d19_4) rfl (l' := #[iv x0, iv (x0 * (-1640531527 : Int32))]) rfl <| XS.iloadN X0.here hx rfl (hb hby d19_5) rfl k) ?_
 show own_G _ _ _ _ (s₁.setTop (mkF m 6 #[iv x0, iv (x0 * (-1640531527 : Int32))] [(.int (x0 * (-1640531527 : Int32)))]))
 refine goo (fun _ k => XS.iloadN X0.here hx rfl (hb hby d19_6) rfl <| XS.bipush X0.here hx rfl (hb hby d19_7) <| XS.iushr X0.here hx rfl (hb hby d19_9) rfl <| XS.ixor X0.here hx rfl (hb hby d19_10) rfl k) ?_
 show own_G _ _ _ _ (s₁.setTop (mkF m 11 #[iv x0, iv (x0 * (-1640531527 : Int32))] [(.int ((x0 * (-1640531527 : Int32)) ^^^ (((x0 * (-1640531527 : Int32)).toUInt32 >>> (i_16 &&& 31).toUInt32).toInt32)))]))
 exact own_end X0 Bd.notSynchronized (v := some (.int ((x0 * (-1640531527 : Int32)) ^^^ (((x0 * (-1640531527 : Int32)).toUInt32 >>> (i_16 &&& 31).toUInt32).toInt32)))) (fun h => by rw [Bd.returns] at h; cases h) (Q := QP (some (.int hv)) h0) ⟨congrArg (fun z => some (Value.int z)) h2, rfl, e0⟩ (fun fs hr => retI X0 hx Bd.returns (hb hby d19_11) hr) (by decide) (by decide)
def F18 (x0 : Int64) : Int32 :=
  ((x0 ^^^ ((x0.toUInt64 >>> ((32 : Int32) &&& 0x3f).toInt64.toUInt64).toInt64)).toInt32)
theorem d18_0 : decode jdk_35_method_36_code 0 = .ok (.lload_n 0, 1) := by decide +kernel
theorem d18_1 : decode jdk_35_method_36_code 1 = .ok (.lload_n 0, 1) := by decide +kernel
theorem d18_2 : decode jdk_35_method_36_code 2 = .ok (.bipush 32, 2) := by decide +kernel
theorem d18_4 : decode jdk_35_method_36_code 4 = .ok (.lushr, 1) := by decide +kernel
theorem d18_5 : decode jdk_35_method_36_code 5 = .ok (.lxor, 1) := by decide +kernel
theorem d18_6 : decode jdk_35_method_36_code 6 = .ok (.l2i, 1) := by decide +kernel
theorem d18_7 : decode jdk_35_method_36_code 7 = .ok (.ireturn, 1) := by decide +kernel
theorem own_pn4 : plainName "java/lang/Long" = true := by first | (simp [plainName, overriddenIn]; done) | decide +kernel
theorem ef_18_J (m : MethodId) (x0 : Int64) : entryFrame m #[(.long x0)] 2 = mkF m 0 #[.val (.long x0), .second] [] := by
  first | (simp [entryFrame, mkF, argsToLocals, Value.category]; done) | rfl
theorem rm18 (l : Launch) (Z : State) (a0 : Array Value) (hw : own_HW a0 Z) (ws : List Jvm.Cond) (x0 : Int64)  (h0 : Heap)  :
  MetFree l Y11 (head1 (Jvm.Cond.code Y11 jdk_35_method_36_code 2 (some .int) :: ws) (rr 0 0 0 0)) (fun a U => a = #[(.long x0)] ∧ Z.Warmed39 U.vm ∧ U.heap = h0) (fun _ _ _ _ _ => True) (fun _ U o U' => ∃ v L, o = .returned v ∧ QP (some (.int (F18 x0))) h0 v U'.heap L ∧ FrameEnd U o U' L (rr 0 0 0 0).cells (rr 0 0 0 0).slots) := by
 refine MetFree.of_bodySF (plainFor_of_name own_pn4) hisR ?_
 intro p e s m args below meth c s₁ Bd hml0 hP hK
 obtain ⟨rfl, hZ, hh⟩ := hP
 have hx := Bd.exec
 have hby := Bd.bytes
 have hml : c.maxLocals = 2 := hml0
 have hown : s.vm.findClass s_3 = some m.cls := findClass_of_methodNamed Bd.named
 have hnm := (name_of_methodNamed Bd.named Bd.method).1
 have X0 : Stand p l e (rr 0 0 0 0) s m #[(.long x0)] below meth c s₁ [] 0 0 := Stand.of_body Bd
 have e0 : s₁.heap = h0 := by rw [← hh, Bd.state]; rfl
 show own_G _ _ _ _ (s₁.setTop (entryFrame m #[(.long x0)] 2))
 refine goo (fun _ k => castTop (ef_18_J m x0) k) ?_
 refine goo (fun _ k => XS.lloadN X0.here hx rfl (hb hby d18_0) rfl <| XS.lloadN X0.here hx rfl (hb hby d18_1) rfl <| XS.bipush X0.here hx rfl (hb hby d18_2) <| XS.lushr X0.here hx rfl (hb hby d18_4) rfl k) ?_
 refine goo (fun _ k => XS.lxor X0.here hx rfl (hb hby d18_5) rfl k) ?_
 show own_G _ _ _ _ (s₁.setTop (mkF m 6 #[.val (.long x0), .second] [(.long (x0 ^^^ ((x0.toUInt64 >>> (i_32 &&& 0x3f).toInt64.toUInt64).toInt64)))]))
 refine goo (fun _ k => XS.l2i X0.here hx rfl (hb hby d18_6) rfl k) ?_
 show own_G _ _ _ _ (s₁.setTop (mkF m 7 #[.val (.long x0), .second] [(.int ((x0 ^^^ ((x0.toUInt64 >>> (i_32 &&& 0x3f).toInt64.toUInt64).toInt64)).toInt32))]))
 exact own_end X0 Bd.notSynchronized (v := some (.int ((x0 ^^^ ((x0.toUInt64 >>> (i_32 &&& 0x3f).toInt64.toUInt64).toInt64)).toInt32))) (fun h => by rw [Bd.returns] at h; cases h) (Q := QP (some (.int (F18 x0))) h0) ⟨by unfold F18; rfl, rfl, e0⟩ (fun fs hr => retI X0 hx Bd.returns (hb hby d18_7) hr) (by decide) (by decide)
theorem d17_0 : decode jdk_35_method_35_code 0 = .ok (.aload_n 0, 1) := by decide +kernel
theorem d17_1 : decode jdk_35_method_35_code 1 = .ok (.getfield 273, 3) := by decide +kernel
theorem d17_4 : decode jdk_35_method_35_code 4 = .ok (.invokestatic 277, 3) := by decide +kernel
theorem d17_7 : decode jdk_35_method_35_code 7 = .ok (.ireturn, 1) := by decide +kernel
theorem ef_17_R (m : MethodId) (x0 : Addr) : entryFrame m #[(.ref x0)] 1 = mkF m 0 #[.val (.ref x0)] [] := by
  first | (simp [entryFrame, mkF, argsToLocals, Value.category]; done) | rfl
theorem rm17 (l : Launch) (Z : State) (a0 : Array Value) (hw : own_HW a0 Z) (ws : List Jvm.Cond) (x0 : Addr)  (kv : Int64) (hc : Int32) (h0 : Heap) (Fv : Fld Z h0 x0 s_3 "value" "J" (.long kv)) (h1 : F18 kv = hc) :
  MetFree l Y12 (head1 (Jvm.Cond.code Y12 jdk_35_method_35_code 1 (some .int) :: ws) (rr 1 0 0 13)) (fun a U => a = #[.ref x0] ∧ Z.Warmed39 U.vm ∧ U.heap = h0) (fun _ _ _ _ _ => True) (fun _ U o U' => ∃ v L, o = .returned v ∧ QP (some (.int hc)) h0 v U'.heap L ∧ FrameEnd U o U' L (rr 1 0 0 13).cells (rr 1 0 0 13).slots) := by
 refine MetFree.of_bodySF (plainFor_of_name own_pn4) hisR ?_
 intro p e s m args below meth c s₁ Bd hml0 hP hK
 obtain ⟨rfl, hZ, hh⟩ := hP
 have hx := Bd.exec
 have hby := Bd.bytes
 have hml : c.maxLocals = 1 := hml0
 have hown : s.vm.findClass s_3 = some m.cls := findClass_of_methodNamed Bd.named
 have hnm := (name_of_methodNamed Bd.named Bd.method).1
 have X0 : Stand p l e (rr 1 0 0 13) s m #[.ref x0] below meth c s₁ [] 0 0 := Stand.of_body Bd
 have e0 : s₁.heap = h0 := by rw [← hh, Bd.state]; rfl
 show own_G _ _ _ _ (s₁.setTop (entryFrame m #[.ref x0] 1))
 refine goo (fun _ k => castTop (ef_17_R m x0) k) ?_
 refine goo (fun _ k => XS.aloadN X0.here hx rfl (hb hby d17_0) rfl rfl k) ?_
 obtain ⟨T'0, X'0, e'0, st'0⟩ := getF X0 hx hZ hown (host := "") (Or.inl (qw hw 21 rfl)) Via.refl e0 Fv (g := (mkF m 1 #[rv x0] [.ref x0])) rfl rfl (hb hby d17_1)
 refine goo st'0 ?_
 obtain ⟨T'1, X'1, e'1, st'1⟩ := own_callP X'0 hx hZ (y := Y11) hown (qw hw 118 rfl) (qw hw 119 rfl) (qw hw 3 rfl) (qw hw 120 rfl) (by decide) (W := 0) (rm18 l Z a0 hw [] kv  h0 ) (by decide) (by decide) rfl rfl e'0 (g := (mkF m 4 #[rv x0] [(.long kv)])) rfl (by rw [hml]; rfl) (argsL := [(.long kv)]) (rest := []) (lenOf own_pd3 rfl) rfl rfl (Nat.le_of_eq rfl) (hb hby d17_4) (by decide) (by decide)
 refine goo st'1 ?_
 show own_G _ _ _ _ (T'1.setTop (mkF m 7 #[rv x0] [(.int (F18 kv))]))
 exact own_end X'1 Bd.notSynchronized (v := some (.int (F18 kv))) (fun h => by rw [Bd.returns] at h; cases h) (Q := QP (some (.int hc)) h0) ⟨congrArg (fun z => some (Value.int z)) h1, rfl, e'1⟩ (fun fs hr => retI X'1 hx Bd.returns (hb hby d17_7) hr) (by decide) (by decide)
theorem d1_0 : decode jdk_35_method_24_code 0 = .ok (.sipush 128, 3) := by decide +kernel
theorem d1_3 : decode jdk_35_method_24_code 3 = .ok (.istore_n 2, 1) := by decide +kernel
theorem d1_4 : decode jdk_35_method_24_code 4 = .ok (.lload_n 0, 1) := by decide +kernel
theorem d1_5 : decode jdk_35_method_24_code 5 = .ok (.ldc2_w 230, 3) := by decide +kernel
theorem d1_8 : decode jdk_35_method_24_code 8 = .ok (.lcmp, 1) := by decide +kernel
theorem d1_9 : decode jdk_35_method_24_code 9 = .ok (.ifCond .lt 22, 3) := by decide +kernel
theorem d1_12 : decode jdk_35_method_24_code 12 = .ok (.lload_n 0, 1) := by decide +kernel
theorem d1_13 : decode jdk_35_method_24_code 13 = .ok (.ldc2_w 232, 3) := by decide +kernel
theorem d1_16 : decode jdk_35_method_24_code 16 = .ok (.lcmp, 1) := by decide +kernel
theorem d1_17 : decode jdk_35_method_24_code 17 = .ok (.ifCond .gt 14, 3) := by decide +kernel
theorem d1_20 : decode jdk_35_method_24_code 20 = .ok (.getstatic 234, 3) := by decide +kernel
theorem d1_23 : decode jdk_35_method_24_code 23 = .ok (.lload_n 0, 1) := by decide +kernel
theorem d1_24 : decode jdk_35_method_24_code 24 = .ok (.l2i, 1) := by decide +kernel
theorem d1_25 : decode jdk_35_method_24_code 25 = .ok (.sipush 128, 3) := by decide +kernel
theorem d1_28 : decode jdk_35_method_24_code 28 = .ok (.iadd, 1) := by decide +kernel
theorem d1_29 : decode jdk_35_method_24_code 29 = .ok (.aaload, 1) := by decide +kernel
theorem d1_30 : decode jdk_35_method_24_code 30 = .ok (.areturn, 1) := by decide +kernel
theorem d1_31 : decode jdk_35_method_24_code 31 = .ok (.new 1, 3) := by decide +kernel
theorem d1_34 : decode jdk_35_method_24_code 34 = .ok (.dup, 1) := by decide +kernel
theorem d1_35 : decode jdk_35_method_24_code 35 = .ok (.lload_n 0, 1) := by decide +kernel
theorem d1_36 : decode jdk_35_method_24_code 36 = .ok (.invokespecial 240, 3) := by decide +kernel
theorem d1_39 : decode jdk_35_method_24_code 39 = .ok (.areturn, 1) := by decide +kernel
theorem ef_1_J (m : MethodId) (x0 : Int64) : entryFrame m #[(.long x0)] 3 = mkF m 0 #[.val (.long x0), .second, .unset] [] := by
  first | (simp [entryFrame, mkF, argsToLocals, Value.category]; done) | rfl
theorem rm_vo0 (l : Launch) (Z : State) (a0 : Array Value) (hw : own_HW a0 Z) (ws : List Jvm.Cond)   (n0 : Nat) (ca : Addr) (kca : ClassId) (cvs : List Value) (bx : Nat → Addr) (h0 : Heap) (O0 : Old Z n0 h0) (LC : own_LC Z ca kca cvs bx) :
  MetFree l Y13 (head1 (Jvm.Cond.code Y13 jdk_35_method_24_code 3 (some (.object s_3)) :: ws) (rr 0 0 0 0)) (fun a U => a = #[(.long (0 : Int64))] ∧ Z.Warmed39 U.vm ∧ U.heap = h0) (fun _ _ _ _ _ => True) (fun _ U o U' => ∃ v L, o = .returned v ∧ QP (some (.ref (bx 128))) h0 v U'.heap L ∧ FrameEnd U o U' L (rr 0 0 0 0).cells (rr 0 0 0 0).slots) := by
 refine MetFree.of_bodySF (plainFor_of_name own_pn4) hisR ?_
 intro p e s m args below meth c s₁ Bd hml0 hP hK
 obtain ⟨rfl, hZ, hh⟩ := hP
 have hx := Bd.exec
 have hby := Bd.bytes
 have hml : c.maxLocals = 3 := hml0
 have hown : s.vm.findClass s_3 = some m.cls := findClass_of_methodNamed Bd.named
 have hnm := (name_of_methodNamed Bd.named Bd.method).1
 have X0 : Stand p l e (rr 0 0 0 0) s m #[(.long (0 : Int64))] below meth c s₁ [] 0 0 := Stand.of_body Bd
 have e0 : s₁.heap = h0 := by rw [← hh, Bd.state]; rfl
 show own_G _ _ _ _ (s₁.setTop (entryFrame m #[(.long (0 : Int64))] 3))
 refine goo (fun _ k => castTop (ef_1_J m (0 : Int64)) k) ?_
 refine goo (fun _ k => XS.sipush X0.here hx rfl (hb hby d1_0) <| XS.istoreN X0.here hx rfl (hb hby d1_3) rfl (l' := #[.val (.long (0 : Int64)), .second, iv i_128]) rfl <| XS.lloadN X0.here hx rfl (hb hby d1_4) rfl k) ?_
 refine goo (fun _ k => X0.ldc2Long hx hown (mvT hZ (qw hw 5 rfl)) (g := (mkF m 5 #[.val (.long (0 : Int64)), .second, iv i_128] [(.long (0 : Int64))])) rfl (hb hby d1_5) _ k) ?_
 refine goo (fun _ k => XS.lcmp X0.here hx rfl (hb hby d1_8) rfl k) ?_
 show own_G _ _ _ _ (s₁.setTop (mkF m 9 #[.val (.long (0 : Int64)), .second, iv i_128] [(.int (lcmpW (0 : Int64) (-128 : Int64)))]))
 refine goo (fun _ k => XS.ifNo X0.here hx rfl (hb hby d1_9) rfl (((if0 _ _).trans (flt (own_l2 (by decide : ¬ ((0 : Int64) < (-128 : Int64))))).1)) <| XS.lloadN X0.here hx rfl (hb hby d1_12) rfl k) ?_
 refine goo (fun _ k => X0.ldc2Long hx hown (mvT hZ (qw hw 44 rfl)) (g := (mkF m 13 #[.val (.long (0 : Int64)), .second, iv i_128] [(.long (0 : Int64))])) rfl (hb hby d1_13) _ k) ?_
 refine goo (fun _ k => XS.lcmp X0.here hx rfl (hb hby d1_16) rfl <| XS.ifNo X0.here hx rfl (hb hby d1_17) rfl (((if0 _ _).trans (flt (own_g2 (by decide : ¬ ((127 : Int64) < (0 : Int64))))).2.2.1)) k) ?_
 obtain ⟨T'0, X'0, e'0, st'0⟩ := getS2 X0 hx hZ hown (host := "") (Or.inl (qw hw 45 rfl)) Via.refl e0 (own_LCs LC O0) (g := (mkF m 20 #[.val (.long (0 : Int64)), .second, iv i_128] [])) rfl (hb hby d1_20)
 refine goo st'0 ?_
 show own_G _ _ _ _ (T'0.setTop (mkF m 23 #[.val (.long (0 : Int64)), .second, iv i_128] [.ref ca]))
 refine goo (fun _ k => XS.lloadN X'0.here hx rfl (hb hby d1_23) rfl <| XS.l2i X'0.here hx rfl (hb hby d1_24) rfl <| XS.sipush X'0.here hx rfl (hb hby d1_25) <| XS.iadd X'0.here hx rfl (hb hby d1_28) rfl k) ?_
 obtain ⟨cl277, Ar277, -, S277, -, H277, -⟩ := id (own_LCa LC O0)
 have hin277 := inb_of S277 (j := i_128) ⟨by decide, by decide⟩
 refine goo (fun _ k => X'0.aaload hx (j := i_128) (v := (.ref (bx 128))) (by rw [e'0]; exact Ar277.1) (State.isArrayOf_alike hZ.alike Ar277.2.1) rfl Ar277.2.2 hin277 (H277.at hin277 (own_LCg LC 128 (by decide))) (g := (mkF m 29 #[.val (.long (0 : Int64)), .second, iv i_128] [.int i_128, .ref ca])) rfl rfl (hb hby d1_29) _ k) ?_
 show own_G _ _ _ _ (T'0.setTop (mkF m 30 #[.val (.long (0 : Int64)), .second, iv i_128] [(.ref (bx 128))]))
 exact own_end X'0 Bd.notSynchronized (v := some (.ref (bx 128))) (fun h => by rw [Bd.returns] at h; cases h) (Q := QP (some (.ref (bx 128))) h0) ⟨rfl, rfl, e'0⟩ (fun fs hr => own_retA X'0 hx Bd.returns rfl rfl (hb hby d1_30) hr) (by decide) (by decide)
theorem rm_vo2 (l : Launch) (Z : State) (a0 : Array Value) (hw : own_HW a0 Z) (ws : List Jvm.Cond)   (n0 : Nat) (ca : Addr) (kca : ClassId) (cvs : List Value) (bx : Nat → Addr) (h0 : Heap) (O0 : Old Z n0 h0) (LC : own_LC Z ca kca cvs bx) :
  MetFree l Y13 (head1 (Jvm.Cond.code Y13 jdk_35_method_24_code 3 (some (.object s_3)) :: ws) (rr 0 0 0 0)) (fun a U => a = #[(.long (2 : Int64))] ∧ Z.Warmed39 U.vm ∧ U.heap = h0) (fun _ _ _ _ _ => True) (fun _ U o U' => ∃ v L, o = .returned v ∧ QP (some (.ref (bx 130))) h0 v U'.heap L ∧ FrameEnd U o U' L (rr 0 0 0 0).cells (rr 0 0 0 0).slots) := by
 refine MetFree.of_bodySF (plainFor_of_name own_pn4) hisR ?_
 intro p e s m args below meth c s₁ Bd hml0 hP hK
 obtain ⟨rfl, hZ, hh⟩ := hP
 have hx := Bd.exec
 have hby := Bd.bytes
 have hml : c.maxLocals = 3 := hml0
 have hown : s.vm.findClass s_3 = some m.cls := findClass_of_methodNamed Bd.named
 have hnm := (name_of_methodNamed Bd.named Bd.method).1
 have X0 : Stand p l e (rr 0 0 0 0) s m #[(.long (2 : Int64))] below meth c s₁ [] 0 0 := Stand.of_body Bd
 have e0 : s₁.heap = h0 := by rw [← hh, Bd.state]; rfl
 show own_G _ _ _ _ (s₁.setTop (entryFrame m #[(.long (2 : Int64))] 3))
 refine goo (fun _ k => castTop (ef_1_J m (2 : Int64)) k) ?_
 refine goo (fun _ k => XS.sipush X0.here hx rfl (hb hby d1_0) <| XS.istoreN X0.here hx rfl (hb hby d1_3) rfl (l' := #[.val (.long (2 : Int64)), .second, iv i_128]) rfl <| XS.lloadN X0.here hx rfl (hb hby d1_4) rfl k) ?_
 refine goo (fun _ k => X0.ldc2Long hx hown (mvT hZ (qw hw 5 rfl)) (g := (mkF m 5 #[.val (.long (2 : Int64)), .second, iv i_128] [(.long (2 : Int64))])) rfl (hb hby d1_5) _ k) ?_
 refine goo (fun _ k => XS.lcmp X0.here hx rfl (hb hby d1_8) rfl k) ?_
 show own_G _ _ _ _ (s₁.setTop (mkF m 9 #[.val (.long (2 : Int64)), .second, iv i_128] [(.int (lcmpW (2 : Int64) (-128 : Int64)))]))
 refine goo (fun _ k => XS.ifNo X0.here hx rfl (hb hby d1_9) rfl (((if0 _ _).trans (flt (own_l2 (by decide : ¬ ((2 : Int64) < (-128 : Int64))))).1)) <| XS.lloadN X0.here hx rfl (hb hby d1_12) rfl k) ?_
 refine goo (fun _ k => X0.ldc2Long hx hown (mvT hZ (qw hw 44 rfl)) (g := (mkF m 13 #[.val (.long (2 : Int64)), .second, iv i_128] [(.long (2 : Int64))])) rfl (hb hby d1_13) _ k) ?_
 refine goo (fun _ k => XS.lcmp X0.here hx rfl (hb hby d1_16) rfl <| XS.ifNo X0.here hx rfl (hb hby d1_17) rfl (((if0 _ _).trans (flt (own_g2 (by decide : ¬ ((127 : Int64) < (2 : Int64))))).2.2.1)) k) ?_
 obtain ⟨T'0, X'0, e'0, st'0⟩ := getS2 X0 hx hZ hown (host := "") (Or.inl (qw hw 45 rfl)) Via.refl e0 (own_LCs LC O0) (g := (mkF m 20 #[.val (.long (2 : Int64)), .second, iv i_128] [])) rfl (hb hby d1_20)
 refine goo st'0 ?_
 show own_G _ _ _ _ (T'0.setTop (mkF m 23 #[.val (.long (2 : Int64)), .second, iv i_128] [.ref ca]))
 refine goo (fun _ k => XS.lloadN X'0.here hx rfl (hb hby d1_23) rfl <| XS.l2i X'0.here hx rfl (hb hby d1_24) rfl <| XS.sipush X'0.here hx rfl (hb hby d1_25) <| XS.iadd X'0.here hx rfl (hb hby d1_28) rfl k) ?_
 obtain ⟨cl279, Ar279, -, S279, -, H279, -⟩ := id (own_LCa LC O0)
 have hin279 := inb_of S279 (j := i_130) ⟨by decide, by decide⟩
 refine goo (fun _ k => X'0.aaload hx (j := i_130) (v := (.ref (bx 130))) (by rw [e'0]; exact Ar279.1) (State.isArrayOf_alike hZ.alike Ar279.2.1) rfl Ar279.2.2 hin279 (H279.at hin279 (own_LCg LC 130 (by decide))) (g := (mkF m 29 #[.val (.long (2 : Int64)), .second, iv i_128] [.int i_130, .ref ca])) rfl rfl (hb hby d1_29) _ k) ?_
 show own_G _ _ _ _ (T'0.setTop (mkF m 30 #[.val (.long (2 : Int64)), .second, iv i_128] [(.ref (bx 130))]))
 exact own_end X'0 Bd.notSynchronized (v := some (.ref (bx 130))) (fun h => by rw [Bd.returns] at h; cases h) (Q := QP (some (.ref (bx 130))) h0) ⟨rfl, rfl, e'0⟩ (fun fs hr => own_retA X'0 hx Bd.returns rfl rfl (hb hby d1_30) hr) (by decide) (by decide)
theorem rm_vo3 (l : Launch) (Z : State) (a0 : Array Value) (hw : own_HW a0 Z) (ws : List Jvm.Cond)   (n0 : Nat) (ca : Addr) (kca : ClassId) (cvs : List Value) (bx : Nat → Addr) (h0 : Heap) (O0 : Old Z n0 h0) (LC : own_LC Z ca kca cvs bx) :
  MetFree l Y13 (head1 (Jvm.Cond.code Y13 jdk_35_method_24_code 3 (some (.object s_3)) :: ws) (rr 0 0 0 0)) (fun a U => a = #[(.long (3 : Int64))] ∧ Z.Warmed39 U.vm ∧ U.heap = h0) (fun _ _ _ _ _ => True) (fun _ U o U' => ∃ v L, o = .returned v ∧ QP (some (.ref (bx 131))) h0 v U'.heap L ∧ FrameEnd U o U' L (rr 0 0 0 0).cells (rr 0 0 0 0).slots) := by
 refine MetFree.of_bodySF (plainFor_of_name own_pn4) hisR ?_
 intro p e s m args below meth c s₁ Bd hml0 hP hK
 obtain ⟨rfl, hZ, hh⟩ := hP
 have hx := Bd.exec
 have hby := Bd.bytes
 have hml : c.maxLocals = 3 := hml0
 have hown : s.vm.findClass s_3 = some m.cls := findClass_of_methodNamed Bd.named
 have hnm := (name_of_methodNamed Bd.named Bd.method).1
 have X0 : Stand p l e (rr 0 0 0 0) s m #[(.long (3 : Int64))] below meth c s₁ [] 0 0 := Stand.of_body Bd
 have e0 : s₁.heap = h0 := by rw [← hh, Bd.state]; rfl
 show own_G _ _ _ _ (s₁.setTop (entryFrame m #[(.long (3 : Int64))] 3))
 refine goo (fun _ k => castTop (ef_1_J m (3 : Int64)) k) ?_
 refine goo (fun _ k => XS.sipush X0.here hx rfl (hb hby d1_0) <| XS.istoreN X0.here hx rfl (hb hby d1_3) rfl (l' := #[.val (.long (3 : Int64)), .second, iv i_128]) rfl <| XS.lloadN X0.here hx rfl (hb hby d1_4) rfl k) ?_
 refine goo (fun _ k => X0.ldc2Long hx hown (mvT hZ (qw hw 5 rfl)) (g := (mkF m 5 #[.val (.long (3 : Int64)), .second, iv i_128] [(.long (3 : Int64))])) rfl (hb hby d1_5) _ k) ?_
 refine goo (fun _ k => XS.lcmp X0.here hx rfl (hb hby d1_8) rfl k) ?_
 show own_G _ _ _ _ (s₁.setTop (mkF m 9 #[.val (.long (3 : Int64)), .second, iv i_128] [(.int (lcmpW (3 : Int64) (-128 : Int64)))]))
 refine goo (fun _ k => XS.ifNo X0.here hx rfl (hb hby d1_9) rfl (((if0 _ _).trans (flt (own_l2 (by decide : ¬ ((3 : Int64) < (-128 : Int64))))).1)) <| XS.lloadN X0.here hx rfl (hb hby d1_12) rfl k) ?_
 refine goo (fun _ k => X0.ldc2Long hx hown (mvT hZ (qw hw 44 rfl)) (g := (mkF m 13 #[.val (.long (3 : Int64)), .second, iv i_128] [(.long (3 : Int64))])) rfl (hb hby d1_13) _ k) ?_
 refine goo (fun _ k => XS.lcmp X0.here hx rfl (hb hby d1_16) rfl <| XS.ifNo X0.here hx rfl (hb hby d1_17) rfl (((if0 _ _).trans (flt (own_g2 (by decide : ¬ ((127 : Int64) < (3 : Int64))))).2.2.1)) k) ?_
 obtain ⟨T'0, X'0, e'0, st'0⟩ := getS2 X0 hx hZ hown (host := "") (Or.inl (qw hw 45 rfl)) Via.refl e0 (own_LCs LC O0) (g := (mkF m 20 #[.val (.long (3 : Int64)), .second, iv i_128] [])) rfl (hb hby d1_20)
 refine goo st'0 ?_
 show own_G _ _ _ _ (T'0.setTop (mkF m 23 #[.val (.long (3 : Int64)), .second, iv i_128] [.ref ca]))
 refine goo (fun _ k => XS.lloadN X'0.here hx rfl (hb hby d1_23) rfl <| XS.l2i X'0.here hx rfl (hb hby d1_24) rfl <| XS.sipush X'0.here hx rfl (hb hby d1_25) <| XS.iadd X'0.here hx rfl (hb hby d1_28) rfl k) ?_
 obtain ⟨cl281, Ar281, -, S281, -, H281, -⟩ := id (own_LCa LC O0)
 have hin281 := inb_of S281 (j := i_131) ⟨by decide, by decide⟩
 refine goo (fun _ k => X'0.aaload hx (j := i_131) (v := (.ref (bx 131))) (by rw [e'0]; exact Ar281.1) (State.isArrayOf_alike hZ.alike Ar281.2.1) rfl Ar281.2.2 hin281 (H281.at hin281 (own_LCg LC 131 (by decide))) (g := (mkF m 29 #[.val (.long (3 : Int64)), .second, iv i_128] [.int i_131, .ref ca])) rfl rfl (hb hby d1_29) _ k) ?_
 show own_G _ _ _ _ (T'0.setTop (mkF m 30 #[.val (.long (3 : Int64)), .second, iv i_128] [(.ref (bx 131))]))
 exact own_end X'0 Bd.notSynchronized (v := some (.ref (bx 131))) (fun h => by rw [Bd.returns] at h; cases h) (Q := QP (some (.ref (bx 131))) h0) ⟨rfl, rfl, e'0⟩ (fun fs hr => own_retA X'0 hx Bd.returns rfl rfl (hb hby d1_30) hr) (by decide) (by decide)
theorem rm_vo4 (l : Launch) (Z : State) (a0 : Array Value) (hw : own_HW a0 Z) (ws : List Jvm.Cond)   (n0 : Nat) (ca : Addr) (kca : ClassId) (cvs : List Value) (bx : Nat → Addr) (h0 : Heap) (O0 : Old Z n0 h0) (LC : own_LC Z ca kca cvs bx) :
  MetFree l Y13 (head1 (Jvm.Cond.code Y13 jdk_35_method_24_code 3 (some (.object s_3)) :: ws) (rr 0 0 0 0)) (fun a U => a = #[(.long (4 : Int64))] ∧ Z.Warmed39 U.vm ∧ U.heap = h0) (fun _ _ _ _ _ => True) (fun _ U o U' => ∃ v L, o = .returned v ∧ QP (some (.ref (bx 132))) h0 v U'.heap L ∧ FrameEnd U o U' L (rr 0 0 0 0).cells (rr 0 0 0 0).slots) := by
 refine MetFree.of_bodySF (plainFor_of_name own_pn4) hisR ?_
 intro p e s m args below meth c s₁ Bd hml0 hP hK
 obtain ⟨rfl, hZ, hh⟩ := hP
 have hx := Bd.exec
 have hby := Bd.bytes
 have hml : c.maxLocals = 3 := hml0
 have hown : s.vm.findClass s_3 = some m.cls := findClass_of_methodNamed Bd.named
 have hnm := (name_of_methodNamed Bd.named Bd.method).1
 have X0 : Stand p l e (rr 0 0 0 0) s m #[(.long (4 : Int64))] below meth c s₁ [] 0 0 := Stand.of_body Bd
 have e0 : s₁.heap = h0 := by rw [← hh, Bd.state]; rfl
 show own_G _ _ _ _ (s₁.setTop (entryFrame m #[(.long (4 : Int64))] 3))
 refine goo (fun _ k => castTop (ef_1_J m (4 : Int64)) k) ?_
 refine goo (fun _ k => XS.sipush X0.here hx rfl (hb hby d1_0) <| XS.istoreN X0.here hx rfl (hb hby d1_3) rfl (l' := #[.val (.long (4 : Int64)), .second, iv i_128]) rfl <| XS.lloadN X0.here hx rfl (hb hby d1_4) rfl k) ?_
 refine goo (fun _ k => X0.ldc2Long hx hown (mvT hZ (qw hw 5 rfl)) (g := (mkF m 5 #[.val (.long (4 : Int64)), .second, iv i_128] [(.long (4 : Int64))])) rfl (hb hby d1_5) _ k) ?_
 refine goo (fun _ k => XS.lcmp X0.here hx rfl (hb hby d1_8) rfl k) ?_
 show own_G _ _ _ _ (s₁.setTop (mkF m 9 #[.val (.long (4 : Int64)), .second, iv i_128] [(.int (lcmpW (4 : Int64) (-128 : Int64)))]))
 refine goo (fun _ k => XS.ifNo X0.here hx rfl (hb hby d1_9) rfl (((if0 _ _).trans (flt (own_l2 (by decide : ¬ ((4 : Int64) < (-128 : Int64))))).1)) <| XS.lloadN X0.here hx rfl (hb hby d1_12) rfl k) ?_
 refine goo (fun _ k => X0.ldc2Long hx hown (mvT hZ (qw hw 44 rfl)) (g := (mkF m 13 #[.val (.long (4 : Int64)), .second, iv i_128] [(.long (4 : Int64))])) rfl (hb hby d1_13) _ k) ?_
 refine goo (fun _ k => XS.lcmp X0.here hx rfl (hb hby d1_16) rfl <| XS.ifNo X0.here hx rfl (hb hby d1_17) rfl (((if0 _ _).trans (flt (own_g2 (by decide : ¬ ((127 : Int64) < (4 : Int64))))).2.2.1)) k) ?_
 obtain ⟨T'0, X'0, e'0, st'0⟩ := getS2 X0 hx hZ hown (host := "") (Or.inl (qw hw 45 rfl)) Via.refl e0 (own_LCs LC O0) (g := (mkF m 20 #[.val (.long (4 : Int64)), .second, iv i_128] [])) rfl (hb hby d1_20)
 refine goo st'0 ?_
 show own_G _ _ _ _ (T'0.setTop (mkF m 23 #[.val (.long (4 : Int64)), .second, iv i_128] [.ref ca]))
 refine goo (fun _ k => XS.lloadN X'0.here hx rfl (hb hby d1_23) rfl <| XS.l2i X'0.here hx rfl (hb hby d1_24) rfl <| XS.sipush X'0.here hx rfl (hb hby d1_25) <| XS.iadd X'0.here hx rfl (hb hby d1_28) rfl k) ?_
 obtain ⟨cl283, Ar283, -, S283, -, H283, -⟩ := id (own_LCa LC O0)
 have hin283 := inb_of S283 (j := i_132) ⟨by decide, by decide⟩
 refine goo (fun _ k => X'0.aaload hx (j := i_132) (v := (.ref (bx 132))) (by rw [e'0]; exact Ar283.1) (State.isArrayOf_alike hZ.alike Ar283.2.1) rfl Ar283.2.2 hin283 (H283.at hin283 (own_LCg LC 132 (by decide))) (g := (mkF m 29 #[.val (.long (4 : Int64)), .second, iv i_128] [.int i_132, .ref ca])) rfl rfl (hb hby d1_29) _ k) ?_
 show own_G _ _ _ _ (T'0.setTop (mkF m 30 #[.val (.long (4 : Int64)), .second, iv i_128] [(.ref (bx 132))]))
 exact own_end X'0 Bd.notSynchronized (v := some (.ref (bx 132))) (fun h => by rw [Bd.returns] at h; cases h) (Q := QP (some (.ref (bx 132))) h0) ⟨rfl, rfl, e'0⟩ (fun fs hr => own_retA X'0 hx Bd.returns rfl rfl (hb hby d1_30) hr) (by decide) (by decide)
theorem rm_vo5 (l : Launch) (Z : State) (a0 : Array Value) (hw : own_HW a0 Z) (ws : List Jvm.Cond)   (n0 : Nat) (ca : Addr) (kca : ClassId) (cvs : List Value) (bx : Nat → Addr) (h0 : Heap) (O0 : Old Z n0 h0) (LC : own_LC Z ca kca cvs bx) :
  MetFree l Y13 (head1 (Jvm.Cond.code Y13 jdk_35_method_24_code 3 (some (.object s_3)) :: ws) (rr 0 0 0 0)) (fun a U => a = #[(.long (5 : Int64))] ∧ Z.Warmed39 U.vm ∧ U.heap = h0) (fun _ _ _ _ _ => True) (fun _ U o U' => ∃ v L, o = .returned v ∧ QP (some (.ref (bx 133))) h0 v U'.heap L ∧ FrameEnd U o U' L (rr 0 0 0 0).cells (rr 0 0 0 0).slots) := by
 refine MetFree.of_bodySF (plainFor_of_name own_pn4) hisR ?_
 intro p e s m args below meth c s₁ Bd hml0 hP hK
 obtain ⟨rfl, hZ, hh⟩ := hP
 have hx := Bd.exec
 have hby := Bd.bytes
 have hml : c.maxLocals = 3 := hml0
 have hown : s.vm.findClass s_3 = some m.cls := findClass_of_methodNamed Bd.named
 have hnm := (name_of_methodNamed Bd.named Bd.method).1
 have X0 : Stand p l e (rr 0 0 0 0) s m #[(.long (5 : Int64))] below meth c s₁ [] 0 0 := Stand.of_body Bd
 have e0 : s₁.heap = h0 := by rw [← hh, Bd.state]; rfl
 show own_G _ _ _ _ (s₁.setTop (entryFrame m #[(.long (5 : Int64))] 3))
 refine goo (fun _ k => castTop (ef_1_J m (5 : Int64)) k) ?_
 refine goo (fun _ k => XS.sipush X0.here hx rfl (hb hby d1_0) <| XS.istoreN X0.here hx rfl (hb hby d1_3) rfl (l' := #[.val (.long (5 : Int64)), .second, iv i_128]) rfl <| XS.lloadN X0.here hx rfl (hb hby d1_4) rfl k) ?_
 refine goo (fun _ k => X0.ldc2Long hx hown (mvT hZ (qw hw 5 rfl)) (g := (mkF m 5 #[.val (.long (5 : Int64)), .second, iv i_128] [(.long (5 : Int64))])) rfl (hb hby d1_5) _ k) ?_
 refine goo (fun _ k => XS.lcmp X0.here hx rfl (hb hby d1_8) rfl k) ?_
 show own_G _ _ _ _ (s₁.setTop (mkF m 9 #[.val (.long (5 : Int64)), .second, iv i_128] [(.int (lcmpW (5 : Int64) (-128 : Int64)))]))
 refine goo (fun _ k => XS.ifNo X0.here hx rfl (hb hby d1_9) rfl (((if0 _ _).trans (flt (own_l2 (by decide : ¬ ((5 : Int64) < (-128 : Int64))))).1)) <| XS.lloadN X0.here hx rfl (hb hby d1_12) rfl k) ?_
 refine goo (fun _ k => X0.ldc2Long hx hown (mvT hZ (qw hw 44 rfl)) (g := (mkF m 13 #[.val (.long (5 : Int64)), .second, iv i_128] [(.long (5 : Int64))])) rfl (hb hby d1_13) _ k) ?_
 refine goo (fun _ k => XS.lcmp X0.here hx rfl (hb hby d1_16) rfl <| XS.ifNo X0.here hx rfl (hb hby d1_17) rfl (((if0 _ _).trans (flt (own_g2 (by decide : ¬ ((127 : Int64) < (5 : Int64))))).2.2.1)) k) ?_
 obtain ⟨T'0, X'0, e'0, st'0⟩ := getS2 X0 hx hZ hown (host := "") (Or.inl (qw hw 45 rfl)) Via.refl e0 (own_LCs LC O0) (g := (mkF m 20 #[.val (.long (5 : Int64)), .second, iv i_128] [])) rfl (hb hby d1_20)
 refine goo st'0 ?_
 show own_G _ _ _ _ (T'0.setTop (mkF m 23 #[.val (.long (5 : Int64)), .second, iv i_128] [.ref ca]))
 refine goo (fun _ k => XS.lloadN X'0.here hx rfl (hb hby d1_23) rfl <| XS.l2i X'0.here hx rfl (hb hby d1_24) rfl <| XS.sipush X'0.here hx rfl (hb hby d1_25) <| XS.iadd X'0.here hx rfl (hb hby d1_28) rfl k) ?_
 obtain ⟨cl285, Ar285, -, S285, -, H285, -⟩ := id (own_LCa LC O0)
 have hin285 := inb_of S285 (j := i_133) ⟨by decide, by decide⟩
 refine goo (fun _ k => X'0.aaload hx (j := i_133) (v := (.ref (bx 133))) (by rw [e'0]; exact Ar285.1) (State.isArrayOf_alike hZ.alike Ar285.2.1) rfl Ar285.2.2 hin285 (H285.at hin285 (own_LCg LC 133 (by decide))) (g := (mkF m 29 #[.val (.long (5 : Int64)), .second, iv i_128] [.int i_133, .ref ca])) rfl rfl (hb hby d1_29) _ k) ?_
 show own_G _ _ _ _ (T'0.setTop (mkF m 30 #[.val (.long (5 : Int64)), .second, iv i_128] [(.ref (bx 133))]))
 exact own_end X'0 Bd.notSynchronized (v := some (.ref (bx 133))) (fun h => by rw [Bd.returns] at h; cases h) (Q := QP (some (.ref (bx 133))) h0) ⟨rfl, rfl, e'0⟩ (fun fs hr => own_retA X'0 hx Bd.returns rfl rfl (hb hby d1_30) hr) (by decide) (by decide)
theorem d21_0 : decode prog_46_method_25_code 0 = .ok (.aload_n 0, 1) := by decide +kernel
theorem d21_1 : decode prog_46_method_25_code 1 = .ok (.instanceof 92, 3) := by decide +kernel
theorem d21_4 : decode prog_46_method_25_code 4 = .ok (.ireturn, 1) := by decide +kernel
theorem ef_21_R (m : MethodId) (x0 : Addr) : entryFrame m #[(.ref x0)] 1 = mkF m 0 #[.val (.ref x0)] [] := by
  first | (simp [entryFrame, mkF, argsToLocals, Value.category]; done) | rfl
theorem rm21 (l : Launch) (Z : State) (a0 : Array Value) (hw : own_HW a0 Z) (ws : List Jvm.Cond) (x0 : Addr)  (h0 : Heap) (Xk : Exa Z h0 x0 s_3) :
  MetFree l Y14 (head1 (Jvm.Cond.code Y14 prog_46_method_25_code 1 (some .boolean) :: ws) (rr 0 0 0 0)) (fun a U => a = #[.ref x0] ∧ Z.Warmed39 U.vm ∧ U.heap = h0) (fun _ _ _ _ _ => True) (fun _ U o U' => ∃ v L, o = .returned v ∧ QP (some (.int i_1)) h0 v U'.heap L ∧ FrameEnd U o U' L (rr 0 0 0 0).cells (rr 0 0 0 0).slots) := by
 refine MetFree.of_bodySF (plainFor_of_name own_pn1) hisR ?_
 intro p e s m args below meth c s₁ Bd hml0 hP hK
 obtain ⟨rfl, hZ, hh⟩ := hP
 have hx := Bd.exec
 have hby := Bd.bytes
 have hml : c.maxLocals = 1 := hml0
 have hown : s.vm.findClass s_0 = some m.cls := findClass_of_methodNamed Bd.named
 have hnm := (name_of_methodNamed Bd.named Bd.method).1
 have X0 : Stand p l e (rr 0 0 0 0) s m #[.ref x0] below meth c s₁ [] 0 0 := Stand.of_body Bd
 have e0 : s₁.heap = h0 := by rw [← hh, Bd.state]; rfl
 show own_G _ _ _ _ (s₁.setTop (entryFrame m #[.ref x0] 1))
 refine goo (fun _ k => castTop (ef_21_R m x0) k) ?_
 refine goo (fun _ k => XS.aloadN X0.here hx rfl (hb hby d21_0) rfl rfl k) ?_
 obtain ⟨T'0, X'0, e'0, st'0⟩ := instY X0 hx hZ hown (qw hw 132 rfl) e0 (Ins.self Xk) (g := (mkF m 1 #[rv x0] [.ref x0])) rfl rfl (hb hby d21_1)
 refine goo st'0 ?_
 show own_G _ _ _ _ (T'0.setTop (mkF m 4 #[rv x0] [.int i_1]))
 exact own_end X'0 Bd.notSynchronized (v := some (.int (nar .boolean i_1))) (fun h => by rw [Bd.returns] at h; cases h) (Q := QP (some (.int i_1)) h0) ⟨rfl, rfl, e'0⟩ (fun fs hr => retN X'0 hx (t := .boolean) Bd.returns (by simp) (hb hby d21_4) hr) (by decide) (by decide)
def Q_rm_he_0_0 (Z : State) (x0 : Addr) (bk ky vl hs ch : Addr) (k1 k2 k3 k4 k5 : ClassId) (kq : Addr) (kv : Int64) (hc hv : Int32) (h0 : Heap) (n0 : Nat) (v : Option Value) (h : Heap) (L : List Loc) : Prop := v = some (.int (-1 : Int32)) ∧ Fr n0 L ∧ Keep h0 h []
theorem d20_0 : decode prog_46_method_14_code 0 = .ok (.aload_n 0, 1) := by decide +kernel
theorem d20_1 : decode prog_46_method_14_code 1 = .ok (.getfield 102, 3) := by decide +kernel
theorem d20_4 : decode prog_46_method_14_code 4 = .ok (.iload_n 2, 1) := by decide +kernel
theorem d20_5 : decode prog_46_method_14_code 5 = .ok (.aload_n 0, 1) := by decide +kernel
theorem d20_6 : decode prog_46_method_14_code 6 = .ok (.getfield 102, 3) := by decide +kernel
theorem d20_9 : decode prog_46_method_14_code 9 = .ok (.arraylength, 1) := by decide +kernel
theorem d20_10 : decode prog_46_method_14_code 10 = .ok (.iconst 1, 1) := by decide +kernel
theorem d20_11 : decode prog_46_method_14_code 11 = .ok (.isub, 1) := by decide +kernel
theorem d20_12 : decode prog_46_method_14_code 12 = .ok (.iand, 1) := by decide +kernel
theorem d20_13 : decode prog_46_method_14_code 13 = .ok (.iaload, 1) := by decide +kernel
theorem d20_14 : decode prog_46_method_14_code 14 = .ok (.istore_n 3, 1) := by decide +kernel
theorem d20_15 : decode prog_46_method_14_code 15 = .ok (.iload_n 3, 1) := by decide +kernel
theorem d20_16 : decode prog_46_method_14_code 16 = .ok (.ifCond .lt 53, 3) := by decide +kernel
theorem d20_69 : decode prog_46_method_14_code 69 = .ok (.iconst (-1), 1) := by decide +kernel
theorem d20_70 : decode prog_46_method_14_code 70 = .ok (.ireturn, 1) := by decide +kernel
theorem ef_20_RRI (m : MethodId) (x0 : Addr) (x1 : Addr) (x2 : Int32) : entryFrame m #[(.ref x0), (.ref x1), (.int x2)] 5 = mkF m 0 #[.val (.ref x0), .val (.ref x1), .val (.int x2), .unset, .unset] [] := by
  first | (simp [entryFrame, mkF, argsToLocals, Value.category]; done) | rfl
theorem rm_he_0_0 (l : Launch) (Z : State) (a0 : Array Value) (hw : own_HW a0 Z) (ws : List Jvm.Cond) (x0 : Addr) (bk ky vl hs ch : Addr) (k1 k2 k3 k4 k5 : ClassId) (kq : Addr) (kv : Int64) (hc hv : Int32) (h0 : Heap) (n0 : Nat) (Z0 : n0 ≤ h0.size) (p0_ : Exa Z h0 x0 s_0) (p1_ : Fld Z h0 x0 s_0 "buckets" "[I" (.ref bk)) (p2_ : Fld Z h0 x0 s_0 "keys" "[Ljava/lang/Object;" (.ref ky)) (p3_ : Fld Z h0 x0 s_0 "values" "[Ljava/lang/Object;" (.ref vl)) (p4_ : Fld Z h0 x0 s_0 "hashes" "[I" (.ref hs)) (p5_ : Fld Z h0 x0 s_0 "chain" "[I" (.ref ch)) (p6_ : Fld Z h0 x0 s_0 "size" "I" (.int i_0)) (p7_ : Fld Z h0 x0 s_0 "count" "I" (.int i_0)) (p8_ : Fld Z h0 x0 s_0 "emptied" "Z" (.int i_0)) (p9_ : Arv Z h0 bk k1 .int i_4 [(.int (-1 : Int32)), (.int (-1 : Int32)), (.int (-1 : Int32)), (.int (-1 : Int32))] (.int i_0)) (p10_ : Arv Z h0 ky k2 (.object s_2) i_4 [.null, .null, .null, .null] .null) (p11_ : Arv Z h0 vl k3 (.object s_2) i_4 [.null, .null, .null, .null] .null) (p12_ : Arv Z h0 hs k4 .int i_4 [.int i_0, .int i_0, .int i_0, .int i_0] (.int i_0)) (p13_ : Arv Z h0 ch k5 .int i_4 [.int i_0, .int i_0, .int i_0, .int i_0] (.int i_0)) (p14_ : hv &&& i_3 = i_0)  :
  MetFree l Y15 (head1 (Jvm.Cond.code Y15 prog_46_method_14_code 5 (some .int) :: ws) (rr 0 0 0 0)) (fun a U => a = #[.ref x0, (.ref (kq)), (.int (hv))] ∧ Z.Warmed39 U.vm ∧ U.heap = h0) (fun _ _ _ _ _ => True) (fun _ U o U' => ∃ v L, o = .returned v ∧ Q_rm_he_0_0 Z x0 bk ky vl hs ch k1 k2 k3 k4 k5 kq kv hc hv h0 n0 v U'.heap L ∧ FrameEnd U o U' L (rr 0 0 0 0).cells (rr 0 0 0 0).slots) := by
 refine MetFree.of_bodySF (plainFor_of_name own_pn1) hisR ?_
 intro p e s m args below meth c s₁ Bd hml0 hP hK
 obtain ⟨rfl, hZ, hh⟩ := hP
 have hx := Bd.exec
 have hby := Bd.bytes
 have hml : c.maxLocals = 5 := hml0
 have hown : s.vm.findClass s_0 = some m.cls := findClass_of_methodNamed Bd.named
 have hnm := (name_of_methodNamed Bd.named Bd.method).1
 have X0 : Stand p l e (rr 0 0 0 0) s m #[.ref x0, (.ref (kq)), (.int (hv))] below meth c s₁ [] 0 0 := Stand.of_body Bd
 have e0 : s₁.heap = h0 := by rw [← hh, Bd.state]; rfl
 show own_G _ _ _ _ (s₁.setTop (entryFrame m #[.ref x0, (.ref (kq)), (.int (hv))] 5))
 refine goo (fun _ k => castTop (ef_20_RRI m x0 (kq) (hv)) k) ?_
 have N0 := Fr.nil n0
 have KP0 := Keep.refl h0 []
 refine goo (fun _ k => XS.aloadN X0.here hx rfl (hb hby d20_0) rfl rfl k) ?_
 obtain ⟨T'0, X'0, e'0, st'0⟩ := getF X0 hx hZ hown (host := "") (Or.inl (qw hw 83 rfl)) Via.refl e0 p1_ (g := (mkF m 1 #[rv x0, rv kq, iv hv, .unset, .unset] [.ref x0])) rfl rfl (hb hby d20_1)
 refine goo st'0 ?_
 refine goo (fun _ k => XS.iloadN X'0.here hx rfl (hb hby d20_4) rfl <| XS.aloadN X'0.here hx rfl (hb hby d20_5) rfl rfl k) ?_
 obtain ⟨T'1, X'1, e'1, st'1⟩ := getF X'0 hx hZ hown (host := "") (Or.inl (qw hw 83 rfl)) Via.refl e'0 p1_ (g := (mkF m 6 #[rv x0, rv kq, iv hv, .unset, .unset] [.ref x0, .int hv, .ref bk])) rfl rfl (hb hby d20_6)
 refine goo st'1 ?_
 show own_G _ _ _ _ (T'1.setTop (mkF m 9 #[rv x0, rv kq, iv hv, .unset, .unset] [.ref bk, .int hv, .ref bk]))
 obtain ⟨cl289, Ar289, -, S289, N289, -, -⟩ := id p9_
 refine goo (fun _ k => X'1.arraylength hx (cell := cl289) (by rw [e'1]; exact Ar289.1) (State.isArrayOf_alike hZ.alike Ar289.2.1) (g := (mkF m 9 #[rv x0, rv kq, iv hv, .unset, .unset] [.ref bk, .int hv, .ref bk])) rfl rfl (hb hby d20_9) _ (by rw [len_of S289 N289]; exact k)) ?_
 refine goo (fun _ k => XS.iconst X'1.here hx rfl (hb hby d20_10) <| XS.isub X'1.here hx rfl (hb hby d20_11) rfl <| XS.iand X'1.here hx rfl (hb hby d20_12) rfl k) ?_
 show own_G _ _ _ _ (T'1.setTop (mkF m 13 #[rv x0, rv kq, iv hv, .unset, .unset] [(.int (hv &&& i_3)), .ref bk]))
 rw [p14_]
 obtain ⟨cl290, Ar290, -, S290, -, H290, -⟩ := id p9_
 have hin290 := inb_of S290 (j := i_0) ⟨by decide, by decide⟩
 refine goo (fun _ k => X'1.iaload hx (j := i_0) (v := (.int (-1 : Int32))) (by rw [e'1]; exact Ar290.1) (State.isArrayOf_alike hZ.alike Ar290.2.1) Ar290.2.2 hin290 (H290.at hin290 rfl) (g := (mkF m 13 #[rv x0, rv kq, iv hv, .unset, .unset] [.int i_0, .ref bk])) rfl rfl (hb hby d20_13) _ k) ?_
 refine goo (fun _ k => XS.istoreN X'1.here hx rfl (hb hby d20_14) rfl (l' := #[rv x0, rv kq, iv hv, iv (-1 : Int32), .unset]) rfl <| XS.iloadN X'1.here hx rfl (hb hby d20_15) rfl <| XS.ifYes X'1.here hx rfl (pc0 := 16) (pc' := 69) rfl (hb hby d20_16) rfl (((if0 _ _).trans (tlt (by decide : (-1 : Int32) < i_0)).1)) (by decide) (by decide) <| XS.iconst X'1.here hx rfl (hb hby d20_69) k) ?_
 show own_G _ _ _ _ (T'1.setTop (mkF m 70 #[rv x0, rv kq, iv hv, iv (-1 : Int32), .unset] [(.int (-1 : Int32))]))
 exact own_end X'1 Bd.notSynchronized (v := some (.int (-1 : Int32))) (fun h => by rw [Bd.returns] at h; cases h) (Q := Q_rm_he_0_0 Z x0 bk ky vl hs ch k1 k2 k3 k4 k5 kq kv hc hv h0 n0) (by show Q_rm_he_0_0 Z x0 bk ky vl hs ch k1 k2 k3 k4 k5 kq kv hc hv h0 n0 (some (.int (-1 : Int32))) T'1.heap _; rw [e'1]; exact ⟨rfl, N0, KP0⟩) (fun fs hr => retI X'1 hx Bd.returns (hb hby d20_70) hr) (by decide) (by decide)
def Q_rm_en_0_0 (Z : State) (x0 : Addr) (bk ky vl hs ch : Addr) (k1 k2 k3 k4 k5 : ClassId) (kq : Addr) (kv : Int64) (hc hv : Int32) (h0 : Heap) (n0 : Nat) (v : Option Value) (h : Heap) (L : List Loc) : Prop := v = some (.int (-1 : Int32)) ∧ Fr n0 L ∧ Keep h0 h []
theorem own_pd5 : parseMethodDescriptor "()I" = some ⟨[], some .int⟩ := by decide +kernel
theorem own_pd6 : parseMethodDescriptor "(Ljava/lang/Object;I)I" = some ⟨[(.object "java/lang/Object"), .int], some .int⟩ := by decide +kernel
theorem own_pd7 : parseMethodDescriptor "(Ljava/lang/Object;)Z" = some ⟨[(.object "java/lang/Object")], some .boolean⟩ := by decide +kernel
theorem d16_0 : decode prog_46_method_12_code 0 = .ok (.aload_n 1, 1) := by decide +kernel
theorem d16_1 : decode prog_46_method_12_code 1 = .ok (.invokevirtual 56, 3) := by decide +kernel
theorem d16_4 : decode prog_46_method_12_code 4 = .ok (.invokestatic 60, 3) := by decide +kernel
theorem d16_7 : decode prog_46_method_12_code 7 = .ok (.istore_n 2, 1) := by decide +kernel
theorem d16_8 : decode prog_46_method_12_code 8 = .ok (.aload_n 0, 1) := by decide +kernel
theorem d16_9 : decode prog_46_method_12_code 9 = .ok (.aload_n 1, 1) := by decide +kernel
theorem d16_10 : decode prog_46_method_12_code 10 = .ok (.iload_n 2, 1) := by decide +kernel
theorem d16_11 : decode prog_46_method_12_code 11 = .ok (.invokevirtual 68, 3) := by decide +kernel
theorem d16_14 : decode prog_46_method_12_code 14 = .ok (.istore_n 3, 1) := by decide +kernel
theorem d16_15 : decode prog_46_method_12_code 15 = .ok (.iload_n 3, 1) := by decide +kernel
theorem d16_16 : decode prog_46_method_12_code 16 = .ok (.ifCond .ge 10, 3) := by decide +kernel
theorem d16_19 : decode prog_46_method_12_code 19 = .ok (.aload_n 1, 1) := by decide +kernel
theorem d16_20 : decode prog_46_method_12_code 20 = .ok (.invokestatic 76, 3) := by decide +kernel
theorem d16_23 : decode prog_46_method_12_code 23 = .ok (.ifCond .eq 7, 3) := by decide +kernel
theorem d16_26 : decode prog_46_method_12_code 26 = .ok (.iload_n 3, 1) := by decide +kernel
theorem d16_27 : decode prog_46_method_12_code 27 = .ok (.goto 8, 3) := by decide +kernel
theorem d16_35 : decode prog_46_method_12_code 35 = .ok (.ireturn, 1) := by decide +kernel
theorem ef_16_RR (m : MethodId) (x0 : Addr) (x1 : Addr) : entryFrame m #[(.ref x0), (.ref x1)] 4 = mkF m 0 #[.val (.ref x0), .val (.ref x1), .unset, .unset] [] := by
  first | (simp [entryFrame, mkF, argsToLocals, Value.category]; done) | rfl
theorem rm_en_0_0 (l : Launch) (Z : State) (a0 : Array Value) (hw : own_HW a0 Z) (ws : List Jvm.Cond) (x0 : Addr) (bk ky vl hs ch : Addr) (k1 k2 k3 k4 k5 : ClassId) (kq : Addr) (kv : Int64) (hc hv : Int32) (h0 : Heap) (n0 : Nat) (Z0 : n0 ≤ h0.size) (p0_ : Exa Z h0 x0 s_0) (p1_ : Fld Z h0 x0 s_0 "buckets" "[I" (.ref bk)) (p2_ : Fld Z h0 x0 s_0 "keys" "[Ljava/lang/Object;" (.ref ky)) (p3_ : Fld Z h0 x0 s_0 "values" "[Ljava/lang/Object;" (.ref vl)) (p4_ : Fld Z h0 x0 s_0 "hashes" "[I" (.ref hs)) (p5_ : Fld Z h0 x0 s_0 "chain" "[I" (.ref ch)) (p6_ : Fld Z h0 x0 s_0 "size" "I" (.int i_0)) (p7_ : Fld Z h0 x0 s_0 "count" "I" (.int i_0)) (p8_ : Fld Z h0 x0 s_0 "emptied" "Z" (.int i_0)) (p9_ : Arv Z h0 bk k1 .int i_4 [(.int (-1 : Int32)), (.int (-1 : Int32)), (.int (-1 : Int32)), (.int (-1 : Int32))] (.int i_0)) (p10_ : Arv Z h0 ky k2 (.object s_2) i_4 [.null, .null, .null, .null] .null) (p11_ : Arv Z h0 vl k3 (.object s_2) i_4 [.null, .null, .null, .null] .null) (p12_ : Arv Z h0 hs k4 .int i_4 [.int i_0, .int i_0, .int i_0, .int i_0] (.int i_0)) (p13_ : Arv Z h0 ch k5 .int i_4 [.int i_0, .int i_0, .int i_0, .int i_0] (.int i_0)) (p14_ : Exa Z h0 kq s_3) (p15_ : Fld Z Z.heap kq s_3 "value" "J" (.long kv)) (p16_ : F18 kv = hc) (p17_ : own_sp hc = hv) (p18_ : hv &&& i_3 = i_0) (p19_ : Old Z n0 h0)  :
  MetFree l Y16 (head1 (Jvm.Cond.code Y16 prog_46_method_12_code 4 (some .int) :: ws) (rr 2 0 0 25)) (fun a U => a = #[.ref x0, (.ref (kq))] ∧ Z.Warmed39 U.vm ∧ U.heap = h0) (fun _ _ _ _ _ => True) (fun _ U o U' => ∃ v L, o = .returned v ∧ Q_rm_en_0_0 Z x0 bk ky vl hs ch k1 k2 k3 k4 k5 kq kv hc hv h0 n0 v U'.heap L ∧ FrameEnd U o U' L (rr 2 0 0 25).cells (rr 2 0 0 25).slots) := by
 refine MetFree.of_bodySF (plainFor_of_name own_pn1) hisR ?_
 intro p e s m args below meth c s₁ Bd hml0 hP hK
 obtain ⟨rfl, hZ, hh⟩ := hP
 have hx := Bd.exec
 have hby := Bd.bytes
 have hml : c.maxLocals = 4 := hml0
 have hown : s.vm.findClass s_0 = some m.cls := findClass_of_methodNamed Bd.named
 have hnm := (name_of_methodNamed Bd.named Bd.method).1
 have X0 : Stand p l e (rr 2 0 0 25) s m #[.ref x0, (.ref (kq))] below meth c s₁ [] 0 0 := Stand.of_body Bd
 have e0 : s₁.heap = h0 := by rw [← hh, Bd.state]; rfl
 show own_G _ _ _ _ (s₁.setTop (entryFrame m #[.ref x0, (.ref (kq))] 4))
 refine goo (fun _ k => castTop (ef_16_RR m x0 (kq)) k) ?_
 have N0 := Fr.nil n0
 have KP0 := Keep.refl h0 []
 refine goo (fun _ k => XS.aloadN X0.here hx rfl (hb hby d16_0) rfl rfl k) ?_
 obtain ⟨T'0, X'0, e'0, st'0⟩ := own_callVz X0 hx hZ (y := Y17) (z := Y12) hown (qw hw 112 rfl) (qw hw 113 rfl) (own_nf2 (args := #[]) (mvT hZ (qw hw 177 rfl)) rfl) (qw hw 115 rfl) (qw hw 116 rfl) (qw hw 3 rfl) (qw hw 117 rfl) (by decide) (W := 0) (rm17 l Z a0 hw [] kq kv hc h0 (p15_.ext p19_.2) p16_) (by decide) (by decide) rfl rfl e0 p14_ (g := (mkF m 1 #[rv x0, rv kq, .unset, .unset] [.ref kq])) rfl (by rw [hml]; rfl) (argsL := []) (rest := []) (lenOf own_pd5 rfl) rfl rfl (Nat.le_of_eq rfl) (hb hby d16_1) (by decide) (by decide)
 refine goo st'0 ?_
 obtain ⟨T'1, X'1, e'1, st'1⟩ := own_callP X'0 hx hZ (y := Y10) hown (qw hw 121 rfl) (qw hw 122 rfl) (qw hw 55 rfl) (qw hw 123 rfl) (by decide) (W := 0) (rm19 l Z a0 hw [] hc hv h0 p17_) (by decide) (by decide) rfl rfl e'0 (g := (mkF m 4 #[rv x0, rv kq, .unset, .unset] [.int hc])) rfl (by rw [hml]; rfl) (argsL := [.int hc]) (rest := []) (lenOf own_pd0 rfl) rfl rfl (Nat.le_of_eq rfl) (hb hby d16_4) (by decide) (by decide)
 refine goo st'1 ?_
 refine goo (fun _ k => XS.istoreN X'1.here hx rfl (hb hby d16_7) rfl (l' := #[rv x0, rv kq, iv hv, .unset]) rfl <| XS.aloadN X'1.here hx rfl (hb hby d16_8) rfl rfl k) ?_
 show own_G _ _ _ _ (T'1.setTop (mkF m 9 #[rv x0, rv kq, iv hv, .unset] [.ref x0]))
 refine goo (fun _ k => XS.aloadN X'1.here hx rfl (hb hby d16_9) rfl rfl <| XS.iloadN X'1.here hx rfl (hb hby d16_10) rfl k) ?_
 obtain ⟨cq'2, kq'2, q'2a, q'2b, q'2c⟩ := isOf hZ e'1 p0_
 obtain ⟨cp'2, cq'3, cq'4⟩ := p0_.cell
 obtain ⟨_, _, ⟨T'2, L'2, k'2, n'2⟩, -, X'2, ⟨Lc'2, hQ'2, l'2, y'2, z'2⟩, st'2⟩ := own_privB X'1 hx (y := Y15) hown (mvT hZ (qw hw 125 rfl)) (mvT hZ (qw hw 126 rfl)) (mvT hZ (qw hw 54 rfl)) (Cond.privateMethod_at (mvP hZ (qw hw 127 rfl) (args := #[]))) (mvT hZ (qw hw 128 rfl)) (by decide) (backOf (W := 0) (rm_he_0_0 l Z a0 hw [] x0 bk ky vl hs ch k1 k2 k3 k4 k5 kq kv hc hv h0 n0 Z0 p0_ p1_ p2_ p3_ p4_ p5_ p6_ p7_ p8_ p9_ p10_ p11_ p12_ p13_ p18_) hZ (qw hw 128 rfl) (qw hw 55 rfl) (by decide) (by decide)) (g := (mkF m 11 #[rv x0, rv kq, iv hv, .unset] [.int hv, .ref kq, .ref x0])) rfl (by rw [hml]; rfl) (a := x0) (by rw [e'1]; exact cq'3) cq'4 (argsL := [.ref kq, .int hv]) (rest := []) (lenOf own_pd6 rfl) rfl (Nat.le_of_eq rfl) (hb hby d16_11) (fun _ _ => ⟨rfl, e'1, (by decide : 0 + 0 ≤ _), (by decide : 0 + 0 ≤ _)⟩)
 dsimp only [Pt.U, Pt.locs, Pt.cells, Pt.slots] at X'2 l'2 y'2 z'2 st'2 hQ'2
 subst l'2 y'2 z'2
 obtain ⟨rfl, Nq'2, K'2⟩ := hQ'2
 have X_5 := p14_.keep K'2
 have KP_6 : Keep h0 T'2.heap [] := KP0.trans K'2 all0
 have N_2 := Fr.app N0 Nq'2
 refine goo (fun _ k => st'2.trans k) ?_
 refine goo (fun _ k => XS.istoreN X'2.here hx rfl (hb hby d16_14) rfl (l' := #[rv x0, rv kq, iv hv, iv (-1 : Int32)]) rfl <| XS.iloadN X'2.here hx rfl (hb hby d16_15) rfl <| XS.ifNo X'2.here hx rfl (hb hby d16_16) rfl (((if0 _ _).trans (tlt (by decide : (-1 : Int32) < i_0)).2.1)) k) ?_
 show own_G _ _ _ _ (T'2.setTop (mkF m 19 #[rv x0, rv kq, iv hv, iv (-1 : Int32)] []))
 refine goo (fun _ k => XS.aloadN X'2.here hx rfl (hb hby d16_19) rfl rfl k) ?_
 obtain ⟨T'7, X'7, e'7, st'7⟩ := own_callP X'2 hx hZ (y := Y14) hown (qw hw 129 rfl) (qw hw 130 rfl) (qw hw 55 rfl) (qw hw 131 rfl) (by decide) (W := 0) (rm21 l Z a0 hw [] kq  T'2.heap X_5) (by decide) (by decide) rfl rfl rfl (g := (mkF m 20 #[rv x0, rv kq, iv hv, iv (-1 : Int32)] [.ref kq])) rfl (by rw [hml]; rfl) (argsL := [.ref kq]) (rest := []) (lenOf own_pd7 rfl) rfl rfl (Nat.le_of_eq rfl) (hb hby d16_20) (by decide) (by decide)
 refine goo st'7 ?_
 refine goo (fun _ k => XS.ifNo X'7.here hx rfl (hb hby d16_23) rfl (((if0 _ _).trans (feq (by decide : ¬ (i_1 = i_0))).1)) <| XS.iloadN X'7.here hx rfl (hb hby d16_26) rfl <| XS.goto X'7.here hx rfl (pc0 := 27) (pc' := 35) rfl (hb hby d16_27) (by decide) (by decide) k) ?_
 show own_G _ _ _ _ (T'7.setTop (mkF m 35 #[rv x0, rv kq, iv hv, iv (-1 : Int32)] [(.int (-1 : Int32))]))
 exact own_end X'7 Bd.notSynchronized (v := some (.int (-1 : Int32))) (fun h => by rw [Bd.returns] at h; cases h) (Q := Q_rm_en_0_0 Z x0 bk ky vl hs ch k1 k2 k3 k4 k5 kq kv hc hv h0 n0) (by show Q_rm_en_0_0 Z x0 bk ky vl hs ch k1 k2 k3 k4 k5 kq kv hc hv h0 n0 (some (.int (-1 : Int32))) T'7.heap _; rw [e'7]; exact ⟨rfl, N_2, KP_6⟩) (fun fs hr => retI X'7 hx Bd.returns (hb hby d16_35) hr) (by decide) (by decide)
def Q_rm_pl_0_0 (Z : State) (x0 : Addr) (vo : Addr) (bk ky vl hs ch : Addr) (k1 k2 k3 k4 k5 : ClassId) (kq : Addr) (kv : Int64) (hc hv : Int32) (h0 : Heap) (n0 : Nat) (v : Option Value) (h : Heap) (L : List Loc) : Prop := v = none ∧ Fr n0 L ∧ Keep h0 h [x0, bk, ky, vl, hs, ch] ∧ Exa Z h x0 s_0 ∧ Fld Z h x0 s_0 "count" "I" (.int i_0) ∧ Fld Z h x0 s_0 "emptied" "Z" (.int i_0)
theorem d23_0 : decode prog_46_method_22_code 0 = .ok (.aload_n 0, 1) := by decide +kernel
theorem d23_1 : decode prog_46_method_22_code 1 = .ok (.dup, 1) := by decide +kernel
theorem d23_2 : decode prog_46_method_22_code 2 = .ok (.getfield 21, 3) := by decide +kernel
theorem d23_5 : decode prog_46_method_22_code 5 = .ok (.dup_x1, 1) := by decide +kernel
theorem d23_6 : decode prog_46_method_22_code 6 = .ok (.iconst 1, 1) := by decide +kernel
theorem d23_7 : decode prog_46_method_22_code 7 = .ok (.iadd, 1) := by decide +kernel
theorem d23_8 : decode prog_46_method_22_code 8 = .ok (.putfield 21, 3) := by decide +kernel
theorem d23_11 : decode prog_46_method_22_code 11 = .ok (.istore 4, 2) := by decide +kernel
theorem d23_13 : decode prog_46_method_22_code 13 = .ok (.iload_n 2, 1) := by decide +kernel
theorem d23_14 : decode prog_46_method_22_code 14 = .ok (.aload_n 0, 1) := by decide +kernel
theorem d23_15 : decode prog_46_method_22_code 15 = .ok (.getfield 102, 3) := by decide +kernel
theorem d23_18 : decode prog_46_method_22_code 18 = .ok (.arraylength, 1) := by decide +kernel
theorem d23_19 : decode prog_46_method_22_code 19 = .ok (.iconst 1, 1) := by decide +kernel
theorem d23_20 : decode prog_46_method_22_code 20 = .ok (.isub, 1) := by decide +kernel
theorem d23_21 : decode prog_46_method_22_code 21 = .ok (.iand, 1) := by decide +kernel
theorem d23_22 : decode prog_46_method_22_code 22 = .ok (.istore 5, 2) := by decide +kernel
theorem d23_24 : decode prog_46_method_22_code 24 = .ok (.aload_n 0, 1) := by decide +kernel
theorem d23_25 : decode prog_46_method_22_code 25 = .ok (.getfield 36, 3) := by decide +kernel
theorem d23_28 : decode prog_46_method_22_code 28 = .ok (.iload 4, 2) := by decide +kernel
theorem d23_30 : decode prog_46_method_22_code 30 = .ok (.aload_n 1, 1) := by decide +kernel
theorem d23_31 : decode prog_46_method_22_code 31 = .ok (.aastore, 1) := by decide +kernel
theorem d23_32 : decode prog_46_method_22_code 32 = .ok (.aload_n 0, 1) := by decide +kernel
theorem d23_33 : decode prog_46_method_22_code 33 = .ok (.getfield 32, 3) := by decide +kernel
theorem d23_36 : decode prog_46_method_22_code 36 = .ok (.iload 4, 2) := by decide +kernel
theorem d23_38 : decode prog_46_method_22_code 38 = .ok (.aload_n 3, 1) := by decide +kernel
theorem d23_39 : decode prog_46_method_22_code 39 = .ok (.aastore, 1) := by decide +kernel
theorem d23_40 : decode prog_46_method_22_code 40 = .ok (.aload_n 0, 1) := by decide +kernel
theorem d23_41 : decode prog_46_method_22_code 41 = .ok (.getfield 72, 3) := by decide +kernel
theorem d23_44 : decode prog_46_method_22_code 44 = .ok (.iload 4, 2) := by decide +kernel
theorem d23_46 : decode prog_46_method_22_code 46 = .ok (.iload_n 2, 1) := by decide +kernel
theorem d23_47 : decode prog_46_method_22_code 47 = .ok (.iastore, 1) := by decide +kernel
theorem d23_48 : decode prog_46_method_22_code 48 = .ok (.aload_n 0, 1) := by decide +kernel
theorem d23_49 : decode prog_46_method_22_code 49 = .ok (.getfield 105, 3) := by decide +kernel
theorem d23_52 : decode prog_46_method_22_code 52 = .ok (.iload 4, 2) := by decide +kernel
theorem d23_54 : decode prog_46_method_22_code 54 = .ok (.aload_n 0, 1) := by decide +kernel
theorem d23_55 : decode prog_46_method_22_code 55 = .ok (.getfield 102, 3) := by decide +kernel
theorem d23_58 : decode prog_46_method_22_code 58 = .ok (.iload 5, 2) := by decide +kernel
theorem d23_60 : decode prog_46_method_22_code 60 = .ok (.iaload, 1) := by decide +kernel
theorem d23_61 : decode prog_46_method_22_code 61 = .ok (.iastore, 1) := by decide +kernel
theorem d23_62 : decode prog_46_method_22_code 62 = .ok (.aload_n 0, 1) := by decide +kernel
theorem d23_63 : decode prog_46_method_22_code 63 = .ok (.getfield 102, 3) := by decide +kernel
theorem d23_66 : decode prog_46_method_22_code 66 = .ok (.iload 5, 2) := by decide +kernel
theorem d23_68 : decode prog_46_method_22_code 68 = .ok (.iload 4, 2) := by decide +kernel
theorem d23_70 : decode prog_46_method_22_code 70 = .ok (.iastore, 1) := by decide +kernel
theorem d23_71 : decode prog_46_method_22_code 71 = .ok (.return_, 1) := by decide +kernel
theorem ef_23_RRIR (m : MethodId) (x0 : Addr) (x1 : Addr) (x2 : Int32) (x3 : Addr) : entryFrame m #[(.ref x0), (.ref x1), (.int x2), (.ref x3)] 6 = mkF m 0 #[.val (.ref x0), .val (.ref x1), .val (.int x2), .val (.ref x3), .unset, .unset] [] := by
  first | (simp [entryFrame, mkF, argsToLocals, Value.category]; done) | rfl
theorem rm_pl_0_0 (l : Launch) (Z : State) (a0 : Array Value) (hw : own_HW a0 Z) (ws : List Jvm.Cond) (x0 : Addr) (vo : Addr) (bk ky vl hs ch : Addr) (k1 k2 k3 k4 k5 : ClassId) (kq : Addr) (kv : Int64) (hc hv : Int32) (h0 : Heap) (n0 : Nat) (Z0 : n0 ≤ h0.size) (p0_ : Exa Z h0 x0 s_0) (p1_ : Fld Z h0 x0 s_0 "buckets" "[I" (.ref bk)) (p2_ : Fld Z h0 x0 s_0 "keys" "[Ljava/lang/Object;" (.ref ky)) (p3_ : Fld Z h0 x0 s_0 "values" "[Ljava/lang/Object;" (.ref vl)) (p4_ : Fld Z h0 x0 s_0 "hashes" "[I" (.ref hs)) (p5_ : Fld Z h0 x0 s_0 "chain" "[I" (.ref ch)) (p6_ : Fld Z h0 x0 s_0 "size" "I" (.int i_0)) (p7_ : Fld Z h0 x0 s_0 "count" "I" (.int i_0)) (p8_ : Fld Z h0 x0 s_0 "emptied" "Z" (.int i_0)) (p9_ : Arv Z h0 bk k1 .int i_4 [(.int (-1 : Int32)), (.int (-1 : Int32)), (.int (-1 : Int32)), (.int (-1 : Int32))] (.int i_0)) (p10_ : Arv Z h0 ky k2 (.object s_2) i_4 [.null, .null, .null, .null] .null) (p11_ : Arv Z h0 vl k3 (.object s_2) i_4 [.null, .null, .null, .null] .null) (p12_ : Arv Z h0 hs k4 .int i_4 [.int i_0, .int i_0, .int i_0, .int i_0] (.int i_0)) (p13_ : Arv Z h0 ch k5 .int i_4 [.int i_0, .int i_0, .int i_0, .int i_0] (.int i_0)) (p14_ : n0 ≤ x0) (p15_ : n0 ≤ bk) (p16_ : n0 ≤ ky) (p17_ : n0 ≤ vl) (p18_ : n0 ≤ hs) (p19_ : n0 ≤ ch) (p20_ : x0 ≠ bk) (p21_ : x0 ≠ ky) (p22_ : x0 ≠ vl) (p23_ : x0 ≠ hs) (p24_ : x0 ≠ ch) (p25_ : bk ≠ ky) (p26_ : bk ≠ vl) (p27_ : bk ≠ hs) (p28_ : bk ≠ ch) (p29_ : ky ≠ vl) (p30_ : ky ≠ hs) (p31_ : ky ≠ ch) (p32_ : vl ≠ hs) (p33_ : vl ≠ ch) (p34_ : hs ≠ ch) (p35_ : Ovr Z k2 s_2) (p36_ : Ovr Z k3 s_2) (p37_ : Exa Z h0 kq s_3) (p38_ : hv &&& i_3 = i_0) (p39_ : Exa Z h0 vo s_3)  :
  MetFree l Y18 (head1 (Jvm.Cond.code Y18 prog_46_method_22_code 6 none :: ws) (rr 0 0 0 0)) (fun a U => a = #[.ref x0, (.ref (kq)), (.int (hv)), .ref vo] ∧ Z.Warmed39 U.vm ∧ U.heap = h0) (fun _ _ _ _ _ => True) (fun _ U o U' => ∃ v L, o = .returned v ∧ Q_rm_pl_0_0 Z x0 vo bk ky vl hs ch k1 k2 k3 k4 k5 kq kv hc hv h0 n0 v U'.heap L ∧ FrameEnd U o U' L (rr 0 0 0 0).cells (rr 0 0 0 0).slots) := by
 refine MetFree.of_bodySF (plainFor_of_name own_pn1) hisR ?_
 intro p e s m args below meth c s₁ Bd hml0 hP hK
 obtain ⟨rfl, hZ, hh⟩ := hP
 have hx := Bd.exec
 have hby := Bd.bytes
 have hml : c.maxLocals = 6 := hml0
 have hown : s.vm.findClass s_0 = some m.cls := findClass_of_methodNamed Bd.named
 have hnm := (name_of_methodNamed Bd.named Bd.method).1
 have X0 : Stand p l e (rr 0 0 0 0) s m #[.ref x0, (.ref (kq)), (.int (hv)), .ref vo] below meth c s₁ [] 0 0 := Stand.of_body Bd
 have e0 : s₁.heap = h0 := by rw [← hh, Bd.state]; rfl
 show own_G _ _ _ _ (s₁.setTop (entryFrame m #[.ref x0, (.ref (kq)), (.int (hv)), .ref vo] 6))
 refine goo (fun _ k => castTop (ef_23_RRIR m x0 (kq) (hv) vo) k) ?_
 have N0 := Fr.nil n0
 have KP0 := Keep.refl h0 [x0, bk, ky, vl, hs, ch]
 refine goo (fun _ k => XS.aloadN X0.here hx rfl (hb hby d23_0) rfl rfl <| XS.dup X0.here hx rfl (hb hby d23_1) rfl rfl k) ?_
 obtain ⟨T'0, X'0, e'0, st'0⟩ := getF X0 hx hZ hown (host := "") (Or.inl (qw hw 99 rfl)) Via.refl e0 p6_ (g := (mkF m 2 #[rv x0, rv kq, iv hv, rv vo, .unset, .unset] [.ref x0, .ref x0])) rfl rfl (hb hby d23_2)
 refine goo st'0 ?_
 refine goo (fun _ k => XS.dupX1 X'0.here hx rfl (hb hby d23_5) rfl rfl rfl <| XS.iconst X'0.here hx rfl (hb hby d23_6) k) ?_
 show own_G _ _ _ _ (T'0.setTop (mkF m 7 #[rv x0, rv kq, iv hv, rv vo, .unset, .unset] [.int i_1, .int i_0, .ref x0, .int i_0]))
 refine goo (fun _ k => XS.iadd X'0.here hx rfl (hb hby d23_7) rfl k) ?_
 obtain ⟨T'1, h'1, X'1, e'1, W'1, st'1⟩ := putF X'0 hx hZ hown (host := "") (Or.inl (qw hw 99 rfl)) Via.refl e'0 p6_ p0_ (Or.inl (qw hw 100 rfl)) (qw hw 54 rfl) (ty := .int) (by decide) rfl rfl (g := (mkF m 8 #[rv x0, rv kq, iv hv, rv vo, .unset, .unset] [.int i_1, .ref x0, .int i_0])) rfl rfl (hb hby d23_8)
 have X_2 := p0_.wr W'1
 have F_3 := p1_.other W'1 (Or.inr (slot_ne (Or.inl (qw hw 84 rfl)) (Or.inl (qw hw 100 rfl)) (by decide) (t := (.array .int)) (t' := .int) (by decide) (by decide)))
 have F_4 := p2_.other W'1 (Or.inr (slot_ne (Or.inl (qw hw 92 rfl)) (Or.inl (qw hw 100 rfl)) (by decide) (t := (.array (.object s_2))) (t' := .int) (by decide) (by decide)))
 have F_5 := p3_.other W'1 (Or.inr (slot_ne (Or.inl (qw hw 94 rfl)) (Or.inl (qw hw 100 rfl)) (by decide) (t := (.array (.object s_2))) (t' := .int) (by decide) (by decide)))
 have F_6 := p4_.other W'1 (Or.inr (slot_ne (Or.inl (qw hw 96 rfl)) (Or.inl (qw hw 100 rfl)) (by decide) (t := (.array .int)) (t' := .int) (by decide) (by decide)))
 have F_7 := p5_.other W'1 (Or.inr (slot_ne (Or.inl (qw hw 98 rfl)) (Or.inl (qw hw 100 rfl)) (by decide) (t := (.array .int)) (t' := .int) (by decide) (by decide)))
 have F_8 := p7_.other W'1 (Or.inr (slot_ne (Or.inl (qw hw 143 rfl)) (Or.inl (qw hw 100 rfl)) (by decide) (t := .int) (t' := .int) (by decide) (by decide)))
 have F_9 := p8_.other W'1 (Or.inr (slot_ne (Or.inl (qw hw 145 rfl)) (Or.inl (qw hw 100 rfl)) (by decide) (t := .boolean) (t' := .int) (by decide) (by decide)))
 have V_a := p9_.other W'1 (Ne.symm p20_)
 have V_b := p10_.other W'1 (Ne.symm p21_)
 have V_c := p11_.other W'1 (Ne.symm p22_)
 have V_d := p12_.other W'1 (Ne.symm p23_)
 have V_e := p13_.other W'1 (Ne.symm p24_)
 have X_f := p37_.wr W'1
 have X_g := p39_.wr W'1
 have KP_h : Keep h0 h'1 [x0, bk, ky, vl, hs, ch] := KP0.wr W'1 (Or.inl (List.mem_of_getElem? (i := 0) rfl))
 have N_1 := Fr.snoc X'1 N0 p14_
 refine goo st'1 ?_
 refine goo (fun _ k => XS.istore X'1.here hx rfl (hb hby d23_11) rfl (l' := #[rv x0, rv kq, iv hv, rv vo, iv i_0, .unset]) rfl <| XS.iloadN X'1.here hx rfl (hb hby d23_13) rfl <| XS.aloadN X'1.here hx rfl (hb hby d23_14) rfl rfl k) ?_
 obtain ⟨T'i, X'i, e'i, st'i⟩ := getF X'1 hx hZ hown (host := "") (Or.inl (qw hw 83 rfl)) Via.refl e'1 F_3 (g := (mkF m 15 #[rv x0, rv kq, iv hv, rv vo, iv i_0, .unset] [.ref x0, .int hv])) rfl rfl (hb hby d23_15)
 refine goo st'i ?_
 show own_G _ _ _ _ (T'i.setTop (mkF m 18 #[rv x0, rv kq, iv hv, rv vo, iv i_0, .unset] [.ref bk, .int hv]))
 obtain ⟨cl334, Ar334, -, S334, N334, -, -⟩ := id V_a
 refine goo (fun _ k => X'i.arraylength hx (cell := cl334) (by rw [e'i]; exact Ar334.1) (State.isArrayOf_alike hZ.alike Ar334.2.1) (g := (mkF m 18 #[rv x0, rv kq, iv hv, rv vo, iv i_0, .unset] [.ref bk, .int hv])) rfl rfl (hb hby d23_18) _ (by rw [len_of S334 N334]; exact k)) ?_
 refine goo (fun _ k => XS.iconst X'i.here hx rfl (hb hby d23_19) <| XS.isub X'i.here hx rfl (hb hby d23_20) rfl <| XS.iand X'i.here hx rfl (hb hby d23_21) rfl k) ?_
 show own_G _ _ _ _ (T'i.setTop (mkF m 22 #[rv x0, rv kq, iv hv, rv vo, iv i_0, .unset] [(.int (hv &&& i_3))]))
 rw [p38_]
 refine goo (fun _ k => XS.istore X'i.here hx rfl (hb hby d23_22) rfl (l' := #[rv x0, rv kq, iv hv, rv vo, iv i_0, iv i_0]) rfl <| XS.aloadN X'i.here hx rfl (hb hby d23_24) rfl rfl k) ?_
 obtain ⟨T'j, X'j, e'j, st'j⟩ := getF X'i hx hZ hown (host := "") (Or.inl (qw hw 91 rfl)) Via.refl e'i F_4 (g := (mkF m 25 #[rv x0, rv kq, iv hv, rv vo, iv i_0, iv i_0] [.ref x0])) rfl rfl (hb hby d23_25)
 refine goo st'j ?_
 refine goo (fun _ k => XS.iload X'j.here hx rfl (hb hby d23_28) rfl <| XS.aloadN X'j.here hx rfl (hb hby d23_30) rfl rfl k) ?_
 obtain ⟨cl336, Ar336, q'k, S336, N336, H336, G336⟩ := id V_b
 obtain ⟨T'k, h'k, X'k, e'k, W'k, st'k⟩ := stR X'j hx hZ e'j Ar336 (j := i_0) (inb_of S336 ⟨by decide, by decide⟩) rfl (Sto.ofV Ar336 q'k p35_ (Ins.of_exa X_f (qw hw 141 rfl))) (g := (mkF m 31 #[rv x0, rv kq, iv hv, rv vo, iv i_0, iv i_0] [.ref kq, .int i_0, .ref ky])) rfl rfl (hb hby d23_31)
 have X_l := X_2.wr W'k
 have F_m := F_3.other W'k (Or.inl p21_)
 have F_n := F_5.other W'k (Or.inl p21_)
 have F_o := F_6.other W'k (Or.inl p21_)
 have F_p := F_7.other W'k (Or.inl p21_)
 have F_q := F_8.other W'k (Or.inl p21_)
 have F_r := F_9.other W'k (Or.inl p21_)
 have V_s := V_a.other W'k p25_
 have V_t := V_c.other W'k (Ne.symm p29_)
 have V_u := V_d.other W'k (Ne.symm p30_)
 have V_v := V_e.other W'k (Ne.symm p31_)
 have X_w := X_g.wr W'k
 have V336 : Arv Z h'k ky k2 (.object s_2) i_4 [.ref kq, .null, .null, .null] .null := Arv.set Ar336 q'k S336 N336 H336 G336 rfl W'k 0 rfl (Nat.le_of_ble_eq_true rfl)
 have KP_x : Keep h0 h'k [x0, bk, ky, vl, hs, ch] := KP_h.wr W'k (Or.inl (List.mem_of_getElem? (i := 2) rfl))
 have N_k := Fr.snoc X'k N_1 p16_
 refine goo st'k ?_
 show own_G _ _ _ _ (T'k.setTop (mkF m 32 #[rv x0, rv kq, iv hv, rv vo, iv i_0, iv i_0] []))
 refine goo (fun _ k => XS.aloadN X'k.here hx rfl (hb hby d23_32) rfl rfl k) ?_
 obtain ⟨T'y, X'y, e'y, st'y⟩ := getF X'k hx hZ hown (host := "") (Or.inl (qw hw 93 rfl)) Via.refl e'k F_n (g := (mkF m 33 #[rv x0, rv kq, iv hv, rv vo, iv i_0, iv i_0] [.ref x0])) rfl rfl (hb hby d23_33)
 refine goo st'y ?_
 refine goo (fun _ k => XS.iload X'y.here hx rfl (hb hby d23_36) rfl <| XS.aloadN X'y.here hx rfl (hb hby d23_38) rfl rfl k) ?_
 obtain ⟨cl355, Ar355, q'z, S355, N355, H355, G355⟩ := id V_t
 obtain ⟨T'z, h'z, X'z, e'z, W'z, st'z⟩ := stR X'y hx hZ e'y Ar355 (j := i_0) (inb_of S355 ⟨by decide, by decide⟩) rfl (Sto.ofV Ar355 q'z p36_ (Ins.of_exa X_w (qw hw 141 rfl))) (g := (mkF m 39 #[rv x0, rv kq, iv hv, rv vo, iv i_0, iv i_0] [.ref vo, .int i_0, .ref vl])) rfl rfl (hb hby d23_39)
 have X_10 := X_l.wr W'z
 have F_11 := F_m.other W'z (Or.inl p22_)
 have F_12 := F_o.other W'z (Or.inl p22_)
 have F_13 := F_p.other W'z (Or.inl p22_)
 have F_14 := F_q.other W'z (Or.inl p22_)
 have F_15 := F_r.other W'z (Or.inl p22_)
 have V_16 := V_s.other W'z p26_
 have V_17 := V_u.other W'z (Ne.symm p32_)
 have V_18 := V_v.other W'z (Ne.symm p33_)
 have V355 : Arv Z h'z vl k3 (.object s_2) i_4 [.ref vo, .null, .null, .null] .null := Arv.set Ar355 q'z S355 N355 H355 G355 rfl W'z 0 rfl (Nat.le_of_ble_eq_true rfl)
 have KP_19 : Keep h0 h'z [x0, bk, ky, vl, hs, ch] := KP_x.wr W'z (Or.inl (List.mem_of_getElem? (i := 3) rfl))
 have N_z := Fr.snoc X'z N_k p17_
 refine goo st'z ?_
 refine goo (fun _ k => XS.aloadN X'z.here hx rfl (hb hby d23_40) rfl rfl k) ?_
 show own_G _ _ _ _ (T'z.setTop (mkF m 41 #[rv x0, rv kq, iv hv, rv vo, iv i_0, iv i_0] [.ref x0]))
 obtain ⟨T'1a, X'1a, e'1a, st'1a⟩ := getF X'z hx hZ hown (host := "") (Or.inl (qw hw 95 rfl)) Via.refl e'z F_12 (g := (mkF m 41 #[rv x0, rv kq, iv hv, rv vo, iv i_0, iv i_0] [.ref x0])) rfl rfl (hb hby d23_41)
 refine goo st'1a ?_
 refine goo (fun _ k => XS.iload X'1a.here hx rfl (hb hby d23_44) rfl <| XS.iloadN X'1a.here hx rfl (hb hby d23_46) rfl k) ?_
 obtain ⟨cl374, Ar374, q'1b, S374, N374, H374, G374⟩ := id V_17
 obtain ⟨T'1b, h'1b, X'1b, e'1b, W'1b, st'1b⟩ := stI X'1a hx hZ e'1a Ar374 (j := i_0) (inb_of S374 ⟨by decide, by decide⟩) (g := (mkF m 47 #[rv x0, rv kq, iv hv, rv vo, iv i_0, iv i_0] [.int hv, .int i_0, .ref hs])) rfl rfl (hb hby d23_47)
 have X_1c := X_10.wr W'1b
 have F_1d := F_11.other W'1b (Or.inl p23_)
 have F_1e := F_13.other W'1b (Or.inl p23_)
 have F_1f := F_14.other W'1b (Or.inl p23_)
 have F_1g := F_15.other W'1b (Or.inl p23_)
 have V_1h := V_16.other W'1b p27_
 have V_1i := V_18.other W'1b (Ne.symm p34_)
 have V374 : Arv Z h'1b hs k4 .int i_4 [.int hv, .int i_0, .int i_0, .int i_0] (.int i_0) := Arv.set Ar374 q'1b S374 N374 H374 G374 rfl W'1b 0 rfl (Nat.le_of_ble_eq_true rfl)
 have KP_1j : Keep h0 h'1b [x0, bk, ky, vl, hs, ch] := KP_19.wr W'1b (Or.inl (List.mem_of_getElem? (i := 4) rfl))
 have N_1b := Fr.snoc X'1b N_z p18_
 refine goo st'1b ?_
 refine goo (fun _ k => XS.aloadN X'1b.here hx rfl (hb hby d23_48) rfl rfl k) ?_
 obtain ⟨T'1k, X'1k, e'1k, st'1k⟩ := getF X'1b hx hZ hown (host := "") (Or.inl (qw hw 97 rfl)) Via.refl e'1b F_1e (g := (mkF m 49 #[rv x0, rv kq, iv hv, rv vo, iv i_0, iv i_0] [.ref x0])) rfl rfl (hb hby d23_49)
 refine goo st'1k ?_
 show own_G _ _ _ _ (T'1k.setTop (mkF m 52 #[rv x0, rv kq, iv hv, rv vo, iv i_0, iv i_0] [.ref ch]))
 refine goo (fun _ k => XS.iload X'1k.here hx rfl (hb hby d23_52) rfl <| XS.aloadN X'1k.here hx rfl (hb hby d23_54) rfl rfl k) ?_
 obtain ⟨T'1l, X'1l, e'1l, st'1l⟩ := getF X'1k hx hZ hown (host := "") (Or.inl (qw hw 83 rfl)) Via.refl e'1k F_1d (g := (mkF m 55 #[rv x0, rv kq, iv hv, rv vo, iv i_0, iv i_0] [.ref x0, .int i_0, .ref ch])) rfl rfl (hb hby d23_55)
 refine goo st'1l ?_
 refine goo (fun _ k => XS.iload X'1l.here hx rfl (hb hby d23_58) rfl k) ?_
 obtain ⟨cl394, Ar394, -, S394, -, H394, -⟩ := id V_1h
 have hin394 := inb_of S394 (j := i_0) ⟨by decide, by decide⟩
 refine goo (fun _ k => X'1l.iaload hx (j := i_0) (v := (.int (-1 : Int32))) (by rw [e'1l]; exact Ar394.1) (State.isArrayOf_alike hZ.alike Ar394.2.1) Ar394.2.2 hin394 (H394.at hin394 rfl) (g := (mkF m 60 #[rv x0, rv kq, iv hv, rv vo, iv i_0, iv i_0] [.int i_0, .ref bk, .int i_0, .ref ch])) rfl rfl (hb hby d23_60) _ k) ?_
 obtain ⟨cl395, Ar395, q'1m, S395, N395, H395, G395⟩ := id V_1i
 obtain ⟨T'1m, h'1m, X'1m, e'1m, W'1m, st'1m⟩ := stI X'1l hx hZ e'1l Ar395 (j := i_0) (inb_of S395 ⟨by decide, by decide⟩) (g := (mkF m 61 #[rv x0, rv kq, iv hv, rv vo, iv i_0, iv i_0] [(.int (-1 : Int32)), .int i_0, .ref ch])) rfl rfl (hb hby d23_61)
 have X_1n := X_1c.wr W'1m
 have F_1o := F_1d.other W'1m (Or.inl p24_)
 have F_1p := F_1f.other W'1m (Or.inl p24_)
 have F_1q := F_1g.other W'1m (Or.inl p24_)
 have V_1r := V_1h.other W'1m p28_
 have V395 : Arv Z h'1m ch k5 .int i_4 [(.int (-1 : Int32)), .int i_0, .int i_0, .int i_0] (.int i_0) := Arv.set Ar395 q'1m S395 N395 H395 G395 rfl W'1m 0 rfl (Nat.le_of_ble_eq_true rfl)
 have KP_1s : Keep h0 h'1m [x0, bk, ky, vl, hs, ch] := KP_1j.wr W'1m (Or.inl (List.mem_of_getElem? (i := 5) rfl))
 have N_1m := Fr.snoc X'1m N_1b p19_
 refine goo st'1m ?_
 show own_G _ _ _ _ (T'1m.setTop (mkF m 62 #[rv x0, rv kq, iv hv, rv vo, iv i_0, iv i_0] []))
 refine goo (fun _ k => XS.aloadN X'1m.here hx rfl (hb hby d23_62) rfl rfl k) ?_
 obtain ⟨T'1t, X'1t, e'1t, st'1t⟩ := getF X'1m hx hZ hown (host := "") (Or.inl (qw hw 83 rfl)) Via.refl e'1m F_1o (g := (mkF m 63 #[rv x0, rv kq, iv hv, rv vo, iv i_0, iv i_0] [.ref x0])) rfl rfl (hb hby d23_63)
 refine goo st'1t ?_
 refine goo (fun _ k => XS.iload X'1t.here hx rfl (hb hby d23_66) rfl <| XS.iload X'1t.here hx rfl (hb hby d23_68) rfl k) ?_
 obtain ⟨cl414, Ar414, q'1u, S414, N414, H414, G414⟩ := id V_1r
 obtain ⟨T'1u, h'1u, X'1u, e'1u, W'1u, st'1u⟩ := stI X'1t hx hZ e'1t Ar414 (j := i_0) (inb_of S414 ⟨by decide, by decide⟩) (g := (mkF m 70 #[rv x0, rv kq, iv hv, rv vo, iv i_0, iv i_0] [.int i_0, .int i_0, .ref bk])) rfl rfl (hb hby d23_70)
 have X_1v := X_1n.wr W'1u
 have F_1w := F_1p.other W'1u (Or.inl p20_)
 have F_1x := F_1q.other W'1u (Or.inl p20_)
 have V414 : Arv Z h'1u bk k1 .int i_4 [.int i_0, (.int (-1 : Int32)), (.int (-1 : Int32)), (.int (-1 : Int32))] (.int i_0) := Arv.set Ar414 q'1u S414 N414 H414 G414 rfl W'1u 0 rfl (Nat.le_of_ble_eq_true rfl)
 have KP_1y : Keep h0 h'1u [x0, bk, ky, vl, hs, ch] := KP_1s.wr W'1u (Or.inl (List.mem_of_getElem? (i := 1) rfl))
 have N_1u := Fr.snoc X'1u N_1m p15_
 refine goo st'1u ?_
 show own_G _ _ _ _ (T'1u.setTop (mkF m 71 #[rv x0, rv kq, iv hv, rv vo, iv i_0, iv i_0] []))
 exact own_end X'1u Bd.notSynchronized (v := none) (fun _ => rfl) (Q := Q_rm_pl_0_0 Z x0 vo bk ky vl hs ch k1 k2 k3 k4 k5 kq kv hc hv h0 n0) (by show Q_rm_pl_0_0 Z x0 vo bk ky vl hs ch k1 k2 k3 k4 k5 kq kv hc hv h0 n0 (none) T'1u.heap _; rw [e'1u]; exact ⟨rfl, N_1u, KP_1y, X_1v, F_1w, F_1x⟩) (fun fs hr => X'1u.returnOut hx Bd.returns (hb hby d23_71) hr) (by decide) (by decide)
def Q_rm_ad_0_0 (Z : State) (x0 : Addr) (vo : Addr) (bk ky vl hs ch : Addr) (k1 k2 k3 k4 k5 : ClassId) (kq : Addr) (kv : Int64) (hc hv : Int32) (h0 : Heap) (n0 : Nat) (v : Option Value) (h : Heap) (L : List Loc) : Prop := v = none ∧ Fr n0 L ∧ Keep h0 h [x0, bk, ky, vl, hs, ch]
theorem own_pd8 : parseMethodDescriptor "(Ljava/lang/Object;ILjava/lang/Object;)V" = some ⟨[(.object "java/lang/Object"), .int, (.object "java/lang/Object")], none⟩ := by decide +kernel
theorem d22_0 : decode prog_46_method_21_code 0 = .ok (.aload_n 0, 1) := by decide +kernel
theorem d22_1 : decode prog_46_method_21_code 1 = .ok (.aload_n 1, 1) := by decide +kernel
theorem d22_2 : decode prog_46_method_21_code 2 = .ok (.iload_n 2, 1) := by decide +kernel
theorem d22_3 : decode prog_46_method_21_code 3 = .ok (.aload_n 3, 1) := by decide +kernel
theorem d22_4 : decode prog_46_method_21_code 4 = .ok (.invokevirtual 149, 3) := by decide +kernel
theorem d22_7 : decode prog_46_method_21_code 7 = .ok (.aload_n 0, 1) := by decide +kernel
theorem d22_8 : decode prog_46_method_21_code 8 = .ok (.dup, 1) := by decide +kernel
theorem d22_9 : decode prog_46_method_21_code 9 = .ok (.getfield 17, 3) := by decide +kernel
theorem d22_12 : decode prog_46_method_21_code 12 = .ok (.iconst 1, 1) := by decide +kernel
theorem d22_13 : decode prog_46_method_21_code 13 = .ok (.iadd, 1) := by decide +kernel
theorem d22_14 : decode prog_46_method_21_code 14 = .ok (.putfield 17, 3) := by decide +kernel
theorem d22_17 : decode prog_46_method_21_code 17 = .ok (.aload_n 0, 1) := by decide +kernel
theorem d22_18 : decode prog_46_method_21_code 18 = .ok (.iconst 0, 1) := by decide +kernel
theorem d22_19 : decode prog_46_method_21_code 19 = .ok (.putfield 114, 3) := by decide +kernel
theorem d22_22 : decode prog_46_method_21_code 22 = .ok (.return_, 1) := by decide +kernel
theorem ef_22_RRIR (m : MethodId) (x0 : Addr) (x1 : Addr) (x2 : Int32) (x3 : Addr) : entryFrame m #[(.ref x0), (.ref x1), (.int x2), (.ref x3)] 4 = mkF m 0 #[.val (.ref x0), .val (.ref x1), .val (.int x2), .val (.ref x3)] [] := by
  first | (simp [entryFrame, mkF, argsToLocals, Value.category]; done) | rfl
theorem rm_ad_0_0 (l : Launch) (Z : State) (a0 : Array Value) (hw : own_HW a0 Z) (ws : List Jvm.Cond) (x0 : Addr) (vo : Addr) (bk ky vl hs ch : Addr) (k1 k2 k3 k4 k5 : ClassId) (kq : Addr) (kv : Int64) (hc hv : Int32) (h0 : Heap) (n0 : Nat) (Z0 : n0 ≤ h0.size) (p0_ : Exa Z h0 x0 s_0) (p1_ : Fld Z h0 x0 s_0 "buckets" "[I" (.ref bk)) (p2_ : Fld Z h0 x0 s_0 "keys" "[Ljava/lang/Object;" (.ref ky)) (p3_ : Fld Z h0 x0 s_0 "values" "[Ljava/lang/Object;" (.ref vl)) (p4_ : Fld Z h0 x0 s_0 "hashes" "[I" (.ref hs)) (p5_ : Fld Z h0 x0 s_0 "chain" "[I" (.ref ch)) (p6_ : Fld Z h0 x0 s_0 "size" "I" (.int i_0)) (p7_ : Fld Z h0 x0 s_0 "count" "I" (.int i_0)) (p8_ : Fld Z h0 x0 s_0 "emptied" "Z" (.int i_0)) (p9_ : Arv Z h0 bk k1 .int i_4 [(.int (-1 : Int32)), (.int (-1 : Int32)), (.int (-1 : Int32)), (.int (-1 : Int32))] (.int i_0)) (p10_ : Arv Z h0 ky k2 (.object s_2) i_4 [.null, .null, .null, .null] .null) (p11_ : Arv Z h0 vl k3 (.object s_2) i_4 [.null, .null, .null, .null] .null) (p12_ : Arv Z h0 hs k4 .int i_4 [.int i_0, .int i_0, .int i_0, .int i_0] (.int i_0)) (p13_ : Arv Z h0 ch k5 .int i_4 [.int i_0, .int i_0, .int i_0, .int i_0] (.int i_0)) (p14_ : n0 ≤ x0) (p15_ : n0 ≤ bk) (p16_ : n0 ≤ ky) (p17_ : n0 ≤ vl) (p18_ : n0 ≤ hs) (p19_ : n0 ≤ ch) (p20_ : x0 ≠ bk) (p21_ : x0 ≠ ky) (p22_ : x0 ≠ vl) (p23_ : x0 ≠ hs) (p24_ : x0 ≠ ch) (p25_ : bk ≠ ky) (p26_ : bk ≠ vl) (p27_ : bk ≠ hs) (p28_ : bk ≠ ch) (p29_ : ky ≠ vl) (p30_ : ky ≠ hs) (p31_ : ky ≠ ch) (p32_ : vl ≠ hs) (p33_ : vl ≠ ch) (p34_ : hs ≠ ch) (p35_ : Ovr Z k2 s_2) (p36_ : Ovr Z k3 s_2) (p37_ : Exa Z h0 kq s_3) (p38_ : hv &&& i_3 = i_0) (p39_ : Exa Z h0 vo s_3)  :
  MetFree l Y19 (head1 (Jvm.Cond.code Y19 prog_46_method_21_code 4 none :: ws) (rr 1 0 0 17)) (fun a U => a = #[.ref x0, (.ref (kq)), (.int (hv)), .ref vo] ∧ Z.Warmed39 U.vm ∧ U.heap = h0) (fun _ _ _ _ _ => True) (fun _ U o U' => ∃ v L, o = .returned v ∧ Q_rm_ad_0_0 Z x0 vo bk ky vl hs ch k1 k2 k3 k4 k5 kq kv hc hv h0 n0 v U'.heap L ∧ FrameEnd U o U' L (rr 1 0 0 17).cells (rr 1 0 0 17).slots) := by
 refine MetFree.of_bodySF (plainFor_of_name own_pn1) hisR ?_
 intro p e s m args below meth c s₁ Bd hml0 hP hK
 obtain ⟨rfl, hZ, hh⟩ := hP
 have hx := Bd.exec
 have hby := Bd.bytes
 have hml : c.maxLocals = 4 := hml0
 have hown : s.vm.findClass s_0 = some m.cls := findClass_of_methodNamed Bd.named
 have hnm := (name_of_methodNamed Bd.named Bd.method).1
 have X0 : Stand p l e (rr 1 0 0 17) s m #[.ref x0, (.ref (kq)), (.int (hv)), .ref vo] below meth c s₁ [] 0 0 := Stand.of_body Bd
 have e0 : s₁.heap = h0 := by rw [← hh, Bd.state]; rfl
 show own_G _ _ _ _ (s₁.setTop (entryFrame m #[.ref x0, (.ref (kq)), (.int (hv)), .ref vo] 4))
 refine goo (fun _ k => castTop (ef_22_RRIR m x0 (kq) (hv) vo) k) ?_
 have N0 := Fr.nil n0
 have KP0 := Keep.refl h0 [x0, bk, ky, vl, hs, ch]
 refine goo (fun _ k => XS.aloadN X0.here hx rfl (hb hby d22_0) rfl rfl <| XS.aloadN X0.here hx rfl (hb hby d22_1) rfl rfl <| XS.iloadN X0.here hx rfl (hb hby d22_2) rfl <| XS.aloadN X0.here hx rfl (hb hby d22_3) rfl rfl k) ?_
 obtain ⟨cq'0, kq'0, q'0a, q'0b, q'0c⟩ := isOf hZ e0 p0_
 obtain ⟨cp'0, cq'1, cq'2⟩ := p0_.cell
 obtain ⟨_, _, ⟨T'0, L'0, k'0, n'0⟩, -, X'0, ⟨Lc'0, hQ'0, l'0, y'0, z'0⟩, st'0⟩ := own_privB X0 hx (y := Y18) hown (mvT hZ (qw hw 137 rfl)) (mvT hZ (qw hw 138 rfl)) (mvT hZ (qw hw 54 rfl)) (Cond.privateMethod_at (mvP hZ (qw hw 139 rfl) (args := #[]))) (mvT hZ (qw hw 140 rfl)) (by decide) (backOf (W := 0) (rm_pl_0_0 l Z a0 hw [] x0 vo bk ky vl hs ch k1 k2 k3 k4 k5 kq kv hc hv h0 n0 Z0 p0_ p1_ p2_ p3_ p4_ p5_ p6_ p7_ p8_ p9_ p10_ p11_ p12_ p13_ p14_ p15_ p16_ p17_ p18_ p19_ p20_ p21_ p22_ p23_ p24_ p25_ p26_ p27_ p28_ p29_ p30_ p31_ p32_ p33_ p34_ p35_ p36_ p37_ p38_ p39_) hZ (qw hw 140 rfl) (qw hw 55 rfl) (by decide) (by decide)) (g := (mkF m 4 #[rv x0, rv kq, iv hv, rv vo] [.ref vo, .int hv, .ref kq, .ref x0])) rfl (by rw [hml]; rfl) (a := x0) (by rw [e0]; exact cq'1) cq'2 (argsL := [.ref kq, .int hv, .ref vo]) (rest := []) (lenOf own_pd8 rfl) rfl (Nat.le_of_eq rfl) (hb hby d22_4) (fun _ _ => ⟨rfl, e0, (by decide : 0 + 0 ≤ _), (by decide : 0 + 0 ≤ _)⟩)
 dsimp only [Pt.U, Pt.locs, Pt.cells, Pt.slots] at X'0 l'0 y'0 z'0 st'0 hQ'0
 subst l'0 y'0 z'0
 obtain ⟨rfl, Nq'0, K'0, G_3, G_4, G_5⟩ := hQ'0
 have KP_6 : Keep h0 T'0.heap [x0, bk, ky, vl, hs, ch] := KP0.trans K'0 (allS (Or.inl (List.mem_of_getElem? (i := 0) rfl)) (allS (Or.inl (List.mem_of_getElem? (i := 1) rfl)) (allS (Or.inl (List.mem_of_getElem? (i := 2) rfl)) (allS (Or.inl (List.mem_of_getElem? (i := 3) rfl)) (allS (Or.inl (List.mem_of_getElem? (i := 4) rfl)) (allS (Or.inl (List.mem_of_getElem? (i := 5) rfl)) all0))))))
 have N_0 := Fr.app N0 Nq'0
 refine goo (fun _ k => st'0.trans k) ?_
 show own_G _ _ _ _ (T'0.setTop (mkF m 7 #[rv x0, rv kq, iv hv, rv vo] []))
 refine goo (fun _ k => XS.aloadN X'0.here hx rfl (hb hby d22_7) rfl rfl <| XS.dup X'0.here hx rfl (hb hby d22_8) rfl rfl k) ?_
 obtain ⟨T'7, X'7, e'7, st'7⟩ := getF X'0 hx hZ hown (host := "") (Or.inl (qw hw 142 rfl)) Via.refl rfl G_4 (g := (mkF m 9 #[rv x0, rv kq, iv hv, rv vo] [.ref x0, .ref x0])) rfl rfl (hb hby d22_9)
 refine goo st'7 ?_
 refine goo (fun _ k => XS.iconst X'7.here hx rfl (hb hby d22_12) <| XS.iadd X'7.here hx rfl (hb hby d22_13) rfl k) ?_
 obtain ⟨T'8, h'8, X'8, e'8, W'8, st'8⟩ := putF X'7 hx hZ hown (host := "") (Or.inl (qw hw 142 rfl)) Via.refl e'7 G_4 G_3 (Or.inl (qw hw 143 rfl)) (qw hw 54 rfl) (ty := .int) (by decide) rfl rfl (g := (mkF m 14 #[rv x0, rv kq, iv hv, rv vo] [.int i_1, .ref x0])) rfl rfl (hb hby d22_14)
 have X_9 := G_3.wr W'8
 have F_a := G_5.other W'8 (Or.inr (slot_ne (Or.inl (qw hw 145 rfl)) (Or.inl (qw hw 143 rfl)) (by decide) (t := .boolean) (t' := .int) (by decide) (by decide)))
 have KP_b : Keep h0 h'8 [x0, bk, ky, vl, hs, ch] := KP_6.wr W'8 (Or.inl (List.mem_of_getElem? (i := 0) rfl))
 have N_8 := Fr.snoc X'8 N_0 p14_
 refine goo st'8 ?_
 show own_G _ _ _ _ (T'8.setTop (mkF m 17 #[rv x0, rv kq, iv hv, rv vo] []))
 refine goo (fun _ k => XS.aloadN X'8.here hx rfl (hb hby d22_17) rfl rfl <| XS.iconst X'8.here hx rfl (hb hby d22_18) k) ?_
 obtain ⟨T'c, h'c, X'c, e'c, W'c, st'c⟩ := putFN X'8 hx hZ hown (qw hw 144 rfl) Via.refl e'8 F_a X_9 (Or.inl (qw hw 145 rfl)) (qw hw 54 rfl) (ty := .boolean) (v' := .int i_0) (by decide) rfl (by decide) (g := (mkF m 19 #[rv x0, rv kq, iv hv, rv vo] [.int i_0, .ref x0])) rfl rfl (hb hby d22_19)
 have KP_d : Keep h0 h'c [x0, bk, ky, vl, hs, ch] := KP_b.wr W'c (Or.inl (List.mem_of_getElem? (i := 0) rfl))
 have N_c := Fr.snoc X'c N_8 p14_
 refine goo st'c ?_
 show own_G _ _ _ _ (T'c.setTop (mkF m 22 #[rv x0, rv kq, iv hv, rv vo] []))
 exact own_end X'c Bd.notSynchronized (v := none) (fun _ => rfl) (Q := Q_rm_ad_0_0 Z x0 vo bk ky vl hs ch k1 k2 k3 k4 k5 kq kv hc hv h0 n0) (by show Q_rm_ad_0_0 Z x0 vo bk ky vl hs ch k1 k2 k3 k4 k5 kq kv hc hv h0 n0 (none) T'c.heap _; rw [e'c]; exact ⟨rfl, N_c, KP_d⟩) (fun fs hr => X'c.returnOut hx Bd.returns (hb hby d22_22) hr) (by decide) (by decide)
def Q_rm_pu_0_0 (Z : State) (x0 : Addr) (vo : Addr) (bk ky vl hs ch : Addr) (k1 k2 k3 k4 k5 : ClassId) (kq : Addr) (kv : Int64) (hc hv : Int32) (h0 : Heap) (n0 : Nat) (v : Option Value) (h : Heap) (L : List Loc) : Prop := v = none ∧ Fr n0 L ∧ Keep h0 h [x0, bk, ky, vl, hs, ch]
theorem own_pd9 : parseMethodDescriptor "(Ljava/lang/Object;)I" = some ⟨[(.object "java/lang/Object")], some .int⟩ := by decide +kernel
theorem d15_0 : decode prog_46_method_5_code 0 = .ok (.aload_n 0, 1) := by decide +kernel
theorem d15_1 : decode prog_46_method_5_code 1 = .ok (.aload_n 1, 1) := by decide +kernel
theorem d15_2 : decode prog_46_method_5_code 2 = .ok (.invokevirtual 28, 3) := by decide +kernel
theorem d15_5 : decode prog_46_method_5_code 5 = .ok (.istore_n 3, 1) := by decide +kernel
theorem d15_6 : decode prog_46_method_5_code 6 = .ok (.iload_n 3, 1) := by decide +kernel
theorem d15_7 : decode prog_46_method_5_code 7 = .ok (.ifCond .ge 59, 3) := by decide +kernel
theorem d15_10 : decode prog_46_method_5_code 10 = .ok (.aload_n 0, 1) := by decide +kernel
theorem d15_11 : decode prog_46_method_5_code 11 = .ok (.getfield 21, 3) := by decide +kernel
theorem d15_14 : decode prog_46_method_5_code 14 = .ok (.aload_n 0, 1) := by decide +kernel
theorem d15_15 : decode prog_46_method_5_code 15 = .ok (.getfield 36, 3) := by decide +kernel
theorem d15_18 : decode prog_46_method_5_code 18 = .ok (.arraylength, 1) := by decide +kernel
theorem d15_19 : decode prog_46_method_5_code 19 = .ok (.if_icmp .ne 33, 3) := by decide +kernel
theorem d15_52 : decode prog_46_method_5_code 52 = .ok (.aload_n 0, 1) := by decide +kernel
theorem d15_53 : decode prog_46_method_5_code 53 = .ok (.aload_n 1, 1) := by decide +kernel
theorem d15_54 : decode prog_46_method_5_code 54 = .ok (.aload_n 1, 1) := by decide +kernel
theorem d15_55 : decode prog_46_method_5_code 55 = .ok (.invokevirtual 56, 3) := by decide +kernel
theorem d15_58 : decode prog_46_method_5_code 58 = .ok (.invokestatic 60, 3) := by decide +kernel
theorem d15_61 : decode prog_46_method_5_code 61 = .ok (.aload_n 2, 1) := by decide +kernel
theorem d15_62 : decode prog_46_method_5_code 62 = .ok (.invokevirtual 64, 3) := by decide +kernel
theorem d15_65 : decode prog_46_method_5_code 65 = .ok (.return_, 1) := by decide +kernel
theorem ef_15_RRR (m : MethodId) (x0 : Addr) (x1 : Addr) (x2 : Addr) : entryFrame m #[(.ref x0), (.ref x1), (.ref x2)] 4 = mkF m 0 #[.val (.ref x0), .val (.ref x1), .val (.ref x2), .unset] [] := by
  first | (simp [entryFrame, mkF, argsToLocals, Value.category]; done) | rfl
theorem rm_pu_0_0 (l : Launch) (Z : State) (a0 : Array Value) (hw : own_HW a0 Z) (ws : List Jvm.Cond) (x0 : Addr) (vo : Addr) (bk ky vl hs ch : Addr) (k1 k2 k3 k4 k5 : ClassId) (kq : Addr) (kv : Int64) (hc hv : Int32) (h0 : Heap) (n0 : Nat) (Z0 : n0 ≤ h0.size) (p0_ : Exa Z h0 x0 s_0) (p1_ : Fld Z h0 x0 s_0 "buckets" "[I" (.ref bk)) (p2_ : Fld Z h0 x0 s_0 "keys" "[Ljava/lang/Object;" (.ref ky)) (p3_ : Fld Z h0 x0 s_0 "values" "[Ljava/lang/Object;" (.ref vl)) (p4_ : Fld Z h0 x0 s_0 "hashes" "[I" (.ref hs)) (p5_ : Fld Z h0 x0 s_0 "chain" "[I" (.ref ch)) (p6_ : Fld Z h0 x0 s_0 "size" "I" (.int i_0)) (p7_ : Fld Z h0 x0 s_0 "count" "I" (.int i_0)) (p8_ : Fld Z h0 x0 s_0 "emptied" "Z" (.int i_0)) (p9_ : Arv Z h0 bk k1 .int i_4 [(.int (-1 : Int32)), (.int (-1 : Int32)), (.int (-1 : Int32)), (.int (-1 : Int32))] (.int i_0)) (p10_ : Arv Z h0 ky k2 (.object s_2) i_4 [.null, .null, .null, .null] .null) (p11_ : Arv Z h0 vl k3 (.object s_2) i_4 [.null, .null, .null, .null] .null) (p12_ : Arv Z h0 hs k4 .int i_4 [.int i_0, .int i_0, .int i_0, .int i_0] (.int i_0)) (p13_ : Arv Z h0 ch k5 .int i_4 [.int i_0, .int i_0, .int i_0, .int i_0] (.int i_0)) (p14_ : n0 ≤ x0) (p15_ : n0 ≤ bk) (p16_ : n0 ≤ ky) (p17_ : n0 ≤ vl) (p18_ : n0 ≤ hs) (p19_ : n0 ≤ ch) (p20_ : x0 ≠ bk) (p21_ : x0 ≠ ky) (p22_ : x0 ≠ vl) (p23_ : x0 ≠ hs) (p24_ : x0 ≠ ch) (p25_ : bk ≠ ky) (p26_ : bk ≠ vl) (p27_ : bk ≠ hs) (p28_ : bk ≠ ch) (p29_ : ky ≠ vl) (p30_ : ky ≠ hs) (p31_ : ky ≠ ch) (p32_ : vl ≠ hs) (p33_ : vl ≠ ch) (p34_ : hs ≠ ch) (p35_ : Ovr Z k2 s_2) (p36_ : Ovr Z k3 s_2) (p37_ : Exa Z h0 kq s_3) (p38_ : Fld Z Z.heap kq s_3 "value" "J" (.long kv)) (p39_ : F18 kv = hc) (p40_ : own_sp hc = hv) (p41_ : Exa Z h0 vo s_3) (p42_ : hv &&& i_3 = i_0) (p43_ : Old Z n0 h0)  :
  MetFree l Y20 (head1 (Jvm.Cond.code Y20 prog_46_method_5_code 4 none :: ws) (rr 3 0 0 40)) (fun a U => a = #[.ref x0, (.ref (kq)), .ref vo] ∧ Z.Warmed39 U.vm ∧ U.heap = h0) (fun _ _ _ _ _ => True) (fun _ U o U' => ∃ v L, o = .returned v ∧ Q_rm_pu_0_0 Z x0 vo bk ky vl hs ch k1 k2 k3 k4 k5 kq kv hc hv h0 n0 v U'.heap L ∧ FrameEnd U o U' L (rr 3 0 0 40).cells (rr 3 0 0 40).slots) := by
 refine MetFree.of_bodySF (plainFor_of_name own_pn1) hisR ?_
 intro p e s m args below meth c s₁ Bd hml0 hP hK
 obtain ⟨rfl, hZ, hh⟩ := hP
 have hx := Bd.exec
 have hby := Bd.bytes
 have hml : c.maxLocals = 4 := hml0
 have hown : s.vm.findClass s_0 = some m.cls := findClass_of_methodNamed Bd.named
 have hnm := (name_of_methodNamed Bd.named Bd.method).1
 have X0 : Stand p l e (rr 3 0 0 40) s m #[.ref x0, (.ref (kq)), .ref vo] below meth c s₁ [] 0 0 := Stand.of_body Bd
 have e0 : s₁.heap = h0 := by rw [← hh, Bd.state]; rfl
 show own_G _ _ _ _ (s₁.setTop (entryFrame m #[.ref x0, (.ref (kq)), .ref vo] 4))
 refine goo (fun _ k => castTop (ef_15_RRR m x0 (kq) vo) k) ?_
 have N0 := Fr.nil n0
 have KP0 := Keep.refl h0 [x0, bk, ky, vl, hs, ch]
 refine goo (fun _ k => XS.aloadN X0.here hx rfl (hb hby d15_0) rfl rfl <| XS.aloadN X0.here hx rfl (hb hby d15_1) rfl rfl k) ?_
 obtain ⟨cq'0, kq'0, q'0a, q'0b, q'0c⟩ := isOf hZ e0 p0_
 obtain ⟨cp'0, cq'1, cq'2⟩ := p0_.cell
 obtain ⟨_, _, ⟨T'0, L'0, k'0, n'0⟩, -, X'0, ⟨Lc'0, hQ'0, l'0, y'0, z'0⟩, st'0⟩ := own_privB X0 hx (y := Y16) hown (mvT hZ (qw hw 108 rfl)) (mvT hZ (qw hw 109 rfl)) (mvT hZ (qw hw 54 rfl)) (Cond.privateMethod_at (mvP hZ (qw hw 110 rfl) (args := #[]))) (mvT hZ (qw hw 111 rfl)) (by decide) (backOf (W := 0) (rm_en_0_0 l Z a0 hw [] x0 bk ky vl hs ch k1 k2 k3 k4 k5 kq kv hc hv h0 n0 Z0 p0_ p1_ p2_ p3_ p4_ p5_ p6_ p7_ p8_ p9_ p10_ p11_ p12_ p13_ p37_ p38_ p39_ p40_ p42_ p43_) hZ (qw hw 111 rfl) (qw hw 55 rfl) (by decide) (by decide)) (g := (mkF m 2 #[rv x0, rv kq, rv vo, .unset] [.ref kq, .ref x0])) rfl (by rw [hml]; rfl) (a := x0) (by rw [e0]; exact cq'1) cq'2 (argsL := [.ref kq]) (rest := []) (lenOf own_pd9 rfl) rfl (Nat.le_of_eq rfl) (hb hby d15_2) (fun _ _ => ⟨rfl, e0, (by decide : 0 + 0 ≤ _), (by decide : 0 + 0 ≤ _)⟩)
 dsimp only [Pt.U, Pt.locs, Pt.cells, Pt.slots] at X'0 l'0 y'0 z'0 st'0 hQ'0
 subst l'0 y'0 z'0
 obtain ⟨rfl, Nq'0, K'0⟩ := hQ'0
 have X_3 := p0_.keep K'0
 have F_4 := p1_.keep K'0 nin0
 have F_5 := p2_.keep K'0 nin0
 have F_6 := p3_.keep K'0 nin0
 have F_7 := p4_.keep K'0 nin0
 have F_8 := p5_.keep K'0 nin0
 have F_9 := p6_.keep K'0 nin0
 have F_a := p7_.keep K'0 nin0
 have F_b := p8_.keep K'0 nin0
 have V_c := p9_.keep K'0 nin0
 have V_d := p10_.keep K'0 nin0
 have V_e := p11_.keep K'0 nin0
 have V_f := p12_.keep K'0 nin0
 have V_g := p13_.keep K'0 nin0
 have X_h := p37_.keep K'0
 have X_i := p41_.keep K'0
 have Old_j := p43_.keep K'0 all0
 have Z_k : n0 ≤ T'0.heap.size := Nat.le_trans Z0 K'0.1
 have KP_l : Keep h0 T'0.heap [x0, bk, ky, vl, hs, ch] := KP0.trans K'0 all0
 have N_0 := Fr.app N0 Nq'0
 refine goo (fun _ k => st'0.trans k) ?_
 refine goo (fun _ k => XS.istoreN X'0.here hx rfl (hb hby d15_5) rfl (l' := #[rv x0, rv kq, rv vo, iv (-1 : Int32)]) rfl <| XS.iloadN X'0.here hx rfl (hb hby d15_6) rfl k) ?_
 show own_G _ _ _ _ (T'0.setTop (mkF m 7 #[rv x0, rv kq, rv vo, iv (-1 : Int32)] [(.int (-1 : Int32))]))
 refine goo (fun _ k => XS.ifNo X'0.here hx rfl (hb hby d15_7) rfl (((if0 _ _).trans (tlt (by decide : (-1 : Int32) < i_0)).2.1)) <| XS.aloadN X'0.here hx rfl (hb hby d15_10) rfl rfl k) ?_
 obtain ⟨T'm, X'm, e'm, st'm⟩ := getF X'0 hx hZ hown (host := "") (Or.inl (qw hw 99 rfl)) Via.refl rfl F_9 (g := (mkF m 11 #[rv x0, rv kq, rv vo, iv (-1 : Int32)] [.ref x0])) rfl rfl (hb hby d15_11)
 refine goo st'm ?_
 refine goo (fun _ k => XS.aloadN X'm.here hx rfl (hb hby d15_14) rfl rfl k) ?_
 obtain ⟨T'n, X'n, e'n, st'n⟩ := getF X'm hx hZ hown (host := "") (Or.inl (qw hw 91 rfl)) Via.refl e'm F_5 (g := (mkF m 15 #[rv x0, rv kq, rv vo, iv (-1 : Int32)] [.ref x0, .int i_0])) rfl rfl (hb hby d15_15)
 refine goo st'n ?_
 obtain ⟨cl480, Ar480, -, S480, N480, -, -⟩ := id V_d
 refine goo (fun _ k => X'n.arraylength hx (cell := cl480) (by rw [e'n]; exact Ar480.1) (State.isArrayOf_alike hZ.alike Ar480.2.1) (g := (mkF m 18 #[rv x0, rv kq, rv vo, iv (-1 : Int32)] [.ref ky, .int i_0])) rfl rfl (hb hby d15_18) _ (by rw [len_of S480 N480]; exact k)) ?_
 show own_G _ _ _ _ (T'n.setTop (mkF m 19 #[rv x0, rv kq, rv vo, iv (-1 : Int32)] [.int i_4, .int i_0]))
 refine goo (fun _ k => XS.icmpYes X'n.here hx rfl (pc0 := 19) (pc' := 52) rfl (hb hby d15_19) rfl ((feq (by decide : ¬ (i_0 = i_4))).2) (by decide) (by decide) <| XS.aloadN X'n.here hx rfl (hb hby d15_52) rfl rfl <| XS.aloadN X'n.here hx rfl (hb hby d15_53) rfl rfl <| XS.aloadN X'n.here hx rfl (hb hby d15_54) rfl rfl k) ?_
 obtain ⟨T'o, X'o, e'o, st'o⟩ := own_callVz X'n hx hZ (y := Y17) (z := Y12) hown (qw hw 112 rfl) (qw hw 113 rfl) (own_nf2 (args := #[]) (mvT hZ (qw hw 177 rfl)) rfl) (qw hw 115 rfl) (qw hw 116 rfl) (qw hw 3 rfl) (qw hw 117 rfl) (by decide) (W := 2) (rm17 l Z a0 hw [] kq kv hc T'0.heap (p38_.ext Old_j.2) p39_) (by decide) (by decide) rfl rfl e'n X_h (g := (mkF m 55 #[rv x0, rv kq, rv vo, iv (-1 : Int32)] [.ref kq, .ref kq, .ref x0])) rfl (by rw [hml]; rfl) (argsL := []) (rest := [.ref kq, .ref x0]) (lenOf own_pd5 rfl) rfl rfl (Nat.le_of_eq rfl) (hb hby d15_55) (by decide) (by decide)
 refine goo st'o ?_
 obtain ⟨T'p, X'p, e'p, st'p⟩ := own_callP X'o hx hZ (y := Y10) hown (qw hw 121 rfl) (qw hw 122 rfl) (qw hw 55 rfl) (qw hw 123 rfl) (by decide) (W := 2) (rm19 l Z a0 hw [] hc hv T'0.heap p40_) (by decide) (by decide) rfl rfl e'o (g := (mkF m 58 #[rv x0, rv kq, rv vo, iv (-1 : Int32)] [.int hc, .ref kq, .ref x0])) rfl (by rw [hml]; rfl) (argsL := [.int hc]) (rest := [.ref kq, .ref x0]) (lenOf own_pd0 rfl) rfl rfl (Nat.le_of_eq rfl) (hb hby d15_58) (by decide) (by decide)
 refine goo st'p ?_
 show own_G _ _ _ _ (T'p.setTop (mkF m 61 #[rv x0, rv kq, rv vo, iv (-1 : Int32)] [.int hv, .ref kq, .ref x0]))
 refine goo (fun _ k => XS.aloadN X'p.here hx rfl (hb hby d15_61) rfl rfl k) ?_
 obtain ⟨cq'q, kq'q, q'qa, q'qb, q'qc⟩ := isOf hZ e'p X_3
 obtain ⟨cp'q, cq'r, cq's⟩ := X_3.cell
 obtain ⟨_, _, ⟨T'q, L'q, k'q, n'q⟩, -, X'q, ⟨Lc'q, hQ'q, l'q, y'q, z'q⟩, st'q⟩ := own_privB X'p hx (y := Y19) hown (mvT hZ (qw hw 133 rfl)) (mvT hZ (qw hw 134 rfl)) (mvT hZ (qw hw 54 rfl)) (Cond.privateMethod_at (mvP hZ (qw hw 135 rfl) (args := #[]))) (mvT hZ (qw hw 136 rfl)) (by decide) (backOf (W := 0) (rm_ad_0_0 l Z a0 hw [] x0 vo bk ky vl hs ch k1 k2 k3 k4 k5 kq kv hc hv T'0.heap n0 Z_k X_3 F_4 F_5 F_6 F_7 F_8 F_9 F_a F_b V_c V_d V_e V_f V_g p14_ p15_ p16_ p17_ p18_ p19_ p20_ p21_ p22_ p23_ p24_ p25_ p26_ p27_ p28_ p29_ p30_ p31_ p32_ p33_ p34_ p35_ p36_ X_h p42_ X_i) hZ (qw hw 136 rfl) (qw hw 55 rfl) (by decide) (by decide)) (g := (mkF m 62 #[rv x0, rv kq, rv vo, iv (-1 : Int32)] [.ref vo, .int hv, .ref kq, .ref x0])) rfl (by rw [hml]; rfl) (a := x0) (by rw [e'p]; exact cq'r) cq's (argsL := [.ref kq, .int hv, .ref vo]) (rest := []) (lenOf own_pd8 rfl) rfl (Nat.le_of_eq rfl) (hb hby d15_62) (fun _ _ => ⟨rfl, e'p, (by decide : 0 + 0 ≤ _), (by decide : 0 + 0 ≤ _)⟩)
 dsimp only [Pt.U, Pt.locs, Pt.cells, Pt.slots] at X'q l'q y'q z'q st'q hQ'q
 subst l'q y'q z'q
 obtain ⟨rfl, Nq'q, K'q⟩ := hQ'q
 have KP_t : Keep h0 T'q.heap [x0, bk, ky, vl, hs, ch] := KP_l.trans K'q (allS (Or.inl (List.mem_of_getElem? (i := 0) rfl)) (allS (Or.inl (List.mem_of_getElem? (i := 1) rfl)) (allS (Or.inl (List.mem_of_getElem? (i := 2) rfl)) (allS (Or.inl (List.mem_of_getElem? (i := 3) rfl)) (allS (Or.inl (List.mem_of_getElem? (i := 4) rfl)) (allS (Or.inl (List.mem_of_getElem? (i := 5) rfl)) all0))))))
 have N_q := Fr.app N_0 Nq'q
 refine goo (fun _ k => st'q.trans k) ?_
 show own_G _ _ _ _ (T'q.setTop (mkF m 65 #[rv x0, rv kq, rv vo, iv (-1 : Int32)] []))
 exact own_end X'q Bd.notSynchronized (v := none) (fun _ => rfl) (Q := Q_rm_pu_0_0 Z x0 vo bk ky vl hs ch k1 k2 k3 k4 k5 kq kv hc hv h0 n0) (by show Q_rm_pu_0_0 Z x0 vo bk ky vl hs ch k1 k2 k3 k4 k5 kq kv hc hv h0 n0 (none) T'q.heap _; exact ⟨rfl, N_q, KP_t⟩) (fun fs hr => X'q.returnOut hx Bd.returns (hb hby d15_65) hr) (by decide) (by decide)
def Q_rm_he_0_1 (Z : State) (x0 : Addr) (bk ky vl hs ch : Addr) (k1 k2 k3 k4 k5 : ClassId) (kq : Addr) (kv : Int64) (hc hv : Int32) (h0 : Heap) (n0 : Nat) (v : Option Value) (h : Heap) (L : List Loc) : Prop := v = some (.int (-1 : Int32)) ∧ Fr n0 L ∧ Keep h0 h []
theorem rm_he_0_1 (l : Launch) (Z : State) (a0 : Array Value) (hw : own_HW a0 Z) (ws : List Jvm.Cond) (x0 : Addr) (bk ky vl hs ch : Addr) (k1 k2 k3 k4 k5 : ClassId) (kq : Addr) (kv : Int64) (hc hv : Int32) (h0 : Heap) (n0 : Nat) (Z0 : n0 ≤ h0.size) (p0_ : Exa Z h0 x0 s_0) (p1_ : Fld Z h0 x0 s_0 "buckets" "[I" (.ref bk)) (p2_ : Fld Z h0 x0 s_0 "keys" "[Ljava/lang/Object;" (.ref ky)) (p3_ : Fld Z h0 x0 s_0 "values" "[Ljava/lang/Object;" (.ref vl)) (p4_ : Fld Z h0 x0 s_0 "hashes" "[I" (.ref hs)) (p5_ : Fld Z h0 x0 s_0 "chain" "[I" (.ref ch)) (p6_ : Fld Z h0 x0 s_0 "size" "I" (.int i_0)) (p7_ : Fld Z h0 x0 s_0 "count" "I" (.int i_0)) (p8_ : Fld Z h0 x0 s_0 "emptied" "Z" (.int i_0)) (p9_ : Arv Z h0 bk k1 .int i_4 [(.int (-1 : Int32)), (.int (-1 : Int32)), (.int (-1 : Int32)), (.int (-1 : Int32))] (.int i_0)) (p10_ : Arv Z h0 ky k2 (.object s_2) i_4 [.null, .null, .null, .null] .null) (p11_ : Arv Z h0 vl k3 (.object s_2) i_4 [.null, .null, .null, .null] .null) (p12_ : Arv Z h0 hs k4 .int i_4 [.int i_0, .int i_0, .int i_0, .int i_0] (.int i_0)) (p13_ : Arv Z h0 ch k5 .int i_4 [.int i_0, .int i_0, .int i_0, .int i_0] (.int i_0)) (p14_ : hv &&& i_3 = i_1)  :
  MetFree l Y15 (head1 (Jvm.Cond.code Y15 prog_46_method_14_code 5 (some .int) :: ws) (rr 0 0 0 0)) (fun a U => a = #[.ref x0, (.ref (kq)), (.int (hv))] ∧ Z.Warmed39 U.vm ∧ U.heap = h0) (fun _ _ _ _ _ => True) (fun _ U o U' => ∃ v L, o = .returned v ∧ Q_rm_he_0_1 Z x0 bk ky vl hs ch k1 k2 k3 k4 k5 kq kv hc hv h0 n0 v U'.heap L ∧ FrameEnd U o U' L (rr 0 0 0 0).cells (rr 0 0 0 0).slots) := by
 refine MetFree.of_bodySF (plainFor_of_name own_pn1) hisR ?_
 intro p e s m args below meth c s₁ Bd hml0 hP hK
 obtain ⟨rfl, hZ, hh⟩ := hP
 have hx := Bd.exec
 have hby := Bd.bytes
 have hml : c.maxLocals = 5 := hml0
 have hown : s.vm.findClass s_0 = some m.cls := findClass_of_methodNamed Bd.named
 have hnm := (name_of_methodNamed Bd.named Bd.method).1
 have X0 : Stand p l e (rr 0 0 0 0) s m #[.ref x0, (.ref (kq)), (.int (hv))] below meth c s₁ [] 0 0 := Stand.of_body Bd
 have e0 : s₁.heap = h0 := by rw [← hh, Bd.state]; rfl
 show own_G _ _ _ _ (s₁.setTop (entryFrame m #[.ref x0, (.ref (kq)), (.int (hv))] 5))
 refine goo (fun _ k => castTop (ef_20_RRI m x0 (kq) (hv)) k) ?_
 have N0 := Fr.nil n0
 have KP0 := Keep.refl h0 []
 refine goo (fun _ k => XS.aloadN X0.here hx rfl (hb hby d20_0) rfl rfl k) ?_
 obtain ⟨T'0, X'0, e'0, st'0⟩ := getF X0 hx hZ hown (host := "") (Or.inl (qw hw 83 rfl)) Via.refl e0 p1_ (g := (mkF m 1 #[rv x0, rv kq, iv hv, .unset, .unset] [.ref x0])) rfl rfl (hb hby d20_1)
 refine goo st'0 ?_
 refine goo (fun _ k => XS.iloadN X'0.here hx rfl (hb hby d20_4) rfl <| XS.aloadN X'0.here hx rfl (hb hby d20_5) rfl rfl k) ?_
 obtain ⟨T'1, X'1, e'1, st'1⟩ := getF X'0 hx hZ hown (host := "") (Or.inl (qw hw 83 rfl)) Via.refl e'0 p1_ (g := (mkF m 6 #[rv x0, rv kq, iv hv, .unset, .unset] [.ref x0, .int hv, .ref bk])) rfl rfl (hb hby d20_6)
 refine goo st'1 ?_
 show own_G _ _ _ _ (T'1.setTop (mkF m 9 #[rv x0, rv kq, iv hv, .unset, .unset] [.ref bk, .int hv, .ref bk]))
 obtain ⟨cl492, Ar492, -, S492, N492, -, -⟩ := id p9_
 refine goo (fun _ k => X'1.arraylength hx (cell := cl492) (by rw [e'1]; exact Ar492.1) (State.isArrayOf_alike hZ.alike Ar492.2.1) (g := (mkF m 9 #[rv x0, rv kq, iv hv, .unset, .unset] [.ref bk, .int hv, .ref bk])) rfl rfl (hb hby d20_9) _ (by rw [len_of S492 N492]; exact k)) ?_
 refine goo (fun _ k => XS.iconst X'1.here hx rfl (hb hby d20_10) <| XS.isub X'1.here hx rfl (hb hby d20_11) rfl <| XS.iand X'1.here hx rfl (hb hby d20_12) rfl k) ?_
 show own_G _ _ _ _ (T'1.setTop (mkF m 13 #[rv x0, rv kq, iv hv, .unset, .unset] [(.int (hv &&& i_3)), .ref bk]))
 rw [p14_]
 obtain ⟨cl493, Ar493, -, S493, -, H493, -⟩ := id p9_
 have hin493 := inb_of S493 (j := i_1) ⟨by decide, by decide⟩
 refine goo (fun _ k => X'1.iaload hx (j := i_1) (v := (.int (-1 : Int32))) (by rw [e'1]; exact Ar493.1) (State.isArrayOf_alike hZ.alike Ar493.2.1) Ar493.2.2 hin493 (H493.at hin493 rfl) (g := (mkF m 13 #[rv x0, rv kq, iv hv, .unset, .unset] [.int i_1, .ref bk])) rfl rfl (hb hby d20_13) _ k) ?_
 refine goo (fun _ k => XS.istoreN X'1.here hx rfl (hb hby d20_14) rfl (l' := #[rv x0, rv kq, iv hv, iv (-1 : Int32), .unset]) rfl <| XS.iloadN X'1.here hx rfl (hb hby d20_15) rfl <| XS.ifYes X'1.here hx rfl (pc0 := 16) (pc' := 69) rfl (hb hby d20_16) rfl (((if0 _ _).trans (tlt (by decide : (-1 : Int32) < i_0)).1)) (by decide) (by decide) <| XS.iconst X'1.here hx rfl (hb hby d20_69) k) ?_
 show own_G _ _ _ _ (T'1.setTop (mkF m 70 #[rv x0, rv kq, iv hv, iv (-1 : Int32), .unset] [(.int (-1 : Int32))]))
 exact own_end X'1 Bd.notSynchronized (v := some (.int (-1 : Int32))) (fun h => by rw [Bd.returns] at h; cases h) (Q := Q_rm_he_0_1 Z x0 bk ky vl hs ch k1 k2 k3 k4 k5 kq kv hc hv h0 n0) (by show Q_rm_he_0_1 Z x0 bk ky vl hs ch k1 k2 k3 k4 k5 kq kv hc hv h0 n0 (some (.int (-1 : Int32))) T'1.heap _; rw [e'1]; exact ⟨rfl, N0, KP0⟩) (fun fs hr => retI X'1 hx Bd.returns (hb hby d20_70) hr) (by decide) (by decide)
def Q_rm_en_0_1 (Z : State) (x0 : Addr) (bk ky vl hs ch : Addr) (k1 k2 k3 k4 k5 : ClassId) (kq : Addr) (kv : Int64) (hc hv : Int32) (h0 : Heap) (n0 : Nat) (v : Option Value) (h : Heap) (L : List Loc) : Prop := v = some (.int (-1 : Int32)) ∧ Fr n0 L ∧ Keep h0 h []
theorem rm_en_0_1 (l : Launch) (Z : State) (a0 : Array Value) (hw : own_HW a0 Z) (ws : List Jvm.Cond) (x0 : Addr) (bk ky vl hs ch : Addr) (k1 k2 k3 k4 k5 : ClassId) (kq : Addr) (kv : Int64) (hc hv : Int32) (h0 : Heap) (n0 : Nat) (Z0 : n0 ≤ h0.size) (p0_ : Exa Z h0 x0 s_0) (p1_ : Fld Z h0 x0 s_0 "buckets" "[I" (.ref bk)) (p2_ : Fld Z h0 x0 s_0 "keys" "[Ljava/lang/Object;" (.ref ky)) (p3_ : Fld Z h0 x0 s_0 "values" "[Ljava/lang/Object;" (.ref vl)) (p4_ : Fld Z h0 x0 s_0 "hashes" "[I" (.ref hs)) (p5_ : Fld Z h0 x0 s_0 "chain" "[I" (.ref ch)) (p6_ : Fld Z h0 x0 s_0 "size" "I" (.int i_0)) (p7_ : Fld Z h0 x0 s_0 "count" "I" (.int i_0)) (p8_ : Fld Z h0 x0 s_0 "emptied" "Z" (.int i_0)) (p9_ : Arv Z h0 bk k1 .int i_4 [(.int (-1 : Int32)), (.int (-1 : Int32)), (.int (-1 : Int32)), (.int (-1 : Int32))] (.int i_0)) (p10_ : Arv Z h0 ky k2 (.object s_2) i_4 [.null, .null, .null, .null] .null) (p11_ : Arv Z h0 vl k3 (.object s_2) i_4 [.null, .null, .null, .null] .null) (p12_ : Arv Z h0 hs k4 .int i_4 [.int i_0, .int i_0, .int i_0, .int i_0] (.int i_0)) (p13_ : Arv Z h0 ch k5 .int i_4 [.int i_0, .int i_0, .int i_0, .int i_0] (.int i_0)) (p14_ : Exa Z h0 kq s_3) (p15_ : Fld Z Z.heap kq s_3 "value" "J" (.long kv)) (p16_ : F18 kv = hc) (p17_ : own_sp hc = hv) (p18_ : hv &&& i_3 = i_1) (p19_ : Old Z n0 h0)  :
  MetFree l Y16 (head1 (Jvm.Cond.code Y16 prog_46_method_12_code 4 (some .int) :: ws) (rr 2 0 0 25)) (fun a U => a = #[.ref x0, (.ref (kq))] ∧ Z.Warmed39 U.vm ∧ U.heap = h0) (fun _ _ _ _ _ => True) (fun _ U o U' => ∃ v L, o = .returned v ∧ Q_rm_en_0_1 Z x0 bk ky vl hs ch k1 k2 k3 k4 k5 kq kv hc hv h0 n0 v U'.heap L ∧ FrameEnd U o U' L (rr 2 0 0 25).cells (rr 2 0 0 25).slots) := by
 refine MetFree.of_bodySF (plainFor_of_name own_pn1) hisR ?_
 intro p e s m args below meth c s₁ Bd hml0 hP hK
 obtain ⟨rfl, hZ, hh⟩ := hP
 have hx := Bd.exec
 have hby := Bd.bytes
 have hml : c.maxLocals = 4 := hml0
 have hown : s.vm.findClass s_0 = some m.cls := findClass_of_methodNamed Bd.named
 have hnm := (name_of_methodNamed Bd.named Bd.method).1
 have X0 : Stand p l e (rr 2 0 0 25) s m #[.ref x0, (.ref (kq))] below meth c s₁ [] 0 0 := Stand.of_body Bd
 have e0 : s₁.heap = h0 := by rw [← hh, Bd.state]; rfl
 show own_G _ _ _ _ (s₁.setTop (entryFrame m #[.ref x0, (.ref (kq))] 4))
 refine goo (fun _ k => castTop (ef_16_RR m x0 (kq)) k) ?_
 have N0 := Fr.nil n0
 have KP0 := Keep.refl h0 []
 refine goo (fun _ k => XS.aloadN X0.here hx rfl (hb hby d16_0) rfl rfl k) ?_
 obtain ⟨T'0, X'0, e'0, st'0⟩ := own_callVz X0 hx hZ (y := Y17) (z := Y12) hown (qw hw 112 rfl) (qw hw 113 rfl) (own_nf2 (args := #[]) (mvT hZ (qw hw 177 rfl)) rfl) (qw hw 115 rfl) (qw hw 116 rfl) (qw hw 3 rfl) (qw hw 117 rfl) (by decide) (W := 0) (rm17 l Z a0 hw [] kq kv hc h0 (p15_.ext p19_.2) p16_) (by decide) (by decide) rfl rfl e0 p14_ (g := (mkF m 1 #[rv x0, rv kq, .unset, .unset] [.ref kq])) rfl (by rw [hml]; rfl) (argsL := []) (rest := []) (lenOf own_pd5 rfl) rfl rfl (Nat.le_of_eq rfl) (hb hby d16_1) (by decide) (by decide)
 refine goo st'0 ?_
 obtain ⟨T'1, X'1, e'1, st'1⟩ := own_callP X'0 hx hZ (y := Y10) hown (qw hw 121 rfl) (qw hw 122 rfl) (qw hw 55 rfl) (qw hw 123 rfl) (by decide) (W := 0) (rm19 l Z a0 hw [] hc hv h0 p17_) (by decide) (by decide) rfl rfl e'0 (g := (mkF m 4 #[rv x0, rv kq, .unset, .unset] [.int hc])) rfl (by rw [hml]; rfl) (argsL := [.int hc]) (rest := []) (lenOf own_pd0 rfl) rfl rfl (Nat.le_of_eq rfl) (hb hby d16_4) (by decide) (by decide)
 refine goo st'1 ?_
 refine goo (fun _ k => XS.istoreN X'1.here hx rfl (hb hby d16_7) rfl (l' := #[rv x0, rv kq, iv hv, .unset]) rfl <| XS.aloadN X'1.here hx rfl (hb hby d16_8) rfl rfl k) ?_
 show own_G _ _ _ _ (T'1.setTop (mkF m 9 #[rv x0, rv kq, iv hv, .unset] [.ref x0]))
 refine goo (fun _ k => XS.aloadN X'1.here hx rfl (hb hby d16_9) rfl rfl <| XS.iloadN X'1.here hx rfl (hb hby d16_10) rfl k) ?_
 obtain ⟨cq'2, kq'2, q'2a, q'2b, q'2c⟩ := isOf hZ e'1 p0_
 obtain ⟨cp'2, cq'3, cq'4⟩ := p0_.cell
 obtain ⟨_, _, ⟨T'2, L'2, k'2, n'2⟩, -, X'2, ⟨Lc'2, hQ'2, l'2, y'2, z'2⟩, st'2⟩ := own_privB X'1 hx (y := Y15) hown (mvT hZ (qw hw 125 rfl)) (mvT hZ (qw hw 126 rfl)) (mvT hZ (qw hw 54 rfl)) (Cond.privateMethod_at (mvP hZ (qw hw 127 rfl) (args := #[]))) (mvT hZ (qw hw 128 rfl)) (by decide) (backOf (W := 0) (rm_he_0_1 l Z a0 hw [] x0 bk ky vl hs ch k1 k2 k3 k4 k5 kq kv hc hv h0 n0 Z0 p0_ p1_ p2_ p3_ p4_ p5_ p6_ p7_ p8_ p9_ p10_ p11_ p12_ p13_ p18_) hZ (qw hw 128 rfl) (qw hw 55 rfl) (by decide) (by decide)) (g := (mkF m 11 #[rv x0, rv kq, iv hv, .unset] [.int hv, .ref kq, .ref x0])) rfl (by rw [hml]; rfl) (a := x0) (by rw [e'1]; exact cq'3) cq'4 (argsL := [.ref kq, .int hv]) (rest := []) (lenOf own_pd6 rfl) rfl (Nat.le_of_eq rfl) (hb hby d16_11) (fun _ _ => ⟨rfl, e'1, (by decide : 0 + 0 ≤ _), (by decide : 0 + 0 ≤ _)⟩)
 dsimp only [Pt.U, Pt.locs, Pt.cells, Pt.slots] at X'2 l'2 y'2 z'2 st'2 hQ'2
 subst l'2 y'2 z'2
 obtain ⟨rfl, Nq'2, K'2⟩ := hQ'2
 have X_5 := p14_.keep K'2
 have KP_6 : Keep h0 T'2.heap [] := KP0.trans K'2 all0
 have N_2 := Fr.app N0 Nq'2
 refine goo (fun _ k => st'2.trans k) ?_
 refine goo (fun _ k => XS.istoreN X'2.here hx rfl (hb hby d16_14) rfl (l' := #[rv x0, rv kq, iv hv, iv (-1 : Int32)]) rfl <| XS.iloadN X'2.here hx rfl (hb hby d16_15) rfl <| XS.ifNo X'2.here hx rfl (hb hby d16_16) rfl (((if0 _ _).trans (tlt (by decide : (-1 : Int32) < i_0)).2.1)) k) ?_
 show own_G _ _ _ _ (T'2.setTop (mkF m 19 #[rv x0, rv kq, iv hv, iv (-1 : Int32)] []))
 refine goo (fun _ k => XS.aloadN X'2.here hx rfl (hb hby d16_19) rfl rfl k) ?_
 obtain ⟨T'7, X'7, e'7, st'7⟩ := own_callP X'2 hx hZ (y := Y14) hown (qw hw 129 rfl) (qw hw 130 rfl) (qw hw 55 rfl) (qw hw 131 rfl) (by decide) (W := 0) (rm21 l Z a0 hw [] kq  T'2.heap X_5) (by decide) (by decide) rfl rfl rfl (g := (mkF m 20 #[rv x0, rv kq, iv hv, iv (-1 : Int32)] [.ref kq])) rfl (by rw [hml]; rfl) (argsL := [.ref kq]) (rest := []) (lenOf own_pd7 rfl) rfl rfl (Nat.le_of_eq rfl) (hb hby d16_20) (by decide) (by decide)
 refine goo st'7 ?_
 refine goo (fun _ k => XS.ifNo X'7.here hx rfl (hb hby d16_23) rfl (((if0 _ _).trans (feq (by decide : ¬ (i_1 = i_0))).1)) <| XS.iloadN X'7.here hx rfl (hb hby d16_26) rfl <| XS.goto X'7.here hx rfl (pc0 := 27) (pc' := 35) rfl (hb hby d16_27) (by decide) (by decide) k) ?_
 show own_G _ _ _ _ (T'7.setTop (mkF m 35 #[rv x0, rv kq, iv hv, iv (-1 : Int32)] [(.int (-1 : Int32))]))
 exact own_end X'7 Bd.notSynchronized (v := some (.int (-1 : Int32))) (fun h => by rw [Bd.returns] at h; cases h) (Q := Q_rm_en_0_1 Z x0 bk ky vl hs ch k1 k2 k3 k4 k5 kq kv hc hv h0 n0) (by show Q_rm_en_0_1 Z x0 bk ky vl hs ch k1 k2 k3 k4 k5 kq kv hc hv h0 n0 (some (.int (-1 : Int32))) T'7.heap _; rw [e'7]; exact ⟨rfl, N_2, KP_6⟩) (fun fs hr => retI X'7 hx Bd.returns (hb hby d16_35) hr) (by decide) (by decide)
def Q_rm_pl_0_1 (Z : State) (x0 : Addr) (vo : Addr) (bk ky vl hs ch : Addr) (k1 k2 k3 k4 k5 : ClassId) (kq : Addr) (kv : Int64) (hc hv : Int32) (h0 : Heap) (n0 : Nat) (v : Option Value) (h : Heap) (L : List Loc) : Prop := v = none ∧ Fr n0 L ∧ Keep h0 h [x0, bk, ky, vl, hs, ch] ∧ Exa Z h x0 s_0 ∧ Fld Z h x0 s_0 "buckets" "[I" (.ref bk) ∧ Fld Z h x0 s_0 "keys" "[Ljava/lang/Object;" (.ref ky) ∧ Fld Z h x0 s_0 "values" "[Ljava/lang/Object;" (.ref vl) ∧ Fld Z h x0 s_0 "hashes" "[I" (.ref hs) ∧ Fld Z h x0 s_0 "chain" "[I" (.ref ch) ∧ Fld Z h x0 s_0 "size" "I" (.int i_1) ∧ Fld Z h x0 s_0 "count" "I" (.int i_0) ∧ Fld Z h x0 s_0 "emptied" "Z" (.int i_0) ∧ Arv Z h bk k1 .int i_4 [(.int (-1 : Int32)), .int i_0, (.int (-1 : Int32)), (.int (-1 : Int32))] (.int i_0) ∧ Arv Z h ky k2 (.object s_2) i_4 [.ref kq, .null, .null, .null] .null ∧ Arv Z h vl k3 (.object s_2) i_4 [.ref vo, .null, .null, .null] .null ∧ Arv Z h hs k4 .int i_4 [.int hv, .int i_0, .int i_0, .int i_0] (.int i_0) ∧ Arv Z h ch k5 .int i_4 [(.int (-1 : Int32)), .int i_0, .int i_0, .int i_0] (.int i_0)
theorem rm_pl_0_1 (l : Launch) (Z : State) (a0 : Array Value) (hw : own_HW a0 Z) (ws : List Jvm.Cond) (x0 : Addr) (vo : Addr) (bk ky vl hs ch : Addr) (k1 k2 k3 k4 k5 : ClassId) (kq : Addr) (kv : Int64) (hc hv : Int32) (h0 : Heap) (n0 : Nat) (Z0 : n0 ≤ h0.size) (p0_ : Exa Z h0 x0 s_0) (p1_ : Fld Z h0 x0 s_0 "buckets" "[I" (.ref bk)) (p2_ : Fld Z h0 x0 s_0 "keys" "[Ljava/lang/Object;" (.ref ky)) (p3_ : Fld Z h0 x0 s_0 "values" "[Ljava/lang/Object;" (.ref vl)) (p4_ : Fld Z h0 x0 s_0 "hashes" "[I" (.ref hs)) (p5_ : Fld Z h0 x0 s_0 "chain" "[I" (.ref ch)) (p6_ : Fld Z h0 x0 s_0 "size" "I" (.int i_0)) (p7_ : Fld Z h0 x0 s_0 "count" "I" (.int i_0)) (p8_ : Fld Z h0 x0 s_0 "emptied" "Z" (.int i_0)) (p9_ : Arv Z h0 bk k1 .int i_4 [(.int (-1 : Int32)), (.int (-1 : Int32)), (.int (-1 : Int32)), (.int (-1 : Int32))] (.int i_0)) (p10_ : Arv Z h0 ky k2 (.object s_2) i_4 [.null, .null, .null, .null] .null) (p11_ : Arv Z h0 vl k3 (.object s_2) i_4 [.null, .null, .null, .null] .null) (p12_ : Arv Z h0 hs k4 .int i_4 [.int i_0, .int i_0, .int i_0, .int i_0] (.int i_0)) (p13_ : Arv Z h0 ch k5 .int i_4 [.int i_0, .int i_0, .int i_0, .int i_0] (.int i_0)) (p14_ : n0 ≤ x0) (p15_ : n0 ≤ bk) (p16_ : n0 ≤ ky) (p17_ : n0 ≤ vl) (p18_ : n0 ≤ hs) (p19_ : n0 ≤ ch) (p20_ : x0 ≠ bk) (p21_ : x0 ≠ ky) (p22_ : x0 ≠ vl) (p23_ : x0 ≠ hs) (p24_ : x0 ≠ ch) (p25_ : bk ≠ ky) (p26_ : bk ≠ vl) (p27_ : bk ≠ hs) (p28_ : bk ≠ ch) (p29_ : ky ≠ vl) (p30_ : ky ≠ hs) (p31_ : ky ≠ ch) (p32_ : vl ≠ hs) (p33_ : vl ≠ ch) (p34_ : hs ≠ ch) (p35_ : Ovr Z k2 s_2) (p36_ : Ovr Z k3 s_2) (p37_ : Exa Z h0 kq s_3) (p38_ : hv &&& i_3 = i_1) (p39_ : Exa Z h0 vo s_3)  :
  MetFree l Y18 (head1 (Jvm.Cond.code Y18 prog_46_method_22_code 6 none :: ws) (rr 0 0 0 0)) (fun a U => a = #[.ref x0, (.ref (kq)), (.int (hv)), .ref vo] ∧ Z.Warmed39 U.vm ∧ U.heap = h0) (fun _ _ _ _ _ => True) (fun _ U o U' => ∃ v L, o = .returned v ∧ Q_rm_pl_0_1 Z x0 vo bk ky vl hs ch k1 k2 k3 k4 k5 kq kv hc hv h0 n0 v U'.heap L ∧ FrameEnd U o U' L (rr 0 0 0 0).cells (rr 0 0 0 0).slots) := by
 refine MetFree.of_bodySF (plainFor_of_name own_pn1) hisR ?_
 intro p e s m args below meth c s₁ Bd hml0 hP hK
 obtain ⟨rfl, hZ, hh⟩ := hP
 have hx := Bd.exec
 have hby := Bd.bytes
 have hml : c.maxLocals = 6 := hml0
 have hown : s.vm.findClass s_0 = some m.cls := findClass_of_methodNamed Bd.named
 have hnm := (name_of_methodNamed Bd.named Bd.method).1
 have X0 : Stand p l e (rr 0 0 0 0) s m #[.ref x0, (.ref (kq)), (.int (hv)), .ref vo] below meth c s₁ [] 0 0 := Stand.of_body Bd
 have e0 : s₁.heap = h0 := by rw [← hh, Bd.state]; rfl
 show own_G _ _ _ _ (s₁.setTop (entryFrame m #[.ref x0, (.ref (kq)), (.int (hv)), .ref vo] 6))
 refine goo (fun _ k => castTop (ef_23_RRIR m x0 (kq) (hv) vo) k) ?_
 have N0 := Fr.nil n0
 have KP0 := Keep.refl h0 [x0, bk, ky, vl, hs, ch]
 refine goo (fun _ k => XS.aloadN X0.here hx rfl (hb hby d23_0) rfl rfl <| XS.dup X0.here hx rfl (hb hby d23_1) rfl rfl k) ?_
 obtain ⟨T'0, X'0, e'0, st'0⟩ := getF X0 hx hZ hown (host := "") (Or.inl (qw hw 99 rfl)) Via.refl e0 p6_ (g := (mkF m 2 #[rv x0, rv kq, iv hv, rv vo, .unset, .unset] [.ref x0, .ref x0])) rfl rfl (hb hby d23_2)
 refine goo st'0 ?_
 refine goo (fun _ k => XS.dupX1 X'0.here hx rfl (hb hby d23_5) rfl rfl rfl <| XS.iconst X'0.here hx rfl (hb hby d23_6) k) ?_
 show own_G _ _ _ _ (T'0.setTop (mkF m 7 #[rv x0, rv kq, iv hv, rv vo, .unset, .unset] [.int i_1, .int i_0, .ref x0, .int i_0]))
 refine goo (fun _ k => XS.iadd X'0.here hx rfl (hb hby d23_7) rfl k) ?_
 obtain ⟨T'1, h'1, X'1, e'1, W'1, st'1⟩ := putF X'0 hx hZ hown (host := "") (Or.inl (qw hw 99 rfl)) Via.refl e'0 p6_ p0_ (Or.inl (qw hw 100 rfl)) (qw hw 54 rfl) (ty := .int) (by decide) rfl rfl (g := (mkF m 8 #[rv x0, rv kq, iv hv, rv vo, .unset, .unset] [.int i_1, .ref x0, .int i_0])) rfl rfl (hb hby d23_8)
 have X_2 := p0_.wr W'1
 have F_3 := p1_.other W'1 (Or.inr (slot_ne (Or.inl (qw hw 84 rfl)) (Or.inl (qw hw 100 rfl)) (by decide) (t := (.array .int)) (t' := .int) (by decide) (by decide)))
 have F_4 := p2_.other W'1 (Or.inr (slot_ne (Or.inl (qw hw 92 rfl)) (Or.inl (qw hw 100 rfl)) (by decide) (t := (.array (.object s_2))) (t' := .int) (by decide) (by decide)))
 have F_5 := p3_.other W'1 (Or.inr (slot_ne (Or.inl (qw hw 94 rfl)) (Or.inl (qw hw 100 rfl)) (by decide) (t := (.array (.object s_2))) (t' := .int) (by decide) (by decide)))
 have F_6 := p4_.other W'1 (Or.inr (slot_ne (Or.inl (qw hw 96 rfl)) (Or.inl (qw hw 100 rfl)) (by decide) (t := (.array .int)) (t' := .int) (by decide) (by decide)))
 have F_7 := p5_.other W'1 (Or.inr (slot_ne (Or.inl (qw hw 98 rfl)) (Or.inl (qw hw 100 rfl)) (by decide) (t := (.array .int)) (t' := .int) (by decide) (by decide)))
 have F_8 := p7_.other W'1 (Or.inr (slot_ne (Or.inl (qw hw 143 rfl)) (Or.inl (qw hw 100 rfl)) (by decide) (t := .int) (t' := .int) (by decide) (by decide)))
 have F_9 := p8_.other W'1 (Or.inr (slot_ne (Or.inl (qw hw 145 rfl)) (Or.inl (qw hw 100 rfl)) (by decide) (t := .boolean) (t' := .int) (by decide) (by decide)))
 have V_a := p9_.other W'1 (Ne.symm p20_)
 have V_b := p10_.other W'1 (Ne.symm p21_)
 have V_c := p11_.other W'1 (Ne.symm p22_)
 have V_d := p12_.other W'1 (Ne.symm p23_)
 have V_e := p13_.other W'1 (Ne.symm p24_)
 have X_f := p37_.wr W'1
 have X_g := p39_.wr W'1
 have F_h := p6_.same W'1
 have KP_i : Keep h0 h'1 [x0, bk, ky, vl, hs, ch] := KP0.wr W'1 (Or.inl (List.mem_of_getElem? (i := 0) rfl))
 have N_1 := Fr.snoc X'1 N0 p14_
 refine goo st'1 ?_
 refine goo (fun _ k => XS.istore X'1.here hx rfl (hb hby d23_11) rfl (l' := #[rv x0, rv kq, iv hv, rv vo, iv i_0, .unset]) rfl <| XS.iloadN X'1.here hx rfl (hb hby d23_13) rfl <| XS.aloadN X'1.here hx rfl (hb hby d23_14) rfl rfl k) ?_
 obtain ⟨T'j, X'j, e'j, st'j⟩ := getF X'1 hx hZ hown (host := "") (Or.inl (qw hw 83 rfl)) Via.refl e'1 F_3 (g := (mkF m 15 #[rv x0, rv kq, iv hv, rv vo, iv i_0, .unset] [.ref x0, .int hv])) rfl rfl (hb hby d23_15)
 refine goo st'j ?_
 show own_G _ _ _ _ (T'j.setTop (mkF m 18 #[rv x0, rv kq, iv hv, rv vo, iv i_0, .unset] [.ref bk, .int hv]))
 obtain ⟨cl537, Ar537, -, S537, N537, -, -⟩ := id V_a
 refine goo (fun _ k => X'j.arraylength hx (cell := cl537) (by rw [e'j]; exact Ar537.1) (State.isArrayOf_alike hZ.alike Ar537.2.1) (g := (mkF m 18 #[rv x0, rv kq, iv hv, rv vo, iv i_0, .unset] [.ref bk, .int hv])) rfl rfl (hb hby d23_18) _ (by rw [len_of S537 N537]; exact k)) ?_
 refine goo (fun _ k => XS.iconst X'j.here hx rfl (hb hby d23_19) <| XS.isub X'j.here hx rfl (hb hby d23_20) rfl <| XS.iand X'j.here hx rfl (hb hby d23_21) rfl k) ?_
 show own_G _ _ _ _ (T'j.setTop (mkF m 22 #[rv x0, rv kq, iv hv, rv vo, iv i_0, .unset] [(.int (hv &&& i_3))]))
 rw [p38_]
 refine goo (fun _ k => XS.istore X'j.here hx rfl (hb hby d23_22) rfl (l' := #[rv x0, rv kq, iv hv, rv vo, iv i_0, iv i_1]) rfl <| XS.aloadN X'j.here hx rfl (hb hby d23_24) rfl rfl k) ?_
 obtain ⟨T'k, X'k, e'k, st'k⟩ := getF X'j hx hZ hown (host := "") (Or.inl (qw hw 91 rfl)) Via.refl e'j F_4 (g := (mkF m 25 #[rv x0, rv kq, iv hv, rv vo, iv i_0, iv i_1] [.ref x0])) rfl rfl (hb hby d23_25)
 refine goo st'k ?_
 refine goo (fun _ k => XS.iload X'k.here hx rfl (hb hby d23_28) rfl <| XS.aloadN X'k.here hx rfl (hb hby d23_30) rfl rfl k) ?_
 obtain ⟨cl539, Ar539, q'l, S539, N539, H539, G539⟩ := id V_b
 obtain ⟨T'l, h'l, X'l, e'l, W'l, st'l⟩ := stR X'k hx hZ e'k Ar539 (j := i_0) (inb_of S539 ⟨by decide, by decide⟩) rfl (Sto.ofV Ar539 q'l p35_ (Ins.of_exa X_f (qw hw 141 rfl))) (g := (mkF m 31 #[rv x0, rv kq, iv hv, rv vo, iv i_0, iv i_1] [.ref kq, .int i_0, .ref ky])) rfl rfl (hb hby d23_31)
 have X_m := X_2.wr W'l
 have F_n := F_3.other W'l (Or.inl p21_)
 have F_o := F_4.other W'l (Or.inl p21_)
 have F_p := F_5.other W'l (Or.inl p21_)
 have F_q := F_6.other W'l (Or.inl p21_)
 have F_r := F_7.other W'l (Or.inl p21_)
 have F_s := F_h.other W'l (Or.inl p21_)
 have F_t := F_8.other W'l (Or.inl p21_)
 have F_u := F_9.other W'l (Or.inl p21_)
 have V_v := V_a.other W'l p25_
 have V_w := V_c.other W'l (Ne.symm p29_)
 have V_x := V_d.other W'l (Ne.symm p30_)
 have V_y := V_e.other W'l (Ne.symm p31_)
 have X_z := X_g.wr W'l
 have V539 : Arv Z h'l ky k2 (.object s_2) i_4 [.ref kq, .null, .null, .null] .null := Arv.set Ar539 q'l S539 N539 H539 G539 rfl W'l 0 rfl (Nat.le_of_ble_eq_true rfl)
 have KP_10 : Keep h0 h'l [x0, bk, ky, vl, hs, ch] := KP_i.wr W'l (Or.inl (List.mem_of_getElem? (i := 2) rfl))
 have N_l := Fr.snoc X'l N_1 p16_
 refine goo st'l ?_
 show own_G _ _ _ _ (T'l.setTop (mkF m 32 #[rv x0, rv kq, iv hv, rv vo, iv i_0, iv i_1] []))
 refine goo (fun _ k => XS.aloadN X'l.here hx rfl (hb hby d23_32) rfl rfl k) ?_
 obtain ⟨T'11, X'11, e'11, st'11⟩ := getF X'l hx hZ hown (host := "") (Or.inl (qw hw 93 rfl)) Via.refl e'l F_p (g := (mkF m 33 #[rv x0, rv kq, iv hv, rv vo, iv i_0, iv i_1] [.ref x0])) rfl rfl (hb hby d23_33)
 refine goo st'11 ?_
 refine goo (fun _ k => XS.iload X'11.here hx rfl (hb hby d23_36) rfl <| XS.aloadN X'11.here hx rfl (hb hby d23_38) rfl rfl k) ?_
 obtain ⟨cl558, Ar558, q'12, S558, N558, H558, G558⟩ := id V_w
 obtain ⟨T'12, h'12, X'12, e'12, W'12, st'12⟩ := stR X'11 hx hZ e'11 Ar558 (j := i_0) (inb_of S558 ⟨by decide, by decide⟩) rfl (Sto.ofV Ar558 q'12 p36_ (Ins.of_exa X_z (qw hw 141 rfl))) (g := (mkF m 39 #[rv x0, rv kq, iv hv, rv vo, iv i_0, iv i_1] [.ref vo, .int i_0, .ref vl])) rfl rfl (hb hby d23_39)
 have X_13 := X_m.wr W'12
 have F_14 := F_n.other W'12 (Or.inl p22_)
 have F_15 := F_o.other W'12 (Or.inl p22_)
 have F_16 := F_p.other W'12 (Or.inl p22_)
 have F_17 := F_q.other W'12 (Or.inl p22_)
 have F_18 := F_r.other W'12 (Or.inl p22_)
 have F_19 := F_s.other W'12 (Or.inl p22_)
 have F_1a := F_t.other W'12 (Or.inl p22_)
 have F_1b := F_u.other W'12 (Or.inl p22_)
 have V_1c := V_v.other W'12 p26_
 have V_1d := V539.other W'12 p29_
 have V_1e := V_x.other W'12 (Ne.symm p32_)
 have V_1f := V_y.other W'12 (Ne.symm p33_)
 have V558 : Arv Z h'12 vl k3 (.object s_2) i_4 [.ref vo, .null, .null, .null] .null := Arv.set Ar558 q'12 S558 N558 H558 G558 rfl W'12 0 rfl (Nat.le_of_ble_eq_true rfl)
 have KP_1g : Keep h0 h'12 [x0, bk, ky, vl, hs, ch] := KP_10.wr W'12 (Or.inl (List.mem_of_getElem? (i := 3) rfl))
 have N_12 := Fr.snoc X'12 N_l p17_
 refine goo st'12 ?_
 refine goo (fun _ k => XS.aloadN X'12.here hx rfl (hb hby d23_40) rfl rfl k) ?_
 show own_G _ _ _ _ (T'12.setTop (mkF m 41 #[rv x0, rv kq, iv hv, rv vo, iv i_0, iv i_1] [.ref x0]))
 obtain ⟨T'1h, X'1h, e'1h, st'1h⟩ := getF X'12 hx hZ hown (host := "") (Or.inl (qw hw 95 rfl)) Via.refl e'12 F_17 (g := (mkF m 41 #[rv x0, rv kq, iv hv, rv vo, iv i_0, iv i_1] [.ref x0])) rfl rfl (hb hby d23_41)
 refine goo st'1h ?_
 refine goo (fun _ k => XS.iload X'1h.here hx rfl (hb hby d23_44) rfl <| XS.iloadN X'1h.here hx rfl (hb hby d23_46) rfl k) ?_
 obtain ⟨cl577, Ar577, q'1i, S577, N577, H577, G577⟩ := id V_1e
 obtain ⟨T'1i, h'1i, X'1i, e'1i, W'1i, st'1i⟩ := stI X'1h hx hZ e'1h Ar577 (j := i_0) (inb_of S577 ⟨by decide, by decide⟩) (g := (mkF m 47 #[rv x0, rv kq, iv hv, rv vo, iv i_0, iv i_1] [.int hv, .int i_0, .ref hs])) rfl rfl (hb hby d23_47)
 have X_1j := X_13.wr W'1i
 have F_1k := F_14.other W'1i (Or.inl p23_)
 have F_1l := F_15.other W'1i (Or.inl p23_)
 have F_1m := F_16.other W'1i (Or.inl p23_)
 have F_1n := F_17.other W'1i (Or.inl p23_)
 have F_1o := F_18.other W'1i (Or.inl p23_)
 have F_1p := F_19.other W'1i (Or.inl p23_)
 have F_1q := F_1a.other W'1i (Or.inl p23_)
 have F_1r := F_1b.other W'1i (Or.inl p23_)
 have V_1s := V_1c.other W'1i p27_
 have V_1t := V_1d.other W'1i p30_
 have V_1u := V558.other W'1i p32_
 have V_1v := V_1f.other W'1i (Ne.symm p34_)
 have V577 : Arv Z h'1i hs k4 .int i_4 [.int hv, .int i_0, .int i_0, .int i_0] (.int i_0) := Arv.set Ar577 q'1i S577 N577 H577 G577 rfl W'1i 0 rfl (Nat.le_of_ble_eq_true rfl)
 have KP_1w : Keep h0 h'1i [x0, bk, ky, vl, hs, ch] := KP_1g.wr W'1i (Or.inl (List.mem_of_getElem? (i := 4) rfl))
 have N_1i := Fr.snoc X'1i N_12 p18_
 refine goo st'1i ?_
 refine goo (fun _ k => XS.aloadN X'1i.here hx rfl (hb hby d23_48) rfl rfl k) ?_
 obtain ⟨T'1x, X'1x, e'1x, st'1x⟩ := getF X'1i hx hZ hown (host := "") (Or.inl (qw hw 97 rfl)) Via.refl e'1i F_1o (g := (mkF m 49 #[rv x0, rv kq, iv hv, rv vo, iv i_0, iv i_1] [.ref x0])) rfl rfl (hb hby d23_49)
 refine goo st'1x ?_
 show own_G _ _ _ _ (T'1x.setTop (mkF m 52 #[rv x0, rv kq, iv hv, rv vo, iv i_0, iv i_1] [.ref ch]))
 refine goo (fun _ k => XS.iload X'1x.here hx rfl (hb hby d23_52) rfl <| XS.aloadN X'1x.here hx rfl (hb hby d23_54) rfl rfl k) ?_
 obtain ⟨T'1y, X'1y, e'1y, st'1y⟩ := getF X'1x hx hZ hown (host := "") (Or.inl (qw hw 83 rfl)) Via.refl e'1x F_1k (g := (mkF m 55 #[rv x0, rv kq, iv hv, rv vo, iv i_0, iv i_1] [.ref x0, .int i_0, .ref ch])) rfl rfl (hb hby d23_55)
 refine goo st'1y ?_
 refine goo (fun _ k => XS.iload X'1y.here hx rfl (hb hby d23_58) rfl k) ?_
 obtain ⟨cl597, Ar597, -, S597, -, H597, -⟩ := id V_1s
 have hin597 := inb_of S597 (j := i_1) ⟨by decide, by decide⟩
 refine goo (fun _ k => X'1y.iaload hx (j := i_1) (v := (.int (-1 : Int32))) (by rw [e'1y]; exact Ar597.1) (State.isArrayOf_alike hZ.alike Ar597.2.1) Ar597.2.2 hin597 (H597.at hin597 rfl) (g := (mkF m 60 #[rv x0, rv kq, iv hv, rv vo, iv i_0, iv i_1] [.int i_1, .ref bk, .int i_0, .ref ch])) rfl rfl (hb hby d23_60) _ k) ?_
 obtain ⟨cl598, Ar598, q'1z, S598, N598, H598, G598⟩ := id V_1v
 obtain ⟨T'1z, h'1z, X'1z, e'1z, W'1z, st'1z⟩ := stI X'1y hx hZ e'1y Ar598 (j := i_0) (inb_of S598 ⟨by decide, by decide⟩) (g := (mkF m 61 #[rv x0, rv kq, iv hv, rv vo, iv i_0, iv i_1] [(.int (-1 : Int32)), .int i_0, .ref ch])) rfl rfl (hb hby d23_61)
 have X_20 := X_1j.wr W'1z
 have F_21 := F_1k.other W'1z (Or.inl p24_)
 have F_22 := F_1l.other W'1z (Or.inl p24_)
 have F_23 := F_1m.other W'1z (Or.inl p24_)
 have F_24 := F_1n.other W'1z (Or.inl p24_)
 have F_25 := F_1o.other W'1z (Or.inl p24_)
 have F_26 := F_1p.other W'1z (Or.inl p24_)
 have F_27 := F_1q.other W'1z (Or.inl p24_)
 have F_28 := F_1r.other W'1z (Or.inl p24_)
 have V_29 := V_1s.other W'1z p28_
 have V_2a := V_1t.other W'1z p31_
 have V_2b := V_1u.other W'1z p33_
 have V_2c := V577.other W'1z p34_
 have V598 : Arv Z h'1z ch k5 .int i_4 [(.int (-1 : Int32)), .int i_0, .int i_0, .int i_0] (.int i_0) := Arv.set Ar598 q'1z S598 N598 H598 G598 rfl W'1z 0 rfl (Nat.le_of_ble_eq_true rfl)
 have KP_2d : Keep h0 h'1z [x0, bk, ky, vl, hs, ch] := KP_1w.wr W'1z (Or.inl (List.mem_of_getElem? (i := 5) rfl))
 have N_1z := Fr.snoc X'1z N_1i p19_
 refine goo st'1z ?_
 show own_G _ _ _ _ (T'1z.setTop (mkF m 62 #[rv x0, rv kq, iv hv, rv vo, iv i_0, iv i_1] []))
 refine goo (fun _ k => XS.aloadN X'1z.here hx rfl (hb hby d23_62) rfl rfl k) ?_
 obtain ⟨T'2e, X'2e, e'2e, st'2e⟩ := getF X'1z hx hZ hown (host := "") (Or.inl (qw hw 83 rfl)) Via.refl e'1z F_21 (g := (mkF m 63 #[rv x0, rv kq, iv hv, rv vo, iv i_0, iv i_1] [.ref x0])) rfl rfl (hb hby d23_63)
 refine goo st'2e ?_
 refine goo (fun _ k => XS.iload X'2e.here hx rfl (hb hby d23_66) rfl <| XS.iload X'2e.here hx rfl (hb hby d23_68) rfl k) ?_
 obtain ⟨cl617, Ar617, q'2f, S617, N617, H617, G617⟩ := id V_29
 obtain ⟨T'2f, h'2f, X'2f, e'2f, W'2f, st'2f⟩ := stI X'2e hx hZ e'2e Ar617 (j := i_1) (inb_of S617 ⟨by decide, by decide⟩) (g := (mkF m 70 #[rv x0, rv kq, iv hv, rv vo, iv i_0, iv i_1] [.int i_0, .int i_1, .ref bk])) rfl rfl (hb hby d23_70)
 have X_2g := X_20.wr W'2f
 have F_2h := F_21.other W'2f (Or.inl p20_)
 have F_2i := F_22.other W'2f (Or.inl p20_)
 have F_2j := F_23.other W'2f (Or.inl p20_)
 have F_2k := F_24.other W'2f (Or.inl p20_)
 have F_2l := F_25.other W'2f (Or.inl p20_)
 have F_2m := F_26.other W'2f (Or.inl p20_)
 have F_2n := F_27.other W'2f (Or.inl p20_)
 have F_2o := F_28.other W'2f (Or.inl p20_)
 have V_2p := V_2a.other W'2f (Ne.symm p25_)
 have V_2q := V_2b.other W'2f (Ne.symm p26_)
 have V_2r := V_2c.other W'2f (Ne.symm p27_)
 have V_2s := V598.other W'2f (Ne.symm p28_)
 have V617 : Arv Z h'2f bk k1 .int i_4 [(.int (-1 : Int32)), .int i_0, (.int (-1 : Int32)), (.int (-1 : Int32))] (.int i_0) := Arv.set Ar617 q'2f S617 N617 H617 G617 rfl W'2f 1 rfl (Nat.le_of_ble_eq_true rfl)
 have KP_2t : Keep h0 h'2f [x0, bk, ky, vl, hs, ch] := KP_2d.wr W'2f (Or.inl (List.mem_of_getElem? (i := 1) rfl))
 have N_2f := Fr.snoc X'2f N_1z p15_
 refine goo st'2f ?_
 show own_G _ _ _ _ (T'2f.setTop (mkF m 71 #[rv x0, rv kq, iv hv, rv vo, iv i_0, iv i_1] []))
 exact own_end X'2f Bd.notSynchronized (v := none) (fun _ => rfl) (Q := Q_rm_pl_0_1 Z x0 vo bk ky vl hs ch k1 k2 k3 k4 k5 kq kv hc hv h0 n0) (by show Q_rm_pl_0_1 Z x0 vo bk ky vl hs ch k1 k2 k3 k4 k5 kq kv hc hv h0 n0 (none) T'2f.heap _; rw [e'2f]; exact ⟨rfl, N_2f, KP_2t, X_2g, F_2h, F_2i, F_2j, F_2k, F_2l, F_2m, F_2n, F_2o, V617, V_2p, V_2q, V_2r, V_2s⟩) (fun fs hr => X'2f.returnOut hx Bd.returns (hb hby d23_71) hr) (by decide) (by decide)
def Q_rm_ad_0_1 (Z : State) (x0 : Addr) (vo : Addr) (bk ky vl hs ch : Addr) (k1 k2 k3 k4 k5 : ClassId) (kq : Addr) (kv : Int64) (hc hv : Int32) (h0 : Heap) (n0 : Nat) (v : Option Value) (h : Heap) (L : List Loc) : Prop := v = none ∧ Fr n0 L ∧ Keep h0 h [x0, bk, ky, vl, hs, ch] ∧ Exa Z h x0 s_0 ∧ Fld Z h x0 s_0 "buckets" "[I" (.ref bk) ∧ Fld Z h x0 s_0 "keys" "[Ljava/lang/Object;" (.ref ky) ∧ Fld Z h x0 s_0 "values" "[Ljava/lang/Object;" (.ref vl) ∧ Fld Z h x0 s_0 "hashes" "[I" (.ref hs) ∧ Fld Z h x0 s_0 "chain" "[I" (.ref ch) ∧ Fld Z h x0 s_0 "size" "I" (.int i_1) ∧ Fld Z h x0 s_0 "count" "I" (.int i_1) ∧ Fld Z h x0 s_0 "emptied" "Z" (.int i_0) ∧ Arv Z h bk k1 .int i_4 [(.int (-1 : Int32)), .int i_0, (.int (-1 : Int32)), (.int (-1 : Int32))] (.int i_0) ∧ Arv Z h ky k2 (.object s_2) i_4 [.ref kq, .null, .null, .null] .null ∧ Arv Z h vl k3 (.object s_2) i_4 [.ref vo, .null, .null, .null] .null ∧ Arv Z h hs k4 .int i_4 [.int hv, .int i_0, .int i_0, .int i_0] (.int i_0) ∧ Arv Z h ch k5 .int i_4 [(.int (-1 : Int32)), .int i_0, .int i_0, .int i_0] (.int i_0)
theorem rm_ad_0_1 (l : Launch) (Z : State) (a0 : Array Value) (hw : own_HW a0 Z) (ws : List Jvm.Cond) (x0 : Addr) (vo : Addr) (bk ky vl hs ch : Addr) (k1 k2 k3 k4 k5 : ClassId) (kq : Addr) (kv : Int64) (hc hv : Int32) (h0 : Heap) (n0 : Nat) (Z0 : n0 ≤ h0.size) (p0_ : Exa Z h0 x0 s_0) (p1_ : Fld Z h0 x0 s_0 "buckets" "[I" (.ref bk)) (p2_ : Fld Z h0 x0 s_0 "keys" "[Ljava/lang/Object;" (.ref ky)) (p3_ : Fld Z h0 x0 s_0 "values" "[Ljava/lang/Object;" (.ref vl)) (p4_ : Fld Z h0 x0 s_0 "hashes" "[I" (.ref hs)) (p5_ : Fld Z h0 x0 s_0 "chain" "[I" (.ref ch)) (p6_ : Fld Z h0 x0 s_0 "size" "I" (.int i_0)) (p7_ : Fld Z h0 x0 s_0 "count" "I" (.int i_0)) (p8_ : Fld Z h0 x0 s_0 "emptied" "Z" (.int i_0)) (p9_ : Arv Z h0 bk k1 .int i_4 [(.int (-1 : Int32)), (.int (-1 : Int32)), (.int (-1 : Int32)), (.int (-1 : Int32))] (.int i_0)) (p10_ : Arv Z h0 ky k2 (.object s_2) i_4 [.null, .null, .null, .null] .null) (p11_ : Arv Z h0 vl k3 (.object s_2) i_4 [.null, .null, .null, .null] .null) (p12_ : Arv Z h0 hs k4 .int i_4 [.int i_0, .int i_0, .int i_0, .int i_0] (.int i_0)) (p13_ : Arv Z h0 ch k5 .int i_4 [.int i_0, .int i_0, .int i_0, .int i_0] (.int i_0)) (p14_ : n0 ≤ x0) (p15_ : n0 ≤ bk) (p16_ : n0 ≤ ky) (p17_ : n0 ≤ vl) (p18_ : n0 ≤ hs) (p19_ : n0 ≤ ch) (p20_ : x0 ≠ bk) (p21_ : x0 ≠ ky) (p22_ : x0 ≠ vl) (p23_ : x0 ≠ hs) (p24_ : x0 ≠ ch) (p25_ : bk ≠ ky) (p26_ : bk ≠ vl) (p27_ : bk ≠ hs) (p28_ : bk ≠ ch) (p29_ : ky ≠ vl) (p30_ : ky ≠ hs) (p31_ : ky ≠ ch) (p32_ : vl ≠ hs) (p33_ : vl ≠ ch) (p34_ : hs ≠ ch) (p35_ : Ovr Z k2 s_2) (p36_ : Ovr Z k3 s_2) (p37_ : Exa Z h0 kq s_3) (p38_ : hv &&& i_3 = i_1) (p39_ : Exa Z h0 vo s_3)  :
  MetFree l Y19 (head1 (Jvm.Cond.code Y19 prog_46_method_21_code 4 none :: ws) (rr 1 0 0 17)) (fun a U => a = #[.ref x0, (.ref (kq)), (.int (hv)), .ref vo] ∧ Z.Warmed39 U.vm ∧ U.heap = h0) (fun _ _ _ _ _ => True) (fun _ U o U' => ∃ v L, o = .returned v ∧ Q_rm_ad_0_1 Z x0 vo bk ky vl hs ch k1 k2 k3 k4 k5 kq kv hc hv h0 n0 v U'.heap L ∧ FrameEnd U o U' L (rr 1 0 0 17).cells (rr 1 0 0 17).slots) := by
 refine MetFree.of_bodySF (plainFor_of_name own_pn1) hisR ?_
 intro p e s m args below meth c s₁ Bd hml0 hP hK
 obtain ⟨rfl, hZ, hh⟩ := hP
 have hx := Bd.exec
 have hby := Bd.bytes
 have hml : c.maxLocals = 4 := hml0
 have hown : s.vm.findClass s_0 = some m.cls := findClass_of_methodNamed Bd.named
 have hnm := (name_of_methodNamed Bd.named Bd.method).1
 have X0 : Stand p l e (rr 1 0 0 17) s m #[.ref x0, (.ref (kq)), (.int (hv)), .ref vo] below meth c s₁ [] 0 0 := Stand.of_body Bd
 have e0 : s₁.heap = h0 := by rw [← hh, Bd.state]; rfl
 show own_G _ _ _ _ (s₁.setTop (entryFrame m #[.ref x0, (.ref (kq)), (.int (hv)), .ref vo] 4))
 refine goo (fun _ k => castTop (ef_22_RRIR m x0 (kq) (hv) vo) k) ?_
 have N0 := Fr.nil n0
 have KP0 := Keep.refl h0 [x0, bk, ky, vl, hs, ch]
 refine goo (fun _ k => XS.aloadN X0.here hx rfl (hb hby d22_0) rfl rfl <| XS.aloadN X0.here hx rfl (hb hby d22_1) rfl rfl <| XS.iloadN X0.here hx rfl (hb hby d22_2) rfl <| XS.aloadN X0.here hx rfl (hb hby d22_3) rfl rfl k) ?_
 obtain ⟨cq'0, kq'0, q'0a, q'0b, q'0c⟩ := isOf hZ e0 p0_
 obtain ⟨cp'0, cq'1, cq'2⟩ := p0_.cell
 obtain ⟨_, _, ⟨T'0, L'0, k'0, n'0⟩, -, X'0, ⟨Lc'0, hQ'0, l'0, y'0, z'0⟩, st'0⟩ := own_privB X0 hx (y := Y18) hown (mvT hZ (qw hw 137 rfl)) (mvT hZ (qw hw 138 rfl)) (mvT hZ (qw hw 54 rfl)) (Cond.privateMethod_at (mvP hZ (qw hw 139 rfl) (args := #[]))) (mvT hZ (qw hw 140 rfl)) (by decide) (backOf (W := 0) (rm_pl_0_1 l Z a0 hw [] x0 vo bk ky vl hs ch k1 k2 k3 k4 k5 kq kv hc hv h0 n0 Z0 p0_ p1_ p2_ p3_ p4_ p5_ p6_ p7_ p8_ p9_ p10_ p11_ p12_ p13_ p14_ p15_ p16_ p17_ p18_ p19_ p20_ p21_ p22_ p23_ p24_ p25_ p26_ p27_ p28_ p29_ p30_ p31_ p32_ p33_ p34_ p35_ p36_ p37_ p38_ p39_) hZ (qw hw 140 rfl) (qw hw 55 rfl) (by decide) (by decide)) (g := (mkF m 4 #[rv x0, rv kq, iv hv, rv vo] [.ref vo, .int hv, .ref kq, .ref x0])) rfl (by rw [hml]; rfl) (a := x0) (by rw [e0]; exact cq'1) cq'2 (argsL := [.ref kq, .int hv, .ref vo]) (rest := []) (lenOf own_pd8 rfl) rfl (Nat.le_of_eq rfl) (hb hby d22_4) (fun _ _ => ⟨rfl, e0, (by decide : 0 + 0 ≤ _), (by decide : 0 + 0 ≤ _)⟩)
 dsimp only [Pt.U, Pt.locs, Pt.cells, Pt.slots] at X'0 l'0 y'0 z'0 st'0 hQ'0
 subst l'0 y'0 z'0
 obtain ⟨rfl, Nq'0, K'0, G_3, G_4, G_5, G_6, G_7, G_8, G_9, G_a, G_b, G_c, G_d, G_e, G_f, G_g⟩ := hQ'0
 have KP_h : Keep h0 T'0.heap [x0, bk, ky, vl, hs, ch] := KP0.trans K'0 (allS (Or.inl (List.mem_of_getElem? (i := 0) rfl)) (allS (Or.inl (List.mem_of_getElem? (i := 1) rfl)) (allS (Or.inl (List.mem_of_getElem? (i := 2) rfl)) (allS (Or.inl (List.mem_of_getElem? (i := 3) rfl)) (allS (Or.inl (List.mem_of_getElem? (i := 4) rfl)) (allS (Or.inl (List.mem_of_getElem? (i := 5) rfl)) all0))))))
 have N_0 := Fr.app N0 Nq'0
 refine goo (fun _ k => st'0.trans k) ?_
 show own_G _ _ _ _ (T'0.setTop (mkF m 7 #[rv x0, rv kq, iv hv, rv vo] []))
 refine goo (fun _ k => XS.aloadN X'0.here hx rfl (hb hby d22_7) rfl rfl <| XS.dup X'0.here hx rfl (hb hby d22_8) rfl rfl k) ?_
 obtain ⟨T'i, X'i, e'i, st'i⟩ := getF X'0 hx hZ hown (host := "") (Or.inl (qw hw 142 rfl)) Via.refl rfl G_a (g := (mkF m 9 #[rv x0, rv kq, iv hv, rv vo] [.ref x0, .ref x0])) rfl rfl (hb hby d22_9)
 refine goo st'i ?_
 refine goo (fun _ k => XS.iconst X'i.here hx rfl (hb hby d22_12) <| XS.iadd X'i.here hx rfl (hb hby d22_13) rfl k) ?_
 obtain ⟨T'j, h'j, X'j, e'j, W'j, st'j⟩ := putF X'i hx hZ hown (host := "") (Or.inl (qw hw 142 rfl)) Via.refl e'i G_a G_3 (Or.inl (qw hw 143 rfl)) (qw hw 54 rfl) (ty := .int) (by decide) rfl rfl (g := (mkF m 14 #[rv x0, rv kq, iv hv, rv vo] [.int i_1, .ref x0])) rfl rfl (hb hby d22_14)
 have X_k := G_3.wr W'j
 have F_l := G_4.other W'j (Or.inr (slot_ne (Or.inl (qw hw 84 rfl)) (Or.inl (qw hw 143 rfl)) (by decide) (t := (.array .int)) (t' := .int) (by decide) (by decide)))
 have F_m := G_5.other W'j (Or.inr (slot_ne (Or.inl (qw hw 92 rfl)) (Or.inl (qw hw 143 rfl)) (by decide) (t := (.array (.object s_2))) (t' := .int) (by decide) (by decide)))
 have F_n := G_6.other W'j (Or.inr (slot_ne (Or.inl (qw hw 94 rfl)) (Or.inl (qw hw 143 rfl)) (by decide) (t := (.array (.object s_2))) (t' := .int) (by decide) (by decide)))
 have F_o := G_7.other W'j (Or.inr (slot_ne (Or.inl (qw hw 96 rfl)) (Or.inl (qw hw 143 rfl)) (by decide) (t := (.array .int)) (t' := .int) (by decide) (by decide)))
 have F_p := G_8.other W'j (Or.inr (slot_ne (Or.inl (qw hw 98 rfl)) (Or.inl (qw hw 143 rfl)) (by decide) (t := (.array .int)) (t' := .int) (by decide) (by decide)))
 have F_q := G_9.other W'j (Or.inr (slot_ne (Or.inl (qw hw 100 rfl)) (Or.inl (qw hw 143 rfl)) (by decide) (t := .int) (t' := .int) (by decide) (by decide)))
 have F_r := G_b.other W'j (Or.inr (slot_ne (Or.inl (qw hw 145 rfl)) (Or.inl (qw hw 143 rfl)) (by decide) (t := .boolean) (t' := .int) (by decide) (by decide)))
 have V_s := G_c.other W'j (Ne.symm p20_)
 have V_t := G_d.other W'j (Ne.symm p21_)
 have V_u := G_e.other W'j (Ne.symm p22_)
 have V_v := G_f.other W'j (Ne.symm p23_)
 have V_w := G_g.other W'j (Ne.symm p24_)
 have F_x := G_a.same W'j
 have KP_y : Keep h0 h'j [x0, bk, ky, vl, hs, ch] := KP_h.wr W'j (Or.inl (List.mem_of_getElem? (i := 0) rfl))
 have N_j := Fr.snoc X'j N_0 p14_
 refine goo st'j ?_
 show own_G _ _ _ _ (T'j.setTop (mkF m 17 #[rv x0, rv kq, iv hv, rv vo] []))
 refine goo (fun _ k => XS.aloadN X'j.here hx rfl (hb hby d22_17) rfl rfl <| XS.iconst X'j.here hx rfl (hb hby d22_18) k) ?_
 obtain ⟨T'z, h'z, X'z, e'z, W'z, st'z⟩ := putFN X'j hx hZ hown (qw hw 144 rfl) Via.refl e'j F_r X_k (Or.inl (qw hw 145 rfl)) (qw hw 54 rfl) (ty := .boolean) (v' := .int i_0) (by decide) rfl (by decide) (g := (mkF m 19 #[rv x0, rv kq, iv hv, rv vo] [.int i_0, .ref x0])) rfl rfl (hb hby d22_19)
 have X_10 := X_k.wr W'z
 have F_11 := F_l.other W'z (Or.inr (slot_ne (Or.inl (qw hw 84 rfl)) (Or.inl (qw hw 145 rfl)) (by decide) (t := (.array .int)) (t' := .boolean) (by decide) (by decide)))
 have F_12 := F_m.other W'z (Or.inr (slot_ne (Or.inl (qw hw 92 rfl)) (Or.inl (qw hw 145 rfl)) (by decide) (t := (.array (.object s_2))) (t' := .boolean) (by decide) (by decide)))
 have F_13 := F_n.other W'z (Or.inr (slot_ne (Or.inl (qw hw 94 rfl)) (Or.inl (qw hw 145 rfl)) (by decide) (t := (.array (.object s_2))) (t' := .boolean) (by decide) (by decide)))
 have F_14 := F_o.other W'z (Or.inr (slot_ne (Or.inl (qw hw 96 rfl)) (Or.inl (qw hw 145 rfl)) (by decide) (t := (.array .int)) (t' := .boolean) (by decide) (by decide)))
 have F_15 := F_p.other W'z (Or.inr (slot_ne (Or.inl (qw hw 98 rfl)) (Or.inl (qw hw 145 rfl)) (by decide) (t := (.array .int)) (t' := .boolean) (by decide) (by decide)))
 have F_16 := F_q.other W'z (Or.inr (slot_ne (Or.inl (qw hw 100 rfl)) (Or.inl (qw hw 145 rfl)) (by decide) (t := .int) (t' := .boolean) (by decide) (by decide)))
 have F_17 := F_x.other W'z (Or.inr (slot_ne (Or.inl (qw hw 143 rfl)) (Or.inl (qw hw 145 rfl)) (by decide) (t := .int) (t' := .boolean) (by decide) (by decide)))
 have V_18 := V_s.other W'z (Ne.symm p20_)
 have V_19 := V_t.other W'z (Ne.symm p21_)
 have V_1a := V_u.other W'z (Ne.symm p22_)
 have V_1b := V_v.other W'z (Ne.symm p23_)
 have V_1c := V_w.other W'z (Ne.symm p24_)
 have F_1d := F_r.same W'z
 have KP_1e : Keep h0 h'z [x0, bk, ky, vl, hs, ch] := KP_y.wr W'z (Or.inl (List.mem_of_getElem? (i := 0) rfl))
 have N_z := Fr.snoc X'z N_j p14_
 refine goo st'z ?_
 show own_G _ _ _ _ (T'z.setTop (mkF m 22 #[rv x0, rv kq, iv hv, rv vo] []))
 exact own_end X'z Bd.notSynchronized (v := none) (fun _ => rfl) (Q := Q_rm_ad_0_1 Z x0 vo bk ky vl hs ch k1 k2 k3 k4 k5 kq kv hc hv h0 n0) (by show Q_rm_ad_0_1 Z x0 vo bk ky vl hs ch k1 k2 k3 k4 k5 kq kv hc hv h0 n0 (none) T'z.heap _; rw [e'z]; exact ⟨rfl, N_z, KP_1e, X_10, F_11, F_12, F_13, F_14, F_15, F_16, F_17, F_1d, V_18, V_19, V_1a, V_1b, V_1c⟩) (fun fs hr => X'z.returnOut hx Bd.returns (hb hby d22_22) hr) (by decide) (by decide)
def Q_rm_pu_0_1 (Z : State) (x0 : Addr) (vo : Addr) (bk ky vl hs ch : Addr) (k1 k2 k3 k4 k5 : ClassId) (kq : Addr) (kv : Int64) (hc hv : Int32) (h0 : Heap) (n0 : Nat) (v : Option Value) (h : Heap) (L : List Loc) : Prop := v = none ∧ Fr n0 L ∧ Keep h0 h [x0, bk, ky, vl, hs, ch] ∧ Exa Z h x0 s_0 ∧ Fld Z h x0 s_0 "buckets" "[I" (.ref bk) ∧ Fld Z h x0 s_0 "keys" "[Ljava/lang/Object;" (.ref ky) ∧ Fld Z h x0 s_0 "values" "[Ljava/lang/Object;" (.ref vl) ∧ Fld Z h x0 s_0 "hashes" "[I" (.ref hs) ∧ Fld Z h x0 s_0 "chain" "[I" (.ref ch) ∧ Fld Z h x0 s_0 "size" "I" (.int i_1) ∧ Fld Z h x0 s_0 "count" "I" (.int i_1) ∧ Fld Z h x0 s_0 "emptied" "Z" (.int i_0) ∧ Arv Z h bk k1 .int i_4 [(.int (-1 : Int32)), .int i_0, (.int (-1 : Int32)), (.int (-1 : Int32))] (.int i_0) ∧ Arv Z h ky k2 (.object s_2) i_4 [.ref kq, .null, .null, .null] .null ∧ Arv Z h vl k3 (.object s_2) i_4 [.ref vo, .null, .null, .null] .null ∧ Arv Z h hs k4 .int i_4 [.int hv, .int i_0, .int i_0, .int i_0] (.int i_0) ∧ Arv Z h ch k5 .int i_4 [(.int (-1 : Int32)), .int i_0, .int i_0, .int i_0] (.int i_0)
theorem rm_pu_0_1 (l : Launch) (Z : State) (a0 : Array Value) (hw : own_HW a0 Z) (ws : List Jvm.Cond) (x0 : Addr) (vo : Addr) (bk ky vl hs ch : Addr) (k1 k2 k3 k4 k5 : ClassId) (kq : Addr) (kv : Int64) (hc hv : Int32) (h0 : Heap) (n0 : Nat) (Z0 : n0 ≤ h0.size) (p0_ : Exa Z h0 x0 s_0) (p1_ : Fld Z h0 x0 s_0 "buckets" "[I" (.ref bk)) (p2_ : Fld Z h0 x0 s_0 "keys" "[Ljava/lang/Object;" (.ref ky)) (p3_ : Fld Z h0 x0 s_0 "values" "[Ljava/lang/Object;" (.ref vl)) (p4_ : Fld Z h0 x0 s_0 "hashes" "[I" (.ref hs)) (p5_ : Fld Z h0 x0 s_0 "chain" "[I" (.ref ch)) (p6_ : Fld Z h0 x0 s_0 "size" "I" (.int i_0)) (p7_ : Fld Z h0 x0 s_0 "count" "I" (.int i_0)) (p8_ : Fld Z h0 x0 s_0 "emptied" "Z" (.int i_0)) (p9_ : Arv Z h0 bk k1 .int i_4 [(.int (-1 : Int32)), (.int (-1 : Int32)), (.int (-1 : Int32)), (.int (-1 : Int32))] (.int i_0)) (p10_ : Arv Z h0 ky k2 (.object s_2) i_4 [.null, .null, .null, .null] .null) (p11_ : Arv Z h0 vl k3 (.object s_2) i_4 [.null, .null, .null, .null] .null) (p12_ : Arv Z h0 hs k4 .int i_4 [.int i_0, .int i_0, .int i_0, .int i_0] (.int i_0)) (p13_ : Arv Z h0 ch k5 .int i_4 [.int i_0, .int i_0, .int i_0, .int i_0] (.int i_0)) (p14_ : n0 ≤ x0) (p15_ : n0 ≤ bk) (p16_ : n0 ≤ ky) (p17_ : n0 ≤ vl) (p18_ : n0 ≤ hs) (p19_ : n0 ≤ ch) (p20_ : x0 ≠ bk) (p21_ : x0 ≠ ky) (p22_ : x0 ≠ vl) (p23_ : x0 ≠ hs) (p24_ : x0 ≠ ch) (p25_ : bk ≠ ky) (p26_ : bk ≠ vl) (p27_ : bk ≠ hs) (p28_ : bk ≠ ch) (p29_ : ky ≠ vl) (p30_ : ky ≠ hs) (p31_ : ky ≠ ch) (p32_ : vl ≠ hs) (p33_ : vl ≠ ch) (p34_ : hs ≠ ch) (p35_ : Ovr Z k2 s_2) (p36_ : Ovr Z k3 s_2) (p37_ : Exa Z h0 kq s_3) (p38_ : Fld Z Z.heap kq s_3 "value" "J" (.long kv)) (p39_ : F18 kv = hc) (p40_ : own_sp hc = hv) (p41_ : Exa Z h0 vo s_3) (p42_ : hv &&& i_3 = i_1) (p43_ : Old Z n0 h0)  :
  MetFree l Y20 (head1 (Jvm.Cond.code Y20 prog_46_method_5_code 4 none :: ws) (rr 3 0 0 40)) (fun a U => a = #[.ref x0, (.ref (kq)), .ref vo] ∧ Z.Warmed39 U.vm ∧ U.heap = h0) (fun _ _ _ _ _ => True) (fun _ U o U' => ∃ v L, o = .returned v ∧ Q_rm_pu_0_1 Z x0 vo bk ky vl hs ch k1 k2 k3 k4 k5 kq kv hc hv h0 n0 v U'.heap L ∧ FrameEnd U o U' L (rr 3 0 0 40).cells (rr 3 0 0 40).slots) := by
 refine MetFree.of_bodySF (plainFor_of_name own_pn1) hisR ?_
 intro p e s m args below meth c s₁ Bd hml0 hP hK
 obtain ⟨rfl, hZ, hh⟩ := hP
 have hx := Bd.exec
 have hby := Bd.bytes
 have hml : c.maxLocals = 4 := hml0
 have hown : s.vm.findClass s_0 = some m.cls := findClass_of_methodNamed Bd.named
 have hnm := (name_of_methodNamed Bd.named Bd.method).1
 have X0 : Stand p l e (rr 3 0 0 40) s m #[.ref x0, (.ref (kq)), .ref vo] below meth c s₁ [] 0 0 := Stand.of_body Bd
 have e0 : s₁.heap = h0 := by rw [← hh, Bd.state]; rfl
 show own_G _ _ _ _ (s₁.setTop (entryFrame m #[.ref x0, (.ref (kq)), .ref vo] 4))
 refine goo (fun _ k => castTop (ef_15_RRR m x0 (kq) vo) k) ?_
 have N0 := Fr.nil n0
 have KP0 := Keep.refl h0 [x0, bk, ky, vl, hs, ch]
 refine goo (fun _ k => XS.aloadN X0.here hx rfl (hb hby d15_0) rfl rfl <| XS.aloadN X0.here hx rfl (hb hby d15_1) rfl rfl k) ?_
 obtain ⟨cq'0, kq'0, q'0a, q'0b, q'0c⟩ := isOf hZ e0 p0_
 obtain ⟨cp'0, cq'1, cq'2⟩ := p0_.cell
 obtain ⟨_, _, ⟨T'0, L'0, k'0, n'0⟩, -, X'0, ⟨Lc'0, hQ'0, l'0, y'0, z'0⟩, st'0⟩ := own_privB X0 hx (y := Y16) hown (mvT hZ (qw hw 108 rfl)) (mvT hZ (qw hw 109 rfl)) (mvT hZ (qw hw 54 rfl)) (Cond.privateMethod_at (mvP hZ (qw hw 110 rfl) (args := #[]))) (mvT hZ (qw hw 111 rfl)) (by decide) (backOf (W := 0) (rm_en_0_1 l Z a0 hw [] x0 bk ky vl hs ch k1 k2 k3 k4 k5 kq kv hc hv h0 n0 Z0 p0_ p1_ p2_ p3_ p4_ p5_ p6_ p7_ p8_ p9_ p10_ p11_ p12_ p13_ p37_ p38_ p39_ p40_ p42_ p43_) hZ (qw hw 111 rfl) (qw hw 55 rfl) (by decide) (by decide)) (g := (mkF m 2 #[rv x0, rv kq, rv vo, .unset] [.ref kq, .ref x0])) rfl (by rw [hml]; rfl) (a := x0) (by rw [e0]; exact cq'1) cq'2 (argsL := [.ref kq]) (rest := []) (lenOf own_pd9 rfl) rfl (Nat.le_of_eq rfl) (hb hby d15_2) (fun _ _ => ⟨rfl, e0, (by decide : 0 + 0 ≤ _), (by decide : 0 + 0 ≤ _)⟩)
 dsimp only [Pt.U, Pt.locs, Pt.cells, Pt.slots] at X'0 l'0 y'0 z'0 st'0 hQ'0
 subst l'0 y'0 z'0
 obtain ⟨rfl, Nq'0, K'0⟩ := hQ'0
 have X_3 := p0_.keep K'0
 have F_4 := p1_.keep K'0 nin0
 have F_5 := p2_.keep K'0 nin0
 have F_6 := p3_.keep K'0 nin0
 have F_7 := p4_.keep K'0 nin0
 have F_8 := p5_.keep K'0 nin0
 have F_9 := p6_.keep K'0 nin0
 have F_a := p7_.keep K'0 nin0
 have F_b := p8_.keep K'0 nin0
 have V_c := p9_.keep K'0 nin0
 have V_d := p10_.keep K'0 nin0
 have V_e := p11_.keep K'0 nin0
 have V_f := p12_.keep K'0 nin0
 have V_g := p13_.keep K'0 nin0
 have X_h := p37_.keep K'0
 have X_i := p41_.keep K'0
 have Old_j := p43_.keep K'0 all0
 have Z_k : n0 ≤ T'0.heap.size := Nat.le_trans Z0 K'0.1
 have KP_l : Keep h0 T'0.heap [x0, bk, ky, vl, hs, ch] := KP0.trans K'0 all0
 have N_0 := Fr.app N0 Nq'0
 refine goo (fun _ k => st'0.trans k) ?_
 refine goo (fun _ k => XS.istoreN X'0.here hx rfl (hb hby d15_5) rfl (l' := #[rv x0, rv kq, rv vo, iv (-1 : Int32)]) rfl <| XS.iloadN X'0.here hx rfl (hb hby d15_6) rfl k) ?_
 show own_G _ _ _ _ (T'0.setTop (mkF m 7 #[rv x0, rv kq, rv vo, iv (-1 : Int32)] [(.int (-1 : Int32))]))
 refine goo (fun _ k => XS.ifNo X'0.here hx rfl (hb hby d15_7) rfl (((if0 _ _).trans (tlt (by decide : (-1 : Int32) < i_0)).2.1)) <| XS.aloadN X'0.here hx rfl (hb hby d15_10) rfl rfl k) ?_
 obtain ⟨T'm, X'm, e'm, st'm⟩ := getF X'0 hx hZ hown (host := "") (Or.inl (qw hw 99 rfl)) Via.refl rfl F_9 (g := (mkF m 11 #[rv x0, rv kq, rv vo, iv (-1 : Int32)] [.ref x0])) rfl rfl (hb hby d15_11)
 refine goo st'm ?_
 refine goo (fun _ k => XS.aloadN X'm.here hx rfl (hb hby d15_14) rfl rfl k) ?_
 obtain ⟨T'n, X'n, e'n, st'n⟩ := getF X'm hx hZ hown (host := "") (Or.inl (qw hw 91 rfl)) Via.refl e'm F_5 (g := (mkF m 15 #[rv x0, rv kq, rv vo, iv (-1 : Int32)] [.ref x0, .int i_0])) rfl rfl (hb hby d15_15)
 refine goo st'n ?_
 obtain ⟨cl716, Ar716, -, S716, N716, -, -⟩ := id V_d
 refine goo (fun _ k => X'n.arraylength hx (cell := cl716) (by rw [e'n]; exact Ar716.1) (State.isArrayOf_alike hZ.alike Ar716.2.1) (g := (mkF m 18 #[rv x0, rv kq, rv vo, iv (-1 : Int32)] [.ref ky, .int i_0])) rfl rfl (hb hby d15_18) _ (by rw [len_of S716 N716]; exact k)) ?_
 show own_G _ _ _ _ (T'n.setTop (mkF m 19 #[rv x0, rv kq, rv vo, iv (-1 : Int32)] [.int i_4, .int i_0]))
 refine goo (fun _ k => XS.icmpYes X'n.here hx rfl (pc0 := 19) (pc' := 52) rfl (hb hby d15_19) rfl ((feq (by decide : ¬ (i_0 = i_4))).2) (by decide) (by decide) <| XS.aloadN X'n.here hx rfl (hb hby d15_52) rfl rfl <| XS.aloadN X'n.here hx rfl (hb hby d15_53) rfl rfl <| XS.aloadN X'n.here hx rfl (hb hby d15_54) rfl rfl k) ?_
 obtain ⟨T'o, X'o, e'o, st'o⟩ := own_callVz X'n hx hZ (y := Y17) (z := Y12) hown (qw hw 112 rfl) (qw hw 113 rfl) (own_nf2 (args := #[]) (mvT hZ (qw hw 177 rfl)) rfl) (qw hw 115 rfl) (qw hw 116 rfl) (qw hw 3 rfl) (qw hw 117 rfl) (by decide) (W := 2) (rm17 l Z a0 hw [] kq kv hc T'0.heap (p38_.ext Old_j.2) p39_) (by decide) (by decide) rfl rfl e'n X_h (g := (mkF m 55 #[rv x0, rv kq, rv vo, iv (-1 : Int32)] [.ref kq, .ref kq, .ref x0])) rfl (by rw [hml]; rfl) (argsL := []) (rest := [.ref kq, .ref x0]) (lenOf own_pd5 rfl) rfl rfl (Nat.le_of_eq rfl) (hb hby d15_55) (by decide) (by decide)
 refine goo st'o ?_
 obtain ⟨T'p, X'p, e'p, st'p⟩ := own_callP X'o hx hZ (y := Y10) hown (qw hw 121 rfl) (qw hw 122 rfl) (qw hw 55 rfl) (qw hw 123 rfl) (by decide) (W := 2) (rm19 l Z a0 hw [] hc hv T'0.heap p40_) (by decide) (by decide) rfl rfl e'o (g := (mkF m 58 #[rv x0, rv kq, rv vo, iv (-1 : Int32)] [.int hc, .ref kq, .ref x0])) rfl (by rw [hml]; rfl) (argsL := [.int hc]) (rest := [.ref kq, .ref x0]) (lenOf own_pd0 rfl) rfl rfl (Nat.le_of_eq rfl) (hb hby d15_58) (by decide) (by decide)
 refine goo st'p ?_
 show own_G _ _ _ _ (T'p.setTop (mkF m 61 #[rv x0, rv kq, rv vo, iv (-1 : Int32)] [.int hv, .ref kq, .ref x0]))
 refine goo (fun _ k => XS.aloadN X'p.here hx rfl (hb hby d15_61) rfl rfl k) ?_
 obtain ⟨cq'q, kq'q, q'qa, q'qb, q'qc⟩ := isOf hZ e'p X_3
 obtain ⟨cp'q, cq'r, cq's⟩ := X_3.cell
 obtain ⟨_, _, ⟨T'q, L'q, k'q, n'q⟩, -, X'q, ⟨Lc'q, hQ'q, l'q, y'q, z'q⟩, st'q⟩ := own_privB X'p hx (y := Y19) hown (mvT hZ (qw hw 133 rfl)) (mvT hZ (qw hw 134 rfl)) (mvT hZ (qw hw 54 rfl)) (Cond.privateMethod_at (mvP hZ (qw hw 135 rfl) (args := #[]))) (mvT hZ (qw hw 136 rfl)) (by decide) (backOf (W := 0) (rm_ad_0_1 l Z a0 hw [] x0 vo bk ky vl hs ch k1 k2 k3 k4 k5 kq kv hc hv T'0.heap n0 Z_k X_3 F_4 F_5 F_6 F_7 F_8 F_9 F_a F_b V_c V_d V_e V_f V_g p14_ p15_ p16_ p17_ p18_ p19_ p20_ p21_ p22_ p23_ p24_ p25_ p26_ p27_ p28_ p29_ p30_ p31_ p32_ p33_ p34_ p35_ p36_ X_h p42_ X_i) hZ (qw hw 136 rfl) (qw hw 55 rfl) (by decide) (by decide)) (g := (mkF m 62 #[rv x0, rv kq, rv vo, iv (-1 : Int32)] [.ref vo, .int hv, .ref kq, .ref x0])) rfl (by rw [hml]; rfl) (a := x0) (by rw [e'p]; exact cq'r) cq's (argsL := [.ref kq, .int hv, .ref vo]) (rest := []) (lenOf own_pd8 rfl) rfl (Nat.le_of_eq rfl) (hb hby d15_62) (fun _ _ => ⟨rfl, e'p, (by decide : 0 + 0 ≤ _), (by decide : 0 + 0 ≤ _)⟩)
 dsimp only [Pt.U, Pt.locs, Pt.cells, Pt.slots] at X'q l'q y'q z'q st'q hQ'q
 subst l'q y'q z'q
 obtain ⟨rfl, Nq'q, K'q, G_t, G_u, G_v, G_w, G_x, G_y, G_z, G_10, G_11, G_12, G_13, G_14, G_15, G_16⟩ := hQ'q
 have KP_17 : Keep h0 T'q.heap [x0, bk, ky, vl, hs, ch] := KP_l.trans K'q (allS (Or.inl (List.mem_of_getElem? (i := 0) rfl)) (allS (Or.inl (List.mem_of_getElem? (i := 1) rfl)) (allS (Or.inl (List.mem_of_getElem? (i := 2) rfl)) (allS (Or.inl (List.mem_of_getElem? (i := 3) rfl)) (allS (Or.inl (List.mem_of_getElem? (i := 4) rfl)) (allS (Or.inl (List.mem_of_getElem? (i := 5) rfl)) all0))))))
 have N_q := Fr.app N_0 Nq'q
 refine goo (fun _ k => st'q.trans k) ?_
 show own_G _ _ _ _ (T'q.setTop (mkF m 65 #[rv x0, rv kq, rv vo, iv (-1 : Int32)] []))
 exact own_end X'q Bd.notSynchronized (v := none) (fun _ => rfl) (Q := Q_rm_pu_0_1 Z x0 vo bk ky vl hs ch k1 k2 k3 k4 k5 kq kv hc hv h0 n0) (by show Q_rm_pu_0_1 Z x0 vo bk ky vl hs ch k1 k2 k3 k4 k5 kq kv hc hv h0 n0 (none) T'q.heap _; exact ⟨rfl, N_q, KP_17, G_t, G_u, G_v, G_w, G_x, G_y, G_z, G_10, G_11, G_12, G_13, G_14, G_15, G_16⟩) (fun fs hr => X'q.returnOut hx Bd.returns (hb hby d15_65) hr) (by decide) (by decide)
def Q_rm_he_1_0 (Z : State) (x0 : Addr) (bk ky vl hs ch : Addr) (k1 k2 k3 k4 k5 : ClassId) (kq : Addr) (kv : Int64) (hc hv : Int32) (ca : Addr) (kca : ClassId) (cvs : List Value) (bx : Nat → Addr) (vo : Addr) (h0 : Heap) (n0 : Nat) (v : Option Value) (h : Heap) (L : List Loc) : Prop := v = some (.int (-1 : Int32)) ∧ Fr n0 L ∧ Keep h0 h []
theorem rm_he_1_0 (l : Launch) (Z : State) (a0 : Array Value) (hw : own_HW a0 Z) (ws : List Jvm.Cond) (x0 : Addr) (bk ky vl hs ch : Addr) (k1 k2 k3 k4 k5 : ClassId) (kq : Addr) (kv : Int64) (hc hv : Int32) (ca : Addr) (kca : ClassId) (cvs : List Value) (bx : Nat → Addr) (vo : Addr) (h0 : Heap) (n0 : Nat) (Z0 : n0 ≤ h0.size) (p0_ : Exa Z h0 x0 s_0) (p1_ : Fld Z h0 x0 s_0 "buckets" "[I" (.ref bk)) (p2_ : Fld Z h0 x0 s_0 "keys" "[Ljava/lang/Object;" (.ref ky)) (p3_ : Fld Z h0 x0 s_0 "values" "[Ljava/lang/Object;" (.ref vl)) (p4_ : Fld Z h0 x0 s_0 "hashes" "[I" (.ref hs)) (p5_ : Fld Z h0 x0 s_0 "chain" "[I" (.ref ch)) (p6_ : Fld Z h0 x0 s_0 "size" "I" (.int i_1)) (p7_ : Fld Z h0 x0 s_0 "count" "I" (.int i_1)) (p8_ : Fld Z h0 x0 s_0 "emptied" "Z" (.int i_0)) (p9_ : Arv Z h0 bk k1 .int i_4 [(.int (-1 : Int32)), .int i_0, (.int (-1 : Int32)), (.int (-1 : Int32))] (.int i_0)) (p10_ : Arv Z h0 ky k2 (.object s_2) i_4 [(.ref (bx 132)), .null, .null, .null] .null) (p11_ : Arv Z h0 vl k3 (.object s_2) i_4 [.ref vo, .null, .null, .null] .null) (p12_ : Arv Z h0 hs k4 .int i_4 [.int i_2027789881, .int i_0, .int i_0, .int i_0] (.int i_0)) (p13_ : Arv Z h0 ch k5 .int i_4 [(.int (-1 : Int32)), .int i_0, .int i_0, .int i_0] (.int i_0)) (p14_ : hv &&& i_3 = i_0)  :
  MetFree l Y15 (head1 (Jvm.Cond.code Y15 prog_46_method_14_code 5 (some .int) :: ws) (rr 0 0 0 0)) (fun a U => a = #[.ref x0, (.ref (kq)), (.int (hv))] ∧ Z.Warmed39 U.vm ∧ U.heap = h0) (fun _ _ _ _ _ => True) (fun _ U o U' => ∃ v L, o = .returned v ∧ Q_rm_he_1_0 Z x0 bk ky vl hs ch k1 k2 k3 k4 k5 kq kv hc hv ca kca cvs bx vo h0 n0 v U'.heap L ∧ FrameEnd U o U' L (rr 0 0 0 0).cells (rr 0 0 0 0).slots) := by
 refine MetFree.of_bodySF (plainFor_of_name own_pn1) hisR ?_
 intro p e s m args below meth c s₁ Bd hml0 hP hK
 obtain ⟨rfl, hZ, hh⟩ := hP
 have hx := Bd.exec
 have hby := Bd.bytes
 have hml : c.maxLocals = 5 := hml0
 have hown : s.vm.findClass s_0 = some m.cls := findClass_of_methodNamed Bd.named
 have hnm := (name_of_methodNamed Bd.named Bd.method).1
 have X0 : Stand p l e (rr 0 0 0 0) s m #[.ref x0, (.ref (kq)), (.int (hv))] below meth c s₁ [] 0 0 := Stand.of_body Bd
 have e0 : s₁.heap = h0 := by rw [← hh, Bd.state]; rfl
 show own_G _ _ _ _ (s₁.setTop (entryFrame m #[.ref x0, (.ref (kq)), (.int (hv))] 5))
 refine goo (fun _ k => castTop (ef_20_RRI m x0 (kq) (hv)) k) ?_
 have N0 := Fr.nil n0
 have KP0 := Keep.refl h0 []
 refine goo (fun _ k => XS.aloadN X0.here hx rfl (hb hby d20_0) rfl rfl k) ?_
 obtain ⟨T'0, X'0, e'0, st'0⟩ := getF X0 hx hZ hown (host := "") (Or.inl (qw hw 83 rfl)) Via.refl e0 p1_ (g := (mkF m 1 #[rv x0, rv kq, iv hv, .unset, .unset] [.ref x0])) rfl rfl (hb hby d20_1)
 refine goo st'0 ?_
 refine goo (fun _ k => XS.iloadN X'0.here hx rfl (hb hby d20_4) rfl <| XS.aloadN X'0.here hx rfl (hb hby d20_5) rfl rfl k) ?_
 obtain ⟨T'1, X'1, e'1, st'1⟩ := getF X'0 hx hZ hown (host := "") (Or.inl (qw hw 83 rfl)) Via.refl e'0 p1_ (g := (mkF m 6 #[rv x0, rv kq, iv hv, .unset, .unset] [.ref x0, .int hv, .ref bk])) rfl rfl (hb hby d20_6)
 refine goo st'1 ?_
 show own_G _ _ _ _ (T'1.setTop (mkF m 9 #[rv x0, rv kq, iv hv, .unset, .unset] [.ref bk, .int hv, .ref bk]))
 obtain ⟨cl742, Ar742, -, S742, N742, -, -⟩ := id p9_
 refine goo (fun _ k => X'1.arraylength hx (cell := cl742) (by rw [e'1]; exact Ar742.1) (State.isArrayOf_alike hZ.alike Ar742.2.1) (g := (mkF m 9 #[rv x0, rv kq, iv hv, .unset, .unset] [.ref bk, .int hv, .ref bk])) rfl rfl (hb hby d20_9) _ (by rw [len_of S742 N742]; exact k)) ?_
 refine goo (fun _ k => XS.iconst X'1.here hx rfl (hb hby d20_10) <| XS.isub X'1.here hx rfl (hb hby d20_11) rfl <| XS.iand X'1.here hx rfl (hb hby d20_12) rfl k) ?_
 show own_G _ _ _ _ (T'1.setTop (mkF m 13 #[rv x0, rv kq, iv hv, .unset, .unset] [(.int (hv &&& i_3)), .ref bk]))
 rw [p14_]
 obtain ⟨cl743, Ar743, -, S743, -, H743, -⟩ := id p9_
 have hin743 := inb_of S743 (j := i_0) ⟨by decide, by decide⟩
 refine goo (fun _ k => X'1.iaload hx (j := i_0) (v := (.int (-1 : Int32))) (by rw [e'1]; exact Ar743.1) (State.isArrayOf_alike hZ.alike Ar743.2.1) Ar743.2.2 hin743 (H743.at hin743 rfl) (g := (mkF m 13 #[rv x0, rv kq, iv hv, .unset, .unset] [.int i_0, .ref bk])) rfl rfl (hb hby d20_13) _ k) ?_
 refine goo (fun _ k => XS.istoreN X'1.here hx rfl (hb hby d20_14) rfl (l' := #[rv x0, rv kq, iv hv, iv (-1 : Int32), .unset]) rfl <| XS.iloadN X'1.here hx rfl (hb hby d20_15) rfl <| XS.ifYes X'1.here hx rfl (pc0 := 16) (pc' := 69) rfl (hb hby d20_16) rfl (((if0 _ _).trans (tlt (by decide : (-1 : Int32) < i_0)).1)) (by decide) (by decide) <| XS.iconst X'1.here hx rfl (hb hby d20_69) k) ?_
 show own_G _ _ _ _ (T'1.setTop (mkF m 70 #[rv x0, rv kq, iv hv, iv (-1 : Int32), .unset] [(.int (-1 : Int32))]))
 exact own_end X'1 Bd.notSynchronized (v := some (.int (-1 : Int32))) (fun h => by rw [Bd.returns] at h; cases h) (Q := Q_rm_he_1_0 Z x0 bk ky vl hs ch k1 k2 k3 k4 k5 kq kv hc hv ca kca cvs bx vo h0 n0) (by show Q_rm_he_1_0 Z x0 bk ky vl hs ch k1 k2 k3 k4 k5 kq kv hc hv ca kca cvs bx vo h0 n0 (some (.int (-1 : Int32))) T'1.heap _; rw [e'1]; exact ⟨rfl, N0, KP0⟩) (fun fs hr => retI X'1 hx Bd.returns (hb hby d20_70) hr) (by decide) (by decide)
def Q_rm_en_1_0 (Z : State) (x0 : Addr) (bk ky vl hs ch : Addr) (k1 k2 k3 k4 k5 : ClassId) (kq : Addr) (kv : Int64) (hc hv : Int32) (ca : Addr) (kca : ClassId) (cvs : List Value) (bx : Nat → Addr) (vo : Addr) (h0 : Heap) (n0 : Nat) (v : Option Value) (h : Heap) (L : List Loc) : Prop := v = some (.int (-1 : Int32)) ∧ Fr n0 L ∧ Keep h0 h []
theorem rm_en_1_0 (l : Launch) (Z : State) (a0 : Array Value) (hw : own_HW a0 Z) (ws : List Jvm.Cond) (x0 : Addr) (bk ky vl hs ch : Addr) (k1 k2 k3 k4 k5 : ClassId) (kq : Addr) (kv : Int64) (hc hv : Int32) (ca : Addr) (kca : ClassId) (cvs : List Value) (bx : Nat → Addr) (vo : Addr) (h0 : Heap) (n0 : Nat) (Z0 : n0 ≤ h0.size) (p0_ : Exa Z h0 x0 s_0) (p1_ : Fld Z h0 x0 s_0 "buckets" "[I" (.ref bk)) (p2_ : Fld Z h0 x0 s_0 "keys" "[Ljava/lang/Object;" (.ref ky)) (p3_ : Fld Z h0 x0 s_0 "values" "[Ljava/lang/Object;" (.ref vl)) (p4_ : Fld Z h0 x0 s_0 "hashes" "[I" (.ref hs)) (p5_ : Fld Z h0 x0 s_0 "chain" "[I" (.ref ch)) (p6_ : Fld Z h0 x0 s_0 "size" "I" (.int i_1)) (p7_ : Fld Z h0 x0 s_0 "count" "I" (.int i_1)) (p8_ : Fld Z h0 x0 s_0 "emptied" "Z" (.int i_0)) (p9_ : Arv Z h0 bk k1 .int i_4 [(.int (-1 : Int32)), .int i_0, (.int (-1 : Int32)), (.int (-1 : Int32))] (.int i_0)) (p10_ : Arv Z h0 ky k2 (.object s_2) i_4 [(.ref (bx 132)), .null, .null, .null] .null) (p11_ : Arv Z h0 vl k3 (.object s_2) i_4 [.ref vo, .null, .null, .null] .null) (p12_ : Arv Z h0 hs k4 .int i_4 [.int i_2027789881, .int i_0, .int i_0, .int i_0] (.int i_0)) (p13_ : Arv Z h0 ch k5 .int i_4 [(.int (-1 : Int32)), .int i_0, .int i_0, .int i_0] (.int i_0)) (p14_ : Exa Z h0 kq s_3) (p15_ : Fld Z Z.heap kq s_3 "value" "J" (.long kv)) (p16_ : F18 kv = hc) (p17_ : own_sp hc = hv) (p18_ : hv &&& i_3 = i_0) (p19_ : Old Z n0 h0)  :
  MetFree l Y16 (head1 (Jvm.Cond.code Y16 prog_46_method_12_code 4 (some .int) :: ws) (rr 2 0 0 25)) (fun a U => a = #[.ref x0, (.ref (kq))] ∧ Z.Warmed39 U.vm ∧ U.heap = h0) (fun _ _ _ _ _ => True) (fun _ U o U' => ∃ v L, o = .returned v ∧ Q_rm_en_1_0 Z x0 bk ky vl hs ch k1 k2 k3 k4 k5 kq kv hc hv ca kca cvs bx vo h0 n0 v U'.heap L ∧ FrameEnd U o U' L (rr 2 0 0 25).cells (rr 2 0 0 25).slots) := by
 refine MetFree.of_bodySF (plainFor_of_name own_pn1) hisR ?_
 intro p e s m args below meth c s₁ Bd hml0 hP hK
 obtain ⟨rfl, hZ, hh⟩ := hP
 have hx := Bd.exec
 have hby := Bd.bytes
 have hml : c.maxLocals = 4 := hml0
 have hown : s.vm.findClass s_0 = some m.cls := findClass_of_methodNamed Bd.named
 have hnm := (name_of_methodNamed Bd.named Bd.method).1
 have X0 : Stand p l e (rr 2 0 0 25) s m #[.ref x0, (.ref (kq))] below meth c s₁ [] 0 0 := Stand.of_body Bd
 have e0 : s₁.heap = h0 := by rw [← hh, Bd.state]; rfl
 show own_G _ _ _ _ (s₁.setTop (entryFrame m #[.ref x0, (.ref (kq))] 4))
 refine goo (fun _ k => castTop (ef_16_RR m x0 (kq)) k) ?_
 have N0 := Fr.nil n0
 have KP0 := Keep.refl h0 []
 refine goo (fun _ k => XS.aloadN X0.here hx rfl (hb hby d16_0) rfl rfl k) ?_
 obtain ⟨T'0, X'0, e'0, st'0⟩ := own_callVz X0 hx hZ (y := Y17) (z := Y12) hown (qw hw 112 rfl) (qw hw 113 rfl) (own_nf2 (args := #[]) (mvT hZ (qw hw 177 rfl)) rfl) (qw hw 115 rfl) (qw hw 116 rfl) (qw hw 3 rfl) (qw hw 117 rfl) (by decide) (W := 0) (rm17 l Z a0 hw [] kq kv hc h0 (p15_.ext p19_.2) p16_) (by decide) (by decide) rfl rfl e0 p14_ (g := (mkF m 1 #[rv x0, rv kq, .unset, .unset] [.ref kq])) rfl (by rw [hml]; rfl) (argsL := []) (rest := []) (lenOf own_pd5 rfl) rfl rfl (Nat.le_of_eq rfl) (hb hby d16_1) (by decide) (by decide)
 refine goo st'0 ?_
 obtain ⟨T'1, X'1, e'1, st'1⟩ := own_callP X'0 hx hZ (y := Y10) hown (qw hw 121 rfl) (qw hw 122 rfl) (qw hw 55 rfl) (qw hw 123 rfl) (by decide) (W := 0) (rm19 l Z a0 hw [] hc hv h0 p17_) (by decide) (by decide) rfl rfl e'0 (g := (mkF m 4 #[rv x0, rv kq, .unset, .unset] [.int hc])) rfl (by rw [hml]; rfl) (argsL := [.int hc]) (rest := []) (lenOf own_pd0 rfl) rfl rfl (Nat.le_of_eq rfl) (hb hby d16_4) (by decide) (by decide)
 refine goo st'1 ?_
 refine goo (fun _ k => XS.istoreN X'1.here hx rfl (hb hby d16_7) rfl (l' := #[rv x0, rv kq, iv hv, .unset]) rfl <| XS.aloadN X'1.here hx rfl (hb hby d16_8) rfl rfl k) ?_
 show own_G _ _ _ _ (T'1.setTop (mkF m 9 #[rv x0, rv kq, iv hv, .unset] [.ref x0]))
 refine goo (fun _ k => XS.aloadN X'1.here hx rfl (hb hby d16_9) rfl rfl <| XS.iloadN X'1.here hx rfl (hb hby d16_10) rfl k) ?_
 obtain ⟨cq'2, kq'2, q'2a, q'2b, q'2c⟩ := isOf hZ e'1 p0_
 obtain ⟨cp'2, cq'3, cq'4⟩ := p0_.cell
 obtain ⟨_, _, ⟨T'2, L'2, k'2, n'2⟩, -, X'2, ⟨Lc'2, hQ'2, l'2, y'2, z'2⟩, st'2⟩ := own_privB X'1 hx (y := Y15) hown (mvT hZ (qw hw 125 rfl)) (mvT hZ (qw hw 126 rfl)) (mvT hZ (qw hw 54 rfl)) (Cond.privateMethod_at (mvP hZ (qw hw 127 rfl) (args := #[]))) (mvT hZ (qw hw 128 rfl)) (by decide) (backOf (W := 0) (rm_he_1_0 l Z a0 hw [] x0 bk ky vl hs ch k1 k2 k3 k4 k5 kq kv hc hv ca kca cvs bx vo h0 n0 Z0 p0_ p1_ p2_ p3_ p4_ p5_ p6_ p7_ p8_ p9_ p10_ p11_ p12_ p13_ p18_) hZ (qw hw 128 rfl) (qw hw 55 rfl) (by decide) (by decide)) (g := (mkF m 11 #[rv x0, rv kq, iv hv, .unset] [.int hv, .ref kq, .ref x0])) rfl (by rw [hml]; rfl) (a := x0) (by rw [e'1]; exact cq'3) cq'4 (argsL := [.ref kq, .int hv]) (rest := []) (lenOf own_pd6 rfl) rfl (Nat.le_of_eq rfl) (hb hby d16_11) (fun _ _ => ⟨rfl, e'1, (by decide : 0 + 0 ≤ _), (by decide : 0 + 0 ≤ _)⟩)
 dsimp only [Pt.U, Pt.locs, Pt.cells, Pt.slots] at X'2 l'2 y'2 z'2 st'2 hQ'2
 subst l'2 y'2 z'2
 obtain ⟨rfl, Nq'2, K'2⟩ := hQ'2
 have X_5 := p14_.keep K'2
 have KP_6 : Keep h0 T'2.heap [] := KP0.trans K'2 all0
 have N_2 := Fr.app N0 Nq'2
 refine goo (fun _ k => st'2.trans k) ?_
 refine goo (fun _ k => XS.istoreN X'2.here hx rfl (hb hby d16_14) rfl (l' := #[rv x0, rv kq, iv hv, iv (-1 : Int32)]) rfl <| XS.iloadN X'2.here hx rfl (hb hby d16_15) rfl <| XS.ifNo X'2.here hx rfl (hb hby d16_16) rfl (((if0 _ _).trans (tlt (by decide : (-1 : Int32) < i_0)).2.1)) k) ?_
 show own_G _ _ _ _ (T'2.setTop (mkF m 19 #[rv x0, rv kq, iv hv, iv (-1 : Int32)] []))
 refine goo (fun _ k => XS.aloadN X'2.here hx rfl (hb hby d16_19) rfl rfl k) ?_
 obtain ⟨T'7, X'7, e'7, st'7⟩ := own_callP X'2 hx hZ (y := Y14) hown (qw hw 129 rfl) (qw hw 130 rfl) (qw hw 55 rfl) (qw hw 131 rfl) (by decide) (W := 0) (rm21 l Z a0 hw [] kq  T'2.heap X_5) (by decide) (by decide) rfl rfl rfl (g := (mkF m 20 #[rv x0, rv kq, iv hv, iv (-1 : Int32)] [.ref kq])) rfl (by rw [hml]; rfl) (argsL := [.ref kq]) (rest := []) (lenOf own_pd7 rfl) rfl rfl (Nat.le_of_eq rfl) (hb hby d16_20) (by decide) (by decide)
 refine goo st'7 ?_
 refine goo (fun _ k => XS.ifNo X'7.here hx rfl (hb hby d16_23) rfl (((if0 _ _).trans (feq (by decide : ¬ (i_1 = i_0))).1)) <| XS.iloadN X'7.here hx rfl (hb hby d16_26) rfl <| XS.goto X'7.here hx rfl (pc0 := 27) (pc' := 35) rfl (hb hby d16_27) (by decide) (by decide) k) ?_
 show own_G _ _ _ _ (T'7.setTop (mkF m 35 #[rv x0, rv kq, iv hv, iv (-1 : Int32)] [(.int (-1 : Int32))]))
 exact own_end X'7 Bd.notSynchronized (v := some (.int (-1 : Int32))) (fun h => by rw [Bd.returns] at h; cases h) (Q := Q_rm_en_1_0 Z x0 bk ky vl hs ch k1 k2 k3 k4 k5 kq kv hc hv ca kca cvs bx vo h0 n0) (by show Q_rm_en_1_0 Z x0 bk ky vl hs ch k1 k2 k3 k4 k5 kq kv hc hv ca kca cvs bx vo h0 n0 (some (.int (-1 : Int32))) T'7.heap _; rw [e'7]; exact ⟨rfl, N_2, KP_6⟩) (fun fs hr => retI X'7 hx Bd.returns (hb hby d16_35) hr) (by decide) (by decide)
def Q_rm_pl_1_0 (Z : State) (x0 : Addr) (vo : Addr) (bk ky vl hs ch : Addr) (k1 k2 k3 k4 k5 : ClassId) (kq : Addr) (kv : Int64) (hc hv : Int32) (ca : Addr) (kca : ClassId) (cvs : List Value) (bx : Nat → Addr) (h0 : Heap) (n0 : Nat) (v : Option Value) (h : Heap) (L : List Loc) : Prop := v = none ∧ Fr n0 L ∧ Keep h0 h [x0, bk, ky, vl, hs, ch] ∧ Exa Z h x0 s_0 ∧ Fld Z h x0 s_0 "count" "I" (.int i_1) ∧ Fld Z h x0 s_0 "emptied" "Z" (.int i_0)
theorem rm_pl_1_0 (l : Launch) (Z : State) (a0 : Array Value) (hw : own_HW a0 Z) (ws : List Jvm.Cond) (x0 : Addr) (vo : Addr) (bk ky vl hs ch : Addr) (k1 k2 k3 k4 k5 : ClassId) (kq : Addr) (kv : Int64) (hc hv : Int32) (ca : Addr) (kca : ClassId) (cvs : List Value) (bx : Nat → Addr) (h0 : Heap) (n0 : Nat) (Z0 : n0 ≤ h0.size) (p0_ : Exa Z h0 x0 s_0) (p1_ : Fld Z h0 x0 s_0 "buckets" "[I" (.ref bk)) (p2_ : Fld Z h0 x0 s_0 "keys" "[Ljava/lang/Object;" (.ref ky)) (p3_ : Fld Z h0 x0 s_0 "values" "[Ljava/lang/Object;" (.ref vl)) (p4_ : Fld Z h0 x0 s_0 "hashes" "[I" (.ref hs)) (p5_ : Fld Z h0 x0 s_0 "chain" "[I" (.ref ch)) (p6_ : Fld Z h0 x0 s_0 "size" "I" (.int i_1)) (p7_ : Fld Z h0 x0 s_0 "count" "I" (.int i_1)) (p8_ : Fld Z h0 x0 s_0 "emptied" "Z" (.int i_0)) (p9_ : Arv Z h0 bk k1 .int i_4 [(.int (-1 : Int32)), .int i_0, (.int (-1 : Int32)), (.int (-1 : Int32))] (.int i_0)) (p10_ : Arv Z h0 ky k2 (.object s_2) i_4 [(.ref (bx 132)), .null, .null, .null] .null) (p11_ : Arv Z h0 vl k3 (.object s_2) i_4 [.ref vo, .null, .null, .null] .null) (p12_ : Arv Z h0 hs k4 .int i_4 [.int i_2027789881, .int i_0, .int i_0, .int i_0] (.int i_0)) (p13_ : Arv Z h0 ch k5 .int i_4 [(.int (-1 : Int32)), .int i_0, .int i_0, .int i_0] (.int i_0)) (p14_ : n0 ≤ x0) (p15_ : n0 ≤ bk) (p16_ : n0 ≤ ky) (p17_ : n0 ≤ vl) (p18_ : n0 ≤ hs) (p19_ : n0 ≤ ch) (p20_ : x0 ≠ bk) (p21_ : x0 ≠ ky) (p22_ : x0 ≠ vl) (p23_ : x0 ≠ hs) (p24_ : x0 ≠ ch) (p25_ : bk ≠ ky) (p26_ : bk ≠ vl) (p27_ : bk ≠ hs) (p28_ : bk ≠ ch) (p29_ : ky ≠ vl) (p30_ : ky ≠ hs) (p31_ : ky ≠ ch) (p32_ : vl ≠ hs) (p33_ : vl ≠ ch) (p34_ : hs ≠ ch) (p35_ : Ovr Z k2 s_2) (p36_ : Ovr Z k3 s_2) (p37_ : Exa Z h0 kq s_3) (p38_ : hv &&& i_3 = i_0) (p39_ : Exa Z h0 vo s_3)  :
  MetFree l Y18 (head1 (Jvm.Cond.code Y18 prog_46_method_22_code 6 none :: ws) (rr 0 0 0 0)) (fun a U => a = #[.ref x0, (.ref (kq)), (.int (hv)), .ref vo] ∧ Z.Warmed39 U.vm ∧ U.heap = h0) (fun _ _ _ _ _ => True) (fun _ U o U' => ∃ v L, o = .returned v ∧ Q_rm_pl_1_0 Z x0 vo bk ky vl hs ch k1 k2 k3 k4 k5 kq kv hc hv ca kca cvs bx h0 n0 v U'.heap L ∧ FrameEnd U o U' L (rr 0 0 0 0).cells (rr 0 0 0 0).slots) := by
 refine MetFree.of_bodySF (plainFor_of_name own_pn1) hisR ?_
 intro p e s m args below meth c s₁ Bd hml0 hP hK
 obtain ⟨rfl, hZ, hh⟩ := hP
 have hx := Bd.exec
 have hby := Bd.bytes
 have hml : c.maxLocals = 6 := hml0
 have hown : s.vm.findClass s_0 = some m.cls := findClass_of_methodNamed Bd.named
 have hnm := (name_of_methodNamed Bd.named Bd.method).1
 have X0 : Stand p l e (rr 0 0 0 0) s m #[.ref x0, (.ref (kq)), (.int (hv)), .ref vo] below meth c s₁ [] 0 0 := Stand.of_body Bd
 have e0 : s₁.heap = h0 := by rw [← hh, Bd.state]; rfl
 show own_G _ _ _ _ (s₁.setTop (entryFrame m #[.ref x0, (.ref (kq)), (.int (hv)), .ref vo] 6))
 refine goo (fun _ k => castTop (ef_23_RRIR m x0 (kq) (hv) vo) k) ?_
 have N0 := Fr.nil n0
 have KP0 := Keep.refl h0 [x0, bk, ky, vl, hs, ch]
 refine goo (fun _ k => XS.aloadN X0.here hx rfl (hb hby d23_0) rfl rfl <| XS.dup X0.here hx rfl (hb hby d23_1) rfl rfl k) ?_
 obtain ⟨T'0, X'0, e'0, st'0⟩ := getF X0 hx hZ hown (host := "") (Or.inl (qw hw 99 rfl)) Via.refl e0 p6_ (g := (mkF m 2 #[rv x0, rv kq, iv hv, rv vo, .unset, .unset] [.ref x0, .ref x0])) rfl rfl (hb hby d23_2)
 refine goo st'0 ?_
 refine goo (fun _ k => XS.dupX1 X'0.here hx rfl (hb hby d23_5) rfl rfl rfl <| XS.iconst X'0.here hx rfl (hb hby d23_6) k) ?_
 show own_G _ _ _ _ (T'0.setTop (mkF m 7 #[rv x0, rv kq, iv hv, rv vo, .unset, .unset] [.int i_1, .int i_1, .ref x0, .int i_1]))
 refine goo (fun _ k => XS.iadd X'0.here hx rfl (hb hby d23_7) rfl k) ?_
 obtain ⟨T'1, h'1, X'1, e'1, W'1, st'1⟩ := putF X'0 hx hZ hown (host := "") (Or.inl (qw hw 99 rfl)) Via.refl e'0 p6_ p0_ (Or.inl (qw hw 100 rfl)) (qw hw 54 rfl) (ty := .int) (by decide) rfl rfl (g := (mkF m 8 #[rv x0, rv kq, iv hv, rv vo, .unset, .unset] [.int i_2, .ref x0, .int i_1])) rfl rfl (hb hby d23_8)
 have X_2 := p0_.wr W'1
 have F_3 := p1_.other W'1 (Or.inr (slot_ne (Or.inl (qw hw 84 rfl)) (Or.inl (qw hw 100 rfl)) (by decide) (t := (.array .int)) (t' := .int) (by decide) (by decide)))
 have F_4 := p2_.other W'1 (Or.inr (slot_ne (Or.inl (qw hw 92 rfl)) (Or.inl (qw hw 100 rfl)) (by decide) (t := (.array (.object s_2))) (t' := .int) (by decide) (by decide)))
 have F_5 := p3_.other W'1 (Or.inr (slot_ne (Or.inl (qw hw 94 rfl)) (Or.inl (qw hw 100 rfl)) (by decide) (t := (.array (.object s_2))) (t' := .int) (by decide) (by decide)))
 have F_6 := p4_.other W'1 (Or.inr (slot_ne (Or.inl (qw hw 96 rfl)) (Or.inl (qw hw 100 rfl)) (by decide) (t := (.array .int)) (t' := .int) (by decide) (by decide)))
 have F_7 := p5_.other W'1 (Or.inr (slot_ne (Or.inl (qw hw 98 rfl)) (Or.inl (qw hw 100 rfl)) (by decide) (t := (.array .int)) (t' := .int) (by decide) (by decide)))
 have F_8 := p7_.other W'1 (Or.inr (slot_ne (Or.inl (qw hw 143 rfl)) (Or.inl (qw hw 100 rfl)) (by decide) (t := .int) (t' := .int) (by decide) (by decide)))
 have F_9 := p8_.other W'1 (Or.inr (slot_ne (Or.inl (qw hw 145 rfl)) (Or.inl (qw hw 100 rfl)) (by decide) (t := .boolean) (t' := .int) (by decide) (by decide)))
 have V_a := p9_.other W'1 (Ne.symm p20_)
 have V_b := p10_.other W'1 (Ne.symm p21_)
 have V_c := p11_.other W'1 (Ne.symm p22_)
 have V_d := p12_.other W'1 (Ne.symm p23_)
 have V_e := p13_.other W'1 (Ne.symm p24_)
 have X_f := p37_.wr W'1
 have X_g := p39_.wr W'1
 have KP_h : Keep h0 h'1 [x0, bk, ky, vl, hs, ch] := KP0.wr W'1 (Or.inl (List.mem_of_getElem? (i := 0) rfl))
 have N_1 := Fr.snoc X'1 N0 p14_
 refine goo st'1 ?_
 refine goo (fun _ k => XS.istore X'1.here hx rfl (hb hby d23_11) rfl (l' := #[rv x0, rv kq, iv hv, rv vo, iv i_1, .unset]) rfl <| XS.iloadN X'1.here hx rfl (hb hby d23_13) rfl <| XS.aloadN X'1.here hx rfl (hb hby d23_14) rfl rfl k) ?_
 obtain ⟨T'i, X'i, e'i, st'i⟩ := getF X'1 hx hZ hown (host := "") (Or.inl (qw hw 83 rfl)) Via.refl e'1 F_3 (g := (mkF m 15 #[rv x0, rv kq, iv hv, rv vo, iv i_1, .unset] [.ref x0, .int hv])) rfl rfl (hb hby d23_15)
 refine goo st'i ?_
 show own_G _ _ _ _ (T'i.setTop (mkF m 18 #[rv x0, rv kq, iv hv, rv vo, iv i_1, .unset] [.ref bk, .int hv]))
 obtain ⟨cl787, Ar787, -, S787, N787, -, -⟩ := id V_a
 refine goo (fun _ k => X'i.arraylength hx (cell := cl787) (by rw [e'i]; exact Ar787.1) (State.isArrayOf_alike hZ.alike Ar787.2.1) (g := (mkF m 18 #[rv x0, rv kq, iv hv, rv vo, iv i_1, .unset] [.ref bk, .int hv])) rfl rfl (hb hby d23_18) _ (by rw [len_of S787 N787]; exact k)) ?_
 refine goo (fun _ k => XS.iconst X'i.here hx rfl (hb hby d23_19) <| XS.isub X'i.here hx rfl (hb hby d23_20) rfl <| XS.iand X'i.here hx rfl (hb hby d23_21) rfl k) ?_
 show own_G _ _ _ _ (T'i.setTop (mkF m 22 #[rv x0, rv kq, iv hv, rv vo, iv i_1, .unset] [(.int (hv &&& i_3))]))
 rw [p38_]
 refine goo (fun _ k => XS.istore X'i.here hx rfl (hb hby d23_22) rfl (l' := #[rv x0, rv kq, iv hv, rv vo, iv i_1, iv i_0]) rfl <| XS.aloadN X'i.here hx rfl (hb hby d23_24) rfl rfl k) ?_
 obtain ⟨T'j, X'j, e'j, st'j⟩ := getF X'i hx hZ hown (host := "") (Or.inl (qw hw 91 rfl)) Via.refl e'i F_4 (g := (mkF m 25 #[rv x0, rv kq, iv hv, rv vo, iv i_1, iv i_0] [.ref x0])) rfl rfl (hb hby d23_25)
 refine goo st'j ?_
 refine goo (fun _ k => XS.iload X'j.here hx rfl (hb hby d23_28) rfl <| XS.aloadN X'j.here hx rfl (hb hby d23_30) rfl rfl k) ?_
 obtain ⟨cl789, Ar789, q'k, S789, N789, H789, G789⟩ := id V_b
 obtain ⟨T'k, h'k, X'k, e'k, W'k, st'k⟩ := stR X'j hx hZ e'j Ar789 (j := i_1) (inb_of S789 ⟨by decide, by decide⟩) rfl (Sto.ofV Ar789 q'k p35_ (Ins.of_exa X_f (qw hw 141 rfl))) (g := (mkF m 31 #[rv x0, rv kq, iv hv, rv vo, iv i_1, iv i_0] [.ref kq, .int i_1, .ref ky])) rfl rfl (hb hby d23_31)
 have X_l := X_2.wr W'k
 have F_m := F_3.other W'k (Or.inl p21_)
 have F_n := F_5.other W'k (Or.inl p21_)
 have F_o := F_6.other W'k (Or.inl p21_)
 have F_p := F_7.other W'k (Or.inl p21_)
 have F_q := F_8.other W'k (Or.inl p21_)
 have F_r := F_9.other W'k (Or.inl p21_)
 have V_s := V_a.other W'k p25_
 have V_t := V_c.other W'k (Ne.symm p29_)
 have V_u := V_d.other W'k (Ne.symm p30_)
 have V_v := V_e.other W'k (Ne.symm p31_)
 have X_w := X_g.wr W'k
 have V789 : Arv Z h'k ky k2 (.object s_2) i_4 [(.ref (bx 132)), .ref kq, .null, .null] .null := Arv.set Ar789 q'k S789 N789 H789 G789 rfl W'k 1 rfl (Nat.le_of_ble_eq_true rfl)
 have KP_x : Keep h0 h'k [x0, bk, ky, vl, hs, ch] := KP_h.wr W'k (Or.inl (List.mem_of_getElem? (i := 2) rfl))
 have N_k := Fr.snoc X'k N_1 p16_
 refine goo st'k ?_
 show own_G _ _ _ _ (T'k.setTop (mkF m 32 #[rv x0, rv kq, iv hv, rv vo, iv i_1, iv i_0] []))
 refine goo (fun _ k => XS.aloadN X'k.here hx rfl (hb hby d23_32) rfl rfl k) ?_
 obtain ⟨T'y, X'y, e'y, st'y⟩ := getF X'k hx hZ hown (host := "") (Or.inl (qw hw 93 rfl)) Via.refl e'k F_n (g := (mkF m 33 #[rv x0, rv kq, iv hv, rv vo, iv i_1, iv i_0] [.ref x0])) rfl rfl (hb hby d23_33)
 refine goo st'y ?_
 refine goo (fun _ k => XS.iload X'y.here hx rfl (hb hby d23_36) rfl <| XS.aloadN X'y.here hx rfl (hb hby d23_38) rfl rfl k) ?_
 obtain ⟨cl808, Ar808, q'z, S808, N808, H808, G808⟩ := id V_t
 obtain ⟨T'z, h'z, X'z, e'z, W'z, st'z⟩ := stR X'y hx hZ e'y Ar808 (j := i_1) (inb_of S808 ⟨by decide, by decide⟩) rfl (Sto.ofV Ar808 q'z p36_ (Ins.of_exa X_w (qw hw 141 rfl))) (g := (mkF m 39 #[rv x0, rv kq, iv hv, rv vo, iv i_1, iv i_0] [.ref vo, .int i_1, .ref vl])) rfl rfl (hb hby d23_39)
 have X_10 := X_l.wr W'z
 have F_11 := F_m.other W'z (Or.inl p22_)
 have F_12 := F_o.other W'z (Or.inl p22_)
 have F_13 := F_p.other W'z (Or.inl p22_)
 have F_14 := F_q.other W'z (Or.inl p22_)
 have F_15 := F_r.other W'z (Or.inl p22_)
 have V_16 := V_s.other W'z p26_
 have V_17 := V_u.other W'z (Ne.symm p32_)
 have V_18 := V_v.other W'z (Ne.symm p33_)
 have V808 : Arv Z h'z vl k3 (.object s_2) i_4 [.ref vo, .ref vo, .null, .null] .null := Arv.set Ar808 q'z S808 N808 H808 G808 rfl W'z 1 rfl (Nat.le_of_ble_eq_true rfl)
 have KP_19 : Keep h0 h'z [x0, bk, ky, vl, hs, ch] := KP_x.wr W'z (Or.inl (List.mem_of_getElem? (i := 3) rfl))
 have N_z := Fr.snoc X'z N_k p17_
 refine goo st'z ?_
 refine goo (fun _ k => XS.aloadN X'z.here hx rfl (hb hby d23_40) rfl rfl k) ?_
 show own_G _ _ _ _ (T'z.setTop (mkF m 41 #[rv x0, rv kq, iv hv, rv vo, iv i_1, iv i_0] [.ref x0]))
 obtain ⟨T'1a, X'1a, e'1a, st'1a⟩ := getF X'z hx hZ hown (host := "") (Or.inl (qw hw 95 rfl)) Via.refl e'z F_12 (g := (mkF m 41 #[rv x0, rv kq, iv hv, rv vo, iv i_1, iv i_0] [.ref x0])) rfl rfl (hb hby d23_41)
 refine goo st'1a ?_
 refine goo (fun _ k => XS.iload X'1a.here hx rfl (hb hby d23_44) rfl <| XS.iloadN X'1a.here hx rfl (hb hby d23_46) rfl k) ?_
 obtain ⟨cl827, Ar827, q'1b, S827, N827, H827, G827⟩ := id V_17
 obtain ⟨T'1b, h'1b, X'1b, e'1b, W'1b, st'1b⟩ := stI X'1a hx hZ e'1a Ar827 (j := i_1) (inb_of S827 ⟨by decide, by decide⟩) (g := (mkF m 47 #[rv x0, rv kq, iv hv, rv vo, iv i_1, iv i_0] [.int hv, .int i_1, .ref hs])) rfl rfl (hb hby d23_47)
 have X_1c := X_10.wr W'1b
 have F_1d := F_11.other W'1b (Or.inl p23_)
 have F_1e := F_13.other W'1b (Or.inl p23_)
 have F_1f := F_14.other W'1b (Or.inl p23_)
 have F_1g := F_15.other W'1b (Or.inl p23_)
 have V_1h := V_16.other W'1b p27_
 have V_1i := V_18.other W'1b (Ne.symm p34_)
 have V827 : Arv Z h'1b hs k4 .int i_4 [.int i_2027789881, .int hv, .int i_0, .int i_0] (.int i_0) := Arv.set Ar827 q'1b S827 N827 H827 G827 rfl W'1b 1 rfl (Nat.le_of_ble_eq_true rfl)
 have KP_1j : Keep h0 h'1b [x0, bk, ky, vl, hs, ch] := KP_19.wr W'1b (Or.inl (List.mem_of_getElem? (i := 4) rfl))
 have N_1b := Fr.snoc X'1b N_z p18_
 refine goo st'1b ?_
 refine goo (fun _ k => XS.aloadN X'1b.here hx rfl (hb hby d23_48) rfl rfl k) ?_
 obtain ⟨T'1k, X'1k, e'1k, st'1k⟩ := getF X'1b hx hZ hown (host := "") (Or.inl (qw hw 97 rfl)) Via.refl e'1b F_1e (g := (mkF m 49 #[rv x0, rv kq, iv hv, rv vo, iv i_1, iv i_0] [.ref x0])) rfl rfl (hb hby d23_49)
 refine goo st'1k ?_
 show own_G _ _ _ _ (T'1k.setTop (mkF m 52 #[rv x0, rv kq, iv hv, rv vo, iv i_1, iv i_0] [.ref ch]))
 refine goo (fun _ k => XS.iload X'1k.here hx rfl (hb hby d23_52) rfl <| XS.aloadN X'1k.here hx rfl (hb hby d23_54) rfl rfl k) ?_
 obtain ⟨T'1l, X'1l, e'1l, st'1l⟩ := getF X'1k hx hZ hown (host := "") (Or.inl (qw hw 83 rfl)) Via.refl e'1k F_1d (g := (mkF m 55 #[rv x0, rv kq, iv hv, rv vo, iv i_1, iv i_0] [.ref x0, .int i_1, .ref ch])) rfl rfl (hb hby d23_55)
 refine goo st'1l ?_
 refine goo (fun _ k => XS.iload X'1l.here hx rfl (hb hby d23_58) rfl k) ?_
 obtain ⟨cl847, Ar847, -, S847, -, H847, -⟩ := id V_1h
 have hin847 := inb_of S847 (j := i_0) ⟨by decide, by decide⟩
 refine goo (fun _ k => X'1l.iaload hx (j := i_0) (v := (.int (-1 : Int32))) (by rw [e'1l]; exact Ar847.1) (State.isArrayOf_alike hZ.alike Ar847.2.1) Ar847.2.2 hin847 (H847.at hin847 rfl) (g := (mkF m 60 #[rv x0, rv kq, iv hv, rv vo, iv i_1, iv i_0] [.int i_0, .ref bk, .int i_1, .ref ch])) rfl rfl (hb hby d23_60) _ k) ?_
 obtain ⟨cl848, Ar848, q'1m, S848, N848, H848, G848⟩ := id V_1i
 obtain ⟨T'1m, h'1m, X'1m, e'1m, W'1m, st'1m⟩ := stI X'1l hx hZ e'1l Ar848 (j := i_1) (inb_of S848 ⟨by decide, by decide⟩) (g := (mkF m 61 #[rv x0, rv kq, iv hv, rv vo, iv i_1, iv i_0] [(.int (-1 : Int32)), .int i_1, .ref ch])) rfl rfl (hb hby d23_61)
 have X_1n := X_1c.wr W'1m
 have F_1o := F_1d.other W'1m (Or.inl p24_)
 have F_1p := F_1f.other W'1m (Or.inl p24_)
 have F_1q := F_1g.other W'1m (Or.inl p24_)
 have V_1r := V_1h.other W'1m p28_
 have V848 : Arv Z h'1m ch k5 .int i_4 [(.int (-1 : Int32)), (.int (-1 : Int32)), .int i_0, .int i_0] (.int i_0) := Arv.set Ar848 q'1m S848 N848 H848 G848 rfl W'1m 1 rfl (Nat.le_of_ble_eq_true rfl)
 have KP_1s : Keep h0 h'1m [x0, bk, ky, vl, hs, ch] := KP_1j.wr W'1m (Or.inl (List.mem_of_getElem? (i := 5) rfl))
 have N_1m := Fr.snoc X'1m N_1b p19_
 refine goo st'1m ?_
 show own_G _ _ _ _ (T'1m.setTop (mkF m 62 #[rv x0, rv kq, iv hv, rv vo, iv i_1, iv i_0] []))
 refine goo (fun _ k => XS.aloadN X'1m.here hx rfl (hb hby d23_62) rfl rfl k) ?_
 obtain ⟨T'1t, X'1t, e'1t, st'1t⟩ := getF X'1m hx hZ hown (host := "") (Or.inl (qw hw 83 rfl)) Via.refl e'1m F_1o (g := (mkF m 63 #[rv x0, rv kq, iv hv, rv vo, iv i_1, iv i_0] [.ref x0])) rfl rfl (hb hby d23_63)
 refine goo st'1t ?_
 refine goo (fun _ k => XS.iload X'1t.here hx rfl (hb hby d23_66) rfl <| XS.iload X'1t.here hx rfl (hb hby d23_68) rfl k) ?_
 obtain ⟨cl867, Ar867, q'1u, S867, N867, H867, G867⟩ := id V_1r
 obtain ⟨T'1u, h'1u, X'1u, e'1u, W'1u, st'1u⟩ := stI X'1t hx hZ e'1t Ar867 (j := i_0) (inb_of S867 ⟨by decide, by decide⟩) (g := (mkF m 70 #[rv x0, rv kq, iv hv, rv vo, iv i_1, iv i_0] [.int i_1, .int i_0, .ref bk])) rfl rfl (hb hby d23_70)
 have X_1v := X_1n.wr W'1u
 have F_1w := F_1p.other W'1u (Or.inl p20_)
 have F_1x := F_1q.other W'1u (Or.inl p20_)
 have V867 : Arv Z h'1u bk k1 .int i_4 [.int i_1, .int i_0, (.int (-1 : Int32)), (.int (-1 : Int32))] (.int i_0) := Arv.set Ar867 q'1u S867 N867 H867 G867 rfl W'1u 0 rfl (Nat.le_of_ble_eq_true rfl)
 have KP_1y : Keep h0 h'1u [x0, bk, ky, vl, hs, ch] := KP_1s.wr W'1u (Or.inl (List.mem_of_getElem? (i := 1) rfl))
 have N_1u := Fr.snoc X'1u N_1m p15_
 refine goo st'1u ?_
 show own_G _ _ _ _ (T'1u.setTop (mkF m 71 #[rv x0, rv kq, iv hv, rv vo, iv i_1, iv i_0] []))
 exact own_end X'1u Bd.notSynchronized (v := none) (fun _ => rfl) (Q := Q_rm_pl_1_0 Z x0 vo bk ky vl hs ch k1 k2 k3 k4 k5 kq kv hc hv ca kca cvs bx h0 n0) (by show Q_rm_pl_1_0 Z x0 vo bk ky vl hs ch k1 k2 k3 k4 k5 kq kv hc hv ca kca cvs bx h0 n0 (none) T'1u.heap _; rw [e'1u]; exact ⟨rfl, N_1u, KP_1y, X_1v, F_1w, F_1x⟩) (fun fs hr => X'1u.returnOut hx Bd.returns (hb hby d23_71) hr) (by decide) (by decide)
def Q_rm_ad_1_0 (Z : State) (x0 : Addr) (vo : Addr) (bk ky vl hs ch : Addr) (k1 k2 k3 k4 k5 : ClassId) (kq : Addr) (kv : Int64) (hc hv : Int32) (ca : Addr) (kca : ClassId) (cvs : List Value) (bx : Nat → Addr) (h0 : Heap) (n0 : Nat) (v : Option Value) (h : Heap) (L : List Loc) : Prop := v = none ∧ Fr n0 L ∧ Keep h0 h [x0, bk, ky, vl, hs, ch]
theorem rm_ad_1_0 (l : Launch) (Z : State) (a0 : Array Value) (hw : own_HW a0 Z) (ws : List Jvm.Cond) (x0 : Addr) (vo : Addr) (bk ky vl hs ch : Addr) (k1 k2 k3 k4 k5 : ClassId) (kq : Addr) (kv : Int64) (hc hv : Int32) (ca : Addr) (kca : ClassId) (cvs : List Value) (bx : Nat → Addr) (h0 : Heap) (n0 : Nat) (Z0 : n0 ≤ h0.size) (p0_ : Exa Z h0 x0 s_0) (p1_ : Fld Z h0 x0 s_0 "buckets" "[I" (.ref bk)) (p2_ : Fld Z h0 x0 s_0 "keys" "[Ljava/lang/Object;" (.ref ky)) (p3_ : Fld Z h0 x0 s_0 "values" "[Ljava/lang/Object;" (.ref vl)) (p4_ : Fld Z h0 x0 s_0 "hashes" "[I" (.ref hs)) (p5_ : Fld Z h0 x0 s_0 "chain" "[I" (.ref ch)) (p6_ : Fld Z h0 x0 s_0 "size" "I" (.int i_1)) (p7_ : Fld Z h0 x0 s_0 "count" "I" (.int i_1)) (p8_ : Fld Z h0 x0 s_0 "emptied" "Z" (.int i_0)) (p9_ : Arv Z h0 bk k1 .int i_4 [(.int (-1 : Int32)), .int i_0, (.int (-1 : Int32)), (.int (-1 : Int32))] (.int i_0)) (p10_ : Arv Z h0 ky k2 (.object s_2) i_4 [(.ref (bx 132)), .null, .null, .null] .null) (p11_ : Arv Z h0 vl k3 (.object s_2) i_4 [.ref vo, .null, .null, .null] .null) (p12_ : Arv Z h0 hs k4 .int i_4 [.int i_2027789881, .int i_0, .int i_0, .int i_0] (.int i_0)) (p13_ : Arv Z h0 ch k5 .int i_4 [(.int (-1 : Int32)), .int i_0, .int i_0, .int i_0] (.int i_0)) (p14_ : n0 ≤ x0) (p15_ : n0 ≤ bk) (p16_ : n0 ≤ ky) (p17_ : n0 ≤ vl) (p18_ : n0 ≤ hs) (p19_ : n0 ≤ ch) (p20_ : x0 ≠ bk) (p21_ : x0 ≠ ky) (p22_ : x0 ≠ vl) (p23_ : x0 ≠ hs) (p24_ : x0 ≠ ch) (p25_ : bk ≠ ky) (p26_ : bk ≠ vl) (p27_ : bk ≠ hs) (p28_ : bk ≠ ch) (p29_ : ky ≠ vl) (p30_ : ky ≠ hs) (p31_ : ky ≠ ch) (p32_ : vl ≠ hs) (p33_ : vl ≠ ch) (p34_ : hs ≠ ch) (p35_ : Ovr Z k2 s_2) (p36_ : Ovr Z k3 s_2) (p37_ : Exa Z h0 kq s_3) (p38_ : hv &&& i_3 = i_0) (p39_ : Exa Z h0 vo s_3)  :
  MetFree l Y19 (head1 (Jvm.Cond.code Y19 prog_46_method_21_code 4 none :: ws) (rr 1 0 0 17)) (fun a U => a = #[.ref x0, (.ref (kq)), (.int (hv)), .ref vo] ∧ Z.Warmed39 U.vm ∧ U.heap = h0) (fun _ _ _ _ _ => True) (fun _ U o U' => ∃ v L, o = .returned v ∧ Q_rm_ad_1_0 Z x0 vo bk ky vl hs ch k1 k2 k3 k4 k5 kq kv hc hv ca kca cvs bx h0 n0 v U'.heap L ∧ FrameEnd U o U' L (rr 1 0 0 17).cells (rr 1 0 0 17).slots) := by
 refine MetFree.of_bodySF (plainFor_of_name own_pn1) hisR ?_
 intro p e s m args below meth c s₁ Bd hml0 hP hK
 obtain ⟨rfl, hZ, hh⟩ := hP
 have hx := Bd.exec
 have hby := Bd.bytes
 have hml : c.maxLocals = 4 := hml0
 have hown : s.vm.findClass s_0 = some m.cls := findClass_of_methodNamed Bd.named
 have hnm := (name_of_methodNamed Bd.named Bd.method).1
 have X0 : Stand p l e (rr 1 0 0 17) s m #[.ref x0, (.ref (kq)), (.int (hv)), .ref vo] below meth c s₁ [] 0 0 := Stand.of_body Bd
 have e0 : s₁.heap = h0 := by rw [← hh, Bd.state]; rfl
 show own_G _ _ _ _ (s₁.setTop (entryFrame m #[.ref x0, (.ref (kq)), (.int (hv)), .ref vo] 4))
 refine goo (fun _ k => castTop (ef_22_RRIR m x0 (kq) (hv) vo) k) ?_
 have N0 := Fr.nil n0
 have KP0 := Keep.refl h0 [x0, bk, ky, vl, hs, ch]
 refine goo (fun _ k => XS.aloadN X0.here hx rfl (hb hby d22_0) rfl rfl <| XS.aloadN X0.here hx rfl (hb hby d22_1) rfl rfl <| XS.iloadN X0.here hx rfl (hb hby d22_2) rfl <| XS.aloadN X0.here hx rfl (hb hby d22_3) rfl rfl k) ?_
 obtain ⟨cq'0, kq'0, q'0a, q'0b, q'0c⟩ := isOf hZ e0 p0_
 obtain ⟨cp'0, cq'1, cq'2⟩ := p0_.cell
 obtain ⟨_, _, ⟨T'0, L'0, k'0, n'0⟩, -, X'0, ⟨Lc'0, hQ'0, l'0, y'0, z'0⟩, st'0⟩ := own_privB X0 hx (y := Y18) hown (mvT hZ (qw hw 137 rfl)) (mvT hZ (qw hw 138 rfl)) (mvT hZ (qw hw 54 rfl)) (Cond.privateMethod_at (mvP hZ (qw hw 139 rfl) (args := #[]))) (mvT hZ (qw hw 140 rfl)) (by decide) (backOf (W := 0) (rm_pl_1_0 l Z a0 hw [] x0 vo bk ky vl hs ch k1 k2 k3 k4 k5 kq kv hc hv ca kca cvs bx h0 n0 Z0 p0_ p1_ p2_ p3_ p4_ p5_ p6_ p7_ p8_ p9_ p10_ p11_ p12_ p13_ p14_ p15_ p16_ p17_ p18_ p19_ p20_ p21_ p22_ p23_ p24_ p25_ p26_ p27_ p28_ p29_ p30_ p31_ p32_ p33_ p34_ p35_ p36_ p37_ p38_ p39_) hZ (qw hw 140 rfl) (qw hw 55 rfl) (by decide) (by decide)) (g := (mkF m 4 #[rv x0, rv kq, iv hv, rv vo] [.ref vo, .int hv, .ref kq, .ref x0])) rfl (by rw [hml]; rfl) (a := x0) (by rw [e0]; exact cq'1) cq'2 (argsL := [.ref kq, .int hv, .ref vo]) (rest := []) (lenOf own_pd8 rfl) rfl (Nat.le_of_eq rfl) (hb hby d22_4) (fun _ _ => ⟨rfl, e0, (by decide : 0 + 0 ≤ _), (by decide : 0 + 0 ≤ _)⟩)
 dsimp only [Pt.U, Pt.locs, Pt.cells, Pt.slots] at X'0 l'0 y'0 z'0 st'0 hQ'0
 subst l'0 y'0 z'0
 obtain ⟨rfl, Nq'0, K'0, G_3, G_4, G_5⟩ := hQ'0
 have KP_6 : Keep h0 T'0.heap [x0, bk, ky, vl, hs, ch] := KP0.trans K'0 (allS (Or.inl (List.mem_of_getElem? (i := 0) rfl)) (allS (Or.inl (List.mem_of_getElem? (i := 1) rfl)) (allS (Or.inl (List.mem_of_getElem? (i := 2) rfl)) (allS (Or.inl (List.mem_of_getElem? (i := 3) rfl)) (allS (Or.inl (List.mem_of_getElem? (i := 4) rfl)) (allS (Or.inl (List.mem_of_getElem? (i := 5) rfl)) all0))))))
 have N_0 := Fr.app N0 Nq'0
 refine goo (fun _ k => st'0.trans k) ?_
 show own_G _ _ _ _ (T'0.setTop (mkF m 7 #[rv x0, rv kq, iv hv, rv vo] []))
 refine goo (fun _ k => XS.aloadN X'0.here hx rfl (hb hby d22_7) rfl rfl <| XS.dup X'0.here hx rfl (hb hby d22_8) rfl rfl k) ?_
 obtain ⟨T'7, X'7, e'7, st'7⟩ := getF X'0 hx hZ hown (host := "") (Or.inl (qw hw 142 rfl)) Via.refl rfl G_4 (g := (mkF m 9 #[rv x0, rv kq, iv hv, rv vo] [.ref x0, .ref x0])) rfl rfl (hb hby d22_9)
 refine goo st'7 ?_
 refine goo (fun _ k => XS.iconst X'7.here hx rfl (hb hby d22_12) <| XS.iadd X'7.here hx rfl (hb hby d22_13) rfl k) ?_
 obtain ⟨T'8, h'8, X'8, e'8, W'8, st'8⟩ := putF X'7 hx hZ hown (host := "") (Or.inl (qw hw 142 rfl)) Via.refl e'7 G_4 G_3 (Or.inl (qw hw 143 rfl)) (qw hw 54 rfl) (ty := .int) (by decide) rfl rfl (g := (mkF m 14 #[rv x0, rv kq, iv hv, rv vo] [.int i_2, .ref x0])) rfl rfl (hb hby d22_14)
 have X_9 := G_3.wr W'8
 have F_a := G_5.other W'8 (Or.inr (slot_ne (Or.inl (qw hw 145 rfl)) (Or.inl (qw hw 143 rfl)) (by decide) (t := .boolean) (t' := .int) (by decide) (by decide)))
 have KP_b : Keep h0 h'8 [x0, bk, ky, vl, hs, ch] := KP_6.wr W'8 (Or.inl (List.mem_of_getElem? (i := 0) rfl))
 have N_8 := Fr.snoc X'8 N_0 p14_
 refine goo st'8 ?_
 show own_G _ _ _ _ (T'8.setTop (mkF m 17 #[rv x0, rv kq, iv hv, rv vo] []))
 refine goo (fun _ k => XS.aloadN X'8.here hx rfl (hb hby d22_17) rfl rfl <| XS.iconst X'8.here hx rfl (hb hby d22_18) k) ?_
 obtain ⟨T'c, h'c, X'c, e'c, W'c, st'c⟩ := putFN X'8 hx hZ hown (qw hw 144 rfl) Via.refl e'8 F_a X_9 (Or.inl (qw hw 145 rfl)) (qw hw 54 rfl) (ty := .boolean) (v' := .int i_0) (by decide) rfl (by decide) (g := (mkF m 19 #[rv x0, rv kq, iv hv, rv vo] [.int i_0, .ref x0])) rfl rfl (hb hby d22_19)
 have KP_d : Keep h0 h'c [x0, bk, ky, vl, hs, ch] := KP_b.wr W'c (Or.inl (List.mem_of_getElem? (i := 0) rfl))
 have N_c := Fr.snoc X'c N_8 p14_
 refine goo st'c ?_
 show own_G _ _ _ _ (T'c.setTop (mkF m 22 #[rv x0, rv kq, iv hv, rv vo] []))
 exact own_end X'c Bd.notSynchronized (v := none) (fun _ => rfl) (Q := Q_rm_ad_1_0 Z x0 vo bk ky vl hs ch k1 k2 k3 k4 k5 kq kv hc hv ca kca cvs bx h0 n0) (by show Q_rm_ad_1_0 Z x0 vo bk ky vl hs ch k1 k2 k3 k4 k5 kq kv hc hv ca kca cvs bx h0 n0 (none) T'c.heap _; rw [e'c]; exact ⟨rfl, N_c, KP_d⟩) (fun fs hr => X'c.returnOut hx Bd.returns (hb hby d22_22) hr) (by decide) (by decide)
def Q_rm_pu_1_0 (Z : State) (x0 : Addr) (vo : Addr) (bk ky vl hs ch : Addr) (k1 k2 k3 k4 k5 : ClassId) (kq : Addr) (kv : Int64) (hc hv : Int32) (ca : Addr) (kca : ClassId) (cvs : List Value) (bx : Nat → Addr) (h0 : Heap) (n0 : Nat) (v : Option Value) (h : Heap) (L : List Loc) : Prop := v = none ∧ Fr n0 L ∧ Keep h0 h [x0, bk, ky, vl, hs, ch]
theorem rm_pu_1_0 (l : Launch) (Z : State) (a0 : Array Value) (hw : own_HW a0 Z) (ws : List Jvm.Cond) (x0 : Addr) (vo : Addr) (bk ky vl hs ch : Addr) (k1 k2 k3 k4 k5 : ClassId) (kq : Addr) (kv : Int64) (hc hv : Int32) (ca : Addr) (kca : ClassId) (cvs : List Value) (bx : Nat → Addr) (h0 : Heap) (n0 : Nat) (Z0 : n0 ≤ h0.size) (p0_ : Exa Z h0 x0 s_0) (p1_ : Fld Z h0 x0 s_0 "buckets" "[I" (.ref bk)) (p2_ : Fld Z h0 x0 s_0 "keys" "[Ljava/lang/Object;" (.ref ky)) (p3_ : Fld Z h0 x0 s_0 "values" "[Ljava/lang/Object;" (.ref vl)) (p4_ : Fld Z h0 x0 s_0 "hashes" "[I" (.ref hs)) (p5_ : Fld Z h0 x0 s_0 "chain" "[I" (.ref ch)) (p6_ : Fld Z h0 x0 s_0 "size" "I" (.int i_1)) (p7_ : Fld Z h0 x0 s_0 "count" "I" (.int i_1)) (p8_ : Fld Z h0 x0 s_0 "emptied" "Z" (.int i_0)) (p9_ : Arv Z h0 bk k1 .int i_4 [(.int (-1 : Int32)), .int i_0, (.int (-1 : Int32)), (.int (-1 : Int32))] (.int i_0)) (p10_ : Arv Z h0 ky k2 (.object s_2) i_4 [(.ref (bx 132)), .null, .null, .null] .null) (p11_ : Arv Z h0 vl k3 (.object s_2) i_4 [.ref vo, .null, .null, .null] .null) (p12_ : Arv Z h0 hs k4 .int i_4 [.int i_2027789881, .int i_0, .int i_0, .int i_0] (.int i_0)) (p13_ : Arv Z h0 ch k5 .int i_4 [(.int (-1 : Int32)), .int i_0, .int i_0, .int i_0] (.int i_0)) (p14_ : n0 ≤ x0) (p15_ : n0 ≤ bk) (p16_ : n0 ≤ ky) (p17_ : n0 ≤ vl) (p18_ : n0 ≤ hs) (p19_ : n0 ≤ ch) (p20_ : x0 ≠ bk) (p21_ : x0 ≠ ky) (p22_ : x0 ≠ vl) (p23_ : x0 ≠ hs) (p24_ : x0 ≠ ch) (p25_ : bk ≠ ky) (p26_ : bk ≠ vl) (p27_ : bk ≠ hs) (p28_ : bk ≠ ch) (p29_ : ky ≠ vl) (p30_ : ky ≠ hs) (p31_ : ky ≠ ch) (p32_ : vl ≠ hs) (p33_ : vl ≠ ch) (p34_ : hs ≠ ch) (p35_ : Ovr Z k2 s_2) (p36_ : Ovr Z k3 s_2) (p37_ : Exa Z h0 kq s_3) (p38_ : Fld Z Z.heap kq s_3 "value" "J" (.long kv)) (p39_ : F18 kv = hc) (p40_ : own_sp hc = hv) (p41_ : Exa Z h0 vo s_3) (p42_ : hv &&& i_3 = i_0) (p43_ : Old Z n0 h0)  :
  MetFree l Y20 (head1 (Jvm.Cond.code Y20 prog_46_method_5_code 4 none :: ws) (rr 3 0 0 40)) (fun a U => a = #[.ref x0, (.ref (kq)), .ref vo] ∧ Z.Warmed39 U.vm ∧ U.heap = h0) (fun _ _ _ _ _ => True) (fun _ U o U' => ∃ v L, o = .returned v ∧ Q_rm_pu_1_0 Z x0 vo bk ky vl hs ch k1 k2 k3 k4 k5 kq kv hc hv ca kca cvs bx h0 n0 v U'.heap L ∧ FrameEnd U o U' L (rr 3 0 0 40).cells (rr 3 0 0 40).slots) := by
 refine MetFree.of_bodySF (plainFor_of_name own_pn1) hisR ?_
 intro p e s m args below meth c s₁ Bd hml0 hP hK
 obtain ⟨rfl, hZ, hh⟩ := hP
 have hx := Bd.exec
 have hby := Bd.bytes
 have hml : c.maxLocals = 4 := hml0
 have hown : s.vm.findClass s_0 = some m.cls := findClass_of_methodNamed Bd.named
 have hnm := (name_of_methodNamed Bd.named Bd.method).1
 have X0 : Stand p l e (rr 3 0 0 40) s m #[.ref x0, (.ref (kq)), .ref vo] below meth c s₁ [] 0 0 := Stand.of_body Bd
 have e0 : s₁.heap = h0 := by rw [← hh, Bd.state]; rfl
 show own_G _ _ _ _ (s₁.setTop (entryFrame m #[.ref x0, (.ref (kq)), .ref vo] 4))
 refine goo (fun _ k => castTop (ef_15_RRR m x0 (kq) vo) k) ?_
 have N0 := Fr.nil n0
 have KP0 := Keep.refl h0 [x0, bk, ky, vl, hs, ch]
 refine goo (fun _ k => XS.aloadN X0.here hx rfl (hb hby d15_0) rfl rfl <| XS.aloadN X0.here hx rfl (hb hby d15_1) rfl rfl k) ?_
 obtain ⟨cq'0, kq'0, q'0a, q'0b, q'0c⟩ := isOf hZ e0 p0_
 obtain ⟨cp'0, cq'1, cq'2⟩ := p0_.cell
 obtain ⟨_, _, ⟨T'0, L'0, k'0, n'0⟩, -, X'0, ⟨Lc'0, hQ'0, l'0, y'0, z'0⟩, st'0⟩ := own_privB X0 hx (y := Y16) hown (mvT hZ (qw hw 108 rfl)) (mvT hZ (qw hw 109 rfl)) (mvT hZ (qw hw 54 rfl)) (Cond.privateMethod_at (mvP hZ (qw hw 110 rfl) (args := #[]))) (mvT hZ (qw hw 111 rfl)) (by decide) (backOf (W := 0) (rm_en_1_0 l Z a0 hw [] x0 bk ky vl hs ch k1 k2 k3 k4 k5 kq kv hc hv ca kca cvs bx vo h0 n0 Z0 p0_ p1_ p2_ p3_ p4_ p5_ p6_ p7_ p8_ p9_ p10_ p11_ p12_ p13_ p37_ p38_ p39_ p40_ p42_ p43_) hZ (qw hw 111 rfl) (qw hw 55 rfl) (by decide) (by decide)) (g := (mkF m 2 #[rv x0, rv kq, rv vo, .unset] [.ref kq, .ref x0])) rfl (by rw [hml]; rfl) (a := x0) (by rw [e0]; exact cq'1) cq'2 (argsL := [.ref kq]) (rest := []) (lenOf own_pd9 rfl) rfl (Nat.le_of_eq rfl) (hb hby d15_2) (fun _ _ => ⟨rfl, e0, (by decide : 0 + 0 ≤ _), (by decide : 0 + 0 ≤ _)⟩)
 dsimp only [Pt.U, Pt.locs, Pt.cells, Pt.slots] at X'0 l'0 y'0 z'0 st'0 hQ'0
 subst l'0 y'0 z'0
 obtain ⟨rfl, Nq'0, K'0⟩ := hQ'0
 have X_3 := p0_.keep K'0
 have F_4 := p1_.keep K'0 nin0
 have F_5 := p2_.keep K'0 nin0
 have F_6 := p3_.keep K'0 nin0
 have F_7 := p4_.keep K'0 nin0
 have F_8 := p5_.keep K'0 nin0
 have F_9 := p6_.keep K'0 nin0
 have F_a := p7_.keep K'0 nin0
 have F_b := p8_.keep K'0 nin0
 have V_c := p9_.keep K'0 nin0
 have V_d := p10_.keep K'0 nin0
 have V_e := p11_.keep K'0 nin0
 have V_f := p12_.keep K'0 nin0
 have V_g := p13_.keep K'0 nin0
 have X_h := p37_.keep K'0
 have X_i := p41_.keep K'0
 have Old_j := p43_.keep K'0 all0
 have Z_k : n0 ≤ T'0.heap.size := Nat.le_trans Z0 K'0.1
 have KP_l : Keep h0 T'0.heap [x0, bk, ky, vl, hs, ch] := KP0.trans K'0 all0
 have N_0 := Fr.app N0 Nq'0
 refine goo (fun _ k => st'0.trans k) ?_
 refine goo (fun _ k => XS.istoreN X'0.here hx rfl (hb hby d15_5) rfl (l' := #[rv x0, rv kq, rv vo, iv (-1 : Int32)]) rfl <| XS.iloadN X'0.here hx rfl (hb hby d15_6) rfl k) ?_
 show own_G _ _ _ _ (T'0.setTop (mkF m 7 #[rv x0, rv kq, rv vo, iv (-1 : Int32)] [(.int (-1 : Int32))]))
 refine goo (fun _ k => XS.ifNo X'0.here hx rfl (hb hby d15_7) rfl (((if0 _ _).trans (tlt (by decide : (-1 : Int32) < i_0)).2.1)) <| XS.aloadN X'0.here hx rfl (hb hby d15_10) rfl rfl k) ?_
 obtain ⟨T'm, X'm, e'm, st'm⟩ := getF X'0 hx hZ hown (host := "") (Or.inl (qw hw 99 rfl)) Via.refl rfl F_9 (g := (mkF m 11 #[rv x0, rv kq, rv vo, iv (-1 : Int32)] [.ref x0])) rfl rfl (hb hby d15_11)
 refine goo st'm ?_
 refine goo (fun _ k => XS.aloadN X'm.here hx rfl (hb hby d15_14) rfl rfl k) ?_
 obtain ⟨T'n, X'n, e'n, st'n⟩ := getF X'm hx hZ hown (host := "") (Or.inl (qw hw 91 rfl)) Via.refl e'm F_5 (g := (mkF m 15 #[rv x0, rv kq, rv vo, iv (-1 : Int32)] [.ref x0, .int i_1])) rfl rfl (hb hby d15_15)
 refine goo st'n ?_
 obtain ⟨cl933, Ar933, -, S933, N933, -, -⟩ := id V_d
 refine goo (fun _ k => X'n.arraylength hx (cell := cl933) (by rw [e'n]; exact Ar933.1) (State.isArrayOf_alike hZ.alike Ar933.2.1) (g := (mkF m 18 #[rv x0, rv kq, rv vo, iv (-1 : Int32)] [.ref ky, .int i_1])) rfl rfl (hb hby d15_18) _ (by rw [len_of S933 N933]; exact k)) ?_
 show own_G _ _ _ _ (T'n.setTop (mkF m 19 #[rv x0, rv kq, rv vo, iv (-1 : Int32)] [.int i_4, .int i_1]))
 refine goo (fun _ k => XS.icmpYes X'n.here hx rfl (pc0 := 19) (pc' := 52) rfl (hb hby d15_19) rfl ((feq (by decide : ¬ (i_1 = i_4))).2) (by decide) (by decide) <| XS.aloadN X'n.here hx rfl (hb hby d15_52) rfl rfl <| XS.aloadN X'n.here hx rfl (hb hby d15_53) rfl rfl <| XS.aloadN X'n.here hx rfl (hb hby d15_54) rfl rfl k) ?_
 obtain ⟨T'o, X'o, e'o, st'o⟩ := own_callVz X'n hx hZ (y := Y17) (z := Y12) hown (qw hw 112 rfl) (qw hw 113 rfl) (own_nf2 (args := #[]) (mvT hZ (qw hw 177 rfl)) rfl) (qw hw 115 rfl) (qw hw 116 rfl) (qw hw 3 rfl) (qw hw 117 rfl) (by decide) (W := 2) (rm17 l Z a0 hw [] kq kv hc T'0.heap (p38_.ext Old_j.2) p39_) (by decide) (by decide) rfl rfl e'n X_h (g := (mkF m 55 #[rv x0, rv kq, rv vo, iv (-1 : Int32)] [.ref kq, .ref kq, .ref x0])) rfl (by rw [hml]; rfl) (argsL := []) (rest := [.ref kq, .ref x0]) (lenOf own_pd5 rfl) rfl rfl (Nat.le_of_eq rfl) (hb hby d15_55) (by decide) (by decide)
 refine goo st'o ?_
 obtain ⟨T'p, X'p, e'p, st'p⟩ := own_callP X'o hx hZ (y := Y10) hown (qw hw 121 rfl) (qw hw 122 rfl) (qw hw 55 rfl) (qw hw 123 rfl) (by decide) (W := 2) (rm19 l Z a0 hw [] hc hv T'0.heap p40_) (by decide) (by decide) rfl rfl e'o (g := (mkF m 58 #[rv x0, rv kq, rv vo, iv (-1 : Int32)] [.int hc, .ref kq, .ref x0])) rfl (by rw [hml]; rfl) (argsL := [.int hc]) (rest := [.ref kq, .ref x0]) (lenOf own_pd0 rfl) rfl rfl (Nat.le_of_eq rfl) (hb hby d15_58) (by decide) (by decide)
 refine goo st'p ?_
 show own_G _ _ _ _ (T'p.setTop (mkF m 61 #[rv x0, rv kq, rv vo, iv (-1 : Int32)] [.int hv, .ref kq, .ref x0]))
 refine goo (fun _ k => XS.aloadN X'p.here hx rfl (hb hby d15_61) rfl rfl k) ?_
 obtain ⟨cq'q, kq'q, q'qa, q'qb, q'qc⟩ := isOf hZ e'p X_3
 obtain ⟨cp'q, cq'r, cq's⟩ := X_3.cell
 obtain ⟨_, _, ⟨T'q, L'q, k'q, n'q⟩, -, X'q, ⟨Lc'q, hQ'q, l'q, y'q, z'q⟩, st'q⟩ := own_privB X'p hx (y := Y19) hown (mvT hZ (qw hw 133 rfl)) (mvT hZ (qw hw 134 rfl)) (mvT hZ (qw hw 54 rfl)) (Cond.privateMethod_at (mvP hZ (qw hw 135 rfl) (args := #[]))) (mvT hZ (qw hw 136 rfl)) (by decide) (backOf (W := 0) (rm_ad_1_0 l Z a0 hw [] x0 vo bk ky vl hs ch k1 k2 k3 k4 k5 kq kv hc hv ca kca cvs bx T'0.heap n0 Z_k X_3 F_4 F_5 F_6 F_7 F_8 F_9 F_a F_b V_c V_d V_e V_f V_g p14_ p15_ p16_ p17_ p18_ p19_ p20_ p21_ p22_ p23_ p24_ p25_ p26_ p27_ p28_ p29_ p30_ p31_ p32_ p33_ p34_ p35_ p36_ X_h p42_ X_i) hZ (qw hw 136 rfl) (qw hw 55 rfl) (by decide) (by decide)) (g := (mkF m 62 #[rv x0, rv kq, rv vo, iv (-1 : Int32)] [.ref vo, .int hv, .ref kq, .ref x0])) rfl (by rw [hml]; rfl) (a := x0) (by rw [e'p]; exact cq'r) cq's (argsL := [.ref kq, .int hv, .ref vo]) (rest := []) (lenOf own_pd8 rfl) rfl (Nat.le_of_eq rfl) (hb hby d15_62) (fun _ _ => ⟨rfl, e'p, (by decide : 0 + 0 ≤ _), (by decide : 0 + 0 ≤ _)⟩)
 dsimp only [Pt.U, Pt.locs, Pt.cells, Pt.slots] at X'q l'q y'q z'q st'q hQ'q
 subst l'q y'q z'q
 obtain ⟨rfl, Nq'q, K'q⟩ := hQ'q
 have KP_t : Keep h0 T'q.heap [x0, bk, ky, vl, hs, ch] := KP_l.trans K'q (allS (Or.inl (List.mem_of_getElem? (i := 0) rfl)) (allS (Or.inl (List.mem_of_getElem? (i := 1) rfl)) (allS (Or.inl (List.mem_of_getElem? (i := 2) rfl)) (allS (Or.inl (List.mem_of_getElem? (i := 3) rfl)) (allS (Or.inl (List.mem_of_getElem? (i := 4) rfl)) (allS (Or.inl (List.mem_of_getElem? (i := 5) rfl)) all0))))))
 have N_q := Fr.app N_0 Nq'q
 refine goo (fun _ k => st'q.trans k) ?_
 show own_G _ _ _ _ (T'q.setTop (mkF m 65 #[rv x0, rv kq, rv vo, iv (-1 : Int32)] []))
 exact own_end X'q Bd.notSynchronized (v := none) (fun _ => rfl) (Q := Q_rm_pu_1_0 Z x0 vo bk ky vl hs ch k1 k2 k3 k4 k5 kq kv hc hv ca kca cvs bx h0 n0) (by show Q_rm_pu_1_0 Z x0 vo bk ky vl hs ch k1 k2 k3 k4 k5 kq kv hc hv ca kca cvs bx h0 n0 (none) T'q.heap _; exact ⟨rfl, N_q, KP_t⟩) (fun fs hr => X'q.returnOut hx Bd.returns (hb hby d15_65) hr) (by decide) (by decide)
def Q_rm_pn (Z : State) (x0 : Addr) (x1 : Addr)  (h0 : Heap) (n0 : Nat) (v : Option Value) (h : Heap) (L : List Loc) : Prop := v = none ∧ Fr n0 L ∧ Keep h0 h []
theorem d7_0 : decode prog_60_method_17_code 0 = .ok (.aload_n 2, 1) := by decide +kernel
theorem d7_1 : decode prog_60_method_17_code 1 = .ok (.ifnonnull 22, 3) := by decide +kernel
theorem d7_4 : decode prog_60_method_17_code 4 = .ok (.aload_n 0, 1) := by decide +kernel
theorem d7_5 : decode prog_60_method_17_code 5 = .ok (.getfield 23, 3) := by decide +kernel
theorem d7_8 : decode prog_60_method_17_code 8 = .ok (.ifnull 43, 3) := by decide +kernel
theorem d7_23 : decode prog_60_method_17_code 23 = .ok (.aload_n 0, 1) := by decide +kernel
theorem d7_24 : decode prog_60_method_17_code 24 = .ok (.getfield 23, 3) := by decide +kernel
theorem d7_27 : decode prog_60_method_17_code 27 = .ok (.ifnonnull 15, 3) := by decide +kernel
theorem d7_30 : decode prog_60_method_17_code 30 = .ok (.aload_n 0, 1) := by decide +kernel
theorem d7_31 : decode prog_60_method_17_code 31 = .ok (.new 18, 3) := by decide +kernel
theorem d7_34 : decode prog_60_method_17_code 34 = .ok (.dup, 1) := by decide +kernel
theorem d7_35 : decode prog_60_method_17_code 35 = .ok (.iconst 1, 1) := by decide +kernel
theorem d7_36 : decode prog_60_method_17_code 36 = .ok (.invokespecial 20, 3) := by decide +kernel
theorem d7_39 : decode prog_60_method_17_code 39 = .ok (.putfield 23, 3) := by decide +kernel
theorem d7_42 : decode prog_60_method_17_code 42 = .ok (.aload_n 0, 1) := by decide +kernel
theorem d7_43 : decode prog_60_method_17_code 43 = .ok (.getfield 23, 3) := by decide +kernel
theorem d7_46 : decode prog_60_method_17_code 46 = .ok (.aload_n 1, 1) := by decide +kernel
theorem d7_47 : decode prog_60_method_17_code 47 = .ok (.aload_n 2, 1) := by decide +kernel
theorem d7_48 : decode prog_60_method_17_code 48 = .ok (.invokevirtual 157, 3) := by decide +kernel
theorem d7_51 : decode prog_60_method_17_code 51 = .ok (.return_, 1) := by decide +kernel
theorem ef_7_RRn (m : MethodId) (x0 : Addr) (x1 : Addr) : entryFrame m #[(.ref x0), (.ref x1), .null] 3 = mkF m 0 #[.val (.ref x0), .val (.ref x1), .val .null] [] := by
  first | (simp [entryFrame, mkF, argsToLocals, Value.category]; done) | rfl
theorem rm_pn (l : Launch) (Z : State) (a0 : Array Value) (hw : own_HW a0 Z) (ws : List Jvm.Cond) (x0 : Addr) (x1 : Addr)  (h0 : Heap) (n0 : Nat) (Z0 : n0 ≤ h0.size) (p0_ : Fld Z h0 x0 s_1 "hash" "Lcom/example/plainsong/plainsong/engine/HashPart;" .null)  :
  MetFree l Y21 (head1 (Jvm.Cond.code Y21 prog_60_method_17_code 3 none :: ws) (rr 0 0 0 0)) (fun a U => a = #[.ref x0, .ref x1, .null] ∧ Z.Warmed39 U.vm ∧ U.heap = h0) (fun _ _ _ _ _ => True) (fun _ U o U' => ∃ v L, o = .returned v ∧ Q_rm_pn Z x0 x1 h0 n0 v U'.heap L ∧ FrameEnd U o U' L (rr 0 0 0 0).cells (rr 0 0 0 0).slots) := by
 refine MetFree.of_bodySF (plainFor_of_name own_pn2) hisR ?_
 intro p e s m args below meth c s₁ Bd hml0 hP hK
 obtain ⟨rfl, hZ, hh⟩ := hP
 have hx := Bd.exec
 have hby := Bd.bytes
 have hml : c.maxLocals = 3 := hml0
 have hown : s.vm.findClass s_1 = some m.cls := findClass_of_methodNamed Bd.named
 have hnm := (name_of_methodNamed Bd.named Bd.method).1
 have X0 : Stand p l e (rr 0 0 0 0) s m #[.ref x0, .ref x1, .null] below meth c s₁ [] 0 0 := Stand.of_body Bd
 have e0 : s₁.heap = h0 := by rw [← hh, Bd.state]; rfl
 show own_G _ _ _ _ (s₁.setTop (entryFrame m #[.ref x0, .ref x1, .null] 3))
 refine goo (fun _ k => castTop (ef_7_RRn m x0 x1) k) ?_
 have N0 := Fr.nil n0
 have KP0 := Keep.refl h0 []
 refine goo (fun _ k => XS.aloadN X0.here hx rfl (hb hby d7_0) rfl rfl <| XS.ifnonnullNo X0.here hx rfl (hb hby d7_1) rfl <| XS.aloadN X0.here hx rfl (hb hby d7_4) rfl rfl k) ?_
 obtain ⟨T'0, X'0, e'0, st'0⟩ := getF X0 hx hZ hown (host := "") (Or.inl (qw hw 51 rfl)) Via.refl e0 p0_ (g := (mkF m 5 #[rv x0, rv x1, .val .null] [.ref x0])) rfl rfl (hb hby d7_5)
 refine goo st'0 ?_
 refine goo (fun _ k => XS.ifnullYes X'0.here hx rfl (pc0 := 8) (pc' := 51) rfl (hb hby d7_8) rfl (by decide) (by decide) k) ?_
 show own_G _ _ _ _ (T'0.setTop (mkF m 51 #[rv x0, rv x1, .val .null] []))
 exact own_end X'0 Bd.notSynchronized (v := none) (fun _ => rfl) (Q := Q_rm_pn Z x0 x1 h0 n0) (by show Q_rm_pn Z x0 x1 h0 n0 (none) T'0.heap _; rw [e'0]; exact ⟨rfl, N0, KP0⟩) (fun fs hr => X'0.returnOut hx Bd.returns (hb hby d7_51) hr) (by decide) (by decide)
def Q_rm_ph0 (Z : State) (x0 : Addr) (vo : Addr) (ar : Addr) (c_ ho_ : Int32) (kq : Addr) (kv : Int64) (hc hv : Int32) (h0 : Heap) (n0 : Nat) (v : Option Value) (h : Heap) (L : List Loc) : Prop := v = none ∧ Fr n0 L ∧ Keep h0 h [x0] ∧ Exa Z h x0 s_1 ∧ Fld Z h x0 s_1 "array" "[Ljava/lang/Object;" (.ref ar) ∧ Fld Z h x0 s_1 "arrayCount" "I" (.int c_) ∧ Fld Z h x0 s_1 "holes" "Z" (.int ho_)
theorem own_pd10 : parseMethodDescriptor "(Ljava/lang/Object;Ljava/lang/Object;)V" = some ⟨[(.object "java/lang/Object"), (.object "java/lang/Object")], none⟩ := by decide +kernel
theorem ef_7_RRR (m : MethodId) (x0 : Addr) (x1 : Addr) (x2 : Addr) : entryFrame m #[(.ref x0), (.ref x1), (.ref x2)] 3 = mkF m 0 #[.val (.ref x0), .val (.ref x1), .val (.ref x2)] [] := by
  first | (simp [entryFrame, mkF, argsToLocals, Value.category]; done) | rfl
theorem rm_ph0 (l : Launch) (Z : State) (a0 : Array Value) (hw : own_HW a0 Z) (ws : List Jvm.Cond) (x0 : Addr) (vo : Addr) (ar : Addr) (c_ ho_ : Int32) (kq : Addr) (kv : Int64) (hc hv : Int32) (h0 : Heap) (n0 : Nat) (Z0 : n0 ≤ h0.size) (p0_ : Exa Z h0 x0 s_1) (p1_ : Fld Z h0 x0 s_1 "array" "[Ljava/lang/Object;" (.ref ar)) (p2_ : Fld Z h0 x0 s_1 "arrayCount" "I" (.int c_)) (p3_ : Fld Z h0 x0 s_1 "holes" "Z" (.int ho_)) (p4_ : Fld Z h0 x0 s_1 "hash" "Lcom/example/plainsong/plainsong/engine/HashPart;" .null) (p5_ : n0 ≤ x0) (p6_ : Exa Z h0 kq s_3) (p7_ : Fld Z Z.heap kq s_3 "value" "J" (.long kv)) (p8_ : F18 kv = hc) (p9_ : own_sp hc = hv) (p10_ : hv &&& i_3 = i_0) (p11_ : Exa Z h0 vo s_3) (p12_ : Old Z n0 h0)  :
  MetFree l Y21 (head1 (Jvm.Cond.code Y21 prog_60_method_17_code 3 none :: ws) (rr 4 6 30 58)) (fun a U => a = #[.ref x0, (.ref (kq)), .ref vo] ∧ Z.Warmed39 U.vm ∧ U.heap = h0) (fun _ _ _ _ _ => True) (fun _ U o U' => ∃ v L, o = .returned v ∧ Q_rm_ph0 Z x0 vo ar c_ ho_ kq kv hc hv h0 n0 v U'.heap L ∧ FrameEnd U o U' L (rr 4 6 30 58).cells (rr 4 6 30 58).slots) := by
 refine MetFree.of_bodySF (plainFor_of_name own_pn2) hisR ?_
 intro p e s m args below meth c s₁ Bd hml0 hP hK
 obtain ⟨rfl, hZ, hh⟩ := hP
 have hx := Bd.exec
 have hby := Bd.bytes
 have hml : c.maxLocals = 3 := hml0
 have hown : s.vm.findClass s_1 = some m.cls := findClass_of_methodNamed Bd.named
 have hnm := (name_of_methodNamed Bd.named Bd.method).1
 have X0 : Stand p l e (rr 4 6 30 58) s m #[.ref x0, (.ref (kq)), .ref vo] below meth c s₁ [] 0 0 := Stand.of_body Bd
 have e0 : s₁.heap = h0 := by rw [← hh, Bd.state]; rfl
 show own_G _ _ _ _ (s₁.setTop (entryFrame m #[.ref x0, (.ref (kq)), .ref vo] 3))
 refine goo (fun _ k => castTop (ef_7_RRR m x0 (kq) vo) k) ?_
 have N0 := Fr.nil n0
 have KP0 := Keep.refl h0 [x0]
 refine goo (fun _ k => XS.aloadN X0.here hx rfl (hb hby d7_0) rfl rfl <| XS.ifnonnullYes X0.here hx rfl (pc0 := 1) (pc' := 23) rfl (hb hby d7_1) rfl (by decide) (by decide) <| XS.aloadN X0.here hx rfl (hb hby d7_23) rfl rfl k) ?_
 obtain ⟨T'0, X'0, e'0, st'0⟩ := getF X0 hx hZ hown (host := "") (Or.inl (qw hw 51 rfl)) Via.refl e0 p4_ (g := (mkF m 24 #[rv x0, rv kq, rv vo] [.ref x0])) rfl rfl (hb hby d7_24)
 refine goo st'0 ?_
 refine goo (fun _ k => XS.ifnonnullNo X'0.here hx rfl (hb hby d7_27) rfl k) ?_
 show own_G _ _ _ _ (T'0.setTop (mkF m 30 #[rv x0, rv kq, rv vo] []))
 refine goo (fun _ k => XS.aloadN X'0.here hx rfl (hb hby d7_30) rfl rfl k) ?_
 obtain ⟨T'1, h'1, X'1, e'1, E'1, A'1, D'1, -, st'1⟩ := newO X'0 hx hZ hown (qw hw 53 rfl) (qw hw 54 rfl) (qw hw 55 rfl) e'0 (g := (mkF m 31 #[rv x0, rv kq, rv vo] [.ref x0])) rfl (hb hby d7_31) (by decide) (by decide)
 obtain ⟨b'1, g'1⟩ : ∃ z, z = h0.size := ⟨_, rfl⟩
 rw [← g'1] at A'1 D'1 st'1
 have ne_2 : x0 ≠ b'1 := Nat.ne_of_lt (Nat.lt_of_lt_of_le p0_.lt (Nat.le_of_eq g'1.symm))
 have ge_3 : n0 ≤ b'1 := Nat.le_trans Z0 (Nat.le_of_eq g'1.symm)
 have sz_950 : h0.size ≤ b'1 := Nat.le_trans KP0.1 (Nat.le_of_eq g'1.symm)
 have X_4 := p0_.ext E'1
 have F_5 := p1_.ext E'1
 have F_6 := p2_.ext E'1
 have F_7 := p3_.ext E'1
 have F_8 := p4_.ext E'1
 have X_9 := p6_.ext E'1
 have X_a := p11_.ext E'1
 have Old_b := p12_.ext E'1
 have Z_c : n0 ≤ h'1.size := Nat.le_trans Z0 E'1.1
 have KP_d : Keep h0 h'1 [x0] := KP0.ext E'1
 have F_e : Fld Z h'1 b'1 s_0 "buckets" "[I" .null := D'1 (Or.inl (qw hw 84 rfl)) (ty := (.array .int)) (by decide)
 have F_f : Fld Z h'1 b'1 s_0 "keys" "[Ljava/lang/Object;" .null := D'1 (Or.inl (qw hw 92 rfl)) (ty := (.array (.object s_2))) (by decide)
 have F_g : Fld Z h'1 b'1 s_0 "values" "[Ljava/lang/Object;" .null := D'1 (Or.inl (qw hw 94 rfl)) (ty := (.array (.object s_2))) (by decide)
 have F_h : Fld Z h'1 b'1 s_0 "hashes" "[I" .null := D'1 (Or.inl (qw hw 96 rfl)) (ty := (.array .int)) (by decide)
 have F_i : Fld Z h'1 b'1 s_0 "chain" "[I" .null := D'1 (Or.inl (qw hw 98 rfl)) (ty := (.array .int)) (by decide)
 have F_j : Fld Z h'1 b'1 s_0 "size" "I" (.int i_0) := D'1 (Or.inl (qw hw 100 rfl)) (ty := .int) (by decide)
 have F_k : Fld Z h'1 b'1 s_0 "fewest" "I" (.int i_0) := D'1 (Or.inl (qw hw 102 rfl)) (ty := .int) (by decide)
 have F_l : Fld Z h'1 b'1 s_0 "count" "I" (.int i_0) := D'1 (Or.inl (qw hw 143 rfl)) (ty := .int) (by decide)
 have F_m : Fld Z h'1 b'1 s_0 "emptied" "Z" (.int i_0) := D'1 (Or.inl (qw hw 145 rfl)) (ty := .boolean) (by decide)
 refine goo st'1 ?_
 refine goo (fun _ k => XS.dup X'1.here hx rfl (hb hby d7_34) rfl rfl <| XS.iconst X'1.here hx rfl (hb hby d7_35) k) ?_
 obtain ⟨_, _, ⟨T'n, L'n, k'n, n'n⟩, -, X'n, ⟨Lc'n, hQ'n, l'n, y'n, z'n⟩, st'n⟩ := X'1.specialBack hx (y := Y9) rfl hown (mvT hZ (qw hw 56 rfl)) (mvT hZ (qw hw 57 rfl)) (mvT hZ (qw hw 58 rfl)) (by decide) (backOf (W := 2) (rm8 l Z a0 hw [] b'1  h'1 n0 Z_c A'1 ge_3 F_e F_f F_g F_h F_i F_j F_l F_k F_m) hZ (qw hw 58 rfl) (qw hw 55 rfl) (by decide) (by decide)) (g := (mkF m 36 #[rv x0, rv kq, rv vo] [.int i_1, .ref b'1, .ref b'1, .ref x0])) rfl (by rw [hml]; rfl) (Steps.refl _) (a := b'1) (argsL := [.int i_1]) (rest := [.ref b'1, .ref x0]) (lenOf own_pd4 rfl) rfl (Nat.le_of_eq rfl) (hb hby d7_36) (fun _ _ => ⟨rfl, e'1, (by decide : 1 + 5 ≤ _), (by decide : 10 + 20 ≤ _)⟩)
 dsimp only [Pt.U, Pt.locs, Pt.cells, Pt.slots] at X'n l'n y'n z'n st'n hQ'n
 subst l'n y'n z'n
 obtain ⟨rfl, Nq'n, K'n, G_o, qx'n⟩ := hQ'n
 obtain ⟨bk970, ky970, vl970, hs970, ch970, k'p, k'q, k'r, k's, k't, Hg0_970, Hg1_970, Hg2_970, Hg3_970, Hg4_970, Hf0_970, Hf1_970, Hf2_970, Hf3_970, Hf4_970, Hf5_970, Hf6_970, Hf7_970, Hf8_970, Hf9_970, Hf10_970, Hf11_970, Hf12_970, Hn0_970, Hn1_970, Hn2_970, Hn3_970, Hn4_970, Hn5_970, Hn6_970, Hn7_970, Hn8_970, Hn9_970, Ho2_970, Ho3_970⟩ := qx'n
 have ne_u : x0 ≠ bk970 := Nat.ne_of_lt (Nat.lt_of_lt_of_le X_4.lt Hg0_970)
 have ne_v : b'1 ≠ bk970 := Nat.ne_of_lt (Nat.lt_of_lt_of_le A'1.lt Hg0_970)
 have ge_w : n0 ≤ bk970 := Nat.le_trans Z_c Hg0_970
 have sz_977 : h0.size ≤ bk970 := Nat.le_trans KP_d.1 Hg0_970
 have ne_x : x0 ≠ ky970 := Nat.ne_of_lt (Nat.lt_of_lt_of_le X_4.lt Hg1_970)
 have ne_y : b'1 ≠ ky970 := Nat.ne_of_lt (Nat.lt_of_lt_of_le A'1.lt Hg1_970)
 have ge_z : n0 ≤ ky970 := Nat.le_trans Z_c Hg1_970
 have sz_983 : h0.size ≤ ky970 := Nat.le_trans KP_d.1 Hg1_970
 have ne_10 : x0 ≠ vl970 := Nat.ne_of_lt (Nat.lt_of_lt_of_le X_4.lt Hg2_970)
 have ne_11 : b'1 ≠ vl970 := Nat.ne_of_lt (Nat.lt_of_lt_of_le A'1.lt Hg2_970)
 have ge_12 : n0 ≤ vl970 := Nat.le_trans Z_c Hg2_970
 have sz_989 : h0.size ≤ vl970 := Nat.le_trans KP_d.1 Hg2_970
 have ne_13 : x0 ≠ hs970 := Nat.ne_of_lt (Nat.lt_of_lt_of_le X_4.lt Hg3_970)
 have ne_14 : b'1 ≠ hs970 := Nat.ne_of_lt (Nat.lt_of_lt_of_le A'1.lt Hg3_970)
 have ge_15 : n0 ≤ hs970 := Nat.le_trans Z_c Hg3_970
 have sz_995 : h0.size ≤ hs970 := Nat.le_trans KP_d.1 Hg3_970
 have ne_16 : x0 ≠ ch970 := Nat.ne_of_lt (Nat.lt_of_lt_of_le X_4.lt Hg4_970)
 have ne_17 : b'1 ≠ ch970 := Nat.ne_of_lt (Nat.lt_of_lt_of_le A'1.lt Hg4_970)
 have ge_18 : n0 ≤ ch970 := Nat.le_trans Z_c Hg4_970
 have sz_1001 : h0.size ≤ ch970 := Nat.le_trans KP_d.1 Hg4_970
 have X_19 := X_4.keep K'n
 have F_1a := F_5.keep K'n (ninS ne_2 nin0)
 have F_1b := F_6.keep K'n (ninS ne_2 nin0)
 have F_1c := F_7.keep K'n (ninS ne_2 nin0)
 have F_1d := F_8.keep K'n (ninS ne_2 nin0)
 have X_1e := X_9.keep K'n
 have X_1f := X_a.keep K'n
 have Old_1g := Old_b.keep K'n (allS ge_3 all0)
 have Z_1h : n0 ≤ T'n.heap.size := Nat.le_trans Z_c K'n.1
 have KP_1i : Keep h0 T'n.heap [x0] := KP_d.trans K'n (allS (Or.inr sz_950) all0)
 have N_n := Fr.app N0 Nq'n
 refine goo (fun _ k => st'n.trans k) ?_
 obtain ⟨T'1j, h'1j, X'1j, e'1j, W'1j, st'1j⟩ := putF X'n hx hZ hown (host := "") (Or.inl (qw hw 51 rfl)) Via.refl rfl F_1d X_19 (Or.inl (qw hw 52 rfl)) (qw hw 24 rfl) (ty := (.object s_0)) (by decide) rfl rfl (g := (mkF m 39 #[rv x0, rv kq, rv vo] [.ref b'1, .ref x0])) rfl rfl (hb hby d7_39)
 have X_1k := X_19.wr W'1j
 have F_1l := F_1a.other W'1j (Or.inr (slot_ne (Or.inl (qw hw 33 rfl)) (Or.inl (qw hw 52 rfl)) (by decide) (t := (.array (.object s_2))) (t' := (.object s_0)) (by decide) (by decide)))
 have F_1m := F_1b.other W'1j (Or.inr (slot_ne (Or.inl (qw hw 40 rfl)) (Or.inl (qw hw 52 rfl)) (by decide) (t := .int) (t' := (.object s_0)) (by decide) (by decide)))
 have F_1n := F_1c.other W'1j (Or.inr (slot_ne (Or.inl (qw hw 152 rfl)) (Or.inl (qw hw 52 rfl)) (by decide) (t := .boolean) (t' := (.object s_0)) (by decide) (by decide)))
 have X_1o := X_1e.wr W'1j
 have X_1p := X_1f.wr W'1j
 have Old_1q := Old_1g.wr W'1j p5_
 have X_1r := G_o.wr W'1j
 have F_1s := Hf0_970.other W'1j (Or.inl (Ne.symm ne_2))
 have F_1t := Hf1_970.other W'1j (Or.inl (Ne.symm ne_2))
 have F_1u := Hf2_970.other W'1j (Or.inl (Ne.symm ne_2))
 have F_1v := Hf3_970.other W'1j (Or.inl (Ne.symm ne_2))
 have F_1w := Hf4_970.other W'1j (Or.inl (Ne.symm ne_2))
 have F_1x := Hf5_970.other W'1j (Or.inl (Ne.symm ne_2))
 have F_1y := Hf6_970.other W'1j (Or.inl (Ne.symm ne_2))
 have F_1z := Hf7_970.other W'1j (Or.inl (Ne.symm ne_2))
 have V_20 := Hf8_970.other W'1j (Ne.symm ne_u)
 have V_21 := Hf9_970.other W'1j (Ne.symm ne_x)
 have V_22 := Hf10_970.other W'1j (Ne.symm ne_10)
 have V_23 := Hf11_970.other W'1j (Ne.symm ne_13)
 have V_24 := Hf12_970.other W'1j (Ne.symm ne_16)
 have F_25 := F_1d.same W'1j
 have Z_26 : n0 ≤ h'1j.size := Nat.le_trans Z_1h (Nat.le_of_eq W'1j.size.symm)
 have KP_27 : Keep h0 h'1j [x0] := KP_1i.wr W'1j (Or.inl (List.mem_of_getElem? (i := 0) rfl))
 have N_1j := Fr.snoc X'1j N_n p5_
 refine goo st'1j ?_
 show own_G _ _ _ _ (T'1j.setTop (mkF m 42 #[rv x0, rv kq, rv vo] []))
 refine goo (fun _ k => XS.aloadN X'1j.here hx rfl (hb hby d7_42) rfl rfl k) ?_
 obtain ⟨T'28, X'28, e'28, st'28⟩ := getF X'1j hx hZ hown (host := "") (Or.inl (qw hw 51 rfl)) Via.refl e'1j F_25 (g := (mkF m 43 #[rv x0, rv kq, rv vo] [.ref x0])) rfl rfl (hb hby d7_43)
 refine goo st'28 ?_
 refine goo (fun _ k => XS.aloadN X'28.here hx rfl (hb hby d7_46) rfl rfl <| XS.aloadN X'28.here hx rfl (hb hby d7_47) rfl rfl k) ?_
 obtain ⟨cq'29, kq'29, q'29a, q'29b, q'29c⟩ := isOf hZ e'28 X_1r
 obtain ⟨_, _, ⟨T'29, L'29, k'29, n'29⟩, -, X'29, ⟨Lc'29, hQ'29, l'29, y'29, z'29⟩, st'29⟩ := X'28.virtualBack hx (y := Y20) (z := Y20) hown (mvT hZ (qw hw 103 rfl)) (mvT hZ (qw hw 104 rfl)) (notFace_of_selects (args := #[]) (mvT hZ (qw hw 106 rfl))) (mvT hZ (qw hw 106 rfl)) (mvT hZ (qw hw 105 rfl)) (by decide) (backOf (W := 0) (rm_pu_0_0 l Z a0 hw [] b'1 vo bk970 ky970 vl970 hs970 ch970 k'p k'q k'r k's k't kq kv hc hv h'1j n0 Z_26 X_1r F_1s F_1t F_1u F_1v F_1w F_1x F_1y F_1z V_20 V_21 V_22 V_23 V_24 ge_3 ge_w ge_z ge_12 ge_15 ge_18 ne_v ne_y ne_11 ne_14 ne_17 Hn0_970 Hn1_970 Hn2_970 Hn3_970 Hn4_970 Hn5_970 Hn6_970 Hn7_970 Hn8_970 Hn9_970 Ho2_970 Ho3_970 X_1o p7_ p8_ p9_ X_1p p10_ Old_1q) hZ (qw hw 107 rfl) (qw hw 55 rfl) (by decide) (by decide)) q'29a q'29c (g := (mkF m 48 #[rv x0, rv kq, rv vo] [.ref vo, .ref kq, .ref b'1])) rfl (by rw [hml]; rfl) (Steps.refl _) (argsL := [.ref kq, .ref vo]) (rest := []) (lenOf own_pd10 rfl) rfl (Nat.le_of_eq rfl) (hb hby d7_48) (fun _ _ => ⟨rfl, e'28, (by decide : 6 + 0 ≤ _), (by decide : 30 + 0 ≤ _)⟩)
 dsimp only [Pt.U, Pt.locs, Pt.cells, Pt.slots] at X'29 l'29 y'29 z'29 st'29 hQ'29
 subst l'29 y'29 z'29
 obtain ⟨rfl, Nq'29, K'29⟩ := hQ'29
 have X_2a := X_1k.keep K'29
 have F_2b := F_1l.keep K'29 (ninS ne_2 (ninS ne_u (ninS ne_x (ninS ne_10 (ninS ne_13 (ninS ne_16 nin0))))))
 have F_2c := F_1m.keep K'29 (ninS ne_2 (ninS ne_u (ninS ne_x (ninS ne_10 (ninS ne_13 (ninS ne_16 nin0))))))
 have F_2d := F_1n.keep K'29 (ninS ne_2 (ninS ne_u (ninS ne_x (ninS ne_10 (ninS ne_13 (ninS ne_16 nin0))))))
 have KP_2e : Keep h0 T'29.heap [x0] := KP_27.trans K'29 (allS (Or.inr sz_950) (allS (Or.inr sz_977) (allS (Or.inr sz_983) (allS (Or.inr sz_989) (allS (Or.inr sz_995) (allS (Or.inr sz_1001) all0))))))
 have N_29 := Fr.app N_1j Nq'29
 refine goo (fun _ k => st'29.trans k) ?_
 show own_G _ _ _ _ (T'29.setTop (mkF m 51 #[rv x0, rv kq, rv vo] []))
 exact own_end X'29 Bd.notSynchronized (v := none) (fun _ => rfl) (Q := Q_rm_ph0 Z x0 vo ar c_ ho_ kq kv hc hv h0 n0) (by show Q_rm_ph0 Z x0 vo ar c_ ho_ kq kv hc hv h0 n0 (none) T'29.heap _; exact ⟨rfl, N_29, KP_2e, X_2a, F_2b, F_2c, F_2d⟩) (fun fs hr => X'29.returnOut hx Bd.returns (hb hby d7_51) hr) (by decide) (by decide)
def Q_rm_ph1 (Z : State) (x0 : Addr) (vo : Addr) (ar : Addr) (c_ ho_ : Int32) (kq : Addr) (kv : Int64) (hc hv : Int32) (h0 : Heap) (n0 : Nat) (v : Option Value) (h : Heap) (L : List Loc) : Prop := v = none ∧ Fr n0 L ∧ Keep h0 h [x0] ∧ Exa Z h x0 s_1 ∧ Fld Z h x0 s_1 "array" "[Ljava/lang/Object;" (.ref ar) ∧ Fld Z h x0 s_1 "arrayCount" "I" (.int c_) ∧ Fld Z h x0 s_1 "holes" "Z" (.int ho_)
theorem rm_ph1 (l : Launch) (Z : State) (a0 : Array Value) (hw : own_HW a0 Z) (ws : List Jvm.Cond) (x0 : Addr) (vo : Addr) (ar : Addr) (c_ ho_ : Int32) (kq : Addr) (kv : Int64) (hc hv : Int32) (h0 : Heap) (n0 : Nat) (Z0 : n0 ≤ h0.size) (p0_ : Exa Z h0 x0 s_1) (p1_ : Fld Z h0 x0 s_1 "array" "[Ljava/lang/Object;" (.ref ar)) (p2_ : Fld Z h0 x0 s_1 "arrayCount" "I" (.int c_)) (p3_ : Fld Z h0 x0 s_1 "holes" "Z" (.int ho_)) (p4_ : Fld Z h0 x0 s_1 "hash" "Lcom/example/plainsong/plainsong/engine/HashPart;" .null) (p5_ : n0 ≤ x0) (p6_ : Exa Z h0 kq s_3) (p7_ : Fld Z Z.heap kq s_3 "value" "J" (.long kv)) (p8_ : F18 kv = hc) (p9_ : own_sp hc = hv) (p10_ : hv &&& i_3 = i_1) (p11_ : Exa Z h0 vo s_3) (p12_ : Old Z n0 h0)  :
  MetFree l Y21 (head1 (Jvm.Cond.code Y21 prog_60_method_17_code 3 none :: ws) (rr 4 6 30 58)) (fun a U => a = #[.ref x0, (.ref (kq)), .ref vo] ∧ Z.Warmed39 U.vm ∧ U.heap = h0) (fun _ _ _ _ _ => True) (fun _ U o U' => ∃ v L, o = .returned v ∧ Q_rm_ph1 Z x0 vo ar c_ ho_ kq kv hc hv h0 n0 v U'.heap L ∧ FrameEnd U o U' L (rr 4 6 30 58).cells (rr 4 6 30 58).slots) := by
 refine MetFree.of_bodySF (plainFor_of_name own_pn2) hisR ?_
 intro p e s m args below meth c s₁ Bd hml0 hP hK
 obtain ⟨rfl, hZ, hh⟩ := hP
 have hx := Bd.exec
 have hby := Bd.bytes
 have hml : c.maxLocals = 3 := hml0
 have hown : s.vm.findClass s_1 = some m.cls := findClass_of_methodNamed Bd.named
 have hnm := (name_of_methodNamed Bd.named Bd.method).1
 have X0 : Stand p l e (rr 4 6 30 58) s m #[.ref x0, (.ref (kq)), .ref vo] below meth c s₁ [] 0 0 := Stand.of_body Bd
 have e0 : s₁.heap = h0 := by rw [← hh, Bd.state]; rfl
 show own_G _ _ _ _ (s₁.setTop (entryFrame m #[.ref x0, (.ref (kq)), .ref vo] 3))
 refine goo (fun _ k => castTop (ef_7_RRR m x0 (kq) vo) k) ?_
 have N0 := Fr.nil n0
 have KP0 := Keep.refl h0 [x0]
 refine goo (fun _ k => XS.aloadN X0.here hx rfl (hb hby d7_0) rfl rfl <| XS.ifnonnullYes X0.here hx rfl (pc0 := 1) (pc' := 23) rfl (hb hby d7_1) rfl (by decide) (by decide) <| XS.aloadN X0.here hx rfl (hb hby d7_23) rfl rfl k) ?_
 obtain ⟨T'0, X'0, e'0, st'0⟩ := getF X0 hx hZ hown (host := "") (Or.inl (qw hw 51 rfl)) Via.refl e0 p4_ (g := (mkF m 24 #[rv x0, rv kq, rv vo] [.ref x0])) rfl rfl (hb hby d7_24)
 refine goo st'0 ?_
 refine goo (fun _ k => XS.ifnonnullNo X'0.here hx rfl (hb hby d7_27) rfl k) ?_
 show own_G _ _ _ _ (T'0.setTop (mkF m 30 #[rv x0, rv kq, rv vo] []))
 refine goo (fun _ k => XS.aloadN X'0.here hx rfl (hb hby d7_30) rfl rfl k) ?_
 obtain ⟨T'1, h'1, X'1, e'1, E'1, A'1, D'1, -, st'1⟩ := newO X'0 hx hZ hown (qw hw 53 rfl) (qw hw 54 rfl) (qw hw 55 rfl) e'0 (g := (mkF m 31 #[rv x0, rv kq, rv vo] [.ref x0])) rfl (hb hby d7_31) (by decide) (by decide)
 obtain ⟨b'1, g'1⟩ : ∃ z, z = h0.size := ⟨_, rfl⟩
 rw [← g'1] at A'1 D'1 st'1
 have ne_2 : x0 ≠ b'1 := Nat.ne_of_lt (Nat.lt_of_lt_of_le p0_.lt (Nat.le_of_eq g'1.symm))
 have ge_3 : n0 ≤ b'1 := Nat.le_trans Z0 (Nat.le_of_eq g'1.symm)
 have sz_1057 : h0.size ≤ b'1 := Nat.le_trans KP0.1 (Nat.le_of_eq g'1.symm)
 have X_4 := p0_.ext E'1
 have F_5 := p1_.ext E'1
 have F_6 := p2_.ext E'1
 have F_7 := p3_.ext E'1
 have F_8 := p4_.ext E'1
 have X_9 := p6_.ext E'1
 have X_a := p11_.ext E'1
 have Old_b := p12_.ext E'1
 have Z_c : n0 ≤ h'1.size := Nat.le_trans Z0 E'1.1
 have KP_d : Keep h0 h'1 [x0] := KP0.ext E'1
 have F_e : Fld Z h'1 b'1 s_0 "buckets" "[I" .null := D'1 (Or.inl (qw hw 84 rfl)) (ty := (.array .int)) (by decide)
 have F_f : Fld Z h'1 b'1 s_0 "keys" "[Ljava/lang/Object;" .null := D'1 (Or.inl (qw hw 92 rfl)) (ty := (.array (.object s_2))) (by decide)
 have F_g : Fld Z h'1 b'1 s_0 "values" "[Ljava/lang/Object;" .null := D'1 (Or.inl (qw hw 94 rfl)) (ty := (.array (.object s_2))) (by decide)
 have F_h : Fld Z h'1 b'1 s_0 "hashes" "[I" .null := D'1 (Or.inl (qw hw 96 rfl)) (ty := (.array .int)) (by decide)
 have F_i : Fld Z h'1 b'1 s_0 "chain" "[I" .null := D'1 (Or.inl (qw hw 98 rfl)) (ty := (.array .int)) (by decide)
 have F_j : Fld Z h'1 b'1 s_0 "size" "I" (.int i_0) := D'1 (Or.inl (qw hw 100 rfl)) (ty := .int) (by decide)
 have F_k : Fld Z h'1 b'1 s_0 "fewest" "I" (.int i_0) := D'1 (Or.inl (qw hw 102 rfl)) (ty := .int) (by decide)
 have F_l : Fld Z h'1 b'1 s_0 "count" "I" (.int i_0) := D'1 (Or.inl (qw hw 143 rfl)) (ty := .int) (by decide)
 have F_m : Fld Z h'1 b'1 s_0 "emptied" "Z" (.int i_0) := D'1 (Or.inl (qw hw 145 rfl)) (ty := .boolean) (by decide)
 refine goo st'1 ?_
 refine goo (fun _ k => XS.dup X'1.here hx rfl (hb hby d7_34) rfl rfl <| XS.iconst X'1.here hx rfl (hb hby d7_35) k) ?_
 obtain ⟨_, _, ⟨T'n, L'n, k'n, n'n⟩, -, X'n, ⟨Lc'n, hQ'n, l'n, y'n, z'n⟩, st'n⟩ := X'1.specialBack hx (y := Y9) rfl hown (mvT hZ (qw hw 56 rfl)) (mvT hZ (qw hw 57 rfl)) (mvT hZ (qw hw 58 rfl)) (by decide) (backOf (W := 2) (rm8 l Z a0 hw [] b'1  h'1 n0 Z_c A'1 ge_3 F_e F_f F_g F_h F_i F_j F_l F_k F_m) hZ (qw hw 58 rfl) (qw hw 55 rfl) (by decide) (by decide)) (g := (mkF m 36 #[rv x0, rv kq, rv vo] [.int i_1, .ref b'1, .ref b'1, .ref x0])) rfl (by rw [hml]; rfl) (Steps.refl _) (a := b'1) (argsL := [.int i_1]) (rest := [.ref b'1, .ref x0]) (lenOf own_pd4 rfl) rfl (Nat.le_of_eq rfl) (hb hby d7_36) (fun _ _ => ⟨rfl, e'1, (by decide : 1 + 5 ≤ _), (by decide : 10 + 20 ≤ _)⟩)
 dsimp only [Pt.U, Pt.locs, Pt.cells, Pt.slots] at X'n l'n y'n z'n st'n hQ'n
 subst l'n y'n z'n
 obtain ⟨rfl, Nq'n, K'n, G_o, qx'n⟩ := hQ'n
 obtain ⟨bk1077, ky1077, vl1077, hs1077, ch1077, k'p, k'q, k'r, k's, k't, Hg0_1077, Hg1_1077, Hg2_1077, Hg3_1077, Hg4_1077, Hf0_1077, Hf1_1077, Hf2_1077, Hf3_1077, Hf4_1077, Hf5_1077, Hf6_1077, Hf7_1077, Hf8_1077, Hf9_1077, Hf10_1077, Hf11_1077, Hf12_1077, Hn0_1077, Hn1_1077, Hn2_1077, Hn3_1077, Hn4_1077, Hn5_1077, Hn6_1077, Hn7_1077, Hn8_1077, Hn9_1077, Ho2_1077, Ho3_1077⟩ := qx'n
 have ne_u : x0 ≠ bk1077 := Nat.ne_of_lt (Nat.lt_of_lt_of_le X_4.lt Hg0_1077)
 have ne_v : b'1 ≠ bk1077 := Nat.ne_of_lt (Nat.lt_of_lt_of_le A'1.lt Hg0_1077)
 have ge_w : n0 ≤ bk1077 := Nat.le_trans Z_c Hg0_1077
 have sz_1084 : h0.size ≤ bk1077 := Nat.le_trans KP_d.1 Hg0_1077
 have ne_x : x0 ≠ ky1077 := Nat.ne_of_lt (Nat.lt_of_lt_of_le X_4.lt Hg1_1077)
 have ne_y : b'1 ≠ ky1077 := Nat.ne_of_lt (Nat.lt_of_lt_of_le A'1.lt Hg1_1077)
 have ge_z : n0 ≤ ky1077 := Nat.le_trans Z_c Hg1_1077
 have sz_1090 : h0.size ≤ ky1077 := Nat.le_trans KP_d.1 Hg1_1077
 have ne_10 : x0 ≠ vl1077 := Nat.ne_of_lt (Nat.lt_of_lt_of_le X_4.lt Hg2_1077)
 have ne_11 : b'1 ≠ vl1077 := Nat.ne_of_lt (Nat.lt_of_lt_of_le A'1.lt Hg2_1077)
 have ge_12 : n0 ≤ vl1077 := Nat.le_trans Z_c Hg2_1077
 have sz_1096 : h0.size ≤ vl1077 := Nat.le_trans KP_d.1 Hg2_1077
 have ne_13 : x0 ≠ hs1077 := Nat.ne_of_lt (Nat.lt_of_lt_of_le X_4.lt Hg3_1077)
 have ne_14 : b'1 ≠ hs1077 := Nat.ne_of_lt (Nat.lt_of_lt_of_le A'1.lt Hg3_1077)
 have ge_15 : n0 ≤ hs1077 := Nat.le_trans Z_c Hg3_1077
 have sz_1102 : h0.size ≤ hs1077 := Nat.le_trans KP_d.1 Hg3_1077
 have ne_16 : x0 ≠ ch1077 := Nat.ne_of_lt (Nat.lt_of_lt_of_le X_4.lt Hg4_1077)
 have ne_17 : b'1 ≠ ch1077 := Nat.ne_of_lt (Nat.lt_of_lt_of_le A'1.lt Hg4_1077)
 have ge_18 : n0 ≤ ch1077 := Nat.le_trans Z_c Hg4_1077
 have sz_1108 : h0.size ≤ ch1077 := Nat.le_trans KP_d.1 Hg4_1077
 have X_19 := X_4.keep K'n
 have F_1a := F_5.keep K'n (ninS ne_2 nin0)
 have F_1b := F_6.keep K'n (ninS ne_2 nin0)
 have F_1c := F_7.keep K'n (ninS ne_2 nin0)
 have F_1d := F_8.keep K'n (ninS ne_2 nin0)
 have X_1e := X_9.keep K'n
 have X_1f := X_a.keep K'n
 have Old_1g := Old_b.keep K'n (allS ge_3 all0)
 have Z_1h : n0 ≤ T'n.heap.size := Nat.le_trans Z_c K'n.1
 have KP_1i : Keep h0 T'n.heap [x0] := KP_d.trans K'n (allS (Or.inr sz_1057) all0)
 have N_n := Fr.app N0 Nq'n
 refine goo (fun _ k => st'n.trans k) ?_
 obtain ⟨T'1j, h'1j, X'1j, e'1j, W'1j, st'1j⟩ := putF X'n hx hZ hown (host := "") (Or.inl (qw hw 51 rfl)) Via.refl rfl F_1d X_19 (Or.inl (qw hw 52 rfl)) (qw hw 24 rfl) (ty := (.object s_0)) (by decide) rfl rfl (g := (mkF m 39 #[rv x0, rv kq, rv vo] [.ref b'1, .ref x0])) rfl rfl (hb hby d7_39)
 have X_1k := X_19.wr W'1j
 have F_1l := F_1a.other W'1j (Or.inr (slot_ne (Or.inl (qw hw 33 rfl)) (Or.inl (qw hw 52 rfl)) (by decide) (t := (.array (.object s_2))) (t' := (.object s_0)) (by decide) (by decide)))
 have F_1m := F_1b.other W'1j (Or.inr (slot_ne (Or.inl (qw hw 40 rfl)) (Or.inl (qw hw 52 rfl)) (by decide) (t := .int) (t' := (.object s_0)) (by decide) (by decide)))
 have F_1n := F_1c.other W'1j (Or.inr (slot_ne (Or.inl (qw hw 152 rfl)) (Or.inl (qw hw 52 rfl)) (by decide) (t := .boolean) (t' := (.object s_0)) (by decide) (by decide)))
 have X_1o := X_1e.wr W'1j
 have X_1p := X_1f.wr W'1j
 have Old_1q := Old_1g.wr W'1j p5_
 have X_1r := G_o.wr W'1j
 have F_1s := Hf0_1077.other W'1j (Or.inl (Ne.symm ne_2))
 have F_1t := Hf1_1077.other W'1j (Or.inl (Ne.symm ne_2))
 have F_1u := Hf2_1077.other W'1j (Or.inl (Ne.symm ne_2))
 have F_1v := Hf3_1077.other W'1j (Or.inl (Ne.symm ne_2))
 have F_1w := Hf4_1077.other W'1j (Or.inl (Ne.symm ne_2))
 have F_1x := Hf5_1077.other W'1j (Or.inl (Ne.symm ne_2))
 have F_1y := Hf6_1077.other W'1j (Or.inl (Ne.symm ne_2))
 have F_1z := Hf7_1077.other W'1j (Or.inl (Ne.symm ne_2))
 have V_20 := Hf8_1077.other W'1j (Ne.symm ne_u)
 have V_21 := Hf9_1077.other W'1j (Ne.symm ne_x)
 have V_22 := Hf10_1077.other W'1j (Ne.symm ne_10)
 have V_23 := Hf11_1077.other W'1j (Ne.symm ne_13)
 have V_24 := Hf12_1077.other W'1j (Ne.symm ne_16)
 have F_25 := F_1d.same W'1j
 have Z_26 : n0 ≤ h'1j.size := Nat.le_trans Z_1h (Nat.le_of_eq W'1j.size.symm)
 have KP_27 : Keep h0 h'1j [x0] := KP_1i.wr W'1j (Or.inl (List.mem_of_getElem? (i := 0) rfl))
 have N_1j := Fr.snoc X'1j N_n p5_
 refine goo st'1j ?_
 show own_G _ _ _ _ (T'1j.setTop (mkF m 42 #[rv x0, rv kq, rv vo] []))
 refine goo (fun _ k => XS.aloadN X'1j.here hx rfl (hb hby d7_42) rfl rfl k) ?_
 obtain ⟨T'28, X'28, e'28, st'28⟩ := getF X'1j hx hZ hown (host := "") (Or.inl (qw hw 51 rfl)) Via.refl e'1j F_25 (g := (mkF m 43 #[rv x0, rv kq, rv vo] [.ref x0])) rfl rfl (hb hby d7_43)
 refine goo st'28 ?_
 refine goo (fun _ k => XS.aloadN X'28.here hx rfl (hb hby d7_46) rfl rfl <| XS.aloadN X'28.here hx rfl (hb hby d7_47) rfl rfl k) ?_
 obtain ⟨cq'29, kq'29, q'29a, q'29b, q'29c⟩ := isOf hZ e'28 X_1r
 obtain ⟨_, _, ⟨T'29, L'29, k'29, n'29⟩, -, X'29, ⟨Lc'29, hQ'29, l'29, y'29, z'29⟩, st'29⟩ := X'28.virtualBack hx (y := Y20) (z := Y20) hown (mvT hZ (qw hw 103 rfl)) (mvT hZ (qw hw 104 rfl)) (notFace_of_selects (args := #[]) (mvT hZ (qw hw 106 rfl))) (mvT hZ (qw hw 106 rfl)) (mvT hZ (qw hw 105 rfl)) (by decide) (backOf (W := 0) (rm_pu_0_1 l Z a0 hw [] b'1 vo bk1077 ky1077 vl1077 hs1077 ch1077 k'p k'q k'r k's k't kq kv hc hv h'1j n0 Z_26 X_1r F_1s F_1t F_1u F_1v F_1w F_1x F_1y F_1z V_20 V_21 V_22 V_23 V_24 ge_3 ge_w ge_z ge_12 ge_15 ge_18 ne_v ne_y ne_11 ne_14 ne_17 Hn0_1077 Hn1_1077 Hn2_1077 Hn3_1077 Hn4_1077 Hn5_1077 Hn6_1077 Hn7_1077 Hn8_1077 Hn9_1077 Ho2_1077 Ho3_1077 X_1o p7_ p8_ p9_ X_1p p10_ Old_1q) hZ (qw hw 107 rfl) (qw hw 55 rfl) (by decide) (by decide)) q'29a q'29c (g := (mkF m 48 #[rv x0, rv kq, rv vo] [.ref vo, .ref kq, .ref b'1])) rfl (by rw [hml]; rfl) (Steps.refl _) (argsL := [.ref kq, .ref vo]) (rest := []) (lenOf own_pd10 rfl) rfl (Nat.le_of_eq rfl) (hb hby d7_48) (fun _ _ => ⟨rfl, e'28, (by decide : 6 + 0 ≤ _), (by decide : 30 + 0 ≤ _)⟩)
 dsimp only [Pt.U, Pt.locs, Pt.cells, Pt.slots] at X'29 l'29 y'29 z'29 st'29 hQ'29
 subst l'29 y'29 z'29
 obtain ⟨rfl, Nq'29, K'29, G_2a, G_2b, G_2c, G_2d, G_2e, G_2f, G_2g, G_2h, G_2i, G_2j, G_2k, G_2l, G_2m, G_2n⟩ := hQ'29
 have X_2o := X_1k.keep K'29
 have F_2p := F_1l.keep K'29 (ninS ne_2 (ninS ne_u (ninS ne_x (ninS ne_10 (ninS ne_13 (ninS ne_16 nin0))))))
 have F_2q := F_1m.keep K'29 (ninS ne_2 (ninS ne_u (ninS ne_x (ninS ne_10 (ninS ne_13 (ninS ne_16 nin0))))))
 have F_2r := F_1n.keep K'29 (ninS ne_2 (ninS ne_u (ninS ne_x (ninS ne_10 (ninS ne_13 (ninS ne_16 nin0))))))
 have KP_2s : Keep h0 T'29.heap [x0] := KP_27.trans K'29 (allS (Or.inr sz_1057) (allS (Or.inr sz_1084) (allS (Or.inr sz_1090) (allS (Or.inr sz_1096) (allS (Or.inr sz_1102) (allS (Or.inr sz_1108) all0))))))
 have N_29 := Fr.app N_1j Nq'29
 refine goo (fun _ k => st'29.trans k) ?_
 show own_G _ _ _ _ (T'29.setTop (mkF m 51 #[rv x0, rv kq, rv vo] []))
 exact own_end X'29 Bd.notSynchronized (v := none) (fun _ => rfl) (Q := Q_rm_ph1 Z x0 vo ar c_ ho_ kq kv hc hv h0 n0) (by show Q_rm_ph1 Z x0 vo ar c_ ho_ kq kv hc hv h0 n0 (none) T'29.heap _; exact ⟨rfl, N_29, KP_2s, X_2o, F_2p, F_2q, F_2r⟩) (fun fs hr => X'29.returnOut hx Bd.returns (hb hby d7_51) hr) (by decide) (by decide)
def Q_rm_pv0 (Z : State) (x0 : Addr) (vo : Addr) (ar : Addr) (c_ ho_ : Int32) (ca : Addr) (kca : ClassId) (cvs : List Value) (bx : Nat → Addr) (h0 : Heap) (n0 : Nat) (v : Option Value) (h : Heap) (L : List Loc) : Prop := v = none ∧ Fr n0 L ∧ Keep h0 h [x0] ∧ Exa Z h x0 s_1 ∧ Fld Z h x0 s_1 "array" "[Ljava/lang/Object;" (.ref ar) ∧ Fld Z h x0 s_1 "arrayCount" "I" (.int c_) ∧ Fld Z h x0 s_1 "holes" "Z" (.int ho_)
theorem own_pd11 : parseMethodDescriptor "(J)Ljava/lang/Long;" = some ⟨[.long], some (.object "java/lang/Long")⟩ := by decide +kernel
theorem d6_0 : decode prog_60_method_7_code 0 = .ok (.lload_n 1, 1) := by decide +kernel
theorem d6_1 : decode prog_60_method_7_code 1 = .ok (.lconst 1, 1) := by decide +kernel
theorem d6_2 : decode prog_60_method_7_code 2 = .ok (.lcmp, 1) := by decide +kernel
theorem d6_3 : decode prog_60_method_7_code 3 = .ok (.ifCond .lt 83, 3) := by decide +kernel
theorem d6_6 : decode prog_60_method_7_code 6 = .ok (.lload_n 1, 1) := by decide +kernel
theorem d6_7 : decode prog_60_method_7_code 7 = .ok (.aload_n 0, 1) := by decide +kernel
theorem d6_8 : decode prog_60_method_7_code 8 = .ok (.getfield 55, 3) := by decide +kernel
theorem d6_11 : decode prog_60_method_7_code 11 = .ok (.i2l, 1) := by decide +kernel
theorem d6_12 : decode prog_60_method_7_code 12 = .ok (.lcmp, 1) := by decide +kernel
theorem d6_13 : decode prog_60_method_7_code 13 = .ok (.ifCond .gt 73, 3) := by decide +kernel
theorem d6_16 : decode prog_60_method_7_code 16 = .ok (.aload_n 0, 1) := by decide +kernel
theorem d6_17 : decode prog_60_method_7_code 17 = .ok (.getfield 15, 3) := by decide +kernel
theorem d6_20 : decode prog_60_method_7_code 20 = .ok (.lload_n 1, 1) := by decide +kernel
theorem d6_21 : decode prog_60_method_7_code 21 = .ok (.l2i, 1) := by decide +kernel
theorem d6_22 : decode prog_60_method_7_code 22 = .ok (.iconst 1, 1) := by decide +kernel
theorem d6_23 : decode prog_60_method_7_code 23 = .ok (.isub, 1) := by decide +kernel
theorem d6_24 : decode prog_60_method_7_code 24 = .ok (.aload_n 3, 1) := by decide +kernel
theorem d6_25 : decode prog_60_method_7_code 25 = .ok (.aastore, 1) := by decide +kernel
theorem d6_26 : decode prog_60_method_7_code 26 = .ok (.aload_n 3, 1) := by decide +kernel
theorem d6_27 : decode prog_60_method_7_code 27 = .ok (.ifnonnull 47, 3) := by decide +kernel
theorem d6_30 : decode prog_60_method_7_code 30 = .ok (.lload_n 1, 1) := by decide +kernel
theorem d6_31 : decode prog_60_method_7_code 31 = .ok (.aload_n 0, 1) := by decide +kernel
theorem d6_32 : decode prog_60_method_7_code 32 = .ok (.getfield 55, 3) := by decide +kernel
theorem d6_35 : decode prog_60_method_7_code 35 = .ok (.i2l, 1) := by decide +kernel
theorem d6_36 : decode prog_60_method_7_code 36 = .ok (.lcmp, 1) := by decide +kernel
theorem d6_37 : decode prog_60_method_7_code 37 = .ok (.ifCond .ne 37, 3) := by decide +kernel
theorem d6_40 : decode prog_60_method_7_code 40 = .ok (.aload_n 0, 1) := by decide +kernel
theorem d6_41 : decode prog_60_method_7_code 41 = .ok (.dup, 1) := by decide +kernel
theorem d6_42 : decode prog_60_method_7_code 42 = .ok (.getfield 55, 3) := by decide +kernel
theorem d6_45 : decode prog_60_method_7_code 45 = .ok (.iconst 1, 1) := by decide +kernel
theorem d6_46 : decode prog_60_method_7_code 46 = .ok (.isub, 1) := by decide +kernel
theorem d6_47 : decode prog_60_method_7_code 47 = .ok (.putfield 55, 3) := by decide +kernel
theorem d6_50 : decode prog_60_method_7_code 50 = .ok (.aload_n 0, 1) := by decide +kernel
theorem d6_51 : decode prog_60_method_7_code 51 = .ok (.getfield 55, 3) := by decide +kernel
theorem d6_54 : decode prog_60_method_7_code 54 = .ok (.ifCond .le 74, 3) := by decide +kernel
theorem d6_57 : decode prog_60_method_7_code 57 = .ok (.aload_n 0, 1) := by decide +kernel
theorem d6_58 : decode prog_60_method_7_code 58 = .ok (.getfield 15, 3) := by decide +kernel
theorem d6_61 : decode prog_60_method_7_code 61 = .ok (.aload_n 0, 1) := by decide +kernel
theorem d6_62 : decode prog_60_method_7_code 62 = .ok (.getfield 55, 3) := by decide +kernel
theorem d6_65 : decode prog_60_method_7_code 65 = .ok (.iconst 1, 1) := by decide +kernel
theorem d6_66 : decode prog_60_method_7_code 66 = .ok (.isub, 1) := by decide +kernel
theorem d6_67 : decode prog_60_method_7_code 67 = .ok (.aaload, 1) := by decide +kernel
theorem d6_68 : decode prog_60_method_7_code 68 = .ok (.ifnull (-28), 3) := by decide +kernel
theorem d6_71 : decode prog_60_method_7_code 71 = .ok (.goto 57, 3) := by decide +kernel
theorem d6_74 : decode prog_60_method_7_code 74 = .ok (.aload_n 3, 1) := by decide +kernel
theorem d6_75 : decode prog_60_method_7_code 75 = .ok (.ifnonnull 53, 3) := by decide +kernel
theorem d6_78 : decode prog_60_method_7_code 78 = .ok (.aload_n 0, 1) := by decide +kernel
theorem d6_79 : decode prog_60_method_7_code 79 = .ok (.iconst 1, 1) := by decide +kernel
theorem d6_80 : decode prog_60_method_7_code 80 = .ok (.putfield 95, 3) := by decide +kernel
theorem d6_83 : decode prog_60_method_7_code 83 = .ok (.goto 45, 3) := by decide +kernel
theorem d6_86 : decode prog_60_method_7_code 86 = .ok (.lload_n 1, 1) := by decide +kernel
theorem d6_87 : decode prog_60_method_7_code 87 = .ok (.aload_n 0, 1) := by decide +kernel
theorem d6_88 : decode prog_60_method_7_code 88 = .ok (.getfield 55, 3) := by decide +kernel
theorem d6_91 : decode prog_60_method_7_code 91 = .ok (.i2l, 1) := by decide +kernel
theorem d6_92 : decode prog_60_method_7_code 92 = .ok (.lconst 1, 1) := by decide +kernel
theorem d6_93 : decode prog_60_method_7_code 93 = .ok (.ladd, 1) := by decide +kernel
theorem d6_94 : decode prog_60_method_7_code 94 = .ok (.lcmp, 1) := by decide +kernel
theorem d6_95 : decode prog_60_method_7_code 95 = .ok (.ifCond .ne 24, 3) := by decide +kernel
theorem d6_98 : decode prog_60_method_7_code 98 = .ok (.aload_n 0, 1) := by decide +kernel
theorem d6_99 : decode prog_60_method_7_code 99 = .ok (.getfield 55, 3) := by decide +kernel
theorem d6_102 : decode prog_60_method_7_code 102 = .ok (.ldc 99, 2) := by decide +kernel
theorem d6_104 : decode prog_60_method_7_code 104 = .ok (.if_icmp .ge 15, 3) := by decide +kernel
theorem d6_107 : decode prog_60_method_7_code 107 = .ok (.aload_n 3, 1) := by decide +kernel
theorem d6_108 : decode prog_60_method_7_code 108 = .ok (.ifnull 20, 3) := by decide +kernel
theorem d6_111 : decode prog_60_method_7_code 111 = .ok (.aload_n 0, 1) := by decide +kernel
theorem d6_112 : decode prog_60_method_7_code 112 = .ok (.aload_n 3, 1) := by decide +kernel
theorem d6_113 : decode prog_60_method_7_code 113 = .ok (.invokevirtual 100, 3) := by decide +kernel
theorem d6_116 : decode prog_60_method_7_code 116 = .ok (.goto 12, 3) := by decide +kernel
theorem d6_119 : decode prog_60_method_7_code 119 = .ok (.aload_n 0, 1) := by decide +kernel
theorem d6_120 : decode prog_60_method_7_code 120 = .ok (.lload_n 1, 1) := by decide +kernel
theorem d6_121 : decode prog_60_method_7_code 121 = .ok (.invokestatic 59, 3) := by decide +kernel
theorem d6_124 : decode prog_60_method_7_code 124 = .ok (.aload_n 3, 1) := by decide +kernel
theorem d6_125 : decode prog_60_method_7_code 125 = .ok (.invokevirtual 91, 3) := by decide +kernel
theorem d6_128 : decode prog_60_method_7_code 128 = .ok (.return_, 1) := by decide +kernel
theorem ef_6_RJR (m : MethodId) (x0 : Addr) (x1 : Int64) (x2 : Addr) : entryFrame m #[(.ref x0), (.long x1), (.ref x2)] 4 = mkF m 0 #[.val (.ref x0), .val (.long x1), .second, .val (.ref x2)] [] := by
  first | (simp [entryFrame, mkF, argsToLocals, Value.category]; done) | rfl
theorem rm_pv0 (l : Launch) (Z : State) (a0 : Array Value) (hw : own_HW a0 Z) (ws : List Jvm.Cond) (x0 : Addr) (vo : Addr) (ar : Addr) (c_ ho_ : Int32) (ca : Addr) (kca : ClassId) (cvs : List Value) (bx : Nat → Addr) (h0 : Heap) (n0 : Nat) (Z0 : n0 ≤ h0.size) (p0_ : Exa Z h0 x0 s_1) (p1_ : Fld Z h0 x0 s_1 "array" "[Ljava/lang/Object;" (.ref ar)) (p2_ : Fld Z h0 x0 s_1 "arrayCount" "I" (.int c_)) (p3_ : Fld Z h0 x0 s_1 "holes" "Z" (.int ho_)) (p4_ : Fld Z h0 x0 s_1 "hash" "Lcom/example/plainsong/plainsong/engine/HashPart;" .null) (p5_ : n0 ≤ x0) (p6_ : Exa Z h0 vo s_3) (p7_ : Old Z n0 h0) (p8_ : own_LC Z ca kca cvs bx) (p9_ : ¬ (0 : Int64) = ((c_.toInt64) + (1 : Int64)))  :
  MetFree l Y22 (head1 (Jvm.Cond.code Y22 prog_60_method_7_code 4 none :: ws) (rr 5 6 30 72)) (fun a U => a = #[.ref x0, (.long (0 : Int64)), .ref vo] ∧ Z.Warmed39 U.vm ∧ U.heap = h0) (fun _ _ _ _ _ => True) (fun _ U o U' => ∃ v L, o = .returned v ∧ Q_rm_pv0 Z x0 vo ar c_ ho_ ca kca cvs bx h0 n0 v U'.heap L ∧ FrameEnd U o U' L (rr 5 6 30 72).cells (rr 5 6 30 72).slots) := by
 refine MetFree.of_bodySF (plainFor_of_name own_pn2) hisR ?_
 intro p e s m args below meth c s₁ Bd hml0 hP hK
 obtain ⟨rfl, hZ, hh⟩ := hP
 have hx := Bd.exec
 have hby := Bd.bytes
 have hml : c.maxLocals = 4 := hml0
 have hown : s.vm.findClass s_1 = some m.cls := findClass_of_methodNamed Bd.named
 have hnm := (name_of_methodNamed Bd.named Bd.method).1
 have X0 : Stand p l e (rr 5 6 30 72) s m #[.ref x0, (.long (0 : Int64)), .ref vo] below meth c s₁ [] 0 0 := Stand.of_body Bd
 have e0 : s₁.heap = h0 := by rw [← hh, Bd.state]; rfl
 show own_G _ _ _ _ (s₁.setTop (entryFrame m #[.ref x0, (.long (0 : Int64)), .ref vo] 4))
 refine goo (fun _ k => castTop (ef_6_RJR m x0 (0 : Int64) vo) k) ?_
 have N0 := Fr.nil n0
 have KP0 := Keep.refl h0 [x0]
 refine goo (fun _ k => XS.lloadN X0.here hx rfl (hb hby d6_0) rfl <| XS.lconst X0.here hx rfl (hb hby d6_1) <| XS.lcmp X0.here hx rfl (hb hby d6_2) rfl <| XS.ifYes X0.here hx rfl (pc0 := 3) (pc' := 86) rfl (hb hby d6_3) rfl (((if0 _ _).trans (tlt (own_l1 (by decide : (0 : Int64) < (1 : Int64)))).1)) (by decide) (by decide) k) ?_
 refine goo (fun _ k => XS.lloadN X0.here hx rfl (hb hby d6_86) rfl k) ?_
 show own_G _ _ _ _ (s₁.setTop (mkF m 87 #[rv x0, .val (.long (0 : Int64)), .second, rv vo] [(.long (0 : Int64))]))
 refine goo (fun _ k => XS.aloadN X0.here hx rfl (hb hby d6_87) rfl rfl k) ?_
 obtain ⟨T'0, X'0, e'0, st'0⟩ := getF X0 hx hZ hown (host := "") (Or.inl (qw hw 39 rfl)) Via.refl e0 p2_ (g := (mkF m 88 #[rv x0, .val (.long (0 : Int64)), .second, rv vo] [.ref x0, (.long (0 : Int64))])) rfl rfl (hb hby d6_88)
 refine goo st'0 ?_
 refine goo (fun _ k => XS.i2l X'0.here hx rfl (hb hby d6_91) rfl <| XS.lconst X'0.here hx rfl (hb hby d6_92) <| XS.ladd X'0.here hx rfl (hb hby d6_93) rfl <| XS.lcmp X'0.here hx rfl (hb hby d6_94) rfl k) ?_
 show own_G _ _ _ _ (T'0.setTop (mkF m 95 #[rv x0, .val (.long (0 : Int64)), .second, rv vo] [(.int (lcmpW (0 : Int64) ((c_.toInt64) + (1 : Int64))))]))
 refine goo (fun _ k => XS.ifYes X'0.here hx rfl (pc0 := 95) (pc' := 119) rfl (hb hby d6_95) rfl (((if0 _ _).trans (feq (own_e2 p9_)).2)) (by decide) (by decide) <| XS.aloadN X'0.here hx rfl (hb hby d6_119) rfl rfl <| XS.lloadN X'0.here hx rfl (hb hby d6_120) rfl k) ?_
 obtain ⟨T'1, X'1, e'1, st'1⟩ := own_callP X'0 hx hZ (y := Y13) hown (qw hw 43 rfl) (qw hw 2 rfl) (qw hw 3 rfl) (qw hw 4 rfl) (by decide) (W := 1) (rm_vo0 l Z a0 hw []  n0 ca kca cvs bx h0 p7_ p8_) (by decide) (by decide) rfl rfl e'0 (g := (mkF m 121 #[rv x0, .val (.long (0 : Int64)), .second, rv vo] [(.long (0 : Int64)), .ref x0])) rfl (by rw [hml]; rfl) (argsL := [(.long (0 : Int64))]) (rest := [.ref x0]) (lenOf own_pd11 rfl) rfl rfl (Nat.le_of_eq rfl) (hb hby d6_121) (by decide) (by decide)
 refine goo st'1 ?_
 have X_2 := own_LCx p8_ p7_ 128 (by decide)
 refine goo (fun _ k => XS.aloadN X'1.here hx rfl (hb hby d6_124) rfl rfl k) ?_
 obtain ⟨cq'3, kq'3, q'3a, q'3b, q'3c⟩ := isOf hZ e'1 p0_
 obtain ⟨cp'3, cq'4, cq'5⟩ := p0_.cell
 obtain ⟨_, _, ⟨T'3, L'3, k'3, n'3⟩, -, X'3, ⟨Lc'3, hQ'3, l'3, y'3, z'3⟩, st'3⟩ := own_privB X'1 hx (y := Y21) hown (mvT hZ (qw hw 47 rfl)) (mvT hZ (qw hw 48 rfl)) (mvT hZ (qw hw 24 rfl)) (Cond.privateMethod_at (mvP hZ (qw hw 49 rfl) (args := #[]))) (mvT hZ (qw hw 50 rfl)) (by decide) (backOf (W := 0) (rm_ph0 l Z a0 hw [] x0 vo ar c_ ho_ (bx 128) (0 : Int64) i_0 i_0 h0 n0 Z0 p0_ p1_ p2_ p3_ p4_ p5_ X_2 (own_LCh p8_ 128 (by decide) (0 : Int64) (by decide)) (by decide) (by decide) (by decide) p6_ p7_) hZ (qw hw 50 rfl) (qw hw 25 rfl) (by decide) (by decide)) (g := (mkF m 125 #[rv x0, .val (.long (0 : Int64)), .second, rv vo] [.ref vo, (.ref (bx 128)), .ref x0])) rfl (by rw [hml]; rfl) (a := x0) (by rw [e'1]; exact cq'4) cq'5 (argsL := [(.ref (bx 128)), .ref vo]) (rest := []) (lenOf own_pd10 rfl) rfl (Nat.le_of_eq rfl) (hb hby d6_125) (fun _ _ => ⟨rfl, e'1, (by decide : 0 + 6 ≤ _), (by decide : 0 + 30 ≤ _)⟩)
 dsimp only [Pt.U, Pt.locs, Pt.cells, Pt.slots] at X'3 l'3 y'3 z'3 st'3 hQ'3
 subst l'3 y'3 z'3
 obtain ⟨rfl, Nq'3, K'3, G_6, G_7, G_8, G_9⟩ := hQ'3
 have KP_a : Keep h0 T'3.heap [x0] := KP0.trans K'3 (allS (Or.inl (List.mem_of_getElem? (i := 0) rfl)) all0)
 have N_3 := Fr.app N0 Nq'3
 refine goo (fun _ k => st'3.trans k) ?_
 show own_G _ _ _ _ (T'3.setTop (mkF m 128 #[rv x0, .val (.long (0 : Int64)), .second, rv vo] []))
 exact own_end X'3 Bd.notSynchronized (v := none) (fun _ => rfl) (Q := Q_rm_pv0 Z x0 vo ar c_ ho_ ca kca cvs bx h0 n0) (by show Q_rm_pv0 Z x0 vo ar c_ ho_ ca kca cvs bx h0 n0 (none) T'3.heap _; exact ⟨rfl, N_3, KP_a, G_6, G_7, G_8, G_9⟩) (fun fs hr => X'3.returnOut hx Bd.returns (hb hby d6_128) hr) (by decide) (by decide)
def Q_rm_pv2 (Z : State) (x0 : Addr) (vo : Addr) (ar : Addr) (c_ ho_ : Int32) (ca : Addr) (kca : ClassId) (cvs : List Value) (bx : Nat → Addr) (h0 : Heap) (n0 : Nat) (v : Option Value) (h : Heap) (L : List Loc) : Prop := v = none ∧ Fr n0 L ∧ Keep h0 h [x0] ∧ Exa Z h x0 s_1 ∧ Fld Z h x0 s_1 "array" "[Ljava/lang/Object;" (.ref ar) ∧ Fld Z h x0 s_1 "arrayCount" "I" (.int c_) ∧ Fld Z h x0 s_1 "holes" "Z" (.int ho_)
theorem rm_pv2 (l : Launch) (Z : State) (a0 : Array Value) (hw : own_HW a0 Z) (ws : List Jvm.Cond) (x0 : Addr) (vo : Addr) (ar : Addr) (c_ ho_ : Int32) (ca : Addr) (kca : ClassId) (cvs : List Value) (bx : Nat → Addr) (h0 : Heap) (n0 : Nat) (Z0 : n0 ≤ h0.size) (p0_ : Exa Z h0 x0 s_1) (p1_ : Fld Z h0 x0 s_1 "array" "[Ljava/lang/Object;" (.ref ar)) (p2_ : Fld Z h0 x0 s_1 "arrayCount" "I" (.int c_)) (p3_ : Fld Z h0 x0 s_1 "holes" "Z" (.int ho_)) (p4_ : Fld Z h0 x0 s_1 "hash" "Lcom/example/plainsong/plainsong/engine/HashPart;" .null) (p5_ : n0 ≤ x0) (p6_ : Exa Z h0 vo s_3) (p7_ : Old Z n0 h0) (p8_ : own_LC Z ca kca cvs bx) (p9_ : (c_.toInt64) < (2 : Int64)) (p10_ : ¬ (2 : Int64) = ((c_.toInt64) + (1 : Int64)))  :
  MetFree l Y22 (head1 (Jvm.Cond.code Y22 prog_60_method_7_code 4 none :: ws) (rr 5 6 30 72)) (fun a U => a = #[.ref x0, (.long (2 : Int64)), .ref vo] ∧ Z.Warmed39 U.vm ∧ U.heap = h0) (fun _ _ _ _ _ => True) (fun _ U o U' => ∃ v L, o = .returned v ∧ Q_rm_pv2 Z x0 vo ar c_ ho_ ca kca cvs bx h0 n0 v U'.heap L ∧ FrameEnd U o U' L (rr 5 6 30 72).cells (rr 5 6 30 72).slots) := by
 refine MetFree.of_bodySF (plainFor_of_name own_pn2) hisR ?_
 intro p e s m args below meth c s₁ Bd hml0 hP hK
 obtain ⟨rfl, hZ, hh⟩ := hP
 have hx := Bd.exec
 have hby := Bd.bytes
 have hml : c.maxLocals = 4 := hml0
 have hown : s.vm.findClass s_1 = some m.cls := findClass_of_methodNamed Bd.named
 have hnm := (name_of_methodNamed Bd.named Bd.method).1
 have X0 : Stand p l e (rr 5 6 30 72) s m #[.ref x0, (.long (2 : Int64)), .ref vo] below meth c s₁ [] 0 0 := Stand.of_body Bd
 have e0 : s₁.heap = h0 := by rw [← hh, Bd.state]; rfl
 show own_G _ _ _ _ (s₁.setTop (entryFrame m #[.ref x0, (.long (2 : Int64)), .ref vo] 4))
 refine goo (fun _ k => castTop (ef_6_RJR m x0 (2 : Int64) vo) k) ?_
 have N0 := Fr.nil n0
 have KP0 := Keep.refl h0 [x0]
 refine goo (fun _ k => XS.lloadN X0.here hx rfl (hb hby d6_0) rfl <| XS.lconst X0.here hx rfl (hb hby d6_1) <| XS.lcmp X0.here hx rfl (hb hby d6_2) rfl <| XS.ifNo X0.here hx rfl (hb hby d6_3) rfl (((if0 _ _).trans (flt (own_l2 (by decide : ¬ ((2 : Int64) < (1 : Int64))))).1)) k) ?_
 refine goo (fun _ k => XS.lloadN X0.here hx rfl (hb hby d6_6) rfl k) ?_
 show own_G _ _ _ _ (s₁.setTop (mkF m 7 #[rv x0, .val (.long (2 : Int64)), .second, rv vo] [(.long (2 : Int64))]))
 refine goo (fun _ k => XS.aloadN X0.here hx rfl (hb hby d6_7) rfl rfl k) ?_
 obtain ⟨T'0, X'0, e'0, st'0⟩ := getF X0 hx hZ hown (host := "") (Or.inl (qw hw 39 rfl)) Via.refl e0 p2_ (g := (mkF m 8 #[rv x0, .val (.long (2 : Int64)), .second, rv vo] [.ref x0, (.long (2 : Int64))])) rfl rfl (hb hby d6_8)
 refine goo st'0 ?_
 refine goo (fun _ k => XS.i2l X'0.here hx rfl (hb hby d6_11) rfl <| XS.lcmp X'0.here hx rfl (hb hby d6_12) rfl <| XS.ifYes X'0.here hx rfl (pc0 := 13) (pc' := 86) rfl (hb hby d6_13) rfl (((if0 _ _).trans (tlt (own_g1 p9_)).2.2.1)) (by decide) (by decide) <| XS.lloadN X'0.here hx rfl (hb hby d6_86) rfl k) ?_
 show own_G _ _ _ _ (T'0.setTop (mkF m 87 #[rv x0, .val (.long (2 : Int64)), .second, rv vo] [(.long (2 : Int64))]))
 refine goo (fun _ k => XS.aloadN X'0.here hx rfl (hb hby d6_87) rfl rfl k) ?_
 obtain ⟨T'1, X'1, e'1, st'1⟩ := getF X'0 hx hZ hown (host := "") (Or.inl (qw hw 39 rfl)) Via.refl e'0 p2_ (g := (mkF m 88 #[rv x0, .val (.long (2 : Int64)), .second, rv vo] [.ref x0, (.long (2 : Int64))])) rfl rfl (hb hby d6_88)
 refine goo st'1 ?_
 refine goo (fun _ k => XS.i2l X'1.here hx rfl (hb hby d6_91) rfl <| XS.lconst X'1.here hx rfl (hb hby d6_92) <| XS.ladd X'1.here hx rfl (hb hby d6_93) rfl <| XS.lcmp X'1.here hx rfl (hb hby d6_94) rfl k) ?_
 show own_G _ _ _ _ (T'1.setTop (mkF m 95 #[rv x0, .val (.long (2 : Int64)), .second, rv vo] [(.int (lcmpW (2 : Int64) ((c_.toInt64) + (1 : Int64))))]))
 refine goo (fun _ k => XS.ifYes X'1.here hx rfl (pc0 := 95) (pc' := 119) rfl (hb hby d6_95) rfl (((if0 _ _).trans (feq (own_e2 p10_)).2)) (by decide) (by decide) <| XS.aloadN X'1.here hx rfl (hb hby d6_119) rfl rfl <| XS.lloadN X'1.here hx rfl (hb hby d6_120) rfl k) ?_
 obtain ⟨T'2, X'2, e'2, st'2⟩ := own_callP X'1 hx hZ (y := Y13) hown (qw hw 43 rfl) (qw hw 2 rfl) (qw hw 3 rfl) (qw hw 4 rfl) (by decide) (W := 1) (rm_vo2 l Z a0 hw []  n0 ca kca cvs bx h0 p7_ p8_) (by decide) (by decide) rfl rfl e'1 (g := (mkF m 121 #[rv x0, .val (.long (2 : Int64)), .second, rv vo] [(.long (2 : Int64)), .ref x0])) rfl (by rw [hml]; rfl) (argsL := [(.long (2 : Int64))]) (rest := [.ref x0]) (lenOf own_pd11 rfl) rfl rfl (Nat.le_of_eq rfl) (hb hby d6_121) (by decide) (by decide)
 refine goo st'2 ?_
 have X_3 := own_LCx p8_ p7_ 130 (by decide)
 refine goo (fun _ k => XS.aloadN X'2.here hx rfl (hb hby d6_124) rfl rfl k) ?_
 obtain ⟨cq'4, kq'4, q'4a, q'4b, q'4c⟩ := isOf hZ e'2 p0_
 obtain ⟨cp'4, cq'5, cq'6⟩ := p0_.cell
 obtain ⟨_, _, ⟨T'4, L'4, k'4, n'4⟩, -, X'4, ⟨Lc'4, hQ'4, l'4, y'4, z'4⟩, st'4⟩ := own_privB X'2 hx (y := Y21) hown (mvT hZ (qw hw 47 rfl)) (mvT hZ (qw hw 48 rfl)) (mvT hZ (qw hw 24 rfl)) (Cond.privateMethod_at (mvP hZ (qw hw 49 rfl) (args := #[]))) (mvT hZ (qw hw 50 rfl)) (by decide) (backOf (W := 0) (rm_ph0 l Z a0 hw [] x0 vo ar c_ ho_ (bx 130) (2 : Int64) i_2 i_1013894940 h0 n0 Z0 p0_ p1_ p2_ p3_ p4_ p5_ X_3 (own_LCh p8_ 130 (by decide) (2 : Int64) (by decide)) (by decide) (by decide) (by decide) p6_ p7_) hZ (qw hw 50 rfl) (qw hw 25 rfl) (by decide) (by decide)) (g := (mkF m 125 #[rv x0, .val (.long (2 : Int64)), .second, rv vo] [.ref vo, (.ref (bx 130)), .ref x0])) rfl (by rw [hml]; rfl) (a := x0) (by rw [e'2]; exact cq'5) cq'6 (argsL := [(.ref (bx 130)), .ref vo]) (rest := []) (lenOf own_pd10 rfl) rfl (Nat.le_of_eq rfl) (hb hby d6_125) (fun _ _ => ⟨rfl, e'2, (by decide : 0 + 6 ≤ _), (by decide : 0 + 30 ≤ _)⟩)
 dsimp only [Pt.U, Pt.locs, Pt.cells, Pt.slots] at X'4 l'4 y'4 z'4 st'4 hQ'4
 subst l'4 y'4 z'4
 obtain ⟨rfl, Nq'4, K'4, G_7, G_8, G_9, G_a⟩ := hQ'4
 have KP_b : Keep h0 T'4.heap [x0] := KP0.trans K'4 (allS (Or.inl (List.mem_of_getElem? (i := 0) rfl)) all0)
 have N_4 := Fr.app N0 Nq'4
 refine goo (fun _ k => st'4.trans k) ?_
 show own_G _ _ _ _ (T'4.setTop (mkF m 128 #[rv x0, .val (.long (2 : Int64)), .second, rv vo] []))
 exact own_end X'4 Bd.notSynchronized (v := none) (fun _ => rfl) (Q := Q_rm_pv2 Z x0 vo ar c_ ho_ ca kca cvs bx h0 n0) (by show Q_rm_pv2 Z x0 vo ar c_ ho_ ca kca cvs bx h0 n0 (none) T'4.heap _; exact ⟨rfl, N_4, KP_b, G_7, G_8, G_9, G_a⟩) (fun fs hr => X'4.returnOut hx Bd.returns (hb hby d6_128) hr) (by decide) (by decide)
def Q_rm_pv3 (Z : State) (x0 : Addr) (vo : Addr) (ar : Addr) (c_ ho_ : Int32) (ca : Addr) (kca : ClassId) (cvs : List Value) (bx : Nat → Addr) (h0 : Heap) (n0 : Nat) (v : Option Value) (h : Heap) (L : List Loc) : Prop := v = none ∧ Fr n0 L ∧ Keep h0 h [x0] ∧ Exa Z h x0 s_1 ∧ Fld Z h x0 s_1 "array" "[Ljava/lang/Object;" (.ref ar) ∧ Fld Z h x0 s_1 "arrayCount" "I" (.int c_) ∧ Fld Z h x0 s_1 "holes" "Z" (.int ho_)
theorem rm_pv3 (l : Launch) (Z : State) (a0 : Array Value) (hw : own_HW a0 Z) (ws : List Jvm.Cond) (x0 : Addr) (vo : Addr) (ar : Addr) (c_ ho_ : Int32) (ca : Addr) (kca : ClassId) (cvs : List Value) (bx : Nat → Addr) (h0 : Heap) (n0 : Nat) (Z0 : n0 ≤ h0.size) (p0_ : Exa Z h0 x0 s_1) (p1_ : Fld Z h0 x0 s_1 "array" "[Ljava/lang/Object;" (.ref ar)) (p2_ : Fld Z h0 x0 s_1 "arrayCount" "I" (.int c_)) (p3_ : Fld Z h0 x0 s_1 "holes" "Z" (.int ho_)) (p4_ : Fld Z h0 x0 s_1 "hash" "Lcom/example/plainsong/plainsong/engine/HashPart;" .null) (p5_ : n0 ≤ x0) (p6_ : Exa Z h0 vo s_3) (p7_ : Old Z n0 h0) (p8_ : own_LC Z ca kca cvs bx) (p9_ : (c_.toInt64) < (3 : Int64)) (p10_ : ¬ (3 : Int64) = ((c_.toInt64) + (1 : Int64)))  :
  MetFree l Y22 (head1 (Jvm.Cond.code Y22 prog_60_method_7_code 4 none :: ws) (rr 5 6 30 72)) (fun a U => a = #[.ref x0, (.long (3 : Int64)), .ref vo] ∧ Z.Warmed39 U.vm ∧ U.heap = h0) (fun _ _ _ _ _ => True) (fun _ U o U' => ∃ v L, o = .returned v ∧ Q_rm_pv3 Z x0 vo ar c_ ho_ ca kca cvs bx h0 n0 v U'.heap L ∧ FrameEnd U o U' L (rr 5 6 30 72).cells (rr 5 6 30 72).slots) := by
 refine MetFree.of_bodySF (plainFor_of_name own_pn2) hisR ?_
 intro p e s m args below meth c s₁ Bd hml0 hP hK
 obtain ⟨rfl, hZ, hh⟩ := hP
 have hx := Bd.exec
 have hby := Bd.bytes
 have hml : c.maxLocals = 4 := hml0
 have hown : s.vm.findClass s_1 = some m.cls := findClass_of_methodNamed Bd.named
 have hnm := (name_of_methodNamed Bd.named Bd.method).1
 have X0 : Stand p l e (rr 5 6 30 72) s m #[.ref x0, (.long (3 : Int64)), .ref vo] below meth c s₁ [] 0 0 := Stand.of_body Bd
 have e0 : s₁.heap = h0 := by rw [← hh, Bd.state]; rfl
 show own_G _ _ _ _ (s₁.setTop (entryFrame m #[.ref x0, (.long (3 : Int64)), .ref vo] 4))
 refine goo (fun _ k => castTop (ef_6_RJR m x0 (3 : Int64) vo) k) ?_
 have N0 := Fr.nil n0
 have KP0 := Keep.refl h0 [x0]
 refine goo (fun _ k => XS.lloadN X0.here hx rfl (hb hby d6_0) rfl <| XS.lconst X0.here hx rfl (hb hby d6_1) <| XS.lcmp X0.here hx rfl (hb hby d6_2) rfl <| XS.ifNo X0.here hx rfl (hb hby d6_3) rfl (((if0 _ _).trans (flt (own_l2 (by decide : ¬ ((3 : Int64) < (1 : Int64))))).1)) k) ?_
 refine goo (fun _ k => XS.lloadN X0.here hx rfl (hb hby d6_6) rfl k) ?_
 show own_G _ _ _ _ (s₁.setTop (mkF m 7 #[rv x0, .val (.long (3 : Int64)), .second, rv vo] [(.long (3 : Int64))]))
 refine goo (fun _ k => XS.aloadN X0.here hx rfl (hb hby d6_7) rfl rfl k) ?_
 obtain ⟨T'0, X'0, e'0, st'0⟩ := getF X0 hx hZ hown (host := "") (Or.inl (qw hw 39 rfl)) Via.refl e0 p2_ (g := (mkF m 8 #[rv x0, .val (.long (3 : Int64)), .second, rv vo] [.ref x0, (.long (3 : Int64))])) rfl rfl (hb hby d6_8)
 refine goo st'0 ?_
 refine goo (fun _ k => XS.i2l X'0.here hx rfl (hb hby d6_11) rfl <| XS.lcmp X'0.here hx rfl (hb hby d6_12) rfl <| XS.ifYes X'0.here hx rfl (pc0 := 13) (pc' := 86) rfl (hb hby d6_13) rfl (((if0 _ _).trans (tlt (own_g1 p9_)).2.2.1)) (by decide) (by decide) <| XS.lloadN X'0.here hx rfl (hb hby d6_86) rfl k) ?_
 show own_G _ _ _ _ (T'0.setTop (mkF m 87 #[rv x0, .val (.long (3 : Int64)), .second, rv vo] [(.long (3 : Int64))]))
 refine goo (fun _ k => XS.aloadN X'0.here hx rfl (hb hby d6_87) rfl rfl k) ?_
 obtain ⟨T'1, X'1, e'1, st'1⟩ := getF X'0 hx hZ hown (host := "") (Or.inl (qw hw 39 rfl)) Via.refl e'0 p2_ (g := (mkF m 88 #[rv x0, .val (.long (3 : Int64)), .second, rv vo] [.ref x0, (.long (3 : Int64))])) rfl rfl (hb hby d6_88)
 refine goo st'1 ?_
 refine goo (fun _ k => XS.i2l X'1.here hx rfl (hb hby d6_91) rfl <| XS.lconst X'1.here hx rfl (hb hby d6_92) <| XS.ladd X'1.here hx rfl (hb hby d6_93) rfl <| XS.lcmp X'1.here hx rfl (hb hby d6_94) rfl k) ?_
 show own_G _ _ _ _ (T'1.setTop (mkF m 95 #[rv x0, .val (.long (3 : Int64)), .second, rv vo] [(.int (lcmpW (3 : Int64) ((c_.toInt64) + (1 : Int64))))]))
 refine goo (fun _ k => XS.ifYes X'1.here hx rfl (pc0 := 95) (pc' := 119) rfl (hb hby d6_95) rfl (((if0 _ _).trans (feq (own_e2 p10_)).2)) (by decide) (by decide) <| XS.aloadN X'1.here hx rfl (hb hby d6_119) rfl rfl <| XS.lloadN X'1.here hx rfl (hb hby d6_120) rfl k) ?_
 obtain ⟨T'2, X'2, e'2, st'2⟩ := own_callP X'1 hx hZ (y := Y13) hown (qw hw 43 rfl) (qw hw 2 rfl) (qw hw 3 rfl) (qw hw 4 rfl) (by decide) (W := 1) (rm_vo3 l Z a0 hw []  n0 ca kca cvs bx h0 p7_ p8_) (by decide) (by decide) rfl rfl e'1 (g := (mkF m 121 #[rv x0, .val (.long (3 : Int64)), .second, rv vo] [(.long (3 : Int64)), .ref x0])) rfl (by rw [hml]; rfl) (argsL := [(.long (3 : Int64))]) (rest := [.ref x0]) (lenOf own_pd11 rfl) rfl rfl (Nat.le_of_eq rfl) (hb hby d6_121) (by decide) (by decide)
 refine goo st'2 ?_
 have X_3 := own_LCx p8_ p7_ 131 (by decide)
 refine goo (fun _ k => XS.aloadN X'2.here hx rfl (hb hby d6_124) rfl rfl k) ?_
 obtain ⟨cq'4, kq'4, q'4a, q'4b, q'4c⟩ := isOf hZ e'2 p0_
 obtain ⟨cp'4, cq'5, cq'6⟩ := p0_.cell
 obtain ⟨_, _, ⟨T'4, L'4, k'4, n'4⟩, -, X'4, ⟨Lc'4, hQ'4, l'4, y'4, z'4⟩, st'4⟩ := own_privB X'2 hx (y := Y21) hown (mvT hZ (qw hw 47 rfl)) (mvT hZ (qw hw 48 rfl)) (mvT hZ (qw hw 24 rfl)) (Cond.privateMethod_at (mvP hZ (qw hw 49 rfl) (args := #[]))) (mvT hZ (qw hw 50 rfl)) (by decide) (backOf (W := 0) (rm_ph1 l Z a0 hw [] x0 vo ar c_ ho_ (bx 131) (3 : Int64) i_3 (-626608243 : Int32) h0 n0 Z0 p0_ p1_ p2_ p3_ p4_ p5_ X_3 (own_LCh p8_ 131 (by decide) (3 : Int64) (by decide)) (by decide) (by decide) (by decide) p6_ p7_) hZ (qw hw 50 rfl) (qw hw 25 rfl) (by decide) (by decide)) (g := (mkF m 125 #[rv x0, .val (.long (3 : Int64)), .second, rv vo] [.ref vo, (.ref (bx 131)), .ref x0])) rfl (by rw [hml]; rfl) (a := x0) (by rw [e'2]; exact cq'5) cq'6 (argsL := [(.ref (bx 131)), .ref vo]) (rest := []) (lenOf own_pd10 rfl) rfl (Nat.le_of_eq rfl) (hb hby d6_125) (fun _ _ => ⟨rfl, e'2, (by decide : 0 + 6 ≤ _), (by decide : 0 + 30 ≤ _)⟩)
 dsimp only [Pt.U, Pt.locs, Pt.cells, Pt.slots] at X'4 l'4 y'4 z'4 st'4 hQ'4
 subst l'4 y'4 z'4
 obtain ⟨rfl, Nq'4, K'4, G_7, G_8, G_9, G_a⟩ := hQ'4
 have KP_b : Keep h0 T'4.heap [x0] := KP0.trans K'4 (allS (Or.inl (List.mem_of_getElem? (i := 0) rfl)) all0)
 have N_4 := Fr.app N0 Nq'4
 refine goo (fun _ k => st'4.trans k) ?_
 show own_G _ _ _ _ (T'4.setTop (mkF m 128 #[rv x0, .val (.long (3 : Int64)), .second, rv vo] []))
 exact own_end X'4 Bd.notSynchronized (v := none) (fun _ => rfl) (Q := Q_rm_pv3 Z x0 vo ar c_ ho_ ca kca cvs bx h0 n0) (by show Q_rm_pv3 Z x0 vo ar c_ ho_ ca kca cvs bx h0 n0 (none) T'4.heap _; exact ⟨rfl, N_4, KP_b, G_7, G_8, G_9, G_a⟩) (fun fs hr => X'4.returnOut hx Bd.returns (hb hby d6_128) hr) (by decide) (by decide)
def Q_rm_pv4 (Z : State) (x0 : Addr) (vo : Addr) (ar : Addr) (c_ ho_ : Int32) (ca : Addr) (kca : ClassId) (cvs : List Value) (bx : Nat → Addr) (h0 : Heap) (n0 : Nat) (v : Option Value) (h : Heap) (L : List Loc) : Prop := v = none ∧ Fr n0 L ∧ Keep h0 h [x0] ∧ Exa Z h x0 s_1 ∧ Fld Z h x0 s_1 "array" "[Ljava/lang/Object;" (.ref ar) ∧ Fld Z h x0 s_1 "arrayCount" "I" (.int c_) ∧ Fld Z h x0 s_1 "holes" "Z" (.int ho_)
theorem rm_pv4 (l : Launch) (Z : State) (a0 : Array Value) (hw : own_HW a0 Z) (ws : List Jvm.Cond) (x0 : Addr) (vo : Addr) (ar : Addr) (c_ ho_ : Int32) (ca : Addr) (kca : ClassId) (cvs : List Value) (bx : Nat → Addr) (h0 : Heap) (n0 : Nat) (Z0 : n0 ≤ h0.size) (p0_ : Exa Z h0 x0 s_1) (p1_ : Fld Z h0 x0 s_1 "array" "[Ljava/lang/Object;" (.ref ar)) (p2_ : Fld Z h0 x0 s_1 "arrayCount" "I" (.int c_)) (p3_ : Fld Z h0 x0 s_1 "holes" "Z" (.int ho_)) (p4_ : Fld Z h0 x0 s_1 "hash" "Lcom/example/plainsong/plainsong/engine/HashPart;" .null) (p5_ : n0 ≤ x0) (p6_ : Exa Z h0 vo s_3) (p7_ : Old Z n0 h0) (p8_ : own_LC Z ca kca cvs bx) (p9_ : (c_.toInt64) < (4 : Int64)) (p10_ : ¬ (4 : Int64) = ((c_.toInt64) + (1 : Int64)))  :
  MetFree l Y22 (head1 (Jvm.Cond.code Y22 prog_60_method_7_code 4 none :: ws) (rr 5 6 30 72)) (fun a U => a = #[.ref x0, (.long (4 : Int64)), .ref vo] ∧ Z.Warmed39 U.vm ∧ U.heap = h0) (fun _ _ _ _ _ => True) (fun _ U o U' => ∃ v L, o = .returned v ∧ Q_rm_pv4 Z x0 vo ar c_ ho_ ca kca cvs bx h0 n0 v U'.heap L ∧ FrameEnd U o U' L (rr 5 6 30 72).cells (rr 5 6 30 72).slots) := by
 refine MetFree.of_bodySF (plainFor_of_name own_pn2) hisR ?_
 intro p e s m args below meth c s₁ Bd hml0 hP hK
 obtain ⟨rfl, hZ, hh⟩ := hP
 have hx := Bd.exec
 have hby := Bd.bytes
 have hml : c.maxLocals = 4 := hml0
 have hown : s.vm.findClass s_1 = some m.cls := findClass_of_methodNamed Bd.named
 have hnm := (name_of_methodNamed Bd.named Bd.method).1
 have X0 : Stand p l e (rr 5 6 30 72) s m #[.ref x0, (.long (4 : Int64)), .ref vo] below meth c s₁ [] 0 0 := Stand.of_body Bd
 have e0 : s₁.heap = h0 := by rw [← hh, Bd.state]; rfl
 show own_G _ _ _ _ (s₁.setTop (entryFrame m #[.ref x0, (.long (4 : Int64)), .ref vo] 4))
 refine goo (fun _ k => castTop (ef_6_RJR m x0 (4 : Int64) vo) k) ?_
 have N0 := Fr.nil n0
 have KP0 := Keep.refl h0 [x0]
 refine goo (fun _ k => XS.lloadN X0.here hx rfl (hb hby d6_0) rfl <| XS.lconst X0.here hx rfl (hb hby d6_1) <| XS.lcmp X0.here hx rfl (hb hby d6_2) rfl <| XS.ifNo X0.here hx rfl (hb hby d6_3) rfl (((if0 _ _).trans (flt (own_l2 (by decide : ¬ ((4 : Int64) < (1 : Int64))))).1)) k) ?_
 refine goo (fun _ k => XS.lloadN X0.here hx rfl (hb hby d6_6) rfl k) ?_
 show own_G _ _ _ _ (s₁.setTop (mkF m 7 #[rv x0, .val (.long (4 : Int64)), .second, rv vo] [(.long (4 : Int64))]))
 refine goo (fun _ k => XS.aloadN X0.here hx rfl (hb hby d6_7) rfl rfl k) ?_
 obtain ⟨T'0, X'0, e'0, st'0⟩ := getF X0 hx hZ hown (host := "") (Or.inl (qw hw 39 rfl)) Via.refl e0 p2_ (g := (mkF m 8 #[rv x0, .val (.long (4 : Int64)), .second, rv vo] [.ref x0, (.long (4 : Int64))])) rfl rfl (hb hby d6_8)
 refine goo st'0 ?_
 refine goo (fun _ k => XS.i2l X'0.here hx rfl (hb hby d6_11) rfl <| XS.lcmp X'0.here hx rfl (hb hby d6_12) rfl <| XS.ifYes X'0.here hx rfl (pc0 := 13) (pc' := 86) rfl (hb hby d6_13) rfl (((if0 _ _).trans (tlt (own_g1 p9_)).2.2.1)) (by decide) (by decide) <| XS.lloadN X'0.here hx rfl (hb hby d6_86) rfl k) ?_
 show own_G _ _ _ _ (T'0.setTop (mkF m 87 #[rv x0, .val (.long (4 : Int64)), .second, rv vo] [(.long (4 : Int64))]))
 refine goo (fun _ k => XS.aloadN X'0.here hx rfl (hb hby d6_87) rfl rfl k) ?_
 obtain ⟨T'1, X'1, e'1, st'1⟩ := getF X'0 hx hZ hown (host := "") (Or.inl (qw hw 39 rfl)) Via.refl e'0 p2_ (g := (mkF m 88 #[rv x0, .val (.long (4 : Int64)), .second, rv vo] [.ref x0, (.long (4 : Int64))])) rfl rfl (hb hby d6_88)
 refine goo st'1 ?_
 refine goo (fun _ k => XS.i2l X'1.here hx rfl (hb hby d6_91) rfl <| XS.lconst X'1.here hx rfl (hb hby d6_92) <| XS.ladd X'1.here hx rfl (hb hby d6_93) rfl <| XS.lcmp X'1.here hx rfl (hb hby d6_94) rfl k) ?_
 show own_G _ _ _ _ (T'1.setTop (mkF m 95 #[rv x0, .val (.long (4 : Int64)), .second, rv vo] [(.int (lcmpW (4 : Int64) ((c_.toInt64) + (1 : Int64))))]))
 refine goo (fun _ k => XS.ifYes X'1.here hx rfl (pc0 := 95) (pc' := 119) rfl (hb hby d6_95) rfl (((if0 _ _).trans (feq (own_e2 p10_)).2)) (by decide) (by decide) <| XS.aloadN X'1.here hx rfl (hb hby d6_119) rfl rfl <| XS.lloadN X'1.here hx rfl (hb hby d6_120) rfl k) ?_
 obtain ⟨T'2, X'2, e'2, st'2⟩ := own_callP X'1 hx hZ (y := Y13) hown (qw hw 43 rfl) (qw hw 2 rfl) (qw hw 3 rfl) (qw hw 4 rfl) (by decide) (W := 1) (rm_vo4 l Z a0 hw []  n0 ca kca cvs bx h0 p7_ p8_) (by decide) (by decide) rfl rfl e'1 (g := (mkF m 121 #[rv x0, .val (.long (4 : Int64)), .second, rv vo] [(.long (4 : Int64)), .ref x0])) rfl (by rw [hml]; rfl) (argsL := [(.long (4 : Int64))]) (rest := [.ref x0]) (lenOf own_pd11 rfl) rfl rfl (Nat.le_of_eq rfl) (hb hby d6_121) (by decide) (by decide)
 refine goo st'2 ?_
 have X_3 := own_LCx p8_ p7_ 132 (by decide)
 refine goo (fun _ k => XS.aloadN X'2.here hx rfl (hb hby d6_124) rfl rfl k) ?_
 obtain ⟨cq'4, kq'4, q'4a, q'4b, q'4c⟩ := isOf hZ e'2 p0_
 obtain ⟨cp'4, cq'5, cq'6⟩ := p0_.cell
 obtain ⟨_, _, ⟨T'4, L'4, k'4, n'4⟩, -, X'4, ⟨Lc'4, hQ'4, l'4, y'4, z'4⟩, st'4⟩ := own_privB X'2 hx (y := Y21) hown (mvT hZ (qw hw 47 rfl)) (mvT hZ (qw hw 48 rfl)) (mvT hZ (qw hw 24 rfl)) (Cond.privateMethod_at (mvP hZ (qw hw 49 rfl) (args := #[]))) (mvT hZ (qw hw 50 rfl)) (by decide) (backOf (W := 0) (rm_ph1 l Z a0 hw [] x0 vo ar c_ ho_ (bx 132) (4 : Int64) i_4 i_2027789881 h0 n0 Z0 p0_ p1_ p2_ p3_ p4_ p5_ X_3 (own_LCh p8_ 132 (by decide) (4 : Int64) (by decide)) (by decide) (by decide) (by decide) p6_ p7_) hZ (qw hw 50 rfl) (qw hw 25 rfl) (by decide) (by decide)) (g := (mkF m 125 #[rv x0, .val (.long (4 : Int64)), .second, rv vo] [.ref vo, (.ref (bx 132)), .ref x0])) rfl (by rw [hml]; rfl) (a := x0) (by rw [e'2]; exact cq'5) cq'6 (argsL := [(.ref (bx 132)), .ref vo]) (rest := []) (lenOf own_pd10 rfl) rfl (Nat.le_of_eq rfl) (hb hby d6_125) (fun _ _ => ⟨rfl, e'2, (by decide : 0 + 6 ≤ _), (by decide : 0 + 30 ≤ _)⟩)
 dsimp only [Pt.U, Pt.locs, Pt.cells, Pt.slots] at X'4 l'4 y'4 z'4 st'4 hQ'4
 subst l'4 y'4 z'4
 obtain ⟨rfl, Nq'4, K'4, G_7, G_8, G_9, G_a⟩ := hQ'4
 have KP_b : Keep h0 T'4.heap [x0] := KP0.trans K'4 (allS (Or.inl (List.mem_of_getElem? (i := 0) rfl)) all0)
 have N_4 := Fr.app N0 Nq'4
 refine goo (fun _ k => st'4.trans k) ?_
 show own_G _ _ _ _ (T'4.setTop (mkF m 128 #[rv x0, .val (.long (4 : Int64)), .second, rv vo] []))
 exact own_end X'4 Bd.notSynchronized (v := none) (fun _ => rfl) (Q := Q_rm_pv4 Z x0 vo ar c_ ho_ ca kca cvs bx h0 n0) (by show Q_rm_pv4 Z x0 vo ar c_ ho_ ca kca cvs bx h0 n0 (none) T'4.heap _; exact ⟨rfl, N_4, KP_b, G_7, G_8, G_9, G_a⟩) (fun fs hr => X'4.returnOut hx Bd.returns (hb hby d6_128) hr) (by decide) (by decide)
def Q_rm_pv5 (Z : State) (x0 : Addr) (vo : Addr) (ar : Addr) (c_ ho_ : Int32) (ca : Addr) (kca : ClassId) (cvs : List Value) (bx : Nat → Addr) (h0 : Heap) (n0 : Nat) (v : Option Value) (h : Heap) (L : List Loc) : Prop := v = none ∧ Fr n0 L ∧ Keep h0 h [x0] ∧ Exa Z h x0 s_1 ∧ Fld Z h x0 s_1 "array" "[Ljava/lang/Object;" (.ref ar) ∧ Fld Z h x0 s_1 "arrayCount" "I" (.int c_) ∧ Fld Z h x0 s_1 "holes" "Z" (.int ho_)
theorem rm_pv5 (l : Launch) (Z : State) (a0 : Array Value) (hw : own_HW a0 Z) (ws : List Jvm.Cond) (x0 : Addr) (vo : Addr) (ar : Addr) (c_ ho_ : Int32) (ca : Addr) (kca : ClassId) (cvs : List Value) (bx : Nat → Addr) (h0 : Heap) (n0 : Nat) (Z0 : n0 ≤ h0.size) (p0_ : Exa Z h0 x0 s_1) (p1_ : Fld Z h0 x0 s_1 "array" "[Ljava/lang/Object;" (.ref ar)) (p2_ : Fld Z h0 x0 s_1 "arrayCount" "I" (.int c_)) (p3_ : Fld Z h0 x0 s_1 "holes" "Z" (.int ho_)) (p4_ : Fld Z h0 x0 s_1 "hash" "Lcom/example/plainsong/plainsong/engine/HashPart;" .null) (p5_ : n0 ≤ x0) (p6_ : Exa Z h0 vo s_3) (p7_ : Old Z n0 h0) (p8_ : own_LC Z ca kca cvs bx) (p9_ : (c_.toInt64) < (5 : Int64)) (p10_ : ¬ (5 : Int64) = ((c_.toInt64) + (1 : Int64)))  :
  MetFree l Y22 (head1 (Jvm.Cond.code Y22 prog_60_method_7_code 4 none :: ws) (rr 5 6 30 72)) (fun a U => a = #[.ref x0, (.long (5 : Int64)), .ref vo] ∧ Z.Warmed39 U.vm ∧ U.heap = h0) (fun _ _ _ _ _ => True) (fun _ U o U' => ∃ v L, o = .returned v ∧ Q_rm_pv5 Z x0 vo ar c_ ho_ ca kca cvs bx h0 n0 v U'.heap L ∧ FrameEnd U o U' L (rr 5 6 30 72).cells (rr 5 6 30 72).slots) := by
 refine MetFree.of_bodySF (plainFor_of_name own_pn2) hisR ?_
 intro p e s m args below meth c s₁ Bd hml0 hP hK
 obtain ⟨rfl, hZ, hh⟩ := hP
 have hx := Bd.exec
 have hby := Bd.bytes
 have hml : c.maxLocals = 4 := hml0
 have hown : s.vm.findClass s_1 = some m.cls := findClass_of_methodNamed Bd.named
 have hnm := (name_of_methodNamed Bd.named Bd.method).1
 have X0 : Stand p l e (rr 5 6 30 72) s m #[.ref x0, (.long (5 : Int64)), .ref vo] below meth c s₁ [] 0 0 := Stand.of_body Bd
 have e0 : s₁.heap = h0 := by rw [← hh, Bd.state]; rfl
 show own_G _ _ _ _ (s₁.setTop (entryFrame m #[.ref x0, (.long (5 : Int64)), .ref vo] 4))
 refine goo (fun _ k => castTop (ef_6_RJR m x0 (5 : Int64) vo) k) ?_
 have N0 := Fr.nil n0
 have KP0 := Keep.refl h0 [x0]
 refine goo (fun _ k => XS.lloadN X0.here hx rfl (hb hby d6_0) rfl <| XS.lconst X0.here hx rfl (hb hby d6_1) <| XS.lcmp X0.here hx rfl (hb hby d6_2) rfl <| XS.ifNo X0.here hx rfl (hb hby d6_3) rfl (((if0 _ _).trans (flt (own_l2 (by decide : ¬ ((5 : Int64) < (1 : Int64))))).1)) k) ?_
 refine goo (fun _ k => XS.lloadN X0.here hx rfl (hb hby d6_6) rfl k) ?_
 show own_G _ _ _ _ (s₁.setTop (mkF m 7 #[rv x0, .val (.long (5 : Int64)), .second, rv vo] [(.long (5 : Int64))]))
 refine goo (fun _ k => XS.aloadN X0.here hx rfl (hb hby d6_7) rfl rfl k) ?_
 obtain ⟨T'0, X'0, e'0, st'0⟩ := getF X0 hx hZ hown (host := "") (Or.inl (qw hw 39 rfl)) Via.refl e0 p2_ (g := (mkF m 8 #[rv x0, .val (.long (5 : Int64)), .second, rv vo] [.ref x0, (.long (5 : Int64))])) rfl rfl (hb hby d6_8)
 refine goo st'0 ?_
 refine goo (fun _ k => XS.i2l X'0.here hx rfl (hb hby d6_11) rfl <| XS.lcmp X'0.here hx rfl (hb hby d6_12) rfl <| XS.ifYes X'0.here hx rfl (pc0 := 13) (pc' := 86) rfl (hb hby d6_13) rfl (((if0 _ _).trans (tlt (own_g1 p9_)).2.2.1)) (by decide) (by decide) <| XS.lloadN X'0.here hx rfl (hb hby d6_86) rfl k) ?_
 show own_G _ _ _ _ (T'0.setTop (mkF m 87 #[rv x0, .val (.long (5 : Int64)), .second, rv vo] [(.long (5 : Int64))]))
 refine goo (fun _ k => XS.aloadN X'0.here hx rfl (hb hby d6_87) rfl rfl k) ?_
 obtain ⟨T'1, X'1, e'1, st'1⟩ := getF X'0 hx hZ hown (host := "") (Or.inl (qw hw 39 rfl)) Via.refl e'0 p2_ (g := (mkF m 88 #[rv x0, .val (.long (5 : Int64)), .second, rv vo] [.ref x0, (.long (5 : Int64))])) rfl rfl (hb hby d6_88)
 refine goo st'1 ?_
 refine goo (fun _ k => XS.i2l X'1.here hx rfl (hb hby d6_91) rfl <| XS.lconst X'1.here hx rfl (hb hby d6_92) <| XS.ladd X'1.here hx rfl (hb hby d6_93) rfl <| XS.lcmp X'1.here hx rfl (hb hby d6_94) rfl k) ?_
 show own_G _ _ _ _ (T'1.setTop (mkF m 95 #[rv x0, .val (.long (5 : Int64)), .second, rv vo] [(.int (lcmpW (5 : Int64) ((c_.toInt64) + (1 : Int64))))]))
 refine goo (fun _ k => XS.ifYes X'1.here hx rfl (pc0 := 95) (pc' := 119) rfl (hb hby d6_95) rfl (((if0 _ _).trans (feq (own_e2 p10_)).2)) (by decide) (by decide) <| XS.aloadN X'1.here hx rfl (hb hby d6_119) rfl rfl <| XS.lloadN X'1.here hx rfl (hb hby d6_120) rfl k) ?_
 obtain ⟨T'2, X'2, e'2, st'2⟩ := own_callP X'1 hx hZ (y := Y13) hown (qw hw 43 rfl) (qw hw 2 rfl) (qw hw 3 rfl) (qw hw 4 rfl) (by decide) (W := 1) (rm_vo5 l Z a0 hw []  n0 ca kca cvs bx h0 p7_ p8_) (by decide) (by decide) rfl rfl e'1 (g := (mkF m 121 #[rv x0, .val (.long (5 : Int64)), .second, rv vo] [(.long (5 : Int64)), .ref x0])) rfl (by rw [hml]; rfl) (argsL := [(.long (5 : Int64))]) (rest := [.ref x0]) (lenOf own_pd11 rfl) rfl rfl (Nat.le_of_eq rfl) (hb hby d6_121) (by decide) (by decide)
 refine goo st'2 ?_
 have X_3 := own_LCx p8_ p7_ 133 (by decide)
 refine goo (fun _ k => XS.aloadN X'2.here hx rfl (hb hby d6_124) rfl rfl k) ?_
 obtain ⟨cq'4, kq'4, q'4a, q'4b, q'4c⟩ := isOf hZ e'2 p0_
 obtain ⟨cp'4, cq'5, cq'6⟩ := p0_.cell
 obtain ⟨_, _, ⟨T'4, L'4, k'4, n'4⟩, -, X'4, ⟨Lc'4, hQ'4, l'4, y'4, z'4⟩, st'4⟩ := own_privB X'2 hx (y := Y21) hown (mvT hZ (qw hw 47 rfl)) (mvT hZ (qw hw 48 rfl)) (mvT hZ (qw hw 24 rfl)) (Cond.privateMethod_at (mvP hZ (qw hw 49 rfl) (args := #[]))) (mvT hZ (qw hw 50 rfl)) (by decide) (backOf (W := 0) (rm_ph0 l Z a0 hw [] x0 vo ar c_ ho_ (bx 133) (5 : Int64) i_5 i_387282824 h0 n0 Z0 p0_ p1_ p2_ p3_ p4_ p5_ X_3 (own_LCh p8_ 133 (by decide) (5 : Int64) (by decide)) (by decide) (by decide) (by decide) p6_ p7_) hZ (qw hw 50 rfl) (qw hw 25 rfl) (by decide) (by decide)) (g := (mkF m 125 #[rv x0, .val (.long (5 : Int64)), .second, rv vo] [.ref vo, (.ref (bx 133)), .ref x0])) rfl (by rw [hml]; rfl) (a := x0) (by rw [e'2]; exact cq'5) cq'6 (argsL := [(.ref (bx 133)), .ref vo]) (rest := []) (lenOf own_pd10 rfl) rfl (Nat.le_of_eq rfl) (hb hby d6_125) (fun _ _ => ⟨rfl, e'2, (by decide : 0 + 6 ≤ _), (by decide : 0 + 30 ≤ _)⟩)
 dsimp only [Pt.U, Pt.locs, Pt.cells, Pt.slots] at X'4 l'4 y'4 z'4 st'4 hQ'4
 subst l'4 y'4 z'4
 obtain ⟨rfl, Nq'4, K'4, G_7, G_8, G_9, G_a⟩ := hQ'4
 have KP_b : Keep h0 T'4.heap [x0] := KP0.trans K'4 (allS (Or.inl (List.mem_of_getElem? (i := 0) rfl)) all0)
 have N_4 := Fr.app N0 Nq'4
 refine goo (fun _ k => st'4.trans k) ?_
 show own_G _ _ _ _ (T'4.setTop (mkF m 128 #[rv x0, .val (.long (5 : Int64)), .second, rv vo] []))
 exact own_end X'4 Bd.notSynchronized (v := none) (fun _ => rfl) (Q := Q_rm_pv5 Z x0 vo ar c_ ho_ ca kca cvs bx h0 n0) (by show Q_rm_pv5 Z x0 vo ar c_ ho_ ca kca cvs bx h0 n0 (none) T'4.heap _; exact ⟨rfl, N_4, KP_b, G_7, G_8, G_9, G_a⟩) (fun fs hr => X'4.returnOut hx Bd.returns (hb hby d6_128) hr) (by decide) (by decide)
def own_en (b : Bool) (v : Addr) : Value := match b with | true => .ref v | false => .null
theorem own_en_s {Z : State} {h : Heap} {a v : Addr} (S : Sto Z h a (.ref v)) (b : Bool) : Sto Z h a (own_en b v) := by cases b; exact Or.inl rfl; exact S
def own_l (bs : List Bool) (v : Addr) : List Value := bs.map fun b => own_en b v
theorem own_l_len (bs : List Bool) (v : Addr) : (own_l bs v).length = bs.length := by simp [own_l]
theorem own_l_set {bs : List Bool} {v : Addr} {i : Nat} {b : Bool} : (own_l bs v).set i (own_en b v) = own_l (bs.set i b) v := by simp [own_l, List.map_set]
theorem own_ti {i : Nat} (h : i < 100) : (Int32.ofNat i).toInt = i := Int32.toInt_ofNat_of_lt (by omega)
theorem own_tn {i : Nat} (h : i < 100) : (Int32.ofNat i).toNatClampNeg = i := by rw [Int32.toNatClampNeg, own_ti h]; rfl
theorem own_l_at (bs : List Bool) (v : Addr) (i : Nat) (h : i < 100) : (own_l bs v).getD (Int32.ofNat i).toNatClampNeg .null = own_en (bs.getD i false) v := by
  rw [own_tn h, own_l]; simp only [List.getD_eq_getElem?_getD, List.getElem?_map]; cases bs[i]? <;> rfl
theorem own_n1 {i c : Nat} (h : i < c) (hc : c < 100) : Int32.ofNat i < Int32.ofNat c := by rw [Int32.lt_iff_toInt_lt, own_ti hc, own_ti (by omega)]; omega
theorem own_n2 {i c : Nat} (h : ¬ i < c) (hi : i < 100) : ¬ Int32.ofNat i < Int32.ofNat c := by rw [Int32.lt_iff_toInt_lt, own_ti hi, own_ti (by omega)]; omega
theorem own_ib {i z : Nat} (h : i < z) (hz : z < 100) : ¬ Int32.ofNat i < 0 ∧ Int32.ofNat i < Int32.ofNat z := ⟨own_n2 (c := 0) (Nat.not_lt_zero _) (by omega), own_n1 h hz⟩
theorem own_n3 (i : Nat) : Int32.ofNat i + 1 = Int32.ofNat (i + 1) := (Int32.ofNat_add i 1).symm
theorem own_n4 (i : Nat) : Int32.ofNat (i + 1) - 1 = Int32.ofNat i := by rw [← own_n3]; exact Int32.add_sub_cancel _ _
theorem own_n5 {i c : Nat} (h : i ≠ c) (hi : i < 100) (hc : c < 100) : ¬ Int32.ofNat i = Int32.ofNat c := fun q => h (by have := congrArg Int32.toInt q; rw [own_ti hi, own_ti hc] at this; omega)
def own_ff (bs : List Bool) : Nat → Nat → Nat
  | 0, i => i
  | k + 1, i => if bs.getD i false = true then own_ff bs k (i + 1) else i
theorem own_ff_t {bs : List Bool} {k i : Nat} (h : bs.getD i false = true) : own_ff bs (k + 1) i = own_ff bs k (i + 1) := by rw [own_ff, if_pos h]
theorem own_ff_f {bs : List Bool} {k i : Nat} (h : bs.getD i false = false) : own_ff bs (k + 1) i = i := by rw [own_ff, if_neg (by rw [h]; decide)]
def own_fv (ho : Int32) (bs : List Bool) (c : Nat) : Nat := if ho = 0 then c else own_ff bs c 0
def own_fh (ho : Int32) (bs : List Bool) (c : Nat) : Int32 := if ho = 0 then ho else if own_ff bs c 0 = c then 0 else ho
def own_dr (bs : List Bool) : Nat → Nat
  | 0 => 0
  | j + 1 => if bs.getD j false = true then j + 1 else own_dr bs j
theorem own_dr_t {bs : List Bool} {j : Nat} (h : bs.getD j false = true) : own_dr bs (j + 1) = j + 1 := by rw [own_dr, if_pos h]
theorem own_dr_f {bs : List Bool} {j : Nat} (h : bs.getD j false = false) : own_dr bs (j + 1) = own_dr bs j := by rw [own_dr, if_neg (by rw [h]; decide)]
def own_dc (bs : List Bool) (c j : Nat) : Nat := if j + 1 = c then own_dr (bs.set j false) j else c
def own_dh (ho : Int32) (c j : Nat) : Int32 := if j + 1 = c then ho else 1
def own_ct (bs : List Bool) : Nat → Nat → Nat
  | 0, _ => 0
  | k + 1, i => (if bs.getD i false = true then 1 else 0) + own_ct bs k (i + 1)
theorem own_ct_t {bs : List Bool} {k i : Nat} (h : bs.getD i false = true) : own_ct bs (k + 1) i = own_ct bs k (i + 1) + 1 := by rw [own_ct, if_pos h, Nat.add_comm]
theorem own_ct_f {bs : List Bool} {k i : Nat} (h : bs.getD i false = false) : own_ct bs (k + 1) i = own_ct bs k (i + 1) := by rw [own_ct, if_neg (by rw [h]; decide), Nat.zero_add]

theorem own_ix {x : Int64} (h1 : ¬ x < (-128 : Int64)) (h2 : ¬ (127 : Int64) < x) : (¬ (x.toInt32 + (128 : Int32)) < 0 ∧ (x.toInt32 + (128 : Int32)) < (256 : Int32)) ∧ (x.toInt32 + (128 : Int32)).toNatClampNeg < 256 := by
  have b1 := Int64.le_iff_toInt_le.mp (Int64.not_lt.mp h1)
  have b2 := Int64.le_iff_toInt_le.mp (Int64.not_lt.mp h2)
  have e1 : (-128 : Int64).toInt = -128 := by decide
  have e2 : (127 : Int64).toInt = 127 := by decide
  obtain ⟨t, ht, rfl⟩ : ∃ t : Nat, t < 256 ∧ x = Int64.ofInt ((t : Int) - 128) := ⟨(x.toInt + 128).toNat, by omega, by rw [show (((x.toInt + 128).toNat : Nat) : Int) - 128 = x.toInt by omega, Int64.ofInt_toInt]⟩
  exact (by decide +kernel : ∀ t : Fin 256, (¬ ((Int64.ofInt ((t.1 : Int) - 128)).toInt32 + (128 : Int32)) < 0 ∧ ((Int64.ofInt ((t.1 : Int) - 128)).toInt32 + (128 : Int32)) < (256 : Int32)) ∧ ((Int64.ofInt ((t.1 : Int) - 128)).toInt32 + (128 : Int32)).toNatClampNeg < 256) ⟨t, ht⟩
theorem d3_0 : decode jdk_18_method_1_code 0 = .ok (.aload_n 0, 1) := by decide +kernel
theorem d3_1 : decode jdk_18_method_1_code 1 = .ok (.invokespecial 1, 3) := by decide +kernel
theorem d3_4 : decode jdk_18_method_1_code 4 = .ok (.return_, 1) := by decide +kernel
theorem own_pn5 : plainName "java/lang/Number" = true := by first | (simp [plainName, overriddenIn]; done) | decide +kernel
theorem ef_3_R (m : MethodId) (x0 : Addr) : entryFrame m #[(.ref x0)] 1 = mkF m 0 #[.val (.ref x0)] [] := by
  first | (simp [entryFrame, mkF, argsToLocals, Value.category]; done) | rfl
theorem rm3 (l : Launch) (Z : State) (a0 : Array Value) (hw : own_HW a0 Z) (ws : List Jvm.Cond) (x0 : Addr)  (h0 : Heap)  :
  MetFree l Y23 (head1 (Jvm.Cond.code Y23 jdk_18_method_1_code 1 none :: ws) (rr 1 0 0 12)) (fun a U => a = #[.ref x0] ∧ Z.Warmed39 U.vm ∧ U.heap = h0) (fun _ _ _ _ _ => True) (fun _ U o U' => ∃ v L, o = .returned v ∧ QP (none) h0 v U'.heap L ∧ FrameEnd U o U' L (rr 1 0 0 12).cells (rr 1 0 0 12).slots) := by
 refine MetFree.of_bodySF (plainFor_of_name own_pn5) hisR ?_
 intro p e s m args below meth c s₁ Bd hml0 hP hK
 obtain ⟨rfl, hZ, hh⟩ := hP
 have hx := Bd.exec
 have hby := Bd.bytes
 have hml : c.maxLocals = 1 := hml0
 have hown : s.vm.findClass "java/lang/Number" = some m.cls := findClass_of_methodNamed Bd.named
 have hnm := (name_of_methodNamed Bd.named Bd.method).1
 have X0 : Stand p l e (rr 1 0 0 12) s m #[.ref x0] below meth c s₁ [] 0 0 := Stand.of_body Bd
 have e0 : s₁.heap = h0 := by rw [← hh, Bd.state]; rfl
 show own_G _ _ _ _ (s₁.setTop (entryFrame m #[.ref x0] 1))
 refine goo (fun _ k => castTop (ef_3_R m x0) k) ?_
 refine goo (fun _ k => XS.aloadN X0.here hx rfl (hb hby d3_0) rfl rfl k) ?_
 obtain ⟨T'0, X'0, e'0, st'0⟩ := initO X0 hx hZ hown (qw hw 18 rfl) (qw hw 19 rfl) (qw hw 20 rfl) e0 (g := (mkF m 1 #[rv x0] [.ref x0])) rfl (by rw [hml]; rfl) rfl (hb hby d3_1) (by decide) (W := 0) (Nat.le_of_eq rfl) (by decide)
 refine goo st'0 ?_
 show own_G _ _ _ _ (T'0.setTop (mkF m 4 #[rv x0] []))
 exact own_end X'0 Bd.notSynchronized (v := none) (fun _ => rfl) (Q := QP (none) h0) ⟨rfl, rfl, e'0⟩ (fun fs hr => X'0.returnOut hx Bd.returns (hb hby d3_4) hr) (by decide) (by decide)
def Q_rm2 (Z : State) (x0 : Addr) (x1 : Int64)  (h0 : Heap) (n0 : Nat) (v : Option Value) (h : Heap) (L : List Loc) : Prop := v = none ∧ Fr n0 L ∧ Keep h0 h [x0]
theorem own_pd12 : parseMethodDescriptor "()V" = some ⟨[], none⟩ := by decide +kernel
theorem d2_0 : decode jdk_35_method_26_code 0 = .ok (.aload_n 0, 1) := by decide +kernel
theorem d2_1 : decode jdk_35_method_26_code 1 = .ok (.invokespecial 270, 3) := by decide +kernel
theorem d2_4 : decode jdk_35_method_26_code 4 = .ok (.aload_n 0, 1) := by decide +kernel
theorem d2_5 : decode jdk_35_method_26_code 5 = .ok (.lload_n 1, 1) := by decide +kernel
theorem d2_6 : decode jdk_35_method_26_code 6 = .ok (.putfield 273, 3) := by decide +kernel
theorem d2_9 : decode jdk_35_method_26_code 9 = .ok (.return_, 1) := by decide +kernel
theorem ef_2_RJ (m : MethodId) (x0 : Addr) (x1 : Int64) : entryFrame m #[(.ref x0), (.long x1)] 3 = mkF m 0 #[.val (.ref x0), .val (.long x1), .second] [] := by
  first | (simp [entryFrame, mkF, argsToLocals, Value.category]; done) | rfl
theorem rm2 (l : Launch) (Z : State) (a0 : Array Value) (hw : own_HW a0 Z) (ws : List Jvm.Cond) (x0 : Addr) (x1 : Int64)  (h0 : Heap) (n0 : Nat) (Z0 : n0 ≤ h0.size) (p0_ : Exa Z h0 x0 s_3) (p1_ : n0 ≤ x0) (p2_ : Fld Z h0 x0 s_3 "value" "J" (.long (0 : Int64)))  :
  MetFree l Y24 (head1 (Jvm.Cond.code Y24 jdk_35_method_26_code 3 none :: ws) (rr 2 0 0 24)) (fun a U => a = #[.ref x0, (.long x1)] ∧ Z.Warmed39 U.vm ∧ U.heap = h0) (fun _ _ _ _ _ => True) (fun _ U o U' => ∃ v L, o = .returned v ∧ Q_rm2 Z x0 x1 h0 n0 v U'.heap L ∧ FrameEnd U o U' L (rr 2 0 0 24).cells (rr 2 0 0 24).slots) := by
 refine MetFree.of_bodySF (plainFor_of_name own_pn4) hisR ?_
 intro p e s m args below meth c s₁ Bd hml0 hP hK
 obtain ⟨rfl, hZ, hh⟩ := hP
 have hx := Bd.exec
 have hby := Bd.bytes
 have hml : c.maxLocals = 3 := hml0
 have hown : s.vm.findClass s_3 = some m.cls := findClass_of_methodNamed Bd.named
 have hnm := (name_of_methodNamed Bd.named Bd.method).1
 have X0 : Stand p l e (rr 2 0 0 24) s m #[.ref x0, (.long x1)] below meth c s₁ [] 0 0 := Stand.of_body Bd
 have e0 : s₁.heap = h0 := by rw [← hh, Bd.state]; rfl
 show own_G _ _ _ _ (s₁.setTop (entryFrame m #[.ref x0, (.long x1)] 3))
 refine goo (fun _ k => castTop (ef_2_RJ m x0 x1) k) ?_
 have N0 := Fr.nil n0
 have KP0 := Keep.refl h0 [x0]
 refine goo (fun _ k => XS.aloadN X0.here hx rfl (hb hby d2_0) rfl rfl k) ?_
 obtain ⟨T'0, X'0, e'0, st'0⟩ := own_callI X0 hx hZ (y := Y23) rfl hown (qw hw 12 rfl) (qw hw 13 rfl) (qw hw 16 rfl) (qw hw 17 rfl) (by decide) (W := 0) (rm3 l Z a0 hw [] x0  h0 ) (by decide) (by decide) rfl rfl e0 (g := (mkF m 1 #[rv x0, .val (.long x1), .second] [.ref x0])) rfl (by rw [hml]; rfl) (argsL := []) (rest := []) (lenOf own_pd12 rfl) rfl rfl (Nat.le_of_eq rfl) (hb hby d2_1) (by decide) (by decide)
 refine goo st'0 ?_
 refine goo (fun _ k => XS.aloadN X'0.here hx rfl (hb hby d2_4) rfl rfl <| XS.lloadN X'0.here hx rfl (hb hby d2_5) rfl k) ?_
 obtain ⟨T'1, h'1, X'1, e'1, W'1, st'1⟩ := putF X'0 hx hZ hown (host := "") (Or.inl (qw hw 21 rfl)) Via.refl e'0 p2_ p0_ (Or.inr ⟨(qw hw 22 rfl), rfl, hnm⟩) (qw hw 7 rfl) (ty := .long) (by decide) rfl rfl (g := (mkF m 6 #[rv x0, .val (.long x1), .second] [(.long x1), .ref x0])) rfl rfl (hb hby d2_6)
 have KP_2 : Keep h0 h'1 [x0] := KP0.wr W'1 (Or.inl (List.mem_of_getElem? (i := 0) rfl))
 have N_1 := Fr.snoc X'1 N0 p1_
 refine goo st'1 ?_
 show own_G _ _ _ _ (T'1.setTop (mkF m 9 #[rv x0, .val (.long x1), .second] []))
 exact own_end X'1 Bd.notSynchronized (v := none) (fun _ => rfl) (Q := Q_rm2 Z x0 x1 h0 n0) (by show Q_rm2 Z x0 x1 h0 n0 (none) T'1.heap _; rw [e'1]; exact ⟨rfl, N_1, KP_2⟩) (fun fs hr => X'1.returnOut hx Bd.returns (hb hby d2_9) hr) (by decide) (by decide)
def Q_rm_vs (Z : State) (x0 : Int64) (ca : Addr) (kca : ClassId) (cvs : List Value) (bx : Nat → Addr) (h0 : Heap) (n0 : Nat) (v : Option Value) (h : Heap) (L : List Loc) : Prop := ∃ RET : Addr, v = some (.ref RET) ∧ Fr n0 L ∧ Keep h0 h [] ∧ Exa Z h RET s_3
theorem own_pd13 : parseMethodDescriptor "(J)V" = some ⟨[.long], none⟩ := by decide +kernel
theorem rm_vs (l : Launch) (Z : State) (a0 : Array Value) (hw : own_HW a0 Z) (ws : List Jvm.Cond) (x0 : Int64) (ca : Addr) (kca : ClassId) (cvs : List Value) (bx : Nat → Addr) (h0 : Heap) (n0 : Nat) (Z0 : n0 ≤ h0.size) (p0_ : Old Z n0 h0) (p1_ : own_LC Z ca kca cvs bx)  :
  MetFree l Y13 (head1 (Jvm.Cond.code Y13 jdk_35_method_24_code 3 (some (.object s_3)) :: ws) (rr 3 1 1 39)) (fun a U => a = #[(.long x0)] ∧ Z.Warmed39 U.vm ∧ U.heap = h0) (fun _ _ _ _ _ => True) (fun _ U o U' => ∃ v L, o = .returned v ∧ Q_rm_vs Z x0 ca kca cvs bx h0 n0 v U'.heap L ∧ FrameEnd U o U' L (rr 3 1 1 39).cells (rr 3 1 1 39).slots) := by
 refine MetFree.of_bodySF (plainFor_of_name own_pn4) hisR ?_
 intro p e s m args below meth c s₁ Bd hml0 hP hK
 obtain ⟨rfl, hZ, hh⟩ := hP
 have hx := Bd.exec
 have hby := Bd.bytes
 have hml : c.maxLocals = 3 := hml0
 have hown : s.vm.findClass s_3 = some m.cls := findClass_of_methodNamed Bd.named
 have hnm := (name_of_methodNamed Bd.named Bd.method).1
 have X0 : Stand p l e (rr 3 1 1 39) s m #[(.long x0)] below meth c s₁ [] 0 0 := Stand.of_body Bd
 have e0 : s₁.heap = h0 := by rw [← hh, Bd.state]; rfl
 show own_G _ _ _ _ (s₁.setTop (entryFrame m #[(.long x0)] 3))
 refine goo (fun _ k => castTop (ef_1_J m x0) k) ?_
 have N0 := Fr.nil n0
 have KP0 := Keep.refl h0 []
 refine goo (fun _ k => XS.sipush X0.here hx rfl (hb hby d1_0) <| XS.istoreN X0.here hx rfl (hb hby d1_3) rfl (l' := #[.val (.long x0), .second, iv i_128]) rfl <| XS.lloadN X0.here hx rfl (hb hby d1_4) rfl k) ?_
 refine goo (fun _ k => X0.ldc2Long hx hown (mvT hZ (qw hw 5 rfl)) (g := (mkF m 5 #[.val (.long x0), .second, iv i_128] [(.long x0)])) rfl (hb hby d1_5) _ k) ?_
 refine goo (fun _ k => XS.lcmp X0.here hx rfl (hb hby d1_8) rfl k) ?_
 show own_G _ _ _ _ (s₁.setTop (mkF m 9 #[.val (.long x0), .second, iv i_128] [(.int (lcmpW x0 (-128 : Int64)))]))
 by_cases hc9_1253 : x0 < (-128 : Int64)
 ·refine goo (fun _ k => XS.ifYes X0.here hx rfl (pc0 := 9) (pc' := 31) rfl (hb hby d1_9) rfl (((if0 _ _).trans (tlt (own_l1 hc9_1253)).1)) (by decide) (by decide) k) ?_
  obtain ⟨T'0, h'0, X'0, e'0, E'0, A'0, D'0, -, st'0⟩ := newO X0 hx hZ hown (qw hw 6 rfl) (qw hw 7 rfl) (qw hw 3 rfl) e0 (g := (mkF m 31 #[.val (.long x0), .second, iv i_128] [])) rfl (hb hby d1_31) (by decide) (by decide)
  obtain ⟨b'0, g'0⟩ : ∃ z, z = h0.size := ⟨_, rfl⟩
  rw [← g'0] at A'0 D'0 st'0
  have ge_1 : n0 ≤ b'0 := Nat.le_trans Z0 (Nat.le_of_eq g'0.symm)
  have sz_1257 : h0.size ≤ b'0 := Nat.le_trans KP0.1 (Nat.le_of_eq g'0.symm)
  have Z_2 : n0 ≤ h'0.size := Nat.le_trans Z0 E'0.1
  have KP_3 : Keep h0 h'0 [] := KP0.ext E'0
  have F_4 : Fld Z h'0 b'0 s_3 "value" "J" (.long (0 : Int64)) := D'0 (Or.inr (qw hw 22 rfl)) (ty := .long) (by decide)
  refine goo st'0 ?_
  refine goo (fun _ k => XS.dup X'0.here hx rfl (hb hby d1_34) rfl rfl <| XS.lloadN X'0.here hx rfl (hb hby d1_35) rfl k) ?_
  obtain ⟨_, _, ⟨T'5, L'5, k'5, n'5⟩, -, X'5, ⟨Lc'5, hQ'5, l'5, y'5, z'5⟩, st'5⟩ := X'0.specialBack hx (y := Y24) rfl hown (mvT hZ (qw hw 8 rfl)) (mvT hZ (qw hw 9 rfl)) (mvT hZ (qw hw 11 rfl)) (by decide) (backOf (W := 1) (rm2 l Z a0 hw [] b'0 x0  h'0 n0 Z_2 A'0 ge_1 F_4) hZ (qw hw 11 rfl) (qw hw 3 rfl) (by decide) (by decide)) (g := (mkF m 36 #[.val (.long x0), .second, iv i_128] [(.long x0), .ref b'0, .ref b'0])) rfl (by rw [hml]; rfl) (Steps.refl _) (a := b'0) (argsL := [(.long x0)]) (rest := [.ref b'0]) (lenOf own_pd13 rfl) rfl (Nat.le_of_eq rfl) (hb hby d1_36) (fun _ _ => ⟨rfl, e'0, (by decide : 1 + 0 ≤ _), (by decide : 1 + 0 ≤ _)⟩)
  dsimp only [Pt.U, Pt.locs, Pt.cells, Pt.slots] at X'5 l'5 y'5 z'5 st'5 hQ'5
  subst l'5 y'5 z'5
  obtain ⟨rfl, Nq'5, K'5⟩ := hQ'5
  have X_6 := A'0.keep K'5
  have KP_7 : Keep h0 T'5.heap [] := KP_3.trans K'5 (allS (Or.inr sz_1257) all0)
  have N_5 := Fr.app N0 Nq'5
  refine goo (fun _ k => st'5.trans k) ?_
  show own_G _ _ _ _ (T'5.setTop (mkF m 39 #[.val (.long x0), .second, iv i_128] [.ref b'0]))
  exact own_end X'5 Bd.notSynchronized (v := some (.ref b'0)) (fun h => by rw [Bd.returns] at h; cases h) (Q := Q_rm_vs Z x0 ca kca cvs bx h0 n0) (by show Q_rm_vs Z x0 ca kca cvs bx h0 n0 (some (.ref b'0)) T'5.heap _; exact ⟨b'0, rfl, N_5, KP_7, X_6⟩) (fun fs hr => own_retA X'5 hx Bd.returns rfl rfl (hb hby d1_39) hr) (by decide) (by decide)
 ·refine goo (fun _ k => XS.ifNo X0.here hx rfl (hb hby d1_9) rfl (((if0 _ _).trans (flt (own_l2 hc9_1253)).1)) k) ?_
  refine goo (fun _ k => XS.lloadN X0.here hx rfl (hb hby d1_12) rfl k) ?_
  refine goo (fun _ k => X0.ldc2Long hx hown (mvT hZ (qw hw 44 rfl)) (g := (mkF m 13 #[.val (.long x0), .second, iv i_128] [(.long x0)])) rfl (hb hby d1_13) _ k) ?_
  refine goo (fun _ k => XS.lcmp X0.here hx rfl (hb hby d1_16) rfl k) ?_
  by_cases hc17_1271 : (127 : Int64) < x0
  ·refine goo (fun _ k => XS.ifYes X0.here hx rfl (pc0 := 17) (pc' := 31) rfl (hb hby d1_17) rfl (((if0 _ _).trans (tlt (own_g1 hc17_1271)).2.2.1)) (by decide) (by decide) k) ?_
   obtain ⟨T'8, h'8, X'8, e'8, E'8, A'8, D'8, -, st'8⟩ := newO X0 hx hZ hown (qw hw 6 rfl) (qw hw 7 rfl) (qw hw 3 rfl) e0 (g := (mkF m 31 #[.val (.long x0), .second, iv i_128] [])) rfl (hb hby d1_31) (by decide) (by decide)
   obtain ⟨b'8, g'8⟩ : ∃ z, z = h0.size := ⟨_, rfl⟩
   rw [← g'8] at A'8 D'8 st'8
   have ge_9 : n0 ≤ b'8 := Nat.le_trans Z0 (Nat.le_of_eq g'8.symm)
   have sz_1275 : h0.size ≤ b'8 := Nat.le_trans KP0.1 (Nat.le_of_eq g'8.symm)
   have Z_a : n0 ≤ h'8.size := Nat.le_trans Z0 E'8.1
   have KP_b : Keep h0 h'8 [] := KP0.ext E'8
   have F_c : Fld Z h'8 b'8 s_3 "value" "J" (.long (0 : Int64)) := D'8 (Or.inr (qw hw 22 rfl)) (ty := .long) (by decide)
   refine goo st'8 ?_
   show own_G _ _ _ _ (T'8.setTop (mkF m 34 #[.val (.long x0), .second, iv i_128] [.ref b'8]))
   refine goo (fun _ k => XS.dup X'8.here hx rfl (hb hby d1_34) rfl rfl <| XS.lloadN X'8.here hx rfl (hb hby d1_35) rfl k) ?_
   obtain ⟨_, _, ⟨T'd, L'd, k'd, n'd⟩, -, X'd, ⟨Lc'd, hQ'd, l'd, y'd, z'd⟩, st'd⟩ := X'8.specialBack hx (y := Y24) rfl hown (mvT hZ (qw hw 8 rfl)) (mvT hZ (qw hw 9 rfl)) (mvT hZ (qw hw 11 rfl)) (by decide) (backOf (W := 1) (rm2 l Z a0 hw [] b'8 x0  h'8 n0 Z_a A'8 ge_9 F_c) hZ (qw hw 11 rfl) (qw hw 3 rfl) (by decide) (by decide)) (g := (mkF m 36 #[.val (.long x0), .second, iv i_128] [(.long x0), .ref b'8, .ref b'8])) rfl (by rw [hml]; rfl) (Steps.refl _) (a := b'8) (argsL := [(.long x0)]) (rest := [.ref b'8]) (lenOf own_pd13 rfl) rfl (Nat.le_of_eq rfl) (hb hby d1_36) (fun _ _ => ⟨rfl, e'8, (by decide : 1 + 0 ≤ _), (by decide : 1 + 0 ≤ _)⟩)
   dsimp only [Pt.U, Pt.locs, Pt.cells, Pt.slots] at X'd l'd y'd z'd st'd hQ'd
   subst l'd y'd z'd
   obtain ⟨rfl, Nq'd, K'd⟩ := hQ'd
   have X_e := A'8.keep K'd
   have KP_f : Keep h0 T'd.heap [] := KP_b.trans K'd (allS (Or.inr sz_1275) all0)
   have N_d := Fr.app N0 Nq'd
   refine goo (fun _ k => st'd.trans k) ?_
   show own_G _ _ _ _ (T'd.setTop (mkF m 39 #[.val (.long x0), .second, iv i_128] [.ref b'8]))
   exact own_end X'd Bd.notSynchronized (v := some (.ref b'8)) (fun h => by rw [Bd.returns] at h; cases h) (Q := Q_rm_vs Z x0 ca kca cvs bx h0 n0) (by show Q_rm_vs Z x0 ca kca cvs bx h0 n0 (some (.ref b'8)) T'd.heap _; exact ⟨b'8, rfl, N_d, KP_f, X_e⟩) (fun fs hr => own_retA X'd hx Bd.returns rfl rfl (hb hby d1_39) hr) (by decide) (by decide)
  ·refine goo (fun _ k => XS.ifNo X0.here hx rfl (hb hby d1_17) rfl (((if0 _ _).trans (flt (own_g2 hc17_1271)).2.2.1)) k) ?_
   obtain ⟨T'g, X'g, e'g, st'g⟩ := getS2 X0 hx hZ hown (host := "") (Or.inl (qw hw 45 rfl)) Via.refl e0 (own_LCs p1_ p0_) (g := (mkF m 20 #[.val (.long x0), .second, iv i_128] [])) rfl (hb hby d1_20)
   refine goo st'g ?_
   show own_G _ _ _ _ (T'g.setTop (mkF m 23 #[.val (.long x0), .second, iv i_128] [.ref ca]))
   refine goo (fun _ k => XS.lloadN X'g.here hx rfl (hb hby d1_23) rfl <| XS.l2i X'g.here hx rfl (hb hby d1_24) rfl <| XS.sipush X'g.here hx rfl (hb hby d1_25) <| XS.iadd X'g.here hx rfl (hb hby d1_28) rfl k) ?_
   have hi1290 := own_ix hc9_1253 hc17_1271
   obtain ⟨cl1290, Ar1290, -, S1290, -, H1290, -⟩ := id (own_LCa p1_ p0_)
   have hin1290 := inb_of S1290 (j := ((x0.toInt32) + i_128)) hi1290.1
   refine goo (fun _ k => X'g.aaload hx (j := ((x0.toInt32) + i_128)) (v := (.ref (bx ((x0.toInt32) + i_128).toNatClampNeg))) (by rw [e'g]; exact Ar1290.1) (State.isArrayOf_alike hZ.alike Ar1290.2.1) rfl Ar1290.2.2 hin1290 (H1290.at hin1290 (own_LCg p1_ _ hi1290.2)) (g := (mkF m 29 #[.val (.long x0), .second, iv i_128] [(.int ((x0.toInt32) + i_128)), .ref ca])) rfl rfl (hb hby d1_29) _ k) ?_
   have X_h := own_LCx p1_ p0_ _ hi1290.2
   show own_G _ _ _ _ (T'g.setTop (mkF m 30 #[.val (.long x0), .second, iv i_128] [(.ref (bx ((x0.toInt32) + i_128).toNatClampNeg))]))
   exact own_end X'g Bd.notSynchronized (v := some (.ref (bx ((x0.toInt32) + i_128).toNatClampNeg))) (fun h => by rw [Bd.returns] at h; cases h) (Q := Q_rm_vs Z x0 ca kca cvs bx h0 n0) (by show Q_rm_vs Z x0 ca kca cvs bx h0 n0 (some (.ref (bx ((x0.toInt32) + i_128).toNatClampNeg))) T'g.heap _; rw [e'g]; exact ⟨(bx ((x0.toInt32) + i_128).toNatClampNeg), rfl, N0, KP0, X_h⟩) (fun fs hr => own_retA X'g hx Bd.returns rfl rfl (hb hby d1_30) hr) (by decide) (by decide)
def Q_rm_fb (Z : State) (x0 : Addr) (ar : Addr) (ho_ : Int32) (ka : ClassId) (bs : List Bool) (vo : Addr) (cn zn : Nat) (h0 : Heap) (n0 : Nat) (v : Option Value) (h : Heap) (L : List Loc) : Prop := v = some (.long (Int32.ofNat (own_fv ho_ bs cn)).toInt64) ∧ Fr n0 L ∧ Keep h0 h [x0] ∧ Fld Z h x0 s_1 "array" "[Ljava/lang/Object;" (.ref ar) ∧ Fld Z h x0 s_1 "arrayCount" "I" (.int (Int32.ofNat cn)) ∧ Fld Z h x0 s_1 "holes" "Z" (.int (own_fh ho_ bs cn))
theorem d24_0 : decode prog_60_method_10_code 0 = .ok (.aload_n 0, 1) := by decide +kernel
theorem d24_1 : decode prog_60_method_10_code 1 = .ok (.getfield 95, 3) := by decide +kernel
theorem d24_4 : decode prog_60_method_10_code 4 = .ok (.ifCond .eq 36, 3) := by decide +kernel
theorem d24_7 : decode prog_60_method_10_code 7 = .ok (.iconst 0, 1) := by decide +kernel
theorem d24_8 : decode prog_60_method_10_code 8 = .ok (.istore_n 1, 1) := by decide +kernel
theorem d24_9 : decode prog_60_method_10_code 9 = .ok (.iload_n 1, 1) := by decide +kernel
theorem d24_10 : decode prog_60_method_10_code 10 = .ok (.aload_n 0, 1) := by decide +kernel
theorem d24_11 : decode prog_60_method_10_code 11 = .ok (.getfield 55, 3) := by decide +kernel
theorem d24_14 : decode prog_60_method_10_code 14 = .ok (.if_icmp .ge 21, 3) := by decide +kernel
theorem d24_17 : decode prog_60_method_10_code 17 = .ok (.aload_n 0, 1) := by decide +kernel
theorem d24_18 : decode prog_60_method_10_code 18 = .ok (.getfield 15, 3) := by decide +kernel
theorem d24_21 : decode prog_60_method_10_code 21 = .ok (.iload_n 1, 1) := by decide +kernel
theorem d24_22 : decode prog_60_method_10_code 22 = .ok (.aaload, 1) := by decide +kernel
theorem d24_23 : decode prog_60_method_10_code 23 = .ok (.ifnonnull 6, 3) := by decide +kernel
theorem d24_26 : decode prog_60_method_10_code 26 = .ok (.iload_n 1, 1) := by decide +kernel
theorem d24_27 : decode prog_60_method_10_code 27 = .ok (.i2l, 1) := by decide +kernel
theorem d24_28 : decode prog_60_method_10_code 28 = .ok (.lreturn, 1) := by decide +kernel
theorem d24_29 : decode prog_60_method_10_code 29 = .ok (.iinc 1 1, 3) := by decide +kernel
theorem d24_32 : decode prog_60_method_10_code 32 = .ok (.goto (-23), 3) := by decide +kernel
theorem d24_35 : decode prog_60_method_10_code 35 = .ok (.aload_n 0, 1) := by decide +kernel
theorem d24_36 : decode prog_60_method_10_code 36 = .ok (.iconst 0, 1) := by decide +kernel
theorem d24_37 : decode prog_60_method_10_code 37 = .ok (.putfield 95, 3) := by decide +kernel
theorem d24_40 : decode prog_60_method_10_code 40 = .ok (.aload_n 0, 1) := by decide +kernel
theorem d24_41 : decode prog_60_method_10_code 41 = .ok (.getfield 55, 3) := by decide +kernel
theorem d24_44 : decode prog_60_method_10_code 44 = .ok (.i2l, 1) := by decide +kernel
theorem d24_45 : decode prog_60_method_10_code 45 = .ok (.lreturn, 1) := by decide +kernel
theorem ef_24_R (m : MethodId) (x0 : Addr) : entryFrame m #[(.ref x0)] 2 = mkF m 0 #[.val (.ref x0), .unset] [] := by
  first | (simp [entryFrame, mkF, argsToLocals, Value.category]; done) | rfl
theorem rm_fb (l : Launch) (Z : State) (a0 : Array Value) (hw : own_HW a0 Z) (ws : List Jvm.Cond) (x0 : Addr) (ar : Addr) (ho_ : Int32) (ka : ClassId) (bs : List Bool) (vo : Addr) (cn zn : Nat) (h0 : Heap) (n0 : Nat) (Z0 : n0 ≤ h0.size) (p0_ : Exa Z h0 x0 s_1) (p1_ : Fld Z h0 x0 s_1 "array" "[Ljava/lang/Object;" (.ref ar)) (p2_ : Fld Z h0 x0 s_1 "arrayCount" "I" (.int (Int32.ofNat cn))) (p3_ : Fld Z h0 x0 s_1 "holes" "Z" (.int ho_)) (p4_ : Arv Z h0 ar ka (.object s_2) (Int32.ofNat zn) (own_l bs vo) .null) (p5_ : n0 ≤ x0) (p6_ : x0 ≠ ar) (hcn : cn ≤ zn ∧ zn < 100) :
  MetFree l Y25 (head1 (Jvm.Cond.code Y25 prog_60_method_10_code 2 (some .long) :: ws) (rr 0 0 0 0)) (fun a U => a = #[.ref x0] ∧ Z.Warmed39 U.vm ∧ U.heap = h0) (fun _ _ _ _ _ => True) (fun _ U o U' => ∃ v L, o = .returned v ∧ Q_rm_fb Z x0 ar ho_ ka bs vo cn zn h0 n0 v U'.heap L ∧ FrameEnd U o U' L (rr 0 0 0 0).cells (rr 0 0 0 0).slots) := by
 refine MetFree.of_bodySF (plainFor_of_name own_pn2) hisR ?_
 intro p e s m args below meth c s₁ Bd hml0 hP hK
 obtain ⟨rfl, hZ, hh⟩ := hP
 have hx := Bd.exec
 have hby := Bd.bytes
 have hml : c.maxLocals = 2 := hml0
 have hown : s.vm.findClass s_1 = some m.cls := findClass_of_methodNamed Bd.named
 have hnm := (name_of_methodNamed Bd.named Bd.method).1
 have X0 : Stand p l e (rr 0 0 0 0) s m #[.ref x0] below meth c s₁ [] 0 0 := Stand.of_body Bd
 have e0 : s₁.heap = h0 := by rw [← hh, Bd.state]; rfl
 show own_G _ _ _ _ (s₁.setTop (entryFrame m #[.ref x0] 2))
 refine goo (fun _ k => castTop (ef_24_R m x0) k) ?_
 have N0 := Fr.nil n0
 have KP0 := Keep.refl h0 [x0]
 refine goo (fun _ k => XS.aloadN X0.here hx rfl (hb hby d24_0) rfl rfl k) ?_
 obtain ⟨T'0, X'0, e'0, st'0⟩ := getF X0 hx hZ hown (host := "") (Or.inl (qw hw 151 rfl)) Via.refl e0 p3_ (g := (mkF m 1 #[rv x0, .unset] [.ref x0])) rfl rfl (hb hby d24_1)
 refine goo st'0 ?_
 by_cases hc4_1293 : ho_ = i_0
 ·refine goo (fun _ k => XS.ifYes X'0.here hx rfl (pc0 := 4) (pc' := 40) rfl (hb hby d24_4) rfl (((if0 _ _).trans (teq hc4_1293).1)) (by decide) (by decide) k) ?_
  refine goo (fun _ k => XS.aloadN X'0.here hx rfl (hb hby d24_40) rfl rfl k) ?_
  obtain ⟨T'1, X'1, e'1, st'1⟩ := getF X'0 hx hZ hown (host := "") (Or.inl (qw hw 39 rfl)) Via.refl e'0 p2_ (g := (mkF m 41 #[rv x0, .unset] [.ref x0])) rfl rfl (hb hby d24_41)
  refine goo st'1 ?_
  show own_G _ _ _ _ (T'1.setTop (mkF m 44 #[rv x0, .unset] [(.int (Int32.ofNat cn))]))
  refine goo (fun _ k => XS.i2l X'1.here hx rfl (hb hby d24_44) rfl k) ?_
  show own_G _ _ _ _ (T'1.setTop (mkF m 45 #[rv x0, .unset] [(.long ((Int32.ofNat cn).toInt64))]))
  exact own_end X'1 Bd.notSynchronized (v := some (.long ((Int32.ofNat cn).toInt64))) (fun h => by rw [Bd.returns] at h; cases h) (Q := Q_rm_fb Z x0 ar ho_ ka bs vo cn zn h0 n0) (by show Q_rm_fb Z x0 ar ho_ ka bs vo cn zn h0 n0 (some (.long ((Int32.ofNat cn).toInt64))) T'1.heap _; rw [e'1]; exact ⟨(by rw [own_fv, if_pos hc4_1293]), N0, KP0, p1_, p2_, (by rw [own_fh, if_pos hc4_1293]; exact p3_)⟩) (fun fs hr => X'1.lreturnOut hx Bd.returns (hb hby d24_45) hr) (by decide) (by decide)
 ·refine goo (fun _ k => XS.ifNo X'0.here hx rfl (hb hby d24_4) rfl (((if0 _ _).trans (feq hc4_1293).1)) k) ?_
  refine goo (fun _ k => XS.iconst X'0.here hx rfl (hb hby d24_7) <| XS.istoreN X'0.here hx rfl (hb hby d24_8) rfl (l' := #[rv x0, iv i_0]) rfl k) ?_
  show own_G _ _ _ _ (T'0.setTop (mkF m 9 #[rv x0, iv i_0] []))
  have loop : ∀ (k i : Nat) (T_ : State) (L_ : List Loc), i + k = cn → own_ff bs k i = own_ff bs cn 0 → Stand p l e (rr 0 0 0 0) s m #[.ref x0] below meth c T_ L_ 0 0 → T_.heap = h0 → Fr n0 L_ → own_G p.tables e below (fun o U' => ∃ v L, o = .returned v ∧ Q_rm_fb Z x0 ar ho_ ka bs vo cn zn h0 n0 v U'.heap L ∧ FrameEnd s o U' L (rr 0 0 0 0).cells (rr 0 0 0 0).slots) (T_.setTop (mkF m 9 #[rv x0, iv (Int32.ofNat i)] [])) := by
   intro k
   induction k with
   | zero =>
    intro i T_ L_ hik hr Xl el Nl
    refine goo (fun _ k => XS.iloadN Xl.here hx rfl (hb hby d24_9) rfl <| XS.aloadN Xl.here hx rfl (hb hby d24_10) rfl rfl k) ?_
    obtain ⟨T'2, X'2, e'2, st'2⟩ := getF Xl hx hZ hown (host := "") (Or.inl (qw hw 39 rfl)) Via.refl el p2_ (g := (mkF m 11 #[rv x0, iv (Int32.ofNat i)] [.ref x0, (.int (Int32.ofNat i))])) rfl rfl (hb hby d24_11)
    refine goo st'2 ?_
    refine goo (fun _ k => XS.icmpYes X'2.here hx rfl (pc0 := 14) (pc' := 35) rfl (hb hby d24_14) rfl ((flt (own_n2 (by omega) (by omega))).2.1) (by decide) (by decide) <| XS.aloadN X'2.here hx rfl (hb hby d24_35) rfl rfl <| XS.iconst X'2.here hx rfl (hb hby d24_36) k) ?_
    show own_G _ _ _ _ (T'2.setTop (mkF m 37 #[rv x0, iv (Int32.ofNat i)] [.int i_0, .ref x0]))
    obtain ⟨T'3, h'3, X'3, e'3, W'3, st'3⟩ := putFN X'2 hx hZ hown (qw hw 151 rfl) Via.refl e'2 p3_ p0_ (Or.inl (qw hw 152 rfl)) (qw hw 24 rfl) (ty := .boolean) (v' := .int i_0) (by decide) rfl (by decide) (g := (mkF m 37 #[rv x0, iv (Int32.ofNat i)] [.int i_0, .ref x0])) rfl rfl (hb hby d24_37)
    have F_4 := p1_.other W'3 (Or.inr (slot_ne (Or.inl (qw hw 33 rfl)) (Or.inl (qw hw 152 rfl)) (by decide) (t := (.array (.object s_2))) (t' := .boolean) (by decide) (by decide)))
    have F_5 := p2_.other W'3 (Or.inr (slot_ne (Or.inl (qw hw 40 rfl)) (Or.inl (qw hw 152 rfl)) (by decide) (t := .int) (t' := .boolean) (by decide) (by decide)))
    have F_6 := p3_.same W'3
    have KP_7 : Keep h0 h'3 [x0] := KP0.wr W'3 (Or.inl (List.mem_of_getElem? (i := 0) rfl))
    have N_3 := Fr.snoc X'3 Nl p5_
    refine goo st'3 ?_
    refine goo (fun _ k => XS.aloadN X'3.here hx rfl (hb hby d24_40) rfl rfl k) ?_
    obtain ⟨T'8, X'8, e'8, st'8⟩ := getF X'3 hx hZ hown (host := "") (Or.inl (qw hw 39 rfl)) Via.refl e'3 F_5 (g := (mkF m 41 #[rv x0, iv (Int32.ofNat i)] [.ref x0])) rfl rfl (hb hby d24_41)
    refine goo st'8 ?_
    refine goo (fun _ k => XS.i2l X'8.here hx rfl (hb hby d24_44) rfl k) ?_
    show own_G _ _ _ _ (T'8.setTop (mkF m 45 #[rv x0, iv (Int32.ofNat i)] [(.long ((Int32.ofNat cn).toInt64))]))
    exact own_end X'8 Bd.notSynchronized (v := some (.long ((Int32.ofNat cn).toInt64))) (fun h => by rw [Bd.returns] at h; cases h) (Q := Q_rm_fb Z x0 ar ho_ ka bs vo cn zn h0 n0) (by show Q_rm_fb Z x0 ar ho_ ka bs vo cn zn h0 n0 (some (.long ((Int32.ofNat cn).toInt64))) T'8.heap _; rw [e'8]; exact ⟨(by rw [own_fv, if_neg hc4_1293, ← hr]; show _ = some (Value.long (Int32.ofNat i).toInt64); rw [show i = cn by omega]), N_3, KP_7, F_4, F_5, (by rw [own_fh, if_neg hc4_1293, if_pos (by rw [← hr]; show i = cn; omega)]; exact F_6)⟩) (fun fs hr => X'8.lreturnOut hx Bd.returns (hb hby d24_45) hr) (by decide) (by decide)
   | succ k ih =>
    intro i T_ L_ hik hr Xl el Nl
    refine goo (fun _ k => XS.iloadN Xl.here hx rfl (hb hby d24_9) rfl <| XS.aloadN Xl.here hx rfl (hb hby d24_10) rfl rfl k) ?_
    obtain ⟨T'9, X'9, e'9, st'9⟩ := getF Xl hx hZ hown (host := "") (Or.inl (qw hw 39 rfl)) Via.refl el p2_ (g := (mkF m 11 #[rv x0, iv (Int32.ofNat i)] [.ref x0, (.int (Int32.ofNat i))])) rfl rfl (hb hby d24_11)
    refine goo st'9 ?_
    refine goo (fun _ k => XS.icmpNo X'9.here hx rfl (hb hby d24_14) rfl ((tlt (own_n1 (by omega) (by omega))).2.1) <| XS.aloadN X'9.here hx rfl (hb hby d24_17) rfl rfl k) ?_
    obtain ⟨T'a, X'a, e'a, st'a⟩ := getF X'9 hx hZ hown (host := "") (Or.inl (qw hw 32 rfl)) Via.refl e'9 p1_ (g := (mkF m 18 #[rv x0, iv (Int32.ofNat i)] [.ref x0])) rfl rfl (hb hby d24_18)
    refine goo st'a ?_
    show own_G _ _ _ _ (T'a.setTop (mkF m 21 #[rv x0, iv (Int32.ofNat i)] [.ref ar]))
    refine goo (fun _ k => XS.iloadN X'a.here hx rfl (hb hby d24_21) rfl k) ?_
    obtain ⟨cl1307, Ar1307, -, S1307, -, H1307, -⟩ := id p4_
    have hin1307 := inb_of S1307 (own_ib (i := i) (z := zn) (by omega) (by omega))
    refine goo (fun _ k => X'a.aaload hx (j := (Int32.ofNat i)) (v := (own_en (bs.getD i false) vo)) (by rw [e'a]; exact Ar1307.1) (State.isArrayOf_alike hZ.alike Ar1307.2.1) rfl Ar1307.2.2 hin1307 (H1307.at hin1307 (own_l_at bs vo i (by omega))) (g := (mkF m 22 #[rv x0, iv (Int32.ofNat i)] [(.int (Int32.ofNat i)), .ref ar])) rfl rfl (hb hby d24_22) _ k) ?_
    show own_G _ _ _ _ (T'a.setTop (mkF m 23 #[rv x0, iv (Int32.ofNat i)] [(own_en (bs.getD i false) vo)]))
    cases hb1308 : bs.getD i false
    ·show own_G _ _ _ _ (T'a.setTop (mkF m 23 #[rv x0, iv (Int32.ofNat i)] [.null]))
     refine goo (fun _ k => XS.ifnonnullNo X'a.here hx rfl (hb hby d24_23) rfl <| XS.iloadN X'a.here hx rfl (hb hby d24_26) rfl <| XS.i2l X'a.here hx rfl (hb hby d24_27) rfl k) ?_
     show own_G _ _ _ _ (T'a.setTop (mkF m 28 #[rv x0, iv (Int32.ofNat i)] [(.long ((Int32.ofNat i).toInt64))]))
     exact own_end X'a Bd.notSynchronized (v := some (.long ((Int32.ofNat i).toInt64))) (fun h => by rw [Bd.returns] at h; cases h) (Q := Q_rm_fb Z x0 ar ho_ ka bs vo cn zn h0 n0) (by show Q_rm_fb Z x0 ar ho_ ka bs vo cn zn h0 n0 (some (.long ((Int32.ofNat i).toInt64))) T'a.heap _; rw [e'a]; exact ⟨(by rw [own_fv, if_neg hc4_1293, ← hr, own_ff_f hb1308]), Nl, KP0, p1_, p2_, (by rw [own_fh, if_neg hc4_1293, if_neg (by rw [← hr, own_ff_f hb1308]; omega)]; exact p3_)⟩) (fun fs hr => X'a.lreturnOut hx Bd.returns (hb hby d24_28) hr) (by decide) (by decide)
    ·show own_G _ _ _ _ (T'a.setTop (mkF m 23 #[rv x0, iv (Int32.ofNat i)] [.ref vo]))
     refine goo (fun _ k => XS.ifnonnullYes X'a.here hx rfl (pc0 := 23) (pc' := 29) rfl (hb hby d24_23) rfl (by decide) (by decide) <| XS.iinc X'a.here hx rfl (hb hby d24_29) rfl (l' := #[rv x0, iv ((Int32.ofNat i) + i_1)]) rfl <| XS.goto X'a.here hx rfl (pc0 := 32) (pc' := 9) rfl (hb hby d24_32) (by decide) (by decide) k) ?_
     show own_G _ _ _ _ (T'a.setTop (mkF m 9 #[rv x0, iv ((Int32.ofNat i) + i_1)] []))
     rw [own_n3]
     exact ih (i + 1) _ _ (by omega) ((own_ff_t hb1308).symm.trans hr) X'a e'a Nl
  exact loop cn 0 _ _ (Nat.zero_add cn) rfl X'0 e'0 N0
def Q_rm_cl (Z : State) (x0 : Addr) (kk : Int64) (ar : Addr) (ho_ : Int32) (ka : ClassId) (bs : List Bool) (vo : Addr) (cn zn j : Nat) (h0 : Heap) (n0 : Nat) (v : Option Value) (h : Heap) (L : List Loc) : Prop := v = none ∧ Fr n0 L ∧ Keep h0 h [x0, ar] ∧ Fld Z h x0 s_1 "array" "[Ljava/lang/Object;" (.ref ar) ∧ Fld Z h x0 s_1 "hash" "Lcom/example/plainsong/plainsong/engine/HashPart;" .null ∧ Arv Z h ar ka (.object s_2) (Int32.ofNat zn) (own_l (bs.set j false) vo) .null ∧ Fld Z h x0 s_1 "arrayCount" "I" (.int (Int32.ofNat (own_dc bs cn j))) ∧ Fld Z h x0 s_1 "holes" "Z" (.int (own_dh ho_ cn j))
theorem ef_6_RJn (m : MethodId) (x0 : Addr) (x1 : Int64) : entryFrame m #[(.ref x0), (.long x1), .null] 4 = mkF m 0 #[.val (.ref x0), .val (.long x1), .second, .val .null] [] := by
  first | (simp [entryFrame, mkF, argsToLocals, Value.category]; done) | rfl
theorem rm_cl (l : Launch) (Z : State) (a0 : Array Value) (hw : own_HW a0 Z) (ws : List Jvm.Cond) (x0 : Addr) (kk : Int64) (ar : Addr) (ho_ : Int32) (ka : ClassId) (bs : List Bool) (vo : Addr) (cn zn j : Nat) (h0 : Heap) (n0 : Nat) (Z0 : n0 ≤ h0.size) (p0_ : Exa Z h0 x0 s_1) (p1_ : Fld Z h0 x0 s_1 "array" "[Ljava/lang/Object;" (.ref ar)) (p2_ : Fld Z h0 x0 s_1 "arrayCount" "I" (.int (Int32.ofNat cn))) (p3_ : Fld Z h0 x0 s_1 "holes" "Z" (.int ho_)) (p4_ : Fld Z h0 x0 s_1 "hash" "Lcom/example/plainsong/plainsong/engine/HashPart;" .null) (p5_ : Arv Z h0 ar ka (.object s_2) (Int32.ofNat zn) (own_l bs vo) .null) (p6_ : n0 ≤ x0) (p7_ : n0 ≤ ar) (p8_ : x0 ≠ ar) (hk : ¬ kk < (1 : Int64) ∧ ¬ (Int32.ofNat cn).toInt64 < kk ∧ (kk = (Int32.ofNat cn).toInt64 ↔ j + 1 = cn) ∧ kk.toInt32 - 1 = Int32.ofNat j) (hjn : j < cn ∧ cn ≤ zn ∧ zn < 100 ∧ bs.length = zn) :
  MetFree l Y22 (head1 (Jvm.Cond.code Y22 prog_60_method_7_code 4 none :: ws) (rr 0 0 0 0)) (fun a U => a = #[.ref x0, (.long kk), .null] ∧ Z.Warmed39 U.vm ∧ U.heap = h0) (fun _ _ _ _ _ => True) (fun _ U o U' => ∃ v L, o = .returned v ∧ Q_rm_cl Z x0 kk ar ho_ ka bs vo cn zn j h0 n0 v U'.heap L ∧ FrameEnd U o U' L (rr 0 0 0 0).cells (rr 0 0 0 0).slots) := by
 refine MetFree.of_bodySF (plainFor_of_name own_pn2) hisR ?_
 intro p e s m args below meth c s₁ Bd hml0 hP hK
 obtain ⟨rfl, hZ, hh⟩ := hP
 have hx := Bd.exec
 have hby := Bd.bytes
 have hml : c.maxLocals = 4 := hml0
 have hown : s.vm.findClass s_1 = some m.cls := findClass_of_methodNamed Bd.named
 have hnm := (name_of_methodNamed Bd.named Bd.method).1
 have X0 : Stand p l e (rr 0 0 0 0) s m #[.ref x0, (.long kk), .null] below meth c s₁ [] 0 0 := Stand.of_body Bd
 have e0 : s₁.heap = h0 := by rw [← hh, Bd.state]; rfl
 show own_G _ _ _ _ (s₁.setTop (entryFrame m #[.ref x0, (.long kk), .null] 4))
 refine goo (fun _ k => castTop (ef_6_RJn m x0 kk) k) ?_
 have N0 := Fr.nil n0
 have KP0 := Keep.refl h0 [x0, ar]
 refine goo (fun _ k => XS.lloadN X0.here hx rfl (hb hby d6_0) rfl <| XS.lconst X0.here hx rfl (hb hby d6_1) <| XS.lcmp X0.here hx rfl (hb hby d6_2) rfl <| XS.ifNo X0.here hx rfl (hb hby d6_3) rfl (((if0 _ _).trans (flt (own_l2 hk.1)).1)) k) ?_
 refine goo (fun _ k => XS.lloadN X0.here hx rfl (hb hby d6_6) rfl k) ?_
 show own_G _ _ _ _ (s₁.setTop (mkF m 7 #[rv x0, .val (.long kk), .second, .val .null] [(.long kk)]))
 refine goo (fun _ k => XS.aloadN X0.here hx rfl (hb hby d6_7) rfl rfl k) ?_
 obtain ⟨T'0, X'0, e'0, st'0⟩ := getF X0 hx hZ hown (host := "") (Or.inl (qw hw 39 rfl)) Via.refl e0 p2_ (g := (mkF m 8 #[rv x0, .val (.long kk), .second, .val .null] [.ref x0, (.long kk)])) rfl rfl (hb hby d6_8)
 refine goo st'0 ?_
 refine goo (fun _ k => XS.i2l X'0.here hx rfl (hb hby d6_11) rfl <| XS.lcmp X'0.here hx rfl (hb hby d6_12) rfl <| XS.ifNo X'0.here hx rfl (hb hby d6_13) rfl (((if0 _ _).trans (flt (own_g2 hk.2.1)).2.2.1)) <| XS.aloadN X'0.here hx rfl (hb hby d6_16) rfl rfl k) ?_
 show own_G _ _ _ _ (T'0.setTop (mkF m 17 #[rv x0, .val (.long kk), .second, .val .null] [.ref x0]))
 obtain ⟨T'1, X'1, e'1, st'1⟩ := getF X'0 hx hZ hown (host := "") (Or.inl (qw hw 32 rfl)) Via.refl e'0 p1_ (g := (mkF m 17 #[rv x0, .val (.long kk), .second, .val .null] [.ref x0])) rfl rfl (hb hby d6_17)
 refine goo st'1 ?_
 refine goo (fun _ k => XS.lloadN X'1.here hx rfl (hb hby d6_20) rfl <| XS.l2i X'1.here hx rfl (hb hby d6_21) rfl <| XS.iconst X'1.here hx rfl (hb hby d6_22) <| XS.isub X'1.here hx rfl (hb hby d6_23) rfl k) ?_
 show own_G _ _ _ _ (T'1.setTop (mkF m 24 #[rv x0, .val (.long kk), .second, .val .null] [(.int ((kk.toInt32) - i_1)), .ref ar]))
 rw [hk.2.2.2]
 refine goo (fun _ k => XS.aloadN X'1.here hx rfl (hb hby d6_24) rfl rfl k) ?_
 obtain ⟨cl1311, Ar1311, q'2, S1311, N1311, H1311, G1311⟩ := id p5_
 obtain ⟨T'2, h'2, X'2, e'2, W'2, st'2⟩ := stR X'1 hx hZ e'1 Ar1311 (j := (Int32.ofNat j)) (inb_of S1311 (own_ib (i := j) (z := zn) (by omega) (by omega))) rfl (Or.inl rfl) (g := (mkF m 25 #[rv x0, .val (.long kk), .second, .val .null] [.null, (.int (Int32.ofNat j)), .ref ar])) rfl rfl (hb hby d6_25)
 have X_3 := p0_.wr W'2
 have F_4 := p1_.other W'2 (Or.inl p8_)
 have F_5 := p2_.other W'2 (Or.inl p8_)
 have F_6 := p3_.other W'2 (Or.inl p8_)
 have F_7 := p4_.other W'2 (Or.inl p8_)
 have V1311 : Arv Z h'2 ar ka (.object s_2) (Int32.ofNat zn) (own_l (bs.set j false) vo) .null := by rw [← own_l_set]; exact Arv.set Ar1311 q'2 S1311 N1311 H1311 G1311 rfl W'2 j (own_tn (by omega)) (by rw [own_l_len]; omega)
 have Z_8 : n0 ≤ h'2.size := Nat.le_trans Z0 (Nat.le_of_eq W'2.size.symm)
 have KP_9 : Keep h0 h'2 [x0, ar] := KP0.wr W'2 (Or.inl (List.mem_of_getElem? (i := 1) rfl))
 have N_2 := Fr.snoc X'2 N0 p7_
 refine goo st'2 ?_
 refine goo (fun _ k => XS.aloadN X'2.here hx rfl (hb hby d6_26) rfl rfl <| XS.ifnonnullNo X'2.here hx rfl (hb hby d6_27) rfl <| XS.lloadN X'2.here hx rfl (hb hby d6_30) rfl <| XS.aloadN X'2.here hx rfl (hb hby d6_31) rfl rfl k) ?_
 show own_G _ _ _ _ (T'2.setTop (mkF m 32 #[rv x0, .val (.long kk), .second, .val .null] [.ref x0, (.long kk)]))
 obtain ⟨T'a, X'a, e'a, st'a⟩ := getF X'2 hx hZ hown (host := "") (Or.inl (qw hw 39 rfl)) Via.refl e'2 F_5 (g := (mkF m 32 #[rv x0, .val (.long kk), .second, .val .null] [.ref x0, (.long kk)])) rfl rfl (hb hby d6_32)
 refine goo st'a ?_
 refine goo (fun _ k => XS.i2l X'a.here hx rfl (hb hby d6_35) rfl <| XS.lcmp X'a.here hx rfl (hb hby d6_36) rfl k) ?_
 by_cases hc37_1320 : kk = ((Int32.ofNat cn).toInt64)
 ·refine goo (fun _ k => XS.ifNo X'a.here hx rfl (hb hby d6_37) rfl (((if0 _ _).trans (teq (own_e1 hc37_1320)).2)) k) ?_
  show own_G _ _ _ _ (T'a.setTop (mkF m 40 #[rv x0, .val (.long kk), .second, .val .null] []))
  have hcj : j + 1 = cn := hk.2.2.1.mp hc37_1320
  have loop : ∀ (q : Nat) (h_ : Heap) (T_ : State) (L_ : List Loc), q < zn → Stand p l e (rr 0 0 0 0) s m #[.ref x0, .long kk, .null] below meth c T_ L_ 0 0 → T_.heap = h_ → Fr n0 L_ → n0 ≤ h_.size → Keep h0 h_ [x0, ar] → Exa Z h_ x0 s_1 → Fld Z h_ x0 s_1 "array" "[Ljava/lang/Object;" (.ref ar) → Fld Z h_ x0 s_1 "arrayCount" "I" (.int (Int32.ofNat (q + 1))) → Fld Z h_ x0 s_1 "holes" "Z" (.int ho_) → Fld Z h_ x0 s_1 "hash" "Lcom/example/plainsong/plainsong/engine/HashPart;" .null → Arv Z h_ ar ka (.object s_2) (Int32.ofNat zn) (own_l (bs.set j false) vo) .null → own_dr (bs.set j false) q = own_dr (bs.set j false) j → own_G p.tables e below (fun o U' => ∃ v L, o = .returned v ∧ Q_rm_cl Z x0 kk ar ho_ ka bs vo cn zn j h0 n0 v U'.heap L ∧ FrameEnd s o U' L (rr 0 0 0 0).cells (rr 0 0 0 0).slots) (T_.setTop (mkF m 40 #[rv x0, .val (.long kk), .second, .val .null] [])) := by
   intro q
   induction q with
   | zero =>
    intro h_ T_ L_ hq Xl el Nl Zl Kl Xq Fa Fc Fh Fz Va hd
    refine goo (fun _ k => XS.aloadN Xl.here hx rfl (hb hby d6_40) rfl rfl <| XS.dup Xl.here hx rfl (hb hby d6_41) rfl rfl k) ?_
    obtain ⟨T'b, X'b, e'b, st'b⟩ := getF Xl hx hZ hown (host := "") (Or.inl (qw hw 39 rfl)) Via.refl el Fc (g := (mkF m 42 #[rv x0, .val (.long kk), .second, .val .null] [.ref x0, .ref x0])) rfl rfl (hb hby d6_42)
    refine goo st'b ?_
    refine goo (fun _ k => XS.iconst X'b.here hx rfl (hb hby d6_45) <| XS.isub X'b.here hx rfl (hb hby d6_46) rfl k) ?_
    show own_G _ _ _ _ (T'b.setTop (mkF m 47 #[rv x0, .val (.long kk), .second, .val .null] [(.int ((Int32.ofNat (0 + 1)) - i_1)), .ref x0]))
    rw [own_n4]
    obtain ⟨T'c, h'c, X'c, e'c, W'c, st'c⟩ := putF X'b hx hZ hown (host := "") (Or.inl (qw hw 39 rfl)) Via.refl e'b Fc Xq (Or.inl (qw hw 40 rfl)) (qw hw 24 rfl) (ty := .int) (by decide) rfl rfl (g := (mkF m 47 #[rv x0, .val (.long kk), .second, .val .null] [(.int (Int32.ofNat 0)), .ref x0])) rfl rfl (hb hby d6_47)
    have F_d := Fa.other W'c (Or.inr (slot_ne (Or.inl (qw hw 33 rfl)) (Or.inl (qw hw 40 rfl)) (by decide) (t := (.array (.object s_2))) (t' := .int) (by decide) (by decide)))
    have F_e := Fh.other W'c (Or.inr (slot_ne (Or.inl (qw hw 152 rfl)) (Or.inl (qw hw 40 rfl)) (by decide) (t := .boolean) (t' := .int) (by decide) (by decide)))
    have F_f := Fz.other W'c (Or.inr (slot_ne (Or.inl (qw hw 52 rfl)) (Or.inl (qw hw 40 rfl)) (by decide) (t := (.object s_0)) (t' := .int) (by decide) (by decide)))
    have V_g := Va.other W'c (Ne.symm p8_)
    have F_h := Fc.same W'c
    have KP_i : Keep h0 h'c [x0, ar] := Kl.wr W'c (Or.inl (List.mem_of_getElem? (i := 0) rfl))
    have N_c := Fr.snoc X'c Nl p6_
    refine goo st'c ?_
    refine goo (fun _ k => XS.aloadN X'c.here hx rfl (hb hby d6_50) rfl rfl k) ?_
    obtain ⟨T'j, X'j, e'j, st'j⟩ := getF X'c hx hZ hown (host := "") (Or.inl (qw hw 39 rfl)) Via.refl e'c F_h (g := (mkF m 51 #[rv x0, .val (.long kk), .second, .val .null] [.ref x0])) rfl rfl (hb hby d6_51)
    refine goo st'j ?_
    refine goo (fun _ k => XS.ifYes X'j.here hx rfl (pc0 := 54) (pc' := 128) rfl (hb hby d6_54) rfl (((if0 _ _).trans (flt (by decide : ¬ i_0 < Int32.ofNat 0)).2.2.2)) (by decide) (by decide) k) ?_
    show own_G _ _ _ _ (T'j.setTop (mkF m 128 #[rv x0, .val (.long kk), .second, .val .null] []))
    exact own_end X'j Bd.notSynchronized (v := none) (fun _ => rfl) (Q := Q_rm_cl Z x0 kk ar ho_ ka bs vo cn zn j h0 n0) (by show Q_rm_cl Z x0 kk ar ho_ ka bs vo cn zn j h0 n0 (none) T'j.heap _; rw [e'j]; exact ⟨rfl, N_c, KP_i, F_d, F_f, V_g, (by rw [own_dc, if_pos hcj, ← hd]; exact F_h), (by rw [own_dh, if_pos hcj]; exact F_e)⟩) (fun fs hr => X'j.returnOut hx Bd.returns (hb hby d6_128) hr) (by decide) (by decide)
   | succ q ih =>
    intro h_ T_ L_ hq Xl el Nl Zl Kl Xq Fa Fc Fh Fz Va hd
    refine goo (fun _ k => XS.aloadN Xl.here hx rfl (hb hby d6_40) rfl rfl <| XS.dup Xl.here hx rfl (hb hby d6_41) rfl rfl k) ?_
    obtain ⟨T'k, X'k, e'k, st'k⟩ := getF Xl hx hZ hown (host := "") (Or.inl (qw hw 39 rfl)) Via.refl el Fc (g := (mkF m 42 #[rv x0, .val (.long kk), .second, .val .null] [.ref x0, .ref x0])) rfl rfl (hb hby d6_42)
    refine goo st'k ?_
    refine goo (fun _ k => XS.iconst X'k.here hx rfl (hb hby d6_45) <| XS.isub X'k.here hx rfl (hb hby d6_46) rfl k) ?_
    show own_G _ _ _ _ (T'k.setTop (mkF m 47 #[rv x0, .val (.long kk), .second, .val .null] [(.int ((Int32.ofNat (q + 1 + 1)) - i_1)), .ref x0]))
    rw [own_n4]
    obtain ⟨T'l, h'l, X'l, e'l, W'l, st'l⟩ := putF X'k hx hZ hown (host := "") (Or.inl (qw hw 39 rfl)) Via.refl e'k Fc Xq (Or.inl (qw hw 40 rfl)) (qw hw 24 rfl) (ty := .int) (by decide) rfl rfl (g := (mkF m 47 #[rv x0, .val (.long kk), .second, .val .null] [(.int (Int32.ofNat (q + 1))), .ref x0])) rfl rfl (hb hby d6_47)
    have X_m := Xq.wr W'l
    have F_n := Fa.other W'l (Or.inr (slot_ne (Or.inl (qw hw 33 rfl)) (Or.inl (qw hw 40 rfl)) (by decide) (t := (.array (.object s_2))) (t' := .int) (by decide) (by decide)))
    have F_o := Fh.other W'l (Or.inr (slot_ne (Or.inl (qw hw 152 rfl)) (Or.inl (qw hw 40 rfl)) (by decide) (t := .boolean) (t' := .int) (by decide) (by decide)))
    have F_p := Fz.other W'l (Or.inr (slot_ne (Or.inl (qw hw 52 rfl)) (Or.inl (qw hw 40 rfl)) (by decide) (t := (.object s_0)) (t' := .int) (by decide) (by decide)))
    have V_q := Va.other W'l (Ne.symm p8_)
    have F_r := Fc.same W'l
    have Z_s : n0 ≤ h'l.size := Nat.le_trans Zl (Nat.le_of_eq W'l.size.symm)
    have KP_t : Keep h0 h'l [x0, ar] := Kl.wr W'l (Or.inl (List.mem_of_getElem? (i := 0) rfl))
    have N_l := Fr.snoc X'l Nl p6_
    refine goo st'l ?_
    refine goo (fun _ k => XS.aloadN X'l.here hx rfl (hb hby d6_50) rfl rfl k) ?_
    obtain ⟨T'u, X'u, e'u, st'u⟩ := getF X'l hx hZ hown (host := "") (Or.inl (qw hw 39 rfl)) Via.refl e'l F_r (g := (mkF m 51 #[rv x0, .val (.long kk), .second, .val .null] [.ref x0])) rfl rfl (hb hby d6_51)
    refine goo st'u ?_
    refine goo (fun _ k => XS.ifNo X'u.here hx rfl (hb hby d6_54) rfl (((if0 _ _).trans (tlt (own_n1 (i := 0) (Nat.succ_pos q) (by omega))).2.2.2)) <| XS.aloadN X'u.here hx rfl (hb hby d6_57) rfl rfl k) ?_
    obtain ⟨T'v, X'v, e'v, st'v⟩ := getF X'u hx hZ hown (host := "") (Or.inl (qw hw 32 rfl)) Via.refl e'u F_n (g := (mkF m 58 #[rv x0, .val (.long kk), .second, .val .null] [.ref x0])) rfl rfl (hb hby d6_58)
    refine goo st'v ?_
    show own_G _ _ _ _ (T'v.setTop (mkF m 61 #[rv x0, .val (.long kk), .second, .val .null] [.ref ar]))
    refine goo (fun _ k => XS.aloadN X'v.here hx rfl (hb hby d6_61) rfl rfl k) ?_
    obtain ⟨T'w, X'w, e'w, st'w⟩ := getF X'v hx hZ hown (host := "") (Or.inl (qw hw 39 rfl)) Via.refl e'v F_r (g := (mkF m 62 #[rv x0, .val (.long kk), .second, .val .null] [.ref x0, .ref ar])) rfl rfl (hb hby d6_62)
    refine goo st'w ?_
    refine goo (fun _ k => XS.iconst X'w.here hx rfl (hb hby d6_65) <| XS.isub X'w.here hx rfl (hb hby d6_66) rfl k) ?_
    show own_G _ _ _ _ (T'w.setTop (mkF m 67 #[rv x0, .val (.long kk), .second, .val .null] [(.int ((Int32.ofNat (q + 1)) - i_1)), .ref ar]))
    rw [own_n4]
    obtain ⟨cl1345, Ar1345, -, S1345, -, H1345, -⟩ := id V_q
    have hin1345 := inb_of S1345 (own_ib (i := q) (z := zn) (by omega) (by omega))
    refine goo (fun _ k => X'w.aaload hx (j := (Int32.ofNat q)) (v := (own_en ((bs.set j false).getD q false) vo)) (by rw [e'w]; exact Ar1345.1) (State.isArrayOf_alike hZ.alike Ar1345.2.1) rfl Ar1345.2.2 hin1345 (H1345.at hin1345 (own_l_at (bs.set j false) vo q (by omega))) (g := (mkF m 67 #[rv x0, .val (.long kk), .second, .val .null] [(.int (Int32.ofNat q)), .ref ar])) rfl rfl (hb hby d6_67) _ k) ?_
    show own_G _ _ _ _ (T'w.setTop (mkF m 68 #[rv x0, .val (.long kk), .second, .val .null] [(own_en ((bs.set j false).getD q false) vo)]))
    cases hb1346 : (bs.set j false).getD q false
    ·show own_G _ _ _ _ (T'w.setTop (mkF m 68 #[rv x0, .val (.long kk), .second, .val .null] [.null]))
     refine goo (fun _ k => XS.ifnullYes X'w.here hx rfl (pc0 := 68) (pc' := 40) rfl (hb hby d6_68) rfl (by decide) (by decide) k) ?_
     show own_G _ _ _ _ (T'w.setTop (mkF m 40 #[rv x0, .val (.long kk), .second, .val .null] []))
     exact ih _ _ _ (by omega) X'w e'w N_l Z_s KP_t X_m F_n F_r F_o F_p V_q ((own_dr_f hb1346).symm.trans hd)
    ·show own_G _ _ _ _ (T'w.setTop (mkF m 68 #[rv x0, .val (.long kk), .second, .val .null] [.ref vo]))
     refine goo (fun _ k => XS.ifnullNo X'w.here hx rfl (hb hby d6_68) rfl <| XS.goto X'w.here hx rfl (pc0 := 71) (pc' := 128) rfl (hb hby d6_71) (by decide) (by decide) k) ?_
     show own_G _ _ _ _ (T'w.setTop (mkF m 128 #[rv x0, .val (.long kk), .second, .val .null] []))
     exact own_end X'w Bd.notSynchronized (v := none) (fun _ => rfl) (Q := Q_rm_cl Z x0 kk ar ho_ ka bs vo cn zn j h0 n0) (by show Q_rm_cl Z x0 kk ar ho_ ka bs vo cn zn j h0 n0 (none) T'w.heap _; rw [e'w]; exact ⟨rfl, N_l, KP_t, F_n, F_p, V_q, (by rw [own_dc, if_pos hcj, ← hd, own_dr_t hb1346]; exact F_r), (by rw [own_dh, if_pos hcj]; exact F_o)⟩) (fun fs hr => X'w.returnOut hx Bd.returns (hb hby d6_128) hr) (by decide) (by decide)
  exact loop j _ _ _ (by omega) X'a e'a N_2 Z_8 KP_9 X_3 F_4 (by rw [hcj]; exact F_5) F_6 F_7 V1311 rfl
 ·refine goo (fun _ k => XS.ifYes X'a.here hx rfl (pc0 := 37) (pc' := 74) rfl (hb hby d6_37) rfl (((if0 _ _).trans (feq (own_e2 hc37_1320)).2)) (by decide) (by decide) k) ?_
  refine goo (fun _ k => XS.aloadN X'a.here hx rfl (hb hby d6_74) rfl rfl <| XS.ifnonnullNo X'a.here hx rfl (hb hby d6_75) rfl k) ?_
  show own_G _ _ _ _ (T'a.setTop (mkF m 78 #[rv x0, .val (.long kk), .second, .val .null] []))
  refine goo (fun _ k => XS.aloadN X'a.here hx rfl (hb hby d6_78) rfl rfl <| XS.iconst X'a.here hx rfl (hb hby d6_79) k) ?_
  obtain ⟨T'x, h'x, X'x, e'x, W'x, st'x⟩ := putFN X'a hx hZ hown (qw hw 151 rfl) Via.refl e'a F_6 X_3 (Or.inl (qw hw 152 rfl)) (qw hw 24 rfl) (ty := .boolean) (v' := .int i_1) (by decide) rfl (by decide) (g := (mkF m 80 #[rv x0, .val (.long kk), .second, .val .null] [.int i_1, .ref x0])) rfl rfl (hb hby d6_80)
  have F_y := F_4.other W'x (Or.inr (slot_ne (Or.inl (qw hw 33 rfl)) (Or.inl (qw hw 152 rfl)) (by decide) (t := (.array (.object s_2))) (t' := .boolean) (by decide) (by decide)))
  have F_z := F_5.other W'x (Or.inr (slot_ne (Or.inl (qw hw 40 rfl)) (Or.inl (qw hw 152 rfl)) (by decide) (t := .int) (t' := .boolean) (by decide) (by decide)))
  have F_10 := F_7.other W'x (Or.inr (slot_ne (Or.inl (qw hw 52 rfl)) (Or.inl (qw hw 152 rfl)) (by decide) (t := (.object s_0)) (t' := .boolean) (by decide) (by decide)))
  have V_11 := V1311.other W'x (Ne.symm p8_)
  have F_12 := F_6.same W'x
  have KP_13 : Keep h0 h'x [x0, ar] := KP_9.wr W'x (Or.inl (List.mem_of_getElem? (i := 0) rfl))
  have N_x := Fr.snoc X'x N_2 p6_
  refine goo st'x ?_
  refine goo (fun _ k => XS.goto X'x.here hx rfl (pc0 := 83) (pc' := 128) rfl (hb hby d6_83) (by decide) (by decide) k) ?_
  show own_G _ _ _ _ (T'x.setTop (mkF m 128 #[rv x0, .val (.long kk), .second, .val .null] []))
  exact own_end X'x Bd.notSynchronized (v := none) (fun _ => rfl) (Q := Q_rm_cl Z x0 kk ar ho_ ka bs vo cn zn j h0 n0) (by show Q_rm_cl Z x0 kk ar ho_ ka bs vo cn zn j h0 n0 (none) T'x.heap _; rw [e'x]; exact ⟨rfl, N_x, KP_13, F_y, F_10, V_11, (by rw [own_dc, if_neg fun q => hc37_1320 (hk.2.2.1.mpr q)]; exact F_z), (by rw [own_dh, if_neg fun q => hc37_1320 (hk.2.2.1.mpr q)]; exact F_12)⟩) (fun fs hr => X'x.returnOut hx Bd.returns (hb hby d6_128) hr) (by decide) (by decide)
def Q_rm_pi (Z : State) (x0 : Addr) (kk : Int64) (vo : Addr) (ar : Addr) (ho_ : Int32) (ka : ClassId) (bs : List Bool) (cn zn j : Nat) (h0 : Heap) (n0 : Nat) (v : Option Value) (h : Heap) (L : List Loc) : Prop := v = none ∧ Fr n0 L ∧ Keep h0 h [ar] ∧ Arv Z h ar ka (.object s_2) (Int32.ofNat zn) (own_l (bs.set j true) vo) .null
theorem rm_pi (l : Launch) (Z : State) (a0 : Array Value) (hw : own_HW a0 Z) (ws : List Jvm.Cond) (x0 : Addr) (kk : Int64) (vo : Addr) (ar : Addr) (ho_ : Int32) (ka : ClassId) (bs : List Bool) (cn zn j : Nat) (h0 : Heap) (n0 : Nat) (Z0 : n0 ≤ h0.size) (p0_ : Exa Z h0 x0 s_1) (p1_ : Fld Z h0 x0 s_1 "array" "[Ljava/lang/Object;" (.ref ar)) (p2_ : Fld Z h0 x0 s_1 "arrayCount" "I" (.int (Int32.ofNat cn))) (p3_ : Fld Z h0 x0 s_1 "holes" "Z" (.int ho_)) (p4_ : Arv Z h0 ar ka (.object s_2) (Int32.ofNat zn) (own_l bs vo) .null) (p5_ : Ovr Z ka s_2) (p6_ : Exa Z h0 vo s_3) (p7_ : n0 ≤ x0) (p8_ : n0 ≤ ar) (p9_ : x0 ≠ ar) (hk : ¬ kk < (1 : Int64) ∧ ¬ (Int32.ofNat cn).toInt64 < kk ∧ (kk = (Int32.ofNat cn).toInt64 ↔ j + 1 = cn) ∧ kk.toInt32 - 1 = Int32.ofNat j) (hjn : j < cn ∧ cn ≤ zn ∧ zn < 100 ∧ bs.length = zn) :
  MetFree l Y22 (head1 (Jvm.Cond.code Y22 prog_60_method_7_code 4 none :: ws) (rr 0 0 0 0)) (fun a U => a = #[.ref x0, (.long kk), .ref vo] ∧ Z.Warmed39 U.vm ∧ U.heap = h0) (fun _ _ _ _ _ => True) (fun _ U o U' => ∃ v L, o = .returned v ∧ Q_rm_pi Z x0 kk vo ar ho_ ka bs cn zn j h0 n0 v U'.heap L ∧ FrameEnd U o U' L (rr 0 0 0 0).cells (rr 0 0 0 0).slots) := by
 refine MetFree.of_bodySF (plainFor_of_name own_pn2) hisR ?_
 intro p e s m args below meth c s₁ Bd hml0 hP hK
 obtain ⟨rfl, hZ, hh⟩ := hP
 have hx := Bd.exec
 have hby := Bd.bytes
 have hml : c.maxLocals = 4 := hml0
 have hown : s.vm.findClass s_1 = some m.cls := findClass_of_methodNamed Bd.named
 have hnm := (name_of_methodNamed Bd.named Bd.method).1
 have X0 : Stand p l e (rr 0 0 0 0) s m #[.ref x0, (.long kk), .ref vo] below meth c s₁ [] 0 0 := Stand.of_body Bd
 have e0 : s₁.heap = h0 := by rw [← hh, Bd.state]; rfl
 show own_G _ _ _ _ (s₁.setTop (entryFrame m #[.ref x0, (.long kk), .ref vo] 4))
 refine goo (fun _ k => castTop (ef_6_RJR m x0 kk vo) k) ?_
 have N0 := Fr.nil n0
 have KP0 := Keep.refl h0 [ar]
 refine goo (fun _ k => XS.lloadN X0.here hx rfl (hb hby d6_0) rfl <| XS.lconst X0.here hx rfl (hb hby d6_1) <| XS.lcmp X0.here hx rfl (hb hby d6_2) rfl <| XS.ifNo X0.here hx rfl (hb hby d6_3) rfl (((if0 _ _).trans (flt (own_l2 hk.1)).1)) k) ?_
 refine goo (fun _ k => XS.lloadN X0.here hx rfl (hb hby d6_6) rfl k) ?_
 show own_G _ _ _ _ (s₁.setTop (mkF m 7 #[rv x0, .val (.long kk), .second, rv vo] [(.long kk)]))
 refine goo (fun _ k => XS.aloadN X0.here hx rfl (hb hby d6_7) rfl rfl k) ?_
 obtain ⟨T'0, X'0, e'0, st'0⟩ := getF X0 hx hZ hown (host := "") (Or.inl (qw hw 39 rfl)) Via.refl e0 p2_ (g := (mkF m 8 #[rv x0, .val (.long kk), .second, rv vo] [.ref x0, (.long kk)])) rfl rfl (hb hby d6_8)
 refine goo st'0 ?_
 refine goo (fun _ k => XS.i2l X'0.here hx rfl (hb hby d6_11) rfl <| XS.lcmp X'0.here hx rfl (hb hby d6_12) rfl <| XS.ifNo X'0.here hx rfl (hb hby d6_13) rfl (((if0 _ _).trans (flt (own_g2 hk.2.1)).2.2.1)) <| XS.aloadN X'0.here hx rfl (hb hby d6_16) rfl rfl k) ?_
 show own_G _ _ _ _ (T'0.setTop (mkF m 17 #[rv x0, .val (.long kk), .second, rv vo] [.ref x0]))
 obtain ⟨T'1, X'1, e'1, st'1⟩ := getF X'0 hx hZ hown (host := "") (Or.inl (qw hw 32 rfl)) Via.refl e'0 p1_ (g := (mkF m 17 #[rv x0, .val (.long kk), .second, rv vo] [.ref x0])) rfl rfl (hb hby d6_17)
 refine goo st'1 ?_
 refine goo (fun _ k => XS.lloadN X'1.here hx rfl (hb hby d6_20) rfl <| XS.l2i X'1.here hx rfl (hb hby d6_21) rfl <| XS.iconst X'1.here hx rfl (hb hby d6_22) <| XS.isub X'1.here hx rfl (hb hby d6_23) rfl k) ?_
 show own_G _ _ _ _ (T'1.setTop (mkF m 24 #[rv x0, .val (.long kk), .second, rv vo] [(.int ((kk.toInt32) - i_1)), .ref ar]))
 rw [hk.2.2.2]
 refine goo (fun _ k => XS.aloadN X'1.here hx rfl (hb hby d6_24) rfl rfl k) ?_
 obtain ⟨cl1358, Ar1358, q'2, S1358, N1358, H1358, G1358⟩ := id p4_
 obtain ⟨T'2, h'2, X'2, e'2, W'2, st'2⟩ := stR X'1 hx hZ e'1 Ar1358 (j := (Int32.ofNat j)) (inb_of S1358 (own_ib (i := j) (z := zn) (by omega) (by omega))) rfl (Sto.ofV Ar1358 q'2 p5_ (Ins.of_exa p6_ (qw hw 141 rfl))) (g := (mkF m 25 #[rv x0, .val (.long kk), .second, rv vo] [.ref vo, (.int (Int32.ofNat j)), .ref ar])) rfl rfl (hb hby d6_25)
 have V1358 : Arv Z h'2 ar ka (.object s_2) (Int32.ofNat zn) (own_l (bs.set j true) vo) .null := by rw [← own_l_set]; exact Arv.set Ar1358 q'2 S1358 N1358 H1358 G1358 rfl W'2 j (own_tn (by omega)) (by rw [own_l_len]; omega)
 have KP_3 : Keep h0 h'2 [ar] := KP0.wr W'2 (Or.inl (List.mem_of_getElem? (i := 0) rfl))
 have N_2 := Fr.snoc X'2 N0 p8_
 refine goo st'2 ?_
 refine goo (fun _ k => XS.aloadN X'2.here hx rfl (hb hby d6_26) rfl rfl <| XS.ifnonnullYes X'2.here hx rfl (pc0 := 27) (pc' := 74) rfl (hb hby d6_27) rfl (by decide) (by decide) <| XS.aloadN X'2.here hx rfl (hb hby d6_74) rfl rfl <| XS.ifnonnullYes X'2.here hx rfl (pc0 := 75) (pc' := 128) rfl (hb hby d6_75) rfl (by decide) (by decide) k) ?_
 show own_G _ _ _ _ (T'2.setTop (mkF m 128 #[rv x0, .val (.long kk), .second, rv vo] []))
 exact own_end X'2 Bd.notSynchronized (v := none) (fun _ => rfl) (Q := Q_rm_pi Z x0 kk vo ar ho_ ka bs cn zn j h0 n0) (by show Q_rm_pi Z x0 kk vo ar ho_ ka bs cn zn j h0 n0 (none) T'2.heap _; rw [e'2]; exact ⟨rfl, N_2, KP_3, V1358⟩) (fun fs hr => X'2.returnOut hx Bd.returns (hb hby d6_128) hr) (by decide) (by decide)
def Q_rm_cn (Z : State) (x0 : Addr) (kk : Int64) (cn : Nat) (h0 : Heap) (n0 : Nat) (v : Option Value) (h : Heap) (L : List Loc) : Prop := v = none ∧ Fr n0 L ∧ Keep h0 h []
theorem rm_cn (l : Launch) (Z : State) (a0 : Array Value) (hw : own_HW a0 Z) (ws : List Jvm.Cond) (x0 : Addr) (kk : Int64) (cn : Nat) (h0 : Heap) (n0 : Nat) (Z0 : n0 ≤ h0.size) (p0_ : Exa Z h0 x0 s_1) (p1_ : Fld Z h0 x0 s_1 "arrayCount" "I" (.int (Int32.ofNat cn))) (hk : ¬ kk < (1 : Int64) ∧ (Int32.ofNat cn).toInt64 < kk ∧ kk = (Int32.ofNat cn).toInt64 + 1 ∧ Int32.ofNat cn < i_2147483639) :
  MetFree l Y22 (head1 (Jvm.Cond.code Y22 prog_60_method_7_code 4 none :: ws) (rr 0 0 0 0)) (fun a U => a = #[.ref x0, (.long kk), .null] ∧ Z.Warmed39 U.vm ∧ U.heap = h0) (fun _ _ _ _ _ => True) (fun _ U o U' => ∃ v L, o = .returned v ∧ Q_rm_cn Z x0 kk cn h0 n0 v U'.heap L ∧ FrameEnd U o U' L (rr 0 0 0 0).cells (rr 0 0 0 0).slots) := by
 refine MetFree.of_bodySF (plainFor_of_name own_pn2) hisR ?_
 intro p e s m args below meth c s₁ Bd hml0 hP hK
 obtain ⟨rfl, hZ, hh⟩ := hP
 have hx := Bd.exec
 have hby := Bd.bytes
 have hml : c.maxLocals = 4 := hml0
 have hown : s.vm.findClass s_1 = some m.cls := findClass_of_methodNamed Bd.named
 have hnm := (name_of_methodNamed Bd.named Bd.method).1
 have X0 : Stand p l e (rr 0 0 0 0) s m #[.ref x0, (.long kk), .null] below meth c s₁ [] 0 0 := Stand.of_body Bd
 have e0 : s₁.heap = h0 := by rw [← hh, Bd.state]; rfl
 show own_G _ _ _ _ (s₁.setTop (entryFrame m #[.ref x0, (.long kk), .null] 4))
 refine goo (fun _ k => castTop (ef_6_RJn m x0 kk) k) ?_
 have N0 := Fr.nil n0
 have KP0 := Keep.refl h0 []
 refine goo (fun _ k => XS.lloadN X0.here hx rfl (hb hby d6_0) rfl <| XS.lconst X0.here hx rfl (hb hby d6_1) <| XS.lcmp X0.here hx rfl (hb hby d6_2) rfl <| XS.ifNo X0.here hx rfl (hb hby d6_3) rfl (((if0 _ _).trans (flt (own_l2 hk.1)).1)) k) ?_
 refine goo (fun _ k => XS.lloadN X0.here hx rfl (hb hby d6_6) rfl k) ?_
 show own_G _ _ _ _ (s₁.setTop (mkF m 7 #[rv x0, .val (.long kk), .second, .val .null] [(.long kk)]))
 refine goo (fun _ k => XS.aloadN X0.here hx rfl (hb hby d6_7) rfl rfl k) ?_
 obtain ⟨T'0, X'0, e'0, st'0⟩ := getF X0 hx hZ hown (host := "") (Or.inl (qw hw 39 rfl)) Via.refl e0 p1_ (g := (mkF m 8 #[rv x0, .val (.long kk), .second, .val .null] [.ref x0, (.long kk)])) rfl rfl (hb hby d6_8)
 refine goo st'0 ?_
 refine goo (fun _ k => XS.i2l X'0.here hx rfl (hb hby d6_11) rfl <| XS.lcmp X'0.here hx rfl (hb hby d6_12) rfl <| XS.ifYes X'0.here hx rfl (pc0 := 13) (pc' := 86) rfl (hb hby d6_13) rfl (((if0 _ _).trans (tlt (own_g1 hk.2.1)).2.2.1)) (by decide) (by decide) <| XS.lloadN X'0.here hx rfl (hb hby d6_86) rfl k) ?_
 show own_G _ _ _ _ (T'0.setTop (mkF m 87 #[rv x0, .val (.long kk), .second, .val .null] [(.long kk)]))
 refine goo (fun _ k => XS.aloadN X'0.here hx rfl (hb hby d6_87) rfl rfl k) ?_
 obtain ⟨T'1, X'1, e'1, st'1⟩ := getF X'0 hx hZ hown (host := "") (Or.inl (qw hw 39 rfl)) Via.refl e'0 p1_ (g := (mkF m 88 #[rv x0, .val (.long kk), .second, .val .null] [.ref x0, (.long kk)])) rfl rfl (hb hby d6_88)
 refine goo st'1 ?_
 refine goo (fun _ k => XS.i2l X'1.here hx rfl (hb hby d6_91) rfl <| XS.lconst X'1.here hx rfl (hb hby d6_92) <| XS.ladd X'1.here hx rfl (hb hby d6_93) rfl <| XS.lcmp X'1.here hx rfl (hb hby d6_94) rfl k) ?_
 show own_G _ _ _ _ (T'1.setTop (mkF m 95 #[rv x0, .val (.long kk), .second, .val .null] [(.int (lcmpW kk (((Int32.ofNat cn).toInt64) + (1 : Int64))))]))
 refine goo (fun _ k => XS.ifNo X'1.here hx rfl (hb hby d6_95) rfl (((if0 _ _).trans (teq (own_e1 hk.2.2.1)).2)) <| XS.aloadN X'1.here hx rfl (hb hby d6_98) rfl rfl k) ?_
 obtain ⟨T'2, X'2, e'2, st'2⟩ := getF X'1 hx hZ hown (host := "") (Or.inl (qw hw 39 rfl)) Via.refl e'1 p1_ (g := (mkF m 99 #[rv x0, .val (.long kk), .second, .val .null] [.ref x0])) rfl rfl (hb hby d6_99)
 refine goo st'2 ?_
 refine goo (fun _ k => X'2.ldcInt hx hown (mvT hZ (qw hw 41 rfl)) (g := (mkF m 102 #[rv x0, .val (.long kk), .second, .val .null] [(.int (Int32.ofNat cn))])) rfl (hb hby d6_102) _ k) ?_
 refine goo (fun _ k => XS.icmpNo X'2.here hx rfl (hb hby d6_104) rfl ((tlt hk.2.2.2).2.1) <| XS.aloadN X'2.here hx rfl (hb hby d6_107) rfl rfl k) ?_
 show own_G _ _ _ _ (T'2.setTop (mkF m 108 #[rv x0, .val (.long kk), .second, .val .null] [.null]))
 refine goo (fun _ k => XS.ifnullYes X'2.here hx rfl (pc0 := 108) (pc' := 128) rfl (hb hby d6_108) rfl (by decide) (by decide) k) ?_
 show own_G _ _ _ _ (T'2.setTop (mkF m 128 #[rv x0, .val (.long kk), .second, .val .null] []))
 exact own_end X'2 Bd.notSynchronized (v := none) (fun _ => rfl) (Q := Q_rm_cn Z x0 kk cn h0 n0) (by show Q_rm_cn Z x0 kk cn h0 n0 (none) T'2.heap _; rw [e'2]; exact ⟨rfl, N0, KP0⟩) (fun fs hr => X'2.returnOut hx Bd.returns (hb hby d6_128) hr) (by decide) (by decide)
def Q_rm_ch (Z : State) (x0 : Addr) (kk : Int64) (cn : Nat) (ca : Addr) (kca : ClassId) (cvs : List Value) (bx : Nat → Addr) (h0 : Heap) (n0 : Nat) (v : Option Value) (h : Heap) (L : List Loc) : Prop := v = none ∧ Fr n0 L ∧ Keep h0 h []
theorem rm_ch (l : Launch) (Z : State) (a0 : Array Value) (hw : own_HW a0 Z) (ws : List Jvm.Cond) (x0 : Addr) (kk : Int64) (cn : Nat) (ca : Addr) (kca : ClassId) (cvs : List Value) (bx : Nat → Addr) (h0 : Heap) (n0 : Nat) (Z0 : n0 ≤ h0.size) (p0_ : Exa Z h0 x0 s_1) (p1_ : Fld Z h0 x0 s_1 "arrayCount" "I" (.int (Int32.ofNat cn))) (p2_ : Fld Z h0 x0 s_1 "hash" "Lcom/example/plainsong/plainsong/engine/HashPart;" .null) (p3_ : Old Z n0 h0) (p4_ : own_LC Z ca kca cvs bx) (hk : ¬ kk < (1 : Int64) ∧ (Int32.ofNat cn).toInt64 < kk ∧ ¬ kk = (Int32.ofNat cn).toInt64 + 1) :
  MetFree l Y22 (head1 (Jvm.Cond.code Y22 prog_60_method_7_code 4 none :: ws) (rr 4 1 1 54)) (fun a U => a = #[.ref x0, (.long kk), .null] ∧ Z.Warmed39 U.vm ∧ U.heap = h0) (fun _ _ _ _ _ => True) (fun _ U o U' => ∃ v L, o = .returned v ∧ Q_rm_ch Z x0 kk cn ca kca cvs bx h0 n0 v U'.heap L ∧ FrameEnd U o U' L (rr 4 1 1 54).cells (rr 4 1 1 54).slots) := by
 refine MetFree.of_bodySF (plainFor_of_name own_pn2) hisR ?_
 intro p e s m args below meth c s₁ Bd hml0 hP hK
 obtain ⟨rfl, hZ, hh⟩ := hP
 have hx := Bd.exec
 have hby := Bd.bytes
 have hml : c.maxLocals = 4 := hml0
 have hown : s.vm.findClass s_1 = some m.cls := findClass_of_methodNamed Bd.named
 have hnm := (name_of_methodNamed Bd.named Bd.method).1
 have X0 : Stand p l e (rr 4 1 1 54) s m #[.ref x0, (.long kk), .null] below meth c s₁ [] 0 0 := Stand.of_body Bd
 have e0 : s₁.heap = h0 := by rw [← hh, Bd.state]; rfl
 show own_G _ _ _ _ (s₁.setTop (entryFrame m #[.ref x0, (.long kk), .null] 4))
 refine goo (fun _ k => castTop (ef_6_RJn m x0 kk) k) ?_
 have N0 := Fr.nil n0
 have KP0 := Keep.refl h0 []
 refine goo (fun _ k => XS.lloadN X0.here hx rfl (hb hby d6_0) rfl <| XS.lconst X0.here hx rfl (hb hby d6_1) <| XS.lcmp X0.here hx rfl (hb hby d6_2) rfl <| XS.ifNo X0.here hx rfl (hb hby d6_3) rfl (((if0 _ _).trans (flt (own_l2 hk.1)).1)) k) ?_
 refine goo (fun _ k => XS.lloadN X0.here hx rfl (hb hby d6_6) rfl k) ?_
 show own_G _ _ _ _ (s₁.setTop (mkF m 7 #[rv x0, .val (.long kk), .second, .val .null] [(.long kk)]))
 refine goo (fun _ k => XS.aloadN X0.here hx rfl (hb hby d6_7) rfl rfl k) ?_
 obtain ⟨T'0, X'0, e'0, st'0⟩ := getF X0 hx hZ hown (host := "") (Or.inl (qw hw 39 rfl)) Via.refl e0 p1_ (g := (mkF m 8 #[rv x0, .val (.long kk), .second, .val .null] [.ref x0, (.long kk)])) rfl rfl (hb hby d6_8)
 refine goo st'0 ?_
 refine goo (fun _ k => XS.i2l X'0.here hx rfl (hb hby d6_11) rfl <| XS.lcmp X'0.here hx rfl (hb hby d6_12) rfl <| XS.ifYes X'0.here hx rfl (pc0 := 13) (pc' := 86) rfl (hb hby d6_13) rfl (((if0 _ _).trans (tlt (own_g1 hk.2.1)).2.2.1)) (by decide) (by decide) <| XS.lloadN X'0.here hx rfl (hb hby d6_86) rfl k) ?_
 show own_G _ _ _ _ (T'0.setTop (mkF m 87 #[rv x0, .val (.long kk), .second, .val .null] [(.long kk)]))
 refine goo (fun _ k => XS.aloadN X'0.here hx rfl (hb hby d6_87) rfl rfl k) ?_
 obtain ⟨T'1, X'1, e'1, st'1⟩ := getF X'0 hx hZ hown (host := "") (Or.inl (qw hw 39 rfl)) Via.refl e'0 p1_ (g := (mkF m 88 #[rv x0, .val (.long kk), .second, .val .null] [.ref x0, (.long kk)])) rfl rfl (hb hby d6_88)
 refine goo st'1 ?_
 refine goo (fun _ k => XS.i2l X'1.here hx rfl (hb hby d6_91) rfl <| XS.lconst X'1.here hx rfl (hb hby d6_92) <| XS.ladd X'1.here hx rfl (hb hby d6_93) rfl <| XS.lcmp X'1.here hx rfl (hb hby d6_94) rfl k) ?_
 show own_G _ _ _ _ (T'1.setTop (mkF m 95 #[rv x0, .val (.long kk), .second, .val .null] [(.int (lcmpW kk (((Int32.ofNat cn).toInt64) + (1 : Int64))))]))
 refine goo (fun _ k => XS.ifYes X'1.here hx rfl (pc0 := 95) (pc' := 119) rfl (hb hby d6_95) rfl (((if0 _ _).trans (feq (own_e2 hk.2.2)).2)) (by decide) (by decide) <| XS.aloadN X'1.here hx rfl (hb hby d6_119) rfl rfl <| XS.lloadN X'1.here hx rfl (hb hby d6_120) rfl k) ?_
 obtain ⟨_, _, ⟨T'2, L'2, k'2, n'2⟩, -, X'2, ⟨Lc'2, hQ'2, l'2, y'2, z'2⟩, st'2⟩ := Jvm.LawKit.callS X'1 hx (y := Y13) hown (mvT hZ (qw hw 43 rfl)) (mvT hZ (qw hw 2 rfl)) (mvT hZ (qw hw 3 rfl)) (mvT hZ (qw hw 4 rfl)) (by decide) (backOf (W := 1) (rm_vs l Z a0 hw [] kk  ca kca cvs bx h0 n0 Z0 p3_ p4_) hZ (qw hw 4 rfl) (qw hw 3 rfl) (by decide) (by decide)) (g := (mkF m 121 #[rv x0, .val (.long kk), .second, .val .null] [(.long kk), .ref x0])) rfl (by rw [hml]; rfl) (argsL := [(.long kk)]) (rest := [.ref x0]) (lenOf own_pd11 rfl) rfl (Nat.le_of_eq rfl) (hb hby d6_121) (fun _ _ => ⟨rfl, e'1, (by decide : 0 + 1 ≤ _), (by decide : 0 + 1 ≤ _)⟩)
 dsimp only [Pt.U, Pt.locs, Pt.cells, Pt.slots] at X'2 l'2 y'2 z'2 st'2 hQ'2
 subst l'2 y'2 z'2
 obtain ⟨b'2, rfl, Nq'2, K'2, G_3⟩ := hQ'2
 have X_4 := p0_.keep K'2
 have F_5 := p2_.keep K'2 nin0
 have Z_6 : n0 ≤ T'2.heap.size := Nat.le_trans Z0 K'2.1
 have KP_7 : Keep h0 T'2.heap [] := KP0.trans K'2 all0
 have N_2 := Fr.app N0 Nq'2
 refine goo (fun _ k => st'2 _ k) ?_
 refine goo (fun _ k => XS.aloadN X'2.here hx rfl (hb hby d6_124) rfl rfl k) ?_
 obtain ⟨cq'8, kq'8, q'8a, q'8b, q'8c⟩ := isOf hZ rfl X_4
 obtain ⟨cp'8, cq'9, cq'a⟩ := X_4.cell
 obtain ⟨_, _, ⟨T'8, L'8, k'8, n'8⟩, -, X'8, ⟨Lc'8, hQ'8, l'8, y'8, z'8⟩, st'8⟩ := own_privB X'2 hx (y := Y21) hown (mvT hZ (qw hw 47 rfl)) (mvT hZ (qw hw 48 rfl)) (mvT hZ (qw hw 24 rfl)) (Cond.privateMethod_at (mvP hZ (qw hw 49 rfl) (args := #[]))) (mvT hZ (qw hw 50 rfl)) (by decide) (backOf (W := 0) (rm_pn l Z a0 hw [] x0 b'2  T'2.heap n0 Z_6 F_5) hZ (qw hw 50 rfl) (qw hw 25 rfl) (by decide) (by decide)) (g := (mkF m 125 #[rv x0, .val (.long kk), .second, .val .null] [.null, .ref b'2, .ref x0])) rfl (by rw [hml]; rfl) (a := x0) cq'9 cq'a (argsL := [.ref b'2, .null]) (rest := []) (lenOf own_pd10 rfl) rfl (Nat.le_of_eq rfl) (hb hby d6_125) (fun _ _ => ⟨rfl, rfl, (by decide : 1 + 0 ≤ _), (by decide : 1 + 0 ≤ _)⟩)
 dsimp only [Pt.U, Pt.locs, Pt.cells, Pt.slots] at X'8 l'8 y'8 z'8 st'8 hQ'8
 subst l'8 y'8 z'8
 obtain ⟨rfl, Nq'8, K'8⟩ := hQ'8
 have KP_b : Keep h0 T'8.heap [] := KP_7.trans K'8 all0
 have N_8 := Fr.app N_2 Nq'8
 refine goo (fun _ k => st'8.trans k) ?_
 show own_G _ _ _ _ (T'8.setTop (mkF m 128 #[rv x0, .val (.long kk), .second, .val .null] []))
 exact own_end X'8 Bd.notSynchronized (v := none) (fun _ => rfl) (Q := Q_rm_ch Z x0 kk cn ca kca cvs bx h0 n0) (by show Q_rm_ch Z x0 kk cn ca kca cvs bx h0 n0 (none) T'8.heap _; exact ⟨rfl, N_8, KP_b⟩) (fun fs hr => X'8.returnOut hx Bd.returns (hb hby d6_128) hr) (by decide) (by decide)
def Q_rm_ap (Z : State) (x0 : Addr) (vo : Addr) (ar : Addr) (ho_ : Int32) (ka : ClassId) (bs : List Bool) (cn : Nat) (h0 : Heap) (n0 : Nat) (v : Option Value) (h : Heap) (L : List Loc) : Prop := v = none ∧ Fr n0 L ∧ Keep h0 h [x0, ar] ∧ Exa Z h x0 s_1 ∧ Fld Z h x0 s_1 "array" "[Ljava/lang/Object;" (.ref ar) ∧ Fld Z h x0 s_1 "arrayCount" "I" (.int (Int32.ofNat (cn + 1))) ∧ Fld Z h x0 s_1 "holes" "Z" (.int ho_) ∧ Fld Z h x0 s_1 "hash" "Lcom/example/plainsong/plainsong/engine/HashPart;" .null ∧ Arv Z h ar ka (.object s_2) (Int32.ofNat 4) (own_l (bs.set cn true) vo) .null
theorem d25_0 : decode prog_60_method_14_code 0 = .ok (.aload_n 0, 1) := by decide +kernel
theorem d25_1 : decode prog_60_method_14_code 1 = .ok (.getfield 23, 3) := by decide +kernel
theorem d25_4 : decode prog_60_method_14_code 4 = .ok (.ifnull 31, 3) := by decide +kernel
theorem d25_35 : decode prog_60_method_14_code 35 = .ok (.aload_n 1, 1) := by decide +kernel
theorem d25_36 : decode prog_60_method_14_code 36 = .ok (.astore_n 2, 1) := by decide +kernel
theorem d25_37 : decode prog_60_method_14_code 37 = .ok (.aload_n 2, 1) := by decide +kernel
theorem d25_38 : decode prog_60_method_14_code 38 = .ok (.ifnull 116, 3) := by decide +kernel
theorem d25_41 : decode prog_60_method_14_code 41 = .ok (.aload_n 0, 1) := by decide +kernel
theorem d25_42 : decode prog_60_method_14_code 42 = .ok (.getfield 55, 3) := by decide +kernel
theorem d25_45 : decode prog_60_method_14_code 45 = .ok (.i2l, 1) := by decide +kernel
theorem d25_46 : decode prog_60_method_14_code 46 = .ok (.lconst 1, 1) := by decide +kernel
theorem d25_47 : decode prog_60_method_14_code 47 = .ok (.ladd, 1) := by decide +kernel
theorem d25_48 : decode prog_60_method_14_code 48 = .ok (.lstore_n 3, 1) := by decide +kernel
theorem d25_49 : decode prog_60_method_14_code 49 = .ok (.aload_n 0, 1) := by decide +kernel
theorem d25_50 : decode prog_60_method_14_code 50 = .ok (.getfield 55, 3) := by decide +kernel
theorem d25_53 : decode prog_60_method_14_code 53 = .ok (.aload_n 0, 1) := by decide +kernel
theorem d25_54 : decode prog_60_method_14_code 54 = .ok (.getfield 15, 3) := by decide +kernel
theorem d25_57 : decode prog_60_method_14_code 57 = .ok (.arraylength, 1) := by decide +kernel
theorem d25_58 : decode prog_60_method_14_code 58 = .ok (.if_icmp .ne 20, 3) := by decide +kernel
theorem d25_61 : decode prog_60_method_14_code 61 = .ok (.aload_n 0, 1) := by decide +kernel
theorem d25_62 : decode prog_60_method_14_code 62 = .ok (.invokevirtual 138, 3) := by decide +kernel
theorem d25_65 : decode prog_60_method_14_code 65 = .ok (.ifCond .ne 13, 3) := by decide +kernel
theorem d25_68 : decode prog_60_method_14_code 68 = .ok (.aload_n 0, 1) := by decide +kernel
theorem d25_69 : decode prog_60_method_14_code 69 = .ok (.lload_n 3, 1) := by decide +kernel
theorem d25_70 : decode prog_60_method_14_code 70 = .ok (.invokestatic 59, 3) := by decide +kernel
theorem d25_73 : decode prog_60_method_14_code 73 = .ok (.aload_n 2, 1) := by decide +kernel
theorem d25_74 : decode prog_60_method_14_code 74 = .ok (.invokevirtual 91, 3) := by decide +kernel
theorem d25_77 : decode prog_60_method_14_code 77 = .ok (.return_, 1) := by decide +kernel
theorem d25_78 : decode prog_60_method_14_code 78 = .ok (.aload_n 0, 1) := by decide +kernel
theorem d25_79 : decode prog_60_method_14_code 79 = .ok (.getfield 15, 3) := by decide +kernel
theorem d25_82 : decode prog_60_method_14_code 82 = .ok (.aload_n 0, 1) := by decide +kernel
theorem d25_83 : decode prog_60_method_14_code 83 = .ok (.dup, 1) := by decide +kernel
theorem d25_84 : decode prog_60_method_14_code 84 = .ok (.getfield 55, 3) := by decide +kernel
theorem d25_87 : decode prog_60_method_14_code 87 = .ok (.dup_x1, 1) := by decide +kernel
theorem d25_88 : decode prog_60_method_14_code 88 = .ok (.iconst 1, 1) := by decide +kernel
theorem d25_89 : decode prog_60_method_14_code 89 = .ok (.iadd, 1) := by decide +kernel
theorem d25_90 : decode prog_60_method_14_code 90 = .ok (.putfield 55, 3) := by decide +kernel
theorem d25_93 : decode prog_60_method_14_code 93 = .ok (.aload_n 2, 1) := by decide +kernel
theorem d25_94 : decode prog_60_method_14_code 94 = .ok (.aastore, 1) := by decide +kernel
theorem d25_95 : decode prog_60_method_14_code 95 = .ok (.aload_n 0, 1) := by decide +kernel
theorem d25_96 : decode prog_60_method_14_code 96 = .ok (.getfield 23, 3) := by decide +kernel
theorem d25_99 : decode prog_60_method_14_code 99 = .ok (.ifnull 26, 3) := by decide +kernel
theorem d25_125 : decode prog_60_method_14_code 125 = .ok (.iconst 0, 1) := by decide +kernel
theorem d25_126 : decode prog_60_method_14_code 126 = .ok (.istore 5, 2) := by decide +kernel
theorem d25_128 : decode prog_60_method_14_code 128 = .ok (.iload 5, 2) := by decide +kernel
theorem d25_130 : decode prog_60_method_14_code 130 = .ok (.ifCond .eq 19, 3) := by decide +kernel
theorem d25_149 : decode prog_60_method_14_code 149 = .ok (.aconst_null, 1) := by decide +kernel
theorem d25_150 : decode prog_60_method_14_code 150 = .ok (.astore_n 2, 1) := by decide +kernel
theorem d25_151 : decode prog_60_method_14_code 151 = .ok (.goto (-114), 3) := by decide +kernel
theorem d25_154 : decode prog_60_method_14_code 154 = .ok (.return_, 1) := by decide +kernel
theorem ef_25_RR (m : MethodId) (x0 : Addr) (x1 : Addr) : entryFrame m #[(.ref x0), (.ref x1)] 6 = mkF m 0 #[.val (.ref x0), .val (.ref x1), .unset, .unset, .unset, .unset] [] := by
  first | (simp [entryFrame, mkF, argsToLocals, Value.category]; done) | rfl
theorem rm_ap (l : Launch) (Z : State) (a0 : Array Value) (hw : own_HW a0 Z) (ws : List Jvm.Cond) (x0 : Addr) (vo : Addr) (ar : Addr) (ho_ : Int32) (ka : ClassId) (bs : List Bool) (cn : Nat) (h0 : Heap) (n0 : Nat) (Z0 : n0 ≤ h0.size) (p0_ : Exa Z h0 x0 s_1) (p1_ : Fld Z h0 x0 s_1 "array" "[Ljava/lang/Object;" (.ref ar)) (p2_ : Fld Z h0 x0 s_1 "arrayCount" "I" (.int (Int32.ofNat cn))) (p3_ : Fld Z h0 x0 s_1 "holes" "Z" (.int ho_)) (p4_ : Fld Z h0 x0 s_1 "hash" "Lcom/example/plainsong/plainsong/engine/HashPart;" .null) (p5_ : Arv Z h0 ar ka (.object s_2) (Int32.ofNat 4) (own_l bs vo) .null) (p6_ : Ovr Z ka s_2) (p7_ : Exa Z h0 vo s_3) (p8_ : n0 ≤ x0) (p9_ : n0 ≤ ar) (p10_ : x0 ≠ ar) (hcn : cn < 4 ∧ bs.length = 4) :
  MetFree l Y26 (head1 (Jvm.Cond.code Y26 prog_60_method_14_code 6 none :: ws) (rr 0 0 0 0)) (fun a U => a = #[.ref x0, .ref vo] ∧ Z.Warmed39 U.vm ∧ U.heap = h0) (fun _ _ _ _ _ => True) (fun _ U o U' => ∃ v L, o = .returned v ∧ Q_rm_ap Z x0 vo ar ho_ ka bs cn h0 n0 v U'.heap L ∧ FrameEnd U o U' L (rr 0 0 0 0).cells (rr 0 0 0 0).slots) := by
 refine MetFree.of_bodySF (plainFor_of_name own_pn2) hisR ?_
 intro p e s m args below meth c s₁ Bd hml0 hP hK
 obtain ⟨rfl, hZ, hh⟩ := hP
 have hx := Bd.exec
 have hby := Bd.bytes
 have hml : c.maxLocals = 6 := hml0
 have hown : s.vm.findClass s_1 = some m.cls := findClass_of_methodNamed Bd.named
 have hnm := (name_of_methodNamed Bd.named Bd.method).1
 have X0 : Stand p l e (rr 0 0 0 0) s m #[.ref x0, .ref vo] below meth c s₁ [] 0 0 := Stand.of_body Bd
 have e0 : s₁.heap = h0 := by rw [← hh, Bd.state]; rfl
 show own_G _ _ _ _ (s₁.setTop (entryFrame m #[.ref x0, .ref vo] 6))
 refine goo (fun _ k => castTop (ef_25_RR m x0 vo) k) ?_
 have N0 := Fr.nil n0
 have KP0 := Keep.refl h0 [x0, ar]
 refine goo (fun _ k => XS.aloadN X0.here hx rfl (hb hby d25_0) rfl rfl k) ?_
 obtain ⟨T'0, X'0, e'0, st'0⟩ := getF X0 hx hZ hown (host := "") (Or.inl (qw hw 51 rfl)) Via.refl e0 p4_ (g := (mkF m 1 #[rv x0, rv vo, .unset, .unset, .unset, .unset] [.ref x0])) rfl rfl (hb hby d25_1)
 refine goo st'0 ?_
 refine goo (fun _ k => XS.ifnullYes X'0.here hx rfl (pc0 := 4) (pc' := 35) rfl (hb hby d25_4) rfl (by decide) (by decide) <| XS.aloadN X'0.here hx rfl (hb hby d25_35) rfl rfl <| XS.astoreN X'0.here hx rfl (hb hby d25_36) rfl rfl (l' := #[rv x0, rv vo, rv vo, .unset, .unset, .unset]) rfl k) ?_
 show own_G _ _ _ _ (T'0.setTop (mkF m 37 #[rv x0, rv vo, rv vo, .unset, .unset, .unset] []))
 refine goo (fun _ k => XS.aloadN X'0.here hx rfl (hb hby d25_37) rfl rfl <| XS.ifnullNo X'0.here hx rfl (hb hby d25_38) rfl <| XS.aloadN X'0.here hx rfl (hb hby d25_41) rfl rfl k) ?_
 obtain ⟨T'1, X'1, e'1, st'1⟩ := getF X'0 hx hZ hown (host := "") (Or.inl (qw hw 39 rfl)) Via.refl e'0 p2_ (g := (mkF m 42 #[rv x0, rv vo, rv vo, .unset, .unset, .unset] [.ref x0])) rfl rfl (hb hby d25_42)
 refine goo st'1 ?_
 refine goo (fun _ k => XS.i2l X'1.here hx rfl (hb hby d25_45) rfl <| XS.lconst X'1.here hx rfl (hb hby d25_46) k) ?_
 show own_G _ _ _ _ (T'1.setTop (mkF m 47 #[rv x0, rv vo, rv vo, .unset, .unset, .unset] [(.long (1 : Int64)), (.long ((Int32.ofNat cn).toInt64))]))
 refine goo (fun _ k => XS.ladd X'1.here hx rfl (hb hby d25_47) rfl <| XS.lstoreN X'1.here hx rfl (hb hby d25_48) rfl (l' := #[rv x0, rv vo, rv vo, .val (.long (((Int32.ofNat cn).toInt64) + (1 : Int64))), .second, .unset]) rfl <| XS.aloadN X'1.here hx rfl (hb hby d25_49) rfl rfl k) ?_
 obtain ⟨T'2, X'2, e'2, st'2⟩ := getF X'1 hx hZ hown (host := "") (Or.inl (qw hw 39 rfl)) Via.refl e'1 p2_ (g := (mkF m 50 #[rv x0, rv vo, rv vo, .val (.long (((Int32.ofNat cn).toInt64) + (1 : Int64))), .second, .unset] [.ref x0])) rfl rfl (hb hby d25_50)
 refine goo st'2 ?_
 refine goo (fun _ k => XS.aloadN X'2.here hx rfl (hb hby d25_53) rfl rfl k) ?_
 obtain ⟨T'3, X'3, e'3, st'3⟩ := getF X'2 hx hZ hown (host := "") (Or.inl (qw hw 32 rfl)) Via.refl e'2 p1_ (g := (mkF m 54 #[rv x0, rv vo, rv vo, .val (.long (((Int32.ofNat cn).toInt64) + (1 : Int64))), .second, .unset] [.ref x0, (.int (Int32.ofNat cn))])) rfl rfl (hb hby d25_54)
 refine goo st'3 ?_
 show own_G _ _ _ _ (T'3.setTop (mkF m 57 #[rv x0, rv vo, rv vo, .val (.long (((Int32.ofNat cn).toInt64) + (1 : Int64))), .second, .unset] [.ref ar, (.int (Int32.ofNat cn))]))
 obtain ⟨cl1391, Ar1391, -, S1391, N1391, -, -⟩ := id p5_
 refine goo (fun _ k => X'3.arraylength hx (cell := cl1391) (by rw [e'3]; exact Ar1391.1) (State.isArrayOf_alike hZ.alike Ar1391.2.1) (g := (mkF m 57 #[rv x0, rv vo, rv vo, .val (.long (((Int32.ofNat cn).toInt64) + (1 : Int64))), .second, .unset] [.ref ar, (.int (Int32.ofNat cn))])) rfl rfl (hb hby d25_57) _ (by rw [len_of S1391 N1391]; exact k)) ?_
 refine goo (fun _ k => XS.icmpYes X'3.here hx rfl (pc0 := 58) (pc' := 78) rfl (hb hby d25_58) rfl ((feq (own_n5 (by omega) (by omega) (by omega))).2) (by decide) (by decide) <| XS.aloadN X'3.here hx rfl (hb hby d25_78) rfl rfl k) ?_
 obtain ⟨T'4, X'4, e'4, st'4⟩ := getF X'3 hx hZ hown (host := "") (Or.inl (qw hw 32 rfl)) Via.refl e'3 p1_ (g := (mkF m 79 #[rv x0, rv vo, rv vo, .val (.long (((Int32.ofNat cn).toInt64) + (1 : Int64))), .second, .unset] [.ref x0])) rfl rfl (hb hby d25_79)
 refine goo st'4 ?_
 refine goo (fun _ k => XS.aloadN X'4.here hx rfl (hb hby d25_82) rfl rfl <| XS.dup X'4.here hx rfl (hb hby d25_83) rfl rfl k) ?_
 show own_G _ _ _ _ (T'4.setTop (mkF m 84 #[rv x0, rv vo, rv vo, .val (.long (((Int32.ofNat cn).toInt64) + (1 : Int64))), .second, .unset] [.ref x0, .ref x0, .ref ar]))
 obtain ⟨T'5, X'5, e'5, st'5⟩ := getF X'4 hx hZ hown (host := "") (Or.inl (qw hw 39 rfl)) Via.refl e'4 p2_ (g := (mkF m 84 #[rv x0, rv vo, rv vo, .val (.long (((Int32.ofNat cn).toInt64) + (1 : Int64))), .second, .unset] [.ref x0, .ref x0, .ref ar])) rfl rfl (hb hby d25_84)
 refine goo st'5 ?_
 refine goo (fun _ k => XS.dupX1 X'5.here hx rfl (hb hby d25_87) rfl rfl rfl <| XS.iconst X'5.here hx rfl (hb hby d25_88) <| XS.iadd X'5.here hx rfl (hb hby d25_89) rfl k) ?_
 show own_G _ _ _ _ (T'5.setTop (mkF m 90 #[rv x0, rv vo, rv vo, .val (.long (((Int32.ofNat cn).toInt64) + (1 : Int64))), .second, .unset] [(.int ((Int32.ofNat cn) + i_1)), .ref x0, (.int (Int32.ofNat cn)), .ref ar]))
 rw [own_n3]
 obtain ⟨T'6, h'6, X'6, e'6, W'6, st'6⟩ := putF X'5 hx hZ hown (host := "") (Or.inl (qw hw 39 rfl)) Via.refl e'5 p2_ p0_ (Or.inl (qw hw 40 rfl)) (qw hw 24 rfl) (ty := .int) (by decide) rfl rfl (g := (mkF m 90 #[rv x0, rv vo, rv vo, .val (.long (((Int32.ofNat cn).toInt64) + (1 : Int64))), .second, .unset] [(.int (Int32.ofNat (cn + 1))), .ref x0, (.int (Int32.ofNat cn)), .ref ar])) rfl rfl (hb hby d25_90)
 have X_7 := p0_.wr W'6
 have F_8 := p1_.other W'6 (Or.inr (slot_ne (Or.inl (qw hw 33 rfl)) (Or.inl (qw hw 40 rfl)) (by decide) (t := (.array (.object s_2))) (t' := .int) (by decide) (by decide)))
 have F_9 := p3_.other W'6 (Or.inr (slot_ne (Or.inl (qw hw 152 rfl)) (Or.inl (qw hw 40 rfl)) (by decide) (t := .boolean) (t' := .int) (by decide) (by decide)))
 have F_a := p4_.other W'6 (Or.inr (slot_ne (Or.inl (qw hw 52 rfl)) (Or.inl (qw hw 40 rfl)) (by decide) (t := (.object s_0)) (t' := .int) (by decide) (by decide)))
 have V_b := p5_.other W'6 (Ne.symm p10_)
 have X_c := p7_.wr W'6
 have F_d := p2_.same W'6
 have KP_e : Keep h0 h'6 [x0, ar] := KP0.wr W'6 (Or.inl (List.mem_of_getElem? (i := 0) rfl))
 have N_6 := Fr.snoc X'6 N0 p8_
 refine goo st'6 ?_
 refine goo (fun _ k => XS.aloadN X'6.here hx rfl (hb hby d25_93) rfl rfl k) ?_
 obtain ⟨cl1404, Ar1404, q'f, S1404, N1404, H1404, G1404⟩ := id V_b
 obtain ⟨T'f, h'f, X'f, e'f, W'f, st'f⟩ := stR X'6 hx hZ e'6 Ar1404 (j := (Int32.ofNat cn)) (inb_of S1404 (own_ib (i := cn) (z := 4) (by omega) (by omega))) rfl (Sto.ofV Ar1404 q'f p6_ (Ins.of_exa X_c (qw hw 141 rfl))) (g := (mkF m 94 #[rv x0, rv vo, rv vo, .val (.long (((Int32.ofNat cn).toInt64) + (1 : Int64))), .second, .unset] [.ref vo, (.int (Int32.ofNat cn)), .ref ar])) rfl rfl (hb hby d25_94)
 have X_g := X_7.wr W'f
 have F_h := F_8.other W'f (Or.inl p10_)
 have F_i := F_d.other W'f (Or.inl p10_)
 have F_j := F_9.other W'f (Or.inl p10_)
 have F_k := F_a.other W'f (Or.inl p10_)
 have V1404 : Arv Z h'f ar ka (.object s_2) (Int32.ofNat 4) (own_l (bs.set cn true) vo) .null := by rw [← own_l_set]; exact Arv.set Ar1404 q'f S1404 N1404 H1404 G1404 rfl W'f cn (own_tn (by omega)) (by rw [own_l_len]; omega)
 have KP_l : Keep h0 h'f [x0, ar] := KP_e.wr W'f (Or.inl (List.mem_of_getElem? (i := 1) rfl))
 have N_f := Fr.snoc X'f N_6 p9_
 refine goo st'f ?_
 refine goo (fun _ k => XS.aloadN X'f.here hx rfl (hb hby d25_95) rfl rfl k) ?_
 obtain ⟨T'm, X'm, e'm, st'm⟩ := getF X'f hx hZ hown (host := "") (Or.inl (qw hw 51 rfl)) Via.refl e'f F_k (g := (mkF m 96 #[rv x0, rv vo, rv vo, .val (.long (((Int32.ofNat cn).toInt64) + (1 : Int64))), .second, .unset] [.ref x0])) rfl rfl (hb hby d25_96)
 refine goo st'm ?_
 refine goo (fun _ k => XS.ifnullYes X'm.here hx rfl (pc0 := 99) (pc' := 125) rfl (hb hby d25_99) rfl (by decide) (by decide) k) ?_
 show own_G _ _ _ _ (T'm.setTop (mkF m 125 #[rv x0, rv vo, rv vo, .val (.long (((Int32.ofNat cn).toInt64) + (1 : Int64))), .second, .unset] []))
 refine goo (fun _ k => XS.iconst X'm.here hx rfl (hb hby d25_125) <| XS.istore X'm.here hx rfl (hb hby d25_126) rfl (l' := #[rv x0, rv vo, rv vo, .val (.long (((Int32.ofNat cn).toInt64) + (1 : Int64))), .second, iv i_0]) rfl <| XS.iload X'm.here hx rfl (hb hby d25_128) rfl <| XS.ifYes X'm.here hx rfl (pc0 := 130) (pc' := 149) rfl (hb hby d25_130) rfl (((if0 _ _).trans (teq (by decide : i_0 = i_0)).1)) (by decide) (by decide) k) ?_
 refine goo (fun _ k => XS.aconstNull X'm.here hx rfl (hb hby d25_149) <| XS.astoreN X'm.here hx rfl (hb hby d25_150) rfl rfl (l' := #[rv x0, rv vo, .val .null, .val (.long (((Int32.ofNat cn).toInt64) + (1 : Int64))), .second, iv i_0]) rfl k) ?_
 show own_G _ _ _ _ (T'm.setTop (mkF m 151 #[rv x0, rv vo, .val .null, .val (.long (((Int32.ofNat cn).toInt64) + (1 : Int64))), .second, iv i_0] []))
 refine goo (fun _ k => XS.goto X'm.here hx rfl (pc0 := 151) (pc' := 37) rfl (hb hby d25_151) (by decide) (by decide) <| XS.aloadN X'm.here hx rfl (hb hby d25_37) rfl rfl <| XS.ifnullYes X'm.here hx rfl (pc0 := 38) (pc' := 154) rfl (hb hby d25_38) rfl (by decide) (by decide) k) ?_
 show own_G _ _ _ _ (T'm.setTop (mkF m 154 #[rv x0, rv vo, .val .null, .val (.long (((Int32.ofNat cn).toInt64) + (1 : Int64))), .second, iv i_0] []))
 exact own_end X'm Bd.notSynchronized (v := none) (fun _ => rfl) (Q := Q_rm_ap Z x0 vo ar ho_ ka bs cn h0 n0) (by show Q_rm_ap Z x0 vo ar ho_ ka bs cn h0 n0 (none) T'm.heap _; rw [e'm]; exact ⟨rfl, N_f, KP_l, X_g, F_h, F_i, F_j, F_k, V1404⟩) (fun fs hr => X'm.returnOut hx Bd.returns (hb hby d25_154) hr) (by decide) (by decide)
def Q_rm_nx (Z : State) (x0 : Addr) (kk : Int64) (vo : Addr) (ar : Addr) (ho_ : Int32) (ka : ClassId) (bs : List Bool) (cn : Nat) (h0 : Heap) (n0 : Nat) (v : Option Value) (h : Heap) (L : List Loc) : Prop := v = none ∧ Fr n0 L ∧ Keep h0 h [x0, ar] ∧ Exa Z h x0 s_1 ∧ Fld Z h x0 s_1 "array" "[Ljava/lang/Object;" (.ref ar) ∧ Fld Z h x0 s_1 "arrayCount" "I" (.int (Int32.ofNat (cn + 1))) ∧ Fld Z h x0 s_1 "holes" "Z" (.int ho_) ∧ Fld Z h x0 s_1 "hash" "Lcom/example/plainsong/plainsong/engine/HashPart;" .null ∧ Arv Z h ar ka (.object s_2) (Int32.ofNat 4) (own_l (bs.set cn true) vo) .null
theorem own_pd14 : parseMethodDescriptor "(Ljava/lang/Object;)V" = some ⟨[(.object "java/lang/Object")], none⟩ := by decide +kernel
theorem rm_nx (l : Launch) (Z : State) (a0 : Array Value) (hw : own_HW a0 Z) (ws : List Jvm.Cond) (x0 : Addr) (kk : Int64) (vo : Addr) (ar : Addr) (ho_ : Int32) (ka : ClassId) (bs : List Bool) (cn : Nat) (h0 : Heap) (n0 : Nat) (Z0 : n0 ≤ h0.size) (p0_ : Exa Z h0 x0 s_1) (p1_ : Fld Z h0 x0 s_1 "array" "[Ljava/lang/Object;" (.ref ar)) (p2_ : Fld Z h0 x0 s_1 "arrayCount" "I" (.int (Int32.ofNat cn))) (p3_ : Fld Z h0 x0 s_1 "holes" "Z" (.int ho_)) (p4_ : Fld Z h0 x0 s_1 "hash" "Lcom/example/plainsong/plainsong/engine/HashPart;" .null) (p5_ : Arv Z h0 ar ka (.object s_2) (Int32.ofNat 4) (own_l bs vo) .null) (p6_ : Ovr Z ka s_2) (p7_ : Exa Z h0 vo s_3) (p8_ : n0 ≤ x0) (p9_ : n0 ≤ ar) (p10_ : x0 ≠ ar) (hk : ¬ kk < (1 : Int64) ∧ (Int32.ofNat cn).toInt64 < kk ∧ kk = (Int32.ofNat cn).toInt64 + 1 ∧ Int32.ofNat cn < i_2147483639) (hcn : cn < 4 ∧ bs.length = 4) :
  MetFree l Y22 (head1 (Jvm.Cond.code Y22 prog_60_method_7_code 4 none :: ws) (rr 1 0 0 17)) (fun a U => a = #[.ref x0, (.long kk), .ref vo] ∧ Z.Warmed39 U.vm ∧ U.heap = h0) (fun _ _ _ _ _ => True) (fun _ U o U' => ∃ v L, o = .returned v ∧ Q_rm_nx Z x0 kk vo ar ho_ ka bs cn h0 n0 v U'.heap L ∧ FrameEnd U o U' L (rr 1 0 0 17).cells (rr 1 0 0 17).slots) := by
 refine MetFree.of_bodySF (plainFor_of_name own_pn2) hisR ?_
 intro p e s m args below meth c s₁ Bd hml0 hP hK
 obtain ⟨rfl, hZ, hh⟩ := hP
 have hx := Bd.exec
 have hby := Bd.bytes
 have hml : c.maxLocals = 4 := hml0
 have hown : s.vm.findClass s_1 = some m.cls := findClass_of_methodNamed Bd.named
 have hnm := (name_of_methodNamed Bd.named Bd.method).1
 have X0 : Stand p l e (rr 1 0 0 17) s m #[.ref x0, (.long kk), .ref vo] below meth c s₁ [] 0 0 := Stand.of_body Bd
 have e0 : s₁.heap = h0 := by rw [← hh, Bd.state]; rfl
 show own_G _ _ _ _ (s₁.setTop (entryFrame m #[.ref x0, (.long kk), .ref vo] 4))
 refine goo (fun _ k => castTop (ef_6_RJR m x0 kk vo) k) ?_
 have N0 := Fr.nil n0
 have KP0 := Keep.refl h0 [x0, ar]
 refine goo (fun _ k => XS.lloadN X0.here hx rfl (hb hby d6_0) rfl <| XS.lconst X0.here hx rfl (hb hby d6_1) <| XS.lcmp X0.here hx rfl (hb hby d6_2) rfl <| XS.ifNo X0.here hx rfl (hb hby d6_3) rfl (((if0 _ _).trans (flt (own_l2 hk.1)).1)) k) ?_
 refine goo (fun _ k => XS.lloadN X0.here hx rfl (hb hby d6_6) rfl k) ?_
 show own_G _ _ _ _ (s₁.setTop (mkF m 7 #[rv x0, .val (.long kk), .second, rv vo] [(.long kk)]))
 refine goo (fun _ k => XS.aloadN X0.here hx rfl (hb hby d6_7) rfl rfl k) ?_
 obtain ⟨T'0, X'0, e'0, st'0⟩ := getF X0 hx hZ hown (host := "") (Or.inl (qw hw 39 rfl)) Via.refl e0 p2_ (g := (mkF m 8 #[rv x0, .val (.long kk), .second, rv vo] [.ref x0, (.long kk)])) rfl rfl (hb hby d6_8)
 refine goo st'0 ?_
 refine goo (fun _ k => XS.i2l X'0.here hx rfl (hb hby d6_11) rfl <| XS.lcmp X'0.here hx rfl (hb hby d6_12) rfl <| XS.ifYes X'0.here hx rfl (pc0 := 13) (pc' := 86) rfl (hb hby d6_13) rfl (((if0 _ _).trans (tlt (own_g1 hk.2.1)).2.2.1)) (by decide) (by decide) <| XS.lloadN X'0.here hx rfl (hb hby d6_86) rfl k) ?_
 show own_G _ _ _ _ (T'0.setTop (mkF m 87 #[rv x0, .val (.long kk), .second, rv vo] [(.long kk)]))
 refine goo (fun _ k => XS.aloadN X'0.here hx rfl (hb hby d6_87) rfl rfl k) ?_
 obtain ⟨T'1, X'1, e'1, st'1⟩ := getF X'0 hx hZ hown (host := "") (Or.inl (qw hw 39 rfl)) Via.refl e'0 p2_ (g := (mkF m 88 #[rv x0, .val (.long kk), .second, rv vo] [.ref x0, (.long kk)])) rfl rfl (hb hby d6_88)
 refine goo st'1 ?_
 refine goo (fun _ k => XS.i2l X'1.here hx rfl (hb hby d6_91) rfl <| XS.lconst X'1.here hx rfl (hb hby d6_92) <| XS.ladd X'1.here hx rfl (hb hby d6_93) rfl <| XS.lcmp X'1.here hx rfl (hb hby d6_94) rfl k) ?_
 show own_G _ _ _ _ (T'1.setTop (mkF m 95 #[rv x0, .val (.long kk), .second, rv vo] [(.int (lcmpW kk (((Int32.ofNat cn).toInt64) + (1 : Int64))))]))
 refine goo (fun _ k => XS.ifNo X'1.here hx rfl (hb hby d6_95) rfl (((if0 _ _).trans (teq (own_e1 hk.2.2.1)).2)) <| XS.aloadN X'1.here hx rfl (hb hby d6_98) rfl rfl k) ?_
 obtain ⟨T'2, X'2, e'2, st'2⟩ := getF X'1 hx hZ hown (host := "") (Or.inl (qw hw 39 rfl)) Via.refl e'1 p2_ (g := (mkF m 99 #[rv x0, .val (.long kk), .second, rv vo] [.ref x0])) rfl rfl (hb hby d6_99)
 refine goo st'2 ?_
 refine goo (fun _ k => X'2.ldcInt hx hown (mvT hZ (qw hw 41 rfl)) (g := (mkF m 102 #[rv x0, .val (.long kk), .second, rv vo] [(.int (Int32.ofNat cn))])) rfl (hb hby d6_102) _ k) ?_
 refine goo (fun _ k => XS.icmpNo X'2.here hx rfl (hb hby d6_104) rfl ((tlt hk.2.2.2).2.1) <| XS.aloadN X'2.here hx rfl (hb hby d6_107) rfl rfl k) ?_
 show own_G _ _ _ _ (T'2.setTop (mkF m 108 #[rv x0, .val (.long kk), .second, rv vo] [.ref vo]))
 refine goo (fun _ k => XS.ifnullNo X'2.here hx rfl (hb hby d6_108) rfl <| XS.aloadN X'2.here hx rfl (hb hby d6_111) rfl rfl <| XS.aloadN X'2.here hx rfl (hb hby d6_112) rfl rfl k) ?_
 obtain ⟨cq'3, kq'3, q'3a, q'3b, q'3c⟩ := isOf hZ e'2 p0_
 obtain ⟨cp'3, cq'4, cq'5⟩ := p0_.cell
 obtain ⟨_, _, ⟨T'3, L'3, k'3, n'3⟩, -, X'3, ⟨Lc'3, hQ'3, l'3, y'3, z'3⟩, st'3⟩ := own_privB X'2 hx (y := Y26) hown (mvT hZ (qw hw 153 rfl)) (mvT hZ (qw hw 154 rfl)) (mvT hZ (qw hw 24 rfl)) (Cond.privateMethod_at (mvP hZ (qw hw 155 rfl) (args := #[]))) (mvT hZ (qw hw 156 rfl)) (by decide) (backOf (W := 0) (rm_ap l Z a0 hw [] x0 vo ar ho_ ka bs cn h0 n0 Z0 p0_ p1_ p2_ p3_ p4_ p5_ p6_ p7_ p8_ p9_ p10_ hcn) hZ (qw hw 156 rfl) (qw hw 25 rfl) (by decide) (by decide)) (g := (mkF m 113 #[rv x0, .val (.long kk), .second, rv vo] [.ref vo, .ref x0])) rfl (by rw [hml]; rfl) (a := x0) (by rw [e'2]; exact cq'4) cq'5 (argsL := [.ref vo]) (rest := []) (lenOf own_pd14 rfl) rfl (Nat.le_of_eq rfl) (hb hby d6_113) (fun _ _ => ⟨rfl, e'2, (by decide : 0 + 0 ≤ _), (by decide : 0 + 0 ≤ _)⟩)
 dsimp only [Pt.U, Pt.locs, Pt.cells, Pt.slots] at X'3 l'3 y'3 z'3 st'3 hQ'3
 subst l'3 y'3 z'3
 obtain ⟨rfl, Nq'3, K'3, G_6, G_7, G_8, G_9, G_a, G_b⟩ := hQ'3
 have KP_c : Keep h0 T'3.heap [x0, ar] := KP0.trans K'3 (allS (Or.inl (List.mem_of_getElem? (i := 0) rfl)) (allS (Or.inl (List.mem_of_getElem? (i := 1) rfl)) all0))
 have N_3 := Fr.app N0 Nq'3
 refine goo (fun _ k => st'3.trans k) ?_
 refine goo (fun _ k => XS.goto X'3.here hx rfl (pc0 := 116) (pc' := 128) rfl (hb hby d6_116) (by decide) (by decide) k) ?_
 show own_G _ _ _ _ (T'3.setTop (mkF m 128 #[rv x0, .val (.long kk), .second, rv vo] []))
 exact own_end X'3 Bd.notSynchronized (v := none) (fun _ => rfl) (Q := Q_rm_nx Z x0 kk vo ar ho_ ka bs cn h0 n0) (by show Q_rm_nx Z x0 kk vo ar ho_ ka bs cn h0 n0 (none) T'3.heap _; exact ⟨rfl, N_3, KP_c, G_6, G_7, G_8, G_9, G_a, G_b⟩) (fun fs hr => X'3.returnOut hx Bd.returns (hb hby d6_128) hr) (by decide) (by decide)
def Q_rm5 (Z : State) (x0 : Addr) (em : Addr) (h0 : Heap) (n0 : Nat) (v : Option Value) (h : Heap) (L : List Loc) : Prop := v = none ∧ Fr n0 L ∧ Keep h0 h [x0] ∧ Exa Z h x0 s_1 ∧ Fld Z h x0 s_1 "array" "[Ljava/lang/Object;" (.ref em) ∧ Fld Z h x0 s_1 "arrayCount" "I" (.int i_0) ∧ Fld Z h x0 s_1 "holes" "Z" (.int i_0) ∧ Fld Z h x0 s_1 "hash" "Lcom/example/plainsong/plainsong/engine/HashPart;" .null
theorem d5_0 : decode prog_60_method_1_code 0 = .ok (.aload_n 0, 1) := by decide +kernel
theorem d5_1 : decode prog_60_method_1_code 1 = .ok (.invokespecial 3, 3) := by decide +kernel
theorem d5_4 : decode prog_60_method_1_code 4 = .ok (.aload_n 0, 1) := by decide +kernel
theorem d5_5 : decode prog_60_method_1_code 5 = .ok (.getstatic 9, 3) := by decide +kernel
theorem d5_8 : decode prog_60_method_1_code 8 = .ok (.putfield 15, 3) := by decide +kernel
theorem d5_11 : decode prog_60_method_1_code 11 = .ok (.return_, 1) := by decide +kernel
theorem ef_5_R (m : MethodId) (x0 : Addr) : entryFrame m #[(.ref x0)] 1 = mkF m 0 #[.val (.ref x0)] [] := by
  first | (simp [entryFrame, mkF, argsToLocals, Value.category]; done) | rfl
theorem rm5 (l : Launch) (Z : State) (a0 : Array Value) (hw : own_HW a0 Z) (ws : List Jvm.Cond) (x0 : Addr) (em : Addr) (h0 : Heap) (n0 : Nat) (Z0 : n0 ≤ h0.size) (p0_ : Exa Z h0 x0 s_1) (p1_ : n0 ≤ x0) (p2_ : Fld Z h0 x0 s_1 "array" "[Ljava/lang/Object;" .null) (p3_ : Fld Z h0 x0 s_1 "arrayCount" "I" (.int i_0)) (p4_ : Fld Z h0 x0 s_1 "holes" "Z" (.int i_0)) (p5_ : Fld Z h0 x0 s_1 "hash" "Lcom/example/plainsong/plainsong/engine/HashPart;" .null) (p6_ : Sta Z h0 s_1 "EMPTY" "[Ljava/lang/Object;" (.ref em))  :
  MetFree l Y27 (head1 (Jvm.Cond.code Y27 prog_60_method_1_code 1 none :: ws) (rr 1 0 0 12)) (fun a U => a = #[.ref x0] ∧ Z.Warmed39 U.vm ∧ U.heap = h0) (fun _ _ _ _ _ => True) (fun _ U o U' => ∃ v L, o = .returned v ∧ Q_rm5 Z x0 em h0 n0 v U'.heap L ∧ FrameEnd U o U' L (rr 1 0 0 12).cells (rr 1 0 0 12).slots) := by
 refine MetFree.of_bodySF (plainFor_of_name own_pn2) hisR ?_
 intro p e s m args below meth c s₁ Bd hml0 hP hK
 obtain ⟨rfl, hZ, hh⟩ := hP
 have hx := Bd.exec
 have hby := Bd.bytes
 have hml : c.maxLocals = 1 := hml0
 have hown : s.vm.findClass s_1 = some m.cls := findClass_of_methodNamed Bd.named
 have hnm := (name_of_methodNamed Bd.named Bd.method).1
 have X0 : Stand p l e (rr 1 0 0 12) s m #[.ref x0] below meth c s₁ [] 0 0 := Stand.of_body Bd
 have e0 : s₁.heap = h0 := by rw [← hh, Bd.state]; rfl
 show own_G _ _ _ _ (s₁.setTop (entryFrame m #[.ref x0] 1))
 refine goo (fun _ k => castTop (ef_5_R m x0) k) ?_
 have N0 := Fr.nil n0
 have KP0 := Keep.refl h0 [x0]
 refine goo (fun _ k => XS.aloadN X0.here hx rfl (hb hby d5_0) rfl rfl k) ?_
 obtain ⟨T'0, X'0, e'0, st'0⟩ := initO X0 hx hZ hown (qw hw 29 rfl) (qw hw 19 rfl) (qw hw 20 rfl) e0 (g := (mkF m 1 #[rv x0] [.ref x0])) rfl (by rw [hml]; rfl) rfl (hb hby d5_1) (by decide) (W := 0) (Nat.le_of_eq rfl) (by decide)
 refine goo st'0 ?_
 refine goo (fun _ k => XS.aloadN X'0.here hx rfl (hb hby d5_4) rfl rfl k) ?_
 obtain ⟨T'1, X'1, e'1, st'1⟩ := getS2 X'0 hx hZ hown (host := "") (Or.inl (qw hw 30 rfl)) Via.refl e'0 p6_ (g := (mkF m 5 #[rv x0] [.ref x0])) rfl (hb hby d5_5)
 refine goo st'1 ?_
 obtain ⟨T'2, h'2, X'2, e'2, W'2, st'2⟩ := putF X'1 hx hZ hown (host := "") (Or.inl (qw hw 32 rfl)) Via.refl e'1 p2_ p0_ (Or.inl (qw hw 33 rfl)) (qw hw 24 rfl) (ty := (.array (.object s_2))) (by decide) rfl rfl (g := (mkF m 8 #[rv x0] [.ref em, .ref x0])) rfl rfl (hb hby d5_8)
 have X_3 := p0_.wr W'2
 have F_4 := p3_.other W'2 (Or.inr (slot_ne (Or.inl (qw hw 40 rfl)) (Or.inl (qw hw 33 rfl)) (by decide) (t := .int) (t' := (.array (.object s_2))) (by decide) (by decide)))
 have F_5 := p4_.other W'2 (Or.inr (slot_ne (Or.inl (qw hw 152 rfl)) (Or.inl (qw hw 33 rfl)) (by decide) (t := .boolean) (t' := (.array (.object s_2))) (by decide) (by decide)))
 have F_6 := p5_.other W'2 (Or.inr (slot_ne (Or.inl (qw hw 52 rfl)) (Or.inl (qw hw 33 rfl)) (by decide) (t := (.object s_0)) (t' := (.array (.object s_2))) (by decide) (by decide)))
 have F_7 := p2_.same W'2
 have KP_8 : Keep h0 h'2 [x0] := KP0.wr W'2 (Or.inl (List.mem_of_getElem? (i := 0) rfl))
 have N_2 := Fr.snoc X'2 N0 p1_
 refine goo st'2 ?_
 show own_G _ _ _ _ (T'2.setTop (mkF m 11 #[rv x0] []))
 exact own_end X'2 Bd.notSynchronized (v := none) (fun _ => rfl) (Q := Q_rm5 Z x0 em h0 n0) (by show Q_rm5 Z x0 em h0 n0 (none) T'2.heap _; rw [e'2]; exact ⟨rfl, N_2, KP_8, X_3, F_7, F_4, F_5, F_6⟩) (fun fs hr => X'2.returnOut hx Bd.returns (hb hby d5_11) hr) (by decide) (by decide)
def own_Mr (Z : State) (C : String) (mir : Addr) : Prop := ∃ (cB : ClassId) (kc : Class), Z.vm.findClass C = some cB ∧ Z.vm.classes[cB]? = some kc ∧ kc.mirror = some mir
section OwnMir
variable {p : Program} {l : Launch} {e : Env} {R : Room} {s : State} {m : MethodId} {args : Array Value} {below : List Frame} {meth : Method} {c : Code} {T : State} {locs : List Loc} {cells slots : Nat} {Z : State} {a0 : Array Value} {h : Heap}
theorem own_MrE (M : own_Mr Z C mir) (hZ : Z.Warmed39 s.vm) : ∃ (cB : ClassId) (kc : Class), s.vm.findClass C = some cB ∧ s.vm.classes[cB]? = some kc ∧ kc.mirror = some mir := by
  obtain ⟨cB, kc, h1, h2, h3⟩ := M
  obtain ⟨kc', h4, h5⟩ := hZ.alike.2.2 _ _ h2
  exact ⟨cB, kc', by rw [hZ.alike.findClass]; exact h1, h4, by rw [h5]; exact h3⟩
theorem own_getC (X : Stand p l e R s m args below meth c T locs cells slots) (hx : p.tables.exec = Jvm.exec) (hZ : Z.Warmed39 s.vm) {own C : String} {index : Nat} {b mir : Addr} (hown : s.vm.findClass own = some m.cls)
    (w1 : (Jvm.Cond.methodLink own index Jvm.Stand.gcN).before a0 Z = true) (w2 : (Jvm.Cond.declares Jvm.Stand.gcN).before a0 Z = true) (w3 : (Jvm.Cond.selects C Jvm.Stand.gcN Jvm.Stand.gcN).before a0 Z = true) (w4 : (Jvm.Cond.instanceMethod Jvm.Stand.gcN).before a0 Z = true) (w5 : (Jvm.Cond.native Jvm.Stand.gcN).before a0 Z = true)
    (M : own_Mr Z C mir) (eT : T.heap = h) (Ex : Exa Z h b C) {g : JFrame} (hg : g.method = m) (hsize : g.locals.size = c.maxLocals) {rest : List Value} (hs : g.stack = .ref b :: rest) {W : Nat} (hW : 2 * g.monitorRoom + (rest.map fun v => v.category).sum ≤ W) (hd : decode c.code g.pc = .ok (.invokevirtual index, 3))
    (hf : 1 ≤ R.frames) (hl : W + (nativeFrameWords "java/lang/Object" "getClass" 1 + 11) ≤ R.locals) :
    ∃ T', Stand p l e R s m args below meth c T' locs cells slots ∧ T'.heap = h ∧ ∀ target, Steps p.tables e below (T'.setTop { g with pc := g.pc + 3, stack := .ref mir :: rest }) target → Steps p.tables e below (T.setTop g) target := by
  obtain ⟨cB, kc, m1, m2, m3⟩ := own_MrE (s := s) M hZ
  obtain ⟨cq, kq, qa, qb, qc⟩ := isOf hZ eT Ex
  cases m1.symm.trans qa
  obtain ⟨vm1, X1, st⟩ := X.getClassOf hx hown (mvT hZ w1) (mvT hZ w2) (notFace_of_selects (args := #[]) (mvT hZ w3)) (mvT hZ w3) (mvT hZ w4) (mvT hZ w5) m1 qc m2 m3 hg hsize hs hd hf (Nat.le_trans (Nat.add_le_add_right hW _) hl)
  exact ⟨_, X1, eT, st⟩
theorem own_ldcC (X : Stand p l e R s m args below meth c T locs cells slots) (hx : p.tables.exec = Jvm.exec) (hZ : Z.Warmed39 s.vm) {own C : String} {index : Nat} {mir : Addr} (hown : s.vm.findClass own = some m.cls) (w1 : (Jvm.Cond.classLink own index C).before a0 Z = true)
    (M : own_Mr Z C mir) (eT : T.heap = h) {g : JFrame} (hg : g.method = m) (hd : decode c.code g.pc = .ok (.ldc index, 2)) :
    ∃ T', Stand p l e R s m args below meth c T' locs cells slots ∧ T'.heap = h ∧ ∀ target, Steps p.tables e below (T'.setTop { g with pc := g.pc + 2, stack := .ref mir :: g.stack }) target → Steps p.tables e below (T.setTop g) target := by
  obtain ⟨cB, kc, m1, m2, m3⟩ := own_MrE (s := s) M hZ
  have hev : (Term.mirror C).eval args s none [] s = some (.ref mir) := by simp [Term.eval, m1, m2, m3]
  obtain ⟨vm1, X1, st⟩ := X.ldcMirror hx hown (mvT hZ w1) hev hg hd
  exact ⟨_, X1, eT, st⟩
end OwnMir
section OwnCp
variable {p : Program} {l : Launch} {e : Env} {R : Room} {s : State} {m : MethodId} {args : Array Value} {below : List Frame} {meth : Method} {c : Code} {T : State} {locs : List Loc} {cells slots : Nat} {Z : State} {a0 : Array Value} {h : Heap}
theorem own_cp0 (X : Stand p l e R s m args below meth c T locs cells slots) (hx : p.tables.exec = Jvm.exec) (hZ : Z.Warmed39 s.vm) {own : String} {index : Nat} (hown : s.vm.findClass own = some m.cls)
    (w1 : (Cond.methodLink own index Jvm.Stand.acN).before a0 Z = true) (w2 : (Cond.native Jvm.Stand.acN).before a0 Z = true) (w3 : (Cond.static Jvm.Stand.acN).before a0 Z = true) (w4 : (Cond.initialized "java/lang/System").before a0 Z = true) (eT : T.heap = h)
    {a b : Addr} {k k' : ClassId} {ty ty' : FieldType} {z z' : Int32} {vs vd : List Value} {dv dd : Value} (A : Arv Z h a k ty z vs dv) (B : Arv Z h b k' ty' z' vd dd) (r1 : refKind ty = true) (r2 : refKind ty' = true)
    {g : JFrame} (hg : g.method = m) (hsize : g.locals.size = c.maxLocals) {rest : List Value} (hs : g.stack = .int 0 :: .int 0 :: .ref b :: .int 0 :: .ref a :: rest) (hd : decode c.code g.pc = .ok (.invokestatic index, 3))
    (hf : 1 ≤ R.frames) {W : Nat} (hW : 2 * g.monitorRoom + (rest.map fun v => v.category).sum ≤ W) (hlo : W + (nativeFrameWords "java/lang/System" "arraycopy" 5 + 11) ≤ R.locals) :
    ∃ T', Stand p l e R s m args below meth c T' locs cells slots ∧ T'.heap = h ∧ ∀ target, Steps p.tables e below (T'.setTop { g with pc := g.pc + 3, stack := rest }) target → Steps p.tables e below (T.setTop g) target := by
  obtain ⟨cs, As, -, Ss, -, Hs, Gs⟩ := A
  obtain ⟨cd, Ad, qd, Sd, Nd, Hd, Gd⟩ := B
  obtain ⟨os, ks, hks, sc, hsk⟩ := State.isArrayOf_alike hZ.alike As.2.1
  obtain ⟨od, kd, hkd, dc, hdk⟩ := State.isArrayOf_alike hZ.alike Ad.2.1
  have z0 : (0 : Int32).toInt = 0 := rfl
  have z1 : (0 : Int32).toNatClampNeg = 0 := rfl
  obtain ⟨vm₁, hW₁, X', st⟩ := X.arraycopyK hx hown (mvT hZ w1) (mvT hZ w2) (mvT hZ w3) (mvT hZ w4) (by rw [eT]; exact As.1) (by rw [eT]; exact Ad.1) os od As.2.2 Ad.2.2 hks hkd hsk hdk
    (by simp [r1, r2]) (srcPos := 0) (destPos := 0) (n := 0) (by decide) (by decide) (by decide) (by rw [z0]; omega) (by rw [z0]; omega) (fun vm₁ hw i hi => by rw [z1] at hi; omega) hg hsize hs hd hf (by omega)
  have ec : copied cs cd 0 0 0 = cd := rfl
  have el : copyLocs b (0 : Int32).toNatClampNeg (0 : Int32).toNatClampNeg = [] := rfl
  rw [el, List.append_nil] at X'
  refine ⟨_, X', ?_, st⟩
  show (T.heap.setIfInBounds b (copied cs cd 0 0 0)) = h
  rw [eT, ec]
  refine Array.ext (by simp) fun i h1 h2 => ?_
  rw [Array.getElem_setIfInBounds]
  split
  · rename_i q; subst q
    have := Ad.1
    rw [Array.getElem?_eq_getElem h2] at this
    exact (Option.some.inj this).symm
  · rfl
end OwnCp

def Q_rm_c34 (Z : State) (x0 : Addr) (mir : Addr) (ka : ClassId) (h0 : Heap) (n0 : Nat) (v : Option Value) (h : Heap) (L : List Loc) : Prop := ∃ RET : Addr, v = some (.ref RET) ∧ Fr n0 L ∧ Keep h0 h [] ∧ h0.size ≤ RET ∧ Exa Z h RET "[Ljava/lang/Object;" ∧ ∃ k, Ovr Z k s_2 ∧ Arv Z h RET k (.object s_2) i_4 [.null, .null, .null, .null] .null
theorem own_pd15 : parseMethodDescriptor "(II)I" = some ⟨[.int, .int], some .int⟩ := by decide +kernel
theorem d30_0 : decode jdk_65_method_120_code 0 = .ok (.aload_n 2, 1) := by decide +kernel
theorem d30_1 : decode jdk_65_method_120_code 1 = .ok (.ldc 110, 2) := by decide +kernel
theorem d30_3 : decode jdk_65_method_120_code 3 = .ok (.if_acmp .ne 10, 3) := by decide +kernel
theorem d30_6 : decode jdk_65_method_120_code 6 = .ok (.iload_n 1, 1) := by decide +kernel
theorem d30_7 : decode jdk_65_method_120_code 7 = .ok (.anewarray 2, 3) := by decide +kernel
theorem d30_10 : decode jdk_65_method_120_code 10 = .ok (.goto 14, 3) := by decide +kernel
theorem d30_24 : decode jdk_65_method_120_code 24 = .ok (.astore_n 3, 1) := by decide +kernel
theorem d30_25 : decode jdk_65_method_120_code 25 = .ok (.aload_n 0, 1) := by decide +kernel
theorem d30_26 : decode jdk_65_method_120_code 26 = .ok (.iconst 0, 1) := by decide +kernel
theorem d30_27 : decode jdk_65_method_120_code 27 = .ok (.aload_n 3, 1) := by decide +kernel
theorem d30_28 : decode jdk_65_method_120_code 28 = .ok (.iconst 0, 1) := by decide +kernel
theorem d30_29 : decode jdk_65_method_120_code 29 = .ok (.aload_n 0, 1) := by decide +kernel
theorem d30_30 : decode jdk_65_method_120_code 30 = .ok (.arraylength, 1) := by decide +kernel
theorem d30_31 : decode jdk_65_method_120_code 31 = .ok (.iload_n 1, 1) := by decide +kernel
theorem d30_32 : decode jdk_65_method_120_code 32 = .ok (.invokestatic 304, 3) := by decide +kernel
theorem d30_35 : decode jdk_65_method_120_code 35 = .ok (.invokestatic 150, 3) := by decide +kernel
theorem d30_38 : decode jdk_65_method_120_code 38 = .ok (.aload_n 3, 1) := by decide +kernel
theorem d30_39 : decode jdk_65_method_120_code 39 = .ok (.areturn, 1) := by decide +kernel
theorem ef_30_RIR (m : MethodId) (x0 : Addr) (x1 : Int32) (x2 : Addr) : entryFrame m #[(.ref x0), (.int x1), (.ref x2)] 4 = mkF m 0 #[.val (.ref x0), .val (.int x1), .val (.ref x2), .unset] [] := by
  first | (simp [entryFrame, mkF, argsToLocals, Value.category]; done) | rfl
theorem rm_c34 (l : Launch) (Z : State) (a0 : Array Value) (hw : own_HW a0 Z) (ws : List Jvm.Cond) (x0 : Addr) (mir : Addr) (ka : ClassId) (h0 : Heap) (n0 : Nat) (Z0 : n0 ≤ h0.size) (p0_ : Exa Z h0 x0 "[Ljava/lang/Object;") (p1_ : Arv Z h0 x0 ka (.object s_2) i_0 [] .null) (p2_ : own_Mr Z "[Ljava/lang/Object;" mir)  :
  MetFree l Y28 (head1 (Jvm.Cond.code Y28 jdk_65_method_120_code 4 (some (.array (.object s_2))) :: ws) (rr 1 1 4 18)) (fun a U => a = #[.ref x0, .int i_4, (.ref (mir))] ∧ Z.Warmed39 U.vm ∧ U.heap = h0) (fun _ _ _ _ _ => True) (fun _ U o U' => ∃ v L, o = .returned v ∧ Q_rm_c34 Z x0 mir ka h0 n0 v U'.heap L ∧ FrameEnd U o U' L (rr 1 1 4 18).cells (rr 1 1 4 18).slots) := by
 refine MetFree.of_bodySF (plainFor_of_name own_pn3) hisR ?_
 intro p e s m args below meth c s₁ Bd hml0 hP hK
 obtain ⟨rfl, hZ, hh⟩ := hP
 have hx := Bd.exec
 have hby := Bd.bytes
 have hml : c.maxLocals = 4 := hml0
 have hown : s.vm.findClass "java/util/Arrays" = some m.cls := findClass_of_methodNamed Bd.named
 have hnm := (name_of_methodNamed Bd.named Bd.method).1
 have X0 : Stand p l e (rr 1 1 4 18) s m #[.ref x0, .int i_4, (.ref (mir))] below meth c s₁ [] 0 0 := Stand.of_body Bd
 have e0 : s₁.heap = h0 := by rw [← hh, Bd.state]; rfl
 show own_G _ _ _ _ (s₁.setTop (entryFrame m #[.ref x0, .int i_4, (.ref (mir))] 4))
 refine goo (fun _ k => castTop (ef_30_RIR m x0 i_4 (mir)) k) ?_
 have N0 := Fr.nil n0
 have KP0 := Keep.refl h0 []
 refine goo (fun _ k => XS.aloadN X0.here hx rfl (hb hby d30_0) rfl rfl k) ?_
 obtain ⟨T'0, X'0, e'0, st'0⟩ := own_ldcC X0 hx hZ hown (qw hw 183 rfl) p2_ e0 (g := (mkF m 1 #[rv x0, iv i_4, rv mir, .unset] [.ref mir])) rfl (hb hby d30_1)
 refine goo st'0 ?_
 refine goo (fun _ k => Jvm.RoadKit.acmp (g := (mkF m 3 #[rv x0, iv i_4, rv mir, .unset] [.ref mir, .ref mir])) X'0 hx rfl rfl rfl (pc0 := 3) (pc' := 6) (same := true) rfl (hb hby d30_3) rfl (decide_eq_true rfl) (by decide) (by decide) k) ?_
 refine goo (fun _ k => XS.iloadN X'0.here hx rfl (hb hby d30_6) rfl k) ?_
 obtain ⟨T'1, h'1, k'1, X'1, e'1, E'1, A'1, I1440, O1440, st'1⟩ := newRE X'0 hx hZ hown (qw hw 184 rfl) (qw hw 90 rfl) e'0 (g := (mkF m 7 #[rv x0, iv i_4, rv mir, .unset] [.int i_4])) rfl (hb hby d30_7) rfl (by decide) (cap := 4) (by decide) (by decide) (by decide) (by decide) (ad := "[Ljava/lang/Object;") (by decide)
 obtain ⟨b'1, g'1⟩ : ∃ z, z = h0.size := ⟨_, rfl⟩
 rw [← g'1] at A'1 I1440 st'1
 have sz_1443 : h0.size ≤ b'1 := Nat.le_trans KP0.1 (Nat.le_of_eq g'1.symm)
 have V_2 := p1_.ext E'1
 have KP_3 : Keep h0 h'1 [] := KP0.ext E'1
 have V1440 : Arv Z h'1 b'1 k'1 (.object s_2) i_4 [.null, .null, .null, .null] .null := (Arv.new A'1 (by decide)).pad (pad_rep [] .null 4)
 refine goo st'1 ?_
 show own_G _ _ _ _ (T'1.setTop (mkF m 10 #[rv x0, iv i_4, rv mir, .unset] [.ref b'1]))
 refine goo (fun _ k => XS.goto X'1.here hx rfl (pc0 := 10) (pc' := 24) rfl (hb hby d30_10) (by decide) (by decide) <| XS.astoreN X'1.here hx rfl (hb hby d30_24) rfl rfl (l' := #[rv x0, iv i_4, rv mir, rv b'1]) rfl <| XS.aloadN X'1.here hx rfl (hb hby d30_25) rfl rfl <| XS.iconst X'1.here hx rfl (hb hby d30_26) k) ?_
 refine goo (fun _ k => XS.aloadN X'1.here hx rfl (hb hby d30_27) rfl rfl <| XS.iconst X'1.here hx rfl (hb hby d30_28) k) ?_
 show own_G _ _ _ _ (T'1.setTop (mkF m 29 #[rv x0, iv i_4, rv mir, rv b'1] [.int i_0, .ref b'1, .int i_0, .ref x0]))
 refine goo (fun _ k => XS.aloadN X'1.here hx rfl (hb hby d30_29) rfl rfl k) ?_
 obtain ⟨cl1448, Ar1448, -, S1448, N1448, -, -⟩ := id V_2
 refine goo (fun _ k => X'1.arraylength hx (cell := cl1448) (by rw [e'1]; exact Ar1448.1) (State.isArrayOf_alike hZ.alike Ar1448.2.1) (g := (mkF m 30 #[rv x0, iv i_4, rv mir, rv b'1] [.ref x0, .int i_0, .ref b'1, .int i_0, .ref x0])) rfl rfl (hb hby d30_30) _ (by rw [len_of S1448 N1448]; exact k)) ?_
 refine goo (fun _ k => XS.iloadN X'1.here hx rfl (hb hby d30_31) rfl k) ?_
 obtain ⟨T'4, X'4, e'4, st'4⟩ := own_callP X'1 hx hZ (y := Y2) hown (qw hw 185 rfl) (qw hw 186 rfl) (qw hw 66 rfl) (qw hw 187 rfl) (by decide) (W := 4) (rm31_0_4 l Z a0 hw []   h'1 ) (by decide) (by decide) rfl rfl e'1 (g := (mkF m 32 #[rv x0, iv i_4, rv mir, rv b'1] [.int i_4, .int i_0, .int i_0, .ref b'1, .int i_0, .ref x0])) rfl (by rw [hml]; rfl) (argsL := [.int i_0, .int i_4]) (rest := [.int i_0, .ref b'1, .int i_0, .ref x0]) (lenOf own_pd15 rfl) rfl rfl (Nat.le_of_eq rfl) (hb hby d30_32) (by decide) (by decide)
 refine goo st'4 ?_
 obtain ⟨T'5, X'5, e'5, st'5⟩ := own_cp0 X'4 hx hZ hown (qw hw 188 rfl) (qw hw 191 rfl) (qw hw 189 rfl) (qw hw 190 rfl) e'4 V_2 V1440 rfl rfl (g := (mkF m 35 #[rv x0, iv i_4, rv mir, rv b'1] [.int i_0, .int i_0, .ref b'1, .int i_0, .ref x0])) rfl (by rw [hml]; rfl) rfl (hb hby d30_35) (by decide) (W := 0) (Nat.le_of_eq rfl) (by decide)
 refine goo st'5 ?_
 refine goo (fun _ k => XS.aloadN X'5.here hx rfl (hb hby d30_38) rfl rfl k) ?_
 show own_G _ _ _ _ (T'5.setTop (mkF m 39 #[rv x0, iv i_4, rv mir, rv b'1] [.ref b'1]))
 exact own_end X'5 Bd.notSynchronized (v := some (.ref b'1)) (fun h => by rw [Bd.returns] at h; cases h) (Q := Q_rm_c34 Z x0 mir ka h0 n0) (by show Q_rm_c34 Z x0 mir ka h0 n0 (some (.ref b'1)) T'5.heap _; rw [e'5]; exact ⟨b'1, rfl, N0, KP_3, sz_1443, I1440, ⟨k'1, O1440, V1440⟩⟩) (fun fs hr => own_retA X'5 hx Bd.returns rfl rfl (hb hby d30_39) hr) (by decide) (by decide)
def Q_rm_c24 (Z : State) (x0 : Addr) (mir : Addr) (ka : ClassId) (h0 : Heap) (n0 : Nat) (v : Option Value) (h : Heap) (L : List Loc) : Prop := ∃ RET : Addr, v = some (.ref RET) ∧ Fr n0 L ∧ Keep h0 h [] ∧ h0.size ≤ RET ∧ Exa Z h RET "[Ljava/lang/Object;" ∧ ∃ k, Ovr Z k s_2 ∧ Arv Z h RET k (.object s_2) i_4 [.null, .null, .null, .null] .null
theorem own_pd16 : parseMethodDescriptor "([Ljava/lang/Object;ILjava/lang/Class;)[Ljava/lang/Object;" = some ⟨[(.array (.object "java/lang/Object")), .int, (.object "java/lang/Class")], some (.array (.object "java/lang/Object"))⟩ := by decide +kernel
theorem d29_0 : decode jdk_65_method_119_code 0 = .ok (.aload_n 0, 1) := by decide +kernel
theorem d29_1 : decode jdk_65_method_119_code 1 = .ok (.iload_n 1, 1) := by decide +kernel
theorem d29_2 : decode jdk_65_method_119_code 2 = .ok (.aload_n 0, 1) := by decide +kernel
theorem d29_3 : decode jdk_65_method_119_code 3 = .ok (.invokevirtual 86, 3) := by decide +kernel
theorem d29_6 : decode jdk_65_method_119_code 6 = .ok (.invokestatic 300, 3) := by decide +kernel
theorem d29_9 : decode jdk_65_method_119_code 9 = .ok (.areturn, 1) := by decide +kernel
theorem ef_29_RI (m : MethodId) (x0 : Addr) (x1 : Int32) : entryFrame m #[(.ref x0), (.int x1)] 2 = mkF m 0 #[.val (.ref x0), .val (.int x1)] [] := by
  first | (simp [entryFrame, mkF, argsToLocals, Value.category]; done) | rfl
theorem rm_c24 (l : Launch) (Z : State) (a0 : Array Value) (hw : own_HW a0 Z) (ws : List Jvm.Cond) (x0 : Addr) (mir : Addr) (ka : ClassId) (h0 : Heap) (n0 : Nat) (Z0 : n0 ≤ h0.size) (p0_ : Exa Z h0 x0 "[Ljava/lang/Object;") (p1_ : Arv Z h0 x0 ka (.object s_2) i_0 [] .null) (p2_ : own_Mr Z "[Ljava/lang/Object;" mir)  :
  MetFree l Y29 (head1 (Jvm.Cond.code Y29 jdk_65_method_119_code 2 (some (.array (.object s_2))) :: ws) (rr 2 1 4 33)) (fun a U => a = #[.ref x0, .int i_4] ∧ Z.Warmed39 U.vm ∧ U.heap = h0) (fun _ _ _ _ _ => True) (fun _ U o U' => ∃ v L, o = .returned v ∧ Q_rm_c24 Z x0 mir ka h0 n0 v U'.heap L ∧ FrameEnd U o U' L (rr 2 1 4 33).cells (rr 2 1 4 33).slots) := by
 refine MetFree.of_bodySF (plainFor_of_name own_pn3) hisR ?_
 intro p e s m args below meth c s₁ Bd hml0 hP hK
 obtain ⟨rfl, hZ, hh⟩ := hP
 have hx := Bd.exec
 have hby := Bd.bytes
 have hml : c.maxLocals = 2 := hml0
 have hown : s.vm.findClass "java/util/Arrays" = some m.cls := findClass_of_methodNamed Bd.named
 have hnm := (name_of_methodNamed Bd.named Bd.method).1
 have X0 : Stand p l e (rr 2 1 4 33) s m #[.ref x0, .int i_4] below meth c s₁ [] 0 0 := Stand.of_body Bd
 have e0 : s₁.heap = h0 := by rw [← hh, Bd.state]; rfl
 show own_G _ _ _ _ (s₁.setTop (entryFrame m #[.ref x0, .int i_4] 2))
 refine goo (fun _ k => castTop (ef_29_RI m x0 i_4) k) ?_
 have N0 := Fr.nil n0
 have KP0 := Keep.refl h0 []
 refine goo (fun _ k => XS.aloadN X0.here hx rfl (hb hby d29_0) rfl rfl <| XS.iloadN X0.here hx rfl (hb hby d29_1) rfl <| XS.aloadN X0.here hx rfl (hb hby d29_2) rfl rfl k) ?_
 obtain ⟨T'0, X'0, e'0, st'0⟩ := own_getC X0 hx hZ hown (qw hw 174 rfl) (qw hw 175 rfl) (qw hw 177 rfl) (qw hw 176 rfl) (qw hw 178 rfl) p2_ e0 p0_ (g := (mkF m 3 #[rv x0, iv i_4] [.ref x0, .int i_4, .ref x0])) rfl (by rw [hml]; rfl) rfl (W := 2) (Nat.le_of_eq rfl) (hb hby d29_3) (by decide) (by decide)
 refine goo st'0 ?_
 obtain ⟨_, _, ⟨T'1, L'1, k'1, n'1⟩, -, X'1, ⟨Lc'1, hQ'1, l'1, y'1, z'1⟩, st'1⟩ := Jvm.LawKit.callS X'0 hx (y := Y28) hown (mvT hZ (qw hw 180 rfl)) (mvT hZ (qw hw 181 rfl)) (mvT hZ (qw hw 87 rfl)) (mvT hZ (qw hw 182 rfl)) (by decide) (backOf (W := 0) (rm_c34 l Z a0 hw [] x0 mir ka h0 n0 Z0 p0_ p1_ p2_) hZ (qw hw 182 rfl) (qw hw 87 rfl) (by decide) (by decide)) (g := (mkF m 6 #[rv x0, iv i_4] [.ref mir, .int i_4, .ref x0])) rfl (by rw [hml]; rfl) (argsL := [.ref x0, .int i_4, .ref mir]) (rest := []) (lenOf own_pd16 rfl) rfl (Nat.le_of_eq rfl) (hb hby d29_6) (fun _ _ => ⟨rfl, e'0, (by decide : 0 + 1 ≤ _), (by decide : 0 + 4 ≤ _)⟩)
 dsimp only [Pt.U, Pt.locs, Pt.cells, Pt.slots] at X'1 l'1 y'1 z'1 st'1 hQ'1
 subst l'1 y'1 z'1
 obtain ⟨b'1, rfl, Nq'1, K'1, gz'1, G_2, qx'1⟩ := hQ'1
 have sz_1456 : h0.size ≤ b'1 := Nat.le_trans KP0.1 gz'1
 obtain ⟨kr1452, Or1452, Vr1452⟩ := qx'1
 have KP_3 : Keep h0 T'1.heap [] := KP0.trans K'1 all0
 have N_1 := Fr.app N0 Nq'1
 refine goo (fun _ k => st'1 _ k) ?_
 show own_G _ _ _ _ (T'1.setTop (mkF m 9 #[rv x0, iv i_4] [.ref b'1]))
 exact own_end X'1 Bd.notSynchronized (v := some (.ref b'1)) (fun h => by rw [Bd.returns] at h; cases h) (Q := Q_rm_c24 Z x0 mir ka h0 n0) (by show Q_rm_c24 Z x0 mir ka h0 n0 (some (.ref b'1)) T'1.heap _; exact ⟨b'1, rfl, N_1, KP_3, sz_1456, G_2, ⟨kr1452, Or1452, Vr1452⟩⟩) (fun fs hr => own_retA X'1 hx Bd.returns rfl rfl (hb hby d29_9) hr) (by decide) (by decide)
def Q_rm_c38 (Z : State) (x0 : Addr) (mir : Addr) (ka : ClassId) (b0 b1 b2 b3 : Bool) (vo : Addr) (h0 : Heap) (n0 : Nat) (v : Option Value) (h : Heap) (L : List Loc) : Prop := ∃ RET : Addr, v = some (.ref RET) ∧ Fr n0 L ∧ Keep h0 h [] ∧ h0.size ≤ RET ∧ Exa Z h RET "[Ljava/lang/Object;" ∧ ∃ k, Ovr Z k s_2 ∧ Arv Z h RET k (.object s_2) i_8 [(own_en b0 vo), (own_en b1 vo), (own_en b2 vo), (own_en b3 vo), .null, .null, .null, .null] .null
theorem rm_c38 (l : Launch) (Z : State) (a0 : Array Value) (hw : own_HW a0 Z) (ws : List Jvm.Cond) (x0 : Addr) (mir : Addr) (ka : ClassId) (b0 b1 b2 b3 : Bool) (vo : Addr) (h0 : Heap) (n0 : Nat) (Z0 : n0 ≤ h0.size) (p0_ : Exa Z h0 x0 "[Ljava/lang/Object;") (p1_ : Arv Z h0 x0 ka (.object s_2) i_4 [(own_en b0 vo), (own_en b1 vo), (own_en b2 vo), (own_en b3 vo)] .null) (p2_ : own_Mr Z "[Ljava/lang/Object;" mir) (p3_ : Exa Z h0 vo s_3)  :
  MetFree l Y28 (head1 (Jvm.Cond.code Y28 jdk_65_method_120_code 4 (some (.array (.object s_2))) :: ws) (rr 1 1 8 18)) (fun a U => a = #[.ref x0, .int i_8, (.ref (mir))] ∧ Z.Warmed39 U.vm ∧ U.heap = h0) (fun _ _ _ _ _ => True) (fun _ U o U' => ∃ v L, o = .returned v ∧ Q_rm_c38 Z x0 mir ka b0 b1 b2 b3 vo h0 n0 v U'.heap L ∧ FrameEnd U o U' L (rr 1 1 8 18).cells (rr 1 1 8 18).slots) := by
 refine MetFree.of_bodySF (plainFor_of_name own_pn3) hisR ?_
 intro p e s m args below meth c s₁ Bd hml0 hP hK
 obtain ⟨rfl, hZ, hh⟩ := hP
 have hx := Bd.exec
 have hby := Bd.bytes
 have hml : c.maxLocals = 4 := hml0
 have hown : s.vm.findClass "java/util/Arrays" = some m.cls := findClass_of_methodNamed Bd.named
 have hnm := (name_of_methodNamed Bd.named Bd.method).1
 have X0 : Stand p l e (rr 1 1 8 18) s m #[.ref x0, .int i_8, (.ref (mir))] below meth c s₁ [] 0 0 := Stand.of_body Bd
 have e0 : s₁.heap = h0 := by rw [← hh, Bd.state]; rfl
 show own_G _ _ _ _ (s₁.setTop (entryFrame m #[.ref x0, .int i_8, (.ref (mir))] 4))
 refine goo (fun _ k => castTop (ef_30_RIR m x0 i_8 (mir)) k) ?_
 have N0 := Fr.nil n0
 have KP0 := Keep.refl h0 []
 refine goo (fun _ k => XS.aloadN X0.here hx rfl (hb hby d30_0) rfl rfl k) ?_
 obtain ⟨T'0, X'0, e'0, st'0⟩ := own_ldcC X0 hx hZ hown (qw hw 183 rfl) p2_ e0 (g := (mkF m 1 #[rv x0, iv i_8, rv mir, .unset] [.ref mir])) rfl (hb hby d30_1)
 refine goo st'0 ?_
 refine goo (fun _ k => Jvm.RoadKit.acmp (g := (mkF m 3 #[rv x0, iv i_8, rv mir, .unset] [.ref mir, .ref mir])) X'0 hx rfl rfl rfl (pc0 := 3) (pc' := 6) (same := true) rfl (hb hby d30_3) rfl (decide_eq_true rfl) (by decide) (by decide) k) ?_
 refine goo (fun _ k => XS.iloadN X'0.here hx rfl (hb hby d30_6) rfl k) ?_
 obtain ⟨T'1, h'1, k'1, X'1, e'1, E'1, A'1, I1462, O1462, st'1⟩ := newRE X'0 hx hZ hown (qw hw 184 rfl) (qw hw 90 rfl) e'0 (g := (mkF m 7 #[rv x0, iv i_8, rv mir, .unset] [.int i_8])) rfl (hb hby d30_7) rfl (by decide) (cap := 8) (by decide) (by decide) (by decide) (by decide) (ad := "[Ljava/lang/Object;") (by decide)
 obtain ⟨b'1, g'1⟩ : ∃ z, z = h0.size := ⟨_, rfl⟩
 rw [← g'1] at A'1 I1462 st'1
 have ge_2 : n0 ≤ b'1 := Nat.le_trans Z0 (Nat.le_of_eq g'1.symm)
 have sz_1466 : h0.size ≤ b'1 := Nat.le_trans KP0.1 (Nat.le_of_eq g'1.symm)
 have V_3 := p1_.ext E'1
 have X_4 := p3_.ext E'1
 have KP_5 : Keep h0 h'1 [] := KP0.ext E'1
 have V1462 : Arv Z h'1 b'1 k'1 (.object s_2) i_8 [.null, .null, .null, .null, .null, .null, .null, .null] .null := (Arv.new A'1 (by decide)).pad (pad_rep [] .null 8)
 refine goo st'1 ?_
 show own_G _ _ _ _ (T'1.setTop (mkF m 10 #[rv x0, iv i_8, rv mir, .unset] [.ref b'1]))
 refine goo (fun _ k => XS.goto X'1.here hx rfl (pc0 := 10) (pc' := 24) rfl (hb hby d30_10) (by decide) (by decide) <| XS.astoreN X'1.here hx rfl (hb hby d30_24) rfl rfl (l' := #[rv x0, iv i_8, rv mir, rv b'1]) rfl <| XS.aloadN X'1.here hx rfl (hb hby d30_25) rfl rfl <| XS.iconst X'1.here hx rfl (hb hby d30_26) k) ?_
 refine goo (fun _ k => XS.aloadN X'1.here hx rfl (hb hby d30_27) rfl rfl <| XS.iconst X'1.here hx rfl (hb hby d30_28) k) ?_
 show own_G _ _ _ _ (T'1.setTop (mkF m 29 #[rv x0, iv i_8, rv mir, rv b'1] [.int i_0, .ref b'1, .int i_0, .ref x0]))
 refine goo (fun _ k => XS.aloadN X'1.here hx rfl (hb hby d30_29) rfl rfl k) ?_
 obtain ⟨cl1472, Ar1472, -, S1472, N1472, -, -⟩ := id V_3
 refine goo (fun _ k => X'1.arraylength hx (cell := cl1472) (by rw [e'1]; exact Ar1472.1) (State.isArrayOf_alike hZ.alike Ar1472.2.1) (g := (mkF m 30 #[rv x0, iv i_8, rv mir, rv b'1] [.ref x0, .int i_0, .ref b'1, .int i_0, .ref x0])) rfl rfl (hb hby d30_30) _ (by rw [len_of S1472 N1472]; exact k)) ?_
 refine goo (fun _ k => XS.iloadN X'1.here hx rfl (hb hby d30_31) rfl k) ?_
 obtain ⟨T'6, X'6, e'6, st'6⟩ := own_callP X'1 hx hZ (y := Y2) hown (qw hw 185 rfl) (qw hw 186 rfl) (qw hw 66 rfl) (qw hw 187 rfl) (by decide) (W := 4) (rm31_4_8 l Z a0 hw []   h'1 ) (by decide) (by decide) rfl rfl e'1 (g := (mkF m 32 #[rv x0, iv i_8, rv mir, rv b'1] [.int i_8, .int i_4, .int i_0, .ref b'1, .int i_0, .ref x0])) rfl (by rw [hml]; rfl) (argsL := [.int i_4, .int i_8]) (rest := [.int i_0, .ref b'1, .int i_0, .ref x0]) (lenOf own_pd15 rfl) rfl rfl (Nat.le_of_eq rfl) (hb hby d30_32) (by decide) (by decide)
 refine goo st'6 ?_
 obtain ⟨T'7, h'7, L'7, X'7, e'7, Nq'7, K'7, V1474, st'7⟩ := cpA X'6 hx hZ hown (qw hw 188 rfl) (qw hw 191 rfl) (qw hw 189 rfl) (qw hw 190 rfl) e'6 V_3 V1462 (us := [(own_en b0 vo), (own_en b1 vo), (own_en b2 vo), (own_en b3 vo)]) (Or.inr ⟨rfl, rfl, ⟨(own_en_s ((fun ⟨_, A_, q_, _⟩ => Sto.ofV A_ q_ O1462 (Ins.of_exa X_4 (qw hw 141 rfl))) V1462) b0), ⟨(own_en_s ((fun ⟨_, A_, q_, _⟩ => Sto.ofV A_ q_ O1462 (Ins.of_exa X_4 (qw hw 141 rfl))) V1462) b1), ⟨(own_en_s ((fun ⟨_, A_, q_, _⟩ => Sto.ofV A_ q_ O1462 (Ins.of_exa X_4 (qw hw 141 rfl))) V1462) b2), ⟨(own_en_s ((fun ⟨_, A_, q_, _⟩ => Sto.ofV A_ q_ O1462 (Ins.of_exa X_4 (qw hw 141 rfl))) V1462) b3), trivial⟩⟩⟩⟩⟩) (by decide) (by decide) (by decide) (by decide) (by decide) rfl (by decide) N0 ge_2 (g := (mkF m 35 #[rv x0, iv i_8, rv mir, rv b'1] [.int i_4, .int i_0, .ref b'1, .int i_0, .ref x0])) rfl (by rw [hml]; rfl) rfl (hb hby d30_35) (by decide) (W := 0) (Nat.le_of_eq rfl) (by decide)
 have X_8 := I1462.keep K'7
 have KP_9 : Keep h0 h'7 [] := KP_5.trans K'7 (allS (Or.inr sz_1466) all0)
 have V_7 : Arv Z h'7 b'1 k'1 (.object s_2) i_8 [(own_en b0 vo), (own_en b1 vo), (own_en b2 vo), (own_en b3 vo), .null, .null, .null, .null] .null := V1474
 refine goo st'7 ?_
 refine goo (fun _ k => XS.aloadN X'7.here hx rfl (hb hby d30_38) rfl rfl k) ?_
 show own_G _ _ _ _ (T'7.setTop (mkF m 39 #[rv x0, iv i_8, rv mir, rv b'1] [.ref b'1]))
 exact own_end X'7 Bd.notSynchronized (v := some (.ref b'1)) (fun h => by rw [Bd.returns] at h; cases h) (Q := Q_rm_c38 Z x0 mir ka b0 b1 b2 b3 vo h0 n0) (by show Q_rm_c38 Z x0 mir ka b0 b1 b2 b3 vo h0 n0 (some (.ref b'1)) T'7.heap _; rw [e'7]; exact ⟨b'1, rfl, Nq'7, KP_9, sz_1466, X_8, ⟨k'1, O1462, V_7⟩⟩) (fun fs hr => own_retA X'7 hx Bd.returns rfl rfl (hb hby d30_39) hr) (by decide) (by decide)
def Q_rm_c28 (Z : State) (x0 : Addr) (mir : Addr) (ka : ClassId) (b0 b1 b2 b3 : Bool) (vo : Addr) (h0 : Heap) (n0 : Nat) (v : Option Value) (h : Heap) (L : List Loc) : Prop := ∃ RET : Addr, v = some (.ref RET) ∧ Fr n0 L ∧ Keep h0 h [] ∧ h0.size ≤ RET ∧ Exa Z h RET "[Ljava/lang/Object;" ∧ ∃ k, Ovr Z k s_2 ∧ Arv Z h RET k (.object s_2) i_8 [(own_en b0 vo), (own_en b1 vo), (own_en b2 vo), (own_en b3 vo), .null, .null, .null, .null] .null
theorem rm_c28 (l : Launch) (Z : State) (a0 : Array Value) (hw : own_HW a0 Z) (ws : List Jvm.Cond) (x0 : Addr) (mir : Addr) (ka : ClassId) (b0 b1 b2 b3 : Bool) (vo : Addr) (h0 : Heap) (n0 : Nat) (Z0 : n0 ≤ h0.size) (p0_ : Exa Z h0 x0 "[Ljava/lang/Object;") (p1_ : Arv Z h0 x0 ka (.object s_2) i_4 [(own_en b0 vo), (own_en b1 vo), (own_en b2 vo), (own_en b3 vo)] .null) (p2_ : own_Mr Z "[Ljava/lang/Object;" mir) (p3_ : Exa Z h0 vo s_3)  :
  MetFree l Y29 (head1 (Jvm.Cond.code Y29 jdk_65_method_119_code 2 (some (.array (.object s_2))) :: ws) (rr 2 1 8 33)) (fun a U => a = #[.ref x0, .int i_8] ∧ Z.Warmed39 U.vm ∧ U.heap = h0) (fun _ _ _ _ _ => True) (fun _ U o U' => ∃ v L, o = .returned v ∧ Q_rm_c28 Z x0 mir ka b0 b1 b2 b3 vo h0 n0 v U'.heap L ∧ FrameEnd U o U' L (rr 2 1 8 33).cells (rr 2 1 8 33).slots) := by
 refine MetFree.of_bodySF (plainFor_of_name own_pn3) hisR ?_
 intro p e s m args below meth c s₁ Bd hml0 hP hK
 obtain ⟨rfl, hZ, hh⟩ := hP
 have hx := Bd.exec
 have hby := Bd.bytes
 have hml : c.maxLocals = 2 := hml0
 have hown : s.vm.findClass "java/util/Arrays" = some m.cls := findClass_of_methodNamed Bd.named
 have hnm := (name_of_methodNamed Bd.named Bd.method).1
 have X0 : Stand p l e (rr 2 1 8 33) s m #[.ref x0, .int i_8] below meth c s₁ [] 0 0 := Stand.of_body Bd
 have e0 : s₁.heap = h0 := by rw [← hh, Bd.state]; rfl
 show own_G _ _ _ _ (s₁.setTop (entryFrame m #[.ref x0, .int i_8] 2))
 refine goo (fun _ k => castTop (ef_29_RI m x0 i_8) k) ?_
 have N0 := Fr.nil n0
 have KP0 := Keep.refl h0 []
 refine goo (fun _ k => XS.aloadN X0.here hx rfl (hb hby d29_0) rfl rfl <| XS.iloadN X0.here hx rfl (hb hby d29_1) rfl <| XS.aloadN X0.here hx rfl (hb hby d29_2) rfl rfl k) ?_
 obtain ⟨T'0, X'0, e'0, st'0⟩ := own_getC X0 hx hZ hown (qw hw 174 rfl) (qw hw 175 rfl) (qw hw 177 rfl) (qw hw 176 rfl) (qw hw 178 rfl) p2_ e0 p0_ (g := (mkF m 3 #[rv x0, iv i_8] [.ref x0, .int i_8, .ref x0])) rfl (by rw [hml]; rfl) rfl (W := 2) (Nat.le_of_eq rfl) (hb hby d29_3) (by decide) (by decide)
 refine goo st'0 ?_
 obtain ⟨_, _, ⟨T'1, L'1, k'1, n'1⟩, -, X'1, ⟨Lc'1, hQ'1, l'1, y'1, z'1⟩, st'1⟩ := Jvm.LawKit.callS X'0 hx (y := Y28) hown (mvT hZ (qw hw 180 rfl)) (mvT hZ (qw hw 181 rfl)) (mvT hZ (qw hw 87 rfl)) (mvT hZ (qw hw 182 rfl)) (by decide) (backOf (W := 0) (rm_c38 l Z a0 hw [] x0 mir ka b0 b1 b2 b3 vo h0 n0 Z0 p0_ p1_ p2_ p3_) hZ (qw hw 182 rfl) (qw hw 87 rfl) (by decide) (by decide)) (g := (mkF m 6 #[rv x0, iv i_8] [.ref mir, .int i_8, .ref x0])) rfl (by rw [hml]; rfl) (argsL := [.ref x0, .int i_8, .ref mir]) (rest := []) (lenOf own_pd16 rfl) rfl (Nat.le_of_eq rfl) (hb hby d29_6) (fun _ _ => ⟨rfl, e'0, (by decide : 0 + 1 ≤ _), (by decide : 0 + 8 ≤ _)⟩)
 dsimp only [Pt.U, Pt.locs, Pt.cells, Pt.slots] at X'1 l'1 y'1 z'1 st'1 hQ'1
 subst l'1 y'1 z'1
 obtain ⟨b'1, rfl, Nq'1, K'1, gz'1, G_2, qx'1⟩ := hQ'1
 have sz_1487 : h0.size ≤ b'1 := Nat.le_trans KP0.1 gz'1
 obtain ⟨kr1482, Or1482, Vr1482⟩ := qx'1
 have KP_3 : Keep h0 T'1.heap [] := KP0.trans K'1 all0
 have N_1 := Fr.app N0 Nq'1
 refine goo (fun _ k => st'1 _ k) ?_
 show own_G _ _ _ _ (T'1.setTop (mkF m 9 #[rv x0, iv i_8] [.ref b'1]))
 exact own_end X'1 Bd.notSynchronized (v := some (.ref b'1)) (fun h => by rw [Bd.returns] at h; cases h) (Q := Q_rm_c28 Z x0 mir ka b0 b1 b2 b3 vo h0 n0) (by show Q_rm_c28 Z x0 mir ka b0 b1 b2 b3 vo h0 n0 (some (.ref b'1)) T'1.heap _; exact ⟨b'1, rfl, N_1, KP_3, sz_1487, G_2, ⟨kr1482, Or1482, Vr1482⟩⟩) (fun fs hr => own_retA X'1 hx Bd.returns rfl rfl (hb hby d29_9) hr) (by decide) (by decide)
def Q_rm_mrE (Z : State) (x0 : Addr) (ar mir : Addr) (ka : ClassId) (h0 : Heap) (n0 : Nat) (v : Option Value) (h : Heap) (L : List Loc) : Prop := v = some (.int i_1) ∧ Fr n0 L ∧ Keep h0 h [x0] ∧ Exa Z h x0 s_1 ∧ Fld Z h x0 s_1 "arrayCount" "I" (.int i_0) ∧ Fld Z h x0 s_1 "holes" "Z" (.int i_0) ∧ Fld Z h x0 s_1 "hash" "Lcom/example/plainsong/plainsong/engine/HashPart;" .null ∧ ∃ ra k, h0.size ≤ ra ∧ Fld Z h x0 s_1 "array" "[Ljava/lang/Object;" (.ref ra) ∧ Exa Z h ra "[Ljava/lang/Object;" ∧ Ovr Z k s_2 ∧ Arv Z h ra k (.object s_2) i_4 [.null, .null, .null, .null] .null
theorem own_pd17 : parseMethodDescriptor "([Ljava/lang/Object;I)[Ljava/lang/Object;" = some ⟨[(.array (.object "java/lang/Object")), .int], some (.array (.object "java/lang/Object"))⟩ := by decide +kernel
theorem d26_0 : decode prog_60_method_15_code 0 = .ok (.aload_n 0, 1) := by decide +kernel
theorem d26_1 : decode prog_60_method_15_code 1 = .ok (.getfield 55, 3) := by decide +kernel
theorem d26_4 : decode prog_60_method_15_code 4 = .ok (.istore_n 1, 1) := by decide +kernel
theorem d26_5 : decode prog_60_method_15_code 5 = .ok (.aload_n 0, 1) := by decide +kernel
theorem d26_6 : decode prog_60_method_15_code 6 = .ok (.getfield 55, 3) := by decide +kernel
theorem d26_9 : decode prog_60_method_15_code 9 = .ok (.istore_n 2, 1) := by decide +kernel
theorem d26_10 : decode prog_60_method_15_code 10 = .ok (.aload_n 0, 1) := by decide +kernel
theorem d26_11 : decode prog_60_method_15_code 11 = .ok (.getfield 55, 3) := by decide +kernel
theorem d26_14 : decode prog_60_method_15_code 14 = .ok (.istore_n 3, 1) := by decide +kernel
theorem d26_15 : decode prog_60_method_15_code 15 = .ok (.aload_n 0, 1) := by decide +kernel
theorem d26_16 : decode prog_60_method_15_code 16 = .ok (.getfield 95, 3) := by decide +kernel
theorem d26_19 : decode prog_60_method_15_code 19 = .ok (.ifCond .eq 79, 3) := by decide +kernel
theorem d26_22 : decode prog_60_method_15_code 22 = .ok (.iconst 0, 1) := by decide +kernel
theorem d26_23 : decode prog_60_method_15_code 23 = .ok (.istore_n 1, 1) := by decide +kernel
theorem d26_24 : decode prog_60_method_15_code 24 = .ok (.iconst 0, 1) := by decide +kernel
theorem d26_25 : decode prog_60_method_15_code 25 = .ok (.istore_n 2, 1) := by decide +kernel
theorem d26_26 : decode prog_60_method_15_code 26 = .ok (.iconst 0, 1) := by decide +kernel
theorem d26_27 : decode prog_60_method_15_code 27 = .ok (.istore_n 3, 1) := by decide +kernel
theorem d26_28 : decode prog_60_method_15_code 28 = .ok (.iconst 0, 1) := by decide +kernel
theorem d26_29 : decode prog_60_method_15_code 29 = .ok (.istore 4, 2) := by decide +kernel
theorem d26_31 : decode prog_60_method_15_code 31 = .ok (.iload 4, 2) := by decide +kernel
theorem d26_33 : decode prog_60_method_15_code 33 = .ok (.aload_n 0, 1) := by decide +kernel
theorem d26_34 : decode prog_60_method_15_code 34 = .ok (.getfield 55, 3) := by decide +kernel
theorem d26_37 : decode prog_60_method_15_code 37 = .ok (.if_icmp .ge 44, 3) := by decide +kernel
theorem d26_40 : decode prog_60_method_15_code 40 = .ok (.aload_n 0, 1) := by decide +kernel
theorem d26_41 : decode prog_60_method_15_code 41 = .ok (.getfield 15, 3) := by decide +kernel
theorem d26_44 : decode prog_60_method_15_code 44 = .ok (.iload 4, 2) := by decide +kernel
theorem d26_46 : decode prog_60_method_15_code 46 = .ok (.aaload, 1) := by decide +kernel
theorem d26_47 : decode prog_60_method_15_code 47 = .ok (.ifnull 28, 3) := by decide +kernel
theorem d26_50 : decode prog_60_method_15_code 50 = .ok (.iinc 1 1, 3) := by decide +kernel
theorem d26_53 : decode prog_60_method_15_code 53 = .ok (.iload_n 1, 1) := by decide +kernel
theorem d26_54 : decode prog_60_method_15_code 54 = .ok (.i2l, 1) := by decide +kernel
theorem d26_55 : decode prog_60_method_15_code 55 = .ok (.ldc2_w 145, 3) := by decide +kernel
theorem d26_58 : decode prog_60_method_15_code 58 = .ok (.lmul, 1) := by decide +kernel
theorem d26_59 : decode prog_60_method_15_code 59 = .ok (.iload 4, 2) := by decide +kernel
theorem d26_61 : decode prog_60_method_15_code 61 = .ok (.iconst 1, 1) := by decide +kernel
theorem d26_62 : decode prog_60_method_15_code 62 = .ok (.iadd, 1) := by decide +kernel
theorem d26_63 : decode prog_60_method_15_code 63 = .ok (.i2l, 1) := by decide +kernel
theorem d26_64 : decode prog_60_method_15_code 64 = .ok (.lcmp, 1) := by decide +kernel
theorem d26_65 : decode prog_60_method_15_code 65 = .ok (.ifCond .le 10, 3) := by decide +kernel
theorem d26_68 : decode prog_60_method_15_code 68 = .ok (.iload 4, 2) := by decide +kernel
theorem d26_70 : decode prog_60_method_15_code 70 = .ok (.iconst 1, 1) := by decide +kernel
theorem d26_71 : decode prog_60_method_15_code 71 = .ok (.iadd, 1) := by decide +kernel
theorem d26_72 : decode prog_60_method_15_code 72 = .ok (.istore_n 2, 1) := by decide +kernel
theorem d26_73 : decode prog_60_method_15_code 73 = .ok (.iload_n 1, 1) := by decide +kernel
theorem d26_74 : decode prog_60_method_15_code 74 = .ok (.istore_n 3, 1) := by decide +kernel
theorem d26_75 : decode prog_60_method_15_code 75 = .ok (.iinc 4 1, 3) := by decide +kernel
theorem d26_78 : decode prog_60_method_15_code 78 = .ok (.goto (-47), 3) := by decide +kernel
theorem d26_81 : decode prog_60_method_15_code 81 = .ok (.aload_n 0, 1) := by decide +kernel
theorem d26_82 : decode prog_60_method_15_code 82 = .ok (.iload_n 1, 1) := by decide +kernel
theorem d26_83 : decode prog_60_method_15_code 83 = .ok (.aload_n 0, 1) := by decide +kernel
theorem d26_84 : decode prog_60_method_15_code 84 = .ok (.getfield 55, 3) := by decide +kernel
theorem d26_87 : decode prog_60_method_15_code 87 = .ok (.if_icmp .ge 7, 3) := by decide +kernel
theorem d26_90 : decode prog_60_method_15_code 90 = .ok (.iconst 1, 1) := by decide +kernel
theorem d26_91 : decode prog_60_method_15_code 91 = .ok (.goto 4, 3) := by decide +kernel
theorem d26_95 : decode prog_60_method_15_code 95 = .ok (.putfield 95, 3) := by decide +kernel
theorem d26_98 : decode prog_60_method_15_code 98 = .ok (.iload_n 1, 1) := by decide +kernel
theorem d26_99 : decode prog_60_method_15_code 99 = .ok (.i2l, 1) := by decide +kernel
theorem d26_100 : decode prog_60_method_15_code 100 = .ok (.ldc2_w 145, 3) := by decide +kernel
theorem d26_103 : decode prog_60_method_15_code 103 = .ok (.lmul, 1) := by decide +kernel
theorem d26_104 : decode prog_60_method_15_code 104 = .ok (.aload_n 0, 1) := by decide +kernel
theorem d26_105 : decode prog_60_method_15_code 105 = .ok (.getfield 55, 3) := by decide +kernel
theorem d26_108 : decode prog_60_method_15_code 108 = .ok (.i2l, 1) := by decide +kernel
theorem d26_109 : decode prog_60_method_15_code 109 = .ok (.lcmp, 1) := by decide +kernel
theorem d26_110 : decode prog_60_method_15_code 110 = .ok (.ifCond .lt 29, 3) := by decide +kernel
theorem d26_113 : decode prog_60_method_15_code 113 = .ok (.aload_n 0, 1) := by decide +kernel
theorem d26_114 : decode prog_60_method_15_code 114 = .ok (.aload_n 0, 1) := by decide +kernel
theorem d26_115 : decode prog_60_method_15_code 115 = .ok (.getfield 15, 3) := by decide +kernel
theorem d26_118 : decode prog_60_method_15_code 118 = .ok (.aload_n 0, 1) := by decide +kernel
theorem d26_119 : decode prog_60_method_15_code 119 = .ok (.getfield 15, 3) := by decide +kernel
theorem d26_122 : decode prog_60_method_15_code 122 = .ok (.arraylength, 1) := by decide +kernel
theorem d26_123 : decode prog_60_method_15_code 123 = .ok (.i2l, 1) := by decide +kernel
theorem d26_124 : decode prog_60_method_15_code 124 = .ok (.ldc2_w 145, 3) := by decide +kernel
theorem d26_127 : decode prog_60_method_15_code 127 = .ok (.lmul, 1) := by decide +kernel
theorem d26_128 : decode prog_60_method_15_code 128 = .ok (.invokestatic 147, 3) := by decide +kernel
theorem d26_131 : decode prog_60_method_15_code 131 = .ok (.invokestatic 151, 3) := by decide +kernel
theorem d26_134 : decode prog_60_method_15_code 134 = .ok (.putfield 15, 3) := by decide +kernel
theorem d26_137 : decode prog_60_method_15_code 137 = .ok (.iconst 1, 1) := by decide +kernel
theorem d26_138 : decode prog_60_method_15_code 138 = .ok (.ireturn, 1) := by decide +kernel
theorem d26_139 : decode prog_60_method_15_code 139 = .ok (.aload_n 0, 1) := by decide +kernel
theorem d26_140 : decode prog_60_method_15_code 140 = .ok (.getfield 23, 3) := by decide +kernel
theorem d26_143 : decode prog_60_method_15_code 143 = .ok (.ifnonnull 17, 3) := by decide +kernel
theorem d26_146 : decode prog_60_method_15_code 146 = .ok (.aload_n 0, 1) := by decide +kernel
theorem d26_147 : decode prog_60_method_15_code 147 = .ok (.new 18, 3) := by decide +kernel
theorem d26_150 : decode prog_60_method_15_code 150 = .ok (.dup, 1) := by decide +kernel
theorem d26_151 : decode prog_60_method_15_code 151 = .ok (.iload_n 1, 1) := by decide +kernel
theorem d26_152 : decode prog_60_method_15_code 152 = .ok (.iload_n 3, 1) := by decide +kernel
theorem d26_153 : decode prog_60_method_15_code 153 = .ok (.isub, 1) := by decide +kernel
theorem d26_154 : decode prog_60_method_15_code 154 = .ok (.invokespecial 20, 3) := by decide +kernel
theorem d26_157 : decode prog_60_method_15_code 157 = .ok (.putfield 23, 3) := by decide +kernel
theorem d26_160 : decode prog_60_method_15_code 160 = .ok (.iload_n 2, 1) := by decide +kernel
theorem d26_161 : decode prog_60_method_15_code 161 = .ok (.istore 4, 2) := by decide +kernel
theorem d26_163 : decode prog_60_method_15_code 163 = .ok (.iload 4, 2) := by decide +kernel
theorem d26_165 : decode prog_60_method_15_code 165 = .ok (.aload_n 0, 1) := by decide +kernel
theorem d26_166 : decode prog_60_method_15_code 166 = .ok (.getfield 55, 3) := by decide +kernel
theorem d26_169 : decode prog_60_method_15_code 169 = .ok (.if_icmp .ge 41, 3) := by decide +kernel
theorem d26_172 : decode prog_60_method_15_code 172 = .ok (.aload_n 0, 1) := by decide +kernel
theorem d26_173 : decode prog_60_method_15_code 173 = .ok (.getfield 15, 3) := by decide +kernel
theorem d26_176 : decode prog_60_method_15_code 176 = .ok (.iload 4, 2) := by decide +kernel
theorem d26_178 : decode prog_60_method_15_code 178 = .ok (.aaload, 1) := by decide +kernel
theorem d26_179 : decode prog_60_method_15_code 179 = .ok (.ifnull 25, 3) := by decide +kernel
theorem d26_182 : decode prog_60_method_15_code 182 = .ok (.aload_n 0, 1) := by decide +kernel
theorem d26_183 : decode prog_60_method_15_code 183 = .ok (.getfield 23, 3) := by decide +kernel
theorem d26_186 : decode prog_60_method_15_code 186 = .ok (.iload 4, 2) := by decide +kernel
theorem d26_188 : decode prog_60_method_15_code 188 = .ok (.i2l, 1) := by decide +kernel
theorem d26_189 : decode prog_60_method_15_code 189 = .ok (.lconst 1, 1) := by decide +kernel
theorem d26_190 : decode prog_60_method_15_code 190 = .ok (.ladd, 1) := by decide +kernel
theorem d26_191 : decode prog_60_method_15_code 191 = .ok (.invokestatic 59, 3) := by decide +kernel
theorem d26_194 : decode prog_60_method_15_code 194 = .ok (.aload_n 0, 1) := by decide +kernel
theorem d26_195 : decode prog_60_method_15_code 195 = .ok (.getfield 15, 3) := by decide +kernel
theorem d26_198 : decode prog_60_method_15_code 198 = .ok (.iload 4, 2) := by decide +kernel
theorem d26_200 : decode prog_60_method_15_code 200 = .ok (.aaload, 1) := by decide +kernel
theorem d26_201 : decode prog_60_method_15_code 201 = .ok (.invokevirtual 157, 3) := by decide +kernel
theorem d26_204 : decode prog_60_method_15_code 204 = .ok (.iinc 4 1, 3) := by decide +kernel
theorem d26_207 : decode prog_60_method_15_code 207 = .ok (.goto (-44), 3) := by decide +kernel
theorem d26_210 : decode prog_60_method_15_code 210 = .ok (.iload_n 2, 1) := by decide +kernel
theorem d26_211 : decode prog_60_method_15_code 211 = .ok (.ifCond .ne 9, 3) := by decide +kernel
theorem d26_214 : decode prog_60_method_15_code 214 = .ok (.getstatic 9, 3) := by decide +kernel
theorem d26_217 : decode prog_60_method_15_code 217 = .ok (.goto 15, 3) := by decide +kernel
theorem d26_232 : decode prog_60_method_15_code 232 = .ok (.astore 4, 2) := by decide +kernel
theorem d26_234 : decode prog_60_method_15_code 234 = .ok (.aload_n 0, 1) := by decide +kernel
theorem d26_235 : decode prog_60_method_15_code 235 = .ok (.getfield 15, 3) := by decide +kernel
theorem d26_238 : decode prog_60_method_15_code 238 = .ok (.iconst 0, 1) := by decide +kernel
theorem d26_239 : decode prog_60_method_15_code 239 = .ok (.aload 4, 2) := by decide +kernel
theorem d26_241 : decode prog_60_method_15_code 241 = .ok (.iconst 0, 1) := by decide +kernel
theorem d26_242 : decode prog_60_method_15_code 242 = .ok (.iload_n 2, 1) := by decide +kernel
theorem d26_243 : decode prog_60_method_15_code 243 = .ok (.invokestatic 159, 3) := by decide +kernel
theorem d26_246 : decode prog_60_method_15_code 246 = .ok (.aload_n 0, 1) := by decide +kernel
theorem d26_247 : decode prog_60_method_15_code 247 = .ok (.aload 4, 2) := by decide +kernel
theorem d26_249 : decode prog_60_method_15_code 249 = .ok (.putfield 15, 3) := by decide +kernel
theorem d26_252 : decode prog_60_method_15_code 252 = .ok (.aload_n 0, 1) := by decide +kernel
theorem d26_253 : decode prog_60_method_15_code 253 = .ok (.iload_n 2, 1) := by decide +kernel
theorem d26_254 : decode prog_60_method_15_code 254 = .ok (.putfield 55, 3) := by decide +kernel
theorem d26_257 : decode prog_60_method_15_code 257 = .ok (.iconst 0, 1) := by decide +kernel
theorem d26_258 : decode prog_60_method_15_code 258 = .ok (.ireturn, 1) := by decide +kernel
theorem ef_26_R (m : MethodId) (x0 : Addr) : entryFrame m #[(.ref x0)] 5 = mkF m 0 #[.val (.ref x0), .unset, .unset, .unset, .unset] [] := by
  first | (simp [entryFrame, mkF, argsToLocals, Value.category]; done) | rfl
theorem rm_mrE (l : Launch) (Z : State) (a0 : Array Value) (hw : own_HW a0 Z) (ws : List Jvm.Cond) (x0 : Addr) (ar mir : Addr) (ka : ClassId) (h0 : Heap) (n0 : Nat) (Z0 : n0 ≤ h0.size) (p0_ : Exa Z h0 x0 s_1) (p1_ : Fld Z h0 x0 s_1 "array" "[Ljava/lang/Object;" (.ref ar)) (p2_ : Fld Z h0 x0 s_1 "arrayCount" "I" (.int i_0)) (p3_ : Fld Z h0 x0 s_1 "holes" "Z" (.int i_0)) (p4_ : Fld Z h0 x0 s_1 "hash" "Lcom/example/plainsong/plainsong/engine/HashPart;" .null) (p5_ : n0 ≤ x0) (p6_ : x0 ≠ ar) (p7_ : Exa Z h0 ar "[Ljava/lang/Object;") (p8_ : Arv Z h0 ar ka (.object s_2) i_0 [] .null) (p9_ : own_Mr Z "[Ljava/lang/Object;" mir)  :
  MetFree l Y30 (head1 (Jvm.Cond.code Y30 prog_60_method_15_code 5 (some .boolean) :: ws) (rr 3 1 4 47)) (fun a U => a = #[.ref x0] ∧ Z.Warmed39 U.vm ∧ U.heap = h0) (fun _ _ _ _ _ => True) (fun _ U o U' => ∃ v L, o = .returned v ∧ Q_rm_mrE Z x0 ar mir ka h0 n0 v U'.heap L ∧ FrameEnd U o U' L (rr 3 1 4 47).cells (rr 3 1 4 47).slots) := by
 refine MetFree.of_bodySF (plainFor_of_name own_pn2) hisR ?_
 intro p e s m args below meth c s₁ Bd hml0 hP hK
 obtain ⟨rfl, hZ, hh⟩ := hP
 have hx := Bd.exec
 have hby := Bd.bytes
 have hml : c.maxLocals = 5 := hml0
 have hown : s.vm.findClass s_1 = some m.cls := findClass_of_methodNamed Bd.named
 have hnm := (name_of_methodNamed Bd.named Bd.method).1
 have X0 : Stand p l e (rr 3 1 4 47) s m #[.ref x0] below meth c s₁ [] 0 0 := Stand.of_body Bd
 have e0 : s₁.heap = h0 := by rw [← hh, Bd.state]; rfl
 show own_G _ _ _ _ (s₁.setTop (entryFrame m #[.ref x0] 5))
 refine goo (fun _ k => castTop (ef_26_R m x0) k) ?_
 have N0 := Fr.nil n0
 have KP0 := Keep.refl h0 [x0]
 refine goo (fun _ k => XS.aloadN X0.here hx rfl (hb hby d26_0) rfl rfl k) ?_
 obtain ⟨T'0, X'0, e'0, st'0⟩ := getF X0 hx hZ hown (host := "") (Or.inl (qw hw 39 rfl)) Via.refl e0 p2_ (g := (mkF m 1 #[rv x0, .unset, .unset, .unset, .unset] [.ref x0])) rfl rfl (hb hby d26_1)
 refine goo st'0 ?_
 refine goo (fun _ k => XS.istoreN X'0.here hx rfl (hb hby d26_4) rfl (l' := #[rv x0, iv i_0, .unset, .unset, .unset]) rfl <| XS.aloadN X'0.here hx rfl (hb hby d26_5) rfl rfl k) ?_
 obtain ⟨T'1, X'1, e'1, st'1⟩ := getF X'0 hx hZ hown (host := "") (Or.inl (qw hw 39 rfl)) Via.refl e'0 p2_ (g := (mkF m 6 #[rv x0, iv i_0, .unset, .unset, .unset] [.ref x0])) rfl rfl (hb hby d26_6)
 refine goo st'1 ?_
 show own_G _ _ _ _ (T'1.setTop (mkF m 9 #[rv x0, iv i_0, .unset, .unset, .unset] [.int i_0]))
 refine goo (fun _ k => XS.istoreN X'1.here hx rfl (hb hby d26_9) rfl (l' := #[rv x0, iv i_0, iv i_0, .unset, .unset]) rfl <| XS.aloadN X'1.here hx rfl (hb hby d26_10) rfl rfl k) ?_
 obtain ⟨T'2, X'2, e'2, st'2⟩ := getF X'1 hx hZ hown (host := "") (Or.inl (qw hw 39 rfl)) Via.refl e'1 p2_ (g := (mkF m 11 #[rv x0, iv i_0, iv i_0, .unset, .unset] [.ref x0])) rfl rfl (hb hby d26_11)
 refine goo st'2 ?_
 refine goo (fun _ k => XS.istoreN X'2.here hx rfl (hb hby d26_14) rfl (l' := #[rv x0, iv i_0, iv i_0, iv i_0, .unset]) rfl <| XS.aloadN X'2.here hx rfl (hb hby d26_15) rfl rfl k) ?_
 obtain ⟨T'3, X'3, e'3, st'3⟩ := getF X'2 hx hZ hown (host := "") (Or.inl (qw hw 151 rfl)) Via.refl e'2 p3_ (g := (mkF m 16 #[rv x0, iv i_0, iv i_0, iv i_0, .unset] [.ref x0])) rfl rfl (hb hby d26_16)
 refine goo st'3 ?_
 show own_G _ _ _ _ (T'3.setTop (mkF m 19 #[rv x0, iv i_0, iv i_0, iv i_0, .unset] [.int i_0]))
 refine goo (fun _ k => XS.ifYes X'3.here hx rfl (pc0 := 19) (pc' := 98) rfl (hb hby d26_19) rfl (((if0 _ _).trans (teq (by decide : i_0 = i_0)).1)) (by decide) (by decide) <| XS.iloadN X'3.here hx rfl (hb hby d26_98) rfl <| XS.i2l X'3.here hx rfl (hb hby d26_99) rfl k) ?_
 refine goo (fun _ k => X'3.ldc2Long hx hown (mvT hZ (qw hw 161 rfl)) (g := (mkF m 100 #[rv x0, iv i_0, iv i_0, iv i_0, .unset] [(.long (0 : Int64))])) rfl (hb hby d26_100) _ k) ?_
 refine goo (fun _ k => XS.lmul X'3.here hx rfl (hb hby d26_103) rfl <| XS.aloadN X'3.here hx rfl (hb hby d26_104) rfl rfl k) ?_
 show own_G _ _ _ _ (T'3.setTop (mkF m 105 #[rv x0, iv i_0, iv i_0, iv i_0, .unset] [.ref x0, (.long (0 : Int64))]))
 obtain ⟨T'4, X'4, e'4, st'4⟩ := getF X'3 hx hZ hown (host := "") (Or.inl (qw hw 39 rfl)) Via.refl e'3 p2_ (g := (mkF m 105 #[rv x0, iv i_0, iv i_0, iv i_0, .unset] [.ref x0, (.long (0 : Int64))])) rfl rfl (hb hby d26_105)
 refine goo st'4 ?_
 refine goo (fun _ k => XS.i2l X'4.here hx rfl (hb hby d26_108) rfl <| XS.lcmp X'4.here hx rfl (hb hby d26_109) rfl <| XS.ifNo X'4.here hx rfl (hb hby d26_110) rfl (((if0 _ _).trans (flt (own_l2 (by decide : ¬ ((0 : Int64) < (0 : Int64))))).1)) <| XS.aloadN X'4.here hx rfl (hb hby d26_113) rfl rfl k) ?_
 refine goo (fun _ k => XS.aloadN X'4.here hx rfl (hb hby d26_114) rfl rfl k) ?_
 show own_G _ _ _ _ (T'4.setTop (mkF m 115 #[rv x0, iv i_0, iv i_0, iv i_0, .unset] [.ref x0, .ref x0]))
 obtain ⟨T'5, X'5, e'5, st'5⟩ := getF X'4 hx hZ hown (host := "") (Or.inl (qw hw 32 rfl)) Via.refl e'4 p1_ (g := (mkF m 115 #[rv x0, iv i_0, iv i_0, iv i_0, .unset] [.ref x0, .ref x0])) rfl rfl (hb hby d26_115)
 refine goo st'5 ?_
 refine goo (fun _ k => XS.aloadN X'5.here hx rfl (hb hby d26_118) rfl rfl k) ?_
 obtain ⟨T'6, X'6, e'6, st'6⟩ := getF X'5 hx hZ hown (host := "") (Or.inl (qw hw 32 rfl)) Via.refl e'5 p1_ (g := (mkF m 119 #[rv x0, iv i_0, iv i_0, iv i_0, .unset] [.ref x0, .ref ar, .ref x0])) rfl rfl (hb hby d26_119)
 refine goo st'6 ?_
 obtain ⟨cl1500, Ar1500, -, S1500, N1500, -, -⟩ := id p8_
 refine goo (fun _ k => X'6.arraylength hx (cell := cl1500) (by rw [e'6]; exact Ar1500.1) (State.isArrayOf_alike hZ.alike Ar1500.2.1) (g := (mkF m 122 #[rv x0, iv i_0, iv i_0, iv i_0, .unset] [.ref ar, .ref ar, .ref x0])) rfl rfl (hb hby d26_122) _ (by rw [len_of S1500 N1500]; exact k)) ?_
 refine goo (fun _ k => XS.i2l X'6.here hx rfl (hb hby d26_123) rfl k) ?_
 refine goo (fun _ k => X'6.ldc2Long hx hown (mvT hZ (qw hw 161 rfl)) (g := (mkF m 124 #[rv x0, iv i_0, iv i_0, iv i_0, .unset] [(.long (0 : Int64)), .ref ar, .ref x0])) rfl (hb hby d26_124) _ k) ?_
 show own_G _ _ _ _ (T'6.setTop (mkF m 127 #[rv x0, iv i_0, iv i_0, iv i_0, .unset] [(.long (2 : Int64)), (.long (0 : Int64)), .ref ar, .ref x0]))
 refine goo (fun _ k => XS.lmul X'6.here hx rfl (hb hby d26_127) rfl k) ?_
 obtain ⟨T'7, X'7, e'7, st'7⟩ := own_callP X'6 hx hZ (y := Y6) hown (qw hw 162 rfl) (qw hw 163 rfl) (qw hw 25 rfl) (qw hw 164 rfl) (by decide) (W := 2) (rm27_0 l Z a0 hw []   h0 ) (by decide) (by decide) rfl rfl e'6 (g := (mkF m 128 #[rv x0, iv i_0, iv i_0, iv i_0, .unset] [(.long (0 : Int64)), .ref ar, .ref x0])) rfl (by rw [hml]; rfl) (argsL := [(.long (0 : Int64))]) (rest := [.ref ar, .ref x0]) (lenOf own_pd3 rfl) rfl rfl (Nat.le_of_eq rfl) (hb hby d26_128) (by decide) (by decide)
 refine goo st'7 ?_
 obtain ⟨_, _, ⟨T'8, L'8, k'8, n'8⟩, -, X'8, ⟨Lc'8, hQ'8, l'8, y'8, z'8⟩, st'8⟩ := Jvm.LawKit.callS X'7 hx (y := Y29) hown (mvT hZ (qw hw 171 rfl)) (mvT hZ (qw hw 172 rfl)) (mvT hZ (qw hw 87 rfl)) (mvT hZ (qw hw 173 rfl)) (by decide) (backOf (W := 1) (rm_c24 l Z a0 hw [] ar mir ka h0 n0 Z0 p7_ p8_ p9_) hZ (qw hw 173 rfl) (qw hw 87 rfl) (by decide) (by decide)) (g := (mkF m 131 #[rv x0, iv i_0, iv i_0, iv i_0, .unset] [.int i_4, .ref ar, .ref x0])) rfl (by rw [hml]; rfl) (argsL := [.ref ar, .int i_4]) (rest := [.ref x0]) (lenOf own_pd17 rfl) rfl (Nat.le_of_eq rfl) (hb hby d26_131) (fun _ _ => ⟨rfl, e'7, (by decide : 0 + 1 ≤ _), (by decide : 0 + 4 ≤ _)⟩)
 dsimp only [Pt.U, Pt.locs, Pt.cells, Pt.slots] at X'8 l'8 y'8 z'8 st'8 hQ'8
 subst l'8 y'8 z'8
 obtain ⟨b'8, rfl, Nq'8, K'8, gz'8, G_9, qx'8⟩ := hQ'8
 have ne_a : x0 ≠ b'8 := Nat.ne_of_lt (Nat.lt_of_lt_of_le p0_.lt gz'8)
 have sz_1507 : h0.size ≤ b'8 := Nat.le_trans KP0.1 gz'8
 obtain ⟨kr1502, Or1502, Vr1502⟩ := qx'8
 have X_b := p0_.keep K'8
 have F_c := p1_.keep K'8 nin0
 have F_d := p2_.keep K'8 nin0
 have F_e := p3_.keep K'8 nin0
 have F_f := p4_.keep K'8 nin0
 have KP_g : Keep h0 T'8.heap [x0] := KP0.trans K'8 all0
 have N_8 := Fr.app N0 Nq'8
 refine goo (fun _ k => st'8 _ k) ?_
 obtain ⟨T'h, h'h, X'h, e'h, W'h, st'h⟩ := putF X'8 hx hZ hown (host := "") (Or.inl (qw hw 32 rfl)) Via.refl rfl F_c X_b (Or.inl (qw hw 33 rfl)) (qw hw 24 rfl) (ty := (.array (.object s_2))) (by decide) rfl rfl (g := (mkF m 134 #[rv x0, iv i_0, iv i_0, iv i_0, .unset] [.ref b'8, .ref x0])) rfl rfl (hb hby d26_134)
 have X_i := X_b.wr W'h
 have F_j := F_d.other W'h (Or.inr (slot_ne (Or.inl (qw hw 40 rfl)) (Or.inl (qw hw 33 rfl)) (by decide) (t := .int) (t' := (.array (.object s_2))) (by decide) (by decide)))
 have F_k := F_e.other W'h (Or.inr (slot_ne (Or.inl (qw hw 152 rfl)) (Or.inl (qw hw 33 rfl)) (by decide) (t := .boolean) (t' := (.array (.object s_2))) (by decide) (by decide)))
 have F_l := F_f.other W'h (Or.inr (slot_ne (Or.inl (qw hw 52 rfl)) (Or.inl (qw hw 33 rfl)) (by decide) (t := (.object s_0)) (t' := (.array (.object s_2))) (by decide) (by decide)))
 have X_m := G_9.wr W'h
 have V_n := Vr1502.other W'h (Ne.symm ne_a)
 have F_o := F_c.same W'h
 have KP_p : Keep h0 h'h [x0] := KP_g.wr W'h (Or.inl (List.mem_of_getElem? (i := 0) rfl))
 have N_h := Fr.snoc X'h N_8 p5_
 refine goo st'h ?_
 refine goo (fun _ k => XS.iconst X'h.here hx rfl (hb hby d26_137) k) ?_
 show own_G _ _ _ _ (T'h.setTop (mkF m 138 #[rv x0, iv i_0, iv i_0, iv i_0, .unset] [.int i_1]))
 exact own_end X'h Bd.notSynchronized (v := some (.int (nar .boolean i_1))) (fun h => by rw [Bd.returns] at h; cases h) (Q := Q_rm_mrE Z x0 ar mir ka h0 n0) (by show Q_rm_mrE Z x0 ar mir ka h0 n0 (some (.int (nar .boolean i_1))) T'h.heap _; rw [e'h]; exact ⟨rfl, N_h, KP_p, X_i, F_j, F_k, F_l, ⟨b'8, kr1502, sz_1507, F_o, X_m, Or1502, V_n⟩⟩) (fun fs hr => retN X'h hx (t := .boolean) Bd.returns (by simp) (hb hby d26_138) hr) (by decide) (by decide)
theorem own_n7 {p : Nat} (h : 2 ≤ p ∧ p < 4) : ¬ (Int32.ofNat (0 + p)).toInt64 * (2 : Int64) < (4 : Int64) := by
  rw [Nat.zero_add]; exact (by decide : ∀ p : Fin 4, 2 ≤ p.1 → ¬ (Int32.ofNat p.1).toInt64 * (2 : Int64) < (4 : Int64)) ⟨p, h.2⟩ h.1
def Q_rm_mr4 (Z : State) (x0 : Addr) (ar mir : Addr) (ho_ : Int32) (ka : ClassId) (b0 b1 b2 b3 : Bool) (vo : Addr) (h0 : Heap) (n0 : Nat) (v : Option Value) (h : Heap) (L : List Loc) : Prop := v = some (.int i_1) ∧ Fr n0 L ∧ Keep h0 h [x0] ∧ Exa Z h x0 s_1 ∧ Fld Z h x0 s_1 "arrayCount" "I" (.int i_4) ∧ Fld Z h x0 s_1 "holes" "Z" (.int ho_) ∧ Fld Z h x0 s_1 "hash" "Lcom/example/plainsong/plainsong/engine/HashPart;" .null ∧ ∃ ra k, h0.size ≤ ra ∧ Fld Z h x0 s_1 "array" "[Ljava/lang/Object;" (.ref ra) ∧ Exa Z h ra "[Ljava/lang/Object;" ∧ Ovr Z k s_2 ∧ Arv Z h ra k (.object s_2) i_8 [(own_en b0 vo), (own_en b1 vo), (own_en b2 vo), (own_en b3 vo), .null, .null, .null, .null] .null
theorem rm_mr4 (l : Launch) (Z : State) (a0 : Array Value) (hw : own_HW a0 Z) (ws : List Jvm.Cond) (x0 : Addr) (ar mir : Addr) (ho_ : Int32) (ka : ClassId) (b0 b1 b2 b3 : Bool) (vo : Addr) (h0 : Heap) (n0 : Nat) (Z0 : n0 ≤ h0.size) (p0_ : Exa Z h0 x0 s_1) (p1_ : Fld Z h0 x0 s_1 "array" "[Ljava/lang/Object;" (.ref ar)) (p2_ : Fld Z h0 x0 s_1 "arrayCount" "I" (.int i_4)) (p3_ : Fld Z h0 x0 s_1 "holes" "Z" (.int ho_)) (p4_ : Fld Z h0 x0 s_1 "hash" "Lcom/example/plainsong/plainsong/engine/HashPart;" .null) (p5_ : n0 ≤ x0) (p6_ : x0 ≠ ar) (p7_ : Exa Z h0 ar "[Ljava/lang/Object;") (p8_ : Arv Z h0 ar ka (.object s_2) i_4 [(own_en b0 vo), (own_en b1 vo), (own_en b2 vo), (own_en b3 vo)] .null) (p9_ : own_Mr Z "[Ljava/lang/Object;" mir) (p10_ : Exa Z h0 vo s_3) (hq : ho_ = 0 ∨ (ho_ = 1 ∧ 2 ≤ own_ct [b0, b1, b2, b3] 4 0 ∧ own_ct [b0, b1, b2, b3] 4 0 < 4)) :
  MetFree l Y30 (head1 (Jvm.Cond.code Y30 prog_60_method_15_code 5 (some .boolean) :: ws) (rr 3 1 8 47)) (fun a U => a = #[.ref x0] ∧ Z.Warmed39 U.vm ∧ U.heap = h0) (fun _ _ _ _ _ => True) (fun _ U o U' => ∃ v L, o = .returned v ∧ Q_rm_mr4 Z x0 ar mir ho_ ka b0 b1 b2 b3 vo h0 n0 v U'.heap L ∧ FrameEnd U o U' L (rr 3 1 8 47).cells (rr 3 1 8 47).slots) := by
 refine MetFree.of_bodySF (plainFor_of_name own_pn2) hisR ?_
 intro p e s m args below meth c s₁ Bd hml0 hP hK
 obtain ⟨rfl, hZ, hh⟩ := hP
 have hx := Bd.exec
 have hby := Bd.bytes
 have hml : c.maxLocals = 5 := hml0
 have hown : s.vm.findClass s_1 = some m.cls := findClass_of_methodNamed Bd.named
 have hnm := (name_of_methodNamed Bd.named Bd.method).1
 have X0 : Stand p l e (rr 3 1 8 47) s m #[.ref x0] below meth c s₁ [] 0 0 := Stand.of_body Bd
 have e0 : s₁.heap = h0 := by rw [← hh, Bd.state]; rfl
 show own_G _ _ _ _ (s₁.setTop (entryFrame m #[.ref x0] 5))
 refine goo (fun _ k => castTop (ef_26_R m x0) k) ?_
 have N0 := Fr.nil n0
 have KP0 := Keep.refl h0 [x0]
 refine goo (fun _ k => XS.aloadN X0.here hx rfl (hb hby d26_0) rfl rfl k) ?_
 obtain ⟨T'0, X'0, e'0, st'0⟩ := getF X0 hx hZ hown (host := "") (Or.inl (qw hw 39 rfl)) Via.refl e0 p2_ (g := (mkF m 1 #[rv x0, .unset, .unset, .unset, .unset] [.ref x0])) rfl rfl (hb hby d26_1)
 refine goo st'0 ?_
 refine goo (fun _ k => XS.istoreN X'0.here hx rfl (hb hby d26_4) rfl (l' := #[rv x0, iv i_4, .unset, .unset, .unset]) rfl <| XS.aloadN X'0.here hx rfl (hb hby d26_5) rfl rfl k) ?_
 obtain ⟨T'1, X'1, e'1, st'1⟩ := getF X'0 hx hZ hown (host := "") (Or.inl (qw hw 39 rfl)) Via.refl e'0 p2_ (g := (mkF m 6 #[rv x0, iv i_4, .unset, .unset, .unset] [.ref x0])) rfl rfl (hb hby d26_6)
 refine goo st'1 ?_
 show own_G _ _ _ _ (T'1.setTop (mkF m 9 #[rv x0, iv i_4, .unset, .unset, .unset] [.int i_4]))
 refine goo (fun _ k => XS.istoreN X'1.here hx rfl (hb hby d26_9) rfl (l' := #[rv x0, iv i_4, iv i_4, .unset, .unset]) rfl <| XS.aloadN X'1.here hx rfl (hb hby d26_10) rfl rfl k) ?_
 obtain ⟨T'2, X'2, e'2, st'2⟩ := getF X'1 hx hZ hown (host := "") (Or.inl (qw hw 39 rfl)) Via.refl e'1 p2_ (g := (mkF m 11 #[rv x0, iv i_4, iv i_4, .unset, .unset] [.ref x0])) rfl rfl (hb hby d26_11)
 refine goo st'2 ?_
 refine goo (fun _ k => XS.istoreN X'2.here hx rfl (hb hby d26_14) rfl (l' := #[rv x0, iv i_4, iv i_4, iv i_4, .unset]) rfl <| XS.aloadN X'2.here hx rfl (hb hby d26_15) rfl rfl k) ?_
 obtain ⟨T'3, X'3, e'3, st'3⟩ := getF X'2 hx hZ hown (host := "") (Or.inl (qw hw 151 rfl)) Via.refl e'2 p3_ (g := (mkF m 16 #[rv x0, iv i_4, iv i_4, iv i_4, .unset] [.ref x0])) rfl rfl (hb hby d26_16)
 refine goo st'3 ?_
 show own_G _ _ _ _ (T'3.setTop (mkF m 19 #[rv x0, iv i_4, iv i_4, iv i_4, .unset] [.int ho_]))
 by_cases hc19_1533 : ho_ = i_0
 ·refine goo (fun _ k => XS.ifYes X'3.here hx rfl (pc0 := 19) (pc' := 98) rfl (hb hby d26_19) rfl (((if0 _ _).trans (teq hc19_1533).1)) (by decide) (by decide) k) ?_
  refine goo (fun _ k => XS.iloadN X'3.here hx rfl (hb hby d26_98) rfl <| XS.i2l X'3.here hx rfl (hb hby d26_99) rfl k) ?_
  refine goo (fun _ k => X'3.ldc2Long hx hown (mvT hZ (qw hw 161 rfl)) (g := (mkF m 100 #[rv x0, iv i_4, iv i_4, iv i_4, .unset] [(.long (4 : Int64))])) rfl (hb hby d26_100) _ k) ?_
  refine goo (fun _ k => XS.lmul X'3.here hx rfl (hb hby d26_103) rfl <| XS.aloadN X'3.here hx rfl (hb hby d26_104) rfl rfl k) ?_
  show own_G _ _ _ _ (T'3.setTop (mkF m 105 #[rv x0, iv i_4, iv i_4, iv i_4, .unset] [.ref x0, (.long (8 : Int64))]))
  obtain ⟨T'4, X'4, e'4, st'4⟩ := getF X'3 hx hZ hown (host := "") (Or.inl (qw hw 39 rfl)) Via.refl e'3 p2_ (g := (mkF m 105 #[rv x0, iv i_4, iv i_4, iv i_4, .unset] [.ref x0, (.long (8 : Int64))])) rfl rfl (hb hby d26_105)
  refine goo st'4 ?_
  refine goo (fun _ k => XS.i2l X'4.here hx rfl (hb hby d26_108) rfl <| XS.lcmp X'4.here hx rfl (hb hby d26_109) rfl <| XS.ifNo X'4.here hx rfl (hb hby d26_110) rfl (((if0 _ _).trans (flt (own_l2 (by decide : ¬ ((8 : Int64) < (4 : Int64))))).1)) <| XS.aloadN X'4.here hx rfl (hb hby d26_113) rfl rfl k) ?_
  refine goo (fun _ k => XS.aloadN X'4.here hx rfl (hb hby d26_114) rfl rfl k) ?_
  show own_G _ _ _ _ (T'4.setTop (mkF m 115 #[rv x0, iv i_4, iv i_4, iv i_4, .unset] [.ref x0, .ref x0]))
  obtain ⟨T'5, X'5, e'5, st'5⟩ := getF X'4 hx hZ hown (host := "") (Or.inl (qw hw 32 rfl)) Via.refl e'4 p1_ (g := (mkF m 115 #[rv x0, iv i_4, iv i_4, iv i_4, .unset] [.ref x0, .ref x0])) rfl rfl (hb hby d26_115)
  refine goo st'5 ?_
  refine goo (fun _ k => XS.aloadN X'5.here hx rfl (hb hby d26_118) rfl rfl k) ?_
  obtain ⟨T'6, X'6, e'6, st'6⟩ := getF X'5 hx hZ hown (host := "") (Or.inl (qw hw 32 rfl)) Via.refl e'5 p1_ (g := (mkF m 119 #[rv x0, iv i_4, iv i_4, iv i_4, .unset] [.ref x0, .ref ar, .ref x0])) rfl rfl (hb hby d26_119)
  refine goo st'6 ?_
  obtain ⟨cl1537, Ar1537, -, S1537, N1537, -, -⟩ := id p8_
  refine goo (fun _ k => X'6.arraylength hx (cell := cl1537) (by rw [e'6]; exact Ar1537.1) (State.isArrayOf_alike hZ.alike Ar1537.2.1) (g := (mkF m 122 #[rv x0, iv i_4, iv i_4, iv i_4, .unset] [.ref ar, .ref ar, .ref x0])) rfl rfl (hb hby d26_122) _ (by rw [len_of S1537 N1537]; exact k)) ?_
  refine goo (fun _ k => XS.i2l X'6.here hx rfl (hb hby d26_123) rfl k) ?_
  refine goo (fun _ k => X'6.ldc2Long hx hown (mvT hZ (qw hw 161 rfl)) (g := (mkF m 124 #[rv x0, iv i_4, iv i_4, iv i_4, .unset] [(.long (4 : Int64)), .ref ar, .ref x0])) rfl (hb hby d26_124) _ k) ?_
  show own_G _ _ _ _ (T'6.setTop (mkF m 127 #[rv x0, iv i_4, iv i_4, iv i_4, .unset] [(.long (2 : Int64)), (.long (4 : Int64)), .ref ar, .ref x0]))
  refine goo (fun _ k => XS.lmul X'6.here hx rfl (hb hby d26_127) rfl k) ?_
  obtain ⟨T'7, X'7, e'7, st'7⟩ := own_callP X'6 hx hZ (y := Y6) hown (qw hw 162 rfl) (qw hw 163 rfl) (qw hw 25 rfl) (qw hw 164 rfl) (by decide) (W := 2) (rm27_8 l Z a0 hw []   h0 ) (by decide) (by decide) rfl rfl e'6 (g := (mkF m 128 #[rv x0, iv i_4, iv i_4, iv i_4, .unset] [(.long (8 : Int64)), .ref ar, .ref x0])) rfl (by rw [hml]; rfl) (argsL := [(.long (8 : Int64))]) (rest := [.ref ar, .ref x0]) (lenOf own_pd3 rfl) rfl rfl (Nat.le_of_eq rfl) (hb hby d26_128) (by decide) (by decide)
  refine goo st'7 ?_
  obtain ⟨_, _, ⟨T'8, L'8, k'8, n'8⟩, -, X'8, ⟨Lc'8, hQ'8, l'8, y'8, z'8⟩, st'8⟩ := Jvm.LawKit.callS X'7 hx (y := Y29) hown (mvT hZ (qw hw 171 rfl)) (mvT hZ (qw hw 172 rfl)) (mvT hZ (qw hw 87 rfl)) (mvT hZ (qw hw 173 rfl)) (by decide) (backOf (W := 1) (rm_c28 l Z a0 hw [] ar mir ka b0 b1 b2 b3 vo h0 n0 Z0 p7_ p8_ p9_ p10_) hZ (qw hw 173 rfl) (qw hw 87 rfl) (by decide) (by decide)) (g := (mkF m 131 #[rv x0, iv i_4, iv i_4, iv i_4, .unset] [.int i_8, .ref ar, .ref x0])) rfl (by rw [hml]; rfl) (argsL := [.ref ar, .int i_8]) (rest := [.ref x0]) (lenOf own_pd17 rfl) rfl (Nat.le_of_eq rfl) (hb hby d26_131) (fun _ _ => ⟨rfl, e'7, (by decide : 0 + 1 ≤ _), (by decide : 0 + 8 ≤ _)⟩)
  dsimp only [Pt.U, Pt.locs, Pt.cells, Pt.slots] at X'8 l'8 y'8 z'8 st'8 hQ'8
  subst l'8 y'8 z'8
  obtain ⟨b'8, rfl, Nq'8, K'8, gz'8, G_9, qx'8⟩ := hQ'8
  have ne_a : x0 ≠ b'8 := Nat.ne_of_lt (Nat.lt_of_lt_of_le p0_.lt gz'8)
  have sz_1545 : h0.size ≤ b'8 := Nat.le_trans KP0.1 gz'8
  obtain ⟨kr1539, Or1539, Vr1539⟩ := qx'8
  have X_b := p0_.keep K'8
  have F_c := p1_.keep K'8 nin0
  have F_d := p2_.keep K'8 nin0
  have F_e := p3_.keep K'8 nin0
  have F_f := p4_.keep K'8 nin0
  have KP_g : Keep h0 T'8.heap [x0] := KP0.trans K'8 all0
  have N_8 := Fr.app N0 Nq'8
  refine goo (fun _ k => st'8 _ k) ?_
  obtain ⟨T'h, h'h, X'h, e'h, W'h, st'h⟩ := putF X'8 hx hZ hown (host := "") (Or.inl (qw hw 32 rfl)) Via.refl rfl F_c X_b (Or.inl (qw hw 33 rfl)) (qw hw 24 rfl) (ty := (.array (.object s_2))) (by decide) rfl rfl (g := (mkF m 134 #[rv x0, iv i_4, iv i_4, iv i_4, .unset] [.ref b'8, .ref x0])) rfl rfl (hb hby d26_134)
  have X_i := X_b.wr W'h
  have F_j := F_d.other W'h (Or.inr (slot_ne (Or.inl (qw hw 40 rfl)) (Or.inl (qw hw 33 rfl)) (by decide) (t := .int) (t' := (.array (.object s_2))) (by decide) (by decide)))
  have F_k := F_e.other W'h (Or.inr (slot_ne (Or.inl (qw hw 152 rfl)) (Or.inl (qw hw 33 rfl)) (by decide) (t := .boolean) (t' := (.array (.object s_2))) (by decide) (by decide)))
  have F_l := F_f.other W'h (Or.inr (slot_ne (Or.inl (qw hw 52 rfl)) (Or.inl (qw hw 33 rfl)) (by decide) (t := (.object s_0)) (t' := (.array (.object s_2))) (by decide) (by decide)))
  have X_m := G_9.wr W'h
  have V_n := Vr1539.other W'h (Ne.symm ne_a)
  have F_o := F_c.same W'h
  have KP_p : Keep h0 h'h [x0] := KP_g.wr W'h (Or.inl (List.mem_of_getElem? (i := 0) rfl))
  have N_h := Fr.snoc X'h N_8 p5_
  refine goo st'h ?_
  refine goo (fun _ k => XS.iconst X'h.here hx rfl (hb hby d26_137) k) ?_
  show own_G _ _ _ _ (T'h.setTop (mkF m 138 #[rv x0, iv i_4, iv i_4, iv i_4, .unset] [.int i_1]))
  exact own_end X'h Bd.notSynchronized (v := some (.int (nar .boolean i_1))) (fun h => by rw [Bd.returns] at h; cases h) (Q := Q_rm_mr4 Z x0 ar mir ho_ ka b0 b1 b2 b3 vo h0 n0) (by show Q_rm_mr4 Z x0 ar mir ho_ ka b0 b1 b2 b3 vo h0 n0 (some (.int (nar .boolean i_1))) T'h.heap _; rw [e'h]; exact ⟨rfl, N_h, KP_p, X_i, F_j, F_k, F_l, ⟨b'8, kr1539, sz_1545, F_o, X_m, Or1539, V_n⟩⟩) (fun fs hr => retN X'h hx (t := .boolean) Bd.returns (by simp) (hb hby d26_138) hr) (by decide) (by decide)
 ·refine goo (fun _ k => XS.ifNo X'3.here hx rfl (hb hby d26_19) rfl (((if0 _ _).trans (feq hc19_1533).1)) k) ?_
  refine goo (fun _ k => XS.iconst X'3.here hx rfl (hb hby d26_22) <| XS.istoreN X'3.here hx rfl (hb hby d26_23) rfl (l' := #[rv x0, iv i_0, iv i_4, iv i_4, .unset]) rfl <| XS.iconst X'3.here hx rfl (hb hby d26_24) <| XS.istoreN X'3.here hx rfl (hb hby d26_25) rfl (l' := #[rv x0, iv i_0, iv i_0, iv i_4, .unset]) rfl k) ?_
  refine goo (fun _ k => XS.iconst X'3.here hx rfl (hb hby d26_26) k) ?_
  show own_G _ _ _ _ (T'3.setTop (mkF m 27 #[rv x0, iv i_0, iv i_0, iv i_4, .unset] [.int i_0]))
  refine goo (fun _ k => XS.istoreN X'3.here hx rfl (hb hby d26_27) rfl (l' := #[rv x0, iv i_0, iv i_0, iv i_0, .unset]) rfl <| XS.iconst X'3.here hx rfl (hb hby d26_28) <| XS.istore X'3.here hx rfl (hb hby d26_29) rfl (l' := #[rv x0, iv i_0, iv i_0, iv i_0, iv i_0]) rfl k) ?_
  show own_G _ _ _ _ (T'3.setTop (mkF m 31 #[rv x0, iv i_0, iv i_0, iv i_0, iv i_0] []))
  have hq2 := hq.resolve_left hc19_1533
  have loop : ∀ (k i pn : Nat) (A_ B_ : Int32) (T_ : State) (L_ : List Loc), i + k = 4 → Stand p l e (rr 3 1 8 47) s m #[.ref x0] below meth c T_ L_ 0 0 → T_.heap = h0 → Fr n0 L_ → (∀ (A' B' : Int32) (T' : State) (L' : List Loc), Stand p l e (rr 3 1 8 47) s m #[.ref x0] below meth c T' L' 0 0 → T'.heap = h0 → Fr n0 L' → own_G p.tables e below (fun o U' => ∃ v L, o = .returned v ∧ Q_rm_mr4 Z x0 ar mir ho_ ka b0 b1 b2 b3 vo h0 n0 v U'.heap L ∧ FrameEnd s o U' L (rr 3 1 8 47).cells (rr 3 1 8 47).slots) (T'.setTop (mkF m 81 #[rv x0, iv (Int32.ofNat (pn + own_ct [b0, b1, b2, b3] k i)), iv A', iv B', iv (Int32.ofNat 4)] []))) → own_G p.tables e below (fun o U' => ∃ v L, o = .returned v ∧ Q_rm_mr4 Z x0 ar mir ho_ ka b0 b1 b2 b3 vo h0 n0 v U'.heap L ∧ FrameEnd s o U' L (rr 3 1 8 47).cells (rr 3 1 8 47).slots) (T_.setTop (mkF m 31 #[rv x0, iv (Int32.ofNat pn), iv A_, iv B_, iv (Int32.ofNat i)] [])) := by
   intro k
   induction k with
   | zero =>
    intro i pn A_ B_ T_ L_ hik Xl el Nl hj
    obtain rfl : i = 4 := by omega
    refine goo (fun _ k => XS.iload Xl.here hx rfl (hb hby d26_31) rfl <| XS.aloadN Xl.here hx rfl (hb hby d26_33) rfl rfl k) ?_
    obtain ⟨T'q, X'q, e'q, st'q⟩ := getF Xl hx hZ hown (host := "") (Or.inl (qw hw 39 rfl)) Via.refl el p2_ (g := (mkF m 34 #[rv x0, iv (Int32.ofNat pn), iv A_, iv B_, iv (Int32.ofNat 4)] [.ref x0, (.int (Int32.ofNat 4))])) rfl rfl (hb hby d26_34)
    refine goo st'q ?_
    refine goo (fun _ k => XS.icmpYes X'q.here hx rfl (pc0 := 37) (pc' := 81) rfl (hb hby d26_37) rfl ((flt (by decide : ¬ Int32.ofNat 4 < i_4)).2.1) (by decide) (by decide) k) ?_
    show own_G _ _ _ _ (T'q.setTop (mkF m 81 #[rv x0, iv (Int32.ofNat pn), iv A_, iv B_, iv (Int32.ofNat 4)] []))
    exact hj _ _ _ _ X'q e'q Nl
   | succ k ih =>
    intro i pn A_ B_ T_ L_ hik Xl el Nl hj
    refine goo (fun _ k => XS.iload Xl.here hx rfl (hb hby d26_31) rfl <| XS.aloadN Xl.here hx rfl (hb hby d26_33) rfl rfl k) ?_
    obtain ⟨T'r, X'r, e'r, st'r⟩ := getF Xl hx hZ hown (host := "") (Or.inl (qw hw 39 rfl)) Via.refl el p2_ (g := (mkF m 34 #[rv x0, iv (Int32.ofNat pn), iv A_, iv B_, iv (Int32.ofNat i)] [.ref x0, (.int (Int32.ofNat i))])) rfl rfl (hb hby d26_34)
    refine goo st'r ?_
    refine goo (fun _ k => XS.icmpNo X'r.here hx rfl (hb hby d26_37) rfl ((tlt (own_n1 (c := 4) (by omega) (by omega))).2.1) <| XS.aloadN X'r.here hx rfl (hb hby d26_40) rfl rfl k) ?_
    obtain ⟨T's, X's, e's, st's⟩ := getF X'r hx hZ hown (host := "") (Or.inl (qw hw 32 rfl)) Via.refl e'r p1_ (g := (mkF m 41 #[rv x0, iv (Int32.ofNat pn), iv A_, iv B_, iv (Int32.ofNat i)] [.ref x0])) rfl rfl (hb hby d26_41)
    refine goo st's ?_
    show own_G _ _ _ _ (T's.setTop (mkF m 44 #[rv x0, iv (Int32.ofNat pn), iv A_, iv B_, iv (Int32.ofNat i)] [.ref ar]))
    refine goo (fun _ k => XS.iload X's.here hx rfl (hb hby d26_44) rfl k) ?_
    obtain ⟨cl1572, Ar1572, -, S1572, -, H1572, -⟩ := id p8_
    have hin1572 := inb_of S1572 (own_ib (i := i) (z := 4) (by omega) (by omega))
    refine goo (fun _ k => X's.aaload hx (j := (Int32.ofNat i)) (v := (own_en ([b0, b1, b2, b3].getD i false) vo)) (by rw [e's]; exact Ar1572.1) (State.isArrayOf_alike hZ.alike Ar1572.2.1) rfl Ar1572.2.2 hin1572 (H1572.at hin1572 (own_l_at [b0, b1, b2, b3] vo i (by omega))) (g := (mkF m 46 #[rv x0, iv (Int32.ofNat pn), iv A_, iv B_, iv (Int32.ofNat i)] [(.int (Int32.ofNat i)), .ref ar])) rfl rfl (hb hby d26_46) _ k) ?_
    show own_G _ _ _ _ (T's.setTop (mkF m 47 #[rv x0, iv (Int32.ofNat pn), iv A_, iv B_, iv (Int32.ofNat i)] [(own_en ([b0, b1, b2, b3].getD i false) vo)]))
    cases hb1573 : [b0, b1, b2, b3].getD i false
    ·show own_G _ _ _ _ (T's.setTop (mkF m 47 #[rv x0, iv (Int32.ofNat pn), iv A_, iv B_, iv (Int32.ofNat i)] [.null]))
     refine goo (fun _ k => XS.ifnullYes X's.here hx rfl (pc0 := 47) (pc' := 75) rfl (hb hby d26_47) rfl (by decide) (by decide) <| XS.iinc X's.here hx rfl (hb hby d26_75) rfl (l' := #[rv x0, iv (Int32.ofNat pn), iv A_, iv B_, iv ((Int32.ofNat i) + i_1)]) rfl <| XS.goto X's.here hx rfl (pc0 := 78) (pc' := 31) rfl (hb hby d26_78) (by decide) (by decide) k) ?_
     show own_G _ _ _ _ (T's.setTop (mkF m 31 #[rv x0, iv (Int32.ofNat pn), iv A_, iv B_, iv ((Int32.ofNat i) + i_1)] []))
     rw [own_n3]
     rw [own_ct_f hb1573] at hj
     exact ih (i + 1) pn _ _ _ _ (by omega) X's e's Nl hj
    ·show own_G _ _ _ _ (T's.setTop (mkF m 47 #[rv x0, iv (Int32.ofNat pn), iv A_, iv B_, iv (Int32.ofNat i)] [.ref vo]))
     refine goo (fun _ k => XS.ifnullNo X's.here hx rfl (hb hby d26_47) rfl <| XS.iinc X's.here hx rfl (hb hby d26_50) rfl (l' := #[rv x0, iv ((Int32.ofNat pn) + i_1), iv A_, iv B_, iv (Int32.ofNat i)]) rfl k) ?_
     show own_G _ _ _ _ (T's.setTop (mkF m 53 #[rv x0, iv ((Int32.ofNat pn) + i_1), iv A_, iv B_, iv (Int32.ofNat i)] []))
     rw [own_n3]
     refine goo (fun _ k => XS.iloadN X's.here hx rfl (hb hby d26_53) rfl <| XS.i2l X's.here hx rfl (hb hby d26_54) rfl k) ?_
     refine goo (fun _ k => X's.ldc2Long hx hown (mvT hZ (qw hw 161 rfl)) (g := (mkF m 55 #[rv x0, iv (Int32.ofNat (pn + 1)), iv A_, iv B_, iv (Int32.ofNat i)] [(.long ((Int32.ofNat (pn + 1)).toInt64))])) rfl (hb hby d26_55) _ k) ?_
     refine goo (fun _ k => XS.lmul X's.here hx rfl (hb hby d26_58) rfl <| XS.iload X's.here hx rfl (hb hby d26_59) rfl <| XS.iconst X's.here hx rfl (hb hby d26_61) k) ?_
     show own_G _ _ _ _ (T's.setTop (mkF m 62 #[rv x0, iv (Int32.ofNat (pn + 1)), iv A_, iv B_, iv (Int32.ofNat i)] [.int i_1, (.int (Int32.ofNat i)), (.long (((Int32.ofNat (pn + 1)).toInt64) * (2 : Int64)))]))
     refine goo (fun _ k => XS.iadd X's.here hx rfl (hb hby d26_62) rfl <| XS.i2l X's.here hx rfl (hb hby d26_63) rfl <| XS.lcmp X's.here hx rfl (hb hby d26_64) rfl k) ?_
     by_cases hc65_1574 : (((Int32.ofNat i) + i_1).toInt64) < (((Int32.ofNat (pn + 1)).toInt64) * (2 : Int64))
     ·refine goo (fun _ k => XS.ifNo X's.here hx rfl (hb hby d26_65) rfl (((if0 _ _).trans (tlt (own_g1 hc65_1574)).2.2.2)) k) ?_
      refine goo (fun _ k => XS.iload X's.here hx rfl (hb hby d26_68) rfl <| XS.iconst X's.here hx rfl (hb hby d26_70) k) ?_
      show own_G _ _ _ _ (T's.setTop (mkF m 71 #[rv x0, iv (Int32.ofNat (pn + 1)), iv A_, iv B_, iv (Int32.ofNat i)] [.int i_1, (.int (Int32.ofNat i))]))
      refine goo (fun _ k => XS.iadd X's.here hx rfl (hb hby d26_71) rfl <| XS.istoreN X's.here hx rfl (hb hby d26_72) rfl (l' := #[rv x0, iv (Int32.ofNat (pn + 1)), iv ((Int32.ofNat i) + i_1), iv B_, iv (Int32.ofNat i)]) rfl <| XS.iloadN X's.here hx rfl (hb hby d26_73) rfl <| XS.istoreN X's.here hx rfl (hb hby d26_74) rfl (l' := #[rv x0, iv (Int32.ofNat (pn + 1)), iv ((Int32.ofNat i) + i_1), iv (Int32.ofNat (pn + 1)), iv (Int32.ofNat i)]) rfl k) ?_
      refine goo (fun _ k => XS.iinc X's.here hx rfl (hb hby d26_75) rfl (l' := #[rv x0, iv (Int32.ofNat (pn + 1)), iv ((Int32.ofNat i) + i_1), iv (Int32.ofNat (pn + 1)), iv ((Int32.ofNat i) + i_1)]) rfl <| XS.goto X's.here hx rfl (pc0 := 78) (pc' := 31) rfl (hb hby d26_78) (by decide) (by decide) k) ?_
      show own_G _ _ _ _ (T's.setTop (mkF m 31 #[rv x0, iv (Int32.ofNat (pn + 1)), iv ((Int32.ofNat i) + i_1), iv (Int32.ofNat (pn + 1)), iv ((Int32.ofNat i) + i_1)] []))
      rw [own_n3]
      rw [own_ct_t hb1573] at hj
      exact ih (i + 1) (pn + 1) _ _ _ _ (by omega) X's e's Nl (by rw [Nat.add_assoc, Nat.add_comm 1]; exact hj)
     ·refine goo (fun _ k => XS.ifYes X's.here hx rfl (pc0 := 65) (pc' := 75) rfl (hb hby d26_65) rfl (((if0 _ _).trans (flt (own_g2 hc65_1574)).2.2.2)) (by decide) (by decide) k) ?_
      refine goo (fun _ k => XS.iinc X's.here hx rfl (hb hby d26_75) rfl (l' := #[rv x0, iv (Int32.ofNat (pn + 1)), iv A_, iv B_, iv ((Int32.ofNat i) + i_1)]) rfl <| XS.goto X's.here hx rfl (pc0 := 78) (pc' := 31) rfl (hb hby d26_78) (by decide) (by decide) k) ?_
      show own_G _ _ _ _ (T's.setTop (mkF m 31 #[rv x0, iv (Int32.ofNat (pn + 1)), iv A_, iv B_, iv ((Int32.ofNat i) + i_1)] []))
      rw [own_n3]
      rw [own_ct_t hb1573] at hj
      exact ih (i + 1) (pn + 1) _ _ _ _ (by omega) X's e's Nl (by rw [Nat.add_assoc, Nat.add_comm 1]; exact hj)
  refine loop 4 0 0 _ _ _ _ rfl X'3 e'3 N0 (fun A' B' T' L' X' e' N' => ?_)
  show own_G _ _ _ _ (T'.setTop (mkF m 81 #[rv x0, iv (Int32.ofNat (0 + own_ct [b0, b1, b2, b3] 4 0)), iv A', iv B', iv (Int32.ofNat 4)] []))
  refine goo (fun _ k => XS.aloadN X'.here hx rfl (hb hby d26_81) rfl rfl <| XS.iloadN X'.here hx rfl (hb hby d26_82) rfl <| XS.aloadN X'.here hx rfl (hb hby d26_83) rfl rfl k) ?_
  obtain ⟨T't, X't, e't, st't⟩ := getF X' hx hZ hown (host := "") (Or.inl (qw hw 39 rfl)) Via.refl e' p2_ (g := (mkF m 84 #[rv x0, iv (Int32.ofNat (0 + own_ct [b0, b1, b2, b3] 4 0)), iv A', iv B', iv (Int32.ofNat 4)] [.ref x0, (.int (Int32.ofNat (0 + own_ct [b0, b1, b2, b3] 4 0))), .ref x0])) rfl rfl (hb hby d26_84)
  refine goo st't ?_
  refine goo (fun _ k => XS.icmpNo X't.here hx rfl (hb hby d26_87) rfl ((tlt (own_n1 (c := 4) (by omega) (by omega))).2.1) <| XS.iconst X't.here hx rfl (hb hby d26_90) k) ?_
  show own_G _ _ _ _ (T't.setTop (mkF m 91 #[rv x0, iv (Int32.ofNat (0 + own_ct [b0, b1, b2, b3] 4 0)), iv A', iv B', iv (Int32.ofNat 4)] [.int i_1, .ref x0]))
  refine goo (fun _ k => XS.goto X't.here hx rfl (pc0 := 91) (pc' := 95) rfl (hb hby d26_91) (by decide) (by decide) k) ?_
  obtain ⟨T'u, h'u, X'u, e'u, W'u, st'u⟩ := putFN X't hx hZ hown (qw hw 151 rfl) Via.refl e't p3_ p0_ (Or.inl (qw hw 152 rfl)) (qw hw 24 rfl) (ty := .boolean) (v' := .int i_1) (by decide) rfl (by decide) (g := (mkF m 95 #[rv x0, iv (Int32.ofNat (0 + own_ct [b0, b1, b2, b3] 4 0)), iv A', iv B', iv (Int32.ofNat 4)] [.int i_1, .ref x0])) rfl rfl (hb hby d26_95)
  have X_v := p0_.wr W'u
  have F_w := p1_.other W'u (Or.inr (slot_ne (Or.inl (qw hw 33 rfl)) (Or.inl (qw hw 152 rfl)) (by decide) (t := (.array (.object s_2))) (t' := .boolean) (by decide) (by decide)))
  have F_x := p2_.other W'u (Or.inr (slot_ne (Or.inl (qw hw 40 rfl)) (Or.inl (qw hw 152 rfl)) (by decide) (t := .int) (t' := .boolean) (by decide) (by decide)))
  have F_y := p4_.other W'u (Or.inr (slot_ne (Or.inl (qw hw 52 rfl)) (Or.inl (qw hw 152 rfl)) (by decide) (t := (.object s_0)) (t' := .boolean) (by decide) (by decide)))
  have X_z := p7_.wr W'u
  have V_10 := p8_.other W'u (Ne.symm p6_)
  have X_11 := p10_.wr W'u
  have F_12 := p3_.same W'u
  have Z_13 : n0 ≤ h'u.size := Nat.le_trans Z0 (Nat.le_of_eq W'u.size.symm)
  have KP_14 : Keep h0 h'u [x0] := KP0.wr W'u (Or.inl (List.mem_of_getElem? (i := 0) rfl))
  have N_u := Fr.snoc X'u N' p5_
  refine goo st'u ?_
  refine goo (fun _ k => XS.iloadN X'u.here hx rfl (hb hby d26_98) rfl <| XS.i2l X'u.here hx rfl (hb hby d26_99) rfl k) ?_
  refine goo (fun _ k => X'u.ldc2Long hx hown (mvT hZ (qw hw 161 rfl)) (g := (mkF m 100 #[rv x0, iv (Int32.ofNat (0 + own_ct [b0, b1, b2, b3] 4 0)), iv A', iv B', iv (Int32.ofNat 4)] [(.long ((Int32.ofNat (0 + own_ct [b0, b1, b2, b3] 4 0)).toInt64))])) rfl (hb hby d26_100) _ k) ?_
  refine goo (fun _ k => XS.lmul X'u.here hx rfl (hb hby d26_103) rfl k) ?_
  show own_G _ _ _ _ (T'u.setTop (mkF m 104 #[rv x0, iv (Int32.ofNat (0 + own_ct [b0, b1, b2, b3] 4 0)), iv A', iv B', iv (Int32.ofNat 4)] [(.long (((Int32.ofNat (0 + own_ct [b0, b1, b2, b3] 4 0)).toInt64) * (2 : Int64)))]))
  refine goo (fun _ k => XS.aloadN X'u.here hx rfl (hb hby d26_104) rfl rfl k) ?_
  obtain ⟨T'15, X'15, e'15, st'15⟩ := getF X'u hx hZ hown (host := "") (Or.inl (qw hw 39 rfl)) Via.refl e'u F_x (g := (mkF m 105 #[rv x0, iv (Int32.ofNat (0 + own_ct [b0, b1, b2, b3] 4 0)), iv A', iv B', iv (Int32.ofNat 4)] [.ref x0, (.long (((Int32.ofNat (0 + own_ct [b0, b1, b2, b3] 4 0)).toInt64) * (2 : Int64)))])) rfl rfl (hb hby d26_105)
  refine goo st'15 ?_
  refine goo (fun _ k => XS.i2l X'15.here hx rfl (hb hby d26_108) rfl <| XS.lcmp X'15.here hx rfl (hb hby d26_109) rfl <| XS.ifNo X'15.here hx rfl (hb hby d26_110) rfl (((if0 _ _).trans (flt (own_l2 (own_n7 hq2.2))).1)) <| XS.aloadN X'15.here hx rfl (hb hby d26_113) rfl rfl k) ?_
  show own_G _ _ _ _ (T'15.setTop (mkF m 114 #[rv x0, iv (Int32.ofNat (0 + own_ct [b0, b1, b2, b3] 4 0)), iv A', iv B', iv (Int32.ofNat 4)] [.ref x0]))
  refine goo (fun _ k => XS.aloadN X'15.here hx rfl (hb hby d26_114) rfl rfl k) ?_
  obtain ⟨T'16, X'16, e'16, st'16⟩ := getF X'15 hx hZ hown (host := "") (Or.inl (qw hw 32 rfl)) Via.refl e'15 F_w (g := (mkF m 115 #[rv x0, iv (Int32.ofNat (0 + own_ct [b0, b1, b2, b3] 4 0)), iv A', iv B', iv (Int32.ofNat 4)] [.ref x0, .ref x0])) rfl rfl (hb hby d26_115)
  refine goo st'16 ?_
  refine goo (fun _ k => XS.aloadN X'16.here hx rfl (hb hby d26_118) rfl rfl k) ?_
  obtain ⟨T'17, X'17, e'17, st'17⟩ := getF X'16 hx hZ hown (host := "") (Or.inl (qw hw 32 rfl)) Via.refl e'16 F_w (g := (mkF m 119 #[rv x0, iv (Int32.ofNat (0 + own_ct [b0, b1, b2, b3] 4 0)), iv A', iv B', iv (Int32.ofNat 4)] [.ref x0, .ref ar, .ref x0])) rfl rfl (hb hby d26_119)
  refine goo st'17 ?_
  obtain ⟨cl1590, Ar1590, -, S1590, N1590, -, -⟩ := id V_10
  refine goo (fun _ k => X'17.arraylength hx (cell := cl1590) (by rw [e'17]; exact Ar1590.1) (State.isArrayOf_alike hZ.alike Ar1590.2.1) (g := (mkF m 122 #[rv x0, iv (Int32.ofNat (0 + own_ct [b0, b1, b2, b3] 4 0)), iv A', iv B', iv (Int32.ofNat 4)] [.ref ar, .ref ar, .ref x0])) rfl rfl (hb hby d26_122) _ (by rw [len_of S1590 N1590]; exact k)) ?_
  refine goo (fun _ k => XS.i2l X'17.here hx rfl (hb hby d26_123) rfl k) ?_
  show own_G _ _ _ _ (T'17.setTop (mkF m 124 #[rv x0, iv (Int32.ofNat (0 + own_ct [b0, b1, b2, b3] 4 0)), iv A', iv B', iv (Int32.ofNat 4)] [(.long (4 : Int64)), .ref ar, .ref x0]))
  refine goo (fun _ k => X'17.ldc2Long hx hown (mvT hZ (qw hw 161 rfl)) (g := (mkF m 124 #[rv x0, iv (Int32.ofNat (0 + own_ct [b0, b1, b2, b3] 4 0)), iv A', iv B', iv (Int32.ofNat 4)] [(.long (4 : Int64)), .ref ar, .ref x0])) rfl (hb hby d26_124) _ k) ?_
  refine goo (fun _ k => XS.lmul X'17.here hx rfl (hb hby d26_127) rfl k) ?_
  obtain ⟨T'18, X'18, e'18, st'18⟩ := own_callP X'17 hx hZ (y := Y6) hown (qw hw 162 rfl) (qw hw 163 rfl) (qw hw 25 rfl) (qw hw 164 rfl) (by decide) (W := 2) (rm27_8 l Z a0 hw []   h'u ) (by decide) (by decide) rfl rfl e'17 (g := (mkF m 128 #[rv x0, iv (Int32.ofNat (0 + own_ct [b0, b1, b2, b3] 4 0)), iv A', iv B', iv (Int32.ofNat 4)] [(.long (8 : Int64)), .ref ar, .ref x0])) rfl (by rw [hml]; rfl) (argsL := [(.long (8 : Int64))]) (rest := [.ref ar, .ref x0]) (lenOf own_pd3 rfl) rfl rfl (Nat.le_of_eq rfl) (hb hby d26_128) (by decide) (by decide)
  refine goo st'18 ?_
  obtain ⟨_, _, ⟨T'19, L'19, k'19, n'19⟩, -, X'19, ⟨Lc'19, hQ'19, l'19, y'19, z'19⟩, st'19⟩ := Jvm.LawKit.callS X'18 hx (y := Y29) hown (mvT hZ (qw hw 171 rfl)) (mvT hZ (qw hw 172 rfl)) (mvT hZ (qw hw 87 rfl)) (mvT hZ (qw hw 173 rfl)) (by decide) (backOf (W := 1) (rm_c28 l Z a0 hw [] ar mir ka b0 b1 b2 b3 vo h'u n0 Z_13 X_z V_10 p9_ X_11) hZ (qw hw 173 rfl) (qw hw 87 rfl) (by decide) (by decide)) (g := (mkF m 131 #[rv x0, iv (Int32.ofNat (0 + own_ct [b0, b1, b2, b3] 4 0)), iv A', iv B', iv (Int32.ofNat 4)] [.int i_8, .ref ar, .ref x0])) rfl (by rw [hml]; rfl) (argsL := [.ref ar, .int i_8]) (rest := [.ref x0]) (lenOf own_pd17 rfl) rfl (Nat.le_of_eq rfl) (hb hby d26_131) (fun _ _ => ⟨rfl, e'18, (by decide : 0 + 1 ≤ _), (by decide : 0 + 8 ≤ _)⟩)
  dsimp only [Pt.U, Pt.locs, Pt.cells, Pt.slots] at X'19 l'19 y'19 z'19 st'19 hQ'19
  subst l'19 y'19 z'19
  obtain ⟨b'19, rfl, Nq'19, K'19, gz'19, G_1a, qx'19⟩ := hQ'19
  have ne_1b : x0 ≠ b'19 := Nat.ne_of_lt (Nat.lt_of_lt_of_le X_v.lt gz'19)
  have sz_1598 : h0.size ≤ b'19 := Nat.le_trans KP_14.1 gz'19
  obtain ⟨kr1592, Or1592, Vr1592⟩ := qx'19
  have X_1c := X_v.keep K'19
  have F_1d := F_w.keep K'19 nin0
  have F_1e := F_x.keep K'19 nin0
  have F_1f := F_12.keep K'19 nin0
  have F_1g := F_y.keep K'19 nin0
  have KP_1h : Keep h0 T'19.heap [x0] := KP_14.trans K'19 all0
  have N_19 := Fr.app N_u Nq'19
  refine goo (fun _ k => st'19 _ k) ?_
  obtain ⟨T'1i, h'1i, X'1i, e'1i, W'1i, st'1i⟩ := putF X'19 hx hZ hown (host := "") (Or.inl (qw hw 32 rfl)) Via.refl rfl F_1d X_1c (Or.inl (qw hw 33 rfl)) (qw hw 24 rfl) (ty := (.array (.object s_2))) (by decide) rfl rfl (g := (mkF m 134 #[rv x0, iv (Int32.ofNat (0 + own_ct [b0, b1, b2, b3] 4 0)), iv A', iv B', iv (Int32.ofNat 4)] [.ref b'19, .ref x0])) rfl rfl (hb hby d26_134)
  have X_1j := X_1c.wr W'1i
  have F_1k := F_1e.other W'1i (Or.inr (slot_ne (Or.inl (qw hw 40 rfl)) (Or.inl (qw hw 33 rfl)) (by decide) (t := .int) (t' := (.array (.object s_2))) (by decide) (by decide)))
  have F_1l := F_1f.other W'1i (Or.inr (slot_ne (Or.inl (qw hw 152 rfl)) (Or.inl (qw hw 33 rfl)) (by decide) (t := .boolean) (t' := (.array (.object s_2))) (by decide) (by decide)))
  have F_1m := F_1g.other W'1i (Or.inr (slot_ne (Or.inl (qw hw 52 rfl)) (Or.inl (qw hw 33 rfl)) (by decide) (t := (.object s_0)) (t' := (.array (.object s_2))) (by decide) (by decide)))
  have X_1n := G_1a.wr W'1i
  have V_1o := Vr1592.other W'1i (Ne.symm ne_1b)
  have F_1p := F_1d.same W'1i
  have KP_1q : Keep h0 h'1i [x0] := KP_1h.wr W'1i (Or.inl (List.mem_of_getElem? (i := 0) rfl))
  have N_1i := Fr.snoc X'1i N_19 p5_
  refine goo st'1i ?_
  have F_1r : Fld Z h'1i x0 s_1 "holes" "Z" (.int ho_) := by rw [hq2.1]; exact F_1l
  refine goo (fun _ k => XS.iconst X'1i.here hx rfl (hb hby d26_137) k) ?_
  show own_G _ _ _ _ (T'1i.setTop (mkF m 138 #[rv x0, iv (Int32.ofNat (0 + own_ct [b0, b1, b2, b3] 4 0)), iv A', iv B', iv (Int32.ofNat 4)] [.int i_1]))
  exact own_end X'1i Bd.notSynchronized (v := some (.int (nar .boolean i_1))) (fun h => by rw [Bd.returns] at h; cases h) (Q := Q_rm_mr4 Z x0 ar mir ho_ ka b0 b1 b2 b3 vo h0 n0) (by show Q_rm_mr4 Z x0 ar mir ho_ ka b0 b1 b2 b3 vo h0 n0 (some (.int (nar .boolean i_1))) T'1i.heap _; rw [e'1i]; exact ⟨rfl, N_1i, KP_1q, X_1j, F_1k, F_1r, F_1m, ⟨b'19, kr1592, sz_1598, F_1p, X_1n, Or1592, V_1o⟩⟩) (fun fs hr => retN X'1i hx (t := .boolean) Bd.returns (by simp) (hb hby d26_138) hr) (by decide) (by decide)
def Q_rm_mr4h (Z : State) (x0 : Addr) (ar em : Addr) (ho_ : Int32) (ka ke : ClassId) (vo : Addr) (ca : Addr) (kca : ClassId) (cvs : List Value) (bx : Nat → Addr) (h0 : Heap) (n0 : Nat) (v : Option Value) (h : Heap) (L : List Loc) : Prop := v = some (.int i_0) ∧ Fr n0 L ∧ Keep h0 h [x0] ∧ Exa Z h x0 s_1 ∧ Fld Z h x0 s_1 "array" "[Ljava/lang/Object;" (.ref em) ∧ Fld Z h x0 s_1 "arrayCount" "I" (.int i_0) ∧ Fld Z h x0 s_1 "holes" "Z" (.int i_1) ∧ ∃ hp bk ky vl hs ch k1 k2 k3 k4 k5, h0.size ≤ hp ∧ h0.size ≤ bk ∧ h0.size ≤ ky ∧ h0.size ≤ vl ∧ h0.size ≤ hs ∧ h0.size ≤ ch ∧ Fld Z h x0 s_1 "hash" "Lcom/example/plainsong/plainsong/engine/HashPart;" (.ref hp) ∧ Exa Z h hp s_0 ∧ Fld Z h hp s_0 "buckets" "[I" (.ref bk) ∧ Fld Z h hp s_0 "keys" "[Ljava/lang/Object;" (.ref ky) ∧ Fld Z h hp s_0 "values" "[Ljava/lang/Object;" (.ref vl) ∧ Fld Z h hp s_0 "hashes" "[I" (.ref hs) ∧ Fld Z h hp s_0 "chain" "[I" (.ref ch) ∧ Fld Z h hp s_0 "size" "I" (.int i_1) ∧ Fld Z h hp s_0 "count" "I" (.int i_1) ∧ Fld Z h hp s_0 "emptied" "Z" (.int i_0) ∧ Arv Z h bk k1 .int i_4 [(.int (-1 : Int32)), .int i_0, (.int (-1 : Int32)), (.int (-1 : Int32))] (.int i_0) ∧ Arv Z h ky k2 (.object s_2) i_4 [(.ref (bx 132)), .null, .null, .null] .null ∧ Arv Z h vl k3 (.object s_2) i_4 [.ref vo, .null, .null, .null] .null ∧ Arv Z h hs k4 .int i_4 [.int i_2027789881, .int i_0, .int i_0, .int i_0] (.int i_0) ∧ Arv Z h ch k5 .int i_4 [(.int (-1 : Int32)), .int i_0, .int i_0, .int i_0] (.int i_0) ∧ hp ≠ bk ∧ hp ≠ ky ∧ hp ≠ vl ∧ hp ≠ hs ∧ hp ≠ ch ∧ bk ≠ ky ∧ bk ≠ vl ∧ bk ≠ hs ∧ bk ≠ ch ∧ ky ≠ vl ∧ ky ≠ hs ∧ ky ≠ ch ∧ vl ≠ hs ∧ vl ≠ ch ∧ hs ≠ ch ∧ Ovr Z k2 s_2 ∧ Ovr Z k3 s_2
theorem rm_mr4h (l : Launch) (Z : State) (a0 : Array Value) (hw : own_HW a0 Z) (ws : List Jvm.Cond) (x0 : Addr) (ar em : Addr) (ho_ : Int32) (ka ke : ClassId) (vo : Addr) (ca : Addr) (kca : ClassId) (cvs : List Value) (bx : Nat → Addr) (h0 : Heap) (n0 : Nat) (Z0 : n0 ≤ h0.size) (p0_ : Exa Z h0 x0 s_1) (p1_ : Fld Z h0 x0 s_1 "array" "[Ljava/lang/Object;" (.ref ar)) (p2_ : Fld Z h0 x0 s_1 "arrayCount" "I" (.int i_4)) (p3_ : Fld Z h0 x0 s_1 "holes" "Z" (.int ho_)) (p4_ : Fld Z h0 x0 s_1 "hash" "Lcom/example/plainsong/plainsong/engine/HashPart;" .null) (p5_ : ¬ ho_ = i_0) (p6_ : n0 ≤ x0) (p7_ : x0 ≠ ar) (p8_ : Arv Z h0 ar ka (.object s_2) i_4 [.null, .null, .null, .ref vo] .null) (p9_ : Exa Z h0 vo s_3) (p10_ : Old Z n0 h0) (p11_ : own_LC Z ca kca cvs bx) (p12_ : Sta Z h0 s_1 "EMPTY" "[Ljava/lang/Object;" (.ref em)) (p13_ : Arv Z h0 em ke (.object s_2) i_0 [] .null) (p14_ : x0 ≠ em)  :
  MetFree l Y30 (head1 (Jvm.Cond.code Y30 prog_60_method_15_code 5 (some .boolean) :: ws) (rr 4 6 30 58)) (fun a U => a = #[.ref x0] ∧ Z.Warmed39 U.vm ∧ U.heap = h0) (fun _ _ _ _ _ => True) (fun _ U o U' => ∃ v L, o = .returned v ∧ Q_rm_mr4h Z x0 ar em ho_ ka ke vo ca kca cvs bx h0 n0 v U'.heap L ∧ FrameEnd U o U' L (rr 4 6 30 58).cells (rr 4 6 30 58).slots) := by
 refine MetFree.of_bodySF (plainFor_of_name own_pn2) hisR ?_
 intro p e s m args below meth c s₁ Bd hml0 hP hK
 obtain ⟨rfl, hZ, hh⟩ := hP
 have hx := Bd.exec
 have hby := Bd.bytes
 have hml : c.maxLocals = 5 := hml0
 have hown : s.vm.findClass s_1 = some m.cls := findClass_of_methodNamed Bd.named
 have hnm := (name_of_methodNamed Bd.named Bd.method).1
 have X0 : Stand p l e (rr 4 6 30 58) s m #[.ref x0] below meth c s₁ [] 0 0 := Stand.of_body Bd
 have e0 : s₁.heap = h0 := by rw [← hh, Bd.state]; rfl
 show own_G _ _ _ _ (s₁.setTop (entryFrame m #[.ref x0] 5))
 refine goo (fun _ k => castTop (ef_26_R m x0) k) ?_
 have N0 := Fr.nil n0
 have KP0 := Keep.refl h0 [x0]
 refine goo (fun _ k => XS.aloadN X0.here hx rfl (hb hby d26_0) rfl rfl k) ?_
 obtain ⟨T'0, X'0, e'0, st'0⟩ := getF X0 hx hZ hown (host := "") (Or.inl (qw hw 39 rfl)) Via.refl e0 p2_ (g := (mkF m 1 #[rv x0, .unset, .unset, .unset, .unset] [.ref x0])) rfl rfl (hb hby d26_1)
 refine goo st'0 ?_
 refine goo (fun _ k => XS.istoreN X'0.here hx rfl (hb hby d26_4) rfl (l' := #[rv x0, iv i_4, .unset, .unset, .unset]) rfl <| XS.aloadN X'0.here hx rfl (hb hby d26_5) rfl rfl k) ?_
 obtain ⟨T'1, X'1, e'1, st'1⟩ := getF X'0 hx hZ hown (host := "") (Or.inl (qw hw 39 rfl)) Via.refl e'0 p2_ (g := (mkF m 6 #[rv x0, iv i_4, .unset, .unset, .unset] [.ref x0])) rfl rfl (hb hby d26_6)
 refine goo st'1 ?_
 show own_G _ _ _ _ (T'1.setTop (mkF m 9 #[rv x0, iv i_4, .unset, .unset, .unset] [.int i_4]))
 refine goo (fun _ k => XS.istoreN X'1.here hx rfl (hb hby d26_9) rfl (l' := #[rv x0, iv i_4, iv i_4, .unset, .unset]) rfl <| XS.aloadN X'1.here hx rfl (hb hby d26_10) rfl rfl k) ?_
 obtain ⟨T'2, X'2, e'2, st'2⟩ := getF X'1 hx hZ hown (host := "") (Or.inl (qw hw 39 rfl)) Via.refl e'1 p2_ (g := (mkF m 11 #[rv x0, iv i_4, iv i_4, .unset, .unset] [.ref x0])) rfl rfl (hb hby d26_11)
 refine goo st'2 ?_
 refine goo (fun _ k => XS.istoreN X'2.here hx rfl (hb hby d26_14) rfl (l' := #[rv x0, iv i_4, iv i_4, iv i_4, .unset]) rfl <| XS.aloadN X'2.here hx rfl (hb hby d26_15) rfl rfl k) ?_
 obtain ⟨T'3, X'3, e'3, st'3⟩ := getF X'2 hx hZ hown (host := "") (Or.inl (qw hw 151 rfl)) Via.refl e'2 p3_ (g := (mkF m 16 #[rv x0, iv i_4, iv i_4, iv i_4, .unset] [.ref x0])) rfl rfl (hb hby d26_16)
 refine goo st'3 ?_
 show own_G _ _ _ _ (T'3.setTop (mkF m 19 #[rv x0, iv i_4, iv i_4, iv i_4, .unset] [.int ho_]))
 refine goo (fun _ k => XS.ifNo X'3.here hx rfl (hb hby d26_19) rfl (((if0 _ _).trans (feq p5_).1)) <| XS.iconst X'3.here hx rfl (hb hby d26_22) <| XS.istoreN X'3.here hx rfl (hb hby d26_23) rfl (l' := #[rv x0, iv i_0, iv i_4, iv i_4, .unset]) rfl <| XS.iconst X'3.here hx rfl (hb hby d26_24) k) ?_
 refine goo (fun _ k => XS.istoreN X'3.here hx rfl (hb hby d26_25) rfl (l' := #[rv x0, iv i_0, iv i_0, iv i_4, .unset]) rfl <| XS.iconst X'3.here hx rfl (hb hby d26_26) k) ?_
 show own_G _ _ _ _ (T'3.setTop (mkF m 27 #[rv x0, iv i_0, iv i_0, iv i_4, .unset] [.int i_0]))
 refine goo (fun _ k => XS.istoreN X'3.here hx rfl (hb hby d26_27) rfl (l' := #[rv x0, iv i_0, iv i_0, iv i_0, .unset]) rfl <| XS.iconst X'3.here hx rfl (hb hby d26_28) <| XS.istore X'3.here hx rfl (hb hby d26_29) rfl (l' := #[rv x0, iv i_0, iv i_0, iv i_0, iv i_0]) rfl <| XS.iload X'3.here hx rfl (hb hby d26_31) rfl k) ?_
 refine goo (fun _ k => XS.aloadN X'3.here hx rfl (hb hby d26_33) rfl rfl k) ?_
 obtain ⟨T'4, X'4, e'4, st'4⟩ := getF X'3 hx hZ hown (host := "") (Or.inl (qw hw 39 rfl)) Via.refl e'3 p2_ (g := (mkF m 34 #[rv x0, iv i_0, iv i_0, iv i_0, iv i_0] [.ref x0, .int i_0])) rfl rfl (hb hby d26_34)
 refine goo st'4 ?_
 show own_G _ _ _ _ (T'4.setTop (mkF m 37 #[rv x0, iv i_0, iv i_0, iv i_0, iv i_0] [.int i_4, .int i_0]))
 refine goo (fun _ k => XS.icmpNo X'4.here hx rfl (hb hby d26_37) rfl ((tlt (by decide : i_0 < i_4)).2.1) <| XS.aloadN X'4.here hx rfl (hb hby d26_40) rfl rfl k) ?_
 obtain ⟨T'5, X'5, e'5, st'5⟩ := getF X'4 hx hZ hown (host := "") (Or.inl (qw hw 32 rfl)) Via.refl e'4 p1_ (g := (mkF m 41 #[rv x0, iv i_0, iv i_0, iv i_0, iv i_0] [.ref x0])) rfl rfl (hb hby d26_41)
 refine goo st'5 ?_
 refine goo (fun _ k => XS.iload X'5.here hx rfl (hb hby d26_44) rfl k) ?_
 obtain ⟨cl1629, Ar1629, -, S1629, -, H1629, -⟩ := id p8_
 have hin1629 := inb_of S1629 (j := i_0) ⟨by decide, by decide⟩
 refine goo (fun _ k => X'5.aaload hx (j := i_0) (v := .null) (by rw [e'5]; exact Ar1629.1) (State.isArrayOf_alike hZ.alike Ar1629.2.1) rfl Ar1629.2.2 hin1629 (H1629.at hin1629 rfl) (g := (mkF m 46 #[rv x0, iv i_0, iv i_0, iv i_0, iv i_0] [.int i_0, .ref ar])) rfl rfl (hb hby d26_46) _ k) ?_
 refine goo (fun _ k => XS.ifnullYes X'5.here hx rfl (pc0 := 47) (pc' := 75) rfl (hb hby d26_47) rfl (by decide) (by decide) k) ?_
 show own_G _ _ _ _ (T'5.setTop (mkF m 75 #[rv x0, iv i_0, iv i_0, iv i_0, iv i_0] []))
 refine goo (fun _ k => XS.iinc X'5.here hx rfl (hb hby d26_75) rfl (l' := #[rv x0, iv i_0, iv i_0, iv i_0, iv i_1]) rfl <| XS.goto X'5.here hx rfl (pc0 := 78) (pc' := 31) rfl (hb hby d26_78) (by decide) (by decide) <| XS.iload X'5.here hx rfl (hb hby d26_31) rfl <| XS.aloadN X'5.here hx rfl (hb hby d26_33) rfl rfl k) ?_
 obtain ⟨T'6, X'6, e'6, st'6⟩ := getF X'5 hx hZ hown (host := "") (Or.inl (qw hw 39 rfl)) Via.refl e'5 p2_ (g := (mkF m 34 #[rv x0, iv i_0, iv i_0, iv i_0, iv i_1] [.ref x0, .int i_1])) rfl rfl (hb hby d26_34)
 refine goo st'6 ?_
 refine goo (fun _ k => XS.icmpNo X'6.here hx rfl (hb hby d26_37) rfl ((tlt (by decide : i_1 < i_4)).2.1) k) ?_
 show own_G _ _ _ _ (T'6.setTop (mkF m 40 #[rv x0, iv i_0, iv i_0, iv i_0, iv i_1] []))
 refine goo (fun _ k => XS.aloadN X'6.here hx rfl (hb hby d26_40) rfl rfl k) ?_
 obtain ⟨T'7, X'7, e'7, st'7⟩ := getF X'6 hx hZ hown (host := "") (Or.inl (qw hw 32 rfl)) Via.refl e'6 p1_ (g := (mkF m 41 #[rv x0, iv i_0, iv i_0, iv i_0, iv i_1] [.ref x0])) rfl rfl (hb hby d26_41)
 refine goo st'7 ?_
 refine goo (fun _ k => XS.iload X'7.here hx rfl (hb hby d26_44) rfl k) ?_
 obtain ⟨cl1632, Ar1632, -, S1632, -, H1632, -⟩ := id p8_
 have hin1632 := inb_of S1632 (j := i_1) ⟨by decide, by decide⟩
 refine goo (fun _ k => X'7.aaload hx (j := i_1) (v := .null) (by rw [e'7]; exact Ar1632.1) (State.isArrayOf_alike hZ.alike Ar1632.2.1) rfl Ar1632.2.2 hin1632 (H1632.at hin1632 rfl) (g := (mkF m 46 #[rv x0, iv i_0, iv i_0, iv i_0, iv i_1] [.int i_1, .ref ar])) rfl rfl (hb hby d26_46) _ k) ?_
 refine goo (fun _ k => XS.ifnullYes X'7.here hx rfl (pc0 := 47) (pc' := 75) rfl (hb hby d26_47) rfl (by decide) (by decide) <| XS.iinc X'7.here hx rfl (hb hby d26_75) rfl (l' := #[rv x0, iv i_0, iv i_0, iv i_0, iv i_2]) rfl k) ?_
 show own_G _ _ _ _ (T'7.setTop (mkF m 78 #[rv x0, iv i_0, iv i_0, iv i_0, iv i_2] []))
 refine goo (fun _ k => XS.goto X'7.here hx rfl (pc0 := 78) (pc' := 31) rfl (hb hby d26_78) (by decide) (by decide) <| XS.iload X'7.here hx rfl (hb hby d26_31) rfl <| XS.aloadN X'7.here hx rfl (hb hby d26_33) rfl rfl k) ?_
 obtain ⟨T'8, X'8, e'8, st'8⟩ := getF X'7 hx hZ hown (host := "") (Or.inl (qw hw 39 rfl)) Via.refl e'7 p2_ (g := (mkF m 34 #[rv x0, iv i_0, iv i_0, iv i_0, iv i_2] [.ref x0, .int i_2])) rfl rfl (hb hby d26_34)
 refine goo st'8 ?_
 refine goo (fun _ k => XS.icmpNo X'8.here hx rfl (hb hby d26_37) rfl ((tlt (by decide : i_2 < i_4)).2.1) <| XS.aloadN X'8.here hx rfl (hb hby d26_40) rfl rfl k) ?_
 show own_G _ _ _ _ (T'8.setTop (mkF m 41 #[rv x0, iv i_0, iv i_0, iv i_0, iv i_2] [.ref x0]))
 obtain ⟨T'9, X'9, e'9, st'9⟩ := getF X'8 hx hZ hown (host := "") (Or.inl (qw hw 32 rfl)) Via.refl e'8 p1_ (g := (mkF m 41 #[rv x0, iv i_0, iv i_0, iv i_0, iv i_2] [.ref x0])) rfl rfl (hb hby d26_41)
 refine goo st'9 ?_
 refine goo (fun _ k => XS.iload X'9.here hx rfl (hb hby d26_44) rfl k) ?_
 obtain ⟨cl1635, Ar1635, -, S1635, -, H1635, -⟩ := id p8_
 have hin1635 := inb_of S1635 (j := i_2) ⟨by decide, by decide⟩
 refine goo (fun _ k => X'9.aaload hx (j := i_2) (v := .null) (by rw [e'9]; exact Ar1635.1) (State.isArrayOf_alike hZ.alike Ar1635.2.1) rfl Ar1635.2.2 hin1635 (H1635.at hin1635 rfl) (g := (mkF m 46 #[rv x0, iv i_0, iv i_0, iv i_0, iv i_2] [.int i_2, .ref ar])) rfl rfl (hb hby d26_46) _ k) ?_
 refine goo (fun _ k => XS.ifnullYes X'9.here hx rfl (pc0 := 47) (pc' := 75) rfl (hb hby d26_47) rfl (by decide) (by decide) <| XS.iinc X'9.here hx rfl (hb hby d26_75) rfl (l' := #[rv x0, iv i_0, iv i_0, iv i_0, iv i_3]) rfl <| XS.goto X'9.here hx rfl (pc0 := 78) (pc' := 31) rfl (hb hby d26_78) (by decide) (by decide) k) ?_
 show own_G _ _ _ _ (T'9.setTop (mkF m 31 #[rv x0, iv i_0, iv i_0, iv i_0, iv i_3] []))
 refine goo (fun _ k => XS.iload X'9.here hx rfl (hb hby d26_31) rfl <| XS.aloadN X'9.here hx rfl (hb hby d26_33) rfl rfl k) ?_
 obtain ⟨T'a, X'a, e'a, st'a⟩ := getF X'9 hx hZ hown (host := "") (Or.inl (qw hw 39 rfl)) Via.refl e'9 p2_ (g := (mkF m 34 #[rv x0, iv i_0, iv i_0, iv i_0, iv i_3] [.ref x0, .int i_3])) rfl rfl (hb hby d26_34)
 refine goo st'a ?_
 refine goo (fun _ k => XS.icmpNo X'a.here hx rfl (hb hby d26_37) rfl ((tlt (by decide : i_3 < i_4)).2.1) <| XS.aloadN X'a.here hx rfl (hb hby d26_40) rfl rfl k) ?_
 obtain ⟨T'b, X'b, e'b, st'b⟩ := getF X'a hx hZ hown (host := "") (Or.inl (qw hw 32 rfl)) Via.refl e'a p1_ (g := (mkF m 41 #[rv x0, iv i_0, iv i_0, iv i_0, iv i_3] [.ref x0])) rfl rfl (hb hby d26_41)
 refine goo st'b ?_
 show own_G _ _ _ _ (T'b.setTop (mkF m 44 #[rv x0, iv i_0, iv i_0, iv i_0, iv i_3] [.ref ar]))
 refine goo (fun _ k => XS.iload X'b.here hx rfl (hb hby d26_44) rfl k) ?_
 obtain ⟨cl1638, Ar1638, -, S1638, -, H1638, -⟩ := id p8_
 have hin1638 := inb_of S1638 (j := i_3) ⟨by decide, by decide⟩
 refine goo (fun _ k => X'b.aaload hx (j := i_3) (v := (.ref vo)) (by rw [e'b]; exact Ar1638.1) (State.isArrayOf_alike hZ.alike Ar1638.2.1) rfl Ar1638.2.2 hin1638 (H1638.at hin1638 rfl) (g := (mkF m 46 #[rv x0, iv i_0, iv i_0, iv i_0, iv i_3] [.int i_3, .ref ar])) rfl rfl (hb hby d26_46) _ k) ?_
 refine goo (fun _ k => XS.ifnullNo X'b.here hx rfl (hb hby d26_47) rfl <| XS.iinc X'b.here hx rfl (hb hby d26_50) rfl (l' := #[rv x0, iv i_1, iv i_0, iv i_0, iv i_3]) rfl <| XS.iloadN X'b.here hx rfl (hb hby d26_53) rfl <| XS.i2l X'b.here hx rfl (hb hby d26_54) rfl k) ?_
 show own_G _ _ _ _ (T'b.setTop (mkF m 55 #[rv x0, iv i_1, iv i_0, iv i_0, iv i_3] [(.long (1 : Int64))]))
 refine goo (fun _ k => X'b.ldc2Long hx hown (mvT hZ (qw hw 161 rfl)) (g := (mkF m 55 #[rv x0, iv i_1, iv i_0, iv i_0, iv i_3] [(.long (1 : Int64))])) rfl (hb hby d26_55) _ k) ?_
 refine goo (fun _ k => XS.lmul X'b.here hx rfl (hb hby d26_58) rfl <| XS.iload X'b.here hx rfl (hb hby d26_59) rfl <| XS.iconst X'b.here hx rfl (hb hby d26_61) <| XS.iadd X'b.here hx rfl (hb hby d26_62) rfl k) ?_
 refine goo (fun _ k => XS.i2l X'b.here hx rfl (hb hby d26_63) rfl k) ?_
 show own_G _ _ _ _ (T'b.setTop (mkF m 64 #[rv x0, iv i_1, iv i_0, iv i_0, iv i_3] [(.long (4 : Int64)), (.long (2 : Int64))]))
 refine goo (fun _ k => XS.lcmp X'b.here hx rfl (hb hby d26_64) rfl <| XS.ifYes X'b.here hx rfl (pc0 := 65) (pc' := 75) rfl (hb hby d26_65) rfl (((if0 _ _).trans (flt (own_g2 (by decide : ¬ ((4 : Int64) < (2 : Int64))))).2.2.2)) (by decide) (by decide) <| XS.iinc X'b.here hx rfl (hb hby d26_75) rfl (l' := #[rv x0, iv i_1, iv i_0, iv i_0, iv i_4]) rfl <| XS.goto X'b.here hx rfl (pc0 := 78) (pc' := 31) rfl (hb hby d26_78) (by decide) (by decide) k) ?_
 refine goo (fun _ k => XS.iload X'b.here hx rfl (hb hby d26_31) rfl <| XS.aloadN X'b.here hx rfl (hb hby d26_33) rfl rfl k) ?_
 show own_G _ _ _ _ (T'b.setTop (mkF m 34 #[rv x0, iv i_1, iv i_0, iv i_0, iv i_4] [.ref x0, .int i_4]))
 obtain ⟨T'c, X'c, e'c, st'c⟩ := getF X'b hx hZ hown (host := "") (Or.inl (qw hw 39 rfl)) Via.refl e'b p2_ (g := (mkF m 34 #[rv x0, iv i_1, iv i_0, iv i_0, iv i_4] [.ref x0, .int i_4])) rfl rfl (hb hby d26_34)
 refine goo st'c ?_
 refine goo (fun _ k => XS.icmpYes X'c.here hx rfl (pc0 := 37) (pc' := 81) rfl (hb hby d26_37) rfl ((flt (by decide : ¬ (i_4 < i_4))).2.1) (by decide) (by decide) <| XS.aloadN X'c.here hx rfl (hb hby d26_81) rfl rfl <| XS.iloadN X'c.here hx rfl (hb hby d26_82) rfl <| XS.aloadN X'c.here hx rfl (hb hby d26_83) rfl rfl k) ?_
 obtain ⟨T'd, X'd, e'd, st'd⟩ := getF X'c hx hZ hown (host := "") (Or.inl (qw hw 39 rfl)) Via.refl e'c p2_ (g := (mkF m 84 #[rv x0, iv i_1, iv i_0, iv i_0, iv i_4] [.ref x0, .int i_1, .ref x0])) rfl rfl (hb hby d26_84)
 refine goo st'd ?_
 show own_G _ _ _ _ (T'd.setTop (mkF m 87 #[rv x0, iv i_1, iv i_0, iv i_0, iv i_4] [.int i_4, .int i_1, .ref x0]))
 refine goo (fun _ k => XS.icmpNo X'd.here hx rfl (hb hby d26_87) rfl ((tlt (by decide : i_1 < i_4)).2.1) <| XS.iconst X'd.here hx rfl (hb hby d26_90) <| XS.goto X'd.here hx rfl (pc0 := 91) (pc' := 95) rfl (hb hby d26_91) (by decide) (by decide) k) ?_
 obtain ⟨T'e, h'e, X'e, e'e, W'e, st'e⟩ := putFN X'd hx hZ hown (qw hw 151 rfl) Via.refl e'd p3_ p0_ (Or.inl (qw hw 152 rfl)) (qw hw 24 rfl) (ty := .boolean) (v' := .int i_1) (by decide) rfl (by decide) (g := (mkF m 95 #[rv x0, iv i_1, iv i_0, iv i_0, iv i_4] [.int i_1, .ref x0])) rfl rfl (hb hby d26_95)
 have X_f := p0_.wr W'e
 have F_g := p1_.other W'e (Or.inr (slot_ne (Or.inl (qw hw 33 rfl)) (Or.inl (qw hw 152 rfl)) (by decide) (t := (.array (.object s_2))) (t' := .boolean) (by decide) (by decide)))
 have F_h := p2_.other W'e (Or.inr (slot_ne (Or.inl (qw hw 40 rfl)) (Or.inl (qw hw 152 rfl)) (by decide) (t := .int) (t' := .boolean) (by decide) (by decide)))
 have F_i := p4_.other W'e (Or.inr (slot_ne (Or.inl (qw hw 52 rfl)) (Or.inl (qw hw 152 rfl)) (by decide) (t := (.object s_0)) (t' := .boolean) (by decide) (by decide)))
 have V_j := p8_.other W'e (Ne.symm p7_)
 have X_k := p9_.wr W'e
 have Old_l := p10_.wr W'e p6_
 have S_m := p12_.wr W'e
 have V_n := p13_.other W'e (Ne.symm p14_)
 have F_o := p3_.same W'e
 have Z_p : n0 ≤ h'e.size := Nat.le_trans Z0 (Nat.le_of_eq W'e.size.symm)
 have KP_q : Keep h0 h'e [x0] := KP0.wr W'e (Or.inl (List.mem_of_getElem? (i := 0) rfl))
 have N_e := Fr.snoc X'e N0 p6_
 refine goo st'e ?_
 refine goo (fun _ k => XS.iloadN X'e.here hx rfl (hb hby d26_98) rfl <| XS.i2l X'e.here hx rfl (hb hby d26_99) rfl k) ?_
 show own_G _ _ _ _ (T'e.setTop (mkF m 100 #[rv x0, iv i_1, iv i_0, iv i_0, iv i_4] [(.long (1 : Int64))]))
 refine goo (fun _ k => X'e.ldc2Long hx hown (mvT hZ (qw hw 161 rfl)) (g := (mkF m 100 #[rv x0, iv i_1, iv i_0, iv i_0, iv i_4] [(.long (1 : Int64))])) rfl (hb hby d26_100) _ k) ?_
 refine goo (fun _ k => XS.lmul X'e.here hx rfl (hb hby d26_103) rfl <| XS.aloadN X'e.here hx rfl (hb hby d26_104) rfl rfl k) ?_
 obtain ⟨T'r, X'r, e'r, st'r⟩ := getF X'e hx hZ hown (host := "") (Or.inl (qw hw 39 rfl)) Via.refl e'e F_h (g := (mkF m 105 #[rv x0, iv i_1, iv i_0, iv i_0, iv i_4] [.ref x0, (.long (2 : Int64))])) rfl rfl (hb hby d26_105)
 refine goo st'r ?_
 refine goo (fun _ k => XS.i2l X'r.here hx rfl (hb hby d26_108) rfl <| XS.lcmp X'r.here hx rfl (hb hby d26_109) rfl k) ?_
 show own_G _ _ _ _ (T'r.setTop (mkF m 110 #[rv x0, iv i_1, iv i_0, iv i_0, iv i_4] [(.int (lcmpW (2 : Int64) (4 : Int64)))]))
 refine goo (fun _ k => XS.ifYes X'r.here hx rfl (pc0 := 110) (pc' := 139) rfl (hb hby d26_110) rfl (((if0 _ _).trans (tlt (own_l1 (by decide : (2 : Int64) < (4 : Int64)))).1)) (by decide) (by decide) <| XS.aloadN X'r.here hx rfl (hb hby d26_139) rfl rfl k) ?_
 obtain ⟨T's, X's, e's, st's⟩ := getF X'r hx hZ hown (host := "") (Or.inl (qw hw 51 rfl)) Via.refl e'r F_i (g := (mkF m 140 #[rv x0, iv i_1, iv i_0, iv i_0, iv i_4] [.ref x0])) rfl rfl (hb hby d26_140)
 refine goo st's ?_
 refine goo (fun _ k => XS.ifnonnullNo X's.here hx rfl (hb hby d26_143) rfl <| XS.aloadN X's.here hx rfl (hb hby d26_146) rfl rfl k) ?_
 obtain ⟨T't, h't, X't, e't, E't, A't, D't, -, st't⟩ := newO X's hx hZ hown (qw hw 53 rfl) (qw hw 54 rfl) (qw hw 55 rfl) e's (g := (mkF m 147 #[rv x0, iv i_1, iv i_0, iv i_0, iv i_4] [.ref x0])) rfl (hb hby d26_147) (by decide) (by decide)
 obtain ⟨b't, g't⟩ : ∃ z, z = h'e.size := ⟨_, rfl⟩
 rw [← g't] at A't D't st't
 have ne_u : x0 ≠ b't := Nat.ne_of_lt (Nat.lt_of_lt_of_le X_f.lt (Nat.le_of_eq g't.symm))
 have ne_v : ar ≠ b't := Nat.ne_of_lt (Nat.lt_of_lt_of_le V_j.lt (Nat.le_of_eq g't.symm))
 have ne_w : em ≠ b't := Nat.ne_of_lt (Nat.lt_of_lt_of_le V_n.lt (Nat.le_of_eq g't.symm))
 have ge_x : n0 ≤ b't := Nat.le_trans Z_p (Nat.le_of_eq g't.symm)
 have sz_1662 : h0.size ≤ b't := Nat.le_trans KP_q.1 (Nat.le_of_eq g't.symm)
 have X_y := X_f.ext E't
 have F_z := F_g.ext E't
 have F_10 := F_h.ext E't
 have F_11 := F_o.ext E't
 have F_12 := F_i.ext E't
 have V_13 := V_j.ext E't
 have X_14 := X_k.ext E't
 have Old_15 := Old_l.ext E't
 have S_16 := S_m.ext E't
 have V_17 := V_n.ext E't
 have Z_18 : n0 ≤ h't.size := Nat.le_trans Z_p E't.1
 have KP_19 : Keep h0 h't [x0] := KP_q.ext E't
 have F_1a : Fld Z h't b't s_0 "buckets" "[I" .null := D't (Or.inl (qw hw 84 rfl)) (ty := (.array .int)) (by decide)
 have F_1b : Fld Z h't b't s_0 "keys" "[Ljava/lang/Object;" .null := D't (Or.inl (qw hw 92 rfl)) (ty := (.array (.object s_2))) (by decide)
 have F_1c : Fld Z h't b't s_0 "values" "[Ljava/lang/Object;" .null := D't (Or.inl (qw hw 94 rfl)) (ty := (.array (.object s_2))) (by decide)
 have F_1d : Fld Z h't b't s_0 "hashes" "[I" .null := D't (Or.inl (qw hw 96 rfl)) (ty := (.array .int)) (by decide)
 have F_1e : Fld Z h't b't s_0 "chain" "[I" .null := D't (Or.inl (qw hw 98 rfl)) (ty := (.array .int)) (by decide)
 have F_1f : Fld Z h't b't s_0 "size" "I" (.int i_0) := D't (Or.inl (qw hw 100 rfl)) (ty := .int) (by decide)
 have F_1g : Fld Z h't b't s_0 "fewest" "I" (.int i_0) := D't (Or.inl (qw hw 102 rfl)) (ty := .int) (by decide)
 have F_1h : Fld Z h't b't s_0 "count" "I" (.int i_0) := D't (Or.inl (qw hw 143 rfl)) (ty := .int) (by decide)
 have F_1i : Fld Z h't b't s_0 "emptied" "Z" (.int i_0) := D't (Or.inl (qw hw 145 rfl)) (ty := .boolean) (by decide)
 refine goo st't ?_
 show own_G _ _ _ _ (T't.setTop (mkF m 150 #[rv x0, iv i_1, iv i_0, iv i_0, iv i_4] [.ref b't, .ref x0]))
 refine goo (fun _ k => XS.dup X't.here hx rfl (hb hby d26_150) rfl rfl <| XS.iloadN X't.here hx rfl (hb hby d26_151) rfl <| XS.iloadN X't.here hx rfl (hb hby d26_152) rfl <| XS.isub X't.here hx rfl (hb hby d26_153) rfl k) ?_
 obtain ⟨_, _, ⟨T'1j, L'1j, k'1j, n'1j⟩, -, X'1j, ⟨Lc'1j, hQ'1j, l'1j, y'1j, z'1j⟩, st'1j⟩ := X't.specialBack hx (y := Y9) rfl hown (mvT hZ (qw hw 56 rfl)) (mvT hZ (qw hw 57 rfl)) (mvT hZ (qw hw 58 rfl)) (by decide) (backOf (W := 2) (rm8 l Z a0 hw [] b't  h't n0 Z_18 A't ge_x F_1a F_1b F_1c F_1d F_1e F_1f F_1h F_1g F_1i) hZ (qw hw 58 rfl) (qw hw 55 rfl) (by decide) (by decide)) (g := (mkF m 154 #[rv x0, iv i_1, iv i_0, iv i_0, iv i_4] [.int i_1, .ref b't, .ref b't, .ref x0])) rfl (by rw [hml]; rfl) (Steps.refl _) (a := b't) (argsL := [.int i_1]) (rest := [.ref b't, .ref x0]) (lenOf own_pd4 rfl) rfl (Nat.le_of_eq rfl) (hb hby d26_154) (fun _ _ => ⟨rfl, e't, (by decide : 1 + 5 ≤ _), (by decide : 10 + 20 ≤ _)⟩)
 dsimp only [Pt.U, Pt.locs, Pt.cells, Pt.slots] at X'1j l'1j y'1j z'1j st'1j hQ'1j
 subst l'1j y'1j z'1j
 obtain ⟨rfl, Nq'1j, K'1j, G_1k, qx'1j⟩ := hQ'1j
 obtain ⟨bk1684, ky1684, vl1684, hs1684, ch1684, k'1l, k'1m, k'1n, k'1o, k'1p, Hg0_1684, Hg1_1684, Hg2_1684, Hg3_1684, Hg4_1684, Hf0_1684, Hf1_1684, Hf2_1684, Hf3_1684, Hf4_1684, Hf5_1684, Hf6_1684, Hf7_1684, Hf8_1684, Hf9_1684, Hf10_1684, Hf11_1684, Hf12_1684, Hn0_1684, Hn1_1684, Hn2_1684, Hn3_1684, Hn4_1684, Hn5_1684, Hn6_1684, Hn7_1684, Hn8_1684, Hn9_1684, Ho2_1684, Ho3_1684⟩ := qx'1j
 have ne_1q : x0 ≠ bk1684 := Nat.ne_of_lt (Nat.lt_of_lt_of_le X_y.lt Hg0_1684)
 have ne_1r : ar ≠ bk1684 := Nat.ne_of_lt (Nat.lt_of_lt_of_le V_13.lt Hg0_1684)
 have ne_1s : em ≠ bk1684 := Nat.ne_of_lt (Nat.lt_of_lt_of_le V_17.lt Hg0_1684)
 have ne_1t : b't ≠ bk1684 := Nat.ne_of_lt (Nat.lt_of_lt_of_le A't.lt Hg0_1684)
 have ge_1u : n0 ≤ bk1684 := Nat.le_trans Z_18 Hg0_1684
 have sz_1692 : h0.size ≤ bk1684 := Nat.le_trans KP_19.1 Hg0_1684
 have ne_1v : x0 ≠ ky1684 := Nat.ne_of_lt (Nat.lt_of_lt_of_le X_y.lt Hg1_1684)
 have ne_1w : ar ≠ ky1684 := Nat.ne_of_lt (Nat.lt_of_lt_of_le V_13.lt Hg1_1684)
 have ne_1x : em ≠ ky1684 := Nat.ne_of_lt (Nat.lt_of_lt_of_le V_17.lt Hg1_1684)
 have ne_1y : b't ≠ ky1684 := Nat.ne_of_lt (Nat.lt_of_lt_of_le A't.lt Hg1_1684)
 have ge_1z : n0 ≤ ky1684 := Nat.le_trans Z_18 Hg1_1684
 have sz_1699 : h0.size ≤ ky1684 := Nat.le_trans KP_19.1 Hg1_1684
 have ne_20 : x0 ≠ vl1684 := Nat.ne_of_lt (Nat.lt_of_lt_of_le X_y.lt Hg2_1684)
 have ne_21 : ar ≠ vl1684 := Nat.ne_of_lt (Nat.lt_of_lt_of_le V_13.lt Hg2_1684)
 have ne_22 : em ≠ vl1684 := Nat.ne_of_lt (Nat.lt_of_lt_of_le V_17.lt Hg2_1684)
 have ne_23 : b't ≠ vl1684 := Nat.ne_of_lt (Nat.lt_of_lt_of_le A't.lt Hg2_1684)
 have ge_24 : n0 ≤ vl1684 := Nat.le_trans Z_18 Hg2_1684
 have sz_1706 : h0.size ≤ vl1684 := Nat.le_trans KP_19.1 Hg2_1684
 have ne_25 : x0 ≠ hs1684 := Nat.ne_of_lt (Nat.lt_of_lt_of_le X_y.lt Hg3_1684)
 have ne_26 : ar ≠ hs1684 := Nat.ne_of_lt (Nat.lt_of_lt_of_le V_13.lt Hg3_1684)
 have ne_27 : em ≠ hs1684 := Nat.ne_of_lt (Nat.lt_of_lt_of_le V_17.lt Hg3_1684)
 have ne_28 : b't ≠ hs1684 := Nat.ne_of_lt (Nat.lt_of_lt_of_le A't.lt Hg3_1684)
 have ge_29 : n0 ≤ hs1684 := Nat.le_trans Z_18 Hg3_1684
 have sz_1713 : h0.size ≤ hs1684 := Nat.le_trans KP_19.1 Hg3_1684
 have ne_2a : x0 ≠ ch1684 := Nat.ne_of_lt (Nat.lt_of_lt_of_le X_y.lt Hg4_1684)
 have ne_2b : ar ≠ ch1684 := Nat.ne_of_lt (Nat.lt_of_lt_of_le V_13.lt Hg4_1684)
 have ne_2c : em ≠ ch1684 := Nat.ne_of_lt (Nat.lt_of_lt_of_le V_17.lt Hg4_1684)
 have ne_2d : b't ≠ ch1684 := Nat.ne_of_lt (Nat.lt_of_lt_of_le A't.lt Hg4_1684)
 have ge_2e : n0 ≤ ch1684 := Nat.le_trans Z_18 Hg4_1684
 have sz_1720 : h0.size ≤ ch1684 := Nat.le_trans KP_19.1 Hg4_1684
 have X_2f := X_y.keep K'1j
 have F_2g := F_z.keep K'1j (ninS ne_u nin0)
 have F_2h := F_10.keep K'1j (ninS ne_u nin0)
 have F_2i := F_11.keep K'1j (ninS ne_u nin0)
 have F_2j := F_12.keep K'1j (ninS ne_u nin0)
 have V_2k := V_13.keep K'1j (ninS ne_v nin0)
 have X_2l := X_14.keep K'1j
 have Old_2m := Old_15.keep K'1j (allS ge_x all0)
 have S_2n := own_staKeep S_16 K'1j (allS (own_nsX A't) all0)
 have V_2o := V_17.keep K'1j (ninS ne_w nin0)
 have Z_2p : n0 ≤ T'1j.heap.size := Nat.le_trans Z_18 K'1j.1
 have KP_2q : Keep h0 T'1j.heap [x0] := KP_19.trans K'1j (allS (Or.inr sz_1662) all0)
 have N_1j := Fr.app N_e Nq'1j
 refine goo (fun _ k => st'1j.trans k) ?_
 obtain ⟨T'2r, h'2r, X'2r, e'2r, W'2r, st'2r⟩ := putF X'1j hx hZ hown (host := "") (Or.inl (qw hw 51 rfl)) Via.refl rfl F_2j X_2f (Or.inl (qw hw 52 rfl)) (qw hw 24 rfl) (ty := (.object s_0)) (by decide) rfl rfl (g := (mkF m 157 #[rv x0, iv i_1, iv i_0, iv i_0, iv i_4] [.ref b't, .ref x0])) rfl rfl (hb hby d26_157)
 have X_2s := X_2f.wr W'2r
 have F_2t := F_2g.other W'2r (Or.inr (slot_ne (Or.inl (qw hw 33 rfl)) (Or.inl (qw hw 52 rfl)) (by decide) (t := (.array (.object s_2))) (t' := (.object s_0)) (by decide) (by decide)))
 have F_2u := F_2h.other W'2r (Or.inr (slot_ne (Or.inl (qw hw 40 rfl)) (Or.inl (qw hw 52 rfl)) (by decide) (t := .int) (t' := (.object s_0)) (by decide) (by decide)))
 have F_2v := F_2i.other W'2r (Or.inr (slot_ne (Or.inl (qw hw 152 rfl)) (Or.inl (qw hw 52 rfl)) (by decide) (t := .boolean) (t' := (.object s_0)) (by decide) (by decide)))
 have V_2w := V_2k.other W'2r (Ne.symm p7_)
 have X_2x := X_2l.wr W'2r
 have Old_2y := Old_2m.wr W'2r p6_
 have S_2z := S_2n.wr W'2r
 have V_30 := V_2o.other W'2r (Ne.symm p14_)
 have X_31 := G_1k.wr W'2r
 have F_32 := Hf0_1684.other W'2r (Or.inl (Ne.symm ne_u))
 have F_33 := Hf1_1684.other W'2r (Or.inl (Ne.symm ne_u))
 have F_34 := Hf2_1684.other W'2r (Or.inl (Ne.symm ne_u))
 have F_35 := Hf3_1684.other W'2r (Or.inl (Ne.symm ne_u))
 have F_36 := Hf4_1684.other W'2r (Or.inl (Ne.symm ne_u))
 have F_37 := Hf5_1684.other W'2r (Or.inl (Ne.symm ne_u))
 have F_38 := Hf6_1684.other W'2r (Or.inl (Ne.symm ne_u))
 have F_39 := Hf7_1684.other W'2r (Or.inl (Ne.symm ne_u))
 have V_3a := Hf8_1684.other W'2r (Ne.symm ne_1q)
 have V_3b := Hf9_1684.other W'2r (Ne.symm ne_1v)
 have V_3c := Hf10_1684.other W'2r (Ne.symm ne_20)
 have V_3d := Hf11_1684.other W'2r (Ne.symm ne_25)
 have V_3e := Hf12_1684.other W'2r (Ne.symm ne_2a)
 have F_3f := F_2j.same W'2r
 have Z_3g : n0 ≤ h'2r.size := Nat.le_trans Z_2p (Nat.le_of_eq W'2r.size.symm)
 have KP_3h : Keep h0 h'2r [x0] := KP_2q.wr W'2r (Or.inl (List.mem_of_getElem? (i := 0) rfl))
 have N_2r := Fr.snoc X'2r N_1j p6_
 refine goo st'2r ?_
 show own_G _ _ _ _ (T'2r.setTop (mkF m 160 #[rv x0, iv i_1, iv i_0, iv i_0, iv i_4] []))
 refine goo (fun _ k => XS.iloadN X'2r.here hx rfl (hb hby d26_160) rfl <| XS.istore X'2r.here hx rfl (hb hby d26_161) rfl (l' := #[rv x0, iv i_1, iv i_0, iv i_0, iv i_0]) rfl <| XS.iload X'2r.here hx rfl (hb hby d26_163) rfl <| XS.aloadN X'2r.here hx rfl (hb hby d26_165) rfl rfl k) ?_
 obtain ⟨T'3i, X'3i, e'3i, st'3i⟩ := getF X'2r hx hZ hown (host := "") (Or.inl (qw hw 39 rfl)) Via.refl e'2r F_2u (g := (mkF m 166 #[rv x0, iv i_1, iv i_0, iv i_0, iv i_0] [.ref x0, .int i_0])) rfl rfl (hb hby d26_166)
 refine goo st'3i ?_
 refine goo (fun _ k => XS.icmpNo X'3i.here hx rfl (hb hby d26_169) rfl ((tlt (by decide : i_0 < i_4)).2.1) k) ?_
 show own_G _ _ _ _ (T'3i.setTop (mkF m 172 #[rv x0, iv i_1, iv i_0, iv i_0, iv i_0] []))
 refine goo (fun _ k => XS.aloadN X'3i.here hx rfl (hb hby d26_172) rfl rfl k) ?_
 obtain ⟨T'3j, X'3j, e'3j, st'3j⟩ := getF X'3i hx hZ hown (host := "") (Or.inl (qw hw 32 rfl)) Via.refl e'3i F_2t (g := (mkF m 173 #[rv x0, iv i_1, iv i_0, iv i_0, iv i_0] [.ref x0])) rfl rfl (hb hby d26_173)
 refine goo st'3j ?_
 refine goo (fun _ k => XS.iload X'3j.here hx rfl (hb hby d26_176) rfl k) ?_
 obtain ⟨cl1763, Ar1763, -, S1763, -, H1763, -⟩ := id V_2w
 have hin1763 := inb_of S1763 (j := i_0) ⟨by decide, by decide⟩
 refine goo (fun _ k => X'3j.aaload hx (j := i_0) (v := .null) (by rw [e'3j]; exact Ar1763.1) (State.isArrayOf_alike hZ.alike Ar1763.2.1) rfl Ar1763.2.2 hin1763 (H1763.at hin1763 rfl) (g := (mkF m 178 #[rv x0, iv i_1, iv i_0, iv i_0, iv i_0] [.int i_0, .ref ar])) rfl rfl (hb hby d26_178) _ k) ?_
 refine goo (fun _ k => XS.ifnullYes X'3j.here hx rfl (pc0 := 179) (pc' := 204) rfl (hb hby d26_179) rfl (by decide) (by decide) <| XS.iinc X'3j.here hx rfl (hb hby d26_204) rfl (l' := #[rv x0, iv i_1, iv i_0, iv i_0, iv i_1]) rfl k) ?_
 show own_G _ _ _ _ (T'3j.setTop (mkF m 207 #[rv x0, iv i_1, iv i_0, iv i_0, iv i_1] []))
 refine goo (fun _ k => XS.goto X'3j.here hx rfl (pc0 := 207) (pc' := 163) rfl (hb hby d26_207) (by decide) (by decide) <| XS.iload X'3j.here hx rfl (hb hby d26_163) rfl <| XS.aloadN X'3j.here hx rfl (hb hby d26_165) rfl rfl k) ?_
 obtain ⟨T'3k, X'3k, e'3k, st'3k⟩ := getF X'3j hx hZ hown (host := "") (Or.inl (qw hw 39 rfl)) Via.refl e'3j F_2u (g := (mkF m 166 #[rv x0, iv i_1, iv i_0, iv i_0, iv i_1] [.ref x0, .int i_1])) rfl rfl (hb hby d26_166)
 refine goo st'3k ?_
 refine goo (fun _ k => XS.icmpNo X'3k.here hx rfl (hb hby d26_169) rfl ((tlt (by decide : i_1 < i_4)).2.1) <| XS.aloadN X'3k.here hx rfl (hb hby d26_172) rfl rfl k) ?_
 show own_G _ _ _ _ (T'3k.setTop (mkF m 173 #[rv x0, iv i_1, iv i_0, iv i_0, iv i_1] [.ref x0]))
 obtain ⟨T'3l, X'3l, e'3l, st'3l⟩ := getF X'3k hx hZ hown (host := "") (Or.inl (qw hw 32 rfl)) Via.refl e'3k F_2t (g := (mkF m 173 #[rv x0, iv i_1, iv i_0, iv i_0, iv i_1] [.ref x0])) rfl rfl (hb hby d26_173)
 refine goo st'3l ?_
 refine goo (fun _ k => XS.iload X'3l.here hx rfl (hb hby d26_176) rfl k) ?_
 obtain ⟨cl1766, Ar1766, -, S1766, -, H1766, -⟩ := id V_2w
 have hin1766 := inb_of S1766 (j := i_1) ⟨by decide, by decide⟩
 refine goo (fun _ k => X'3l.aaload hx (j := i_1) (v := .null) (by rw [e'3l]; exact Ar1766.1) (State.isArrayOf_alike hZ.alike Ar1766.2.1) rfl Ar1766.2.2 hin1766 (H1766.at hin1766 rfl) (g := (mkF m 178 #[rv x0, iv i_1, iv i_0, iv i_0, iv i_1] [.int i_1, .ref ar])) rfl rfl (hb hby d26_178) _ k) ?_
 refine goo (fun _ k => XS.ifnullYes X'3l.here hx rfl (pc0 := 179) (pc' := 204) rfl (hb hby d26_179) rfl (by decide) (by decide) <| XS.iinc X'3l.here hx rfl (hb hby d26_204) rfl (l' := #[rv x0, iv i_1, iv i_0, iv i_0, iv i_2]) rfl <| XS.goto X'3l.here hx rfl (pc0 := 207) (pc' := 163) rfl (hb hby d26_207) (by decide) (by decide) k) ?_
 show own_G _ _ _ _ (T'3l.setTop (mkF m 163 #[rv x0, iv i_1, iv i_0, iv i_0, iv i_2] []))
 refine goo (fun _ k => XS.iload X'3l.here hx rfl (hb hby d26_163) rfl <| XS.aloadN X'3l.here hx rfl (hb hby d26_165) rfl rfl k) ?_
 obtain ⟨T'3m, X'3m, e'3m, st'3m⟩ := getF X'3l hx hZ hown (host := "") (Or.inl (qw hw 39 rfl)) Via.refl e'3l F_2u (g := (mkF m 166 #[rv x0, iv i_1, iv i_0, iv i_0, iv i_2] [.ref x0, .int i_2])) rfl rfl (hb hby d26_166)
 refine goo st'3m ?_
 refine goo (fun _ k => XS.icmpNo X'3m.here hx rfl (hb hby d26_169) rfl ((tlt (by decide : i_2 < i_4)).2.1) <| XS.aloadN X'3m.here hx rfl (hb hby d26_172) rfl rfl k) ?_
 obtain ⟨T'3n, X'3n, e'3n, st'3n⟩ := getF X'3m hx hZ hown (host := "") (Or.inl (qw hw 32 rfl)) Via.refl e'3m F_2t (g := (mkF m 173 #[rv x0, iv i_1, iv i_0, iv i_0, iv i_2] [.ref x0])) rfl rfl (hb hby d26_173)
 refine goo st'3n ?_
 show own_G _ _ _ _ (T'3n.setTop (mkF m 176 #[rv x0, iv i_1, iv i_0, iv i_0, iv i_2] [.ref ar]))
 refine goo (fun _ k => XS.iload X'3n.here hx rfl (hb hby d26_176) rfl k) ?_
 obtain ⟨cl1769, Ar1769, -, S1769, -, H1769, -⟩ := id V_2w
 have hin1769 := inb_of S1769 (j := i_2) ⟨by decide, by decide⟩
 refine goo (fun _ k => X'3n.aaload hx (j := i_2) (v := .null) (by rw [e'3n]; exact Ar1769.1) (State.isArrayOf_alike hZ.alike Ar1769.2.1) rfl Ar1769.2.2 hin1769 (H1769.at hin1769 rfl) (g := (mkF m 178 #[rv x0, iv i_1, iv i_0, iv i_0, iv i_2] [.int i_2, .ref ar])) rfl rfl (hb hby d26_178) _ k) ?_
 refine goo (fun _ k => XS.ifnullYes X'3n.here hx rfl (pc0 := 179) (pc' := 204) rfl (hb hby d26_179) rfl (by decide) (by decide) <| XS.iinc X'3n.here hx rfl (hb hby d26_204) rfl (l' := #[rv x0, iv i_1, iv i_0, iv i_0, iv i_3]) rfl <| XS.goto X'3n.here hx rfl (pc0 := 207) (pc' := 163) rfl (hb hby d26_207) (by decide) (by decide) <| XS.iload X'3n.here hx rfl (hb hby d26_163) rfl k) ?_
 show own_G _ _ _ _ (T'3n.setTop (mkF m 165 #[rv x0, iv i_1, iv i_0, iv i_0, iv i_3] [.int i_3]))
 refine goo (fun _ k => XS.aloadN X'3n.here hx rfl (hb hby d26_165) rfl rfl k) ?_
 obtain ⟨T'3o, X'3o, e'3o, st'3o⟩ := getF X'3n hx hZ hown (host := "") (Or.inl (qw hw 39 rfl)) Via.refl e'3n F_2u (g := (mkF m 166 #[rv x0, iv i_1, iv i_0, iv i_0, iv i_3] [.ref x0, .int i_3])) rfl rfl (hb hby d26_166)
 refine goo st'3o ?_
 refine goo (fun _ k => XS.icmpNo X'3o.here hx rfl (hb hby d26_169) rfl ((tlt (by decide : i_3 < i_4)).2.1) <| XS.aloadN X'3o.here hx rfl (hb hby d26_172) rfl rfl k) ?_
 obtain ⟨T'3p, X'3p, e'3p, st'3p⟩ := getF X'3o hx hZ hown (host := "") (Or.inl (qw hw 32 rfl)) Via.refl e'3o F_2t (g := (mkF m 173 #[rv x0, iv i_1, iv i_0, iv i_0, iv i_3] [.ref x0])) rfl rfl (hb hby d26_173)
 refine goo st'3p ?_
 refine goo (fun _ k => XS.iload X'3p.here hx rfl (hb hby d26_176) rfl k) ?_
 show own_G _ _ _ _ (T'3p.setTop (mkF m 178 #[rv x0, iv i_1, iv i_0, iv i_0, iv i_3] [.int i_3, .ref ar]))
 obtain ⟨cl1772, Ar1772, -, S1772, -, H1772, -⟩ := id V_2w
 have hin1772 := inb_of S1772 (j := i_3) ⟨by decide, by decide⟩
 refine goo (fun _ k => X'3p.aaload hx (j := i_3) (v := (.ref vo)) (by rw [e'3p]; exact Ar1772.1) (State.isArrayOf_alike hZ.alike Ar1772.2.1) rfl Ar1772.2.2 hin1772 (H1772.at hin1772 rfl) (g := (mkF m 178 #[rv x0, iv i_1, iv i_0, iv i_0, iv i_3] [.int i_3, .ref ar])) rfl rfl (hb hby d26_178) _ k) ?_
 refine goo (fun _ k => XS.ifnullNo X'3p.here hx rfl (hb hby d26_179) rfl <| XS.aloadN X'3p.here hx rfl (hb hby d26_182) rfl rfl k) ?_
 obtain ⟨T'3q, X'3q, e'3q, st'3q⟩ := getF X'3p hx hZ hown (host := "") (Or.inl (qw hw 51 rfl)) Via.refl e'3p F_3f (g := (mkF m 183 #[rv x0, iv i_1, iv i_0, iv i_0, iv i_3] [.ref x0])) rfl rfl (hb hby d26_183)
 refine goo st'3q ?_
 refine goo (fun _ k => XS.iload X'3q.here hx rfl (hb hby d26_186) rfl <| XS.i2l X'3q.here hx rfl (hb hby d26_188) rfl k) ?_
 show own_G _ _ _ _ (T'3q.setTop (mkF m 189 #[rv x0, iv i_1, iv i_0, iv i_0, iv i_3] [(.long (3 : Int64)), .ref b't]))
 refine goo (fun _ k => XS.lconst X'3q.here hx rfl (hb hby d26_189) <| XS.ladd X'3q.here hx rfl (hb hby d26_190) rfl k) ?_
 obtain ⟨T'3r, X'3r, e'3r, st'3r⟩ := own_callP X'3q hx hZ (y := Y13) hown (qw hw 43 rfl) (qw hw 2 rfl) (qw hw 3 rfl) (qw hw 4 rfl) (by decide) (W := 1) (rm_vo4 l Z a0 hw []  n0 ca kca cvs bx h'2r Old_2y p11_) (by decide) (by decide) rfl rfl e'3q (g := (mkF m 191 #[rv x0, iv i_1, iv i_0, iv i_0, iv i_3] [(.long (4 : Int64)), .ref b't])) rfl (by rw [hml]; rfl) (argsL := [(.long (4 : Int64))]) (rest := [.ref b't]) (lenOf own_pd11 rfl) rfl rfl (Nat.le_of_eq rfl) (hb hby d26_191) (by decide) (by decide)
 refine goo st'3r ?_
 have X_3s := own_LCx p11_ Old_2y 132 (by decide)
 refine goo (fun _ k => XS.aloadN X'3r.here hx rfl (hb hby d26_194) rfl rfl k) ?_
 obtain ⟨T'3t, X'3t, e'3t, st'3t⟩ := getF X'3r hx hZ hown (host := "") (Or.inl (qw hw 32 rfl)) Via.refl e'3r F_2t (g := (mkF m 195 #[rv x0, iv i_1, iv i_0, iv i_0, iv i_3] [.ref x0, (.ref (bx 132)), .ref b't])) rfl rfl (hb hby d26_195)
 refine goo st'3t ?_
 refine goo (fun _ k => XS.iload X'3t.here hx rfl (hb hby d26_198) rfl k) ?_
 show own_G _ _ _ _ (T'3t.setTop (mkF m 200 #[rv x0, iv i_1, iv i_0, iv i_0, iv i_3] [.int i_3, .ref ar, (.ref (bx 132)), .ref b't]))
 obtain ⟨cl1777, Ar1777, -, S1777, -, H1777, -⟩ := id V_2w
 have hin1777 := inb_of S1777 (j := i_3) ⟨by decide, by decide⟩
 refine goo (fun _ k => X'3t.aaload hx (j := i_3) (v := (.ref vo)) (by rw [e'3t]; exact Ar1777.1) (State.isArrayOf_alike hZ.alike Ar1777.2.1) rfl Ar1777.2.2 hin1777 (H1777.at hin1777 rfl) (g := (mkF m 200 #[rv x0, iv i_1, iv i_0, iv i_0, iv i_3] [.int i_3, .ref ar, (.ref (bx 132)), .ref b't])) rfl rfl (hb hby d26_200) _ k) ?_
 obtain ⟨cq'3u, kq'3u, q'3ua, q'3ub, q'3uc⟩ := isOf hZ e'3t X_31
 obtain ⟨_, _, ⟨T'3u, L'3u, k'3u, n'3u⟩, -, X'3u, ⟨Lc'3u, hQ'3u, l'3u, y'3u, z'3u⟩, st'3u⟩ := X'3t.virtualBack hx (y := Y20) (z := Y20) hown (mvT hZ (qw hw 103 rfl)) (mvT hZ (qw hw 104 rfl)) (notFace_of_selects (args := #[]) (mvT hZ (qw hw 106 rfl))) (mvT hZ (qw hw 106 rfl)) (mvT hZ (qw hw 105 rfl)) (by decide) (backOf (W := 0) (rm_pu_0_1 l Z a0 hw [] b't vo bk1684 ky1684 vl1684 hs1684 ch1684 k'1l k'1m k'1n k'1o k'1p (bx 132) (4 : Int64) i_4 i_2027789881 h'2r n0 Z_3g X_31 F_32 F_33 F_34 F_35 F_36 F_37 F_38 F_39 V_3a V_3b V_3c V_3d V_3e ge_x ge_1u ge_1z ge_24 ge_29 ge_2e ne_1t ne_1y ne_23 ne_28 ne_2d Hn0_1684 Hn1_1684 Hn2_1684 Hn3_1684 Hn4_1684 Hn5_1684 Hn6_1684 Hn7_1684 Hn8_1684 Hn9_1684 Ho2_1684 Ho3_1684 X_3s (own_LCh p11_ 132 (by decide) (4 : Int64) (by decide)) (by decide) (by decide) X_2x (by decide) Old_2y) hZ (qw hw 107 rfl) (qw hw 55 rfl) (by decide) (by decide)) q'3ua q'3uc (g := (mkF m 201 #[rv x0, iv i_1, iv i_0, iv i_0, iv i_3] [.ref vo, (.ref (bx 132)), .ref b't])) rfl (by rw [hml]; rfl) (Steps.refl _) (argsL := [(.ref (bx 132)), .ref vo]) (rest := []) (lenOf own_pd10 rfl) rfl (Nat.le_of_eq rfl) (hb hby d26_201) (fun _ _ => ⟨rfl, e'3t, (by decide : 6 + 0 ≤ _), (by decide : 30 + 0 ≤ _)⟩)
 dsimp only [Pt.U, Pt.locs, Pt.cells, Pt.slots] at X'3u l'3u y'3u z'3u st'3u hQ'3u
 subst l'3u y'3u z'3u
 obtain ⟨rfl, Nq'3u, K'3u, G_3v, G_3w, G_3x, G_3y, G_3z, G_40, G_41, G_42, G_43, G_44, G_45, G_46, G_47, G_48⟩ := hQ'3u
 have X_49 := X_2s.keep K'3u
 have F_4a := F_2t.keep K'3u (ninS ne_u (ninS ne_1q (ninS ne_1v (ninS ne_20 (ninS ne_25 (ninS ne_2a nin0))))))
 have F_4b := F_2u.keep K'3u (ninS ne_u (ninS ne_1q (ninS ne_1v (ninS ne_20 (ninS ne_25 (ninS ne_2a nin0))))))
 have F_4c := F_2v.keep K'3u (ninS ne_u (ninS ne_1q (ninS ne_1v (ninS ne_20 (ninS ne_25 (ninS ne_2a nin0))))))
 have F_4d := F_3f.keep K'3u (ninS ne_u (ninS ne_1q (ninS ne_1v (ninS ne_20 (ninS ne_25 (ninS ne_2a nin0))))))
 have V_4e := V_2w.keep K'3u (ninS ne_v (ninS ne_1r (ninS ne_1w (ninS ne_21 (ninS ne_26 (ninS ne_2b nin0))))))
 have S_4f := own_staKeep S_2z K'3u (allS (own_nsX X_31) (allS (own_nsV V_3a) (allS (own_nsV V_3b) (allS (own_nsV V_3c) (allS (own_nsV V_3d) (allS (own_nsV V_3e) all0))))))
 have V_4g := V_30.keep K'3u (ninS ne_w (ninS ne_1s (ninS ne_1x (ninS ne_22 (ninS ne_27 (ninS ne_2c nin0))))))
 have KP_4h : Keep h0 T'3u.heap [x0] := KP_3h.trans K'3u (allS (Or.inr sz_1662) (allS (Or.inr sz_1692) (allS (Or.inr sz_1699) (allS (Or.inr sz_1706) (allS (Or.inr sz_1713) (allS (Or.inr sz_1720) all0))))))
 have N_3u := Fr.app N_2r Nq'3u
 refine goo (fun _ k => st'3u.trans k) ?_
 refine goo (fun _ k => XS.iinc X'3u.here hx rfl (hb hby d26_204) rfl (l' := #[rv x0, iv i_1, iv i_0, iv i_0, iv i_4]) rfl <| XS.goto X'3u.here hx rfl (pc0 := 207) (pc' := 163) rfl (hb hby d26_207) (by decide) (by decide) <| XS.iload X'3u.here hx rfl (hb hby d26_163) rfl <| XS.aloadN X'3u.here hx rfl (hb hby d26_165) rfl rfl k) ?_
 show own_G _ _ _ _ (T'3u.setTop (mkF m 166 #[rv x0, iv i_1, iv i_0, iv i_0, iv i_4] [.ref x0, .int i_4]))
 obtain ⟨T'4i, X'4i, e'4i, st'4i⟩ := getF X'3u hx hZ hown (host := "") (Or.inl (qw hw 39 rfl)) Via.refl rfl F_4b (g := (mkF m 166 #[rv x0, iv i_1, iv i_0, iv i_0, iv i_4] [.ref x0, .int i_4])) rfl rfl (hb hby d26_166)
 refine goo st'4i ?_
 refine goo (fun _ k => XS.icmpYes X'4i.here hx rfl (pc0 := 169) (pc' := 210) rfl (hb hby d26_169) rfl ((flt (by decide : ¬ (i_4 < i_4))).2.1) (by decide) (by decide) <| XS.iloadN X'4i.here hx rfl (hb hby d26_210) rfl <| XS.ifNo X'4i.here hx rfl (hb hby d26_211) rfl (((if0 _ _).trans (teq (by decide : i_0 = i_0)).2)) k) ?_
 obtain ⟨T'4j, X'4j, e'4j, st'4j⟩ := getS2 X'4i hx hZ hown (host := "") (Or.inl (qw hw 30 rfl)) Via.refl e'4i S_4f (g := (mkF m 214 #[rv x0, iv i_1, iv i_0, iv i_0, iv i_4] [])) rfl (hb hby d26_214)
 refine goo st'4j ?_
 refine goo (fun _ k => XS.goto X'4j.here hx rfl (pc0 := 217) (pc' := 232) rfl (hb hby d26_217) (by decide) (by decide) k) ?_
 show own_G _ _ _ _ (T'4j.setTop (mkF m 232 #[rv x0, iv i_1, iv i_0, iv i_0, iv i_4] [.ref em]))
 refine goo (fun _ k => XS.astore X'4j.here hx rfl (hb hby d26_232) rfl rfl (l' := #[rv x0, iv i_1, iv i_0, iv i_0, rv em]) rfl <| XS.aloadN X'4j.here hx rfl (hb hby d26_234) rfl rfl k) ?_
 obtain ⟨T'4k, X'4k, e'4k, st'4k⟩ := getF X'4j hx hZ hown (host := "") (Or.inl (qw hw 32 rfl)) Via.refl e'4j F_4a (g := (mkF m 235 #[rv x0, iv i_1, iv i_0, iv i_0, rv em] [.ref x0])) rfl rfl (hb hby d26_235)
 refine goo st'4k ?_
 refine goo (fun _ k => XS.iconst X'4k.here hx rfl (hb hby d26_238) <| XS.aload X'4k.here hx rfl (hb hby d26_239) rfl rfl <| XS.iconst X'4k.here hx rfl (hb hby d26_241) k) ?_
 show own_G _ _ _ _ (T'4k.setTop (mkF m 242 #[rv x0, iv i_1, iv i_0, iv i_0, rv em] [.int i_0, .ref em, .int i_0, .ref ar]))
 refine goo (fun _ k => XS.iloadN X'4k.here hx rfl (hb hby d26_242) rfl k) ?_
 obtain ⟨T'4l, X'4l, e'4l, st'4l⟩ := own_cp0 X'4k hx hZ hown (qw hw 195 rfl) (qw hw 191 rfl) (qw hw 189 rfl) (qw hw 190 rfl) e'4k V_4e V_4g rfl rfl (g := (mkF m 243 #[rv x0, iv i_1, iv i_0, iv i_0, rv em] [.int i_0, .int i_0, .ref em, .int i_0, .ref ar])) rfl (by rw [hml]; rfl) rfl (hb hby d26_243) (by decide) (W := 0) (Nat.le_of_eq rfl) (by decide)
 refine goo st'4l ?_
 refine goo (fun _ k => XS.aloadN X'4l.here hx rfl (hb hby d26_246) rfl rfl <| XS.aload X'4l.here hx rfl (hb hby d26_247) rfl rfl k) ?_
 obtain ⟨T'4m, h'4m, X'4m, e'4m, W'4m, st'4m⟩ := putF X'4l hx hZ hown (host := "") (Or.inl (qw hw 32 rfl)) Via.refl e'4l F_4a X_49 (Or.inl (qw hw 33 rfl)) (qw hw 24 rfl) (ty := (.array (.object s_2))) (by decide) rfl rfl (g := (mkF m 249 #[rv x0, iv i_1, iv i_0, iv i_0, rv em] [.ref em, .ref x0])) rfl rfl (hb hby d26_249)
 have X_4n := X_49.wr W'4m
 have F_4o := F_4b.other W'4m (Or.inr (slot_ne (Or.inl (qw hw 40 rfl)) (Or.inl (qw hw 33 rfl)) (by decide) (t := .int) (t' := (.array (.object s_2))) (by decide) (by decide)))
 have F_4p := F_4c.other W'4m (Or.inr (slot_ne (Or.inl (qw hw 152 rfl)) (Or.inl (qw hw 33 rfl)) (by decide) (t := .boolean) (t' := (.array (.object s_2))) (by decide) (by decide)))
 have F_4q := F_4d.other W'4m (Or.inr (slot_ne (Or.inl (qw hw 52 rfl)) (Or.inl (qw hw 33 rfl)) (by decide) (t := (.object s_0)) (t' := (.array (.object s_2))) (by decide) (by decide)))
 have X_4r := G_3v.wr W'4m
 have F_4s := G_3w.other W'4m (Or.inl (Ne.symm ne_u))
 have F_4t := G_3x.other W'4m (Or.inl (Ne.symm ne_u))
 have F_4u := G_3y.other W'4m (Or.inl (Ne.symm ne_u))
 have F_4v := G_3z.other W'4m (Or.inl (Ne.symm ne_u))
 have F_4w := G_40.other W'4m (Or.inl (Ne.symm ne_u))
 have F_4x := G_41.other W'4m (Or.inl (Ne.symm ne_u))
 have F_4y := G_42.other W'4m (Or.inl (Ne.symm ne_u))
 have F_4z := G_43.other W'4m (Or.inl (Ne.symm ne_u))
 have V_50 := G_44.other W'4m (Ne.symm ne_1q)
 have V_51 := G_45.other W'4m (Ne.symm ne_1v)
 have V_52 := G_46.other W'4m (Ne.symm ne_20)
 have V_53 := G_47.other W'4m (Ne.symm ne_25)
 have V_54 := G_48.other W'4m (Ne.symm ne_2a)
 have F_55 := F_4a.same W'4m
 have KP_56 : Keep h0 h'4m [x0] := KP_4h.wr W'4m (Or.inl (List.mem_of_getElem? (i := 0) rfl))
 have N_4m := Fr.snoc X'4m N_3u p6_
 refine goo st'4m ?_
 refine goo (fun _ k => XS.aloadN X'4m.here hx rfl (hb hby d26_252) rfl rfl k) ?_
 show own_G _ _ _ _ (T'4m.setTop (mkF m 253 #[rv x0, iv i_1, iv i_0, iv i_0, rv em] [.ref x0]))
 refine goo (fun _ k => XS.iloadN X'4m.here hx rfl (hb hby d26_253) rfl k) ?_
 obtain ⟨T'57, h'57, X'57, e'57, W'57, st'57⟩ := putF X'4m hx hZ hown (host := "") (Or.inl (qw hw 39 rfl)) Via.refl e'4m F_4o X_4n (Or.inl (qw hw 40 rfl)) (qw hw 24 rfl) (ty := .int) (by decide) rfl rfl (g := (mkF m 254 #[rv x0, iv i_1, iv i_0, iv i_0, rv em] [.int i_0, .ref x0])) rfl rfl (hb hby d26_254)
 have X_58 := X_4n.wr W'57
 have F_59 := F_55.other W'57 (Or.inr (slot_ne (Or.inl (qw hw 33 rfl)) (Or.inl (qw hw 40 rfl)) (by decide) (t := (.array (.object s_2))) (t' := .int) (by decide) (by decide)))
 have F_5a := F_4p.other W'57 (Or.inr (slot_ne (Or.inl (qw hw 152 rfl)) (Or.inl (qw hw 40 rfl)) (by decide) (t := .boolean) (t' := .int) (by decide) (by decide)))
 have F_5b := F_4q.other W'57 (Or.inr (slot_ne (Or.inl (qw hw 52 rfl)) (Or.inl (qw hw 40 rfl)) (by decide) (t := (.object s_0)) (t' := .int) (by decide) (by decide)))
 have X_5c := X_4r.wr W'57
 have F_5d := F_4s.other W'57 (Or.inl (Ne.symm ne_u))
 have F_5e := F_4t.other W'57 (Or.inl (Ne.symm ne_u))
 have F_5f := F_4u.other W'57 (Or.inl (Ne.symm ne_u))
 have F_5g := F_4v.other W'57 (Or.inl (Ne.symm ne_u))
 have F_5h := F_4w.other W'57 (Or.inl (Ne.symm ne_u))
 have F_5i := F_4x.other W'57 (Or.inl (Ne.symm ne_u))
 have F_5j := F_4y.other W'57 (Or.inl (Ne.symm ne_u))
 have F_5k := F_4z.other W'57 (Or.inl (Ne.symm ne_u))
 have V_5l := V_50.other W'57 (Ne.symm ne_1q)
 have V_5m := V_51.other W'57 (Ne.symm ne_1v)
 have V_5n := V_52.other W'57 (Ne.symm ne_20)
 have V_5o := V_53.other W'57 (Ne.symm ne_25)
 have V_5p := V_54.other W'57 (Ne.symm ne_2a)
 have F_5q := F_4o.same W'57
 have KP_5r : Keep h0 h'57 [x0] := KP_56.wr W'57 (Or.inl (List.mem_of_getElem? (i := 0) rfl))
 have N_57 := Fr.snoc X'57 N_4m p6_
 refine goo st'57 ?_
 refine goo (fun _ k => XS.iconst X'57.here hx rfl (hb hby d26_257) k) ?_
 show own_G _ _ _ _ (T'57.setTop (mkF m 258 #[rv x0, iv i_1, iv i_0, iv i_0, rv em] [.int i_0]))
 exact own_end X'57 Bd.notSynchronized (v := some (.int (nar .boolean i_0))) (fun h => by rw [Bd.returns] at h; cases h) (Q := Q_rm_mr4h Z x0 ar em ho_ ka ke vo ca kca cvs bx h0 n0) (by show Q_rm_mr4h Z x0 ar em ho_ ka ke vo ca kca cvs bx h0 n0 (some (.int (nar .boolean i_0))) T'57.heap _; rw [e'57]; exact ⟨rfl, N_57, KP_5r, X_58, F_59, F_5q, F_5a, ⟨b't, bk1684, ky1684, vl1684, hs1684, ch1684, k'1l, k'1m, k'1n, k'1o, k'1p, sz_1662, sz_1692, sz_1699, sz_1706, sz_1713, sz_1720, F_5b, X_5c, F_5d, F_5e, F_5f, F_5g, F_5h, F_5i, F_5j, F_5k, V_5l, V_5m, V_5n, V_5o, V_5p, ne_1t, ne_1y, ne_23, ne_28, ne_2d, Hn0_1684, Hn1_1684, Hn2_1684, Hn3_1684, Hn4_1684, Hn5_1684, Hn6_1684, Hn7_1684, Hn8_1684, Hn9_1684, Ho2_1684, Ho3_1684⟩⟩) (fun fs hr => retN X'57 hx (t := .boolean) Bd.returns (by simp) (hb hby d26_258) hr) (by decide) (by decide)
def Q_rm_ph4 (Z : State) (x0 : Addr) (vo : Addr) (hp : Addr) (bk ky vl hs ch : Addr) (k1 k2 k3 k4 k5 : ClassId) (kq : Addr) (kv : Int64) (hc hv : Int32) (ca : Addr) (kca : ClassId) (cvs : List Value) (bx : Nat → Addr) (h0 : Heap) (n0 : Nat) (v : Option Value) (h : Heap) (L : List Loc) : Prop := v = none ∧ Fr n0 L ∧ Keep h0 h [hp, bk, ky, vl, hs, ch]
theorem rm_ph4 (l : Launch) (Z : State) (a0 : Array Value) (hw : own_HW a0 Z) (ws : List Jvm.Cond) (x0 : Addr) (vo : Addr) (hp : Addr) (bk ky vl hs ch : Addr) (k1 k2 k3 k4 k5 : ClassId) (kq : Addr) (kv : Int64) (hc hv : Int32) (ca : Addr) (kca : ClassId) (cvs : List Value) (bx : Nat → Addr) (h0 : Heap) (n0 : Nat) (Z0 : n0 ≤ h0.size) (p0_ : Exa Z h0 x0 s_1) (p1_ : Fld Z h0 x0 s_1 "hash" "Lcom/example/plainsong/plainsong/engine/HashPart;" (.ref hp)) (p2_ : Exa Z h0 hp s_0) (p3_ : Fld Z h0 hp s_0 "buckets" "[I" (.ref bk)) (p4_ : Fld Z h0 hp s_0 "keys" "[Ljava/lang/Object;" (.ref ky)) (p5_ : Fld Z h0 hp s_0 "values" "[Ljava/lang/Object;" (.ref vl)) (p6_ : Fld Z h0 hp s_0 "hashes" "[I" (.ref hs)) (p7_ : Fld Z h0 hp s_0 "chain" "[I" (.ref ch)) (p8_ : Fld Z h0 hp s_0 "size" "I" (.int i_1)) (p9_ : Fld Z h0 hp s_0 "count" "I" (.int i_1)) (p10_ : Fld Z h0 hp s_0 "emptied" "Z" (.int i_0)) (p11_ : Arv Z h0 bk k1 .int i_4 [(.int (-1 : Int32)), .int i_0, (.int (-1 : Int32)), (.int (-1 : Int32))] (.int i_0)) (p12_ : Arv Z h0 ky k2 (.object s_2) i_4 [(.ref (bx 132)), .null, .null, .null] .null) (p13_ : Arv Z h0 vl k3 (.object s_2) i_4 [.ref vo, .null, .null, .null] .null) (p14_ : Arv Z h0 hs k4 .int i_4 [.int i_2027789881, .int i_0, .int i_0, .int i_0] (.int i_0)) (p15_ : Arv Z h0 ch k5 .int i_4 [(.int (-1 : Int32)), .int i_0, .int i_0, .int i_0] (.int i_0)) (p16_ : n0 ≤ hp) (p17_ : n0 ≤ bk) (p18_ : n0 ≤ ky) (p19_ : n0 ≤ vl) (p20_ : n0 ≤ hs) (p21_ : n0 ≤ ch) (p22_ : hp ≠ bk) (p23_ : hp ≠ ky) (p24_ : hp ≠ vl) (p25_ : hp ≠ hs) (p26_ : hp ≠ ch) (p27_ : bk ≠ ky) (p28_ : bk ≠ vl) (p29_ : bk ≠ hs) (p30_ : bk ≠ ch) (p31_ : ky ≠ vl) (p32_ : ky ≠ hs) (p33_ : ky ≠ ch) (p34_ : vl ≠ hs) (p35_ : vl ≠ ch) (p36_ : hs ≠ ch) (p37_ : Ovr Z k2 s_2) (p38_ : Ovr Z k3 s_2) (p39_ : Exa Z h0 kq s_3) (p40_ : Fld Z Z.heap kq s_3 "value" "J" (.long kv)) (p41_ : F18 kv = hc) (p42_ : own_sp hc = hv) (p43_ : hv &&& i_3 = i_0) (p44_ : Exa Z h0 vo s_3) (p45_ : Old Z n0 h0)  :
  MetFree l Y21 (head1 (Jvm.Cond.code Y21 prog_60_method_17_code 3 none :: ws) (rr 4 0 0 55)) (fun a U => a = #[.ref x0, (.ref (kq)), .ref vo] ∧ Z.Warmed39 U.vm ∧ U.heap = h0) (fun _ _ _ _ _ => True) (fun _ U o U' => ∃ v L, o = .returned v ∧ Q_rm_ph4 Z x0 vo hp bk ky vl hs ch k1 k2 k3 k4 k5 kq kv hc hv ca kca cvs bx h0 n0 v U'.heap L ∧ FrameEnd U o U' L (rr 4 0 0 55).cells (rr 4 0 0 55).slots) := by
 refine MetFree.of_bodySF (plainFor_of_name own_pn2) hisR ?_
 intro p e s m args below meth c s₁ Bd hml0 hP hK
 obtain ⟨rfl, hZ, hh⟩ := hP
 have hx := Bd.exec
 have hby := Bd.bytes
 have hml : c.maxLocals = 3 := hml0
 have hown : s.vm.findClass s_1 = some m.cls := findClass_of_methodNamed Bd.named
 have hnm := (name_of_methodNamed Bd.named Bd.method).1
 have X0 : Stand p l e (rr 4 0 0 55) s m #[.ref x0, (.ref (kq)), .ref vo] below meth c s₁ [] 0 0 := Stand.of_body Bd
 have e0 : s₁.heap = h0 := by rw [← hh, Bd.state]; rfl
 show own_G _ _ _ _ (s₁.setTop (entryFrame m #[.ref x0, (.ref (kq)), .ref vo] 3))
 refine goo (fun _ k => castTop (ef_7_RRR m x0 (kq) vo) k) ?_
 have N0 := Fr.nil n0
 have KP0 := Keep.refl h0 [hp, bk, ky, vl, hs, ch]
 refine goo (fun _ k => XS.aloadN X0.here hx rfl (hb hby d7_0) rfl rfl <| XS.ifnonnullYes X0.here hx rfl (pc0 := 1) (pc' := 23) rfl (hb hby d7_1) rfl (by decide) (by decide) <| XS.aloadN X0.here hx rfl (hb hby d7_23) rfl rfl k) ?_
 obtain ⟨T'0, X'0, e'0, st'0⟩ := getF X0 hx hZ hown (host := "") (Or.inl (qw hw 51 rfl)) Via.refl e0 p1_ (g := (mkF m 24 #[rv x0, rv kq, rv vo] [.ref x0])) rfl rfl (hb hby d7_24)
 refine goo st'0 ?_
 refine goo (fun _ k => XS.ifnonnullYes X'0.here hx rfl (pc0 := 27) (pc' := 42) rfl (hb hby d7_27) rfl (by decide) (by decide) k) ?_
 show own_G _ _ _ _ (T'0.setTop (mkF m 42 #[rv x0, rv kq, rv vo] []))
 refine goo (fun _ k => XS.aloadN X'0.here hx rfl (hb hby d7_42) rfl rfl k) ?_
 obtain ⟨T'1, X'1, e'1, st'1⟩ := getF X'0 hx hZ hown (host := "") (Or.inl (qw hw 51 rfl)) Via.refl e'0 p1_ (g := (mkF m 43 #[rv x0, rv kq, rv vo] [.ref x0])) rfl rfl (hb hby d7_43)
 refine goo st'1 ?_
 refine goo (fun _ k => XS.aloadN X'1.here hx rfl (hb hby d7_46) rfl rfl <| XS.aloadN X'1.here hx rfl (hb hby d7_47) rfl rfl k) ?_
 obtain ⟨cq'2, kq'2, q'2a, q'2b, q'2c⟩ := isOf hZ e'1 p2_
 obtain ⟨_, _, ⟨T'2, L'2, k'2, n'2⟩, -, X'2, ⟨Lc'2, hQ'2, l'2, y'2, z'2⟩, st'2⟩ := X'1.virtualBack hx (y := Y20) (z := Y20) hown (mvT hZ (qw hw 103 rfl)) (mvT hZ (qw hw 104 rfl)) (notFace_of_selects (args := #[]) (mvT hZ (qw hw 106 rfl))) (mvT hZ (qw hw 106 rfl)) (mvT hZ (qw hw 105 rfl)) (by decide) (backOf (W := 0) (rm_pu_1_0 l Z a0 hw [] hp vo bk ky vl hs ch k1 k2 k3 k4 k5 kq kv hc hv ca kca cvs bx h0 n0 Z0 p2_ p3_ p4_ p5_ p6_ p7_ p8_ p9_ p10_ p11_ p12_ p13_ p14_ p15_ p16_ p17_ p18_ p19_ p20_ p21_ p22_ p23_ p24_ p25_ p26_ p27_ p28_ p29_ p30_ p31_ p32_ p33_ p34_ p35_ p36_ p37_ p38_ p39_ p40_ p41_ p42_ p44_ p43_ p45_) hZ (qw hw 107 rfl) (qw hw 55 rfl) (by decide) (by decide)) q'2a q'2c (g := (mkF m 48 #[rv x0, rv kq, rv vo] [.ref vo, .ref kq, .ref hp])) rfl (by rw [hml]; rfl) (Steps.refl _) (argsL := [.ref kq, .ref vo]) (rest := []) (lenOf own_pd10 rfl) rfl (Nat.le_of_eq rfl) (hb hby d7_48) (fun _ _ => ⟨rfl, e'1, (by decide : 0 + 0 ≤ _), (by decide : 0 + 0 ≤ _)⟩)
 dsimp only [Pt.U, Pt.locs, Pt.cells, Pt.slots] at X'2 l'2 y'2 z'2 st'2 hQ'2
 subst l'2 y'2 z'2
 obtain ⟨rfl, Nq'2, K'2⟩ := hQ'2
 have KP_3 : Keep h0 T'2.heap [hp, bk, ky, vl, hs, ch] := KP0.trans K'2 (allS (Or.inl (List.mem_of_getElem? (i := 0) rfl)) (allS (Or.inl (List.mem_of_getElem? (i := 1) rfl)) (allS (Or.inl (List.mem_of_getElem? (i := 2) rfl)) (allS (Or.inl (List.mem_of_getElem? (i := 3) rfl)) (allS (Or.inl (List.mem_of_getElem? (i := 4) rfl)) (allS (Or.inl (List.mem_of_getElem? (i := 5) rfl)) all0))))))
 have N_2 := Fr.app N0 Nq'2
 refine goo (fun _ k => st'2.trans k) ?_
 show own_G _ _ _ _ (T'2.setTop (mkF m 51 #[rv x0, rv kq, rv vo] []))
 exact own_end X'2 Bd.notSynchronized (v := none) (fun _ => rfl) (Q := Q_rm_ph4 Z x0 vo hp bk ky vl hs ch k1 k2 k3 k4 k5 kq kv hc hv ca kca cvs bx h0 n0) (by show Q_rm_ph4 Z x0 vo hp bk ky vl hs ch k1 k2 k3 k4 k5 kq kv hc hv ca kca cvs bx h0 n0 (none) T'2.heap _; exact ⟨rfl, N_2, KP_3⟩) (fun fs hr => X'2.returnOut hx Bd.returns (hb hby d7_51) hr) (by decide) (by decide)
def Q_rm_apE (Z : State) (x0 : Addr) (vo : Addr) (ar mir : Addr) (ka : ClassId) (h0 : Heap) (n0 : Nat) (v : Option Value) (h : Heap) (L : List Loc) : Prop := v = none ∧ Fr n0 L ∧ Keep h0 h [x0] ∧ Exa Z h x0 s_1 ∧ Fld Z h x0 s_1 "arrayCount" "I" (.int i_1) ∧ Fld Z h x0 s_1 "holes" "Z" (.int i_0) ∧ Fld Z h x0 s_1 "hash" "Lcom/example/plainsong/plainsong/engine/HashPart;" .null ∧ ∃ ra k, h0.size ≤ ra ∧ Fld Z h x0 s_1 "array" "[Ljava/lang/Object;" (.ref ra) ∧ Exa Z h ra "[Ljava/lang/Object;" ∧ Ovr Z k s_2 ∧ Arv Z h ra k (.object s_2) i_4 [.ref vo, .null, .null, .null] .null
theorem own_pd18 : parseMethodDescriptor "()Z" = some ⟨[], some .boolean⟩ := by decide +kernel
theorem rm_apE (l : Launch) (Z : State) (a0 : Array Value) (hw : own_HW a0 Z) (ws : List Jvm.Cond) (x0 : Addr) (vo : Addr) (ar mir : Addr) (ka : ClassId) (h0 : Heap) (n0 : Nat) (Z0 : n0 ≤ h0.size) (p0_ : Exa Z h0 x0 s_1) (p1_ : Fld Z h0 x0 s_1 "array" "[Ljava/lang/Object;" (.ref ar)) (p2_ : Fld Z h0 x0 s_1 "arrayCount" "I" (.int i_0)) (p3_ : Fld Z h0 x0 s_1 "holes" "Z" (.int i_0)) (p4_ : Fld Z h0 x0 s_1 "hash" "Lcom/example/plainsong/plainsong/engine/HashPart;" .null) (p5_ : n0 ≤ x0) (p6_ : x0 ≠ ar) (p7_ : Exa Z h0 ar "[Ljava/lang/Object;") (p8_ : Arv Z h0 ar ka (.object s_2) i_0 [] .null) (p9_ : own_Mr Z "[Ljava/lang/Object;" mir) (p10_ : Exa Z h0 vo s_3)  :
  MetFree l Y26 (head1 (Jvm.Cond.code Y26 prog_60_method_14_code 6 none :: ws) (rr 4 1 4 63)) (fun a U => a = #[.ref x0, .ref vo] ∧ Z.Warmed39 U.vm ∧ U.heap = h0) (fun _ _ _ _ _ => True) (fun _ U o U' => ∃ v L, o = .returned v ∧ Q_rm_apE Z x0 vo ar mir ka h0 n0 v U'.heap L ∧ FrameEnd U o U' L (rr 4 1 4 63).cells (rr 4 1 4 63).slots) := by
 refine MetFree.of_bodySF (plainFor_of_name own_pn2) hisR ?_
 intro p e s m args below meth c s₁ Bd hml0 hP hK
 obtain ⟨rfl, hZ, hh⟩ := hP
 have hx := Bd.exec
 have hby := Bd.bytes
 have hml : c.maxLocals = 6 := hml0
 have hown : s.vm.findClass s_1 = some m.cls := findClass_of_methodNamed Bd.named
 have hnm := (name_of_methodNamed Bd.named Bd.method).1
 have X0 : Stand p l e (rr 4 1 4 63) s m #[.ref x0, .ref vo] below meth c s₁ [] 0 0 := Stand.of_body Bd
 have e0 : s₁.heap = h0 := by rw [← hh, Bd.state]; rfl
 show own_G _ _ _ _ (s₁.setTop (entryFrame m #[.ref x0, .ref vo] 6))
 refine goo (fun _ k => castTop (ef_25_RR m x0 vo) k) ?_
 have N0 := Fr.nil n0
 have KP0 := Keep.refl h0 [x0]
 refine goo (fun _ k => XS.aloadN X0.here hx rfl (hb hby d25_0) rfl rfl k) ?_
 obtain ⟨T'0, X'0, e'0, st'0⟩ := getF X0 hx hZ hown (host := "") (Or.inl (qw hw 51 rfl)) Via.refl e0 p4_ (g := (mkF m 1 #[rv x0, rv vo, .unset, .unset, .unset, .unset] [.ref x0])) rfl rfl (hb hby d25_1)
 refine goo st'0 ?_
 refine goo (fun _ k => XS.ifnullYes X'0.here hx rfl (pc0 := 4) (pc' := 35) rfl (hb hby d25_4) rfl (by decide) (by decide) <| XS.aloadN X'0.here hx rfl (hb hby d25_35) rfl rfl <| XS.astoreN X'0.here hx rfl (hb hby d25_36) rfl rfl (l' := #[rv x0, rv vo, rv vo, .unset, .unset, .unset]) rfl k) ?_
 show own_G _ _ _ _ (T'0.setTop (mkF m 37 #[rv x0, rv vo, rv vo, .unset, .unset, .unset] []))
 refine goo (fun _ k => XS.aloadN X'0.here hx rfl (hb hby d25_37) rfl rfl <| XS.ifnullNo X'0.here hx rfl (hb hby d25_38) rfl <| XS.aloadN X'0.here hx rfl (hb hby d25_41) rfl rfl k) ?_
 obtain ⟨T'1, X'1, e'1, st'1⟩ := getF X'0 hx hZ hown (host := "") (Or.inl (qw hw 39 rfl)) Via.refl e'0 p2_ (g := (mkF m 42 #[rv x0, rv vo, rv vo, .unset, .unset, .unset] [.ref x0])) rfl rfl (hb hby d25_42)
 refine goo st'1 ?_
 refine goo (fun _ k => XS.i2l X'1.here hx rfl (hb hby d25_45) rfl <| XS.lconst X'1.here hx rfl (hb hby d25_46) k) ?_
 show own_G _ _ _ _ (T'1.setTop (mkF m 47 #[rv x0, rv vo, rv vo, .unset, .unset, .unset] [(.long (1 : Int64)), (.long (0 : Int64))]))
 refine goo (fun _ k => XS.ladd X'1.here hx rfl (hb hby d25_47) rfl <| XS.lstoreN X'1.here hx rfl (hb hby d25_48) rfl (l' := #[rv x0, rv vo, rv vo, .val (.long (1 : Int64)), .second, .unset]) rfl <| XS.aloadN X'1.here hx rfl (hb hby d25_49) rfl rfl k) ?_
 obtain ⟨T'2, X'2, e'2, st'2⟩ := getF X'1 hx hZ hown (host := "") (Or.inl (qw hw 39 rfl)) Via.refl e'1 p2_ (g := (mkF m 50 #[rv x0, rv vo, rv vo, .val (.long (1 : Int64)), .second, .unset] [.ref x0])) rfl rfl (hb hby d25_50)
 refine goo st'2 ?_
 refine goo (fun _ k => XS.aloadN X'2.here hx rfl (hb hby d25_53) rfl rfl k) ?_
 obtain ⟨T'3, X'3, e'3, st'3⟩ := getF X'2 hx hZ hown (host := "") (Or.inl (qw hw 32 rfl)) Via.refl e'2 p1_ (g := (mkF m 54 #[rv x0, rv vo, rv vo, .val (.long (1 : Int64)), .second, .unset] [.ref x0, .int i_0])) rfl rfl (hb hby d25_54)
 refine goo st'3 ?_
 show own_G _ _ _ _ (T'3.setTop (mkF m 57 #[rv x0, rv vo, rv vo, .val (.long (1 : Int64)), .second, .unset] [.ref ar, .int i_0]))
 obtain ⟨cl1881, Ar1881, -, S1881, N1881, -, -⟩ := id p8_
 refine goo (fun _ k => X'3.arraylength hx (cell := cl1881) (by rw [e'3]; exact Ar1881.1) (State.isArrayOf_alike hZ.alike Ar1881.2.1) (g := (mkF m 57 #[rv x0, rv vo, rv vo, .val (.long (1 : Int64)), .second, .unset] [.ref ar, .int i_0])) rfl rfl (hb hby d25_57) _ (by rw [len_of S1881 N1881]; exact k)) ?_
 refine goo (fun _ k => XS.icmpNo X'3.here hx rfl (hb hby d25_58) rfl ((teq (by decide : i_0 = i_0)).2) <| XS.aloadN X'3.here hx rfl (hb hby d25_61) rfl rfl k) ?_
 obtain ⟨cq'4, kq'4, q'4a, q'4b, q'4c⟩ := isOf hZ e'3 p0_
 obtain ⟨cp'4, cq'5, cq'6⟩ := p0_.cell
 obtain ⟨_, _, ⟨T'4, L'4, k'4, n'4⟩, -, X'4, ⟨Lc'4, hQ'4, l'4, y'4, z'4⟩, st'4⟩ := own_privB X'3 hx (y := Y30) hown (mvT hZ (qw hw 157 rfl)) (mvT hZ (qw hw 158 rfl)) (mvT hZ (qw hw 24 rfl)) (Cond.privateMethod_at (mvP hZ (qw hw 159 rfl) (args := #[]))) (mvT hZ (qw hw 160 rfl)) (by decide) (backOf (W := 0) (rm_mrE l Z a0 hw [] x0 ar mir ka h0 n0 Z0 p0_ p1_ p2_ p3_ p4_ p5_ p6_ p7_ p8_ p9_) hZ (qw hw 160 rfl) (qw hw 25 rfl) (by decide) (by decide)) (g := (mkF m 62 #[rv x0, rv vo, rv vo, .val (.long (1 : Int64)), .second, .unset] [.ref x0])) rfl (by rw [hml]; rfl) (a := x0) (by rw [e'3]; exact cq'5) cq'6 (argsL := []) (rest := []) (lenOf own_pd18 rfl) rfl (Nat.le_of_eq rfl) (hb hby d25_62) (fun _ _ => ⟨rfl, e'3, (by decide : 0 + 1 ≤ _), (by decide : 0 + 4 ≤ _)⟩)
 dsimp only [Pt.U, Pt.locs, Pt.cells, Pt.slots] at X'4 l'4 y'4 z'4 st'4 hQ'4
 subst l'4 y'4 z'4
 obtain ⟨rfl, Nq'4, K'4, G_7, G_8, G_9, G_a, qx'4⟩ := hQ'4
 obtain ⟨ra1882, kr1882, gr1882, Fr1882, Xr'4, Or1882, Vr1882⟩ := qx'4
 have ne_b : x0 ≠ ra1882 := Nat.ne_of_lt (Nat.lt_of_lt_of_le p0_.lt gr1882)
 have ge_c : n0 ≤ ra1882 := Nat.le_trans Z0 gr1882
 have sz_1891 : h0.size ≤ ra1882 := Nat.le_trans KP0.1 gr1882
 have X_d := p10_.keep K'4
 have KP_e : Keep h0 T'4.heap [x0] := KP0.trans K'4 (allS (Or.inl (List.mem_of_getElem? (i := 0) rfl)) all0)
 have N_4 := Fr.app N0 Nq'4
 refine goo (fun _ k => st'4.trans k) ?_
 refine goo (fun _ k => XS.ifYes X'4.here hx rfl (pc0 := 65) (pc' := 78) rfl (hb hby d25_65) rfl (((if0 _ _).trans (feq (by decide : ¬ (i_1 = i_0))).2)) (by decide) (by decide) <| XS.aloadN X'4.here hx rfl (hb hby d25_78) rfl rfl k) ?_
 show own_G _ _ _ _ (T'4.setTop (mkF m 79 #[rv x0, rv vo, rv vo, .val (.long (1 : Int64)), .second, .unset] [.ref x0]))
 obtain ⟨T'f, X'f, e'f, st'f⟩ := getF X'4 hx hZ hown (host := "") (Or.inl (qw hw 32 rfl)) Via.refl rfl Fr1882 (g := (mkF m 79 #[rv x0, rv vo, rv vo, .val (.long (1 : Int64)), .second, .unset] [.ref x0])) rfl rfl (hb hby d25_79)
 refine goo st'f ?_
 refine goo (fun _ k => XS.aloadN X'f.here hx rfl (hb hby d25_82) rfl rfl <| XS.dup X'f.here hx rfl (hb hby d25_83) rfl rfl k) ?_
 obtain ⟨T'g, X'g, e'g, st'g⟩ := getF X'f hx hZ hown (host := "") (Or.inl (qw hw 39 rfl)) Via.refl e'f G_8 (g := (mkF m 84 #[rv x0, rv vo, rv vo, .val (.long (1 : Int64)), .second, .unset] [.ref x0, .ref x0, .ref ra1882])) rfl rfl (hb hby d25_84)
 refine goo st'g ?_
 refine goo (fun _ k => XS.dupX1 X'g.here hx rfl (hb hby d25_87) rfl rfl rfl <| XS.iconst X'g.here hx rfl (hb hby d25_88) k) ?_
 show own_G _ _ _ _ (T'g.setTop (mkF m 89 #[rv x0, rv vo, rv vo, .val (.long (1 : Int64)), .second, .unset] [.int i_1, .int i_0, .ref x0, .int i_0, .ref ra1882]))
 refine goo (fun _ k => XS.iadd X'g.here hx rfl (hb hby d25_89) rfl k) ?_
 obtain ⟨T'h, h'h, X'h, e'h, W'h, st'h⟩ := putF X'g hx hZ hown (host := "") (Or.inl (qw hw 39 rfl)) Via.refl e'g G_8 G_7 (Or.inl (qw hw 40 rfl)) (qw hw 24 rfl) (ty := .int) (by decide) rfl rfl (g := (mkF m 90 #[rv x0, rv vo, rv vo, .val (.long (1 : Int64)), .second, .unset] [.int i_1, .ref x0, .int i_0, .ref ra1882])) rfl rfl (hb hby d25_90)
 have X_i := G_7.wr W'h
 have X_j := X_d.wr W'h
 have F_k := G_9.other W'h (Or.inr (slot_ne (Or.inl (qw hw 152 rfl)) (Or.inl (qw hw 40 rfl)) (by decide) (t := .boolean) (t' := .int) (by decide) (by decide)))
 have F_l := G_a.other W'h (Or.inr (slot_ne (Or.inl (qw hw 52 rfl)) (Or.inl (qw hw 40 rfl)) (by decide) (t := (.object s_0)) (t' := .int) (by decide) (by decide)))
 have F_m := Fr1882.other W'h (Or.inr (slot_ne (Or.inl (qw hw 33 rfl)) (Or.inl (qw hw 40 rfl)) (by decide) (t := (.array (.object s_2))) (t' := .int) (by decide) (by decide)))
 have X_n := Xr'4.wr W'h
 have V_o := Vr1882.other W'h (Ne.symm ne_b)
 have F_p := G_8.same W'h
 have KP_q : Keep h0 h'h [x0] := KP_e.wr W'h (Or.inl (List.mem_of_getElem? (i := 0) rfl))
 have N_h := Fr.snoc X'h N_4 p5_
 refine goo st'h ?_
 refine goo (fun _ k => XS.aloadN X'h.here hx rfl (hb hby d25_93) rfl rfl k) ?_
 obtain ⟨cl1913, Ar1913, q'r, S1913, N1913, H1913, G1913⟩ := id V_o
 obtain ⟨T'r, h'r, X'r, e'r, W'r, st'r⟩ := stR X'h hx hZ e'h Ar1913 (j := i_0) (inb_of S1913 ⟨by decide, by decide⟩) rfl (Sto.ofV Ar1913 q'r Or1882 (Ins.of_exa X_j (qw hw 141 rfl))) (g := (mkF m 94 #[rv x0, rv vo, rv vo, .val (.long (1 : Int64)), .second, .unset] [.ref vo, .int i_0, .ref ra1882])) rfl rfl (hb hby d25_94)
 have X_s := X_i.wr W'r
 have F_t := F_p.other W'r (Or.inl ne_b)
 have F_u := F_k.other W'r (Or.inl ne_b)
 have F_v := F_l.other W'r (Or.inl ne_b)
 have F_w := F_m.other W'r (Or.inl ne_b)
 have X_x := X_n.wr W'r
 have V1913 : Arv Z h'r ra1882 kr1882 (.object s_2) i_4 [.ref vo, .null, .null, .null] .null := Arv.set Ar1913 q'r S1913 N1913 H1913 G1913 rfl W'r 0 rfl (Nat.le_of_ble_eq_true rfl)
 have KP_y : Keep h0 h'r [x0] := KP_q.wr W'r (Or.inr sz_1891)
 have N_r := Fr.snoc X'r N_h ge_c
 refine goo st'r ?_
 refine goo (fun _ k => XS.aloadN X'r.here hx rfl (hb hby d25_95) rfl rfl k) ?_
 obtain ⟨T'z, X'z, e'z, st'z⟩ := getF X'r hx hZ hown (host := "") (Or.inl (qw hw 51 rfl)) Via.refl e'r F_v (g := (mkF m 96 #[rv x0, rv vo, rv vo, .val (.long (1 : Int64)), .second, .unset] [.ref x0])) rfl rfl (hb hby d25_96)
 refine goo st'z ?_
 show own_G _ _ _ _ (T'z.setTop (mkF m 99 #[rv x0, rv vo, rv vo, .val (.long (1 : Int64)), .second, .unset] [.null]))
 refine goo (fun _ k => XS.ifnullYes X'z.here hx rfl (pc0 := 99) (pc' := 125) rfl (hb hby d25_99) rfl (by decide) (by decide) <| XS.iconst X'z.here hx rfl (hb hby d25_125) <| XS.istore X'z.here hx rfl (hb hby d25_126) rfl (l' := #[rv x0, rv vo, rv vo, .val (.long (1 : Int64)), .second, iv i_0]) rfl <| XS.iload X'z.here hx rfl (hb hby d25_128) rfl k) ?_
 refine goo (fun _ k => XS.ifYes X'z.here hx rfl (pc0 := 130) (pc' := 149) rfl (hb hby d25_130) rfl (((if0 _ _).trans (teq (by decide : i_0 = i_0)).1)) (by decide) (by decide) <| XS.aconstNull X'z.here hx rfl (hb hby d25_149) k) ?_
 show own_G _ _ _ _ (T'z.setTop (mkF m 150 #[rv x0, rv vo, rv vo, .val (.long (1 : Int64)), .second, iv i_0] [.null]))
 refine goo (fun _ k => XS.astoreN X'z.here hx rfl (hb hby d25_150) rfl rfl (l' := #[rv x0, rv vo, .val .null, .val (.long (1 : Int64)), .second, iv i_0]) rfl <| XS.goto X'z.here hx rfl (pc0 := 151) (pc' := 37) rfl (hb hby d25_151) (by decide) (by decide) <| XS.aloadN X'z.here hx rfl (hb hby d25_37) rfl rfl <| XS.ifnullYes X'z.here hx rfl (pc0 := 38) (pc' := 154) rfl (hb hby d25_38) rfl (by decide) (by decide) k) ?_
 show own_G _ _ _ _ (T'z.setTop (mkF m 154 #[rv x0, rv vo, .val .null, .val (.long (1 : Int64)), .second, iv i_0] []))
 exact own_end X'z Bd.notSynchronized (v := none) (fun _ => rfl) (Q := Q_rm_apE Z x0 vo ar mir ka h0 n0) (by show Q_rm_apE Z x0 vo ar mir ka h0 n0 (none) T'z.heap _; rw [e'z]; exact ⟨rfl, N_r, KP_y, X_s, F_t, F_u, F_v, ⟨ra1882, kr1882, sz_1891, F_w, X_x, Or1882, V1913⟩⟩) (fun fs hr => X'z.returnOut hx Bd.returns (hb hby d25_154) hr) (by decide) (by decide)
def Q_rm_nxE (Z : State) (x0 : Addr) (vo : Addr) (ar mir : Addr) (ka : ClassId) (h0 : Heap) (n0 : Nat) (v : Option Value) (h : Heap) (L : List Loc) : Prop := v = none ∧ Fr n0 L ∧ Keep h0 h [x0] ∧ Exa Z h x0 s_1 ∧ Fld Z h x0 s_1 "arrayCount" "I" (.int i_1) ∧ Fld Z h x0 s_1 "holes" "Z" (.int i_0) ∧ Fld Z h x0 s_1 "hash" "Lcom/example/plainsong/plainsong/engine/HashPart;" .null ∧ ∃ ra k, h0.size ≤ ra ∧ Fld Z h x0 s_1 "array" "[Ljava/lang/Object;" (.ref ra) ∧ Exa Z h ra "[Ljava/lang/Object;" ∧ Ovr Z k s_2 ∧ Arv Z h ra k (.object s_2) i_4 [.ref vo, .null, .null, .null] .null
theorem rm_nxE (l : Launch) (Z : State) (a0 : Array Value) (hw : own_HW a0 Z) (ws : List Jvm.Cond) (x0 : Addr) (vo : Addr) (ar mir : Addr) (ka : ClassId) (h0 : Heap) (n0 : Nat) (Z0 : n0 ≤ h0.size) (p0_ : Exa Z h0 x0 s_1) (p1_ : Fld Z h0 x0 s_1 "array" "[Ljava/lang/Object;" (.ref ar)) (p2_ : Fld Z h0 x0 s_1 "arrayCount" "I" (.int i_0)) (p3_ : Fld Z h0 x0 s_1 "holes" "Z" (.int i_0)) (p4_ : Fld Z h0 x0 s_1 "hash" "Lcom/example/plainsong/plainsong/engine/HashPart;" .null) (p5_ : n0 ≤ x0) (p6_ : x0 ≠ ar) (p7_ : Exa Z h0 ar "[Ljava/lang/Object;") (p8_ : Arv Z h0 ar ka (.object s_2) i_0 [] .null) (p9_ : own_Mr Z "[Ljava/lang/Object;" mir) (p10_ : Exa Z h0 vo s_3)  :
  MetFree l Y22 (head1 (Jvm.Cond.code Y22 prog_60_method_7_code 4 none :: ws) (rr 5 1 4 80)) (fun a U => a = #[.ref x0, (.long (1 : Int64)), .ref vo] ∧ Z.Warmed39 U.vm ∧ U.heap = h0) (fun _ _ _ _ _ => True) (fun _ U o U' => ∃ v L, o = .returned v ∧ Q_rm_nxE Z x0 vo ar mir ka h0 n0 v U'.heap L ∧ FrameEnd U o U' L (rr 5 1 4 80).cells (rr 5 1 4 80).slots) := by
 refine MetFree.of_bodySF (plainFor_of_name own_pn2) hisR ?_
 intro p e s m args below meth c s₁ Bd hml0 hP hK
 obtain ⟨rfl, hZ, hh⟩ := hP
 have hx := Bd.exec
 have hby := Bd.bytes
 have hml : c.maxLocals = 4 := hml0
 have hown : s.vm.findClass s_1 = some m.cls := findClass_of_methodNamed Bd.named
 have hnm := (name_of_methodNamed Bd.named Bd.method).1
 have X0 : Stand p l e (rr 5 1 4 80) s m #[.ref x0, (.long (1 : Int64)), .ref vo] below meth c s₁ [] 0 0 := Stand.of_body Bd
 have e0 : s₁.heap = h0 := by rw [← hh, Bd.state]; rfl
 show own_G _ _ _ _ (s₁.setTop (entryFrame m #[.ref x0, (.long (1 : Int64)), .ref vo] 4))
 refine goo (fun _ k => castTop (ef_6_RJR m x0 (1 : Int64) vo) k) ?_
 have N0 := Fr.nil n0
 have KP0 := Keep.refl h0 [x0]
 refine goo (fun _ k => XS.lloadN X0.here hx rfl (hb hby d6_0) rfl <| XS.lconst X0.here hx rfl (hb hby d6_1) <| XS.lcmp X0.here hx rfl (hb hby d6_2) rfl <| XS.ifNo X0.here hx rfl (hb hby d6_3) rfl (((if0 _ _).trans (flt (own_l2 (by decide : ¬ ((1 : Int64) < (1 : Int64))))).1)) k) ?_
 refine goo (fun _ k => XS.lloadN X0.here hx rfl (hb hby d6_6) rfl k) ?_
 show own_G _ _ _ _ (s₁.setTop (mkF m 7 #[rv x0, .val (.long (1 : Int64)), .second, rv vo] [(.long (1 : Int64))]))
 refine goo (fun _ k => XS.aloadN X0.here hx rfl (hb hby d6_7) rfl rfl k) ?_
 obtain ⟨T'0, X'0, e'0, st'0⟩ := getF X0 hx hZ hown (host := "") (Or.inl (qw hw 39 rfl)) Via.refl e0 p2_ (g := (mkF m 8 #[rv x0, .val (.long (1 : Int64)), .second, rv vo] [.ref x0, (.long (1 : Int64))])) rfl rfl (hb hby d6_8)
 refine goo st'0 ?_
 refine goo (fun _ k => XS.i2l X'0.here hx rfl (hb hby d6_11) rfl <| XS.lcmp X'0.here hx rfl (hb hby d6_12) rfl <| XS.ifYes X'0.here hx rfl (pc0 := 13) (pc' := 86) rfl (hb hby d6_13) rfl (((if0 _ _).trans (tlt (own_g1 (by decide : (0 : Int64) < (1 : Int64)))).2.2.1)) (by decide) (by decide) <| XS.lloadN X'0.here hx rfl (hb hby d6_86) rfl k) ?_
 show own_G _ _ _ _ (T'0.setTop (mkF m 87 #[rv x0, .val (.long (1 : Int64)), .second, rv vo] [(.long (1 : Int64))]))
 refine goo (fun _ k => XS.aloadN X'0.here hx rfl (hb hby d6_87) rfl rfl k) ?_
 obtain ⟨T'1, X'1, e'1, st'1⟩ := getF X'0 hx hZ hown (host := "") (Or.inl (qw hw 39 rfl)) Via.refl e'0 p2_ (g := (mkF m 88 #[rv x0, .val (.long (1 : Int64)), .second, rv vo] [.ref x0, (.long (1 : Int64))])) rfl rfl (hb hby d6_88)
 refine goo st'1 ?_
 refine goo (fun _ k => XS.i2l X'1.here hx rfl (hb hby d6_91) rfl <| XS.lconst X'1.here hx rfl (hb hby d6_92) <| XS.ladd X'1.here hx rfl (hb hby d6_93) rfl <| XS.lcmp X'1.here hx rfl (hb hby d6_94) rfl k) ?_
 show own_G _ _ _ _ (T'1.setTop (mkF m 95 #[rv x0, .val (.long (1 : Int64)), .second, rv vo] [(.int (lcmpW (1 : Int64) (1 : Int64)))]))
 refine goo (fun _ k => XS.ifNo X'1.here hx rfl (hb hby d6_95) rfl (((if0 _ _).trans (teq (own_e1 (by decide : (1 : Int64) = (1 : Int64)))).2)) <| XS.aloadN X'1.here hx rfl (hb hby d6_98) rfl rfl k) ?_
 obtain ⟨T'2, X'2, e'2, st'2⟩ := getF X'1 hx hZ hown (host := "") (Or.inl (qw hw 39 rfl)) Via.refl e'1 p2_ (g := (mkF m 99 #[rv x0, .val (.long (1 : Int64)), .second, rv vo] [.ref x0])) rfl rfl (hb hby d6_99)
 refine goo st'2 ?_
 refine goo (fun _ k => X'2.ldcInt hx hown (mvT hZ (qw hw 41 rfl)) (g := (mkF m 102 #[rv x0, .val (.long (1 : Int64)), .second, rv vo] [.int i_0])) rfl (hb hby d6_102) _ k) ?_
 refine goo (fun _ k => XS.icmpNo X'2.here hx rfl (hb hby d6_104) rfl ((tlt (by decide : i_0 < i_2147483639)).2.1) <| XS.aloadN X'2.here hx rfl (hb hby d6_107) rfl rfl k) ?_
 show own_G _ _ _ _ (T'2.setTop (mkF m 108 #[rv x0, .val (.long (1 : Int64)), .second, rv vo] [.ref vo]))
 refine goo (fun _ k => XS.ifnullNo X'2.here hx rfl (hb hby d6_108) rfl <| XS.aloadN X'2.here hx rfl (hb hby d6_111) rfl rfl <| XS.aloadN X'2.here hx rfl (hb hby d6_112) rfl rfl k) ?_
 obtain ⟨cq'3, kq'3, q'3a, q'3b, q'3c⟩ := isOf hZ e'2 p0_
 obtain ⟨cp'3, cq'4, cq'5⟩ := p0_.cell
 obtain ⟨_, _, ⟨T'3, L'3, k'3, n'3⟩, -, X'3, ⟨Lc'3, hQ'3, l'3, y'3, z'3⟩, st'3⟩ := own_privB X'2 hx (y := Y26) hown (mvT hZ (qw hw 153 rfl)) (mvT hZ (qw hw 154 rfl)) (mvT hZ (qw hw 24 rfl)) (Cond.privateMethod_at (mvP hZ (qw hw 155 rfl) (args := #[]))) (mvT hZ (qw hw 156 rfl)) (by decide) (backOf (W := 0) (rm_apE l Z a0 hw [] x0 vo ar mir ka h0 n0 Z0 p0_ p1_ p2_ p3_ p4_ p5_ p6_ p7_ p8_ p9_ p10_) hZ (qw hw 156 rfl) (qw hw 25 rfl) (by decide) (by decide)) (g := (mkF m 113 #[rv x0, .val (.long (1 : Int64)), .second, rv vo] [.ref vo, .ref x0])) rfl (by rw [hml]; rfl) (a := x0) (by rw [e'2]; exact cq'4) cq'5 (argsL := [.ref vo]) (rest := []) (lenOf own_pd14 rfl) rfl (Nat.le_of_eq rfl) (hb hby d6_113) (fun _ _ => ⟨rfl, e'2, (by decide : 0 + 1 ≤ _), (by decide : 0 + 4 ≤ _)⟩)
 dsimp only [Pt.U, Pt.locs, Pt.cells, Pt.slots] at X'3 l'3 y'3 z'3 st'3 hQ'3
 subst l'3 y'3 z'3
 obtain ⟨rfl, Nq'3, K'3, G_6, G_7, G_8, G_9, qx'3⟩ := hQ'3
 obtain ⟨ra1929, kr1929, gr1929, Fr1929, Xr'3, Or1929, Vr1929⟩ := qx'3
 have sz_1938 : h0.size ≤ ra1929 := Nat.le_trans KP0.1 gr1929
 have KP_a : Keep h0 T'3.heap [x0] := KP0.trans K'3 (allS (Or.inl (List.mem_of_getElem? (i := 0) rfl)) all0)
 have N_3 := Fr.app N0 Nq'3
 refine goo (fun _ k => st'3.trans k) ?_
 refine goo (fun _ k => XS.goto X'3.here hx rfl (pc0 := 116) (pc' := 128) rfl (hb hby d6_116) (by decide) (by decide) k) ?_
 show own_G _ _ _ _ (T'3.setTop (mkF m 128 #[rv x0, .val (.long (1 : Int64)), .second, rv vo] []))
 exact own_end X'3 Bd.notSynchronized (v := none) (fun _ => rfl) (Q := Q_rm_nxE Z x0 vo ar mir ka h0 n0) (by show Q_rm_nxE Z x0 vo ar mir ka h0 n0 (none) T'3.heap _; exact ⟨rfl, N_3, KP_a, G_6, G_7, G_8, G_9, ⟨ra1929, kr1929, sz_1938, Fr1929, Xr'3, Or1929, Vr1929⟩⟩) (fun fs hr => X'3.returnOut hx Bd.returns (hb hby d6_128) hr) (by decide) (by decide)
def Q_rm_ap4 (Z : State) (x0 : Addr) (vo : Addr) (ar mir : Addr) (ho_ : Int32) (ka : ClassId) (b0 b1 b2 b3 : Bool) (h0 : Heap) (n0 : Nat) (v : Option Value) (h : Heap) (L : List Loc) : Prop := v = none ∧ Fr n0 L ∧ Keep h0 h [x0] ∧ Exa Z h x0 s_1 ∧ Fld Z h x0 s_1 "arrayCount" "I" (.int i_5) ∧ Fld Z h x0 s_1 "holes" "Z" (.int ho_) ∧ Fld Z h x0 s_1 "hash" "Lcom/example/plainsong/plainsong/engine/HashPart;" .null ∧ ∃ ra k, h0.size ≤ ra ∧ Fld Z h x0 s_1 "array" "[Ljava/lang/Object;" (.ref ra) ∧ Exa Z h ra "[Ljava/lang/Object;" ∧ Ovr Z k s_2 ∧ Arv Z h ra k (.object s_2) i_8 [(own_en b0 vo), (own_en b1 vo), (own_en b2 vo), (own_en b3 vo), .ref vo, .null, .null, .null] .null
theorem rm_ap4 (l : Launch) (Z : State) (a0 : Array Value) (hw : own_HW a0 Z) (ws : List Jvm.Cond) (x0 : Addr) (vo : Addr) (ar mir : Addr) (ho_ : Int32) (ka : ClassId) (b0 b1 b2 b3 : Bool) (h0 : Heap) (n0 : Nat) (Z0 : n0 ≤ h0.size) (p0_ : Exa Z h0 x0 s_1) (p1_ : Fld Z h0 x0 s_1 "array" "[Ljava/lang/Object;" (.ref ar)) (p2_ : Fld Z h0 x0 s_1 "arrayCount" "I" (.int i_4)) (p3_ : Fld Z h0 x0 s_1 "holes" "Z" (.int ho_)) (p4_ : Fld Z h0 x0 s_1 "hash" "Lcom/example/plainsong/plainsong/engine/HashPart;" .null) (p5_ : n0 ≤ x0) (p6_ : x0 ≠ ar) (p7_ : Exa Z h0 ar "[Ljava/lang/Object;") (p8_ : Arv Z h0 ar ka (.object s_2) i_4 [(own_en b0 vo), (own_en b1 vo), (own_en b2 vo), (own_en b3 vo)] .null) (p9_ : own_Mr Z "[Ljava/lang/Object;" mir) (p10_ : Exa Z h0 vo s_3) (hq : ho_ = 0 ∨ (ho_ = 1 ∧ 2 ≤ own_ct [b0, b1, b2, b3] 4 0 ∧ own_ct [b0, b1, b2, b3] 4 0 < 4)) :
  MetFree l Y26 (head1 (Jvm.Cond.code Y26 prog_60_method_14_code 6 none :: ws) (rr 4 1 8 63)) (fun a U => a = #[.ref x0, .ref vo] ∧ Z.Warmed39 U.vm ∧ U.heap = h0) (fun _ _ _ _ _ => True) (fun _ U o U' => ∃ v L, o = .returned v ∧ Q_rm_ap4 Z x0 vo ar mir ho_ ka b0 b1 b2 b3 h0 n0 v U'.heap L ∧ FrameEnd U o U' L (rr 4 1 8 63).cells (rr 4 1 8 63).slots) := by
 refine MetFree.of_bodySF (plainFor_of_name own_pn2) hisR ?_
 intro p e s m args below meth c s₁ Bd hml0 hP hK
 obtain ⟨rfl, hZ, hh⟩ := hP
 have hx := Bd.exec
 have hby := Bd.bytes
 have hml : c.maxLocals = 6 := hml0
 have hown : s.vm.findClass s_1 = some m.cls := findClass_of_methodNamed Bd.named
 have hnm := (name_of_methodNamed Bd.named Bd.method).1
 have X0 : Stand p l e (rr 4 1 8 63) s m #[.ref x0, .ref vo] below meth c s₁ [] 0 0 := Stand.of_body Bd
 have e0 : s₁.heap = h0 := by rw [← hh, Bd.state]; rfl
 show own_G _ _ _ _ (s₁.setTop (entryFrame m #[.ref x0, .ref vo] 6))
 refine goo (fun _ k => castTop (ef_25_RR m x0 vo) k) ?_
 have N0 := Fr.nil n0
 have KP0 := Keep.refl h0 [x0]
 refine goo (fun _ k => XS.aloadN X0.here hx rfl (hb hby d25_0) rfl rfl k) ?_
 obtain ⟨T'0, X'0, e'0, st'0⟩ := getF X0 hx hZ hown (host := "") (Or.inl (qw hw 51 rfl)) Via.refl e0 p4_ (g := (mkF m 1 #[rv x0, rv vo, .unset, .unset, .unset, .unset] [.ref x0])) rfl rfl (hb hby d25_1)
 refine goo st'0 ?_
 refine goo (fun _ k => XS.ifnullYes X'0.here hx rfl (pc0 := 4) (pc' := 35) rfl (hb hby d25_4) rfl (by decide) (by decide) <| XS.aloadN X'0.here hx rfl (hb hby d25_35) rfl rfl <| XS.astoreN X'0.here hx rfl (hb hby d25_36) rfl rfl (l' := #[rv x0, rv vo, rv vo, .unset, .unset, .unset]) rfl k) ?_
 show own_G _ _ _ _ (T'0.setTop (mkF m 37 #[rv x0, rv vo, rv vo, .unset, .unset, .unset] []))
 refine goo (fun _ k => XS.aloadN X'0.here hx rfl (hb hby d25_37) rfl rfl <| XS.ifnullNo X'0.here hx rfl (hb hby d25_38) rfl <| XS.aloadN X'0.here hx rfl (hb hby d25_41) rfl rfl k) ?_
 obtain ⟨T'1, X'1, e'1, st'1⟩ := getF X'0 hx hZ hown (host := "") (Or.inl (qw hw 39 rfl)) Via.refl e'0 p2_ (g := (mkF m 42 #[rv x0, rv vo, rv vo, .unset, .unset, .unset] [.ref x0])) rfl rfl (hb hby d25_42)
 refine goo st'1 ?_
 refine goo (fun _ k => XS.i2l X'1.here hx rfl (hb hby d25_45) rfl <| XS.lconst X'1.here hx rfl (hb hby d25_46) k) ?_
 show own_G _ _ _ _ (T'1.setTop (mkF m 47 #[rv x0, rv vo, rv vo, .unset, .unset, .unset] [(.long (1 : Int64)), (.long (4 : Int64))]))
 refine goo (fun _ k => XS.ladd X'1.here hx rfl (hb hby d25_47) rfl <| XS.lstoreN X'1.here hx rfl (hb hby d25_48) rfl (l' := #[rv x0, rv vo, rv vo, .val (.long (5 : Int64)), .second, .unset]) rfl <| XS.aloadN X'1.here hx rfl (hb hby d25_49) rfl rfl k) ?_
 obtain ⟨T'2, X'2, e'2, st'2⟩ := getF X'1 hx hZ hown (host := "") (Or.inl (qw hw 39 rfl)) Via.refl e'1 p2_ (g := (mkF m 50 #[rv x0, rv vo, rv vo, .val (.long (5 : Int64)), .second, .unset] [.ref x0])) rfl rfl (hb hby d25_50)
 refine goo st'2 ?_
 refine goo (fun _ k => XS.aloadN X'2.here hx rfl (hb hby d25_53) rfl rfl k) ?_
 obtain ⟨T'3, X'3, e'3, st'3⟩ := getF X'2 hx hZ hown (host := "") (Or.inl (qw hw 32 rfl)) Via.refl e'2 p1_ (g := (mkF m 54 #[rv x0, rv vo, rv vo, .val (.long (5 : Int64)), .second, .unset] [.ref x0, .int i_4])) rfl rfl (hb hby d25_54)
 refine goo st'3 ?_
 show own_G _ _ _ _ (T'3.setTop (mkF m 57 #[rv x0, rv vo, rv vo, .val (.long (5 : Int64)), .second, .unset] [.ref ar, .int i_4]))
 obtain ⟨cl1949, Ar1949, -, S1949, N1949, -, -⟩ := id p8_
 refine goo (fun _ k => X'3.arraylength hx (cell := cl1949) (by rw [e'3]; exact Ar1949.1) (State.isArrayOf_alike hZ.alike Ar1949.2.1) (g := (mkF m 57 #[rv x0, rv vo, rv vo, .val (.long (5 : Int64)), .second, .unset] [.ref ar, .int i_4])) rfl rfl (hb hby d25_57) _ (by rw [len_of S1949 N1949]; exact k)) ?_
 refine goo (fun _ k => XS.icmpNo X'3.here hx rfl (hb hby d25_58) rfl ((teq (by decide : i_4 = i_4)).2) <| XS.aloadN X'3.here hx rfl (hb hby d25_61) rfl rfl k) ?_
 obtain ⟨cq'4, kq'4, q'4a, q'4b, q'4c⟩ := isOf hZ e'3 p0_
 obtain ⟨cp'4, cq'5, cq'6⟩ := p0_.cell
 obtain ⟨_, _, ⟨T'4, L'4, k'4, n'4⟩, -, X'4, ⟨Lc'4, hQ'4, l'4, y'4, z'4⟩, st'4⟩ := own_privB X'3 hx (y := Y30) hown (mvT hZ (qw hw 157 rfl)) (mvT hZ (qw hw 158 rfl)) (mvT hZ (qw hw 24 rfl)) (Cond.privateMethod_at (mvP hZ (qw hw 159 rfl) (args := #[]))) (mvT hZ (qw hw 160 rfl)) (by decide) (backOf (W := 0) (rm_mr4 l Z a0 hw [] x0 ar mir ho_ ka b0 b1 b2 b3 vo h0 n0 Z0 p0_ p1_ p2_ p3_ p4_ p5_ p6_ p7_ p8_ p9_ p10_ hq) hZ (qw hw 160 rfl) (qw hw 25 rfl) (by decide) (by decide)) (g := (mkF m 62 #[rv x0, rv vo, rv vo, .val (.long (5 : Int64)), .second, .unset] [.ref x0])) rfl (by rw [hml]; rfl) (a := x0) (by rw [e'3]; exact cq'5) cq'6 (argsL := []) (rest := []) (lenOf own_pd18 rfl) rfl (Nat.le_of_eq rfl) (hb hby d25_62) (fun _ _ => ⟨rfl, e'3, (by decide : 0 + 1 ≤ _), (by decide : 0 + 8 ≤ _)⟩)
 dsimp only [Pt.U, Pt.locs, Pt.cells, Pt.slots] at X'4 l'4 y'4 z'4 st'4 hQ'4
 subst l'4 y'4 z'4
 obtain ⟨rfl, Nq'4, K'4, G_7, G_8, G_9, G_a, qx'4⟩ := hQ'4
 obtain ⟨ra1950, kr1950, gr1950, Fr1950, Xr'4, Or1950, Vr1950⟩ := qx'4
 have ne_b : x0 ≠ ra1950 := Nat.ne_of_lt (Nat.lt_of_lt_of_le p0_.lt gr1950)
 have ge_c : n0 ≤ ra1950 := Nat.le_trans Z0 gr1950
 have sz_1959 : h0.size ≤ ra1950 := Nat.le_trans KP0.1 gr1950
 have X_d := p10_.keep K'4
 have KP_e : Keep h0 T'4.heap [x0] := KP0.trans K'4 (allS (Or.inl (List.mem_of_getElem? (i := 0) rfl)) all0)
 have N_4 := Fr.app N0 Nq'4
 refine goo (fun _ k => st'4.trans k) ?_
 refine goo (fun _ k => XS.ifYes X'4.here hx rfl (pc0 := 65) (pc' := 78) rfl (hb hby d25_65) rfl (((if0 _ _).trans (feq (by decide : ¬ (i_1 = i_0))).2)) (by decide) (by decide) <| XS.aloadN X'4.here hx rfl (hb hby d25_78) rfl rfl k) ?_
 show own_G _ _ _ _ (T'4.setTop (mkF m 79 #[rv x0, rv vo, rv vo, .val (.long (5 : Int64)), .second, .unset] [.ref x0]))
 obtain ⟨T'f, X'f, e'f, st'f⟩ := getF X'4 hx hZ hown (host := "") (Or.inl (qw hw 32 rfl)) Via.refl rfl Fr1950 (g := (mkF m 79 #[rv x0, rv vo, rv vo, .val (.long (5 : Int64)), .second, .unset] [.ref x0])) rfl rfl (hb hby d25_79)
 refine goo st'f ?_
 refine goo (fun _ k => XS.aloadN X'f.here hx rfl (hb hby d25_82) rfl rfl <| XS.dup X'f.here hx rfl (hb hby d25_83) rfl rfl k) ?_
 obtain ⟨T'g, X'g, e'g, st'g⟩ := getF X'f hx hZ hown (host := "") (Or.inl (qw hw 39 rfl)) Via.refl e'f G_8 (g := (mkF m 84 #[rv x0, rv vo, rv vo, .val (.long (5 : Int64)), .second, .unset] [.ref x0, .ref x0, .ref ra1950])) rfl rfl (hb hby d25_84)
 refine goo st'g ?_
 refine goo (fun _ k => XS.dupX1 X'g.here hx rfl (hb hby d25_87) rfl rfl rfl <| XS.iconst X'g.here hx rfl (hb hby d25_88) k) ?_
 show own_G _ _ _ _ (T'g.setTop (mkF m 89 #[rv x0, rv vo, rv vo, .val (.long (5 : Int64)), .second, .unset] [.int i_1, .int i_4, .ref x0, .int i_4, .ref ra1950]))
 refine goo (fun _ k => XS.iadd X'g.here hx rfl (hb hby d25_89) rfl k) ?_
 obtain ⟨T'h, h'h, X'h, e'h, W'h, st'h⟩ := putF X'g hx hZ hown (host := "") (Or.inl (qw hw 39 rfl)) Via.refl e'g G_8 G_7 (Or.inl (qw hw 40 rfl)) (qw hw 24 rfl) (ty := .int) (by decide) rfl rfl (g := (mkF m 90 #[rv x0, rv vo, rv vo, .val (.long (5 : Int64)), .second, .unset] [.int i_5, .ref x0, .int i_4, .ref ra1950])) rfl rfl (hb hby d25_90)
 have X_i := G_7.wr W'h
 have X_j := X_d.wr W'h
 have F_k := G_9.other W'h (Or.inr (slot_ne (Or.inl (qw hw 152 rfl)) (Or.inl (qw hw 40 rfl)) (by decide) (t := .boolean) (t' := .int) (by decide) (by decide)))
 have F_l := G_a.other W'h (Or.inr (slot_ne (Or.inl (qw hw 52 rfl)) (Or.inl (qw hw 40 rfl)) (by decide) (t := (.object s_0)) (t' := .int) (by decide) (by decide)))
 have F_m := Fr1950.other W'h (Or.inr (slot_ne (Or.inl (qw hw 33 rfl)) (Or.inl (qw hw 40 rfl)) (by decide) (t := (.array (.object s_2))) (t' := .int) (by decide) (by decide)))
 have X_n := Xr'4.wr W'h
 have V_o := Vr1950.other W'h (Ne.symm ne_b)
 have F_p := G_8.same W'h
 have KP_q : Keep h0 h'h [x0] := KP_e.wr W'h (Or.inl (List.mem_of_getElem? (i := 0) rfl))
 have N_h := Fr.snoc X'h N_4 p5_
 refine goo st'h ?_
 refine goo (fun _ k => XS.aloadN X'h.here hx rfl (hb hby d25_93) rfl rfl k) ?_
 obtain ⟨cl1981, Ar1981, q'r, S1981, N1981, H1981, G1981⟩ := id V_o
 obtain ⟨T'r, h'r, X'r, e'r, W'r, st'r⟩ := stR X'h hx hZ e'h Ar1981 (j := i_4) (inb_of S1981 ⟨by decide, by decide⟩) rfl (Sto.ofV Ar1981 q'r Or1950 (Ins.of_exa X_j (qw hw 141 rfl))) (g := (mkF m 94 #[rv x0, rv vo, rv vo, .val (.long (5 : Int64)), .second, .unset] [.ref vo, .int i_4, .ref ra1950])) rfl rfl (hb hby d25_94)
 have X_s := X_i.wr W'r
 have F_t := F_p.other W'r (Or.inl ne_b)
 have F_u := F_k.other W'r (Or.inl ne_b)
 have F_v := F_l.other W'r (Or.inl ne_b)
 have F_w := F_m.other W'r (Or.inl ne_b)
 have X_x := X_n.wr W'r
 have V1981 : Arv Z h'r ra1950 kr1950 (.object s_2) i_8 [(own_en b0 vo), (own_en b1 vo), (own_en b2 vo), (own_en b3 vo), .ref vo, .null, .null, .null] .null := Arv.set Ar1981 q'r S1981 N1981 H1981 G1981 rfl W'r 4 rfl (Nat.le_of_ble_eq_true rfl)
 have KP_y : Keep h0 h'r [x0] := KP_q.wr W'r (Or.inr sz_1959)
 have N_r := Fr.snoc X'r N_h ge_c
 refine goo st'r ?_
 refine goo (fun _ k => XS.aloadN X'r.here hx rfl (hb hby d25_95) rfl rfl k) ?_
 obtain ⟨T'z, X'z, e'z, st'z⟩ := getF X'r hx hZ hown (host := "") (Or.inl (qw hw 51 rfl)) Via.refl e'r F_v (g := (mkF m 96 #[rv x0, rv vo, rv vo, .val (.long (5 : Int64)), .second, .unset] [.ref x0])) rfl rfl (hb hby d25_96)
 refine goo st'z ?_
 show own_G _ _ _ _ (T'z.setTop (mkF m 99 #[rv x0, rv vo, rv vo, .val (.long (5 : Int64)), .second, .unset] [.null]))
 refine goo (fun _ k => XS.ifnullYes X'z.here hx rfl (pc0 := 99) (pc' := 125) rfl (hb hby d25_99) rfl (by decide) (by decide) <| XS.iconst X'z.here hx rfl (hb hby d25_125) <| XS.istore X'z.here hx rfl (hb hby d25_126) rfl (l' := #[rv x0, rv vo, rv vo, .val (.long (5 : Int64)), .second, iv i_0]) rfl <| XS.iload X'z.here hx rfl (hb hby d25_128) rfl k) ?_
 refine goo (fun _ k => XS.ifYes X'z.here hx rfl (pc0 := 130) (pc' := 149) rfl (hb hby d25_130) rfl (((if0 _ _).trans (teq (by decide : i_0 = i_0)).1)) (by decide) (by decide) <| XS.aconstNull X'z.here hx rfl (hb hby d25_149) k) ?_
 show own_G _ _ _ _ (T'z.setTop (mkF m 150 #[rv x0, rv vo, rv vo, .val (.long (5 : Int64)), .second, iv i_0] [.null]))
 refine goo (fun _ k => XS.astoreN X'z.here hx rfl (hb hby d25_150) rfl rfl (l' := #[rv x0, rv vo, .val .null, .val (.long (5 : Int64)), .second, iv i_0]) rfl <| XS.goto X'z.here hx rfl (pc0 := 151) (pc' := 37) rfl (hb hby d25_151) (by decide) (by decide) <| XS.aloadN X'z.here hx rfl (hb hby d25_37) rfl rfl <| XS.ifnullYes X'z.here hx rfl (pc0 := 38) (pc' := 154) rfl (hb hby d25_38) rfl (by decide) (by decide) k) ?_
 show own_G _ _ _ _ (T'z.setTop (mkF m 154 #[rv x0, rv vo, .val .null, .val (.long (5 : Int64)), .second, iv i_0] []))
 exact own_end X'z Bd.notSynchronized (v := none) (fun _ => rfl) (Q := Q_rm_ap4 Z x0 vo ar mir ho_ ka b0 b1 b2 b3 h0 n0) (by show Q_rm_ap4 Z x0 vo ar mir ho_ ka b0 b1 b2 b3 h0 n0 (none) T'z.heap _; rw [e'z]; exact ⟨rfl, N_r, KP_y, X_s, F_t, F_u, F_v, ⟨ra1950, kr1950, sz_1959, F_w, X_x, Or1950, V1981⟩⟩) (fun fs hr => X'z.returnOut hx Bd.returns (hb hby d25_154) hr) (by decide) (by decide)
def Q_rm_nx4 (Z : State) (x0 : Addr) (vo : Addr) (ar mir : Addr) (ho_ : Int32) (ka : ClassId) (b0 b1 b2 b3 : Bool) (h0 : Heap) (n0 : Nat) (v : Option Value) (h : Heap) (L : List Loc) : Prop := v = none ∧ Fr n0 L ∧ Keep h0 h [x0] ∧ Exa Z h x0 s_1 ∧ Fld Z h x0 s_1 "arrayCount" "I" (.int i_5) ∧ Fld Z h x0 s_1 "holes" "Z" (.int ho_) ∧ Fld Z h x0 s_1 "hash" "Lcom/example/plainsong/plainsong/engine/HashPart;" .null ∧ ∃ ra k, h0.size ≤ ra ∧ Fld Z h x0 s_1 "array" "[Ljava/lang/Object;" (.ref ra) ∧ Exa Z h ra "[Ljava/lang/Object;" ∧ Ovr Z k s_2 ∧ Arv Z h ra k (.object s_2) i_8 [(own_en b0 vo), (own_en b1 vo), (own_en b2 vo), (own_en b3 vo), .ref vo, .null, .null, .null] .null
theorem rm_nx4 (l : Launch) (Z : State) (a0 : Array Value) (hw : own_HW a0 Z) (ws : List Jvm.Cond) (x0 : Addr) (vo : Addr) (ar mir : Addr) (ho_ : Int32) (ka : ClassId) (b0 b1 b2 b3 : Bool) (h0 : Heap) (n0 : Nat) (Z0 : n0 ≤ h0.size) (p0_ : Exa Z h0 x0 s_1) (p1_ : Fld Z h0 x0 s_1 "array" "[Ljava/lang/Object;" (.ref ar)) (p2_ : Fld Z h0 x0 s_1 "arrayCount" "I" (.int i_4)) (p3_ : Fld Z h0 x0 s_1 "holes" "Z" (.int ho_)) (p4_ : Fld Z h0 x0 s_1 "hash" "Lcom/example/plainsong/plainsong/engine/HashPart;" .null) (p5_ : n0 ≤ x0) (p6_ : x0 ≠ ar) (p7_ : Exa Z h0 ar "[Ljava/lang/Object;") (p8_ : Arv Z h0 ar ka (.object s_2) i_4 [(own_en b0 vo), (own_en b1 vo), (own_en b2 vo), (own_en b3 vo)] .null) (p9_ : own_Mr Z "[Ljava/lang/Object;" mir) (p10_ : Exa Z h0 vo s_3) (hq : ho_ = 0 ∨ (ho_ = 1 ∧ 2 ≤ own_ct [b0, b1, b2, b3] 4 0 ∧ own_ct [b0, b1, b2, b3] 4 0 < 4)) :
  MetFree l Y22 (head1 (Jvm.Cond.code Y22 prog_60_method_7_code 4 none :: ws) (rr 5 1 8 80)) (fun a U => a = #[.ref x0, (.long (5 : Int64)), .ref vo] ∧ Z.Warmed39 U.vm ∧ U.heap = h0) (fun _ _ _ _ _ => True) (fun _ U o U' => ∃ v L, o = .returned v ∧ Q_rm_nx4 Z x0 vo ar mir ho_ ka b0 b1 b2 b3 h0 n0 v U'.heap L ∧ FrameEnd U o U' L (rr 5 1 8 80).cells (rr 5 1 8 80).slots) := by
 refine MetFree.of_bodySF (plainFor_of_name own_pn2) hisR ?_
 intro p e s m args below meth c s₁ Bd hml0 hP hK
 obtain ⟨rfl, hZ, hh⟩ := hP
 have hx := Bd.exec
 have hby := Bd.bytes
 have hml : c.maxLocals = 4 := hml0
 have hown : s.vm.findClass s_1 = some m.cls := findClass_of_methodNamed Bd.named
 have hnm := (name_of_methodNamed Bd.named Bd.method).1
 have X0 : Stand p l e (rr 5 1 8 80) s m #[.ref x0, (.long (5 : Int64)), .ref vo] below meth c s₁ [] 0 0 := Stand.of_body Bd
 have e0 : s₁.heap = h0 := by rw [← hh, Bd.state]; rfl
 show own_G _ _ _ _ (s₁.setTop (entryFrame m #[.ref x0, (.long (5 : Int64)), .ref vo] 4))
 refine goo (fun _ k => castTop (ef_6_RJR m x0 (5 : Int64) vo) k) ?_
 have N0 := Fr.nil n0
 have KP0 := Keep.refl h0 [x0]
 refine goo (fun _ k => XS.lloadN X0.here hx rfl (hb hby d6_0) rfl <| XS.lconst X0.here hx rfl (hb hby d6_1) <| XS.lcmp X0.here hx rfl (hb hby d6_2) rfl <| XS.ifNo X0.here hx rfl (hb hby d6_3) rfl (((if0 _ _).trans (flt (own_l2 (by decide : ¬ ((5 : Int64) < (1 : Int64))))).1)) k) ?_
 refine goo (fun _ k => XS.lloadN X0.here hx rfl (hb hby d6_6) rfl k) ?_
 show own_G _ _ _ _ (s₁.setTop (mkF m 7 #[rv x0, .val (.long (5 : Int64)), .second, rv vo] [(.long (5 : Int64))]))
 refine goo (fun _ k => XS.aloadN X0.here hx rfl (hb hby d6_7) rfl rfl k) ?_
 obtain ⟨T'0, X'0, e'0, st'0⟩ := getF X0 hx hZ hown (host := "") (Or.inl (qw hw 39 rfl)) Via.refl e0 p2_ (g := (mkF m 8 #[rv x0, .val (.long (5 : Int64)), .second, rv vo] [.ref x0, (.long (5 : Int64))])) rfl rfl (hb hby d6_8)
 refine goo st'0 ?_
 refine goo (fun _ k => XS.i2l X'0.here hx rfl (hb hby d6_11) rfl <| XS.lcmp X'0.here hx rfl (hb hby d6_12) rfl <| XS.ifYes X'0.here hx rfl (pc0 := 13) (pc' := 86) rfl (hb hby d6_13) rfl (((if0 _ _).trans (tlt (own_g1 (by decide : (4 : Int64) < (5 : Int64)))).2.2.1)) (by decide) (by decide) <| XS.lloadN X'0.here hx rfl (hb hby d6_86) rfl k) ?_
 show own_G _ _ _ _ (T'0.setTop (mkF m 87 #[rv x0, .val (.long (5 : Int64)), .second, rv vo] [(.long (5 : Int64))]))
 refine goo (fun _ k => XS.aloadN X'0.here hx rfl (hb hby d6_87) rfl rfl k) ?_
 obtain ⟨T'1, X'1, e'1, st'1⟩ := getF X'0 hx hZ hown (host := "") (Or.inl (qw hw 39 rfl)) Via.refl e'0 p2_ (g := (mkF m 88 #[rv x0, .val (.long (5 : Int64)), .second, rv vo] [.ref x0, (.long (5 : Int64))])) rfl rfl (hb hby d6_88)
 refine goo st'1 ?_
 refine goo (fun _ k => XS.i2l X'1.here hx rfl (hb hby d6_91) rfl <| XS.lconst X'1.here hx rfl (hb hby d6_92) <| XS.ladd X'1.here hx rfl (hb hby d6_93) rfl <| XS.lcmp X'1.here hx rfl (hb hby d6_94) rfl k) ?_
 show own_G _ _ _ _ (T'1.setTop (mkF m 95 #[rv x0, .val (.long (5 : Int64)), .second, rv vo] [(.int (lcmpW (5 : Int64) (5 : Int64)))]))
 refine goo (fun _ k => XS.ifNo X'1.here hx rfl (hb hby d6_95) rfl (((if0 _ _).trans (teq (own_e1 (by decide : (5 : Int64) = (5 : Int64)))).2)) <| XS.aloadN X'1.here hx rfl (hb hby d6_98) rfl rfl k) ?_
 obtain ⟨T'2, X'2, e'2, st'2⟩ := getF X'1 hx hZ hown (host := "") (Or.inl (qw hw 39 rfl)) Via.refl e'1 p2_ (g := (mkF m 99 #[rv x0, .val (.long (5 : Int64)), .second, rv vo] [.ref x0])) rfl rfl (hb hby d6_99)
 refine goo st'2 ?_
 refine goo (fun _ k => X'2.ldcInt hx hown (mvT hZ (qw hw 41 rfl)) (g := (mkF m 102 #[rv x0, .val (.long (5 : Int64)), .second, rv vo] [.int i_4])) rfl (hb hby d6_102) _ k) ?_
 refine goo (fun _ k => XS.icmpNo X'2.here hx rfl (hb hby d6_104) rfl ((tlt (by decide : i_4 < i_2147483639)).2.1) <| XS.aloadN X'2.here hx rfl (hb hby d6_107) rfl rfl k) ?_
 show own_G _ _ _ _ (T'2.setTop (mkF m 108 #[rv x0, .val (.long (5 : Int64)), .second, rv vo] [.ref vo]))
 refine goo (fun _ k => XS.ifnullNo X'2.here hx rfl (hb hby d6_108) rfl <| XS.aloadN X'2.here hx rfl (hb hby d6_111) rfl rfl <| XS.aloadN X'2.here hx rfl (hb hby d6_112) rfl rfl k) ?_
 obtain ⟨cq'3, kq'3, q'3a, q'3b, q'3c⟩ := isOf hZ e'2 p0_
 obtain ⟨cp'3, cq'4, cq'5⟩ := p0_.cell
 obtain ⟨_, _, ⟨T'3, L'3, k'3, n'3⟩, -, X'3, ⟨Lc'3, hQ'3, l'3, y'3, z'3⟩, st'3⟩ := own_privB X'2 hx (y := Y26) hown (mvT hZ (qw hw 153 rfl)) (mvT hZ (qw hw 154 rfl)) (mvT hZ (qw hw 24 rfl)) (Cond.privateMethod_at (mvP hZ (qw hw 155 rfl) (args := #[]))) (mvT hZ (qw hw 156 rfl)) (by decide) (backOf (W := 0) (rm_ap4 l Z a0 hw [] x0 vo ar mir ho_ ka b0 b1 b2 b3 h0 n0 Z0 p0_ p1_ p2_ p3_ p4_ p5_ p6_ p7_ p8_ p9_ p10_ hq) hZ (qw hw 156 rfl) (qw hw 25 rfl) (by decide) (by decide)) (g := (mkF m 113 #[rv x0, .val (.long (5 : Int64)), .second, rv vo] [.ref vo, .ref x0])) rfl (by rw [hml]; rfl) (a := x0) (by rw [e'2]; exact cq'4) cq'5 (argsL := [.ref vo]) (rest := []) (lenOf own_pd14 rfl) rfl (Nat.le_of_eq rfl) (hb hby d6_113) (fun _ _ => ⟨rfl, e'2, (by decide : 0 + 1 ≤ _), (by decide : 0 + 8 ≤ _)⟩)
 dsimp only [Pt.U, Pt.locs, Pt.cells, Pt.slots] at X'3 l'3 y'3 z'3 st'3 hQ'3
 subst l'3 y'3 z'3
 obtain ⟨rfl, Nq'3, K'3, G_6, G_7, G_8, G_9, qx'3⟩ := hQ'3
 obtain ⟨ra1997, kr1997, gr1997, Fr1997, Xr'3, Or1997, Vr1997⟩ := qx'3
 have sz_2006 : h0.size ≤ ra1997 := Nat.le_trans KP0.1 gr1997
 have KP_a : Keep h0 T'3.heap [x0] := KP0.trans K'3 (allS (Or.inl (List.mem_of_getElem? (i := 0) rfl)) all0)
 have N_3 := Fr.app N0 Nq'3
 refine goo (fun _ k => st'3.trans k) ?_
 refine goo (fun _ k => XS.goto X'3.here hx rfl (pc0 := 116) (pc' := 128) rfl (hb hby d6_116) (by decide) (by decide) k) ?_
 show own_G _ _ _ _ (T'3.setTop (mkF m 128 #[rv x0, .val (.long (5 : Int64)), .second, rv vo] []))
 exact own_end X'3 Bd.notSynchronized (v := none) (fun _ => rfl) (Q := Q_rm_nx4 Z x0 vo ar mir ho_ ka b0 b1 b2 b3 h0 n0) (by show Q_rm_nx4 Z x0 vo ar mir ho_ ka b0 b1 b2 b3 h0 n0 (none) T'3.heap _; exact ⟨rfl, N_3, KP_a, G_6, G_7, G_8, G_9, ⟨ra1997, kr1997, sz_2006, Fr1997, Xr'3, Or1997, Vr1997⟩⟩) (fun fs hr => X'3.returnOut hx Bd.returns (hb hby d6_128) hr) (by decide) (by decide)
def Q_rm_ap4h (Z : State) (x0 : Addr) (vo : Addr) (ar em : Addr) (ho_ : Int32) (ka ke : ClassId) (ca : Addr) (kca : ClassId) (cvs : List Value) (bx : Nat → Addr) (h0 : Heap) (n0 : Nat) (v : Option Value) (h : Heap) (L : List Loc) : Prop := v = none ∧ Fr n0 L ∧ Keep h0 h [x0] ∧ Exa Z h x0 s_1 ∧ Fld Z h x0 s_1 "array" "[Ljava/lang/Object;" (.ref em) ∧ Fld Z h x0 s_1 "arrayCount" "I" (.int i_0) ∧ Fld Z h x0 s_1 "holes" "Z" (.int i_1)
theorem rm_ap4h (l : Launch) (Z : State) (a0 : Array Value) (hw : own_HW a0 Z) (ws : List Jvm.Cond) (x0 : Addr) (vo : Addr) (ar em : Addr) (ho_ : Int32) (ka ke : ClassId) (ca : Addr) (kca : ClassId) (cvs : List Value) (bx : Nat → Addr) (h0 : Heap) (n0 : Nat) (Z0 : n0 ≤ h0.size) (p0_ : Exa Z h0 x0 s_1) (p1_ : Fld Z h0 x0 s_1 "array" "[Ljava/lang/Object;" (.ref ar)) (p2_ : Fld Z h0 x0 s_1 "arrayCount" "I" (.int i_4)) (p3_ : Fld Z h0 x0 s_1 "holes" "Z" (.int ho_)) (p4_ : Fld Z h0 x0 s_1 "hash" "Lcom/example/plainsong/plainsong/engine/HashPart;" .null) (p5_ : ¬ ho_ = i_0) (p6_ : n0 ≤ x0) (p7_ : x0 ≠ ar) (p8_ : Arv Z h0 ar ka (.object s_2) i_4 [.null, .null, .null, .ref vo] .null) (p9_ : Exa Z h0 vo s_3) (p10_ : Old Z n0 h0) (p11_ : own_LC Z ca kca cvs bx) (p12_ : Sta Z h0 s_1 "EMPTY" "[Ljava/lang/Object;" (.ref em)) (p13_ : Arv Z h0 em ke (.object s_2) i_0 [] .null) (p14_ : x0 ≠ em)  :
  MetFree l Y26 (head1 (Jvm.Cond.code Y26 prog_60_method_14_code 6 none :: ws) (rr 5 6 30 74)) (fun a U => a = #[.ref x0, .ref vo] ∧ Z.Warmed39 U.vm ∧ U.heap = h0) (fun _ _ _ _ _ => True) (fun _ U o U' => ∃ v L, o = .returned v ∧ Q_rm_ap4h Z x0 vo ar em ho_ ka ke ca kca cvs bx h0 n0 v U'.heap L ∧ FrameEnd U o U' L (rr 5 6 30 74).cells (rr 5 6 30 74).slots) := by
 refine MetFree.of_bodySF (plainFor_of_name own_pn2) hisR ?_
 intro p e s m args below meth c s₁ Bd hml0 hP hK
 obtain ⟨rfl, hZ, hh⟩ := hP
 have hx := Bd.exec
 have hby := Bd.bytes
 have hml : c.maxLocals = 6 := hml0
 have hown : s.vm.findClass s_1 = some m.cls := findClass_of_methodNamed Bd.named
 have hnm := (name_of_methodNamed Bd.named Bd.method).1
 have X0 : Stand p l e (rr 5 6 30 74) s m #[.ref x0, .ref vo] below meth c s₁ [] 0 0 := Stand.of_body Bd
 have e0 : s₁.heap = h0 := by rw [← hh, Bd.state]; rfl
 show own_G _ _ _ _ (s₁.setTop (entryFrame m #[.ref x0, .ref vo] 6))
 refine goo (fun _ k => castTop (ef_25_RR m x0 vo) k) ?_
 have N0 := Fr.nil n0
 have KP0 := Keep.refl h0 [x0]
 refine goo (fun _ k => XS.aloadN X0.here hx rfl (hb hby d25_0) rfl rfl k) ?_
 obtain ⟨T'0, X'0, e'0, st'0⟩ := getF X0 hx hZ hown (host := "") (Or.inl (qw hw 51 rfl)) Via.refl e0 p4_ (g := (mkF m 1 #[rv x0, rv vo, .unset, .unset, .unset, .unset] [.ref x0])) rfl rfl (hb hby d25_1)
 refine goo st'0 ?_
 refine goo (fun _ k => XS.ifnullYes X'0.here hx rfl (pc0 := 4) (pc' := 35) rfl (hb hby d25_4) rfl (by decide) (by decide) <| XS.aloadN X'0.here hx rfl (hb hby d25_35) rfl rfl <| XS.astoreN X'0.here hx rfl (hb hby d25_36) rfl rfl (l' := #[rv x0, rv vo, rv vo, .unset, .unset, .unset]) rfl k) ?_
 show own_G _ _ _ _ (T'0.setTop (mkF m 37 #[rv x0, rv vo, rv vo, .unset, .unset, .unset] []))
 refine goo (fun _ k => XS.aloadN X'0.here hx rfl (hb hby d25_37) rfl rfl <| XS.ifnullNo X'0.here hx rfl (hb hby d25_38) rfl <| XS.aloadN X'0.here hx rfl (hb hby d25_41) rfl rfl k) ?_
 obtain ⟨T'1, X'1, e'1, st'1⟩ := getF X'0 hx hZ hown (host := "") (Or.inl (qw hw 39 rfl)) Via.refl e'0 p2_ (g := (mkF m 42 #[rv x0, rv vo, rv vo, .unset, .unset, .unset] [.ref x0])) rfl rfl (hb hby d25_42)
 refine goo st'1 ?_
 refine goo (fun _ k => XS.i2l X'1.here hx rfl (hb hby d25_45) rfl <| XS.lconst X'1.here hx rfl (hb hby d25_46) k) ?_
 show own_G _ _ _ _ (T'1.setTop (mkF m 47 #[rv x0, rv vo, rv vo, .unset, .unset, .unset] [(.long (1 : Int64)), (.long (4 : Int64))]))
 refine goo (fun _ k => XS.ladd X'1.here hx rfl (hb hby d25_47) rfl <| XS.lstoreN X'1.here hx rfl (hb hby d25_48) rfl (l' := #[rv x0, rv vo, rv vo, .val (.long (5 : Int64)), .second, .unset]) rfl <| XS.aloadN X'1.here hx rfl (hb hby d25_49) rfl rfl k) ?_
 obtain ⟨T'2, X'2, e'2, st'2⟩ := getF X'1 hx hZ hown (host := "") (Or.inl (qw hw 39 rfl)) Via.refl e'1 p2_ (g := (mkF m 50 #[rv x0, rv vo, rv vo, .val (.long (5 : Int64)), .second, .unset] [.ref x0])) rfl rfl (hb hby d25_50)
 refine goo st'2 ?_
 refine goo (fun _ k => XS.aloadN X'2.here hx rfl (hb hby d25_53) rfl rfl k) ?_
 obtain ⟨T'3, X'3, e'3, st'3⟩ := getF X'2 hx hZ hown (host := "") (Or.inl (qw hw 32 rfl)) Via.refl e'2 p1_ (g := (mkF m 54 #[rv x0, rv vo, rv vo, .val (.long (5 : Int64)), .second, .unset] [.ref x0, .int i_4])) rfl rfl (hb hby d25_54)
 refine goo st'3 ?_
 show own_G _ _ _ _ (T'3.setTop (mkF m 57 #[rv x0, rv vo, rv vo, .val (.long (5 : Int64)), .second, .unset] [.ref ar, .int i_4]))
 obtain ⟨cl2017, Ar2017, -, S2017, N2017, -, -⟩ := id p8_
 refine goo (fun _ k => X'3.arraylength hx (cell := cl2017) (by rw [e'3]; exact Ar2017.1) (State.isArrayOf_alike hZ.alike Ar2017.2.1) (g := (mkF m 57 #[rv x0, rv vo, rv vo, .val (.long (5 : Int64)), .second, .unset] [.ref ar, .int i_4])) rfl rfl (hb hby d25_57) _ (by rw [len_of S2017 N2017]; exact k)) ?_
 refine goo (fun _ k => XS.icmpNo X'3.here hx rfl (hb hby d25_58) rfl ((teq (by decide : i_4 = i_4)).2) <| XS.aloadN X'3.here hx rfl (hb hby d25_61) rfl rfl k) ?_
 obtain ⟨cq'4, kq'4, q'4a, q'4b, q'4c⟩ := isOf hZ e'3 p0_
 obtain ⟨cp'4, cq'5, cq'6⟩ := p0_.cell
 obtain ⟨_, _, ⟨T'4, L'4, k'4, n'4⟩, -, X'4, ⟨Lc'4, hQ'4, l'4, y'4, z'4⟩, st'4⟩ := own_privB X'3 hx (y := Y30) hown (mvT hZ (qw hw 157 rfl)) (mvT hZ (qw hw 158 rfl)) (mvT hZ (qw hw 24 rfl)) (Cond.privateMethod_at (mvP hZ (qw hw 159 rfl) (args := #[]))) (mvT hZ (qw hw 160 rfl)) (by decide) (backOf (W := 0) (rm_mr4h l Z a0 hw [] x0 ar em ho_ ka ke vo ca kca cvs bx h0 n0 Z0 p0_ p1_ p2_ p3_ p4_ p5_ p6_ p7_ p8_ p9_ p10_ p11_ p12_ p13_ p14_) hZ (qw hw 160 rfl) (qw hw 25 rfl) (by decide) (by decide)) (g := (mkF m 62 #[rv x0, rv vo, rv vo, .val (.long (5 : Int64)), .second, .unset] [.ref x0])) rfl (by rw [hml]; rfl) (a := x0) (by rw [e'3]; exact cq'5) cq'6 (argsL := []) (rest := []) (lenOf own_pd18 rfl) rfl (Nat.le_of_eq rfl) (hb hby d25_62) (fun _ _ => ⟨rfl, e'3, (by decide : 0 + 6 ≤ _), (by decide : 0 + 30 ≤ _)⟩)
 dsimp only [Pt.U, Pt.locs, Pt.cells, Pt.slots] at X'4 l'4 y'4 z'4 st'4 hQ'4
 subst l'4 y'4 z'4
 obtain ⟨rfl, Nq'4, K'4, G_7, G_8, G_9, G_a, qx'4⟩ := hQ'4
 obtain ⟨hp2018, bk2018, ky2018, vl2018, hs2018, ch2018, k'b, k'c, k'd, k'e, k'f, Hg0_2018, Hg1_2018, Hg2_2018, Hg3_2018, Hg4_2018, Hg5_2018, Fh_2018, Hf0_2018, Hf1_2018, Hf2_2018, Hf3_2018, Hf4_2018, Hf5_2018, Hf6_2018, Hf7_2018, Hf8_2018, Hf9_2018, Hf10_2018, Hf11_2018, Hf12_2018, Hf13_2018, Hn0_2018, Hn1_2018, Hn2_2018, Hn3_2018, Hn4_2018, Hn5_2018, Hn6_2018, Hn7_2018, Hn8_2018, Hn9_2018, Hn10_2018, Hn11_2018, Hn12_2018, Hn13_2018, Hn14_2018, Ho2_2018, Ho3_2018⟩ := qx'4
 have ne_g : x0 ≠ hp2018 := Nat.ne_of_lt (Nat.lt_of_lt_of_le p0_.lt Hg0_2018)
 have ge_h : n0 ≤ hp2018 := Nat.le_trans Z0 Hg0_2018
 have sz_2028 : h0.size ≤ hp2018 := Nat.le_trans KP0.1 Hg0_2018
 have ne_i : x0 ≠ bk2018 := Nat.ne_of_lt (Nat.lt_of_lt_of_le p0_.lt Hg1_2018)
 have ge_j : n0 ≤ bk2018 := Nat.le_trans Z0 Hg1_2018
 have sz_2034 : h0.size ≤ bk2018 := Nat.le_trans KP0.1 Hg1_2018
 have ne_k : x0 ≠ ky2018 := Nat.ne_of_lt (Nat.lt_of_lt_of_le p0_.lt Hg2_2018)
 have ge_l : n0 ≤ ky2018 := Nat.le_trans Z0 Hg2_2018
 have sz_2040 : h0.size ≤ ky2018 := Nat.le_trans KP0.1 Hg2_2018
 have ne_m : x0 ≠ vl2018 := Nat.ne_of_lt (Nat.lt_of_lt_of_le p0_.lt Hg3_2018)
 have ge_n : n0 ≤ vl2018 := Nat.le_trans Z0 Hg3_2018
 have sz_2046 : h0.size ≤ vl2018 := Nat.le_trans KP0.1 Hg3_2018
 have ne_o : x0 ≠ hs2018 := Nat.ne_of_lt (Nat.lt_of_lt_of_le p0_.lt Hg4_2018)
 have ge_p : n0 ≤ hs2018 := Nat.le_trans Z0 Hg4_2018
 have sz_2052 : h0.size ≤ hs2018 := Nat.le_trans KP0.1 Hg4_2018
 have ne_q : x0 ≠ ch2018 := Nat.ne_of_lt (Nat.lt_of_lt_of_le p0_.lt Hg5_2018)
 have ge_r : n0 ≤ ch2018 := Nat.le_trans Z0 Hg5_2018
 have sz_2058 : h0.size ≤ ch2018 := Nat.le_trans KP0.1 Hg5_2018
 have X_s := p9_.keep K'4
 have Old_t := p10_.keep K'4 (allS p6_ all0)
 have Z_u : n0 ≤ T'4.heap.size := Nat.le_trans Z0 K'4.1
 have KP_v : Keep h0 T'4.heap [x0] := KP0.trans K'4 (allS (Or.inl (List.mem_of_getElem? (i := 0) rfl)) all0)
 have N_4 := Fr.app N0 Nq'4
 refine goo (fun _ k => st'4.trans k) ?_
 refine goo (fun _ k => XS.ifNo X'4.here hx rfl (hb hby d25_65) rfl (((if0 _ _).trans (teq (by decide : i_0 = i_0)).2)) <| XS.aloadN X'4.here hx rfl (hb hby d25_68) rfl rfl k) ?_
 show own_G _ _ _ _ (T'4.setTop (mkF m 69 #[rv x0, rv vo, rv vo, .val (.long (5 : Int64)), .second, .unset] [.ref x0]))
 refine goo (fun _ k => XS.lloadN X'4.here hx rfl (hb hby d25_69) rfl k) ?_
 obtain ⟨T'w, X'w, e'w, st'w⟩ := own_callP X'4 hx hZ (y := Y13) hown (qw hw 43 rfl) (qw hw 2 rfl) (qw hw 3 rfl) (qw hw 4 rfl) (by decide) (W := 1) (rm_vo5 l Z a0 hw []  n0 ca kca cvs bx T'4.heap Old_t p11_) (by decide) (by decide) rfl rfl rfl (g := (mkF m 70 #[rv x0, rv vo, rv vo, .val (.long (5 : Int64)), .second, .unset] [(.long (5 : Int64)), .ref x0])) rfl (by rw [hml]; rfl) (argsL := [(.long (5 : Int64))]) (rest := [.ref x0]) (lenOf own_pd11 rfl) rfl rfl (Nat.le_of_eq rfl) (hb hby d25_70) (by decide) (by decide)
 refine goo st'w ?_
 have X_x := own_LCx p11_ Old_t 133 (by decide)
 refine goo (fun _ k => XS.aloadN X'w.here hx rfl (hb hby d25_73) rfl rfl k) ?_
 obtain ⟨cq'y, kq'y, q'ya, q'yb, q'yc⟩ := isOf hZ e'w G_7
 obtain ⟨cp'y, cq'z, cq'10⟩ := G_7.cell
 obtain ⟨_, _, ⟨T'y, L'y, k'y, n'y⟩, -, X'y, ⟨Lc'y, hQ'y, l'y, y'y, z'y⟩, st'y⟩ := own_privB X'w hx (y := Y21) hown (mvT hZ (qw hw 47 rfl)) (mvT hZ (qw hw 48 rfl)) (mvT hZ (qw hw 24 rfl)) (Cond.privateMethod_at (mvP hZ (qw hw 49 rfl) (args := #[]))) (mvT hZ (qw hw 50 rfl)) (by decide) (backOf (W := 0) (rm_ph4 l Z a0 hw [] x0 vo hp2018 bk2018 ky2018 vl2018 hs2018 ch2018 k'b k'c k'd k'e k'f (bx 133) (5 : Int64) i_5 i_387282824 ca kca cvs bx T'4.heap n0 Z_u G_7 Fh_2018 Hf0_2018 Hf1_2018 Hf2_2018 Hf3_2018 Hf4_2018 Hf5_2018 Hf6_2018 Hf7_2018 Hf8_2018 Hf9_2018 Hf10_2018 Hf11_2018 Hf12_2018 Hf13_2018 ge_h ge_j ge_l ge_n ge_p ge_r Hn0_2018 Hn1_2018 Hn2_2018 Hn3_2018 Hn4_2018 Hn5_2018 Hn6_2018 Hn7_2018 Hn8_2018 Hn9_2018 Hn10_2018 Hn11_2018 Hn12_2018 Hn13_2018 Hn14_2018 Ho2_2018 Ho3_2018 X_x (own_LCh p11_ 133 (by decide) (5 : Int64) (by decide)) (by decide) (by decide) (by decide) X_s Old_t) hZ (qw hw 50 rfl) (qw hw 25 rfl) (by decide) (by decide)) (g := (mkF m 74 #[rv x0, rv vo, rv vo, .val (.long (5 : Int64)), .second, .unset] [.ref vo, (.ref (bx 133)), .ref x0])) rfl (by rw [hml]; rfl) (a := x0) (by rw [e'w]; exact cq'z) cq'10 (argsL := [(.ref (bx 133)), .ref vo]) (rest := []) (lenOf own_pd10 rfl) rfl (Nat.le_of_eq rfl) (hb hby d25_74) (fun _ _ => ⟨rfl, e'w, (by decide : 6 + 0 ≤ _), (by decide : 30 + 0 ≤ _)⟩)
 dsimp only [Pt.U, Pt.locs, Pt.cells, Pt.slots] at X'y l'y y'y z'y st'y hQ'y
 subst l'y y'y z'y
 obtain ⟨rfl, Nq'y, K'y⟩ := hQ'y
 have X_11 := G_7.keep K'y
 have F_12 := G_8.keep K'y (ninS ne_g (ninS ne_i (ninS ne_k (ninS ne_m (ninS ne_o (ninS ne_q nin0))))))
 have F_13 := G_9.keep K'y (ninS ne_g (ninS ne_i (ninS ne_k (ninS ne_m (ninS ne_o (ninS ne_q nin0))))))
 have F_14 := G_a.keep K'y (ninS ne_g (ninS ne_i (ninS ne_k (ninS ne_m (ninS ne_o (ninS ne_q nin0))))))
 have KP_15 : Keep h0 T'y.heap [x0] := KP_v.trans K'y (allS (Or.inr sz_2028) (allS (Or.inr sz_2034) (allS (Or.inr sz_2040) (allS (Or.inr sz_2046) (allS (Or.inr sz_2052) (allS (Or.inr sz_2058) all0))))))
 have N_y := Fr.app N_4 Nq'y
 refine goo (fun _ k => st'y.trans k) ?_
 show own_G _ _ _ _ (T'y.setTop (mkF m 77 #[rv x0, rv vo, rv vo, .val (.long (5 : Int64)), .second, .unset] []))
 exact own_end X'y Bd.notSynchronized (v := none) (fun _ => rfl) (Q := Q_rm_ap4h Z x0 vo ar em ho_ ka ke ca kca cvs bx h0 n0) (by show Q_rm_ap4h Z x0 vo ar em ho_ ka ke ca kca cvs bx h0 n0 (none) T'y.heap _; exact ⟨rfl, N_y, KP_15, X_11, F_12, F_13, F_14⟩) (fun fs hr => X'y.returnOut hx Bd.returns (hb hby d25_77) hr) (by decide) (by decide)
def Q_rm_nx4h (Z : State) (x0 : Addr) (vo : Addr) (ar em : Addr) (ho_ : Int32) (ka ke : ClassId) (ca : Addr) (kca : ClassId) (cvs : List Value) (bx : Nat → Addr) (h0 : Heap) (n0 : Nat) (v : Option Value) (h : Heap) (L : List Loc) : Prop := v = none ∧ Fr n0 L ∧ Keep h0 h [x0] ∧ Exa Z h x0 s_1 ∧ Fld Z h x0 s_1 "array" "[Ljava/lang/Object;" (.ref em) ∧ Fld Z h x0 s_1 "arrayCount" "I" (.int i_0) ∧ Fld Z h x0 s_1 "holes" "Z" (.int i_1)
theorem rm_nx4h (l : Launch) (Z : State) (a0 : Array Value) (hw : own_HW a0 Z) (ws : List Jvm.Cond) (x0 : Addr) (vo : Addr) (ar em : Addr) (ho_ : Int32) (ka ke : ClassId) (ca : Addr) (kca : ClassId) (cvs : List Value) (bx : Nat → Addr) (h0 : Heap) (n0 : Nat) (Z0 : n0 ≤ h0.size) (p0_ : Exa Z h0 x0 s_1) (p1_ : Fld Z h0 x0 s_1 "array" "[Ljava/lang/Object;" (.ref ar)) (p2_ : Fld Z h0 x0 s_1 "arrayCount" "I" (.int i_4)) (p3_ : Fld Z h0 x0 s_1 "holes" "Z" (.int ho_)) (p4_ : Fld Z h0 x0 s_1 "hash" "Lcom/example/plainsong/plainsong/engine/HashPart;" .null) (p5_ : ¬ ho_ = i_0) (p6_ : n0 ≤ x0) (p7_ : x0 ≠ ar) (p8_ : Arv Z h0 ar ka (.object s_2) i_4 [.null, .null, .null, .ref vo] .null) (p9_ : Exa Z h0 vo s_3) (p10_ : Old Z n0 h0) (p11_ : own_LC Z ca kca cvs bx) (p12_ : Sta Z h0 s_1 "EMPTY" "[Ljava/lang/Object;" (.ref em)) (p13_ : Arv Z h0 em ke (.object s_2) i_0 [] .null) (p14_ : x0 ≠ em)  :
  MetFree l Y22 (head1 (Jvm.Cond.code Y22 prog_60_method_7_code 4 none :: ws) (rr 6 6 30 91)) (fun a U => a = #[.ref x0, (.long (5 : Int64)), .ref vo] ∧ Z.Warmed39 U.vm ∧ U.heap = h0) (fun _ _ _ _ _ => True) (fun _ U o U' => ∃ v L, o = .returned v ∧ Q_rm_nx4h Z x0 vo ar em ho_ ka ke ca kca cvs bx h0 n0 v U'.heap L ∧ FrameEnd U o U' L (rr 6 6 30 91).cells (rr 6 6 30 91).slots) := by
 refine MetFree.of_bodySF (plainFor_of_name own_pn2) hisR ?_
 intro p e s m args below meth c s₁ Bd hml0 hP hK
 obtain ⟨rfl, hZ, hh⟩ := hP
 have hx := Bd.exec
 have hby := Bd.bytes
 have hml : c.maxLocals = 4 := hml0
 have hown : s.vm.findClass s_1 = some m.cls := findClass_of_methodNamed Bd.named
 have hnm := (name_of_methodNamed Bd.named Bd.method).1
 have X0 : Stand p l e (rr 6 6 30 91) s m #[.ref x0, (.long (5 : Int64)), .ref vo] below meth c s₁ [] 0 0 := Stand.of_body Bd
 have e0 : s₁.heap = h0 := by rw [← hh, Bd.state]; rfl
 show own_G _ _ _ _ (s₁.setTop (entryFrame m #[.ref x0, (.long (5 : Int64)), .ref vo] 4))
 refine goo (fun _ k => castTop (ef_6_RJR m x0 (5 : Int64) vo) k) ?_
 have N0 := Fr.nil n0
 have KP0 := Keep.refl h0 [x0]
 refine goo (fun _ k => XS.lloadN X0.here hx rfl (hb hby d6_0) rfl <| XS.lconst X0.here hx rfl (hb hby d6_1) <| XS.lcmp X0.here hx rfl (hb hby d6_2) rfl <| XS.ifNo X0.here hx rfl (hb hby d6_3) rfl (((if0 _ _).trans (flt (own_l2 (by decide : ¬ ((5 : Int64) < (1 : Int64))))).1)) k) ?_
 refine goo (fun _ k => XS.lloadN X0.here hx rfl (hb hby d6_6) rfl k) ?_
 show own_G _ _ _ _ (s₁.setTop (mkF m 7 #[rv x0, .val (.long (5 : Int64)), .second, rv vo] [(.long (5 : Int64))]))
 refine goo (fun _ k => XS.aloadN X0.here hx rfl (hb hby d6_7) rfl rfl k) ?_
 obtain ⟨T'0, X'0, e'0, st'0⟩ := getF X0 hx hZ hown (host := "") (Or.inl (qw hw 39 rfl)) Via.refl e0 p2_ (g := (mkF m 8 #[rv x0, .val (.long (5 : Int64)), .second, rv vo] [.ref x0, (.long (5 : Int64))])) rfl rfl (hb hby d6_8)
 refine goo st'0 ?_
 refine goo (fun _ k => XS.i2l X'0.here hx rfl (hb hby d6_11) rfl <| XS.lcmp X'0.here hx rfl (hb hby d6_12) rfl <| XS.ifYes X'0.here hx rfl (pc0 := 13) (pc' := 86) rfl (hb hby d6_13) rfl (((if0 _ _).trans (tlt (own_g1 (by decide : (4 : Int64) < (5 : Int64)))).2.2.1)) (by decide) (by decide) <| XS.lloadN X'0.here hx rfl (hb hby d6_86) rfl k) ?_
 show own_G _ _ _ _ (T'0.setTop (mkF m 87 #[rv x0, .val (.long (5 : Int64)), .second, rv vo] [(.long (5 : Int64))]))
 refine goo (fun _ k => XS.aloadN X'0.here hx rfl (hb hby d6_87) rfl rfl k) ?_
 obtain ⟨T'1, X'1, e'1, st'1⟩ := getF X'0 hx hZ hown (host := "") (Or.inl (qw hw 39 rfl)) Via.refl e'0 p2_ (g := (mkF m 88 #[rv x0, .val (.long (5 : Int64)), .second, rv vo] [.ref x0, (.long (5 : Int64))])) rfl rfl (hb hby d6_88)
 refine goo st'1 ?_
 refine goo (fun _ k => XS.i2l X'1.here hx rfl (hb hby d6_91) rfl <| XS.lconst X'1.here hx rfl (hb hby d6_92) <| XS.ladd X'1.here hx rfl (hb hby d6_93) rfl <| XS.lcmp X'1.here hx rfl (hb hby d6_94) rfl k) ?_
 show own_G _ _ _ _ (T'1.setTop (mkF m 95 #[rv x0, .val (.long (5 : Int64)), .second, rv vo] [(.int (lcmpW (5 : Int64) (5 : Int64)))]))
 refine goo (fun _ k => XS.ifNo X'1.here hx rfl (hb hby d6_95) rfl (((if0 _ _).trans (teq (own_e1 (by decide : (5 : Int64) = (5 : Int64)))).2)) <| XS.aloadN X'1.here hx rfl (hb hby d6_98) rfl rfl k) ?_
 obtain ⟨T'2, X'2, e'2, st'2⟩ := getF X'1 hx hZ hown (host := "") (Or.inl (qw hw 39 rfl)) Via.refl e'1 p2_ (g := (mkF m 99 #[rv x0, .val (.long (5 : Int64)), .second, rv vo] [.ref x0])) rfl rfl (hb hby d6_99)
 refine goo st'2 ?_
 refine goo (fun _ k => X'2.ldcInt hx hown (mvT hZ (qw hw 41 rfl)) (g := (mkF m 102 #[rv x0, .val (.long (5 : Int64)), .second, rv vo] [.int i_4])) rfl (hb hby d6_102) _ k) ?_
 refine goo (fun _ k => XS.icmpNo X'2.here hx rfl (hb hby d6_104) rfl ((tlt (by decide : i_4 < i_2147483639)).2.1) <| XS.aloadN X'2.here hx rfl (hb hby d6_107) rfl rfl k) ?_
 show own_G _ _ _ _ (T'2.setTop (mkF m 108 #[rv x0, .val (.long (5 : Int64)), .second, rv vo] [.ref vo]))
 refine goo (fun _ k => XS.ifnullNo X'2.here hx rfl (hb hby d6_108) rfl <| XS.aloadN X'2.here hx rfl (hb hby d6_111) rfl rfl <| XS.aloadN X'2.here hx rfl (hb hby d6_112) rfl rfl k) ?_
 obtain ⟨cq'3, kq'3, q'3a, q'3b, q'3c⟩ := isOf hZ e'2 p0_
 obtain ⟨cp'3, cq'4, cq'5⟩ := p0_.cell
 obtain ⟨_, _, ⟨T'3, L'3, k'3, n'3⟩, -, X'3, ⟨Lc'3, hQ'3, l'3, y'3, z'3⟩, st'3⟩ := own_privB X'2 hx (y := Y26) hown (mvT hZ (qw hw 153 rfl)) (mvT hZ (qw hw 154 rfl)) (mvT hZ (qw hw 24 rfl)) (Cond.privateMethod_at (mvP hZ (qw hw 155 rfl) (args := #[]))) (mvT hZ (qw hw 156 rfl)) (by decide) (backOf (W := 0) (rm_ap4h l Z a0 hw [] x0 vo ar em ho_ ka ke ca kca cvs bx h0 n0 Z0 p0_ p1_ p2_ p3_ p4_ p5_ p6_ p7_ p8_ p9_ p10_ p11_ p12_ p13_ p14_) hZ (qw hw 156 rfl) (qw hw 25 rfl) (by decide) (by decide)) (g := (mkF m 113 #[rv x0, .val (.long (5 : Int64)), .second, rv vo] [.ref vo, .ref x0])) rfl (by rw [hml]; rfl) (a := x0) (by rw [e'2]; exact cq'4) cq'5 (argsL := [.ref vo]) (rest := []) (lenOf own_pd14 rfl) rfl (Nat.le_of_eq rfl) (hb hby d6_113) (fun _ _ => ⟨rfl, e'2, (by decide : 0 + 6 ≤ _), (by decide : 0 + 30 ≤ _)⟩)
 dsimp only [Pt.U, Pt.locs, Pt.cells, Pt.slots] at X'3 l'3 y'3 z'3 st'3 hQ'3
 subst l'3 y'3 z'3
 obtain ⟨rfl, Nq'3, K'3, G_6, G_7, G_8, G_9⟩ := hQ'3
 have KP_a : Keep h0 T'3.heap [x0] := KP0.trans K'3 (allS (Or.inl (List.mem_of_getElem? (i := 0) rfl)) all0)
 have N_3 := Fr.app N0 Nq'3
 refine goo (fun _ k => st'3.trans k) ?_
 refine goo (fun _ k => XS.goto X'3.here hx rfl (pc0 := 116) (pc' := 128) rfl (hb hby d6_116) (by decide) (by decide) k) ?_
 show own_G _ _ _ _ (T'3.setTop (mkF m 128 #[rv x0, .val (.long (5 : Int64)), .second, rv vo] []))
 exact own_end X'3 Bd.notSynchronized (v := none) (fun _ => rfl) (Q := Q_rm_nx4h Z x0 vo ar em ho_ ka ke ca kca cvs bx h0 n0) (by show Q_rm_nx4h Z x0 vo ar em ho_ ka ke ca kca cvs bx h0 n0 (none) T'3.heap _; exact ⟨rfl, N_3, KP_a, G_6, G_7, G_8, G_9⟩) (fun fs hr => X'3.returnOut hx Bd.returns (hb hby d6_128) hr) (by decide) (by decide)
def own_b2 (b : Bool) : Int32 := match b with | true => 1 | false => 0
abbrev own_St := Nat × List Bool × Nat × Bool
def own_fl (n : Nat) : own_St := if n = 0 then (0, [], 0, false) else (4, [true, decide (2 ≤ n), decide (3 ≤ n), decide (4 ≤ n)], n, false)
def own_clr (j : Nat) (S : own_St) : own_St := if j < S.2.2.1 then (S.1, S.2.1.set j false, own_dc S.2.1 S.2.2.1 j, if j + 1 = S.2.2.1 then S.2.2.2 else true) else S
def own_put (r : Nat) (S : own_St) : own_St :=
  if r = 0 then S else if r ≤ S.2.2.1 then (S.1, S.2.1.set (r - 1) true, S.2.2) else if r = S.2.2.1 + 1 then
    (if S.1 = 0 then (4, [true, false, false, false], 1, false) else if S.2.2.1 < 4 then (S.1, S.2.1.set S.2.2.1 true, S.2.2.1 + 1, S.2.2.2)
     else if S.2.2.2 = true ∧ S.2.1 = [false, false, false, true] then (0, [], 0, true) else (8, S.2.1 ++ [true, false, false, false], 5, S.2.2.2)) else S
def own_cif (m : Bool) (j : Nat) (S : own_St) : own_St := match m with | true => own_clr j S | false => S
def own_fbs (S : own_St) : own_St := (S.1, S.2.1, S.2.2.1, match S.2.2.2 with | true => decide (own_ff S.2.1 S.2.2.1 0 ≠ S.2.2.1) | false => false)
def own_fbv (S : own_St) : Nat := own_fv (own_b2 S.2.2.2) S.2.1 S.2.2.1
def own_p (k n : Nat) (m : Bool) (r : Nat) : Bool := (decide (¬ n < k) && !m) || decide (r = k)
def own_ex (p1 p2 p3 p4 p5 : Bool) : Int64 := match p1 with | false => 0 | true => match p2 with | false => 1 | true => match p3 with | false => 2 | true => match p4 with | false => 3 | true => match p5 with | false => 4 | true => 5
def own_okb (S : own_St) : Bool := decide (S.2.2.1 ≤ 4) && ((decide (S.1 = 0) && decide (S.2.1 = []) && decide (S.2.2.1 = 0) && decide (S.2.2.2 = false)) || (decide (S.1 = 4) && decide (S.2.1.length = 4) && (decide (¬ S.2.2.1 = 4) || decide (S.2.2.2 = false) || (decide (S.2.2.2 = true) && decide (2 ≤ own_ct S.2.1 4 0) && decide (own_ct S.2.1 4 0 < 4)) || (decide (S.2.2.2 = true) && decide (S.2.1 = [false, false, false, true])))))
def own_ok (S : own_St) : Prop := S.2.2.1 ≤ 4 ∧ ((S.1 = 0 ∧ S.2.1 = [] ∧ S.2.2.1 = 0 ∧ S.2.2.2 = false) ∨ (S.1 = 4 ∧ S.2.1.length = 4 ∧ (S.2.2.1 = 4 → S.2.2.2 = false ∨ (S.2.2.2 = true ∧ 2 ≤ own_ct S.2.1 4 0 ∧ own_ct S.2.1 4 0 < 4) ∨ (S.2.2.2 = true ∧ S.2.1 = [false, false, false, true]))))
theorem own_okp {S : own_St} (h : own_okb S = true) : own_ok S := by
  simp only [own_okb, Bool.and_eq_true, Bool.or_eq_true, decide_eq_true_eq] at h
  obtain ⟨h1, h2⟩ := h
  refine ⟨h1, ?_⟩
  rcases h2 with ⟨⟨⟨a, b⟩, c⟩, d⟩ | ⟨⟨a, b⟩, c⟩
  · exact Or.inl ⟨a, b, c, d⟩
  · refine Or.inr ⟨a, b, fun q => ?_⟩
    rcases c with ((c | c) | ⟨⟨c, d⟩, e⟩) | ⟨c, d⟩
    · exact absurd q c
    · exact Or.inl c
    · exact Or.inr (Or.inl ⟨c, d, e⟩)
    · exact Or.inr (Or.inr ⟨c, d⟩)
def own_cl4 (n : Nat) (m1 m2 m3 m4 : Bool) : own_St := own_cif m4 3 (own_cif m3 2 (own_cif m2 1 (own_cif m1 0 (own_fl n))))
theorem own_law {n r : Nat} (hn : n < 5) (hr : r < 6) (m1 m2 m3 m4 : Bool) : let S := own_put r (own_cl4 n m1 m2 m3 m4); let E := own_ex (own_p 1 n m1 r) (own_p 2 n m2 r) (own_p 3 n m3 r) (own_p 4 n m4 r) (decide (r = 5)); (Int32.ofNat (own_fbv S)).toInt64 = E ∧ (Int32.ofNat (own_fbv (own_fbs S))).toInt64 = E ∧ S.2.2.1 ≤ S.1 ∧ S.1 < 100 :=
  (by decide +kernel : ∀ (n : Fin 5) (r : Fin 6) (m1 m2 m3 m4 : Bool), let S := own_put r (own_cl4 n m1 m2 m3 m4); let E := own_ex (own_p 1 n m1 r) (own_p 2 n m2 r) (own_p 3 n m3 r) (own_p 4 n m4 r) (decide (r.1 = 5)); (Int32.ofNat (own_fbv S)).toInt64 = E ∧ (Int32.ofNat (own_fbv (own_fbs S))).toInt64 = E ∧ S.2.2.1 ≤ S.1 ∧ S.1 < 100) ⟨n, hn⟩ ⟨r, hr⟩ m1 m2 m3 m4
theorem own_oks {n : Nat} (hn : n < 5) (m1 m2 m3 m4 : Bool) : own_ok (own_fl n) ∧ own_ok (own_cif m1 0 (own_fl n)) ∧ own_ok (own_cif m2 1 (own_cif m1 0 (own_fl n))) ∧ own_ok (own_cif m3 2 (own_cif m2 1 (own_cif m1 0 (own_fl n)))) ∧ own_ok (own_cl4 n m1 m2 m3 m4) := by
  have h := (by decide +kernel : ∀ (n : Fin 5) (m1 m2 m3 m4 : Bool), own_okb (own_fl n) = true ∧ own_okb (own_cif m1 0 (own_fl n)) = true ∧ own_okb (own_cif m2 1 (own_cif m1 0 (own_fl n))) = true ∧ own_okb (own_cif m3 2 (own_cif m2 1 (own_cif m1 0 (own_fl n)))) = true ∧ own_okb (own_cl4 n m1 m2 m3 m4) = true) ⟨n, hn⟩ m1 m2 m3 m4
  exact ⟨own_okp h.1, own_okp h.2.1, own_okp h.2.2.1, own_okp h.2.2.2.1, own_okp h.2.2.2.2⟩
theorem own_hk : ∀ (j : Fin 4) (c : Fin 5), j.1 < c.1 → (¬ Int64.ofNat (j.1 + 1) < (1 : Int64) ∧ ¬ (Int32.ofNat c.1).toInt64 < Int64.ofNat (j.1 + 1) ∧ (Int64.ofNat (j.1 + 1) = (Int32.ofNat c.1).toInt64 ↔ j.1 + 1 = c.1) ∧ (Int64.ofNat (j.1 + 1)).toInt32 - 1 = Int32.ofNat j.1) := by decide +kernel
theorem own_hg : ∀ (j : Fin 5) (c : Fin 5), ¬ j.1 < c.1 → (¬ Int64.ofNat (j.1 + 1) < (1 : Int64) ∧ (Int32.ofNat c.1).toInt64 < Int64.ofNat (j.1 + 1) ∧ (Int64.ofNat (j.1 + 1) = (Int32.ofNat c.1).toInt64 + 1 ↔ j.1 = c.1) ∧ Int32.ofNat c.1 < 2147483639) := by decide +kernel
theorem own_rk : ∀ r : Fin 6, (Int32.ofNat r.1).toInt64 = Int64.ofNat r.1 := by decide +kernel
theorem own_p1 {k n r : Nat} {m : Bool} (h : r = k) : own_p k n m r = true := by unfold own_p; rw [decide_eq_true h, Bool.or_true]
theorem own_p2 {k n r : Nat} (h : ¬ n < k) : own_p k n false r = true := by unfold own_p; rw [decide_eq_true h]; rfl
theorem own_p3 {k n r : Nat} {m : Bool} (h1 : n < k) (h : ¬ r = k) : own_p k n m r = false := by unfold own_p; rw [decide_eq_false h, decide_eq_false (not_not_intro h1)]; rfl
theorem own_p4 {k n r : Nat} (h : ¬ r = k) : own_p k n true r = false := by unfold own_p; rw [decide_eq_false h, Bool.not_true, Bool.and_false]; rfl
theorem own_h0 : ∀ c : Fin 5, ¬ (0 : Int64) = (Int32.ofNat c.1).toInt64 + 1 := by decide +kernel
theorem own_fhb (ho : Bool) (bs : List Bool) (c : Nat) : own_fh (own_b2 ho) bs c = own_b2 (match ho with | true => decide (own_ff bs c 0 ≠ c) | false => false) := by
  cases ho
  · rfl
  · by_cases h : own_ff bs c 0 = c
    · simp [own_fh, own_b2, h]
    · simp [own_fh, own_b2, h]
theorem own_dhb (ho : Bool) (c j : Nat) : own_dh (own_b2 ho) c j = own_b2 (if j + 1 = c then ho else true) := by
  unfold own_dh; split <;> rfl
theorem own_put_h {r : Nat} {S : own_St} (h : r = 0 ∨ S.2.2.1 + 1 < r) : own_put r S = S := by
  unfold own_put
  rcases h with h | h
  · rw [if_pos h]
  · rw [if_neg (by omega), if_neg (by omega), if_neg (by omega)]
theorem own_put_i {r : Nat} {S : own_St} (h0 : ¬ r = 0) (h : r ≤ S.2.2.1) : own_put r S = (S.1, S.2.1.set (r - 1) true, S.2.2) := by
  unfold own_put
  rw [if_neg h0, if_pos h]
theorem own_put_n {r : Nat} {S : own_St} (h : r = S.2.2.1 + 1) (h1 : ¬ S.1 = 0) (h4 : S.2.2.1 < 4) : own_put r S = (S.1, S.2.1.set S.2.2.1 true, S.2.2.1 + 1, S.2.2.2) := by
  unfold own_put
  rw [if_neg (by omega), if_neg (by omega), if_pos h, if_neg h1, if_pos h4]
theorem own_put_5 {bs : List Bool} {ho : Bool} (h : ¬ (ho = true ∧ bs = [false, false, false, true])) : own_put 5 (4, bs, 4, ho) = (8, bs ++ [true, false, false, false], 5, ho) := by
  unfold own_put
  rw [if_neg (Nat.succ_ne_zero 4), if_neg (show ¬ 5 ≤ 4 by decide), if_pos (show 5 = 4 + 1 from rfl), if_neg (show ¬ 4 = 0 by decide), if_neg (show ¬ 4 < 4 by decide)]
  exact if_neg h
theorem own_put_e {r : Nat} (h : r = 1) : own_put r (0, [], 0, false) = (4, [true, false, false, false], 1, false) := by subst h; rfl

def own_U (Z : State) (n0 : Nat) (t vo : Addr) (S : own_St) (h : Heap) : Prop := ∃ (ar : Addr) (ka : ClassId), Exa Z h t "com/example/plainsong/plainsong/engine/Table" ∧ Fld Z h t "com/example/plainsong/plainsong/engine/Table" "array" "[Ljava/lang/Object;" (.ref ar) ∧ Fld Z h t "com/example/plainsong/plainsong/engine/Table" "arrayCount" "I" (.int (Int32.ofNat S.2.2.1)) ∧ Fld Z h t "com/example/plainsong/plainsong/engine/Table" "holes" "Z" (.int (own_b2 S.2.2.2)) ∧ Arv Z h ar ka (.object "java/lang/Object") (Int32.ofNat S.1) (own_l S.2.1 vo) .null ∧ t ≠ ar ∧ Exa Z h ar "[Ljava/lang/Object;" ∧ (S.1 = 0 ∨ (n0 ≤ ar ∧ Ovr Z ka "java/lang/Object"))
def own_I (hn : Bool) (Z : State) (n0 : Nat) (t vo : Addr) (S : own_St) (h : Heap) (L : List Loc) : Prop := own_U Z n0 t vo S h ∧ n0 ≤ t ∧ Exa Z h vo "java/lang/Long" ∧ Old Z n0 h ∧ n0 ≤ h.size ∧ Fr n0 L ∧ (hn = true → Fld Z h t "com/example/plainsong/plainsong/engine/Table" "hash" "Lcom/example/plainsong/plainsong/engine/HashPart;" .null)
def own_W (Z : State) (em : Addr) (ke : ClassId) (mir ca : Addr) (kca : ClassId) (cvs : List Value) (bx : Nat → Addr) : Prop := Sta Z Z.heap "com/example/plainsong/plainsong/engine/Table" "EMPTY" "[Ljava/lang/Object;" (.ref em) ∧ Arv Z Z.heap em ke (.object "java/lang/Object") (0 : Int32) [] .null ∧ Exa Z Z.heap em "[Ljava/lang/Object;" ∧ own_Mr Z "[Ljava/lang/Object;" mir ∧ own_LC Z ca kca cvs bx
theorem own_I_keep {hn : Bool} {Z : State} {n0 : Nat} {t vo : Addr} {S : own_St} {h h' : Heap} {L L' : List Loc} (J : own_I hn Z n0 t vo S h L) (K : Keep h h' []) (N : Fr n0 L') : own_I hn Z n0 t vo S h' (L ++ L') := by
  obtain ⟨⟨ar, ka, hX, hA, hC, hH, hV, hne, hXa, hz⟩, hge, hvo, hO, hN, hF, hh⟩ := J
  exact ⟨⟨ar, ka, hX.keep K, hA.keep K nin0, hC.keep K nin0, hH.keep K nin0, hV.keep K nin0, hne, hXa.keep K, hz⟩, hge, hvo.keep K, hO.keep K all0, Nat.le_trans hN K.1, hF.app N, fun q => (hh q).keep K nin0⟩
theorem own_I_weak {hn : Bool} {Z : State} {n0 : Nat} {t vo : Addr} {S : own_St} {h : Heap} {L : List Loc} (J : own_I hn Z n0 t vo S h L) : own_I false Z n0 t vo S h L := ⟨J.1, J.2.1, J.2.2.1, J.2.2.2.1, J.2.2.2.2.1, J.2.2.2.2.2.1, fun q => by cases q⟩
section OwnD
variable {p : Program} {l : Launch} {e : Env} {s : State} {m : MethodId} {args : Array Value} {below : List Frame} {meth : Method} {c : Code} {T : State} {locs : List Loc} {cells slots : Nat} {Z : State} {a0 : Array Value} {n0 : Nat} {t vo em : Addr} {ke : ClassId} {mir ca : Addr} {kca : ClassId} {cvs : List Value} {bx : Nat → Addr} {S : own_St} {g : JFrame}
theorem own_cT (X : Stand p l e room_1 s m args below meth c T locs cells slots) (hx : p.tables.exec = Jvm.exec) (hZ : Z.Warmed39 s.vm) {own C : String} {index : Nat} {y : MethodName} {bytes : ByteArray} {maxL : Nat} {ret : Option FieldType} {rm : Room} {Q : Option Value → Heap → List Loc → Prop} {as' : Array Value}
    (hown : s.vm.findClass own = some m.cls) (w1 : (Jvm.Cond.methodLink own index y).before a0 Z = true) (w2 : (Jvm.Cond.declares y).before a0 Z = true) (w3 : (Jvm.Cond.selects C y y).before a0 Z = true) (w4 : (Jvm.Cond.instanceMethod y).before a0 Z = true) (w5 : (Jvm.Cond.initialized y.cls).before a0 Z = true) (w6 : (Jvm.Cond.code y bytes maxL ret).before a0 Z = true)
    (hy : y.cls ≠ "java/lang/invoke/MethodHandle" ∧ y.cls ≠ "java/lang/invoke/VarHandle") (Ex : Exa Z T.heap t C)
    (hM : MetFree l y (head1 [Jvm.Cond.code y bytes maxL ret] rm) (fun a U => a = as' ∧ Z.Warmed39 U.vm ∧ U.heap = T.heap) (fun _ _ _ _ _ => True) (fun _ U o U' => ∃ v L, o = .returned v ∧ Q v U'.heap L ∧ FrameEnd U o U' L rm.cells rm.slots))
    (hf : rm.frames + 1 ≤ room_1.frames) (hl : 0 + (maxL + 11) + rm.locals ≤ room_1.locals) {K K' : Nat} (hC : rm.cells ≤ K) (hS : rm.slots ≤ K') (hc : cells + K ≤ room_1.cells) (hs : slots + K' ≤ room_1.slots)
    (hg : g.method = m) (hsize : g.locals.size = c.maxLocals) (hW : 2 * g.monitorRoom + (([] : List Value).map fun v => v.category).sum ≤ 0) {argsL : List Value} (hlen : ∀ sig, parseMethodDescriptor y.desc = some sig → argsL.length = sig.parameters.length) (hstack : g.stack = argsL.reverse ++ [.ref t]) (ha : (.ref t :: argsL).toArray = as') (hd : decode c.code g.pc = .ok (.invokevirtual index, 3)) :
    ∃ v T' Lc, Stand p l e room_1 s m args below meth c T' (locs ++ Lc) (cells + K) (slots + K') ∧ Q v T'.heap Lc ∧ ∀ target, Steps p.tables e below (T'.setTop { g with pc := g.pc + 3, stack := v.toList ++ [] }) target → Steps p.tables e below (T.setTop g) target := by
  obtain ⟨cq, kq, qa, qb, qc⟩ := isOf hZ rfl Ex
  obtain ⟨v1, _, ⟨T1, L1, k1, n1⟩, -, X1, ⟨Lc, hQ, l1, y1, z1⟩, st⟩ := X.virtualBack hx hown (mvT hZ w1) (mvT hZ w2) (notFace_of_selects (args := #[]) (mvT hZ w3)) (mvT hZ w3) (mvT hZ w4) hy (backOf (W := 0) hM hZ w6 w5 hf hl) qa qc hg hsize (Steps.refl _) hlen hstack hW hd (fun _ _ => ⟨ha, rfl, Nat.le_trans (Nat.add_le_add_left hC _) hc, Nat.le_trans (Nat.add_le_add_left hS _) hs⟩)
  dsimp only [Pt.U, Pt.locs, Pt.cells, Pt.slots] at X1 l1 y1 z1 st hQ
  subst l1 y1 z1
  exact ⟨v1, T1, Lc, X1.more (Nat.add_le_add_left hC _) (Nat.add_le_add_left hS _), hQ, fun target k => st.trans k⟩
theorem own_pd19 : parseMethodDescriptor "(JLjava/lang/Object;)V" = some ⟨[.long, (.object "java/lang/Object")], none⟩ := by decide +kernel
theorem own_pd20 : parseMethodDescriptor "()J" = some ⟨[], some .long⟩ := by decide +kernel
theorem own_dclr (X : Stand p l e room_1 s m args below meth c T locs cells slots) (hx : p.tables.exec = Jvm.exec) (hZ : Z.Warmed39 s.vm) (hw : ∀ d ∈ tables_1, d.before a0 Z = true) (hown : s.vm.findClass "com/example/plainsong/plainsong/engine/TableFirstBorderPinLaw" = some m.cls) {j : Nat} {kk : Int64} (hj4 : j < 4) (hkk : kk = Int64.ofNat (j + 1)) (W : own_W Z em ke mir ca kca cvs bx) (J : own_I true Z n0 t vo S T.heap locs) (hok : own_ok S) (hc : cells + 1 ≤ room_1.cells) (hs : slots + 1 ≤ room_1.slots)
    (hg : g.method = m) (hsize : g.locals.size = c.maxLocals) (hW : 2 * g.monitorRoom + (([] : List Value).map fun v => v.category).sum ≤ 0) (hstack : g.stack = [.null, .long kk, .ref t]) (hd : decode c.code g.pc = .ok (.invokevirtual 17, 3)) :
    ∃ T' L', Stand p l e room_1 s m args below meth c T' L' (cells + 1) (slots + 1) ∧ own_I true Z n0 t vo (own_clr j S) T'.heap L' ∧ ∀ target, Steps p.tables e below (T'.setTop { g with pc := g.pc + 3, stack := [] }) target → Steps p.tables e below (T.setTop g) target := by
  obtain ⟨zn, bs, cn, ho⟩ := S
  obtain ⟨⟨ar, ka, hX, hA, hC, hH, hV, hne, hXa, hz⟩, hge, hvo, hO, hN, hF, hh⟩ := id J
  dsimp only at hC hH hV hz
  obtain ⟨h4, hcase⟩ := hok
  dsimp only at h4 hcase
  by_cases hj : j < cn
  · have hk := own_hk ⟨j, hj4⟩ ⟨cn, by omega⟩ hj
    dsimp only at hk
    rw [← hkk] at hk
    have hz4 : zn = 4 ∧ bs.length = 4 := by
      rcases hcase with ⟨h1, h2, h3, h5⟩ | ⟨h1, h2, h3⟩
      · omega
      · exact ⟨h1, h2⟩
    obtain ⟨hga, -⟩ := id (hz.resolve_left (by omega))
    obtain ⟨v, T', Lc, X', ⟨rfl, N, K, F1, F0, V1, F2, F3⟩, st⟩ := own_cT (C := "com/example/plainsong/plainsong/engine/Table") X hx hZ hown (qw hw 34 rfl) (qw hw 35 rfl) (qw hw 37 rfl) (qw hw 36 rfl) (qw hw 25 rfl) (qw hw 38 rfl) (by decide) hX (rm_cl l Z a0 hw [] t kk ar (own_b2 ho) ka bs vo cn zn j T.heap n0 hN hX hA hC hH (hh rfl) hV hge hga hne hk ⟨hj, by omega, by omega, by omega⟩) (by decide) (by decide) (by decide) (by decide) hc hs hg hsize hW (argsL := [.long kk, .null]) (lenOf own_pd19 rfl) hstack rfl hd
    rw [own_dhb] at F3
    refine ⟨T', _, X', ?_, st⟩
    show own_I true Z n0 t vo (own_clr j (zn, bs, cn, ho)) T'.heap _
    rw [own_clr, if_pos hj]
    exact ⟨⟨ar, ka, hX.keep K, F1, F2, F3, V1, hne, hXa.keep K, hz⟩, hge, hvo.keep K, hO.keep K (allS hge (allS hga all0)), Nat.le_trans hN K.1, hF.app N, fun _ => F0⟩
  · have hk := own_hg ⟨j, by omega⟩ ⟨cn, by omega⟩ hj
    dsimp only at hk
    rw [← hkk] at hk
    have e1 : own_clr j (zn, bs, cn, ho) = (zn, bs, cn, ho) := if_neg hj
    rw [e1]
    by_cases hj2 : j = cn
    · obtain ⟨v, T', Lc, X', ⟨rfl, N, K⟩, st⟩ := own_cT (C := "com/example/plainsong/plainsong/engine/Table") X hx hZ hown (qw hw 34 rfl) (qw hw 35 rfl) (qw hw 37 rfl) (qw hw 36 rfl) (qw hw 25 rfl) (qw hw 38 rfl) (by decide) hX (rm_cn l Z a0 hw [] t kk cn T.heap n0 hN hX hC ⟨hk.1, hk.2.1, hk.2.2.1.mpr hj2, hk.2.2.2⟩) (by decide) (by decide) (by decide) (by decide) hc hs hg hsize hW (argsL := [.long kk, .null]) (lenOf own_pd19 rfl) hstack rfl hd
      exact ⟨T', _, X', own_I_keep J K N, st⟩
    · obtain ⟨v, T', Lc, X', ⟨rfl, N, K⟩, st⟩ := own_cT (C := "com/example/plainsong/plainsong/engine/Table") X hx hZ hown (qw hw 34 rfl) (qw hw 35 rfl) (qw hw 37 rfl) (qw hw 36 rfl) (qw hw 25 rfl) (qw hw 38 rfl) (by decide) hX (rm_ch l Z a0 hw [] t kk cn ca kca cvs bx T.heap n0 hN hX hC (hh rfl) hO W.2.2.2.2 ⟨hk.1, hk.2.1, fun q => hj2 (hk.2.2.1.mp q)⟩) (by decide) (by decide) (by decide) (by decide) hc hs hg hsize hW (argsL := [.long kk, .null]) (lenOf own_pd19 rfl) hstack rfl hd
      exact ⟨T', _, X', own_I_keep J K N, st⟩
theorem own_dnx (X : Stand p l e room_1 s m args below meth c T locs cells slots) (hx : p.tables.exec = Jvm.exec) (hZ : Z.Warmed39 s.vm) (hw : ∀ d ∈ tables_1, d.before a0 Z = true) (hown : s.vm.findClass "com/example/plainsong/plainsong/engine/TableFirstBorderPinLaw" = some m.cls) {kk : Int64} (hkk : kk = Int64.ofNat (S.2.2.1 + 1)) (W : own_W Z em ke mir ca kca cvs bx) (J : own_I true Z n0 t vo S T.heap locs) (hok : S.1 = 4 ∧ S.2.1.length = 4 ∧ S.2.2.1 < 4) (hc : cells + 0 ≤ room_1.cells) (hs : slots + 0 ≤ room_1.slots)
    (hg : g.method = m) (hsize : g.locals.size = c.maxLocals) (hW : 2 * g.monitorRoom + (([] : List Value).map fun v => v.category).sum ≤ 0) (hstack : g.stack = [.ref vo, .long kk, .ref t]) (hd : decode c.code g.pc = .ok (.invokevirtual 17, 3)) :
    ∃ T' L', Stand p l e room_1 s m args below meth c T' L' (cells + 0) (slots + 0) ∧ own_I true Z n0 t vo ((S.1, S.2.1.set S.2.2.1 true, S.2.2.1 + 1, S.2.2.2)) T'.heap L' ∧ ∀ target, Steps p.tables e below (T'.setTop { g with pc := g.pc + 3, stack := [] }) target → Steps p.tables e below (T.setTop g) target := by
  obtain ⟨zn, bs, cn, ho⟩ := S
  obtain ⟨⟨ar, ka, hX, hA, hC, hH, hV, hne, hXa, hz⟩, hge, hvo, hO, hN, hF, hh⟩ := id J
  dsimp only at hC hH hV hz
  dsimp only at hok hkk
  obtain ⟨rfl, hl4, hc4⟩ := hok
  obtain ⟨hga, hov⟩ := id (hz.resolve_left (by decide))
  have hk := own_hg ⟨cn, by omega⟩ ⟨cn, by omega⟩ (by dsimp only; omega)
  dsimp only at hk
  rw [← hkk] at hk
  obtain ⟨v, T', Lc, X', ⟨rfl, N, K, G1, G2, G3, G4, G5, G6⟩, st⟩ := own_cT (C := "com/example/plainsong/plainsong/engine/Table") X hx hZ hown (qw hw 34 rfl) (qw hw 35 rfl) (qw hw 37 rfl) (qw hw 36 rfl) (qw hw 25 rfl) (qw hw 38 rfl) (by decide) hX (rm_nx l Z a0 hw [] t kk vo ar (own_b2 ho) ka bs cn T.heap n0 hN hX hA hC hH (hh rfl) hV hov hvo hge hga hne ⟨hk.1, hk.2.1, hk.2.2.1.mpr rfl, hk.2.2.2⟩ ⟨hc4, hl4⟩) (by decide) (by decide) (by decide) (by decide) hc hs hg hsize hW (argsL := [.long kk, .ref vo]) (lenOf own_pd19 rfl) hstack rfl hd
  exact ⟨T', _, X', ⟨⟨ar, ka, G1, G2, G3, G4, G6, hne, hXa.keep K, hz⟩, hge, hvo.keep K, hO.keep K (allS hge (allS hga all0)), Nat.le_trans hN K.1, hF.app N, fun _ => G5⟩, st⟩
theorem own_dnE (X : Stand p l e room_1 s m args below meth c T locs cells slots) (hx : p.tables.exec = Jvm.exec) (hZ : Z.Warmed39 s.vm) (hw : ∀ d ∈ tables_1, d.before a0 Z = true) (hown : s.vm.findClass "com/example/plainsong/plainsong/engine/TableFirstBorderPinLaw" = some m.cls) {kk : Int64} (hkk : kk = 1) (W : own_W Z em ke mir ca kca cvs bx) (J : own_I true Z n0 t vo S T.heap locs) (hok : S = (0, [], 0, false)) (hc : cells + 1 ≤ room_1.cells) (hs : slots + 4 ≤ room_1.slots)
    (hg : g.method = m) (hsize : g.locals.size = c.maxLocals) (hW : 2 * g.monitorRoom + (([] : List Value).map fun v => v.category).sum ≤ 0) (hstack : g.stack = [.ref vo, .long kk, .ref t]) (hd : decode c.code g.pc = .ok (.invokevirtual 17, 3)) :
    ∃ T' L', Stand p l e room_1 s m args below meth c T' L' (cells + 1) (slots + 4) ∧ own_I true Z n0 t vo ((4, [true, false, false, false], 1, false)) T'.heap L' ∧ ∀ target, Steps p.tables e below (T'.setTop { g with pc := g.pc + 3, stack := [] }) target → Steps p.tables e below (T.setTop g) target := by
  subst hok hkk
  obtain ⟨⟨ar, ka, hX, hA, hC, hH, hV, hne, hXa, hz⟩, hge, hvo, hO, hN, hF, hh⟩ := id J
  obtain ⟨v, T', Lc, X', ⟨rfl, N, K, G1, G2, G3, G4, ra, k, gr, Ga, Xr, Go, Vr⟩, st⟩ := own_cT (C := "com/example/plainsong/plainsong/engine/Table") X hx hZ hown (qw hw 34 rfl) (qw hw 35 rfl) (qw hw 37 rfl) (qw hw 36 rfl) (qw hw 25 rfl) (qw hw 38 rfl) (by decide) hX (rm_nxE l Z a0 hw [] t vo ar mir ka T.heap n0 hN hX hA hC hH (hh rfl) hge hne hXa hV W.2.2.2.1 hvo) (by decide) (by decide) (by decide) (by decide) hc hs hg hsize hW (argsL := [.long 1, .ref vo]) (lenOf own_pd19 rfl) hstack rfl hd
  exact ⟨T', _, X', ⟨⟨ra, k, G1, Ga, G2, G3, Vr, Nat.ne_of_lt (Nat.lt_of_lt_of_le hX.lt gr), Xr, Or.inr ⟨Nat.le_trans hN gr, Go⟩⟩, hge, hvo.keep K, hO.keep K (allS hge all0), Nat.le_trans hN K.1, hF.app N, fun _ => G4⟩, st⟩
theorem own_dpv (X : Stand p l e room_1 s m args below meth c T locs cells slots) (hx : p.tables.exec = Jvm.exec) (hZ : Z.Warmed39 s.vm) (hw : ∀ d ∈ tables_1, d.before a0 Z = true) (hown : s.vm.findClass "com/example/plainsong/plainsong/engine/TableFirstBorderPinLaw" = some m.cls) {r : Nat} {kk : Int64} (hkk : kk = Int64.ofNat r) (hr6 : r < 6) (W : own_W Z em ke mir ca kca cvs bx) (J : own_I true Z n0 t vo S T.heap locs) (hok : S.2.2.1 ≤ 4) (hr : r = 0 ∨ S.2.2.1 + 1 < r) (hc : cells + 8 ≤ room_1.cells) (hs : slots + 64 ≤ room_1.slots)
    (hg : g.method = m) (hsize : g.locals.size = c.maxLocals) (hW : 2 * g.monitorRoom + (([] : List Value).map fun v => v.category).sum ≤ 0) (hstack : g.stack = [.ref vo, .long kk, .ref t]) (hd : decode c.code g.pc = .ok (.invokevirtual 17, 3)) :
    ∃ T' L', Stand p l e room_1 s m args below meth c T' L' (cells + 8) (slots + 64) ∧ own_I false Z n0 t vo (S) T'.heap L' ∧ ∀ target, Steps p.tables e below (T'.setTop { g with pc := g.pc + 3, stack := [] }) target → Steps p.tables e below (T.setTop g) target := by
  obtain ⟨zn, bs, cn, ho⟩ := S
  obtain ⟨⟨ar, ka, hX, hA, hC, hH, hV, hne, hXa, hz⟩, hge, hvo, hO, hN, hF, hh⟩ := id J
  dsimp only at hC hH hV hz
  dsimp only at hok hr
  subst hkk
  rcases hr with rfl | hr
  · obtain ⟨v, T', Lc, X', ⟨rfl, N, K, G1, G2, G3, G4⟩, st⟩ := own_cT (C := "com/example/plainsong/plainsong/engine/Table") X hx hZ hown (qw hw 34 rfl) (qw hw 35 rfl) (qw hw 37 rfl) (qw hw 36 rfl) (qw hw 25 rfl) (qw hw 38 rfl) (by decide) hX (rm_pv0 l Z a0 hw [] t vo ar (Int32.ofNat cn) (own_b2 ho) ca kca cvs bx T.heap n0 hN hX hA hC hH (hh rfl) hge hvo hO W.2.2.2.2 (own_h0 ⟨cn, by omega⟩)) (by decide) (by decide) (by decide) (by decide) hc hs hg hsize hW (argsL := [.long 0, .ref vo]) (lenOf own_pd19 rfl) hstack rfl hd
    exact ⟨T', _, X', ⟨⟨ar, ka, G1, G2, G3, G4, hV.keep K (ninS hne.symm nin0), hne, hXa.keep K, hz⟩, hge, hvo.keep K, hO.keep K (allS hge all0), Nat.le_trans hN K.1, hF.app N, fun q => by cases q⟩, st⟩
  have hr2 : ¬ r - 1 = cn := by omega
  have hk := own_hg ⟨r - 1, by omega⟩ ⟨cn, by omega⟩ (by dsimp only; omega)
  dsimp only at hk
  obtain rfl | rfl | rfl | rfl : r = 2 ∨ r = 3 ∨ r = 4 ∨ r = 5 := by omega
  · obtain ⟨v, T', Lc, X', ⟨rfl, N, K, G1, G2, G3, G4⟩, st⟩ := own_cT (C := "com/example/plainsong/plainsong/engine/Table") X hx hZ hown (qw hw 34 rfl) (qw hw 35 rfl) (qw hw 37 rfl) (qw hw 36 rfl) (qw hw 25 rfl) (qw hw 38 rfl) (by decide) hX (rm_pv2 l Z a0 hw [] t vo ar (Int32.ofNat cn) (own_b2 ho) ca kca cvs bx T.heap n0 hN hX hA hC hH (hh rfl) hge hvo hO W.2.2.2.2 hk.2.1 (fun q => hr2 (hk.2.2.1.mp q))) (by decide) (by decide) (by decide) (by decide) hc hs hg hsize hW (argsL := [.long 2, .ref vo]) (lenOf own_pd19 rfl) hstack rfl hd
    exact ⟨T', _, X', ⟨⟨ar, ka, G1, G2, G3, G4, hV.keep K (ninS hne.symm nin0), hne, hXa.keep K, hz⟩, hge, hvo.keep K, hO.keep K (allS hge all0), Nat.le_trans hN K.1, hF.app N, fun q => by cases q⟩, st⟩
  · obtain ⟨v, T', Lc, X', ⟨rfl, N, K, G1, G2, G3, G4⟩, st⟩ := own_cT (C := "com/example/plainsong/plainsong/engine/Table") X hx hZ hown (qw hw 34 rfl) (qw hw 35 rfl) (qw hw 37 rfl) (qw hw 36 rfl) (qw hw 25 rfl) (qw hw 38 rfl) (by decide) hX (rm_pv3 l Z a0 hw [] t vo ar (Int32.ofNat cn) (own_b2 ho) ca kca cvs bx T.heap n0 hN hX hA hC hH (hh rfl) hge hvo hO W.2.2.2.2 hk.2.1 (fun q => hr2 (hk.2.2.1.mp q))) (by decide) (by decide) (by decide) (by decide) hc hs hg hsize hW (argsL := [.long 3, .ref vo]) (lenOf own_pd19 rfl) hstack rfl hd
    exact ⟨T', _, X', ⟨⟨ar, ka, G1, G2, G3, G4, hV.keep K (ninS hne.symm nin0), hne, hXa.keep K, hz⟩, hge, hvo.keep K, hO.keep K (allS hge all0), Nat.le_trans hN K.1, hF.app N, fun q => by cases q⟩, st⟩
  · obtain ⟨v, T', Lc, X', ⟨rfl, N, K, G1, G2, G3, G4⟩, st⟩ := own_cT (C := "com/example/plainsong/plainsong/engine/Table") X hx hZ hown (qw hw 34 rfl) (qw hw 35 rfl) (qw hw 37 rfl) (qw hw 36 rfl) (qw hw 25 rfl) (qw hw 38 rfl) (by decide) hX (rm_pv4 l Z a0 hw [] t vo ar (Int32.ofNat cn) (own_b2 ho) ca kca cvs bx T.heap n0 hN hX hA hC hH (hh rfl) hge hvo hO W.2.2.2.2 hk.2.1 (fun q => hr2 (hk.2.2.1.mp q))) (by decide) (by decide) (by decide) (by decide) hc hs hg hsize hW (argsL := [.long 4, .ref vo]) (lenOf own_pd19 rfl) hstack rfl hd
    exact ⟨T', _, X', ⟨⟨ar, ka, G1, G2, G3, G4, hV.keep K (ninS hne.symm nin0), hne, hXa.keep K, hz⟩, hge, hvo.keep K, hO.keep K (allS hge all0), Nat.le_trans hN K.1, hF.app N, fun q => by cases q⟩, st⟩
  · obtain ⟨v, T', Lc, X', ⟨rfl, N, K, G1, G2, G3, G4⟩, st⟩ := own_cT (C := "com/example/plainsong/plainsong/engine/Table") X hx hZ hown (qw hw 34 rfl) (qw hw 35 rfl) (qw hw 37 rfl) (qw hw 36 rfl) (qw hw 25 rfl) (qw hw 38 rfl) (by decide) hX (rm_pv5 l Z a0 hw [] t vo ar (Int32.ofNat cn) (own_b2 ho) ca kca cvs bx T.heap n0 hN hX hA hC hH (hh rfl) hge hvo hO W.2.2.2.2 hk.2.1 (fun q => hr2 (hk.2.2.1.mp q))) (by decide) (by decide) (by decide) (by decide) hc hs hg hsize hW (argsL := [.long 5, .ref vo]) (lenOf own_pd19 rfl) hstack rfl hd
    exact ⟨T', _, X', ⟨⟨ar, ka, G1, G2, G3, G4, hV.keep K (ninS hne.symm nin0), hne, hXa.keep K, hz⟩, hge, hvo.keep K, hO.keep K (allS hge all0), Nat.le_trans hN K.1, hF.app N, fun q => by cases q⟩, st⟩
theorem own_dput (X : Stand p l e room_1 s m args below meth c T locs cells slots) (hx : p.tables.exec = Jvm.exec) (hZ : Z.Warmed39 s.vm) (hw : ∀ d ∈ tables_1, d.before a0 Z = true) (hown : s.vm.findClass "com/example/plainsong/plainsong/engine/TableFirstBorderPinLaw" = some m.cls) {r : Nat} (hr6 : r < 6) (W : own_W Z em ke mir ca kca cvs bx) (J : own_I true Z n0 t vo S T.heap locs) (hok : own_ok S) (hc : cells + 8 ≤ room_1.cells) (hs : slots + 64 ≤ room_1.slots)
    (hg : g.method = m) (hsize : g.locals.size = c.maxLocals) (hW : 2 * g.monitorRoom + (([] : List Value).map fun v => v.category).sum ≤ 0) (hstack : g.stack = [.ref vo, .long (Int32.ofNat r).toInt64, .ref t]) (hd : decode c.code g.pc = .ok (.invokevirtual 17, 3)) :
    ∃ T' L', Stand p l e room_1 s m args below meth c T' L' (cells + 8) (slots + 64) ∧ own_I false Z n0 t vo (own_put r S) T'.heap L' ∧ ∀ target, Steps p.tables e below (T'.setTop { g with pc := g.pc + 3, stack := [] }) target → Steps p.tables e below (T.setTop g) target := by
  have hrk := own_rk ⟨r, hr6⟩
  dsimp only at hrk
  rw [hrk] at hstack
  by_cases hr0 : r = 0 ∨ S.2.2.1 + 1 < r
  · have e1 := own_put_h hr0
    rw [e1]
    exact own_dpv X hx hZ hw hown rfl hr6 W J hok.1 hr0 hc hs hg hsize hW hstack hd
  by_cases hr1 : r ≤ S.2.2.1
  · have e1 := own_put_i (r := r) (S := S) (by omega) hr1
    rw [e1]
    obtain ⟨zn, bs, cn, ho⟩ := S
    obtain ⟨⟨ar, ka, hX, hA, hC, hH, hV, hne, hXa, hz⟩, hge, hvo, hO, hN, hF, hh⟩ := id J
    dsimp only at hC hH hV hz hr0 hr1 ⊢
    obtain ⟨h4, hcase⟩ := hok
    dsimp only at h4 hcase
    obtain ⟨j, rfl⟩ : ∃ j, r = j + 1 := ⟨r - 1, by omega⟩
    have hk := own_hk ⟨j, by omega⟩ ⟨cn, by omega⟩ (by dsimp only; omega)
    dsimp only at hk
    have hz4 : zn = 4 ∧ bs.length = 4 := by
      rcases hcase with ⟨h1, h2, h3, h5⟩ | ⟨h1, h2, h3⟩
      · omega
      · exact ⟨h1, h2⟩
    obtain ⟨hga, hov⟩ := id (hz.resolve_left (by omega))
    obtain ⟨v, T', Lc, X', ⟨rfl, N, K, V1⟩, st⟩ := own_cT (C := "com/example/plainsong/plainsong/engine/Table") X hx hZ hown (qw hw 34 rfl) (qw hw 35 rfl) (qw hw 37 rfl) (qw hw 36 rfl) (qw hw 25 rfl) (qw hw 38 rfl) (by decide) hX (rm_pi l Z a0 hw [] t (Int64.ofNat (j + 1)) vo ar (own_b2 ho) ka bs cn zn j T.heap n0 hN hX hA hC hH hV hov hvo hge hga hne hk ⟨by omega, by omega, by omega, by omega⟩) (by decide) (by decide) (by decide) (by decide) hc hs hg hsize hW (argsL := [.long (Int64.ofNat (j + 1)), .ref vo]) (lenOf own_pd19 rfl) hstack rfl hd
    exact ⟨T', _, X', ⟨⟨ar, ka, hX.keep K, hA.keep K (ninS hne nin0), hC.keep K (ninS hne nin0), hH.keep K (ninS hne nin0), V1, hne, hXa.keep K, hz⟩, hge, hvo.keep K, hO.keep K (allS hga all0), Nat.le_trans hN K.1, hF.app N, fun q => by cases q⟩, st⟩
  have hr2 : r = S.2.2.1 + 1 := by omega
  obtain ⟨h4, hcase⟩ := id hok
  rcases hcase with ⟨h1, h2, h3, h5⟩ | ⟨h1, h2, h3⟩
  · have eS : S = (0, [], 0, false) := by
      obtain ⟨zn, bs, cn, ho⟩ := S
      dsimp only at h1 h2 h3 h5
      rw [h1, h2, h3, h5]
    have e1 : own_put r S = (4, [true, false, false, false], 1, false) := by rw [eS]; exact own_put_e (by omega)
    obtain ⟨T', L', X', J', st⟩ := own_dnE X hx hZ hw hown (show Int64.ofNat r = 1 by rw [hr2, h3]; rfl) W J eS (by omega) (by omega) hg hsize hW hstack hd
    rw [e1]
    exact ⟨T', L', X'.more (by omega) (by omega), own_I_weak J', st⟩
  by_cases hc4 : S.2.2.1 < 4
  · have e1 := own_put_n hr2 (by omega) hc4
    obtain ⟨T', L', X', J', st⟩ := own_dnx X hx hZ hw hown (by rw [hr2]) W J ⟨h1, h2, hc4⟩ (by omega) (by omega) hg hsize hW hstack hd
    rw [e1]
    exact ⟨T', L', X'.more (by omega) (by omega), own_I_weak J', st⟩
  have hq := h3 (by omega)
  obtain rfl : r = 5 := by omega
  obtain ⟨zn, bs, cn, ho⟩ := S
  obtain ⟨⟨ar, ka, hX, hA, hC, hH, hV, hne, hXa, hz⟩, hge, hvo, hO, hN, hF, hh⟩ := id J
  dsimp only at hC hH hV hz h1 h2 hq hr2 ⊢
  obtain rfl : zn = 4 := h1
  obtain rfl : cn = 4 := by omega
  obtain ⟨hga, hov⟩ := id (hz.resolve_left (by decide))
  by_cases hB : ho = true ∧ bs = [false, false, false, true]
  · obtain ⟨rfl, rfl⟩ := hB
    obtain ⟨v, T', Lc, X', ⟨rfl, N, K, G1, G2, G3, G4⟩, st⟩ := own_cT (C := "com/example/plainsong/plainsong/engine/Table") X hx hZ hown (qw hw 34 rfl) (qw hw 35 rfl) (qw hw 37 rfl) (qw hw 36 rfl) (qw hw 25 rfl) (qw hw 38 rfl) (by decide) hX (rm_nx4h l Z a0 hw [] t vo ar em (own_b2 true) ka ke ca kca cvs bx T.heap n0 hN hX hA hC hH (hh rfl) (by decide) hge hne hV hvo hO W.2.2.2.2 (Sta.ext hO.2 W.1) (W.2.1.ext hO.2) (hO.ne W.2.1.lt hge).symm) (by decide) (by decide) (by decide) (by decide) hc hs hg hsize hW (argsL := [.long 5, .ref vo]) (lenOf own_pd19 rfl) hstack rfl hd
    have W2 := W.2.1.ext hO.2
    exact ⟨T', _, X', ⟨⟨em, ke, G1, G2, G3, G4, (W.2.1.ext hO.2).keep K (ninS (hO.ne W.2.1.lt hge) nin0), (hO.ne W.2.1.lt hge).symm, (W.2.2.1.ext hO.2).keep K, Or.inl rfl⟩, hge, hvo.keep K, hO.keep K (allS hge all0), Nat.le_trans hN K.1, hF.app N, fun q => by cases q⟩, st⟩
  have e1 := own_put_5 hB
  rw [e1]
  obtain ⟨b0, b1, b2, b3, rfl⟩ : ∃ b0 b1 b2 b3, bs = [b0, b1, b2, b3] := by
    match bs, h2 with
    | [b0, b1, b2, b3], _ => exact ⟨b0, b1, b2, b3, rfl⟩
  have hq2 : own_b2 ho = 0 ∨ (own_b2 ho = 1 ∧ 2 ≤ own_ct [b0, b1, b2, b3] 4 0 ∧ own_ct [b0, b1, b2, b3] 4 0 < 4) := by
    rcases hq with h | ⟨h, h'⟩ | h
    · left; rw [h]; rfl
    · right; rw [h]; exact ⟨rfl, h'⟩
    · exact absurd h hB
  obtain ⟨v, T', Lc, X', ⟨rfl, N, K, G1, G2, G3, G4, ra, k, gr, Ga, Xr, Go, Vr⟩, st⟩ := own_cT (C := "com/example/plainsong/plainsong/engine/Table") X hx hZ hown (qw hw 34 rfl) (qw hw 35 rfl) (qw hw 37 rfl) (qw hw 36 rfl) (qw hw 25 rfl) (qw hw 38 rfl) (by decide) hX (rm_nx4 l Z a0 hw [] t vo ar mir (own_b2 ho) ka b0 b1 b2 b3 T.heap n0 hN hX hA hC hH (hh rfl) hge hne hXa hV W.2.2.2.1 hvo hq2) (by decide) (by decide) (by decide) (by decide) hc hs hg hsize hW (argsL := [.long 5, .ref vo]) (lenOf own_pd19 rfl) hstack rfl hd
  exact ⟨T', _, X', ⟨⟨ra, k, G1, Ga, G2, G3, Vr, Nat.ne_of_lt (Nat.lt_of_lt_of_le hX.lt gr), Xr, Or.inr ⟨Nat.le_trans hN gr, Go⟩⟩, hge, hvo.keep K, hO.keep K (allS hge all0), Nat.le_trans hN K.1, hF.app N, fun q => by cases q⟩, st⟩
theorem own_dfb (X : Stand p l e room_1 s m args below meth c T locs cells slots) (hx : p.tables.exec = Jvm.exec) (hZ : Z.Warmed39 s.vm) (hw : ∀ d ∈ tables_1, d.before a0 Z = true) (hown : s.vm.findClass "com/example/plainsong/plainsong/engine/TableFirstBorderPinLaw" = some m.cls) (J : own_I false Z n0 t vo S T.heap locs) (hok : S.2.2.1 ≤ S.1 ∧ S.1 < 100) (hc : cells + 0 ≤ room_1.cells) (hs : slots + 0 ≤ room_1.slots)
    (hg : g.method = m) (hsize : g.locals.size = c.maxLocals) (hW : 2 * g.monitorRoom + (([] : List Value).map fun v => v.category).sum ≤ 0) (hstack : g.stack = [.ref t]) (hd : decode c.code g.pc = .ok (.invokevirtual 29, 3)) :
    ∃ T' L', Stand p l e room_1 s m args below meth c T' L' cells slots ∧ own_I false Z n0 t vo (own_fbs S) T'.heap L' ∧ ∀ target, Steps p.tables e below (T'.setTop { g with pc := g.pc + 3, stack := [.long (Int32.ofNat (own_fbv S)).toInt64] }) target → Steps p.tables e below (T.setTop g) target := by
  obtain ⟨zn, bs, cn, ho⟩ := S
  obtain ⟨⟨ar, ka, hX, hA, hC, hH, hV, hne, hXa, hz⟩, hge, hvo, hO, hN, hF, hh⟩ := id J
  dsimp only at hC hH hV hz
  obtain ⟨v, T', Lc, X', ⟨rfl, N, K, G2, G3, G4⟩, st⟩ := own_cT (C := "com/example/plainsong/plainsong/engine/Table") X hx hZ hown (qw hw 146 rfl) (qw hw 147 rfl) (qw hw 149 rfl) (qw hw 148 rfl) (qw hw 25 rfl) (qw hw 150 rfl) (by decide) hX (rm_fb l Z a0 hw [] t ar (own_b2 ho) ka bs vo cn zn T.heap n0 hN hX hA hC hH hV hge hne hok) (by decide) (by decide) (by decide) (by decide) hc hs hg hsize hW (argsL := []) (lenOf own_pd20 rfl) hstack rfl hd
  rw [own_fhb] at G4
  exact ⟨T', _, X', ⟨⟨ar, ka, hX.keep K, G2, G3, G4, hV.keep K (ninS hne.symm nin0), hne, hXa.keep K, hz⟩, hge, hvo.keep K, hO.keep K (allS hge all0), Nat.le_trans hN K.1, hF.app N, fun q => by cases q⟩, st⟩
end OwnD
theorem own_pn6 : plainName "com/example/plainsong/plainsong/engine/TableFirstBorderPinLaw" = true := by first | (simp [plainName, overriddenIn]; done) | decide +kernel
theorem ef_0_IIIJ (m : MethodId) (x0 : Int32) (x1 : Int32) (x2 : Int32) (x3 : Int64) : entryFrame m #[(.int x0), (.int x1), (.int x2), (.long x3)] maxLocals = mkF m 0 #[.val (.int x0), .val (.int x1), .val (.int x2), .val (.long x3), .second, .unset, .unset, .unset, .unset, .unset, .unset, .unset, .unset, .unset, .unset, .unset, .unset, .unset, .unset, .unset, .unset, .unset, .unset, .unset] [] := by
  first | (simp [entryFrame, mkF, argsToLocals, Value.category, maxLocals]; done) | rfl
theorem rm0 (l : Launch) (Z : State) (a0 : Array Value) (hw : own_HW a0 Z) (ws : List Jvm.Cond) (x0 : Int32) (x1 : Int32) (x2 : Int32) (x3 : Int64) (n r : Nat) (m1 m2 m3 m4 : Bool) (em : Addr) (ke : ClassId) (mir ca : Addr) (kca : ClassId) (cvs : List Value) (bx : Nat → Addr) (h0 : Heap) (n0 : Nat) (Z0 : n0 ≤ h0.size) (O0 : Old Z n0 h0) (W : own_W Z em ke mir ca kca cvs bx) (hn5 : n < 5) (hr6 : r < 6) (hn : (x0 &&& i_2147483647) % i_5 = Int32.ofNat n) (hr : (x2 &&& i_2147483647) % i_6 = Int32.ofNat r) (hm1 : x1 &&& i_1 = 0 ↔ m1 = false) (hm2 : x1 &&& i_2 = 0 ↔ m2 = false) (hm3 : x1 &&& i_4 = 0 ↔ m3 = false) (hm4 : x1 &&& i_8 = 0 ↔ m4 = false) :
  MetFree l x (head1 (Jvm.Cond.code x code maxLocals ret :: ws) room_1) (fun a U => a = #[.int x0, .int x1, .int x2, (.long x3)] ∧ Z.Warmed39 U.vm ∧ U.heap = h0) (fun _ _ _ _ _ => True) (fun _ U o U' => ∃ v L, o = .returned v ∧ QL (some (.int i_1)) n0 v U'.heap L ∧ FrameEnd U o U' L 32 192) := by
 refine MetFree.of_bodySF (plainFor_of_name own_pn6) hisR ?_
 intro p e s m args below meth c s₁ Bd hml0 hP hK
 obtain ⟨rfl, hZ, hh⟩ := hP
 have hx := Bd.exec
 have hby := Bd.bytes
 have hml : c.maxLocals = 24 := hml0
 have hown : s.vm.findClass "com/example/plainsong/plainsong/engine/TableFirstBorderPinLaw" = some m.cls := findClass_of_methodNamed Bd.named
 have hnm := (name_of_methodNamed Bd.named Bd.method).1
 have X0 : Stand p l e room_1 s m #[.int x0, .int x1, .int x2, (.long x3)] below meth c s₁ [] 0 0 := Stand.of_body Bd
 have e0 : s₁.heap = h0 := by rw [← hh, Bd.state]; rfl
 show own_G _ _ _ _ (s₁.setTop (entryFrame m #[.int x0, .int x1, .int x2, (.long x3)] maxLocals))
 refine goo (fun _ k => castTop (ef_0_IIIJ m x0 x1 x2 x3) k) ?_
 have N0 := Fr.nil n0
 have hok := own_oks hn5 m1 m2 m3 m4
 have hlaw : (Int32.ofNat (own_fbv (own_put r (own_cl4 n m1 m2 m3 m4)))).toInt64 = (own_ex (own_p 1 n m1 r) (own_p 2 n m2 r) (own_p 3 n m3 r) (own_p 4 n m4 r) (decide (r = 5))) ∧ (Int32.ofNat (own_fbv (own_fbs (own_put r (own_cl4 n m1 m2 m3 m4))))).toInt64 = (own_ex (own_p 1 n m1 r) (own_p 2 n m2 r) (own_p 3 n m3 r) (own_p 4 n m4 r) (decide (r = 5))) ∧ (own_put r (own_cl4 n m1 m2 m3 m4)).2.2.1 ≤ (own_put r (own_cl4 n m1 m2 m3 m4)).1 ∧ (own_put r (own_cl4 n m1 m2 m3 m4)).1 < 100 := own_law hn5 hr6 m1 m2 m3 m4
 refine goo (fun _ k => XS.iloadN X0.here hx rfl (hb hby at_0) rfl k) ?_
 refine goo (fun _ k => X0.ldcInt hx hown (mvT hZ (qw hw 0 rfl)) (g := (mkF m 1 #[iv x0, iv x1, iv x2, .val (.long x3), .second, .unset, .unset, .unset, .unset, .unset, .unset, .unset, .unset, .unset, .unset, .unset, .unset, .unset, .unset, .unset, .unset, .unset, .unset, .unset] [.int x0])) rfl (hb hby at_1) _ k) ?_
 refine goo (fun _ k => XS.iand X0.here hx rfl (hb hby at_3) rfl <| XS.iconst X0.here hx rfl (hb hby at_4) k) ?_
 refine goo (fun _ k => iremM X0 hx rfl (hb hby at_5) rfl (by decide) k) ?_
 show own_G _ _ _ _ (s₁.setTop (mkF m 6 #[iv x0, iv x1, iv x2, .val (.long x3), .second, .unset, .unset, .unset, .unset, .unset, .unset, .unset, .unset, .unset, .unset, .unset, .unset, .unset, .unset, .unset, .unset, .unset, .unset, .unset] [(.int ((x0 &&& i_2147483647) % i_5))]))
 rw [hn]
 refine goo (fun _ k => XS.istore X0.here hx rfl (hb hby at_6) rfl (l' := #[iv x0, iv x1, iv x2, .val (.long x3), .second, iv (Int32.ofNat n), .unset, .unset, .unset, .unset, .unset, .unset, .unset, .unset, .unset, .unset, .unset, .unset, .unset, .unset, .unset, .unset, .unset, .unset]) rfl <| XS.iloadN X0.here hx rfl (hb hby at_8) rfl k) ?_
 refine goo (fun _ k => X0.ldcInt hx hown (mvT hZ (qw hw 0 rfl)) (g := (mkF m 9 #[iv x0, iv x1, iv x2, .val (.long x3), .second, iv (Int32.ofNat n), .unset, .unset, .unset, .unset, .unset, .unset, .unset, .unset, .unset, .unset, .unset, .unset, .unset, .unset, .unset, .unset, .unset, .unset] [.int x2])) rfl (hb hby at_9) _ k) ?_
 refine goo (fun _ k => XS.iand X0.here hx rfl (hb hby at_11) rfl <| XS.bipush X0.here hx rfl (hb hby at_12) k) ?_
 refine goo (fun _ k => iremM X0 hx rfl (hb hby at_14) rfl (by decide) k) ?_
 show own_G _ _ _ _ (s₁.setTop (mkF m 15 #[iv x0, iv x1, iv x2, .val (.long x3), .second, iv (Int32.ofNat n), .unset, .unset, .unset, .unset, .unset, .unset, .unset, .unset, .unset, .unset, .unset, .unset, .unset, .unset, .unset, .unset, .unset, .unset] [(.int ((x2 &&& i_2147483647) % i_6))]))
 rw [hr]
 refine goo (fun _ k => XS.istore X0.here hx rfl (hb hby at_15) rfl (l' := #[iv x0, iv x1, iv x2, .val (.long x3), .second, iv (Int32.ofNat n), iv (Int32.ofNat r), .unset, .unset, .unset, .unset, .unset, .unset, .unset, .unset, .unset, .unset, .unset, .unset, .unset, .unset, .unset, .unset, .unset]) rfl <| XS.iloadN X0.here hx rfl (hb hby at_17) rfl <| XS.iconst X0.here hx rfl (hb hby at_18) <| XS.iand X0.here hx rfl (hb hby at_19) rfl k) ?_
 show own_G _ _ _ _ (s₁.setTop (mkF m 20 #[iv x0, iv x1, iv x2, .val (.long x3), .second, iv (Int32.ofNat n), iv (Int32.ofNat r), .unset, .unset, .unset, .unset, .unset, .unset, .unset, .unset, .unset, .unset, .unset, .unset, .unset, .unset, .unset, .unset, .unset] [(.int (x1 &&& i_1))]))
 refine own_join (S' := s₁.setTop (mkF m 28 #[iv x0, iv x1, iv x2, .val (.long x3), .second, iv (Int32.ofNat n), iv (Int32.ofNat r), .unset, .unset, .unset, .unset, .unset, .unset, .unset, .unset, .unset, .unset, .unset, .unset, .unset, .unset, .unset, .unset, .unset] [(.int (own_b2 m1))])) (fun hj => ?_) ?_
 ·cases m1
  ·refine goo (fun _ k => XS.ifYes X0.here hx rfl (pc0 := 20) (pc' := 27) rfl (hb hby at_20) rfl (((if0 _ _).trans (teq (hm1.mpr rfl)).1)) (by decide) (by decide) k) ?_
   refine goo (fun _ k => XS.iconst X0.here hx rfl (hb hby at_27) k) ?_
   show own_G _ _ _ _ (s₁.setTop (mkF m 28 #[iv x0, iv x1, iv x2, .val (.long x3), .second, iv (Int32.ofNat n), iv (Int32.ofNat r), .unset, .unset, .unset, .unset, .unset, .unset, .unset, .unset, .unset, .unset, .unset, .unset, .unset, .unset, .unset, .unset, .unset] [.int i_0]))
   exact hj
  ·refine goo (fun _ k => XS.ifNo X0.here hx rfl (hb hby at_20) rfl (((if0 _ _).trans (feq (fun q => Bool.noConfusion (hm1.mp q))).1)) k) ?_
   refine goo (fun _ k => XS.iconst X0.here hx rfl (hb hby at_23) <| XS.goto X0.here hx rfl (pc0 := 24) (pc' := 28) rfl (hb hby at_24) (by decide) (by decide) k) ?_
   show own_G _ _ _ _ (s₁.setTop (mkF m 28 #[iv x0, iv x1, iv x2, .val (.long x3), .second, iv (Int32.ofNat n), iv (Int32.ofNat r), .unset, .unset, .unset, .unset, .unset, .unset, .unset, .unset, .unset, .unset, .unset, .unset, .unset, .unset, .unset, .unset, .unset] [.int i_1]))
   exact hj
 show own_G _ _ _ _ (s₁.setTop (mkF m 28 #[iv x0, iv x1, iv x2, .val (.long x3), .second, iv (Int32.ofNat n), iv (Int32.ofNat r), .unset, .unset, .unset, .unset, .unset, .unset, .unset, .unset, .unset, .unset, .unset, .unset, .unset, .unset, .unset, .unset, .unset] [(.int (own_b2 m1))]))
 refine goo (fun _ k => XS.istore X0.here hx rfl (hb hby at_28) rfl (l' := #[iv x0, iv x1, iv x2, .val (.long x3), .second, iv (Int32.ofNat n), iv (Int32.ofNat r), iv (own_b2 m1), .unset, .unset, .unset, .unset, .unset, .unset, .unset, .unset, .unset, .unset, .unset, .unset, .unset, .unset, .unset, .unset]) rfl <| XS.iloadN X0.here hx rfl (hb hby at_30) rfl <| XS.iconst X0.here hx rfl (hb hby at_31) <| XS.iand X0.here hx rfl (hb hby at_32) rfl k) ?_
 show own_G _ _ _ _ (s₁.setTop (mkF m 33 #[iv x0, iv x1, iv x2, .val (.long x3), .second, iv (Int32.ofNat n), iv (Int32.ofNat r), iv (own_b2 m1), .unset, .unset, .unset, .unset, .unset, .unset, .unset, .unset, .unset, .unset, .unset, .unset, .unset, .unset, .unset, .unset] [(.int (x1 &&& i_2))]))
 refine own_join (S' := s₁.setTop (mkF m 41 #[iv x0, iv x1, iv x2, .val (.long x3), .second, iv (Int32.ofNat n), iv (Int32.ofNat r), iv (own_b2 m1), .unset, .unset, .unset, .unset, .unset, .unset, .unset, .unset, .unset, .unset, .unset, .unset, .unset, .unset, .unset, .unset] [(.int (own_b2 m2))])) (fun hj => ?_) ?_
 ·cases m2
  ·refine goo (fun _ k => XS.ifYes X0.here hx rfl (pc0 := 33) (pc' := 40) rfl (hb hby at_33) rfl (((if0 _ _).trans (teq (hm2.mpr rfl)).1)) (by decide) (by decide) k) ?_
   refine goo (fun _ k => XS.iconst X0.here hx rfl (hb hby at_40) k) ?_
   show own_G _ _ _ _ (s₁.setTop (mkF m 41 #[iv x0, iv x1, iv x2, .val (.long x3), .second, iv (Int32.ofNat n), iv (Int32.ofNat r), iv (own_b2 m1), .unset, .unset, .unset, .unset, .unset, .unset, .unset, .unset, .unset, .unset, .unset, .unset, .unset, .unset, .unset, .unset] [.int i_0]))
   exact hj
  ·refine goo (fun _ k => XS.ifNo X0.here hx rfl (hb hby at_33) rfl (((if0 _ _).trans (feq (fun q => Bool.noConfusion (hm2.mp q))).1)) k) ?_
   refine goo (fun _ k => XS.iconst X0.here hx rfl (hb hby at_36) <| XS.goto X0.here hx rfl (pc0 := 37) (pc' := 41) rfl (hb hby at_37) (by decide) (by decide) k) ?_
   show own_G _ _ _ _ (s₁.setTop (mkF m 41 #[iv x0, iv x1, iv x2, .val (.long x3), .second, iv (Int32.ofNat n), iv (Int32.ofNat r), iv (own_b2 m1), .unset, .unset, .unset, .unset, .unset, .unset, .unset, .unset, .unset, .unset, .unset, .unset, .unset, .unset, .unset, .unset] [.int i_1]))
   exact hj
 show own_G _ _ _ _ (s₁.setTop (mkF m 41 #[iv x0, iv x1, iv x2, .val (.long x3), .second, iv (Int32.ofNat n), iv (Int32.ofNat r), iv (own_b2 m1), .unset, .unset, .unset, .unset, .unset, .unset, .unset, .unset, .unset, .unset, .unset, .unset, .unset, .unset, .unset, .unset] [(.int (own_b2 m2))]))
 refine goo (fun _ k => XS.istore X0.here hx rfl (hb hby at_41) rfl (l' := #[iv x0, iv x1, iv x2, .val (.long x3), .second, iv (Int32.ofNat n), iv (Int32.ofNat r), iv (own_b2 m1), iv (own_b2 m2), .unset, .unset, .unset, .unset, .unset, .unset, .unset, .unset, .unset, .unset, .unset, .unset, .unset, .unset, .unset]) rfl <| XS.iloadN X0.here hx rfl (hb hby at_43) rfl <| XS.iconst X0.here hx rfl (hb hby at_44) <| XS.iand X0.here hx rfl (hb hby at_45) rfl k) ?_
 show own_G _ _ _ _ (s₁.setTop (mkF m 46 #[iv x0, iv x1, iv x2, .val (.long x3), .second, iv (Int32.ofNat n), iv (Int32.ofNat r), iv (own_b2 m1), iv (own_b2 m2), .unset, .unset, .unset, .unset, .unset, .unset, .unset, .unset, .unset, .unset, .unset, .unset, .unset, .unset, .unset] [(.int (x1 &&& i_4))]))
 refine own_join (S' := s₁.setTop (mkF m 54 #[iv x0, iv x1, iv x2, .val (.long x3), .second, iv (Int32.ofNat n), iv (Int32.ofNat r), iv (own_b2 m1), iv (own_b2 m2), .unset, .unset, .unset, .unset, .unset, .unset, .unset, .unset, .unset, .unset, .unset, .unset, .unset, .unset, .unset] [(.int (own_b2 m3))])) (fun hj => ?_) ?_
 ·cases m3
  ·refine goo (fun _ k => XS.ifYes X0.here hx rfl (pc0 := 46) (pc' := 53) rfl (hb hby at_46) rfl (((if0 _ _).trans (teq (hm3.mpr rfl)).1)) (by decide) (by decide) k) ?_
   refine goo (fun _ k => XS.iconst X0.here hx rfl (hb hby at_53) k) ?_
   show own_G _ _ _ _ (s₁.setTop (mkF m 54 #[iv x0, iv x1, iv x2, .val (.long x3), .second, iv (Int32.ofNat n), iv (Int32.ofNat r), iv (own_b2 m1), iv (own_b2 m2), .unset, .unset, .unset, .unset, .unset, .unset, .unset, .unset, .unset, .unset, .unset, .unset, .unset, .unset, .unset] [.int i_0]))
   exact hj
  ·refine goo (fun _ k => XS.ifNo X0.here hx rfl (hb hby at_46) rfl (((if0 _ _).trans (feq (fun q => Bool.noConfusion (hm3.mp q))).1)) k) ?_
   refine goo (fun _ k => XS.iconst X0.here hx rfl (hb hby at_49) <| XS.goto X0.here hx rfl (pc0 := 50) (pc' := 54) rfl (hb hby at_50) (by decide) (by decide) k) ?_
   show own_G _ _ _ _ (s₁.setTop (mkF m 54 #[iv x0, iv x1, iv x2, .val (.long x3), .second, iv (Int32.ofNat n), iv (Int32.ofNat r), iv (own_b2 m1), iv (own_b2 m2), .unset, .unset, .unset, .unset, .unset, .unset, .unset, .unset, .unset, .unset, .unset, .unset, .unset, .unset, .unset] [.int i_1]))
   exact hj
 show own_G _ _ _ _ (s₁.setTop (mkF m 54 #[iv x0, iv x1, iv x2, .val (.long x3), .second, iv (Int32.ofNat n), iv (Int32.ofNat r), iv (own_b2 m1), iv (own_b2 m2), .unset, .unset, .unset, .unset, .unset, .unset, .unset, .unset, .unset, .unset, .unset, .unset, .unset, .unset, .unset] [(.int (own_b2 m3))]))
 refine goo (fun _ k => XS.istore X0.here hx rfl (hb hby at_54) rfl (l' := #[iv x0, iv x1, iv x2, .val (.long x3), .second, iv (Int32.ofNat n), iv (Int32.ofNat r), iv (own_b2 m1), iv (own_b2 m2), iv (own_b2 m3), .unset, .unset, .unset, .unset, .unset, .unset, .unset, .unset, .unset, .unset, .unset, .unset, .unset, .unset]) rfl <| XS.iloadN X0.here hx rfl (hb hby at_56) rfl <| XS.bipush X0.here hx rfl (hb hby at_57) <| XS.iand X0.here hx rfl (hb hby at_59) rfl k) ?_
 show own_G _ _ _ _ (s₁.setTop (mkF m 60 #[iv x0, iv x1, iv x2, .val (.long x3), .second, iv (Int32.ofNat n), iv (Int32.ofNat r), iv (own_b2 m1), iv (own_b2 m2), iv (own_b2 m3), .unset, .unset, .unset, .unset, .unset, .unset, .unset, .unset, .unset, .unset, .unset, .unset, .unset, .unset] [(.int (x1 &&& i_8))]))
 refine own_join (S' := s₁.setTop (mkF m 68 #[iv x0, iv x1, iv x2, .val (.long x3), .second, iv (Int32.ofNat n), iv (Int32.ofNat r), iv (own_b2 m1), iv (own_b2 m2), iv (own_b2 m3), .unset, .unset, .unset, .unset, .unset, .unset, .unset, .unset, .unset, .unset, .unset, .unset, .unset, .unset] [(.int (own_b2 m4))])) (fun hj => ?_) ?_
 ·cases m4
  ·refine goo (fun _ k => XS.ifYes X0.here hx rfl (pc0 := 60) (pc' := 67) rfl (hb hby at_60) rfl (((if0 _ _).trans (teq (hm4.mpr rfl)).1)) (by decide) (by decide) k) ?_
   refine goo (fun _ k => XS.iconst X0.here hx rfl (hb hby at_67) k) ?_
   show own_G _ _ _ _ (s₁.setTop (mkF m 68 #[iv x0, iv x1, iv x2, .val (.long x3), .second, iv (Int32.ofNat n), iv (Int32.ofNat r), iv (own_b2 m1), iv (own_b2 m2), iv (own_b2 m3), .unset, .unset, .unset, .unset, .unset, .unset, .unset, .unset, .unset, .unset, .unset, .unset, .unset, .unset] [.int i_0]))
   exact hj
  ·refine goo (fun _ k => XS.ifNo X0.here hx rfl (hb hby at_60) rfl (((if0 _ _).trans (feq (fun q => Bool.noConfusion (hm4.mp q))).1)) k) ?_
   refine goo (fun _ k => XS.iconst X0.here hx rfl (hb hby at_63) <| XS.goto X0.here hx rfl (pc0 := 64) (pc' := 68) rfl (hb hby at_64) (by decide) (by decide) k) ?_
   show own_G _ _ _ _ (s₁.setTop (mkF m 68 #[iv x0, iv x1, iv x2, .val (.long x3), .second, iv (Int32.ofNat n), iv (Int32.ofNat r), iv (own_b2 m1), iv (own_b2 m2), iv (own_b2 m3), .unset, .unset, .unset, .unset, .unset, .unset, .unset, .unset, .unset, .unset, .unset, .unset, .unset, .unset] [.int i_1]))
   exact hj
 show own_G _ _ _ _ (s₁.setTop (mkF m 68 #[iv x0, iv x1, iv x2, .val (.long x3), .second, iv (Int32.ofNat n), iv (Int32.ofNat r), iv (own_b2 m1), iv (own_b2 m2), iv (own_b2 m3), .unset, .unset, .unset, .unset, .unset, .unset, .unset, .unset, .unset, .unset, .unset, .unset, .unset, .unset] [(.int (own_b2 m4))]))
 refine goo (fun _ k => XS.istore X0.here hx rfl (hb hby at_68) rfl (l' := #[iv x0, iv x1, iv x2, .val (.long x3), .second, iv (Int32.ofNat n), iv (Int32.ofNat r), iv (own_b2 m1), iv (own_b2 m2), iv (own_b2 m3), iv (own_b2 m4), .unset, .unset, .unset, .unset, .unset, .unset, .unset, .unset, .unset, .unset, .unset, .unset, .unset]) rfl <| XS.lloadN X0.here hx rfl (hb hby at_70) rfl k) ?_
 obtain ⟨_, _, ⟨T'0, L'0, k'0, n'0⟩, -, X'0, ⟨Lc'0, hQ'0, l'0, y'0, z'0⟩, st'0⟩ := Jvm.LawKit.callS X0 hx (y := Y13) hown (mvT hZ (qw hw 1 rfl)) (mvT hZ (qw hw 2 rfl)) (mvT hZ (qw hw 3 rfl)) (mvT hZ (qw hw 4 rfl)) (by decide) (backOf (W := 0) (rm_vs l Z a0 hw [] x3  ca kca cvs bx h0 n0 Z0 O0 W.2.2.2.2) hZ (qw hw 4 rfl) (qw hw 3 rfl) (by decide) (by decide)) (g := (mkF m 71 #[iv x0, iv x1, iv x2, .val (.long x3), .second, iv (Int32.ofNat n), iv (Int32.ofNat r), iv (own_b2 m1), iv (own_b2 m2), iv (own_b2 m3), iv (own_b2 m4), .unset, .unset, .unset, .unset, .unset, .unset, .unset, .unset, .unset, .unset, .unset, .unset, .unset] [(.long x3)])) rfl (by rw [hml]; rfl) (argsL := [(.long x3)]) (rest := []) (lenOf own_pd11 rfl) rfl (Nat.le_of_eq rfl) (hb hby at_71) (fun _ _ => ⟨rfl, e0, (by decide : 0 + 1 ≤ _), (by decide : 0 + 1 ≤ _)⟩)
 dsimp only [Pt.U, Pt.locs, Pt.cells, Pt.slots] at X'0 l'0 y'0 z'0 st'0 hQ'0
 subst l'0 y'0 z'0
 obtain ⟨b'0, rfl, Nq'0, K'0, G_1⟩ := hQ'0
 have Old_2 := O0.keep K'0 all0
 have S_3 := own_staKeep (Sta.ext O0.2 W.1) K'0 all0
 have Z_4 : n0 ≤ T'0.heap.size := Nat.le_trans Z0 K'0.1
 have N_0 := Fr.app N0 Nq'0
 refine goo (fun _ k => st'0 _ k) ?_
 refine goo (fun _ k => XS.astore X'0.here hx rfl (hb hby at_74) rfl rfl (l' := #[iv x0, iv x1, iv x2, .val (.long x3), .second, iv (Int32.ofNat n), iv (Int32.ofNat r), iv (own_b2 m1), iv (own_b2 m2), iv (own_b2 m3), iv (own_b2 m4), rv b'0, .unset, .unset, .unset, .unset, .unset, .unset, .unset, .unset, .unset, .unset, .unset, .unset]) rfl k) ?_
 obtain ⟨T'5, h'5, X'5, e'5, E'5, A'5, D'5, -, st'5⟩ := newO X'0 hx hZ hown (qw hw 23 rfl) (qw hw 24 rfl) (qw hw 25 rfl) rfl (g := (mkF m 76 #[iv x0, iv x1, iv x2, .val (.long x3), .second, iv (Int32.ofNat n), iv (Int32.ofNat r), iv (own_b2 m1), iv (own_b2 m2), iv (own_b2 m3), iv (own_b2 m4), rv b'0, .unset, .unset, .unset, .unset, .unset, .unset, .unset, .unset, .unset, .unset, .unset, .unset] [])) rfl (hb hby at_76) (by decide) (by decide)
 obtain ⟨b'5, g'5⟩ : ∃ z, z = T'0.heap.size := ⟨_, rfl⟩
 rw [← g'5] at A'5 D'5 st'5
 have ge_6 : n0 ≤ b'5 := Nat.le_trans Z_4 (Nat.le_of_eq g'5.symm)
 have Old_7 := Old_2.ext E'5
 have S_8 := S_3.ext E'5
 have X_9 := G_1.ext E'5
 have Z_a : n0 ≤ h'5.size := Nat.le_trans Z_4 E'5.1
 have F_b : Fld Z h'5 b'5 s_1 "array" "[Ljava/lang/Object;" .null := D'5 (Or.inl (qw hw 33 rfl)) (ty := (.array (.object s_2))) (by decide)
 have F_c : Fld Z h'5 b'5 s_1 "arrayCount" "I" (.int i_0) := D'5 (Or.inl (qw hw 40 rfl)) (ty := .int) (by decide)
 have F_d : Fld Z h'5 b'5 s_1 "hash" "Lcom/example/plainsong/plainsong/engine/HashPart;" .null := D'5 (Or.inl (qw hw 52 rfl)) (ty := (.object s_0)) (by decide)
 have F_e : Fld Z h'5 b'5 s_1 "holes" "Z" (.int i_0) := D'5 (Or.inl (qw hw 152 rfl)) (ty := .boolean) (by decide)
 refine goo st'5 ?_
 refine goo (fun _ k => XS.dup X'5.here hx rfl (hb hby at_79) rfl rfl k) ?_
 show own_G _ _ _ _ (T'5.setTop (mkF m 80 #[iv x0, iv x1, iv x2, .val (.long x3), .second, iv (Int32.ofNat n), iv (Int32.ofNat r), iv (own_b2 m1), iv (own_b2 m2), iv (own_b2 m3), iv (own_b2 m4), rv b'0, .unset, .unset, .unset, .unset, .unset, .unset, .unset, .unset, .unset, .unset, .unset, .unset] [.ref b'5, .ref b'5]))
 obtain ⟨_, _, ⟨T'f, L'f, k'f, n'f⟩, -, X'f, ⟨Lc'f, hQ'f, l'f, y'f, z'f⟩, st'f⟩ := X'5.specialBack hx (y := Y27) rfl hown (mvT hZ (qw hw 26 rfl)) (mvT hZ (qw hw 27 rfl)) (mvT hZ (qw hw 28 rfl)) (by decide) (backOf (W := 1) (rm5 l Z a0 hw [] b'5 em h'5 n0 Z_a A'5 ge_6 F_b F_c F_e F_d S_8) hZ (qw hw 28 rfl) (qw hw 25 rfl) (by decide) (by decide)) (g := (mkF m 80 #[iv x0, iv x1, iv x2, .val (.long x3), .second, iv (Int32.ofNat n), iv (Int32.ofNat r), iv (own_b2 m1), iv (own_b2 m2), iv (own_b2 m3), iv (own_b2 m4), rv b'0, .unset, .unset, .unset, .unset, .unset, .unset, .unset, .unset, .unset, .unset, .unset, .unset] [.ref b'5, .ref b'5])) rfl (by rw [hml]; rfl) (Steps.refl _) (a := b'5) (argsL := []) (rest := [.ref b'5]) (lenOf own_pd12 rfl) rfl (Nat.le_of_eq rfl) (hb hby at_80) (fun _ _ => ⟨rfl, e'5, (by decide : 2 + 0 ≤ _), (by decide : 6 + 0 ≤ _)⟩)
 dsimp only [Pt.U, Pt.locs, Pt.cells, Pt.slots] at X'f l'f y'f z'f st'f hQ'f
 subst l'f y'f z'f
 obtain ⟨rfl, Nq'f, K'f, G_g, G_h, G_i, G_j, G_k⟩ := hQ'f
 have Old_l := Old_7.keep K'f (allS ge_6 all0)
 have X_m := X_9.keep K'f
 have Z_n : n0 ≤ T'f.heap.size := Nat.le_trans Z_a K'f.1
 have N_f := Fr.app N_0 Nq'f
 refine goo (fun _ k => st'f.trans k) ?_
 refine goo (fun _ k => XS.astore X'f.here hx rfl (hb hby at_83) rfl rfl (l' := #[iv x0, iv x1, iv x2, .val (.long x3), .second, iv (Int32.ofNat n), iv (Int32.ofNat r), iv (own_b2 m1), iv (own_b2 m2), iv (own_b2 m3), iv (own_b2 m4), rv b'0, rv b'5, .unset, .unset, .unset, .unset, .unset, .unset, .unset, .unset, .unset, .unset, .unset]) rfl k) ?_
 show own_G _ _ _ _ (T'f.setTop (mkF m 85 #[iv x0, iv x1, iv x2, .val (.long x3), .second, iv (Int32.ofNat n), iv (Int32.ofNat r), iv (own_b2 m1), iv (own_b2 m2), iv (own_b2 m3), iv (own_b2 m4), rv b'0, rv b'5, .unset, .unset, .unset, .unset, .unset, .unset, .unset, .unset, .unset, .unset, .unset] []))
 have J0 := (fun {L : List Loc} (N : Fr n0 L) => (by rw [Nat.min_zero]; exact ⟨⟨em, ke, G_g, G_h, G_i, G_j, W.2.1.ext Old_l.2, (Old_l.ne W.2.1.lt ge_6).symm, W.2.2.1.ext Old_l.2, Or.inl rfl⟩, ge_6, X_m, Old_l, Z_n, N, fun _ => G_k⟩ : own_I true Z n0 b'5 b'0 (own_fl (min n 0)) T'f.heap L)) N_f
 refine own_joinG (fun T' L' => own_I true Z n0 b'5 b'0 (own_fl (min n 1)) T'.heap L') (X'f.more (cells' := 3) (slots' := 10) (by decide) (by decide)) (mkF m 99 #[iv x0, iv x1, iv x2, .val (.long x3), .second, iv (Int32.ofNat n), iv (Int32.ofNat r), iv (own_b2 m1), iv (own_b2 m2), iv (own_b2 m3), iv (own_b2 m4), rv b'0, rv b'5, .unset, .unset, .unset, .unset, .unset, .unset, .unset, .unset, .unset, .unset, .unset] []) (fun hj => ?_) ?_
 ·by_cases hn_1 : n < 1
  ·refine goo (fun _ k => XS.iload X'f.here hx rfl (hb hby at_85) rfl k) ?_
   refine goo (fun _ k => XS.iconst X'f.here hx rfl (hb hby at_87) <| XS.icmpYes X'f.here hx rfl (pc0 := 88) (pc' := 99) rfl (hb hby at_88) rfl ((tlt (own_n1 (c := 1) hn_1 (by decide))).1) (by decide) (by decide) k) ?_
   show own_G _ _ _ _ (T'f.setTop (mkF m 99 #[iv x0, iv x1, iv x2, .val (.long x3), .second, iv (Int32.ofNat n), iv (Int32.ofNat r), iv (own_b2 m1), iv (own_b2 m2), iv (own_b2 m3), iv (own_b2 m4), rv b'0, rv b'5, .unset, .unset, .unset, .unset, .unset, .unset, .unset, .unset, .unset, .unset, .unset] []))
   exact hj _ _ (X'f.more (by decide) (by decide)) (by rw [show min n 1 = min n 0 by omega]; exact J0)
  ·refine goo (fun _ k => XS.iload X'f.here hx rfl (hb hby at_85) rfl k) ?_
   refine goo (fun _ k => XS.iconst X'f.here hx rfl (hb hby at_87) <| XS.icmpNo X'f.here hx rfl (hb hby at_88) rfl ((flt (own_n2 (c := 1) hn_1 (by omega))).1) <| XS.aload X'f.here hx rfl (hb hby at_91) rfl rfl <| XS.lconst X'f.here hx rfl (hb hby at_93) k) ?_
   refine goo (fun _ k => XS.aload X'f.here hx rfl (hb hby at_94) rfl rfl k) ?_
   show own_G _ _ _ _ (T'f.setTop (mkF m 96 #[iv x0, iv x1, iv x2, .val (.long x3), .second, iv (Int32.ofNat n), iv (Int32.ofNat r), iv (own_b2 m1), iv (own_b2 m2), iv (own_b2 m3), iv (own_b2 m4), rv b'0, rv b'5, .unset, .unset, .unset, .unset, .unset, .unset, .unset, .unset, .unset, .unset, .unset] [.ref b'0, (.long (1 : Int64)), .ref b'5]))
   have J_ := J0
   rw [show min n 0 = 0 by omega] at J_
   obtain ⟨T'o, L'o, X'o, J2127, st'o⟩ := own_dnE X'f hx hZ hw hown rfl W J_ rfl (by decide) (by decide) (g := (mkF m 96 #[iv x0, iv x1, iv x2, .val (.long x3), .second, iv (Int32.ofNat n), iv (Int32.ofNat r), iv (own_b2 m1), iv (own_b2 m2), iv (own_b2 m3), iv (own_b2 m4), rv b'0, rv b'5, .unset, .unset, .unset, .unset, .unset, .unset, .unset, .unset, .unset, .unset, .unset] [.ref b'0, (.long (1 : Int64)), .ref b'5])) rfl (by rw [hml]; rfl) (Nat.le_of_eq rfl) rfl (hb hby at_96)
   refine goo st'o ?_
   exact hj _ _ X'o (by rw [show min n 1 = 1 by omega]; exact J2127)
 intro T'p L'p X'p J2128
 show own_G _ _ _ _ (T'p.setTop (mkF m 99 #[iv x0, iv x1, iv x2, .val (.long x3), .second, iv (Int32.ofNat n), iv (Int32.ofNat r), iv (own_b2 m1), iv (own_b2 m2), iv (own_b2 m3), iv (own_b2 m4), rv b'0, rv b'5, .unset, .unset, .unset, .unset, .unset, .unset, .unset, .unset, .unset, .unset, .unset] []))
 refine own_joinG (fun T' L' => own_I true Z n0 b'5 b'0 (own_fl (min n 2)) T'.heap L') (X'p.more (cells' := 3) (slots' := 10) (by decide) (by decide)) (mkF m 115 #[iv x0, iv x1, iv x2, .val (.long x3), .second, iv (Int32.ofNat n), iv (Int32.ofNat r), iv (own_b2 m1), iv (own_b2 m2), iv (own_b2 m3), iv (own_b2 m4), rv b'0, rv b'5, .unset, .unset, .unset, .unset, .unset, .unset, .unset, .unset, .unset, .unset, .unset] []) (fun hj => ?_) ?_
 ·by_cases hn_2 : n < 2
  ·refine goo (fun _ k => XS.iload X'p.here hx rfl (hb hby at_99) rfl k) ?_
   refine goo (fun _ k => XS.iconst X'p.here hx rfl (hb hby at_101) <| XS.icmpYes X'p.here hx rfl (pc0 := 102) (pc' := 115) rfl (hb hby at_102) rfl ((tlt (own_n1 (c := 2) hn_2 (by decide))).1) (by decide) (by decide) k) ?_
   show own_G _ _ _ _ (T'p.setTop (mkF m 115 #[iv x0, iv x1, iv x2, .val (.long x3), .second, iv (Int32.ofNat n), iv (Int32.ofNat r), iv (own_b2 m1), iv (own_b2 m2), iv (own_b2 m3), iv (own_b2 m4), rv b'0, rv b'5, .unset, .unset, .unset, .unset, .unset, .unset, .unset, .unset, .unset, .unset, .unset] []))
   exact hj _ _ (X'p.more (by decide) (by decide)) (by rw [show min n 2 = min n 1 by omega]; exact J2128)
  ·refine goo (fun _ k => XS.iload X'p.here hx rfl (hb hby at_99) rfl k) ?_
   refine goo (fun _ k => XS.iconst X'p.here hx rfl (hb hby at_101) <| XS.icmpNo X'p.here hx rfl (hb hby at_102) rfl ((flt (own_n2 (c := 2) hn_2 (by omega))).1) <| XS.aload X'p.here hx rfl (hb hby at_105) rfl rfl k) ?_
   refine goo (fun _ k => X'p.ldc2Long hx hown (mvT hZ (qw hw 42 rfl)) (g := (mkF m 107 #[iv x0, iv x1, iv x2, .val (.long x3), .second, iv (Int32.ofNat n), iv (Int32.ofNat r), iv (own_b2 m1), iv (own_b2 m2), iv (own_b2 m3), iv (own_b2 m4), rv b'0, rv b'5, .unset, .unset, .unset, .unset, .unset, .unset, .unset, .unset, .unset, .unset, .unset] [.ref b'5])) rfl (hb hby at_107) _ k) ?_
   refine goo (fun _ k => XS.aload X'p.here hx rfl (hb hby at_110) rfl rfl k) ?_
   show own_G _ _ _ _ (T'p.setTop (mkF m 112 #[iv x0, iv x1, iv x2, .val (.long x3), .second, iv (Int32.ofNat n), iv (Int32.ofNat r), iv (own_b2 m1), iv (own_b2 m2), iv (own_b2 m3), iv (own_b2 m4), rv b'0, rv b'5, .unset, .unset, .unset, .unset, .unset, .unset, .unset, .unset, .unset, .unset, .unset] [.ref b'0, (.long (2 : Int64)), .ref b'5]))
   have J_ := J2128
   rw [show min n 1 = 1 by omega] at J_
   obtain ⟨T'q, L'q, X'q, J2129, st'q⟩ := own_dnx X'p hx hZ hw hown rfl W J_ ⟨rfl, rfl, by decide⟩ (by decide) (by decide) (g := (mkF m 112 #[iv x0, iv x1, iv x2, .val (.long x3), .second, iv (Int32.ofNat n), iv (Int32.ofNat r), iv (own_b2 m1), iv (own_b2 m2), iv (own_b2 m3), iv (own_b2 m4), rv b'0, rv b'5, .unset, .unset, .unset, .unset, .unset, .unset, .unset, .unset, .unset, .unset, .unset] [.ref b'0, (.long (2 : Int64)), .ref b'5])) rfl (by rw [hml]; rfl) (Nat.le_of_eq rfl) rfl (hb hby at_112)
   refine goo st'q ?_
   exact hj _ _ X'q (by rw [show min n 2 = 2 by omega]; exact J2129)
 intro T'r L'r X'r J2130
 show own_G _ _ _ _ (T'r.setTop (mkF m 115 #[iv x0, iv x1, iv x2, .val (.long x3), .second, iv (Int32.ofNat n), iv (Int32.ofNat r), iv (own_b2 m1), iv (own_b2 m2), iv (own_b2 m3), iv (own_b2 m4), rv b'0, rv b'5, .unset, .unset, .unset, .unset, .unset, .unset, .unset, .unset, .unset, .unset, .unset] []))
 refine own_joinG (fun T' L' => own_I true Z n0 b'5 b'0 (own_fl (min n 3)) T'.heap L') (X'r.more (cells' := 3) (slots' := 10) (by decide) (by decide)) (mkF m 131 #[iv x0, iv x1, iv x2, .val (.long x3), .second, iv (Int32.ofNat n), iv (Int32.ofNat r), iv (own_b2 m1), iv (own_b2 m2), iv (own_b2 m3), iv (own_b2 m4), rv b'0, rv b'5, .unset, .unset, .unset, .unset, .unset, .unset, .unset, .unset, .unset, .unset, .unset] []) (fun hj => ?_) ?_
 ·by_cases hn_3 : n < 3
  ·refine goo (fun _ k => XS.iload X'r.here hx rfl (hb hby at_115) rfl k) ?_
   refine goo (fun _ k => XS.iconst X'r.here hx rfl (hb hby at_117) <| XS.icmpYes X'r.here hx rfl (pc0 := 118) (pc' := 131) rfl (hb hby at_118) rfl ((tlt (own_n1 (c := 3) hn_3 (by decide))).1) (by decide) (by decide) k) ?_
   show own_G _ _ _ _ (T'r.setTop (mkF m 131 #[iv x0, iv x1, iv x2, .val (.long x3), .second, iv (Int32.ofNat n), iv (Int32.ofNat r), iv (own_b2 m1), iv (own_b2 m2), iv (own_b2 m3), iv (own_b2 m4), rv b'0, rv b'5, .unset, .unset, .unset, .unset, .unset, .unset, .unset, .unset, .unset, .unset, .unset] []))
   exact hj _ _ (X'r.more (by decide) (by decide)) (by rw [show min n 3 = min n 2 by omega]; exact J2130)
  ·refine goo (fun _ k => XS.iload X'r.here hx rfl (hb hby at_115) rfl k) ?_
   refine goo (fun _ k => XS.iconst X'r.here hx rfl (hb hby at_117) <| XS.icmpNo X'r.here hx rfl (hb hby at_118) rfl ((flt (own_n2 (c := 3) hn_3 (by omega))).1) <| XS.aload X'r.here hx rfl (hb hby at_121) rfl rfl k) ?_
   refine goo (fun _ k => X'r.ldc2Long hx hown (mvT hZ (qw hw 192 rfl)) (g := (mkF m 123 #[iv x0, iv x1, iv x2, .val (.long x3), .second, iv (Int32.ofNat n), iv (Int32.ofNat r), iv (own_b2 m1), iv (own_b2 m2), iv (own_b2 m3), iv (own_b2 m4), rv b'0, rv b'5, .unset, .unset, .unset, .unset, .unset, .unset, .unset, .unset, .unset, .unset, .unset] [.ref b'5])) rfl (hb hby at_123) _ k) ?_
   refine goo (fun _ k => XS.aload X'r.here hx rfl (hb hby at_126) rfl rfl k) ?_
   show own_G _ _ _ _ (T'r.setTop (mkF m 128 #[iv x0, iv x1, iv x2, .val (.long x3), .second, iv (Int32.ofNat n), iv (Int32.ofNat r), iv (own_b2 m1), iv (own_b2 m2), iv (own_b2 m3), iv (own_b2 m4), rv b'0, rv b'5, .unset, .unset, .unset, .unset, .unset, .unset, .unset, .unset, .unset, .unset, .unset] [.ref b'0, (.long (3 : Int64)), .ref b'5]))
   have J_ := J2130
   rw [show min n 2 = 2 by omega] at J_
   obtain ⟨T's, L's, X's, J2131, st's⟩ := own_dnx X'r hx hZ hw hown rfl W J_ ⟨rfl, rfl, by decide⟩ (by decide) (by decide) (g := (mkF m 128 #[iv x0, iv x1, iv x2, .val (.long x3), .second, iv (Int32.ofNat n), iv (Int32.ofNat r), iv (own_b2 m1), iv (own_b2 m2), iv (own_b2 m3), iv (own_b2 m4), rv b'0, rv b'5, .unset, .unset, .unset, .unset, .unset, .unset, .unset, .unset, .unset, .unset, .unset] [.ref b'0, (.long (3 : Int64)), .ref b'5])) rfl (by rw [hml]; rfl) (Nat.le_of_eq rfl) rfl (hb hby at_128)
   refine goo st's ?_
   exact hj _ _ X's (by rw [show min n 3 = 3 by omega]; exact J2131)
 intro T't L't X't J2132
 show own_G _ _ _ _ (T't.setTop (mkF m 131 #[iv x0, iv x1, iv x2, .val (.long x3), .second, iv (Int32.ofNat n), iv (Int32.ofNat r), iv (own_b2 m1), iv (own_b2 m2), iv (own_b2 m3), iv (own_b2 m4), rv b'0, rv b'5, .unset, .unset, .unset, .unset, .unset, .unset, .unset, .unset, .unset, .unset, .unset] []))
 refine own_joinG (fun T' L' => own_I true Z n0 b'5 b'0 (own_fl (min n 4)) T'.heap L') (X't.more (cells' := 3) (slots' := 10) (by decide) (by decide)) (mkF m 147 #[iv x0, iv x1, iv x2, .val (.long x3), .second, iv (Int32.ofNat n), iv (Int32.ofNat r), iv (own_b2 m1), iv (own_b2 m2), iv (own_b2 m3), iv (own_b2 m4), rv b'0, rv b'5, .unset, .unset, .unset, .unset, .unset, .unset, .unset, .unset, .unset, .unset, .unset] []) (fun hj => ?_) ?_
 ·by_cases hn_4 : n < 4
  ·refine goo (fun _ k => XS.iload X't.here hx rfl (hb hby at_131) rfl k) ?_
   refine goo (fun _ k => XS.iconst X't.here hx rfl (hb hby at_133) <| XS.icmpYes X't.here hx rfl (pc0 := 134) (pc' := 147) rfl (hb hby at_134) rfl ((tlt (own_n1 (c := 4) hn_4 (by decide))).1) (by decide) (by decide) k) ?_
   show own_G _ _ _ _ (T't.setTop (mkF m 147 #[iv x0, iv x1, iv x2, .val (.long x3), .second, iv (Int32.ofNat n), iv (Int32.ofNat r), iv (own_b2 m1), iv (own_b2 m2), iv (own_b2 m3), iv (own_b2 m4), rv b'0, rv b'5, .unset, .unset, .unset, .unset, .unset, .unset, .unset, .unset, .unset, .unset, .unset] []))
   exact hj _ _ (X't.more (by decide) (by decide)) (by rw [show min n 4 = min n 3 by omega]; exact J2132)
  ·refine goo (fun _ k => XS.iload X't.here hx rfl (hb hby at_131) rfl k) ?_
   refine goo (fun _ k => XS.iconst X't.here hx rfl (hb hby at_133) <| XS.icmpNo X't.here hx rfl (hb hby at_134) rfl ((flt (own_n2 (c := 4) hn_4 (by omega))).1) <| XS.aload X't.here hx rfl (hb hby at_137) rfl rfl k) ?_
   refine goo (fun _ k => X't.ldc2Long hx hown (mvT hZ (qw hw 193 rfl)) (g := (mkF m 139 #[iv x0, iv x1, iv x2, .val (.long x3), .second, iv (Int32.ofNat n), iv (Int32.ofNat r), iv (own_b2 m1), iv (own_b2 m2), iv (own_b2 m3), iv (own_b2 m4), rv b'0, rv b'5, .unset, .unset, .unset, .unset, .unset, .unset, .unset, .unset, .unset, .unset, .unset] [.ref b'5])) rfl (hb hby at_139) _ k) ?_
   refine goo (fun _ k => XS.aload X't.here hx rfl (hb hby at_142) rfl rfl k) ?_
   show own_G _ _ _ _ (T't.setTop (mkF m 144 #[iv x0, iv x1, iv x2, .val (.long x3), .second, iv (Int32.ofNat n), iv (Int32.ofNat r), iv (own_b2 m1), iv (own_b2 m2), iv (own_b2 m3), iv (own_b2 m4), rv b'0, rv b'5, .unset, .unset, .unset, .unset, .unset, .unset, .unset, .unset, .unset, .unset, .unset] [.ref b'0, (.long (4 : Int64)), .ref b'5]))
   have J_ := J2132
   rw [show min n 3 = 3 by omega] at J_
   obtain ⟨T'u, L'u, X'u, J2133, st'u⟩ := own_dnx X't hx hZ hw hown rfl W J_ ⟨rfl, rfl, by decide⟩ (by decide) (by decide) (g := (mkF m 144 #[iv x0, iv x1, iv x2, .val (.long x3), .second, iv (Int32.ofNat n), iv (Int32.ofNat r), iv (own_b2 m1), iv (own_b2 m2), iv (own_b2 m3), iv (own_b2 m4), rv b'0, rv b'5, .unset, .unset, .unset, .unset, .unset, .unset, .unset, .unset, .unset, .unset, .unset] [.ref b'0, (.long (4 : Int64)), .ref b'5])) rfl (by rw [hml]; rfl) (Nat.le_of_eq rfl) rfl (hb hby at_144)
   refine goo st'u ?_
   exact hj _ _ X'u (by rw [show min n 4 = 4 by omega]; exact J2133)
 intro T'v L'v X'v J2134
 show own_G _ _ _ _ (T'v.setTop (mkF m 147 #[iv x0, iv x1, iv x2, .val (.long x3), .second, iv (Int32.ofNat n), iv (Int32.ofNat r), iv (own_b2 m1), iv (own_b2 m2), iv (own_b2 m3), iv (own_b2 m4), rv b'0, rv b'5, .unset, .unset, .unset, .unset, .unset, .unset, .unset, .unset, .unset, .unset, .unset] []))
 rw [show min n 4 = n by omega] at J2134
 refine own_joinG (fun T' L' => own_I true Z n0 b'5 b'0 (own_cif m1 0 (own_fl n)) T'.heap L') (X'v.more (cells' := 4) (slots' := 11) (by decide) (by decide)) (mkF m 159 #[iv x0, iv x1, iv x2, .val (.long x3), .second, iv (Int32.ofNat n), iv (Int32.ofNat r), iv (own_b2 m1), iv (own_b2 m2), iv (own_b2 m3), iv (own_b2 m4), rv b'0, rv b'5, .unset, .unset, .unset, .unset, .unset, .unset, .unset, .unset, .unset, .unset, .unset] []) (fun hj => ?_) ?_
 ·cases m1
  ·show own_G _ _ _ _ (T'v.setTop (mkF m 147 #[iv x0, iv x1, iv x2, .val (.long x3), .second, iv (Int32.ofNat n), iv (Int32.ofNat r), iv (own_b2 false), iv (own_b2 m2), iv (own_b2 m3), iv (own_b2 m4), rv b'0, rv b'5, .unset, .unset, .unset, .unset, .unset, .unset, .unset, .unset, .unset, .unset, .unset] []))
   refine goo (fun _ k => XS.iload X'v.here hx rfl (hb hby at_147) rfl <| XS.ifYes X'v.here hx rfl (pc0 := 149) (pc' := 159) rfl (hb hby at_149) rfl (((if0 _ _).trans (teq (rfl : own_b2 false = i_0)).1)) (by decide) (by decide) k) ?_
   show own_G _ _ _ _ (T'v.setTop (mkF m 159 #[iv x0, iv x1, iv x2, .val (.long x3), .second, iv (Int32.ofNat n), iv (Int32.ofNat r), iv (own_b2 false), iv (own_b2 m2), iv (own_b2 m3), iv (own_b2 m4), rv b'0, rv b'5, .unset, .unset, .unset, .unset, .unset, .unset, .unset, .unset, .unset, .unset, .unset] []))
   exact hj _ _ (X'v.more (by decide) (by decide)) J2134
  ·show own_G _ _ _ _ (T'v.setTop (mkF m 147 #[iv x0, iv x1, iv x2, .val (.long x3), .second, iv (Int32.ofNat n), iv (Int32.ofNat r), iv (own_b2 true), iv (own_b2 m2), iv (own_b2 m3), iv (own_b2 m4), rv b'0, rv b'5, .unset, .unset, .unset, .unset, .unset, .unset, .unset, .unset, .unset, .unset, .unset] []))
   refine goo (fun _ k => XS.iload X'v.here hx rfl (hb hby at_147) rfl <| XS.ifNo X'v.here hx rfl (hb hby at_149) rfl (((if0 _ _).trans (feq (by decide : ¬ own_b2 true = i_0)).1)) <| XS.aload X'v.here hx rfl (hb hby at_152) rfl rfl <| XS.lconst X'v.here hx rfl (hb hby at_154) k) ?_
   refine goo (fun _ k => XS.aconstNull X'v.here hx rfl (hb hby at_155) k) ?_
   show own_G _ _ _ _ (T'v.setTop (mkF m 156 #[iv x0, iv x1, iv x2, .val (.long x3), .second, iv (Int32.ofNat n), iv (Int32.ofNat r), iv (own_b2 true), iv (own_b2 m2), iv (own_b2 m3), iv (own_b2 m4), rv b'0, rv b'5, .unset, .unset, .unset, .unset, .unset, .unset, .unset, .unset, .unset, .unset, .unset] [.null, (.long (1 : Int64)), .ref b'5]))
   obtain ⟨T'w, L'w, X'w, J2136, st'w⟩ := own_dclr (j := 0) X'v hx hZ hw hown (by decide) rfl W J2134 hok.1 (by decide) (by decide) (g := (mkF m 156 #[iv x0, iv x1, iv x2, .val (.long x3), .second, iv (Int32.ofNat n), iv (Int32.ofNat r), iv (own_b2 true), iv (own_b2 m2), iv (own_b2 m3), iv (own_b2 m4), rv b'0, rv b'5, .unset, .unset, .unset, .unset, .unset, .unset, .unset, .unset, .unset, .unset, .unset] [.null, (.long (1 : Int64)), .ref b'5])) rfl (by rw [hml]; rfl) (Nat.le_of_eq rfl) rfl (hb hby at_156)
   refine goo st'w ?_
   exact hj _ _ X'w J2136
 intro T'x L'x X'x J2137
 show own_G _ _ _ _ (T'x.setTop (mkF m 159 #[iv x0, iv x1, iv x2, .val (.long x3), .second, iv (Int32.ofNat n), iv (Int32.ofNat r), iv (own_b2 m1), iv (own_b2 m2), iv (own_b2 m3), iv (own_b2 m4), rv b'0, rv b'5, .unset, .unset, .unset, .unset, .unset, .unset, .unset, .unset, .unset, .unset, .unset] []))
 refine own_joinG (fun T' L' => own_I true Z n0 b'5 b'0 (own_cif m2 1 (own_cif m1 0 (own_fl n))) T'.heap L') (X'x.more (cells' := 5) (slots' := 12) (by decide) (by decide)) (mkF m 173 #[iv x0, iv x1, iv x2, .val (.long x3), .second, iv (Int32.ofNat n), iv (Int32.ofNat r), iv (own_b2 m1), iv (own_b2 m2), iv (own_b2 m3), iv (own_b2 m4), rv b'0, rv b'5, .unset, .unset, .unset, .unset, .unset, .unset, .unset, .unset, .unset, .unset, .unset] []) (fun hj => ?_) ?_
 ·cases m2
  ·show own_G _ _ _ _ (T'x.setTop (mkF m 159 #[iv x0, iv x1, iv x2, .val (.long x3), .second, iv (Int32.ofNat n), iv (Int32.ofNat r), iv (own_b2 m1), iv (own_b2 false), iv (own_b2 m3), iv (own_b2 m4), rv b'0, rv b'5, .unset, .unset, .unset, .unset, .unset, .unset, .unset, .unset, .unset, .unset, .unset] []))
   refine goo (fun _ k => XS.iload X'x.here hx rfl (hb hby at_159) rfl <| XS.ifYes X'x.here hx rfl (pc0 := 161) (pc' := 173) rfl (hb hby at_161) rfl (((if0 _ _).trans (teq (rfl : own_b2 false = i_0)).1)) (by decide) (by decide) k) ?_
   show own_G _ _ _ _ (T'x.setTop (mkF m 173 #[iv x0, iv x1, iv x2, .val (.long x3), .second, iv (Int32.ofNat n), iv (Int32.ofNat r), iv (own_b2 m1), iv (own_b2 false), iv (own_b2 m3), iv (own_b2 m4), rv b'0, rv b'5, .unset, .unset, .unset, .unset, .unset, .unset, .unset, .unset, .unset, .unset, .unset] []))
   exact hj _ _ (X'x.more (by decide) (by decide)) J2137
  ·show own_G _ _ _ _ (T'x.setTop (mkF m 159 #[iv x0, iv x1, iv x2, .val (.long x3), .second, iv (Int32.ofNat n), iv (Int32.ofNat r), iv (own_b2 m1), iv (own_b2 true), iv (own_b2 m3), iv (own_b2 m4), rv b'0, rv b'5, .unset, .unset, .unset, .unset, .unset, .unset, .unset, .unset, .unset, .unset, .unset] []))
   refine goo (fun _ k => XS.iload X'x.here hx rfl (hb hby at_159) rfl <| XS.ifNo X'x.here hx rfl (hb hby at_161) rfl (((if0 _ _).trans (feq (by decide : ¬ own_b2 true = i_0)).1)) <| XS.aload X'x.here hx rfl (hb hby at_164) rfl rfl k) ?_
   refine goo (fun _ k => X'x.ldc2Long hx hown (mvT hZ (qw hw 42 rfl)) (g := (mkF m 166 #[iv x0, iv x1, iv x2, .val (.long x3), .second, iv (Int32.ofNat n), iv (Int32.ofNat r), iv (own_b2 m1), iv (own_b2 true), iv (own_b2 m3), iv (own_b2 m4), rv b'0, rv b'5, .unset, .unset, .unset, .unset, .unset, .unset, .unset, .unset, .unset, .unset, .unset] [.ref b'5])) rfl (hb hby at_166) _ k) ?_
   refine goo (fun _ k => XS.aconstNull X'x.here hx rfl (hb hby at_169) k) ?_
   show own_G _ _ _ _ (T'x.setTop (mkF m 170 #[iv x0, iv x1, iv x2, .val (.long x3), .second, iv (Int32.ofNat n), iv (Int32.ofNat r), iv (own_b2 m1), iv (own_b2 true), iv (own_b2 m3), iv (own_b2 m4), rv b'0, rv b'5, .unset, .unset, .unset, .unset, .unset, .unset, .unset, .unset, .unset, .unset, .unset] [.null, (.long (2 : Int64)), .ref b'5]))
   obtain ⟨T'y, L'y, X'y, J2138, st'y⟩ := own_dclr (j := 1) X'x hx hZ hw hown (by decide) rfl W J2137 hok.2.1 (by decide) (by decide) (g := (mkF m 170 #[iv x0, iv x1, iv x2, .val (.long x3), .second, iv (Int32.ofNat n), iv (Int32.ofNat r), iv (own_b2 m1), iv (own_b2 true), iv (own_b2 m3), iv (own_b2 m4), rv b'0, rv b'5, .unset, .unset, .unset, .unset, .unset, .unset, .unset, .unset, .unset, .unset, .unset] [.null, (.long (2 : Int64)), .ref b'5])) rfl (by rw [hml]; rfl) (Nat.le_of_eq rfl) rfl (hb hby at_170)
   refine goo st'y ?_
   exact hj _ _ X'y J2138
 intro T'z L'z X'z J2139
 show own_G _ _ _ _ (T'z.setTop (mkF m 173 #[iv x0, iv x1, iv x2, .val (.long x3), .second, iv (Int32.ofNat n), iv (Int32.ofNat r), iv (own_b2 m1), iv (own_b2 m2), iv (own_b2 m3), iv (own_b2 m4), rv b'0, rv b'5, .unset, .unset, .unset, .unset, .unset, .unset, .unset, .unset, .unset, .unset, .unset] []))
 refine own_joinG (fun T' L' => own_I true Z n0 b'5 b'0 (own_cif m3 2 (own_cif m2 1 (own_cif m1 0 (own_fl n)))) T'.heap L') (X'z.more (cells' := 6) (slots' := 13) (by decide) (by decide)) (mkF m 187 #[iv x0, iv x1, iv x2, .val (.long x3), .second, iv (Int32.ofNat n), iv (Int32.ofNat r), iv (own_b2 m1), iv (own_b2 m2), iv (own_b2 m3), iv (own_b2 m4), rv b'0, rv b'5, .unset, .unset, .unset, .unset, .unset, .unset, .unset, .unset, .unset, .unset, .unset] []) (fun hj => ?_) ?_
 ·cases m3
  ·show own_G _ _ _ _ (T'z.setTop (mkF m 173 #[iv x0, iv x1, iv x2, .val (.long x3), .second, iv (Int32.ofNat n), iv (Int32.ofNat r), iv (own_b2 m1), iv (own_b2 m2), iv (own_b2 false), iv (own_b2 m4), rv b'0, rv b'5, .unset, .unset, .unset, .unset, .unset, .unset, .unset, .unset, .unset, .unset, .unset] []))
   refine goo (fun _ k => XS.iload X'z.here hx rfl (hb hby at_173) rfl <| XS.ifYes X'z.here hx rfl (pc0 := 175) (pc' := 187) rfl (hb hby at_175) rfl (((if0 _ _).trans (teq (rfl : own_b2 false = i_0)).1)) (by decide) (by decide) k) ?_
   show own_G _ _ _ _ (T'z.setTop (mkF m 187 #[iv x0, iv x1, iv x2, .val (.long x3), .second, iv (Int32.ofNat n), iv (Int32.ofNat r), iv (own_b2 m1), iv (own_b2 m2), iv (own_b2 false), iv (own_b2 m4), rv b'0, rv b'5, .unset, .unset, .unset, .unset, .unset, .unset, .unset, .unset, .unset, .unset, .unset] []))
   exact hj _ _ (X'z.more (by decide) (by decide)) J2139
  ·show own_G _ _ _ _ (T'z.setTop (mkF m 173 #[iv x0, iv x1, iv x2, .val (.long x3), .second, iv (Int32.ofNat n), iv (Int32.ofNat r), iv (own_b2 m1), iv (own_b2 m2), iv (own_b2 true), iv (own_b2 m4), rv b'0, rv b'5, .unset, .unset, .unset, .unset, .unset, .unset, .unset, .unset, .unset, .unset, .unset] []))
   refine goo (fun _ k => XS.iload X'z.here hx rfl (hb hby at_173) rfl <| XS.ifNo X'z.here hx rfl (hb hby at_175) rfl (((if0 _ _).trans (feq (by decide : ¬ own_b2 true = i_0)).1)) <| XS.aload X'z.here hx rfl (hb hby at_178) rfl rfl k) ?_
   refine goo (fun _ k => X'z.ldc2Long hx hown (mvT hZ (qw hw 192 rfl)) (g := (mkF m 180 #[iv x0, iv x1, iv x2, .val (.long x3), .second, iv (Int32.ofNat n), iv (Int32.ofNat r), iv (own_b2 m1), iv (own_b2 m2), iv (own_b2 true), iv (own_b2 m4), rv b'0, rv b'5, .unset, .unset, .unset, .unset, .unset, .unset, .unset, .unset, .unset, .unset, .unset] [.ref b'5])) rfl (hb hby at_180) _ k) ?_
   refine goo (fun _ k => XS.aconstNull X'z.here hx rfl (hb hby at_183) k) ?_
   show own_G _ _ _ _ (T'z.setTop (mkF m 184 #[iv x0, iv x1, iv x2, .val (.long x3), .second, iv (Int32.ofNat n), iv (Int32.ofNat r), iv (own_b2 m1), iv (own_b2 m2), iv (own_b2 true), iv (own_b2 m4), rv b'0, rv b'5, .unset, .unset, .unset, .unset, .unset, .unset, .unset, .unset, .unset, .unset, .unset] [.null, (.long (3 : Int64)), .ref b'5]))
   obtain ⟨T'10, L'10, X'10, J2140, st'10⟩ := own_dclr (j := 2) X'z hx hZ hw hown (by decide) rfl W J2139 hok.2.2.1 (by decide) (by decide) (g := (mkF m 184 #[iv x0, iv x1, iv x2, .val (.long x3), .second, iv (Int32.ofNat n), iv (Int32.ofNat r), iv (own_b2 m1), iv (own_b2 m2), iv (own_b2 true), iv (own_b2 m4), rv b'0, rv b'5, .unset, .unset, .unset, .unset, .unset, .unset, .unset, .unset, .unset, .unset, .unset] [.null, (.long (3 : Int64)), .ref b'5])) rfl (by rw [hml]; rfl) (Nat.le_of_eq rfl) rfl (hb hby at_184)
   refine goo st'10 ?_
   exact hj _ _ X'10 J2140
 intro T'11 L'11 X'11 J2141
 show own_G _ _ _ _ (T'11.setTop (mkF m 187 #[iv x0, iv x1, iv x2, .val (.long x3), .second, iv (Int32.ofNat n), iv (Int32.ofNat r), iv (own_b2 m1), iv (own_b2 m2), iv (own_b2 m3), iv (own_b2 m4), rv b'0, rv b'5, .unset, .unset, .unset, .unset, .unset, .unset, .unset, .unset, .unset, .unset, .unset] []))
 refine own_joinG (fun T' L' => own_I true Z n0 b'5 b'0 (own_cl4 n m1 m2 m3 m4) T'.heap L') (X'11.more (cells' := 7) (slots' := 14) (by decide) (by decide)) (mkF m 201 #[iv x0, iv x1, iv x2, .val (.long x3), .second, iv (Int32.ofNat n), iv (Int32.ofNat r), iv (own_b2 m1), iv (own_b2 m2), iv (own_b2 m3), iv (own_b2 m4), rv b'0, rv b'5, .unset, .unset, .unset, .unset, .unset, .unset, .unset, .unset, .unset, .unset, .unset] []) (fun hj => ?_) ?_
 ·cases m4
  ·show own_G _ _ _ _ (T'11.setTop (mkF m 187 #[iv x0, iv x1, iv x2, .val (.long x3), .second, iv (Int32.ofNat n), iv (Int32.ofNat r), iv (own_b2 m1), iv (own_b2 m2), iv (own_b2 m3), iv (own_b2 false), rv b'0, rv b'5, .unset, .unset, .unset, .unset, .unset, .unset, .unset, .unset, .unset, .unset, .unset] []))
   refine goo (fun _ k => XS.iload X'11.here hx rfl (hb hby at_187) rfl <| XS.ifYes X'11.here hx rfl (pc0 := 189) (pc' := 201) rfl (hb hby at_189) rfl (((if0 _ _).trans (teq (rfl : own_b2 false = i_0)).1)) (by decide) (by decide) k) ?_
   show own_G _ _ _ _ (T'11.setTop (mkF m 201 #[iv x0, iv x1, iv x2, .val (.long x3), .second, iv (Int32.ofNat n), iv (Int32.ofNat r), iv (own_b2 m1), iv (own_b2 m2), iv (own_b2 m3), iv (own_b2 false), rv b'0, rv b'5, .unset, .unset, .unset, .unset, .unset, .unset, .unset, .unset, .unset, .unset, .unset] []))
   exact hj _ _ (X'11.more (by decide) (by decide)) J2141
  ·show own_G _ _ _ _ (T'11.setTop (mkF m 187 #[iv x0, iv x1, iv x2, .val (.long x3), .second, iv (Int32.ofNat n), iv (Int32.ofNat r), iv (own_b2 m1), iv (own_b2 m2), iv (own_b2 m3), iv (own_b2 true), rv b'0, rv b'5, .unset, .unset, .unset, .unset, .unset, .unset, .unset, .unset, .unset, .unset, .unset] []))
   refine goo (fun _ k => XS.iload X'11.here hx rfl (hb hby at_187) rfl <| XS.ifNo X'11.here hx rfl (hb hby at_189) rfl (((if0 _ _).trans (feq (by decide : ¬ own_b2 true = i_0)).1)) <| XS.aload X'11.here hx rfl (hb hby at_192) rfl rfl k) ?_
   refine goo (fun _ k => X'11.ldc2Long hx hown (mvT hZ (qw hw 193 rfl)) (g := (mkF m 194 #[iv x0, iv x1, iv x2, .val (.long x3), .second, iv (Int32.ofNat n), iv (Int32.ofNat r), iv (own_b2 m1), iv (own_b2 m2), iv (own_b2 m3), iv (own_b2 true), rv b'0, rv b'5, .unset, .unset, .unset, .unset, .unset, .unset, .unset, .unset, .unset, .unset, .unset] [.ref b'5])) rfl (hb hby at_194) _ k) ?_
   refine goo (fun _ k => XS.aconstNull X'11.here hx rfl (hb hby at_197) k) ?_
   show own_G _ _ _ _ (T'11.setTop (mkF m 198 #[iv x0, iv x1, iv x2, .val (.long x3), .second, iv (Int32.ofNat n), iv (Int32.ofNat r), iv (own_b2 m1), iv (own_b2 m2), iv (own_b2 m3), iv (own_b2 true), rv b'0, rv b'5, .unset, .unset, .unset, .unset, .unset, .unset, .unset, .unset, .unset, .unset, .unset] [.null, (.long (4 : Int64)), .ref b'5]))
   obtain ⟨T'12, L'12, X'12, J2142, st'12⟩ := own_dclr (j := 3) X'11 hx hZ hw hown (by decide) rfl W J2141 hok.2.2.2.1 (by decide) (by decide) (g := (mkF m 198 #[iv x0, iv x1, iv x2, .val (.long x3), .second, iv (Int32.ofNat n), iv (Int32.ofNat r), iv (own_b2 m1), iv (own_b2 m2), iv (own_b2 m3), iv (own_b2 true), rv b'0, rv b'5, .unset, .unset, .unset, .unset, .unset, .unset, .unset, .unset, .unset, .unset, .unset] [.null, (.long (4 : Int64)), .ref b'5])) rfl (by rw [hml]; rfl) (Nat.le_of_eq rfl) rfl (hb hby at_198)
   refine goo st'12 ?_
   exact hj _ _ X'12 J2142
 intro T'13 L'13 X'13 J2143
 show own_G _ _ _ _ (T'13.setTop (mkF m 201 #[iv x0, iv x1, iv x2, .val (.long x3), .second, iv (Int32.ofNat n), iv (Int32.ofNat r), iv (own_b2 m1), iv (own_b2 m2), iv (own_b2 m3), iv (own_b2 m4), rv b'0, rv b'5, .unset, .unset, .unset, .unset, .unset, .unset, .unset, .unset, .unset, .unset, .unset] []))
 refine goo (fun _ k => XS.aload X'13.here hx rfl (hb hby at_201) rfl rfl <| XS.iload X'13.here hx rfl (hb hby at_203) rfl <| XS.i2l X'13.here hx rfl (hb hby at_205) rfl <| XS.aload X'13.here hx rfl (hb hby at_206) rfl rfl k) ?_
 show own_G _ _ _ _ (T'13.setTop (mkF m 208 #[iv x0, iv x1, iv x2, .val (.long x3), .second, iv (Int32.ofNat n), iv (Int32.ofNat r), iv (own_b2 m1), iv (own_b2 m2), iv (own_b2 m3), iv (own_b2 m4), rv b'0, rv b'5, .unset, .unset, .unset, .unset, .unset, .unset, .unset, .unset, .unset, .unset, .unset] [.ref b'0, (.long ((Int32.ofNat r).toInt64)), .ref b'5]))
 obtain ⟨T'14, L'14, X'14, J2144, st'14⟩ := own_dput X'13 hx hZ hw hown hr6 W (S := (own_cl4 n m1 m2 m3 m4)) J2143 hok.2.2.2.2 (by decide) (by decide) (g := (mkF m 208 #[iv x0, iv x1, iv x2, .val (.long x3), .second, iv (Int32.ofNat n), iv (Int32.ofNat r), iv (own_b2 m1), iv (own_b2 m2), iv (own_b2 m3), iv (own_b2 m4), rv b'0, rv b'5, .unset, .unset, .unset, .unset, .unset, .unset, .unset, .unset, .unset, .unset, .unset] [.ref b'0, (.long ((Int32.ofNat r).toInt64)), .ref b'5])) rfl (by rw [hml]; rfl) (Nat.le_of_eq rfl) rfl (hb hby at_208)
 refine goo st'14 ?_
 show own_G _ _ _ _ (T'14.setTop (mkF m 211 #[iv x0, iv x1, iv x2, .val (.long x3), .second, iv (Int32.ofNat n), iv (Int32.ofNat r), iv (own_b2 m1), iv (own_b2 m2), iv (own_b2 m3), iv (own_b2 m4), rv b'0, rv b'5, .unset, .unset, .unset, .unset, .unset, .unset, .unset, .unset, .unset, .unset, .unset] []))
 refine own_join (S' := T'14.setTop (mkF m 233 #[iv x0, iv x1, iv x2, .val (.long x3), .second, iv (Int32.ofNat n), iv (Int32.ofNat r), iv (own_b2 m1), iv (own_b2 m2), iv (own_b2 m3), iv (own_b2 m4), rv b'0, rv b'5, .unset, .unset, .unset, .unset, .unset, .unset, .unset, .unset, .unset, .unset, .unset] [(.int (own_b2 (own_p 1 n m1 r)))])) (fun hj => ?_) ?_
 ·by_cases h1 : n < 1
  ·by_cases h3 : r = 1
   ·refine goo (fun _ k => XS.iload X'14.here hx rfl (hb hby at_211) rfl k) ?_
    refine goo (fun _ k => XS.iconst X'14.here hx rfl (hb hby at_213) <| XS.icmpYes X'14.here hx rfl (pc0 := 214) (pc' := 222) rfl (hb hby at_214) rfl ((tlt (own_n1 (c := 1) h1 (by decide))).1) (by decide) (by decide) <| XS.iload X'14.here hx rfl (hb hby at_222) rfl <| XS.iconst X'14.here hx rfl (hb hby at_224) k) ?_
    refine goo (fun _ k => XS.icmpNo X'14.here hx rfl (hb hby at_225) rfl ((teq (congrArg Int32.ofNat h3)).2) k) ?_
    show own_G _ _ _ _ (T'14.setTop (mkF m 228 #[iv x0, iv x1, iv x2, .val (.long x3), .second, iv (Int32.ofNat n), iv (Int32.ofNat r), iv (own_b2 m1), iv (own_b2 m2), iv (own_b2 m3), iv (own_b2 m4), rv b'0, rv b'5, .unset, .unset, .unset, .unset, .unset, .unset, .unset, .unset, .unset, .unset, .unset] []))
    refine goo (fun _ k => XS.iconst X'14.here hx rfl (hb hby at_228) <| XS.goto X'14.here hx rfl (pc0 := 229) (pc' := 233) rfl (hb hby at_229) (by decide) (by decide) k) ?_
    show own_G _ _ _ _ (T'14.setTop (mkF m 233 #[iv x0, iv x1, iv x2, .val (.long x3), .second, iv (Int32.ofNat n), iv (Int32.ofNat r), iv (own_b2 m1), iv (own_b2 m2), iv (own_b2 m3), iv (own_b2 m4), rv b'0, rv b'5, .unset, .unset, .unset, .unset, .unset, .unset, .unset, .unset, .unset, .unset, .unset] [.int i_1]))
    rw [own_p1 h3] at hj
    exact hj
   ·refine goo (fun _ k => XS.iload X'14.here hx rfl (hb hby at_211) rfl k) ?_
    refine goo (fun _ k => XS.iconst X'14.here hx rfl (hb hby at_213) <| XS.icmpYes X'14.here hx rfl (pc0 := 214) (pc' := 222) rfl (hb hby at_214) rfl ((tlt (own_n1 (c := 1) h1 (by decide))).1) (by decide) (by decide) <| XS.iload X'14.here hx rfl (hb hby at_222) rfl <| XS.iconst X'14.here hx rfl (hb hby at_224) k) ?_
    refine goo (fun _ k => XS.icmpYes X'14.here hx rfl (pc0 := 225) (pc' := 232) rfl (hb hby at_225) rfl ((feq (own_n5 (c := 1) h3 (by omega) (by decide))).2) (by decide) (by decide) k) ?_
    show own_G _ _ _ _ (T'14.setTop (mkF m 232 #[iv x0, iv x1, iv x2, .val (.long x3), .second, iv (Int32.ofNat n), iv (Int32.ofNat r), iv (own_b2 m1), iv (own_b2 m2), iv (own_b2 m3), iv (own_b2 m4), rv b'0, rv b'5, .unset, .unset, .unset, .unset, .unset, .unset, .unset, .unset, .unset, .unset, .unset] []))
    refine goo (fun _ k => XS.iconst X'14.here hx rfl (hb hby at_232) k) ?_
    show own_G _ _ _ _ (T'14.setTop (mkF m 233 #[iv x0, iv x1, iv x2, .val (.long x3), .second, iv (Int32.ofNat n), iv (Int32.ofNat r), iv (own_b2 m1), iv (own_b2 m2), iv (own_b2 m3), iv (own_b2 m4), rv b'0, rv b'5, .unset, .unset, .unset, .unset, .unset, .unset, .unset, .unset, .unset, .unset, .unset] [.int i_0]))
    rw [own_p3 h1 h3] at hj
    exact hj
  ·cases m1
   ·show own_G _ _ _ _ (T'14.setTop (mkF m 211 #[iv x0, iv x1, iv x2, .val (.long x3), .second, iv (Int32.ofNat n), iv (Int32.ofNat r), iv (own_b2 false), iv (own_b2 m2), iv (own_b2 m3), iv (own_b2 m4), rv b'0, rv b'5, .unset, .unset, .unset, .unset, .unset, .unset, .unset, .unset, .unset, .unset, .unset] []))
    refine goo (fun _ k => XS.iload X'14.here hx rfl (hb hby at_211) rfl <| XS.iconst X'14.here hx rfl (hb hby at_213) <| XS.icmpNo X'14.here hx rfl (hb hby at_214) rfl ((flt (own_n2 (c := 1) h1 (by omega))).1) <| XS.iload X'14.here hx rfl (hb hby at_217) rfl k) ?_
    refine goo (fun _ k => XS.ifYes X'14.here hx rfl (pc0 := 219) (pc' := 228) rfl (hb hby at_219) rfl (((if0 _ _).trans (teq (rfl : own_b2 false = i_0)).1)) (by decide) (by decide) <| XS.iconst X'14.here hx rfl (hb hby at_228) k) ?_
    show own_G _ _ _ _ (T'14.setTop (mkF m 229 #[iv x0, iv x1, iv x2, .val (.long x3), .second, iv (Int32.ofNat n), iv (Int32.ofNat r), iv (own_b2 false), iv (own_b2 m2), iv (own_b2 m3), iv (own_b2 m4), rv b'0, rv b'5, .unset, .unset, .unset, .unset, .unset, .unset, .unset, .unset, .unset, .unset, .unset] [.int i_1]))
    refine goo (fun _ k => XS.goto X'14.here hx rfl (pc0 := 229) (pc' := 233) rfl (hb hby at_229) (by decide) (by decide) k) ?_
    show own_G _ _ _ _ (T'14.setTop (mkF m 233 #[iv x0, iv x1, iv x2, .val (.long x3), .second, iv (Int32.ofNat n), iv (Int32.ofNat r), iv (own_b2 false), iv (own_b2 m2), iv (own_b2 m3), iv (own_b2 m4), rv b'0, rv b'5, .unset, .unset, .unset, .unset, .unset, .unset, .unset, .unset, .unset, .unset, .unset] [.int i_1]))
    rw [own_p2 h1] at hj
    exact hj
   ·by_cases h3 : r = 1
    ·show own_G _ _ _ _ (T'14.setTop (mkF m 211 #[iv x0, iv x1, iv x2, .val (.long x3), .second, iv (Int32.ofNat n), iv (Int32.ofNat r), iv (own_b2 true), iv (own_b2 m2), iv (own_b2 m3), iv (own_b2 m4), rv b'0, rv b'5, .unset, .unset, .unset, .unset, .unset, .unset, .unset, .unset, .unset, .unset, .unset] []))
     refine goo (fun _ k => XS.iload X'14.here hx rfl (hb hby at_211) rfl <| XS.iconst X'14.here hx rfl (hb hby at_213) <| XS.icmpNo X'14.here hx rfl (hb hby at_214) rfl ((flt (own_n2 (c := 1) h1 (by omega))).1) <| XS.iload X'14.here hx rfl (hb hby at_217) rfl k) ?_
     refine goo (fun _ k => XS.ifNo X'14.here hx rfl (hb hby at_219) rfl (((if0 _ _).trans (feq (by decide : ¬ own_b2 true = i_0)).1)) <| XS.iload X'14.here hx rfl (hb hby at_222) rfl k) ?_
     show own_G _ _ _ _ (T'14.setTop (mkF m 224 #[iv x0, iv x1, iv x2, .val (.long x3), .second, iv (Int32.ofNat n), iv (Int32.ofNat r), iv (own_b2 true), iv (own_b2 m2), iv (own_b2 m3), iv (own_b2 m4), rv b'0, rv b'5, .unset, .unset, .unset, .unset, .unset, .unset, .unset, .unset, .unset, .unset, .unset] [(.int (Int32.ofNat r))]))
     refine goo (fun _ k => XS.iconst X'14.here hx rfl (hb hby at_224) <| XS.icmpNo X'14.here hx rfl (hb hby at_225) rfl ((teq (congrArg Int32.ofNat h3)).2) <| XS.iconst X'14.here hx rfl (hb hby at_228) <| XS.goto X'14.here hx rfl (pc0 := 229) (pc' := 233) rfl (hb hby at_229) (by decide) (by decide) k) ?_
     show own_G _ _ _ _ (T'14.setTop (mkF m 233 #[iv x0, iv x1, iv x2, .val (.long x3), .second, iv (Int32.ofNat n), iv (Int32.ofNat r), iv (own_b2 true), iv (own_b2 m2), iv (own_b2 m3), iv (own_b2 m4), rv b'0, rv b'5, .unset, .unset, .unset, .unset, .unset, .unset, .unset, .unset, .unset, .unset, .unset] [.int i_1]))
     rw [own_p1 h3] at hj
     exact hj
    ·show own_G _ _ _ _ (T'14.setTop (mkF m 211 #[iv x0, iv x1, iv x2, .val (.long x3), .second, iv (Int32.ofNat n), iv (Int32.ofNat r), iv (own_b2 true), iv (own_b2 m2), iv (own_b2 m3), iv (own_b2 m4), rv b'0, rv b'5, .unset, .unset, .unset, .unset, .unset, .unset, .unset, .unset, .unset, .unset, .unset] []))
     refine goo (fun _ k => XS.iload X'14.here hx rfl (hb hby at_211) rfl <| XS.iconst X'14.here hx rfl (hb hby at_213) <| XS.icmpNo X'14.here hx rfl (hb hby at_214) rfl ((flt (own_n2 (c := 1) h1 (by omega))).1) <| XS.iload X'14.here hx rfl (hb hby at_217) rfl k) ?_
     refine goo (fun _ k => XS.ifNo X'14.here hx rfl (hb hby at_219) rfl (((if0 _ _).trans (feq (by decide : ¬ own_b2 true = i_0)).1)) <| XS.iload X'14.here hx rfl (hb hby at_222) rfl k) ?_
     show own_G _ _ _ _ (T'14.setTop (mkF m 224 #[iv x0, iv x1, iv x2, .val (.long x3), .second, iv (Int32.ofNat n), iv (Int32.ofNat r), iv (own_b2 true), iv (own_b2 m2), iv (own_b2 m3), iv (own_b2 m4), rv b'0, rv b'5, .unset, .unset, .unset, .unset, .unset, .unset, .unset, .unset, .unset, .unset, .unset] [(.int (Int32.ofNat r))]))
     refine goo (fun _ k => XS.iconst X'14.here hx rfl (hb hby at_224) <| XS.icmpYes X'14.here hx rfl (pc0 := 225) (pc' := 232) rfl (hb hby at_225) rfl ((feq (own_n5 (c := 1) h3 (by omega) (by decide))).2) (by decide) (by decide) <| XS.iconst X'14.here hx rfl (hb hby at_232) k) ?_
     show own_G _ _ _ _ (T'14.setTop (mkF m 233 #[iv x0, iv x1, iv x2, .val (.long x3), .second, iv (Int32.ofNat n), iv (Int32.ofNat r), iv (own_b2 true), iv (own_b2 m2), iv (own_b2 m3), iv (own_b2 m4), rv b'0, rv b'5, .unset, .unset, .unset, .unset, .unset, .unset, .unset, .unset, .unset, .unset, .unset] [.int i_0]))
     rw [own_p4 h3] at hj
     exact hj
 show own_G _ _ _ _ (T'14.setTop (mkF m 233 #[iv x0, iv x1, iv x2, .val (.long x3), .second, iv (Int32.ofNat n), iv (Int32.ofNat r), iv (own_b2 m1), iv (own_b2 m2), iv (own_b2 m3), iv (own_b2 m4), rv b'0, rv b'5, .unset, .unset, .unset, .unset, .unset, .unset, .unset, .unset, .unset, .unset, .unset] [(.int (own_b2 (own_p 1 n m1 r)))]))
 refine goo (fun _ k => XS.istore X'14.here hx rfl (hb hby at_233) rfl (l' := #[iv x0, iv x1, iv x2, .val (.long x3), .second, iv (Int32.ofNat n), iv (Int32.ofNat r), iv (own_b2 m1), iv (own_b2 m2), iv (own_b2 m3), iv (own_b2 m4), rv b'0, rv b'5, iv (own_b2 (own_p 1 n m1 r)), .unset, .unset, .unset, .unset, .unset, .unset, .unset, .unset, .unset, .unset]) rfl k) ?_
 refine own_join (S' := T'14.setTop (mkF m 257 #[iv x0, iv x1, iv x2, .val (.long x3), .second, iv (Int32.ofNat n), iv (Int32.ofNat r), iv (own_b2 m1), iv (own_b2 m2), iv (own_b2 m3), iv (own_b2 m4), rv b'0, rv b'5, iv (own_b2 (own_p 1 n m1 r)), .unset, .unset, .unset, .unset, .unset, .unset, .unset, .unset, .unset, .unset] [(.int (own_b2 (own_p 2 n m2 r)))])) (fun hj => ?_) ?_
 ·by_cases h1 : n < 2
  ·by_cases h3 : r = 2
   ·refine goo (fun _ k => XS.iload X'14.here hx rfl (hb hby at_235) rfl k) ?_
    refine goo (fun _ k => XS.iconst X'14.here hx rfl (hb hby at_237) <| XS.icmpYes X'14.here hx rfl (pc0 := 238) (pc' := 246) rfl (hb hby at_238) rfl ((tlt (own_n1 (c := 2) h1 (by decide))).1) (by decide) (by decide) <| XS.iload X'14.here hx rfl (hb hby at_246) rfl <| XS.iconst X'14.here hx rfl (hb hby at_248) k) ?_
    refine goo (fun _ k => XS.icmpNo X'14.here hx rfl (hb hby at_249) rfl ((teq (congrArg Int32.ofNat h3)).2) k) ?_
    show own_G _ _ _ _ (T'14.setTop (mkF m 252 #[iv x0, iv x1, iv x2, .val (.long x3), .second, iv (Int32.ofNat n), iv (Int32.ofNat r), iv (own_b2 m1), iv (own_b2 m2), iv (own_b2 m3), iv (own_b2 m4), rv b'0, rv b'5, iv (own_b2 (own_p 1 n m1 r)), .unset, .unset, .unset, .unset, .unset, .unset, .unset, .unset, .unset, .unset] []))
    refine goo (fun _ k => XS.iconst X'14.here hx rfl (hb hby at_252) <| XS.goto X'14.here hx rfl (pc0 := 253) (pc' := 257) rfl (hb hby at_253) (by decide) (by decide) k) ?_
    show own_G _ _ _ _ (T'14.setTop (mkF m 257 #[iv x0, iv x1, iv x2, .val (.long x3), .second, iv (Int32.ofNat n), iv (Int32.ofNat r), iv (own_b2 m1), iv (own_b2 m2), iv (own_b2 m3), iv (own_b2 m4), rv b'0, rv b'5, iv (own_b2 (own_p 1 n m1 r)), .unset, .unset, .unset, .unset, .unset, .unset, .unset, .unset, .unset, .unset] [.int i_1]))
    rw [own_p1 h3] at hj
    exact hj
   ·refine goo (fun _ k => XS.iload X'14.here hx rfl (hb hby at_235) rfl k) ?_
    refine goo (fun _ k => XS.iconst X'14.here hx rfl (hb hby at_237) <| XS.icmpYes X'14.here hx rfl (pc0 := 238) (pc' := 246) rfl (hb hby at_238) rfl ((tlt (own_n1 (c := 2) h1 (by decide))).1) (by decide) (by decide) <| XS.iload X'14.here hx rfl (hb hby at_246) rfl <| XS.iconst X'14.here hx rfl (hb hby at_248) k) ?_
    refine goo (fun _ k => XS.icmpYes X'14.here hx rfl (pc0 := 249) (pc' := 256) rfl (hb hby at_249) rfl ((feq (own_n5 (c := 2) h3 (by omega) (by decide))).2) (by decide) (by decide) k) ?_
    show own_G _ _ _ _ (T'14.setTop (mkF m 256 #[iv x0, iv x1, iv x2, .val (.long x3), .second, iv (Int32.ofNat n), iv (Int32.ofNat r), iv (own_b2 m1), iv (own_b2 m2), iv (own_b2 m3), iv (own_b2 m4), rv b'0, rv b'5, iv (own_b2 (own_p 1 n m1 r)), .unset, .unset, .unset, .unset, .unset, .unset, .unset, .unset, .unset, .unset] []))
    refine goo (fun _ k => XS.iconst X'14.here hx rfl (hb hby at_256) k) ?_
    show own_G _ _ _ _ (T'14.setTop (mkF m 257 #[iv x0, iv x1, iv x2, .val (.long x3), .second, iv (Int32.ofNat n), iv (Int32.ofNat r), iv (own_b2 m1), iv (own_b2 m2), iv (own_b2 m3), iv (own_b2 m4), rv b'0, rv b'5, iv (own_b2 (own_p 1 n m1 r)), .unset, .unset, .unset, .unset, .unset, .unset, .unset, .unset, .unset, .unset] [.int i_0]))
    rw [own_p3 h1 h3] at hj
    exact hj
  ·cases m2
   ·show own_G _ _ _ _ (T'14.setTop (mkF m 235 #[iv x0, iv x1, iv x2, .val (.long x3), .second, iv (Int32.ofNat n), iv (Int32.ofNat r), iv (own_b2 m1), iv (own_b2 false), iv (own_b2 m3), iv (own_b2 m4), rv b'0, rv b'5, iv (own_b2 (own_p 1 n m1 r)), .unset, .unset, .unset, .unset, .unset, .unset, .unset, .unset, .unset, .unset] []))
    refine goo (fun _ k => XS.iload X'14.here hx rfl (hb hby at_235) rfl <| XS.iconst X'14.here hx rfl (hb hby at_237) <| XS.icmpNo X'14.here hx rfl (hb hby at_238) rfl ((flt (own_n2 (c := 2) h1 (by omega))).1) <| XS.iload X'14.here hx rfl (hb hby at_241) rfl k) ?_
    refine goo (fun _ k => XS.ifYes X'14.here hx rfl (pc0 := 243) (pc' := 252) rfl (hb hby at_243) rfl (((if0 _ _).trans (teq (rfl : own_b2 false = i_0)).1)) (by decide) (by decide) <| XS.iconst X'14.here hx rfl (hb hby at_252) k) ?_
    show own_G _ _ _ _ (T'14.setTop (mkF m 253 #[iv x0, iv x1, iv x2, .val (.long x3), .second, iv (Int32.ofNat n), iv (Int32.ofNat r), iv (own_b2 m1), iv (own_b2 false), iv (own_b2 m3), iv (own_b2 m4), rv b'0, rv b'5, iv (own_b2 (own_p 1 n m1 r)), .unset, .unset, .unset, .unset, .unset, .unset, .unset, .unset, .unset, .unset] [.int i_1]))
    refine goo (fun _ k => XS.goto X'14.here hx rfl (pc0 := 253) (pc' := 257) rfl (hb hby at_253) (by decide) (by decide) k) ?_
    show own_G _ _ _ _ (T'14.setTop (mkF m 257 #[iv x0, iv x1, iv x2, .val (.long x3), .second, iv (Int32.ofNat n), iv (Int32.ofNat r), iv (own_b2 m1), iv (own_b2 false), iv (own_b2 m3), iv (own_b2 m4), rv b'0, rv b'5, iv (own_b2 (own_p 1 n m1 r)), .unset, .unset, .unset, .unset, .unset, .unset, .unset, .unset, .unset, .unset] [.int i_1]))
    rw [own_p2 h1] at hj
    exact hj
   ·by_cases h3 : r = 2
    ·show own_G _ _ _ _ (T'14.setTop (mkF m 235 #[iv x0, iv x1, iv x2, .val (.long x3), .second, iv (Int32.ofNat n), iv (Int32.ofNat r), iv (own_b2 m1), iv (own_b2 true), iv (own_b2 m3), iv (own_b2 m4), rv b'0, rv b'5, iv (own_b2 (own_p 1 n m1 r)), .unset, .unset, .unset, .unset, .unset, .unset, .unset, .unset, .unset, .unset] []))
     refine goo (fun _ k => XS.iload X'14.here hx rfl (hb hby at_235) rfl <| XS.iconst X'14.here hx rfl (hb hby at_237) <| XS.icmpNo X'14.here hx rfl (hb hby at_238) rfl ((flt (own_n2 (c := 2) h1 (by omega))).1) <| XS.iload X'14.here hx rfl (hb hby at_241) rfl k) ?_
     refine goo (fun _ k => XS.ifNo X'14.here hx rfl (hb hby at_243) rfl (((if0 _ _).trans (feq (by decide : ¬ own_b2 true = i_0)).1)) <| XS.iload X'14.here hx rfl (hb hby at_246) rfl k) ?_
     show own_G _ _ _ _ (T'14.setTop (mkF m 248 #[iv x0, iv x1, iv x2, .val (.long x3), .second, iv (Int32.ofNat n), iv (Int32.ofNat r), iv (own_b2 m1), iv (own_b2 true), iv (own_b2 m3), iv (own_b2 m4), rv b'0, rv b'5, iv (own_b2 (own_p 1 n m1 r)), .unset, .unset, .unset, .unset, .unset, .unset, .unset, .unset, .unset, .unset] [(.int (Int32.ofNat r))]))
     refine goo (fun _ k => XS.iconst X'14.here hx rfl (hb hby at_248) <| XS.icmpNo X'14.here hx rfl (hb hby at_249) rfl ((teq (congrArg Int32.ofNat h3)).2) <| XS.iconst X'14.here hx rfl (hb hby at_252) <| XS.goto X'14.here hx rfl (pc0 := 253) (pc' := 257) rfl (hb hby at_253) (by decide) (by decide) k) ?_
     show own_G _ _ _ _ (T'14.setTop (mkF m 257 #[iv x0, iv x1, iv x2, .val (.long x3), .second, iv (Int32.ofNat n), iv (Int32.ofNat r), iv (own_b2 m1), iv (own_b2 true), iv (own_b2 m3), iv (own_b2 m4), rv b'0, rv b'5, iv (own_b2 (own_p 1 n m1 r)), .unset, .unset, .unset, .unset, .unset, .unset, .unset, .unset, .unset, .unset] [.int i_1]))
     rw [own_p1 h3] at hj
     exact hj
    ·show own_G _ _ _ _ (T'14.setTop (mkF m 235 #[iv x0, iv x1, iv x2, .val (.long x3), .second, iv (Int32.ofNat n), iv (Int32.ofNat r), iv (own_b2 m1), iv (own_b2 true), iv (own_b2 m3), iv (own_b2 m4), rv b'0, rv b'5, iv (own_b2 (own_p 1 n m1 r)), .unset, .unset, .unset, .unset, .unset, .unset, .unset, .unset, .unset, .unset] []))
     refine goo (fun _ k => XS.iload X'14.here hx rfl (hb hby at_235) rfl <| XS.iconst X'14.here hx rfl (hb hby at_237) <| XS.icmpNo X'14.here hx rfl (hb hby at_238) rfl ((flt (own_n2 (c := 2) h1 (by omega))).1) <| XS.iload X'14.here hx rfl (hb hby at_241) rfl k) ?_
     refine goo (fun _ k => XS.ifNo X'14.here hx rfl (hb hby at_243) rfl (((if0 _ _).trans (feq (by decide : ¬ own_b2 true = i_0)).1)) <| XS.iload X'14.here hx rfl (hb hby at_246) rfl k) ?_
     show own_G _ _ _ _ (T'14.setTop (mkF m 248 #[iv x0, iv x1, iv x2, .val (.long x3), .second, iv (Int32.ofNat n), iv (Int32.ofNat r), iv (own_b2 m1), iv (own_b2 true), iv (own_b2 m3), iv (own_b2 m4), rv b'0, rv b'5, iv (own_b2 (own_p 1 n m1 r)), .unset, .unset, .unset, .unset, .unset, .unset, .unset, .unset, .unset, .unset] [(.int (Int32.ofNat r))]))
     refine goo (fun _ k => XS.iconst X'14.here hx rfl (hb hby at_248) <| XS.icmpYes X'14.here hx rfl (pc0 := 249) (pc' := 256) rfl (hb hby at_249) rfl ((feq (own_n5 (c := 2) h3 (by omega) (by decide))).2) (by decide) (by decide) <| XS.iconst X'14.here hx rfl (hb hby at_256) k) ?_
     show own_G _ _ _ _ (T'14.setTop (mkF m 257 #[iv x0, iv x1, iv x2, .val (.long x3), .second, iv (Int32.ofNat n), iv (Int32.ofNat r), iv (own_b2 m1), iv (own_b2 true), iv (own_b2 m3), iv (own_b2 m4), rv b'0, rv b'5, iv (own_b2 (own_p 1 n m1 r)), .unset, .unset, .unset, .unset, .unset, .unset, .unset, .unset, .unset, .unset] [.int i_0]))
     rw [own_p4 h3] at hj
     exact hj
 show own_G _ _ _ _ (T'14.setTop (mkF m 257 #[iv x0, iv x1, iv x2, .val (.long x3), .second, iv (Int32.ofNat n), iv (Int32.ofNat r), iv (own_b2 m1), iv (own_b2 m2), iv (own_b2 m3), iv (own_b2 m4), rv b'0, rv b'5, iv (own_b2 (own_p 1 n m1 r)), .unset, .unset, .unset, .unset, .unset, .unset, .unset, .unset, .unset, .unset] [(.int (own_b2 (own_p 2 n m2 r)))]))
 refine goo (fun _ k => XS.istore X'14.here hx rfl (hb hby at_257) rfl (l' := #[iv x0, iv x1, iv x2, .val (.long x3), .second, iv (Int32.ofNat n), iv (Int32.ofNat r), iv (own_b2 m1), iv (own_b2 m2), iv (own_b2 m3), iv (own_b2 m4), rv b'0, rv b'5, iv (own_b2 (own_p 1 n m1 r)), iv (own_b2 (own_p 2 n m2 r)), .unset, .unset, .unset, .unset, .unset, .unset, .unset, .unset, .unset]) rfl k) ?_
 refine own_join (S' := T'14.setTop (mkF m 281 #[iv x0, iv x1, iv x2, .val (.long x3), .second, iv (Int32.ofNat n), iv (Int32.ofNat r), iv (own_b2 m1), iv (own_b2 m2), iv (own_b2 m3), iv (own_b2 m4), rv b'0, rv b'5, iv (own_b2 (own_p 1 n m1 r)), iv (own_b2 (own_p 2 n m2 r)), .unset, .unset, .unset, .unset, .unset, .unset, .unset, .unset, .unset] [(.int (own_b2 (own_p 3 n m3 r)))])) (fun hj => ?_) ?_
 ·by_cases h1 : n < 3
  ·by_cases h3 : r = 3
   ·refine goo (fun _ k => XS.iload X'14.here hx rfl (hb hby at_259) rfl k) ?_
    refine goo (fun _ k => XS.iconst X'14.here hx rfl (hb hby at_261) <| XS.icmpYes X'14.here hx rfl (pc0 := 262) (pc' := 270) rfl (hb hby at_262) rfl ((tlt (own_n1 (c := 3) h1 (by decide))).1) (by decide) (by decide) <| XS.iload X'14.here hx rfl (hb hby at_270) rfl <| XS.iconst X'14.here hx rfl (hb hby at_272) k) ?_
    refine goo (fun _ k => XS.icmpNo X'14.here hx rfl (hb hby at_273) rfl ((teq (congrArg Int32.ofNat h3)).2) k) ?_
    show own_G _ _ _ _ (T'14.setTop (mkF m 276 #[iv x0, iv x1, iv x2, .val (.long x3), .second, iv (Int32.ofNat n), iv (Int32.ofNat r), iv (own_b2 m1), iv (own_b2 m2), iv (own_b2 m3), iv (own_b2 m4), rv b'0, rv b'5, iv (own_b2 (own_p 1 n m1 r)), iv (own_b2 (own_p 2 n m2 r)), .unset, .unset, .unset, .unset, .unset, .unset, .unset, .unset, .unset] []))
    refine goo (fun _ k => XS.iconst X'14.here hx rfl (hb hby at_276) <| XS.goto X'14.here hx rfl (pc0 := 277) (pc' := 281) rfl (hb hby at_277) (by decide) (by decide) k) ?_
    show own_G _ _ _ _ (T'14.setTop (mkF m 281 #[iv x0, iv x1, iv x2, .val (.long x3), .second, iv (Int32.ofNat n), iv (Int32.ofNat r), iv (own_b2 m1), iv (own_b2 m2), iv (own_b2 m3), iv (own_b2 m4), rv b'0, rv b'5, iv (own_b2 (own_p 1 n m1 r)), iv (own_b2 (own_p 2 n m2 r)), .unset, .unset, .unset, .unset, .unset, .unset, .unset, .unset, .unset] [.int i_1]))
    rw [own_p1 h3] at hj
    exact hj
   ·refine goo (fun _ k => XS.iload X'14.here hx rfl (hb hby at_259) rfl k) ?_
    refine goo (fun _ k => XS.iconst X'14.here hx rfl (hb hby at_261) <| XS.icmpYes X'14.here hx rfl (pc0 := 262) (pc' := 270) rfl (hb hby at_262) rfl ((tlt (own_n1 (c := 3) h1 (by decide))).1) (by decide) (by decide) <| XS.iload X'14.here hx rfl (hb hby at_270) rfl <| XS.iconst X'14.here hx rfl (hb hby at_272) k) ?_
    refine goo (fun _ k => XS.icmpYes X'14.here hx rfl (pc0 := 273) (pc' := 280) rfl (hb hby at_273) rfl ((feq (own_n5 (c := 3) h3 (by omega) (by decide))).2) (by decide) (by decide) k) ?_
    show own_G _ _ _ _ (T'14.setTop (mkF m 280 #[iv x0, iv x1, iv x2, .val (.long x3), .second, iv (Int32.ofNat n), iv (Int32.ofNat r), iv (own_b2 m1), iv (own_b2 m2), iv (own_b2 m3), iv (own_b2 m4), rv b'0, rv b'5, iv (own_b2 (own_p 1 n m1 r)), iv (own_b2 (own_p 2 n m2 r)), .unset, .unset, .unset, .unset, .unset, .unset, .unset, .unset, .unset] []))
    refine goo (fun _ k => XS.iconst X'14.here hx rfl (hb hby at_280) k) ?_
    show own_G _ _ _ _ (T'14.setTop (mkF m 281 #[iv x0, iv x1, iv x2, .val (.long x3), .second, iv (Int32.ofNat n), iv (Int32.ofNat r), iv (own_b2 m1), iv (own_b2 m2), iv (own_b2 m3), iv (own_b2 m4), rv b'0, rv b'5, iv (own_b2 (own_p 1 n m1 r)), iv (own_b2 (own_p 2 n m2 r)), .unset, .unset, .unset, .unset, .unset, .unset, .unset, .unset, .unset] [.int i_0]))
    rw [own_p3 h1 h3] at hj
    exact hj
  ·cases m3
   ·show own_G _ _ _ _ (T'14.setTop (mkF m 259 #[iv x0, iv x1, iv x2, .val (.long x3), .second, iv (Int32.ofNat n), iv (Int32.ofNat r), iv (own_b2 m1), iv (own_b2 m2), iv (own_b2 false), iv (own_b2 m4), rv b'0, rv b'5, iv (own_b2 (own_p 1 n m1 r)), iv (own_b2 (own_p 2 n m2 r)), .unset, .unset, .unset, .unset, .unset, .unset, .unset, .unset, .unset] []))
    refine goo (fun _ k => XS.iload X'14.here hx rfl (hb hby at_259) rfl <| XS.iconst X'14.here hx rfl (hb hby at_261) <| XS.icmpNo X'14.here hx rfl (hb hby at_262) rfl ((flt (own_n2 (c := 3) h1 (by omega))).1) <| XS.iload X'14.here hx rfl (hb hby at_265) rfl k) ?_
    refine goo (fun _ k => XS.ifYes X'14.here hx rfl (pc0 := 267) (pc' := 276) rfl (hb hby at_267) rfl (((if0 _ _).trans (teq (rfl : own_b2 false = i_0)).1)) (by decide) (by decide) <| XS.iconst X'14.here hx rfl (hb hby at_276) k) ?_
    show own_G _ _ _ _ (T'14.setTop (mkF m 277 #[iv x0, iv x1, iv x2, .val (.long x3), .second, iv (Int32.ofNat n), iv (Int32.ofNat r), iv (own_b2 m1), iv (own_b2 m2), iv (own_b2 false), iv (own_b2 m4), rv b'0, rv b'5, iv (own_b2 (own_p 1 n m1 r)), iv (own_b2 (own_p 2 n m2 r)), .unset, .unset, .unset, .unset, .unset, .unset, .unset, .unset, .unset] [.int i_1]))
    refine goo (fun _ k => XS.goto X'14.here hx rfl (pc0 := 277) (pc' := 281) rfl (hb hby at_277) (by decide) (by decide) k) ?_
    show own_G _ _ _ _ (T'14.setTop (mkF m 281 #[iv x0, iv x1, iv x2, .val (.long x3), .second, iv (Int32.ofNat n), iv (Int32.ofNat r), iv (own_b2 m1), iv (own_b2 m2), iv (own_b2 false), iv (own_b2 m4), rv b'0, rv b'5, iv (own_b2 (own_p 1 n m1 r)), iv (own_b2 (own_p 2 n m2 r)), .unset, .unset, .unset, .unset, .unset, .unset, .unset, .unset, .unset] [.int i_1]))
    rw [own_p2 h1] at hj
    exact hj
   ·by_cases h3 : r = 3
    ·show own_G _ _ _ _ (T'14.setTop (mkF m 259 #[iv x0, iv x1, iv x2, .val (.long x3), .second, iv (Int32.ofNat n), iv (Int32.ofNat r), iv (own_b2 m1), iv (own_b2 m2), iv (own_b2 true), iv (own_b2 m4), rv b'0, rv b'5, iv (own_b2 (own_p 1 n m1 r)), iv (own_b2 (own_p 2 n m2 r)), .unset, .unset, .unset, .unset, .unset, .unset, .unset, .unset, .unset] []))
     refine goo (fun _ k => XS.iload X'14.here hx rfl (hb hby at_259) rfl <| XS.iconst X'14.here hx rfl (hb hby at_261) <| XS.icmpNo X'14.here hx rfl (hb hby at_262) rfl ((flt (own_n2 (c := 3) h1 (by omega))).1) <| XS.iload X'14.here hx rfl (hb hby at_265) rfl k) ?_
     refine goo (fun _ k => XS.ifNo X'14.here hx rfl (hb hby at_267) rfl (((if0 _ _).trans (feq (by decide : ¬ own_b2 true = i_0)).1)) <| XS.iload X'14.here hx rfl (hb hby at_270) rfl k) ?_
     show own_G _ _ _ _ (T'14.setTop (mkF m 272 #[iv x0, iv x1, iv x2, .val (.long x3), .second, iv (Int32.ofNat n), iv (Int32.ofNat r), iv (own_b2 m1), iv (own_b2 m2), iv (own_b2 true), iv (own_b2 m4), rv b'0, rv b'5, iv (own_b2 (own_p 1 n m1 r)), iv (own_b2 (own_p 2 n m2 r)), .unset, .unset, .unset, .unset, .unset, .unset, .unset, .unset, .unset] [(.int (Int32.ofNat r))]))
     refine goo (fun _ k => XS.iconst X'14.here hx rfl (hb hby at_272) <| XS.icmpNo X'14.here hx rfl (hb hby at_273) rfl ((teq (congrArg Int32.ofNat h3)).2) <| XS.iconst X'14.here hx rfl (hb hby at_276) <| XS.goto X'14.here hx rfl (pc0 := 277) (pc' := 281) rfl (hb hby at_277) (by decide) (by decide) k) ?_
     show own_G _ _ _ _ (T'14.setTop (mkF m 281 #[iv x0, iv x1, iv x2, .val (.long x3), .second, iv (Int32.ofNat n), iv (Int32.ofNat r), iv (own_b2 m1), iv (own_b2 m2), iv (own_b2 true), iv (own_b2 m4), rv b'0, rv b'5, iv (own_b2 (own_p 1 n m1 r)), iv (own_b2 (own_p 2 n m2 r)), .unset, .unset, .unset, .unset, .unset, .unset, .unset, .unset, .unset] [.int i_1]))
     rw [own_p1 h3] at hj
     exact hj
    ·show own_G _ _ _ _ (T'14.setTop (mkF m 259 #[iv x0, iv x1, iv x2, .val (.long x3), .second, iv (Int32.ofNat n), iv (Int32.ofNat r), iv (own_b2 m1), iv (own_b2 m2), iv (own_b2 true), iv (own_b2 m4), rv b'0, rv b'5, iv (own_b2 (own_p 1 n m1 r)), iv (own_b2 (own_p 2 n m2 r)), .unset, .unset, .unset, .unset, .unset, .unset, .unset, .unset, .unset] []))
     refine goo (fun _ k => XS.iload X'14.here hx rfl (hb hby at_259) rfl <| XS.iconst X'14.here hx rfl (hb hby at_261) <| XS.icmpNo X'14.here hx rfl (hb hby at_262) rfl ((flt (own_n2 (c := 3) h1 (by omega))).1) <| XS.iload X'14.here hx rfl (hb hby at_265) rfl k) ?_
     refine goo (fun _ k => XS.ifNo X'14.here hx rfl (hb hby at_267) rfl (((if0 _ _).trans (feq (by decide : ¬ own_b2 true = i_0)).1)) <| XS.iload X'14.here hx rfl (hb hby at_270) rfl k) ?_
     show own_G _ _ _ _ (T'14.setTop (mkF m 272 #[iv x0, iv x1, iv x2, .val (.long x3), .second, iv (Int32.ofNat n), iv (Int32.ofNat r), iv (own_b2 m1), iv (own_b2 m2), iv (own_b2 true), iv (own_b2 m4), rv b'0, rv b'5, iv (own_b2 (own_p 1 n m1 r)), iv (own_b2 (own_p 2 n m2 r)), .unset, .unset, .unset, .unset, .unset, .unset, .unset, .unset, .unset] [(.int (Int32.ofNat r))]))
     refine goo (fun _ k => XS.iconst X'14.here hx rfl (hb hby at_272) <| XS.icmpYes X'14.here hx rfl (pc0 := 273) (pc' := 280) rfl (hb hby at_273) rfl ((feq (own_n5 (c := 3) h3 (by omega) (by decide))).2) (by decide) (by decide) <| XS.iconst X'14.here hx rfl (hb hby at_280) k) ?_
     show own_G _ _ _ _ (T'14.setTop (mkF m 281 #[iv x0, iv x1, iv x2, .val (.long x3), .second, iv (Int32.ofNat n), iv (Int32.ofNat r), iv (own_b2 m1), iv (own_b2 m2), iv (own_b2 true), iv (own_b2 m4), rv b'0, rv b'5, iv (own_b2 (own_p 1 n m1 r)), iv (own_b2 (own_p 2 n m2 r)), .unset, .unset, .unset, .unset, .unset, .unset, .unset, .unset, .unset] [.int i_0]))
     rw [own_p4 h3] at hj
     exact hj
 show own_G _ _ _ _ (T'14.setTop (mkF m 281 #[iv x0, iv x1, iv x2, .val (.long x3), .second, iv (Int32.ofNat n), iv (Int32.ofNat r), iv (own_b2 m1), iv (own_b2 m2), iv (own_b2 m3), iv (own_b2 m4), rv b'0, rv b'5, iv (own_b2 (own_p 1 n m1 r)), iv (own_b2 (own_p 2 n m2 r)), .unset, .unset, .unset, .unset, .unset, .unset, .unset, .unset, .unset] [(.int (own_b2 (own_p 3 n m3 r)))]))
 refine goo (fun _ k => XS.istore X'14.here hx rfl (hb hby at_281) rfl (l' := #[iv x0, iv x1, iv x2, .val (.long x3), .second, iv (Int32.ofNat n), iv (Int32.ofNat r), iv (own_b2 m1), iv (own_b2 m2), iv (own_b2 m3), iv (own_b2 m4), rv b'0, rv b'5, iv (own_b2 (own_p 1 n m1 r)), iv (own_b2 (own_p 2 n m2 r)), iv (own_b2 (own_p 3 n m3 r)), .unset, .unset, .unset, .unset, .unset, .unset, .unset, .unset]) rfl k) ?_
 refine own_join (S' := T'14.setTop (mkF m 305 #[iv x0, iv x1, iv x2, .val (.long x3), .second, iv (Int32.ofNat n), iv (Int32.ofNat r), iv (own_b2 m1), iv (own_b2 m2), iv (own_b2 m3), iv (own_b2 m4), rv b'0, rv b'5, iv (own_b2 (own_p 1 n m1 r)), iv (own_b2 (own_p 2 n m2 r)), iv (own_b2 (own_p 3 n m3 r)), .unset, .unset, .unset, .unset, .unset, .unset, .unset, .unset] [(.int (own_b2 (own_p 4 n m4 r)))])) (fun hj => ?_) ?_
 ·by_cases h1 : n < 4
  ·by_cases h3 : r = 4
   ·refine goo (fun _ k => XS.iload X'14.here hx rfl (hb hby at_283) rfl k) ?_
    refine goo (fun _ k => XS.iconst X'14.here hx rfl (hb hby at_285) <| XS.icmpYes X'14.here hx rfl (pc0 := 286) (pc' := 294) rfl (hb hby at_286) rfl ((tlt (own_n1 (c := 4) h1 (by decide))).1) (by decide) (by decide) <| XS.iload X'14.here hx rfl (hb hby at_294) rfl <| XS.iconst X'14.here hx rfl (hb hby at_296) k) ?_
    refine goo (fun _ k => XS.icmpNo X'14.here hx rfl (hb hby at_297) rfl ((teq (congrArg Int32.ofNat h3)).2) k) ?_
    show own_G _ _ _ _ (T'14.setTop (mkF m 300 #[iv x0, iv x1, iv x2, .val (.long x3), .second, iv (Int32.ofNat n), iv (Int32.ofNat r), iv (own_b2 m1), iv (own_b2 m2), iv (own_b2 m3), iv (own_b2 m4), rv b'0, rv b'5, iv (own_b2 (own_p 1 n m1 r)), iv (own_b2 (own_p 2 n m2 r)), iv (own_b2 (own_p 3 n m3 r)), .unset, .unset, .unset, .unset, .unset, .unset, .unset, .unset] []))
    refine goo (fun _ k => XS.iconst X'14.here hx rfl (hb hby at_300) <| XS.goto X'14.here hx rfl (pc0 := 301) (pc' := 305) rfl (hb hby at_301) (by decide) (by decide) k) ?_
    show own_G _ _ _ _ (T'14.setTop (mkF m 305 #[iv x0, iv x1, iv x2, .val (.long x3), .second, iv (Int32.ofNat n), iv (Int32.ofNat r), iv (own_b2 m1), iv (own_b2 m2), iv (own_b2 m3), iv (own_b2 m4), rv b'0, rv b'5, iv (own_b2 (own_p 1 n m1 r)), iv (own_b2 (own_p 2 n m2 r)), iv (own_b2 (own_p 3 n m3 r)), .unset, .unset, .unset, .unset, .unset, .unset, .unset, .unset] [.int i_1]))
    rw [own_p1 h3] at hj
    exact hj
   ·refine goo (fun _ k => XS.iload X'14.here hx rfl (hb hby at_283) rfl k) ?_
    refine goo (fun _ k => XS.iconst X'14.here hx rfl (hb hby at_285) <| XS.icmpYes X'14.here hx rfl (pc0 := 286) (pc' := 294) rfl (hb hby at_286) rfl ((tlt (own_n1 (c := 4) h1 (by decide))).1) (by decide) (by decide) <| XS.iload X'14.here hx rfl (hb hby at_294) rfl <| XS.iconst X'14.here hx rfl (hb hby at_296) k) ?_
    refine goo (fun _ k => XS.icmpYes X'14.here hx rfl (pc0 := 297) (pc' := 304) rfl (hb hby at_297) rfl ((feq (own_n5 (c := 4) h3 (by omega) (by decide))).2) (by decide) (by decide) k) ?_
    show own_G _ _ _ _ (T'14.setTop (mkF m 304 #[iv x0, iv x1, iv x2, .val (.long x3), .second, iv (Int32.ofNat n), iv (Int32.ofNat r), iv (own_b2 m1), iv (own_b2 m2), iv (own_b2 m3), iv (own_b2 m4), rv b'0, rv b'5, iv (own_b2 (own_p 1 n m1 r)), iv (own_b2 (own_p 2 n m2 r)), iv (own_b2 (own_p 3 n m3 r)), .unset, .unset, .unset, .unset, .unset, .unset, .unset, .unset] []))
    refine goo (fun _ k => XS.iconst X'14.here hx rfl (hb hby at_304) k) ?_
    show own_G _ _ _ _ (T'14.setTop (mkF m 305 #[iv x0, iv x1, iv x2, .val (.long x3), .second, iv (Int32.ofNat n), iv (Int32.ofNat r), iv (own_b2 m1), iv (own_b2 m2), iv (own_b2 m3), iv (own_b2 m4), rv b'0, rv b'5, iv (own_b2 (own_p 1 n m1 r)), iv (own_b2 (own_p 2 n m2 r)), iv (own_b2 (own_p 3 n m3 r)), .unset, .unset, .unset, .unset, .unset, .unset, .unset, .unset] [.int i_0]))
    rw [own_p3 h1 h3] at hj
    exact hj
  ·cases m4
   ·show own_G _ _ _ _ (T'14.setTop (mkF m 283 #[iv x0, iv x1, iv x2, .val (.long x3), .second, iv (Int32.ofNat n), iv (Int32.ofNat r), iv (own_b2 m1), iv (own_b2 m2), iv (own_b2 m3), iv (own_b2 false), rv b'0, rv b'5, iv (own_b2 (own_p 1 n m1 r)), iv (own_b2 (own_p 2 n m2 r)), iv (own_b2 (own_p 3 n m3 r)), .unset, .unset, .unset, .unset, .unset, .unset, .unset, .unset] []))
    refine goo (fun _ k => XS.iload X'14.here hx rfl (hb hby at_283) rfl <| XS.iconst X'14.here hx rfl (hb hby at_285) <| XS.icmpNo X'14.here hx rfl (hb hby at_286) rfl ((flt (own_n2 (c := 4) h1 (by omega))).1) <| XS.iload X'14.here hx rfl (hb hby at_289) rfl k) ?_
    refine goo (fun _ k => XS.ifYes X'14.here hx rfl (pc0 := 291) (pc' := 300) rfl (hb hby at_291) rfl (((if0 _ _).trans (teq (rfl : own_b2 false = i_0)).1)) (by decide) (by decide) <| XS.iconst X'14.here hx rfl (hb hby at_300) k) ?_
    show own_G _ _ _ _ (T'14.setTop (mkF m 301 #[iv x0, iv x1, iv x2, .val (.long x3), .second, iv (Int32.ofNat n), iv (Int32.ofNat r), iv (own_b2 m1), iv (own_b2 m2), iv (own_b2 m3), iv (own_b2 false), rv b'0, rv b'5, iv (own_b2 (own_p 1 n m1 r)), iv (own_b2 (own_p 2 n m2 r)), iv (own_b2 (own_p 3 n m3 r)), .unset, .unset, .unset, .unset, .unset, .unset, .unset, .unset] [.int i_1]))
    refine goo (fun _ k => XS.goto X'14.here hx rfl (pc0 := 301) (pc' := 305) rfl (hb hby at_301) (by decide) (by decide) k) ?_
    show own_G _ _ _ _ (T'14.setTop (mkF m 305 #[iv x0, iv x1, iv x2, .val (.long x3), .second, iv (Int32.ofNat n), iv (Int32.ofNat r), iv (own_b2 m1), iv (own_b2 m2), iv (own_b2 m3), iv (own_b2 false), rv b'0, rv b'5, iv (own_b2 (own_p 1 n m1 r)), iv (own_b2 (own_p 2 n m2 r)), iv (own_b2 (own_p 3 n m3 r)), .unset, .unset, .unset, .unset, .unset, .unset, .unset, .unset] [.int i_1]))
    rw [own_p2 h1] at hj
    exact hj
   ·by_cases h3 : r = 4
    ·show own_G _ _ _ _ (T'14.setTop (mkF m 283 #[iv x0, iv x1, iv x2, .val (.long x3), .second, iv (Int32.ofNat n), iv (Int32.ofNat r), iv (own_b2 m1), iv (own_b2 m2), iv (own_b2 m3), iv (own_b2 true), rv b'0, rv b'5, iv (own_b2 (own_p 1 n m1 r)), iv (own_b2 (own_p 2 n m2 r)), iv (own_b2 (own_p 3 n m3 r)), .unset, .unset, .unset, .unset, .unset, .unset, .unset, .unset] []))
     refine goo (fun _ k => XS.iload X'14.here hx rfl (hb hby at_283) rfl <| XS.iconst X'14.here hx rfl (hb hby at_285) <| XS.icmpNo X'14.here hx rfl (hb hby at_286) rfl ((flt (own_n2 (c := 4) h1 (by omega))).1) <| XS.iload X'14.here hx rfl (hb hby at_289) rfl k) ?_
     refine goo (fun _ k => XS.ifNo X'14.here hx rfl (hb hby at_291) rfl (((if0 _ _).trans (feq (by decide : ¬ own_b2 true = i_0)).1)) <| XS.iload X'14.here hx rfl (hb hby at_294) rfl k) ?_
     show own_G _ _ _ _ (T'14.setTop (mkF m 296 #[iv x0, iv x1, iv x2, .val (.long x3), .second, iv (Int32.ofNat n), iv (Int32.ofNat r), iv (own_b2 m1), iv (own_b2 m2), iv (own_b2 m3), iv (own_b2 true), rv b'0, rv b'5, iv (own_b2 (own_p 1 n m1 r)), iv (own_b2 (own_p 2 n m2 r)), iv (own_b2 (own_p 3 n m3 r)), .unset, .unset, .unset, .unset, .unset, .unset, .unset, .unset] [(.int (Int32.ofNat r))]))
     refine goo (fun _ k => XS.iconst X'14.here hx rfl (hb hby at_296) <| XS.icmpNo X'14.here hx rfl (hb hby at_297) rfl ((teq (congrArg Int32.ofNat h3)).2) <| XS.iconst X'14.here hx rfl (hb hby at_300) <| XS.goto X'14.here hx rfl (pc0 := 301) (pc' := 305) rfl (hb hby at_301) (by decide) (by decide) k) ?_
     show own_G _ _ _ _ (T'14.setTop (mkF m 305 #[iv x0, iv x1, iv x2, .val (.long x3), .second, iv (Int32.ofNat n), iv (Int32.ofNat r), iv (own_b2 m1), iv (own_b2 m2), iv (own_b2 m3), iv (own_b2 true), rv b'0, rv b'5, iv (own_b2 (own_p 1 n m1 r)), iv (own_b2 (own_p 2 n m2 r)), iv (own_b2 (own_p 3 n m3 r)), .unset, .unset, .unset, .unset, .unset, .unset, .unset, .unset] [.int i_1]))
     rw [own_p1 h3] at hj
     exact hj
    ·show own_G _ _ _ _ (T'14.setTop (mkF m 283 #[iv x0, iv x1, iv x2, .val (.long x3), .second, iv (Int32.ofNat n), iv (Int32.ofNat r), iv (own_b2 m1), iv (own_b2 m2), iv (own_b2 m3), iv (own_b2 true), rv b'0, rv b'5, iv (own_b2 (own_p 1 n m1 r)), iv (own_b2 (own_p 2 n m2 r)), iv (own_b2 (own_p 3 n m3 r)), .unset, .unset, .unset, .unset, .unset, .unset, .unset, .unset] []))
     refine goo (fun _ k => XS.iload X'14.here hx rfl (hb hby at_283) rfl <| XS.iconst X'14.here hx rfl (hb hby at_285) <| XS.icmpNo X'14.here hx rfl (hb hby at_286) rfl ((flt (own_n2 (c := 4) h1 (by omega))).1) <| XS.iload X'14.here hx rfl (hb hby at_289) rfl k) ?_
     refine goo (fun _ k => XS.ifNo X'14.here hx rfl (hb hby at_291) rfl (((if0 _ _).trans (feq (by decide : ¬ own_b2 true = i_0)).1)) <| XS.iload X'14.here hx rfl (hb hby at_294) rfl k) ?_
     show own_G _ _ _ _ (T'14.setTop (mkF m 296 #[iv x0, iv x1, iv x2, .val (.long x3), .second, iv (Int32.ofNat n), iv (Int32.ofNat r), iv (own_b2 m1), iv (own_b2 m2), iv (own_b2 m3), iv (own_b2 true), rv b'0, rv b'5, iv (own_b2 (own_p 1 n m1 r)), iv (own_b2 (own_p 2 n m2 r)), iv (own_b2 (own_p 3 n m3 r)), .unset, .unset, .unset, .unset, .unset, .unset, .unset, .unset] [(.int (Int32.ofNat r))]))
     refine goo (fun _ k => XS.iconst X'14.here hx rfl (hb hby at_296) <| XS.icmpYes X'14.here hx rfl (pc0 := 297) (pc' := 304) rfl (hb hby at_297) rfl ((feq (own_n5 (c := 4) h3 (by omega) (by decide))).2) (by decide) (by decide) <| XS.iconst X'14.here hx rfl (hb hby at_304) k) ?_
     show own_G _ _ _ _ (T'14.setTop (mkF m 305 #[iv x0, iv x1, iv x2, .val (.long x3), .second, iv (Int32.ofNat n), iv (Int32.ofNat r), iv (own_b2 m1), iv (own_b2 m2), iv (own_b2 m3), iv (own_b2 true), rv b'0, rv b'5, iv (own_b2 (own_p 1 n m1 r)), iv (own_b2 (own_p 2 n m2 r)), iv (own_b2 (own_p 3 n m3 r)), .unset, .unset, .unset, .unset, .unset, .unset, .unset, .unset] [.int i_0]))
     rw [own_p4 h3] at hj
     exact hj
 show own_G _ _ _ _ (T'14.setTop (mkF m 305 #[iv x0, iv x1, iv x2, .val (.long x3), .second, iv (Int32.ofNat n), iv (Int32.ofNat r), iv (own_b2 m1), iv (own_b2 m2), iv (own_b2 m3), iv (own_b2 m4), rv b'0, rv b'5, iv (own_b2 (own_p 1 n m1 r)), iv (own_b2 (own_p 2 n m2 r)), iv (own_b2 (own_p 3 n m3 r)), .unset, .unset, .unset, .unset, .unset, .unset, .unset, .unset] [(.int (own_b2 (own_p 4 n m4 r)))]))
 refine goo (fun _ k => XS.istore X'14.here hx rfl (hb hby at_305) rfl (l' := #[iv x0, iv x1, iv x2, .val (.long x3), .second, iv (Int32.ofNat n), iv (Int32.ofNat r), iv (own_b2 m1), iv (own_b2 m2), iv (own_b2 m3), iv (own_b2 m4), rv b'0, rv b'5, iv (own_b2 (own_p 1 n m1 r)), iv (own_b2 (own_p 2 n m2 r)), iv (own_b2 (own_p 3 n m3 r)), iv (own_b2 (own_p 4 n m4 r)), .unset, .unset, .unset, .unset, .unset, .unset, .unset]) rfl k) ?_
 show own_G _ _ _ _ (T'14.setTop (mkF m 307 #[iv x0, iv x1, iv x2, .val (.long x3), .second, iv (Int32.ofNat n), iv (Int32.ofNat r), iv (own_b2 m1), iv (own_b2 m2), iv (own_b2 m3), iv (own_b2 m4), rv b'0, rv b'5, iv (own_b2 (own_p 1 n m1 r)), iv (own_b2 (own_p 2 n m2 r)), iv (own_b2 (own_p 3 n m3 r)), iv (own_b2 (own_p 4 n m4 r)), .unset, .unset, .unset, .unset, .unset, .unset, .unset] []))
 refine own_join (S' := T'14.setTop (mkF m 318 #[iv x0, iv x1, iv x2, .val (.long x3), .second, iv (Int32.ofNat n), iv (Int32.ofNat r), iv (own_b2 m1), iv (own_b2 m2), iv (own_b2 m3), iv (own_b2 m4), rv b'0, rv b'5, iv (own_b2 (own_p 1 n m1 r)), iv (own_b2 (own_p 2 n m2 r)), iv (own_b2 (own_p 3 n m3 r)), iv (own_b2 (own_p 4 n m4 r)), .unset, .unset, .unset, .unset, .unset, .unset, .unset] [(.int (own_b2 (decide (r = 5))))])) (fun hj => ?_) ?_
 ·by_cases h3 : r = 5
  ·refine goo (fun _ k => XS.iload X'14.here hx rfl (hb hby at_307) rfl k) ?_
   refine goo (fun _ k => XS.iconst X'14.here hx rfl (hb hby at_309) <| XS.icmpNo X'14.here hx rfl (hb hby at_310) rfl ((teq (congrArg Int32.ofNat h3)).2) <| XS.iconst X'14.here hx rfl (hb hby at_313) <| XS.goto X'14.here hx rfl (pc0 := 314) (pc' := 318) rfl (hb hby at_314) (by decide) (by decide) k) ?_
   show own_G _ _ _ _ (T'14.setTop (mkF m 318 #[iv x0, iv x1, iv x2, .val (.long x3), .second, iv (Int32.ofNat n), iv (Int32.ofNat r), iv (own_b2 m1), iv (own_b2 m2), iv (own_b2 m3), iv (own_b2 m4), rv b'0, rv b'5, iv (own_b2 (own_p 1 n m1 r)), iv (own_b2 (own_p 2 n m2 r)), iv (own_b2 (own_p 3 n m3 r)), iv (own_b2 (own_p 4 n m4 r)), .unset, .unset, .unset, .unset, .unset, .unset, .unset] [.int i_1]))
   rw [decide_eq_true h3] at hj
   exact hj
  ·refine goo (fun _ k => XS.iload X'14.here hx rfl (hb hby at_307) rfl k) ?_
   refine goo (fun _ k => XS.iconst X'14.here hx rfl (hb hby at_309) <| XS.icmpYes X'14.here hx rfl (pc0 := 310) (pc' := 317) rfl (hb hby at_310) rfl ((feq (own_n5 (c := 5) h3 (by omega) (by decide))).2) (by decide) (by decide) <| XS.iconst X'14.here hx rfl (hb hby at_317) k) ?_
   show own_G _ _ _ _ (T'14.setTop (mkF m 318 #[iv x0, iv x1, iv x2, .val (.long x3), .second, iv (Int32.ofNat n), iv (Int32.ofNat r), iv (own_b2 m1), iv (own_b2 m2), iv (own_b2 m3), iv (own_b2 m4), rv b'0, rv b'5, iv (own_b2 (own_p 1 n m1 r)), iv (own_b2 (own_p 2 n m2 r)), iv (own_b2 (own_p 3 n m3 r)), iv (own_b2 (own_p 4 n m4 r)), .unset, .unset, .unset, .unset, .unset, .unset, .unset] [.int i_0]))
   rw [decide_eq_false h3] at hj
   exact hj
 show own_G _ _ _ _ (T'14.setTop (mkF m 318 #[iv x0, iv x1, iv x2, .val (.long x3), .second, iv (Int32.ofNat n), iv (Int32.ofNat r), iv (own_b2 m1), iv (own_b2 m2), iv (own_b2 m3), iv (own_b2 m4), rv b'0, rv b'5, iv (own_b2 (own_p 1 n m1 r)), iv (own_b2 (own_p 2 n m2 r)), iv (own_b2 (own_p 3 n m3 r)), iv (own_b2 (own_p 4 n m4 r)), .unset, .unset, .unset, .unset, .unset, .unset, .unset] [(.int (own_b2 (decide (r = 5))))]))
 refine goo (fun _ k => XS.istore X'14.here hx rfl (hb hby at_318) rfl (l' := #[iv x0, iv x1, iv x2, .val (.long x3), .second, iv (Int32.ofNat n), iv (Int32.ofNat r), iv (own_b2 m1), iv (own_b2 m2), iv (own_b2 m3), iv (own_b2 m4), rv b'0, rv b'5, iv (own_b2 (own_p 1 n m1 r)), iv (own_b2 (own_p 2 n m2 r)), iv (own_b2 (own_p 3 n m3 r)), iv (own_b2 (own_p 4 n m4 r)), iv (own_b2 (decide (r = 5))), .unset, .unset, .unset, .unset, .unset, .unset]) rfl k) ?_
 show own_G _ _ _ _ (T'14.setTop (mkF m 320 #[iv x0, iv x1, iv x2, .val (.long x3), .second, iv (Int32.ofNat n), iv (Int32.ofNat r), iv (own_b2 m1), iv (own_b2 m2), iv (own_b2 m3), iv (own_b2 m4), rv b'0, rv b'5, iv (own_b2 (own_p 1 n m1 r)), iv (own_b2 (own_p 2 n m2 r)), iv (own_b2 (own_p 3 n m3 r)), iv (own_b2 (own_p 4 n m4 r)), iv (own_b2 (decide (r = 5))), .unset, .unset, .unset, .unset, .unset, .unset] []))
 refine own_join (S' := T'14.setTop (mkF m 386 #[iv x0, iv x1, iv x2, .val (.long x3), .second, iv (Int32.ofNat n), iv (Int32.ofNat r), iv (own_b2 m1), iv (own_b2 m2), iv (own_b2 m3), iv (own_b2 m4), rv b'0, rv b'5, iv (own_b2 (own_p 1 n m1 r)), iv (own_b2 (own_p 2 n m2 r)), iv (own_b2 (own_p 3 n m3 r)), iv (own_b2 (own_p 4 n m4 r)), iv (own_b2 (decide (r = 5))), .val (.long (own_ex (own_p 1 n m1 r) (own_p 2 n m2 r) (own_p 3 n m3 r) (own_p 4 n m4 r) (decide (r = 5)))), .second, .unset, .unset, .unset, .unset] [])) (fun hj => ?_) ?_
 ·cases hp1 : own_p 1 n m1 r
  ·show own_G _ _ _ _ (T'14.setTop (mkF m 320 #[iv x0, iv x1, iv x2, .val (.long x3), .second, iv (Int32.ofNat n), iv (Int32.ofNat r), iv (own_b2 m1), iv (own_b2 m2), iv (own_b2 m3), iv (own_b2 m4), rv b'0, rv b'5, iv (own_b2 false), iv (own_b2 (own_p 2 n m2 r)), iv (own_b2 (own_p 3 n m3 r)), iv (own_b2 (own_p 4 n m4 r)), iv (own_b2 (decide (r = 5))), .unset, .unset, .unset, .unset, .unset, .unset] []))
   refine goo (fun _ k => XS.iload X'14.here hx rfl (hb hby at_320) rfl <| XS.ifNo X'14.here hx rfl (hb hby at_322) rfl (((if0 _ _).trans (teq (rfl : own_b2 false = i_0)).2)) <| XS.lconst X'14.here hx rfl (hb hby at_325) <| XS.lstore X'14.here hx rfl (hb hby at_326) rfl (l' := #[iv x0, iv x1, iv x2, .val (.long x3), .second, iv (Int32.ofNat n), iv (Int32.ofNat r), iv (own_b2 m1), iv (own_b2 m2), iv (own_b2 m3), iv (own_b2 m4), rv b'0, rv b'5, iv (own_b2 false), iv (own_b2 (own_p 2 n m2 r)), iv (own_b2 (own_p 3 n m3 r)), iv (own_b2 (own_p 4 n m4 r)), iv (own_b2 (decide (r = 5))), .val (.long (0 : Int64)), .second, .unset, .unset, .unset, .unset]) rfl k) ?_
   refine goo (fun _ k => XS.goto X'14.here hx rfl (pc0 := 328) (pc' := 386) rfl (hb hby at_328) (by decide) (by decide) k) ?_
   show own_G _ _ _ _ (T'14.setTop (mkF m 386 #[iv x0, iv x1, iv x2, .val (.long x3), .second, iv (Int32.ofNat n), iv (Int32.ofNat r), iv (own_b2 m1), iv (own_b2 m2), iv (own_b2 m3), iv (own_b2 m4), rv b'0, rv b'5, iv (own_b2 false), iv (own_b2 (own_p 2 n m2 r)), iv (own_b2 (own_p 3 n m3 r)), iv (own_b2 (own_p 4 n m4 r)), iv (own_b2 (decide (r = 5))), .val (.long (0 : Int64)), .second, .unset, .unset, .unset, .unset] []))
   rw [hp1] at hj
   exact hj
  ·show own_G _ _ _ _ (T'14.setTop (mkF m 320 #[iv x0, iv x1, iv x2, .val (.long x3), .second, iv (Int32.ofNat n), iv (Int32.ofNat r), iv (own_b2 m1), iv (own_b2 m2), iv (own_b2 m3), iv (own_b2 m4), rv b'0, rv b'5, iv (own_b2 true), iv (own_b2 (own_p 2 n m2 r)), iv (own_b2 (own_p 3 n m3 r)), iv (own_b2 (own_p 4 n m4 r)), iv (own_b2 (decide (r = 5))), .unset, .unset, .unset, .unset, .unset, .unset] []))
   refine goo (fun _ k => XS.iload X'14.here hx rfl (hb hby at_320) rfl <| XS.ifYes X'14.here hx rfl (pc0 := 322) (pc' := 331) rfl (hb hby at_322) rfl (((if0 _ _).trans (feq (by decide : ¬ own_b2 true = i_0)).2)) (by decide) (by decide) k) ?_
   show own_G _ _ _ _ (T'14.setTop (mkF m 331 #[iv x0, iv x1, iv x2, .val (.long x3), .second, iv (Int32.ofNat n), iv (Int32.ofNat r), iv (own_b2 m1), iv (own_b2 m2), iv (own_b2 m3), iv (own_b2 m4), rv b'0, rv b'5, iv (own_b2 true), iv (own_b2 (own_p 2 n m2 r)), iv (own_b2 (own_p 3 n m3 r)), iv (own_b2 (own_p 4 n m4 r)), iv (own_b2 (decide (r = 5))), .unset, .unset, .unset, .unset, .unset, .unset] []))
   cases hp2 : own_p 2 n m2 r
   ·show own_G _ _ _ _ (T'14.setTop (mkF m 331 #[iv x0, iv x1, iv x2, .val (.long x3), .second, iv (Int32.ofNat n), iv (Int32.ofNat r), iv (own_b2 m1), iv (own_b2 m2), iv (own_b2 m3), iv (own_b2 m4), rv b'0, rv b'5, iv (own_b2 true), iv (own_b2 false), iv (own_b2 (own_p 3 n m3 r)), iv (own_b2 (own_p 4 n m4 r)), iv (own_b2 (decide (r = 5))), .unset, .unset, .unset, .unset, .unset, .unset] []))
    refine goo (fun _ k => XS.iload X'14.here hx rfl (hb hby at_331) rfl <| XS.ifNo X'14.here hx rfl (hb hby at_333) rfl (((if0 _ _).trans (teq (rfl : own_b2 false = i_0)).2)) <| XS.lconst X'14.here hx rfl (hb hby at_336) <| XS.lstore X'14.here hx rfl (hb hby at_337) rfl (l' := #[iv x0, iv x1, iv x2, .val (.long x3), .second, iv (Int32.ofNat n), iv (Int32.ofNat r), iv (own_b2 m1), iv (own_b2 m2), iv (own_b2 m3), iv (own_b2 m4), rv b'0, rv b'5, iv (own_b2 true), iv (own_b2 false), iv (own_b2 (own_p 3 n m3 r)), iv (own_b2 (own_p 4 n m4 r)), iv (own_b2 (decide (r = 5))), .val (.long (1 : Int64)), .second, .unset, .unset, .unset, .unset]) rfl k) ?_
    refine goo (fun _ k => XS.goto X'14.here hx rfl (pc0 := 339) (pc' := 386) rfl (hb hby at_339) (by decide) (by decide) k) ?_
    show own_G _ _ _ _ (T'14.setTop (mkF m 386 #[iv x0, iv x1, iv x2, .val (.long x3), .second, iv (Int32.ofNat n), iv (Int32.ofNat r), iv (own_b2 m1), iv (own_b2 m2), iv (own_b2 m3), iv (own_b2 m4), rv b'0, rv b'5, iv (own_b2 true), iv (own_b2 false), iv (own_b2 (own_p 3 n m3 r)), iv (own_b2 (own_p 4 n m4 r)), iv (own_b2 (decide (r = 5))), .val (.long (1 : Int64)), .second, .unset, .unset, .unset, .unset] []))
    rw [hp1, hp2] at hj
    exact hj
   ·show own_G _ _ _ _ (T'14.setTop (mkF m 331 #[iv x0, iv x1, iv x2, .val (.long x3), .second, iv (Int32.ofNat n), iv (Int32.ofNat r), iv (own_b2 m1), iv (own_b2 m2), iv (own_b2 m3), iv (own_b2 m4), rv b'0, rv b'5, iv (own_b2 true), iv (own_b2 true), iv (own_b2 (own_p 3 n m3 r)), iv (own_b2 (own_p 4 n m4 r)), iv (own_b2 (decide (r = 5))), .unset, .unset, .unset, .unset, .unset, .unset] []))
    refine goo (fun _ k => XS.iload X'14.here hx rfl (hb hby at_331) rfl <| XS.ifYes X'14.here hx rfl (pc0 := 333) (pc' := 342) rfl (hb hby at_333) rfl (((if0 _ _).trans (feq (by decide : ¬ own_b2 true = i_0)).2)) (by decide) (by decide) k) ?_
    show own_G _ _ _ _ (T'14.setTop (mkF m 342 #[iv x0, iv x1, iv x2, .val (.long x3), .second, iv (Int32.ofNat n), iv (Int32.ofNat r), iv (own_b2 m1), iv (own_b2 m2), iv (own_b2 m3), iv (own_b2 m4), rv b'0, rv b'5, iv (own_b2 true), iv (own_b2 true), iv (own_b2 (own_p 3 n m3 r)), iv (own_b2 (own_p 4 n m4 r)), iv (own_b2 (decide (r = 5))), .unset, .unset, .unset, .unset, .unset, .unset] []))
    cases hp3 : own_p 3 n m3 r
    ·show own_G _ _ _ _ (T'14.setTop (mkF m 342 #[iv x0, iv x1, iv x2, .val (.long x3), .second, iv (Int32.ofNat n), iv (Int32.ofNat r), iv (own_b2 m1), iv (own_b2 m2), iv (own_b2 m3), iv (own_b2 m4), rv b'0, rv b'5, iv (own_b2 true), iv (own_b2 true), iv (own_b2 false), iv (own_b2 (own_p 4 n m4 r)), iv (own_b2 (decide (r = 5))), .unset, .unset, .unset, .unset, .unset, .unset] []))
     refine goo (fun _ k => XS.iload X'14.here hx rfl (hb hby at_342) rfl <| XS.ifNo X'14.here hx rfl (hb hby at_344) rfl (((if0 _ _).trans (teq (rfl : own_b2 false = i_0)).2)) k) ?_
     refine goo (fun _ k => X'14.ldc2Long hx hown (mvT hZ (qw hw 42 rfl)) (g := (mkF m 347 #[iv x0, iv x1, iv x2, .val (.long x3), .second, iv (Int32.ofNat n), iv (Int32.ofNat r), iv (own_b2 m1), iv (own_b2 m2), iv (own_b2 m3), iv (own_b2 m4), rv b'0, rv b'5, iv (own_b2 true), iv (own_b2 true), iv (own_b2 false), iv (own_b2 (own_p 4 n m4 r)), iv (own_b2 (decide (r = 5))), .unset, .unset, .unset, .unset, .unset, .unset] [])) rfl (hb hby at_347) _ k) ?_
     refine goo (fun _ k => XS.lstore X'14.here hx rfl (hb hby at_350) rfl (l' := #[iv x0, iv x1, iv x2, .val (.long x3), .second, iv (Int32.ofNat n), iv (Int32.ofNat r), iv (own_b2 m1), iv (own_b2 m2), iv (own_b2 m3), iv (own_b2 m4), rv b'0, rv b'5, iv (own_b2 true), iv (own_b2 true), iv (own_b2 false), iv (own_b2 (own_p 4 n m4 r)), iv (own_b2 (decide (r = 5))), .val (.long (2 : Int64)), .second, .unset, .unset, .unset, .unset]) rfl <| XS.goto X'14.here hx rfl (pc0 := 352) (pc' := 386) rfl (hb hby at_352) (by decide) (by decide) k) ?_
     show own_G _ _ _ _ (T'14.setTop (mkF m 386 #[iv x0, iv x1, iv x2, .val (.long x3), .second, iv (Int32.ofNat n), iv (Int32.ofNat r), iv (own_b2 m1), iv (own_b2 m2), iv (own_b2 m3), iv (own_b2 m4), rv b'0, rv b'5, iv (own_b2 true), iv (own_b2 true), iv (own_b2 false), iv (own_b2 (own_p 4 n m4 r)), iv (own_b2 (decide (r = 5))), .val (.long (2 : Int64)), .second, .unset, .unset, .unset, .unset] []))
     rw [hp1, hp2, hp3] at hj
     exact hj
    ·show own_G _ _ _ _ (T'14.setTop (mkF m 342 #[iv x0, iv x1, iv x2, .val (.long x3), .second, iv (Int32.ofNat n), iv (Int32.ofNat r), iv (own_b2 m1), iv (own_b2 m2), iv (own_b2 m3), iv (own_b2 m4), rv b'0, rv b'5, iv (own_b2 true), iv (own_b2 true), iv (own_b2 true), iv (own_b2 (own_p 4 n m4 r)), iv (own_b2 (decide (r = 5))), .unset, .unset, .unset, .unset, .unset, .unset] []))
     refine goo (fun _ k => XS.iload X'14.here hx rfl (hb hby at_342) rfl <| XS.ifYes X'14.here hx rfl (pc0 := 344) (pc' := 355) rfl (hb hby at_344) rfl (((if0 _ _).trans (feq (by decide : ¬ own_b2 true = i_0)).2)) (by decide) (by decide) k) ?_
     show own_G _ _ _ _ (T'14.setTop (mkF m 355 #[iv x0, iv x1, iv x2, .val (.long x3), .second, iv (Int32.ofNat n), iv (Int32.ofNat r), iv (own_b2 m1), iv (own_b2 m2), iv (own_b2 m3), iv (own_b2 m4), rv b'0, rv b'5, iv (own_b2 true), iv (own_b2 true), iv (own_b2 true), iv (own_b2 (own_p 4 n m4 r)), iv (own_b2 (decide (r = 5))), .unset, .unset, .unset, .unset, .unset, .unset] []))
     cases hp4 : own_p 4 n m4 r
     ·show own_G _ _ _ _ (T'14.setTop (mkF m 355 #[iv x0, iv x1, iv x2, .val (.long x3), .second, iv (Int32.ofNat n), iv (Int32.ofNat r), iv (own_b2 m1), iv (own_b2 m2), iv (own_b2 m3), iv (own_b2 m4), rv b'0, rv b'5, iv (own_b2 true), iv (own_b2 true), iv (own_b2 true), iv (own_b2 false), iv (own_b2 (decide (r = 5))), .unset, .unset, .unset, .unset, .unset, .unset] []))
      refine goo (fun _ k => XS.iload X'14.here hx rfl (hb hby at_355) rfl <| XS.ifNo X'14.here hx rfl (hb hby at_357) rfl (((if0 _ _).trans (teq (rfl : own_b2 false = i_0)).2)) k) ?_
      refine goo (fun _ k => X'14.ldc2Long hx hown (mvT hZ (qw hw 192 rfl)) (g := (mkF m 360 #[iv x0, iv x1, iv x2, .val (.long x3), .second, iv (Int32.ofNat n), iv (Int32.ofNat r), iv (own_b2 m1), iv (own_b2 m2), iv (own_b2 m3), iv (own_b2 m4), rv b'0, rv b'5, iv (own_b2 true), iv (own_b2 true), iv (own_b2 true), iv (own_b2 false), iv (own_b2 (decide (r = 5))), .unset, .unset, .unset, .unset, .unset, .unset] [])) rfl (hb hby at_360) _ k) ?_
      refine goo (fun _ k => XS.lstore X'14.here hx rfl (hb hby at_363) rfl (l' := #[iv x0, iv x1, iv x2, .val (.long x3), .second, iv (Int32.ofNat n), iv (Int32.ofNat r), iv (own_b2 m1), iv (own_b2 m2), iv (own_b2 m3), iv (own_b2 m4), rv b'0, rv b'5, iv (own_b2 true), iv (own_b2 true), iv (own_b2 true), iv (own_b2 false), iv (own_b2 (decide (r = 5))), .val (.long (3 : Int64)), .second, .unset, .unset, .unset, .unset]) rfl <| XS.goto X'14.here hx rfl (pc0 := 365) (pc' := 386) rfl (hb hby at_365) (by decide) (by decide) k) ?_
      show own_G _ _ _ _ (T'14.setTop (mkF m 386 #[iv x0, iv x1, iv x2, .val (.long x3), .second, iv (Int32.ofNat n), iv (Int32.ofNat r), iv (own_b2 m1), iv (own_b2 m2), iv (own_b2 m3), iv (own_b2 m4), rv b'0, rv b'5, iv (own_b2 true), iv (own_b2 true), iv (own_b2 true), iv (own_b2 false), iv (own_b2 (decide (r = 5))), .val (.long (3 : Int64)), .second, .unset, .unset, .unset, .unset] []))
      rw [hp1, hp2, hp3, hp4] at hj
      exact hj
     ·show own_G _ _ _ _ (T'14.setTop (mkF m 355 #[iv x0, iv x1, iv x2, .val (.long x3), .second, iv (Int32.ofNat n), iv (Int32.ofNat r), iv (own_b2 m1), iv (own_b2 m2), iv (own_b2 m3), iv (own_b2 m4), rv b'0, rv b'5, iv (own_b2 true), iv (own_b2 true), iv (own_b2 true), iv (own_b2 true), iv (own_b2 (decide (r = 5))), .unset, .unset, .unset, .unset, .unset, .unset] []))
      refine goo (fun _ k => XS.iload X'14.here hx rfl (hb hby at_355) rfl <| XS.ifYes X'14.here hx rfl (pc0 := 357) (pc' := 368) rfl (hb hby at_357) rfl (((if0 _ _).trans (feq (by decide : ¬ own_b2 true = i_0)).2)) (by decide) (by decide) k) ?_
      show own_G _ _ _ _ (T'14.setTop (mkF m 368 #[iv x0, iv x1, iv x2, .val (.long x3), .second, iv (Int32.ofNat n), iv (Int32.ofNat r), iv (own_b2 m1), iv (own_b2 m2), iv (own_b2 m3), iv (own_b2 m4), rv b'0, rv b'5, iv (own_b2 true), iv (own_b2 true), iv (own_b2 true), iv (own_b2 true), iv (own_b2 (decide (r = 5))), .unset, .unset, .unset, .unset, .unset, .unset] []))
      cases hp5 : decide (r = 5)
      ·show own_G _ _ _ _ (T'14.setTop (mkF m 368 #[iv x0, iv x1, iv x2, .val (.long x3), .second, iv (Int32.ofNat n), iv (Int32.ofNat r), iv (own_b2 m1), iv (own_b2 m2), iv (own_b2 m3), iv (own_b2 m4), rv b'0, rv b'5, iv (own_b2 true), iv (own_b2 true), iv (own_b2 true), iv (own_b2 true), iv (own_b2 false), .unset, .unset, .unset, .unset, .unset, .unset] []))
       refine goo (fun _ k => XS.iload X'14.here hx rfl (hb hby at_368) rfl <| XS.ifNo X'14.here hx rfl (hb hby at_370) rfl (((if0 _ _).trans (teq (rfl : own_b2 false = i_0)).2)) k) ?_
       refine goo (fun _ k => X'14.ldc2Long hx hown (mvT hZ (qw hw 193 rfl)) (g := (mkF m 373 #[iv x0, iv x1, iv x2, .val (.long x3), .second, iv (Int32.ofNat n), iv (Int32.ofNat r), iv (own_b2 m1), iv (own_b2 m2), iv (own_b2 m3), iv (own_b2 m4), rv b'0, rv b'5, iv (own_b2 true), iv (own_b2 true), iv (own_b2 true), iv (own_b2 true), iv (own_b2 false), .unset, .unset, .unset, .unset, .unset, .unset] [])) rfl (hb hby at_373) _ k) ?_
       refine goo (fun _ k => XS.lstore X'14.here hx rfl (hb hby at_376) rfl (l' := #[iv x0, iv x1, iv x2, .val (.long x3), .second, iv (Int32.ofNat n), iv (Int32.ofNat r), iv (own_b2 m1), iv (own_b2 m2), iv (own_b2 m3), iv (own_b2 m4), rv b'0, rv b'5, iv (own_b2 true), iv (own_b2 true), iv (own_b2 true), iv (own_b2 true), iv (own_b2 false), .val (.long (4 : Int64)), .second, .unset, .unset, .unset, .unset]) rfl <| XS.goto X'14.here hx rfl (pc0 := 378) (pc' := 386) rfl (hb hby at_378) (by decide) (by decide) k) ?_
       show own_G _ _ _ _ (T'14.setTop (mkF m 386 #[iv x0, iv x1, iv x2, .val (.long x3), .second, iv (Int32.ofNat n), iv (Int32.ofNat r), iv (own_b2 m1), iv (own_b2 m2), iv (own_b2 m3), iv (own_b2 m4), rv b'0, rv b'5, iv (own_b2 true), iv (own_b2 true), iv (own_b2 true), iv (own_b2 true), iv (own_b2 false), .val (.long (4 : Int64)), .second, .unset, .unset, .unset, .unset] []))
       rw [hp1, hp2, hp3, hp4, hp5] at hj
       exact hj
      ·show own_G _ _ _ _ (T'14.setTop (mkF m 368 #[iv x0, iv x1, iv x2, .val (.long x3), .second, iv (Int32.ofNat n), iv (Int32.ofNat r), iv (own_b2 m1), iv (own_b2 m2), iv (own_b2 m3), iv (own_b2 m4), rv b'0, rv b'5, iv (own_b2 true), iv (own_b2 true), iv (own_b2 true), iv (own_b2 true), iv (own_b2 true), .unset, .unset, .unset, .unset, .unset, .unset] []))
       refine goo (fun _ k => XS.iload X'14.here hx rfl (hb hby at_368) rfl <| XS.ifYes X'14.here hx rfl (pc0 := 370) (pc' := 381) rfl (hb hby at_370) rfl (((if0 _ _).trans (feq (by decide : ¬ own_b2 true = i_0)).2)) (by decide) (by decide) k) ?_
       refine goo (fun _ k => X'14.ldc2Long hx hown (mvT hZ (qw hw 194 rfl)) (g := (mkF m 381 #[iv x0, iv x1, iv x2, .val (.long x3), .second, iv (Int32.ofNat n), iv (Int32.ofNat r), iv (own_b2 m1), iv (own_b2 m2), iv (own_b2 m3), iv (own_b2 m4), rv b'0, rv b'5, iv (own_b2 true), iv (own_b2 true), iv (own_b2 true), iv (own_b2 true), iv (own_b2 true), .unset, .unset, .unset, .unset, .unset, .unset] [])) rfl (hb hby at_381) _ k) ?_
       refine goo (fun _ k => XS.lstore X'14.here hx rfl (hb hby at_384) rfl (l' := #[iv x0, iv x1, iv x2, .val (.long x3), .second, iv (Int32.ofNat n), iv (Int32.ofNat r), iv (own_b2 m1), iv (own_b2 m2), iv (own_b2 m3), iv (own_b2 m4), rv b'0, rv b'5, iv (own_b2 true), iv (own_b2 true), iv (own_b2 true), iv (own_b2 true), iv (own_b2 true), .val (.long (5 : Int64)), .second, .unset, .unset, .unset, .unset]) rfl k) ?_
       show own_G _ _ _ _ (T'14.setTop (mkF m 386 #[iv x0, iv x1, iv x2, .val (.long x3), .second, iv (Int32.ofNat n), iv (Int32.ofNat r), iv (own_b2 m1), iv (own_b2 m2), iv (own_b2 m3), iv (own_b2 m4), rv b'0, rv b'5, iv (own_b2 true), iv (own_b2 true), iv (own_b2 true), iv (own_b2 true), iv (own_b2 true), .val (.long (5 : Int64)), .second, .unset, .unset, .unset, .unset] []))
       rw [hp1, hp2, hp3, hp4, hp5] at hj
       exact hj
 show own_G _ _ _ _ (T'14.setTop (mkF m 386 #[iv x0, iv x1, iv x2, .val (.long x3), .second, iv (Int32.ofNat n), iv (Int32.ofNat r), iv (own_b2 m1), iv (own_b2 m2), iv (own_b2 m3), iv (own_b2 m4), rv b'0, rv b'5, iv (own_b2 (own_p 1 n m1 r)), iv (own_b2 (own_p 2 n m2 r)), iv (own_b2 (own_p 3 n m3 r)), iv (own_b2 (own_p 4 n m4 r)), iv (own_b2 (decide (r = 5))), .val (.long (own_ex (own_p 1 n m1 r) (own_p 2 n m2 r) (own_p 3 n m3 r) (own_p 4 n m4 r) (decide (r = 5)))), .second, .unset, .unset, .unset, .unset] []))
 refine goo (fun _ k => XS.aload X'14.here hx rfl (hb hby at_386) rfl rfl k) ?_
 show own_G _ _ _ _ (T'14.setTop (mkF m 388 #[iv x0, iv x1, iv x2, .val (.long x3), .second, iv (Int32.ofNat n), iv (Int32.ofNat r), iv (own_b2 m1), iv (own_b2 m2), iv (own_b2 m3), iv (own_b2 m4), rv b'0, rv b'5, iv (own_b2 (own_p 1 n m1 r)), iv (own_b2 (own_p 2 n m2 r)), iv (own_b2 (own_p 3 n m3 r)), iv (own_b2 (own_p 4 n m4 r)), iv (own_b2 (decide (r = 5))), .val (.long (own_ex (own_p 1 n m1 r) (own_p 2 n m2 r) (own_p 3 n m3 r) (own_p 4 n m4 r) (decide (r = 5)))), .second, .unset, .unset, .unset, .unset] [.ref b'5]))
 obtain ⟨T'15, L'15, X'15, J2145, st'15⟩ := own_dfb X'14 hx hZ hw hown (S := (own_put r (own_cl4 n m1 m2 m3 m4))) J2144 hlaw.2.2 (by decide) (by decide) (g := (mkF m 388 #[iv x0, iv x1, iv x2, .val (.long x3), .second, iv (Int32.ofNat n), iv (Int32.ofNat r), iv (own_b2 m1), iv (own_b2 m2), iv (own_b2 m3), iv (own_b2 m4), rv b'0, rv b'5, iv (own_b2 (own_p 1 n m1 r)), iv (own_b2 (own_p 2 n m2 r)), iv (own_b2 (own_p 3 n m3 r)), iv (own_b2 (own_p 4 n m4 r)), iv (own_b2 (decide (r = 5))), .val (.long (own_ex (own_p 1 n m1 r) (own_p 2 n m2 r) (own_p 3 n m3 r) (own_p 4 n m4 r) (decide (r = 5)))), .second, .unset, .unset, .unset, .unset] [.ref b'5])) rfl (by rw [hml]; rfl) (Nat.le_of_eq rfl) rfl (hb hby at_388)
 refine goo st'15 ?_
 show own_G _ _ _ _ (T'15.setTop (mkF m 391 #[iv x0, iv x1, iv x2, .val (.long x3), .second, iv (Int32.ofNat n), iv (Int32.ofNat r), iv (own_b2 m1), iv (own_b2 m2), iv (own_b2 m3), iv (own_b2 m4), rv b'0, rv b'5, iv (own_b2 (own_p 1 n m1 r)), iv (own_b2 (own_p 2 n m2 r)), iv (own_b2 (own_p 3 n m3 r)), iv (own_b2 (own_p 4 n m4 r)), iv (own_b2 (decide (r = 5))), .val (.long (own_ex (own_p 1 n m1 r) (own_p 2 n m2 r) (own_p 3 n m3 r) (own_p 4 n m4 r) (decide (r = 5)))), .second, .unset, .unset, .unset, .unset] [(.long ((Int32.ofNat (own_fbv (own_put r (own_cl4 n m1 m2 m3 m4)))).toInt64))]))
 refine goo (fun _ k => XS.lstore X'15.here hx rfl (hb hby at_391) rfl (l' := #[iv x0, iv x1, iv x2, .val (.long x3), .second, iv (Int32.ofNat n), iv (Int32.ofNat r), iv (own_b2 m1), iv (own_b2 m2), iv (own_b2 m3), iv (own_b2 m4), rv b'0, rv b'5, iv (own_b2 (own_p 1 n m1 r)), iv (own_b2 (own_p 2 n m2 r)), iv (own_b2 (own_p 3 n m3 r)), iv (own_b2 (own_p 4 n m4 r)), iv (own_b2 (decide (r = 5))), .val (.long (own_ex (own_p 1 n m1 r) (own_p 2 n m2 r) (own_p 3 n m3 r) (own_p 4 n m4 r) (decide (r = 5)))), .second, .val (.long ((Int32.ofNat (own_fbv (own_put r (own_cl4 n m1 m2 m3 m4)))).toInt64)), .second, .unset, .unset]) rfl <| XS.aload X'15.here hx rfl (hb hby at_393) rfl rfl k) ?_
 show own_G _ _ _ _ (T'15.setTop (mkF m 395 #[iv x0, iv x1, iv x2, .val (.long x3), .second, iv (Int32.ofNat n), iv (Int32.ofNat r), iv (own_b2 m1), iv (own_b2 m2), iv (own_b2 m3), iv (own_b2 m4), rv b'0, rv b'5, iv (own_b2 (own_p 1 n m1 r)), iv (own_b2 (own_p 2 n m2 r)), iv (own_b2 (own_p 3 n m3 r)), iv (own_b2 (own_p 4 n m4 r)), iv (own_b2 (decide (r = 5))), .val (.long (own_ex (own_p 1 n m1 r) (own_p 2 n m2 r) (own_p 3 n m3 r) (own_p 4 n m4 r) (decide (r = 5)))), .second, .val (.long ((Int32.ofNat (own_fbv (own_put r (own_cl4 n m1 m2 m3 m4)))).toInt64)), .second, .unset, .unset] [.ref b'5]))
 obtain ⟨T'16, L'16, X'16, J2146, st'16⟩ := own_dfb X'15 hx hZ hw hown (S := (own_fbs (own_put r (own_cl4 n m1 m2 m3 m4)))) J2145 hlaw.2.2 (by decide) (by decide) (g := (mkF m 395 #[iv x0, iv x1, iv x2, .val (.long x3), .second, iv (Int32.ofNat n), iv (Int32.ofNat r), iv (own_b2 m1), iv (own_b2 m2), iv (own_b2 m3), iv (own_b2 m4), rv b'0, rv b'5, iv (own_b2 (own_p 1 n m1 r)), iv (own_b2 (own_p 2 n m2 r)), iv (own_b2 (own_p 3 n m3 r)), iv (own_b2 (own_p 4 n m4 r)), iv (own_b2 (decide (r = 5))), .val (.long (own_ex (own_p 1 n m1 r) (own_p 2 n m2 r) (own_p 3 n m3 r) (own_p 4 n m4 r) (decide (r = 5)))), .second, .val (.long ((Int32.ofNat (own_fbv (own_put r (own_cl4 n m1 m2 m3 m4)))).toInt64)), .second, .unset, .unset] [.ref b'5])) rfl (by rw [hml]; rfl) (Nat.le_of_eq rfl) rfl (hb hby at_395)
 refine goo st'16 ?_
 show own_G _ _ _ _ (T'16.setTop (mkF m 398 #[iv x0, iv x1, iv x2, .val (.long x3), .second, iv (Int32.ofNat n), iv (Int32.ofNat r), iv (own_b2 m1), iv (own_b2 m2), iv (own_b2 m3), iv (own_b2 m4), rv b'0, rv b'5, iv (own_b2 (own_p 1 n m1 r)), iv (own_b2 (own_p 2 n m2 r)), iv (own_b2 (own_p 3 n m3 r)), iv (own_b2 (own_p 4 n m4 r)), iv (own_b2 (decide (r = 5))), .val (.long (own_ex (own_p 1 n m1 r) (own_p 2 n m2 r) (own_p 3 n m3 r) (own_p 4 n m4 r) (decide (r = 5)))), .second, .val (.long ((Int32.ofNat (own_fbv (own_put r (own_cl4 n m1 m2 m3 m4)))).toInt64)), .second, .unset, .unset] [(.long ((Int32.ofNat (own_fbv (own_fbs (own_put r (own_cl4 n m1 m2 m3 m4))))).toInt64))]))
 refine goo (fun _ k => XS.lstore X'16.here hx rfl (hb hby at_398) rfl (l' := #[iv x0, iv x1, iv x2, .val (.long x3), .second, iv (Int32.ofNat n), iv (Int32.ofNat r), iv (own_b2 m1), iv (own_b2 m2), iv (own_b2 m3), iv (own_b2 m4), rv b'0, rv b'5, iv (own_b2 (own_p 1 n m1 r)), iv (own_b2 (own_p 2 n m2 r)), iv (own_b2 (own_p 3 n m3 r)), iv (own_b2 (own_p 4 n m4 r)), iv (own_b2 (decide (r = 5))), .val (.long (own_ex (own_p 1 n m1 r) (own_p 2 n m2 r) (own_p 3 n m3 r) (own_p 4 n m4 r) (decide (r = 5)))), .second, .val (.long ((Int32.ofNat (own_fbv (own_put r (own_cl4 n m1 m2 m3 m4)))).toInt64)), .second, .val (.long ((Int32.ofNat (own_fbv (own_fbs (own_put r (own_cl4 n m1 m2 m3 m4))))).toInt64)), .second]) rfl <| XS.lload X'16.here hx rfl (hb hby at_400) rfl <| XS.lload X'16.here hx rfl (hb hby at_402) rfl <| XS.lcmp X'16.here hx rfl (hb hby at_404) rfl k) ?_
 refine goo (fun _ k => XS.ifNo X'16.here hx rfl (hb hby at_405) rfl (((if0 _ _).trans (teq (own_e1 hlaw.1)).2)) <| XS.lload X'16.here hx rfl (hb hby at_408) rfl k) ?_
 show own_G _ _ _ _ (T'16.setTop (mkF m 410 #[iv x0, iv x1, iv x2, .val (.long x3), .second, iv (Int32.ofNat n), iv (Int32.ofNat r), iv (own_b2 m1), iv (own_b2 m2), iv (own_b2 m3), iv (own_b2 m4), rv b'0, rv b'5, iv (own_b2 (own_p 1 n m1 r)), iv (own_b2 (own_p 2 n m2 r)), iv (own_b2 (own_p 3 n m3 r)), iv (own_b2 (own_p 4 n m4 r)), iv (own_b2 (decide (r = 5))), .val (.long (own_ex (own_p 1 n m1 r) (own_p 2 n m2 r) (own_p 3 n m3 r) (own_p 4 n m4 r) (decide (r = 5)))), .second, .val (.long ((Int32.ofNat (own_fbv (own_put r (own_cl4 n m1 m2 m3 m4)))).toInt64)), .second, .val (.long ((Int32.ofNat (own_fbv (own_fbs (own_put r (own_cl4 n m1 m2 m3 m4))))).toInt64)), .second] [(.long ((Int32.ofNat (own_fbv (own_fbs (own_put r (own_cl4 n m1 m2 m3 m4))))).toInt64))]))
 refine goo (fun _ k => XS.lload X'16.here hx rfl (hb hby at_410) rfl <| XS.lcmp X'16.here hx rfl (hb hby at_412) rfl <| XS.ifNo X'16.here hx rfl (hb hby at_413) rfl (((if0 _ _).trans (teq (own_e1 hlaw.2.1)).2)) <| XS.iconst X'16.here hx rfl (hb hby at_416) k) ?_
 refine goo (fun _ k => XS.goto X'16.here hx rfl (pc0 := 417) (pc' := 421) rfl (hb hby at_417) (by decide) (by decide) k) ?_
 show own_G _ _ _ _ (T'16.setTop (mkF m 421 #[iv x0, iv x1, iv x2, .val (.long x3), .second, iv (Int32.ofNat n), iv (Int32.ofNat r), iv (own_b2 m1), iv (own_b2 m2), iv (own_b2 m3), iv (own_b2 m4), rv b'0, rv b'5, iv (own_b2 (own_p 1 n m1 r)), iv (own_b2 (own_p 2 n m2 r)), iv (own_b2 (own_p 3 n m3 r)), iv (own_b2 (own_p 4 n m4 r)), iv (own_b2 (decide (r = 5))), .val (.long (own_ex (own_p 1 n m1 r) (own_p 2 n m2 r) (own_p 3 n m3 r) (own_p 4 n m4 r) (decide (r = 5)))), .second, .val (.long ((Int32.ofNat (own_fbv (own_put r (own_cl4 n m1 m2 m3 m4)))).toInt64)), .second, .val (.long ((Int32.ofNat (own_fbv (own_fbs (own_put r (own_cl4 n m1 m2 m3 m4))))).toInt64)), .second] [.int i_1]))
 exact own_end X'16 Bd.notSynchronized (v := some (.int (nar .boolean i_1))) (fun h => by rw [Bd.returns] at h; cases h) (Q := QL (some (.int i_1)) n0) ⟨rfl, J2146.2.2.2.2.2.1⟩ (fun fs hr => retN X'16 hx (t := .boolean) Bd.returns (by simp) (hb hby at_421) hr) (by decide) (by decide)
theorem own_res (x m : Int32) {k : Nat} (hm : m.toInt = k) (hk : 0 < k) (hk2 : k < 100) : ∃ q, q < k ∧ (x &&& (2147483647 : Int32)) % m = Int32.ofNat q := by
  have h := own_mod x m (by omega)
  exact ⟨((x &&& (2147483647 : Int32)) % m).toInt.toNat, by omega, own_ext (by omega) (by omega)⟩
theorem own_mb (P : Prop) [Decidable P] : P ↔ decide (¬ P) = false := by by_cases h : P <;> simp [h]
theorem own_em {s : State} {args : Array Value} {t : Term} {em : Addr} (hf : Fit s) (h1 : (Cond.arrayOf t (.object "java/lang/Object")).value args s none s [] = some true) (h3 : (Cond.eq (.length t) (.int (0 : Int32))).value args s none s [] = some true) (ev : t.eval args s none [] s = some (.ref em)) : ∃ ke, Arv s s.heap em ke (.object "java/lang/Object") (0 : Int32) [] .null := by
  have hlen := Cond.eq_int (show (Cond.eq (.length t) (.int (0 : Int32))).holds args s none s [] = true from beq_iff_eq.mpr h3) (n := 0) rfl
  obtain ⟨a, D, hev, harr, -⟩ := Term.length_spec hlen
  cases ev.symm.trans hev
  have h31 := Jvm.Free.SBG.length_lt hev harr hlen
  have hD := (State.arrayAt?_spec harr).1
  obtain ⟨c, eA⟩ := Arr.start ev h1
  cases eA.1.symm.trans hD
  have q := (len_f hev harr h31).symm.trans hlen
  exact ⟨_, Arv.start hf eA h31 (Value.int.inj (Option.some.inj q)) (by decide) rfl trivial⟩
theorem own_lc {s : State} {args : Array Value} {T : Term} (hT : T = .static "java/lang/Long$LongCache" "cache" "[Ljava/lang/Long;") (hf : Fit s) (hi : (Cond.initializedFor "java/lang/Long$LongCache" "cache" "[Ljava/lang/Long;").before args s = true) (ha : (Cond.arrayOf T (.object "java/lang/Long")).before args s = true) (hl : (Cond.eq (.length T) (.int (256 : Int32))).before args s = true)
    (hall : (Cond.all T (.and (.exactly (.elem T (.index 0)) "java/lang/Long") (.eq (.field (.elem T (.index 0)) "java/lang/Long" "value" "J") (.op1 .i2l (.sub (.index 0) (.int (128 : Int32))))))).before args s = true) : ∃ ca kca cvs bx, own_LC s ca kca cvs bx := by
  have hlen := Cond.eq_int hl (n := 256) rfl
  obtain ⟨a, D, hev, harr, -⟩ := Term.length_spec hlen
  have h31 := Jvm.Free.SBG.length_lt hev harr hlen
  have hD := (State.arrayAt?_spec harr).1
  obtain ⟨hty, hkn⟩ := Cond.arrayOf_spec ha hev hD
  have e2 : D.slots.size.toInt32 = 256 := Value.int.inj (Option.some.inj ((len_f hev harr h31).symm.trans hlen))
  have hsz : D.slots.size = 256 := by
    have := congrArg Int32.toInt e2
    rw [len_toInt h31] at this
    have e'0 : (256 : Int32).toInt = 256 := by decide
    omega
  have hat : ∀ i, i < 256 → ∃ b, D.slots[i]? = some (.ref b) ∧ Exa s s.heap b "java/lang/Long" ∧ Fld s s.heap b "java/lang/Long" "value" "J" (.long ((Nat.toInt32 i - 128).toInt64)) := fun i hi => by
    have hz := Cond.all_elim hev harr (by simpa [Cond.before, Cond.holds] using hall) i (by omega)
    obtain ⟨x1, x2⟩ := and_e hz
    obtain ⟨box, c1, cellB, k1, y1, y2, y3, y4, y5, rfl, y7⟩ := Cond.exactly_spec (beq_iff_eq.mpr x1 : (Cond.exactly (.elem T (.index 0)) "java/lang/Long").holds args s none s [i] = true)
    have eL : (Term.elem T (.index 0)).eval args s none [i] s = D.slots[i]? := Jvm.Free.SBG.elem_at (ix := .index 0) (by subst hT; exact hev) harr (by omega) h31 rfl
    refine ⟨box, by rw [← eL]; exact y1, ⟨cellB, k1, y3, y2, y4, y5, y7⟩, Fld.start ?_⟩
    have r : (Term.op1 .i2l (.sub (.index 0) (.int (128 : Int32)))).eval args s none [i] s = some (.long (Nat.toInt32 i - 128).toInt64) := rfl
    have q : (Term.field (.elem T (.index 0)) "java/lang/Long" "value" "J").eval args s none [i] s = s.fieldOf? box "java/lang/Long" "value" "J" := by
      generalize Term.elem T (.index 0) = tt at y1
      simp [Term.eval, y1]
    simp only [Cond.value, r, q] at x2
    cases hq : s.fieldOf? box "java/lang/Long" "value" "J" with
    | none => simp [hq] at x2
    | some v => cases v <;> simp [hq] at x2; rw [x2]
  have hbx : ∃ bx : Nat → Addr, ∀ i, i < 256 → D.slots[i]? = some (.ref (bx i)) ∧ Exa s s.heap (bx i) "java/lang/Long" ∧ Fld s s.heap (bx i) "java/lang/Long" "value" "J" (.long ((Nat.toInt32 i - 128).toInt64)) := by
    refine ⟨fun i => if h : i < 256 then (hat i h).choose else 0, fun i hi => ?_⟩
    simp only [dif_pos hi]
    exact (hat i hi).choose_spec
  obtain ⟨bx, hbx⟩ := hbx
  have H' : Has D D.slots.toList .null := fun k hk => by simp [List.getD_eq_getElem?_getD, hk]
  have A : Arr s s.heap a D (.object "java/lang/Long") := ⟨hD, hty, hkn⟩
  refine ⟨a, D.cls, D.slots.toList, bx, Sta.start (by rw [← hT]; exact hev) (Or.inl hi), ⟨D, A, rfl, by rw [hsz]; rfl, by decide, H', fun j hj => ?_⟩, fun i hi => ⟨?_, (hbx i hi).2⟩⟩
  · have e1 : (Nat.toInt32 j).toNatClampNeg = j := by simp only [Int32.toNatClampNeg, len_toInt (Nat.lt_trans hj h31)]; rfl
    exact elem_fits (j := Nat.toInt32 j) hf A (idx_in hj h31) (by rw [e1]; exact H' j hj)
  · have := (hbx i hi).1
    simp [List.getD_eq_getElem?_getD, this]

set_option maxRecDepth 65536 in
set_option maxHeartbeats 40000000 in
theorem comes_1 {Post : Tables → Env → Array Value → State → Outcome → State → Prop} (hpost : ∀ tb e args s v u, (limb_1_1.after args s (.returned v) u = true ∧ limb_1_2.after args s (.returned v) u = true ∧ True) → FrameEnd s (.returned v) u (Jvm.fieldLocs frame_1_writes args s ++ Jvm.arrayLocs frame_1_arrays args s ++ Jvm.staticLocs frame_1_statics s) 32 192 → Post tb e args s (.returned v) u) :
    ArmFor flags0 classFile x code maxLocals ret World_1 tables_1 room_1 Calls_1 rest_1 Pre_1 Post := by
  intro l hfl _ _ p e ha hc hk s m args below hf hA hF happ hP
  obtain ⟨hcalls, hrest, hpre⟩ := hP
  obtain ⟨-, -, -, hnamed, -, -, -, hat⟩ := (Spec.applies_iff hf).mp happ
  obtain ⟨hg, hn⟩ := and_e (Cond.before_iff.mp (show (Jvm.Cond.and given_1 narrow_1).before args s = true from hpre))
  obtain ⟨hcnt, hq0⟩ := and_e hg
  obtain ⟨ha0, hq1⟩ := and_e hq0
  obtain ⟨ha1, hq2⟩ := and_e hq1
  obtain ⟨ha2, hq3⟩ := and_e hq2
  have ha3 := hq3
  obtain ⟨w0, w1, w2, w3, rfl⟩ : ∃ w0 w1 w2 w3 : Value, args = #[w0, w1, w2, w3] := by
    have hs : args.size = 4 := by simpa [Cond.value, given_1] using hcnt
    obtain ⟨L⟩ := args
    match L, hs with
    | [w0, w1, w2, w3], _ => exact ⟨w0, w1, w2, w3, rfl⟩
  have hw := fun d (hd : d ∈ tables_1) => atoms_spec (ws := Jvm.Cond.code x code maxLocals ret :: tables_1) hat d (List.mem_cons_of_mem _ hd)
  have hfit : Fit s := fun {y c} hc i hi => by
    obtain ⟨ha, rfl⟩ := Array.getElem?_eq_some_iff.mp hc
    have q := List.all_eq_true.mp ((Array.all_eq_true_iff_forall_mem.mp hF) _ (Array.getElem_mem ha)) i (List.mem_range.mpr hi)
    simpa [Array.getElem?_eq_getElem hi] using q
  obtain ⟨hsets, hown0⟩ := atoms_of _ (rest_1_c_eq ▸ (show rest_1_c.before _ s = true from hrest))
  obtain ⟨i0, ei0⟩ := is_v ha0
  obtain rfl : w0 = (.int i0) := Option.some.inj ei0
  obtain ⟨i1, ei1⟩ := is_v ha1
  obtain rfl : w1 = (.int i1) := Option.some.inj ei1
  obtain ⟨i2, ei2⟩ := is_v ha2
  obtain rfl : w2 = (.int i2) := Option.some.inj ei2
  obtain ⟨i3, ei3⟩ := isL_v ha3
  obtain rfl : w3 = (.long i3) := Option.some.inj ei3
  obtain ⟨hna, hnb⟩ := and_e hn
  obtain ⟨hnc, hnd⟩ := and_e hnb
  obtain ⟨em, eem⟩ := arr_v hna
  have Sem : Sta s s.heap "com/example/plainsong/plainsong/engine/Table" "EMPTY" "[Ljava/lang/Object;" (.ref em) := Sta.start eem (Or.inr ⟨(qw hw 25 rfl), (qw hw 31 rfl)⟩)
  obtain ⟨ke, Vem⟩ := own_em hfit hna hnd eem
  have Xem : Exa s s.heap em "[Ljava/lang/Object;" := Exa.start eem hnc
  obtain ⟨cm, km, mir, q1, q2, q3⟩ := hcalls.1
  obtain ⟨ca, kca, cvs, bx, LC⟩ := own_lc rfl hfit (hsets _ (List.mem_of_getElem? (i := 1) rfl)) (hsets _ (List.mem_of_getElem? (i := 2) rfl)) (hsets _ (List.mem_of_getElem? (i := 4) rfl)) (hsets _ (List.mem_of_getElem? (i := 5) rfl))
  have W : own_W s em ke mir ca kca cvs bx := ⟨Sem, Vem, Xem, ⟨cm, km, q1, q2, q3.1⟩, LC⟩
  obtain ⟨nn, hn5, hnn⟩ := own_res i0 5 (k := 5) (by decide) (by decide) (by decide)
  obtain ⟨rn, hr6, hrn⟩ := own_res i2 6 (k := 6) (by decide) (by decide) (by decide)
  obtain ⟨n, o, h1, h2, h3, _, L, rfl, ⟨rfl, N⟩, hq⟩ := rm0 l s _ hw tables_1 i0 i1 i2 i3 nn rn _ _ _ _ em ke mir ca kca cvs bx s.heap s.heap.size (Nat.le_refl _) (Old.start s) W hn5 hr6 hnn hrn (own_mb _) (own_mb _) (own_mb _) (own_mb _) p e ha hc hk s m _ below hf ((Spec.applies_iff_loose hf).mp happ).1 ⟨rfl, State.Warmed39.refl s, rfl⟩ trivial
  refine ⟨n, _, h1, h2, h3, hpost _ _ _ _ _ _ ⟨Cond.after_iff.mpr rfl, Cond.after_iff.mpr (eq_i res_at (Term.int_eval (1)) rfl), trivial⟩ ⟨hq.1, hq.2.1, (hq.2.2.sift fun y hy => Or.inr (N y hy)).mono (by decide) (by decide)⟩⟩
theorem main_1_1 : Claimed_1_1 := comes_1 fun _ _ _ _ _ _ h hF => ⟨h.1, hF⟩
theorem main_1_2 : Claimed_1_2 := comes_1 fun _ _ _ _ _ _ h hF => ⟨h.2.1, hF⟩
end Jvm.Pilot.@@N@@
namespace Jvm.Pilot.@@N@@
open Jvm Jvm.ClassFile Sem Op Lib Jvm.Free Jvm.Stand Jvm.Pilot.@@N@@.Jvm.D
set_option maxRecDepth 65536
set_option maxHeartbeats 40000000
/-! MADE BY PROGRAM (witnessworld.py) out of the Statement's table words and the real class files: 23 classes; the members and pool entries that the words name. The judged class is class 1, her method 1. -/
namespace start1
open Jvm.ClassFile
def u (s : String) : CpInfo := .utf8 (stringToUtf16 s)
/-- a pool by its gaps: so many unusable entries, then the entry; so many at the end -/
def gap : Nat → List CpInfo → List CpInfo
  | 0, r => r
  | n + 1, r => .unusable :: gap n r
def poolList (es : List (Nat × CpInfo)) (last : Nat) : List CpInfo := es.foldr (fun e r => gap e.1 (e.2 :: r)) (gap last [])
def pool (es : List (Nat × CpInfo)) (last : Nat) : Array CpInfo := ⟨poolList es last⟩
def fileOf (pool : Array CpInfo) (this : Nat) (attrs : Array Attribute := #[]) (ms : Array MethodInfo := #[]) (fl : Nat := 33) (sup : Nat := 0) (ifs : Array Nat := #[]) (fds : Array FieldInfo := #[]) : ClassFile where
  minorVersion := 0
  majorVersion := 65
  constantPool := pool
  accessFlags := fl
  thisClass := this
  superClass := sup
  interfaces := ifs
  fields := fds
  methods := ms
  attributes := attrs
def plain (name : String) (sup : Option ClassId) : Class where
  name := name
  kind := .ordinary
  loader := none
  accessFlags := 33
  super := sup
  interfaces := #[]
  cf := none
  fields := #[]
  methods := #[]
  instanceTypes := #[]
  staticTypes := #[]
  resolved := #[]
  callSites := []
  init := .initialized
  statics := none
  mirror := none

def pool0 : Array CpInfo := pool [(5, u "<init>"), (0, u "()V"), (1, .class_ 10), (1, u "java/lang/Object"), (0, u "getClass"), (0, u "()Ljava/lang/Class;"), (14, u "hashCode"), (0, u "()I")] 95

def k0c0 : Code := { maxStack := 0, maxLocals := 1, code := object_method_1_code, exceptionTable := #[], attributes := #[] }
def k0m0 : Method := { name := "<init>", desc := "()V", sig := { parameters := [], returnType := none }, accessFlags := 1, code := some k0c0 }
def k0m1 : Method := { name := "getClass", desc := "()Ljava/lang/Class;", sig := { parameters := [], returnType := some (.object "java/lang/Class") }, accessFlags := 273, code := none }
def k0m2 : Method := { name := "hashCode", desc := "()I", sig := { parameters := [], returnType := some .int }, accessFlags := 257, code := none }
/-- java/lang/Object -/
def k0 : Class := { plain "java/lang/Object" none with
  accessFlags := 33
  interfaces := #[]
  cf := some (fileOf pool0 8 #[] #[{ accessFlags := 1, nameIndex := 5, descriptorIndex := 6, attributes := #[] }, { accessFlags := 273, nameIndex := 11, descriptorIndex := 12, attributes := #[] }, { accessFlags := 257, nameIndex := 27, descriptorIndex := 28, attributes := #[] }] 33 0 #[] #[])
  fields := #[]
  methods := #[k0m0, k0m1, k0m2]
  instanceTypes := #[]
  staticTypes := #[]
  resolved := Array.replicate 124 none
  statics := none }

def pool1 : Array CpInfo := pool [(2, .class_ 4), (0, .nameAndType 5 6), (0, u "java/lang/Object"), (0, u "<init>"), (0, u "()V"), (0, .integer 2147483647), (0, .methodref 9 10), (0, .class_ 11), (0, .nameAndType 12 13), (0, u "java/lang/Long"), (0, u "valueOf"), (0, u "(J)Ljava/lang/Long;"), (0, .class_ 15), (0, u "com/example/plainsong/plainsong/engine/Table"), (0, .methodref 14 3), (0, .methodref 14 18), (0, .nameAndType 19 20), (0, u "put"), (0, u "(JLjava/lang/Object;)V"), (0, .long 2), (1, .long 3), (1, .long 4), (1, .long 5), (1, .methodref 14 30), (0, .nameAndType 31 32), (0, u "firstBorder"), (0, u "()J"), (0, .class_ 34), (0, u "com/example/plainsong/plainsong/engine/TableFirstBorderPinLaw"), (2, u "law"), (0, u "(IIIJ)Z")] 3

def k1m0 : Method := { name := "<init>", desc := "()V", sig := { parameters := [], returnType := none }, accessFlags := 1, code := none }
def k1c1 : Code := { maxStack := 4, maxLocals := 24, code := code, exceptionTable := #[], attributes := #[] }
def k1m1 : Method := { name := "law", desc := "(IIIJ)Z", sig := { parameters := [.int, .int, .int, .long], returnType := some .boolean }, accessFlags := 9, code := some k1c1 }
/-- com/example/plainsong/plainsong/engine/TableFirstBorderPinLaw -/
def k1 : Class := { plain "com/example/plainsong/plainsong/engine/TableFirstBorderPinLaw" (some 0) with
  accessFlags := 49
  interfaces := #[]
  cf := some (fileOf pool1 33 #[] #[{ accessFlags := 1, nameIndex := 5, descriptorIndex := 6, attributes := #[] }, { accessFlags := 9, nameIndex := 37, descriptorIndex := 38, attributes := #[] }] 49 2 #[] #[])
  fields := #[]
  methods := #[k1m0, k1m1]
  instanceTypes := #[]
  staticTypes := #[]
  resolved := Array.replicate 42 none
  statics := none }

def pool2 : Array CpInfo := pool [(1, .class_ 2), (0, u "java/io/Serializable"), (0, .class_ 4), (0, u "java/lang/Object")] 2

/-- java/io/Serializable -/
def k2 : Class := { plain "java/io/Serializable" (some 0) with
  accessFlags := 1537
  interfaces := #[]
  cf := some (fileOf pool2 1 #[] #[] 1537 3 #[] #[])
  fields := #[]
  methods := #[]
  instanceTypes := #[]
  staticTypes := #[]
  resolved := Array.replicate 7 none
  statics := none }

def pool3 : Array CpInfo := pool [(1, .methodref 2 3), (0, .class_ 4), (0, .nameAndType 5 6), (0, u "java/lang/Object"), (0, u "<init>"), (0, u "()V"), (1, .class_ 10), (1, u "java/lang/Number"), (2, .class_ 14), (0, u "java/io/Serializable"), (0, u "serialVersionUID"), (0, u "J")] 20

def k3c0 : Code := { maxStack := 1, maxLocals := 1, code := jdk_18_method_1_code, exceptionTable := #[], attributes := #[] }
def k3m0 : Method := { name := "<init>", desc := "()V", sig := { parameters := [], returnType := none }, accessFlags := 1, code := some k3c0 }
/-- java/lang/Number -/
def k3 : Class := { plain "java/lang/Number" (some 0) with
  accessFlags := 1057
  interfaces := #[2]
  cf := some (fileOf pool3 8 #[] #[{ accessFlags := 1, nameIndex := 5, descriptorIndex := 6, attributes := #[] }] 1057 2 #[13] #[{ accessFlags := 26, nameIndex := 15, descriptorIndex := 16, attributes := #[] }])
  fields := #[{ name := "serialVersionUID", type := .long, accessFlags := 26, slot := 0, constantValue := 0 }]
  methods := #[k3m0]
  instanceTypes := #[]
  staticTypes := #[.long]
  resolved := Array.replicate 37 none
  statics := none }

def pool4 : Array CpInfo := pool [(1, .class_ 2), (0, u "java/lang/Comparable"), (0, .class_ 4), (0, u "java/lang/Object")] 7

/-- java/lang/Comparable -/
def k4 : Class := { plain "java/lang/Comparable" (some 0) with
  accessFlags := 1537
  interfaces := #[]
  cf := some (fileOf pool4 1 #[] #[] 1537 3 #[] #[])
  fields := #[]
  methods := #[]
  instanceTypes := #[]
  staticTypes := #[]
  resolved := Array.replicate 12 none
  statics := none }

def pool5 : Array CpInfo := pool [(1, .class_ 2), (0, u "java/lang/constant/Constable"), (0, .class_ 4), (0, u "java/lang/Object")] 6

/-- java/lang/constant/Constable -/
def k5 : Class := { plain "java/lang/constant/Constable" (some 0) with
  accessFlags := 1537
  interfaces := #[]
  cf := some (fileOf pool5 1 #[] #[] 1537 3 #[] #[])
  fields := #[]
  methods := #[]
  instanceTypes := #[]
  staticTypes := #[]
  resolved := Array.replicate 11 none
  statics := none }

def pool6 : Array CpInfo := pool [(1, .class_ 2), (0, u "java/lang/constant/ConstantDesc"), (0, .class_ 4), (0, u "java/lang/Object")] 32

/-- java/lang/constant/ConstantDesc -/
def k6 : Class := { plain "java/lang/constant/ConstantDesc" (some 0) with
  accessFlags := 1537
  interfaces := #[]
  cf := some (fileOf pool6 1 #[] #[] 1537 3 #[] #[])
  fields := #[]
  methods := #[]
  instanceTypes := #[]
  staticTypes := #[]
  resolved := Array.replicate 37 none
  statics := none }

def pool7 : Array CpInfo := pool [(1, .class_ 2), (0, u "java/lang/Long"), (55, .nameAndType 59 60), (0, u "<init>"), (0, u "()V"), (24, u "valueOf"), (15, u "(J)I"), (59, u "()I"), (67, u "(J)Ljava/lang/Long;"), (0, .long 18446744073709551488), (1, .long 127), (1, .fieldref 235 236), (0, .class_ 237), (0, .nameAndType 238 239), (0, u "java/lang/Long$LongCache"), (0, u "cache"), (0, u "[Ljava/lang/Long;"), (0, .methodref 1 241), (0, .nameAndType 59 242), (0, u "(J)V"), (27, .methodref 271 58), (0, .class_ 272), (0, u "java/lang/Number"), (0, .fieldref 1 274), (0, .nameAndType 275 276), (0, u "value"), (0, u "J"), (0, .methodref 1 278), (0, .nameAndType 279 101), (0, u "hashCode"), (81, u "TYPE"), (0, u "Ljava/lang/Class;"), (0, .class_ 364), (0, u "java/lang/Comparable"), (0, .class_ 366), (0, u "java/lang/constant/Constable"), (0, .class_ 368), (0, u "java/lang/constant/ConstantDesc"), (0, u "MIN_VALUE"), (1, u "MAX_VALUE"), (4, u "SIZE"), (0, u "I"), (1, u "BYTES"), (1, u "serialVersionUID")] 142

def k7c0 : Code := { maxStack := 4, maxLocals := 3, code := jdk_35_method_24_code, exceptionTable := #[], attributes := #[] }
def k7m0 : Method := { name := "valueOf", desc := "(J)Ljava/lang/Long;", sig := { parameters := [.long], returnType := some (.object "java/lang/Long") }, accessFlags := 9, code := some k7c0 }
def k7c1 : Code := { maxStack := 3, maxLocals := 3, code := jdk_35_method_26_code, exceptionTable := #[], attributes := #[] }
def k7m1 : Method := { name := "<init>", desc := "(J)V", sig := { parameters := [.long], returnType := none }, accessFlags := 1, code := some k7c1 }
def k7c2 : Code := { maxStack := 2, maxLocals := 1, code := jdk_35_method_35_code, exceptionTable := #[], attributes := #[] }
def k7m2 : Method := { name := "hashCode", desc := "()I", sig := { parameters := [], returnType := some .int }, accessFlags := 1, code := some k7c2 }
def k7c3 : Code := { maxStack := 5, maxLocals := 2, code := jdk_35_method_36_code, exceptionTable := #[], attributes := #[] }
def k7m3 : Method := { name := "hashCode", desc := "(J)I", sig := { parameters := [.long], returnType := some .int }, accessFlags := 9, code := some k7c3 }
/-- java/lang/Long -/
def k7 : Class := { plain "java/lang/Long" (some 3) with
  accessFlags := 49
  interfaces := #[4, 5, 6]
  cf := some (fileOf pool7 1 #[.nestMembers #[235]] #[{ accessFlags := 9, nameIndex := 85, descriptorIndex := 229, attributes := #[] }, { accessFlags := 1, nameIndex := 59, descriptorIndex := 242, attributes := #[] }, { accessFlags := 1, nameIndex := 279, descriptorIndex := 161, attributes := #[] }, { accessFlags := 9, nameIndex := 279, descriptorIndex := 101, attributes := #[] }] 49 271 #[363, 365, 367] #[{ accessFlags := 25, nameIndex := 369, descriptorIndex := 276, attributes := #[] }, { accessFlags := 25, nameIndex := 371, descriptorIndex := 276, attributes := #[] }, { accessFlags := 25, nameIndex := 361, descriptorIndex := 362, attributes := #[] }, { accessFlags := 18, nameIndex := 275, descriptorIndex := 276, attributes := #[] }, { accessFlags := 25, nameIndex := 376, descriptorIndex := 377, attributes := #[] }, { accessFlags := 25, nameIndex := 379, descriptorIndex := 377, attributes := #[] }, { accessFlags := 26, nameIndex := 381, descriptorIndex := 276, attributes := #[] }])
  fields := #[{ name := "MIN_VALUE", type := .long, accessFlags := 25, slot := 0, constantValue := 0 }, { name := "MAX_VALUE", type := .long, accessFlags := 25, slot := 1, constantValue := 0 }, { name := "TYPE", type := (.object "java/lang/Class"), accessFlags := 25, slot := 2, constantValue := 0 }, { name := "value", type := .long, accessFlags := 18, slot := 0, constantValue := 0 }, { name := "SIZE", type := .int, accessFlags := 25, slot := 3, constantValue := 0 }, { name := "BYTES", type := .int, accessFlags := 25, slot := 4, constantValue := 0 }, { name := "serialVersionUID", type := .long, accessFlags := 26, slot := 5, constantValue := 0 }]
  methods := #[k7m0, k7m1, k7m2, k7m3]
  instanceTypes := #[.long]
  staticTypes := #[.long, .long, (.object "java/lang/Class"), .int, .int, .long]
  resolved := Array.replicate 524 none
  statics := none }

def pool8 : Array CpInfo := pool [(3, .methodref 4 5), (0, .class_ 6), (0, .nameAndType 7 8), (0, u "java/lang/Object"), (0, u "<init>"), (0, u "()V"), (0, .fieldref 10 11), (0, .class_ 12), (0, .nameAndType 13 14), (0, u "com/example/plainsong/plainsong/engine/Table"), (0, u "EMPTY"), (0, u "[Ljava/lang/Object;"), (0, .fieldref 10 16), (0, .nameAndType 17 14), (0, u "array"), (0, .class_ 19), (0, u "com/example/plainsong/plainsong/engine/HashPart"), (0, .methodref 18 21), (0, .nameAndType 7 22), (0, u "(I)V"), (0, .fieldref 10 24), (0, .nameAndType 25 26), (0, u "hash"), (0, u "Lcom/example/plainsong/plainsong/engine/HashPart;"), (10, .class_ 38), (0, u "java/lang/Long"), (3, u "()J"), (12, .fieldref 10 56), (0, .nameAndType 57 58), (0, u "arrayCount"), (0, u "I"), (0, .methodref 37 60), (0, .nameAndType 61 62), (0, u "valueOf"), (0, u "(J)Ljava/lang/Long;"), (2, u "put"), (0, u "(JLjava/lang/Object;)V"), (24, .methodref 10 92), (0, .nameAndType 93 94), (0, u "putInHash"), (0, u "(Ljava/lang/Object;Ljava/lang/Object;)V"), (0, .fieldref 10 96), (0, .nameAndType 97 98), (0, u "holes"), (0, u "Z"), (0, .integer 2147483639), (0, .methodref 10 101), (0, .nameAndType 102 103), (0, u "append"), (0, u "(Ljava/lang/Object;)V"), (7, .class_ 113), (1, u "java/lang/Math"), (0, u "max"), (14, u "metatable"), (0, u "Lcom/example/plainsong/plainsong/engine/Table;"), (3, u "()Z"), (3, .methodref 10 139), (0, .nameAndType 140 134), (0, u "makeRoom"), (4, .long 2), (1, .methodref 10 148), (0, .nameAndType 149 150), (0, u "capacity"), (0, u "(J)I"), (0, .methodref 152 153), (0, .class_ 154), (0, .nameAndType 155 156), (0, u "java/util/Arrays"), (0, u "copyOf"), (0, u "([Ljava/lang/Object;I)[Ljava/lang/Object;"), (0, .methodref 18 158), (0, .nameAndType 65 94), (0, .methodref 160 161), (0, .class_ 162), (0, .nameAndType 163 164), (0, u "java/lang/System"), (0, u "arraycopy"), (0, u "(Ljava/lang/Object;ILjava/lang/Object;II)V"), (0, .long 4), (1, .methodref 111 168), (0, .nameAndType 114 169), (0, u "(JJ)J"), (0, .long 2147483639), (1, .methodref 111 173), (0, .nameAndType 174 169), (0, u "min"), (3, u "MAX_LIST"), (9, u "firstBorder")] 24

def k8c0 : Code := { maxStack := 2, maxLocals := 1, code := prog_60_method_1_code, exceptionTable := #[], attributes := #[] }
def k8m0 : Method := { name := "<init>", desc := "()V", sig := { parameters := [], returnType := none }, accessFlags := 1, code := some k8c0 }
def k8c1 : Code := { maxStack := 6, maxLocals := 4, code := prog_60_method_7_code, exceptionTable := #[], attributes := #[] }
def k8m1 : Method := { name := "put", desc := "(JLjava/lang/Object;)V", sig := { parameters := [.long, (.object "java/lang/Object")], returnType := none }, accessFlags := 1, code := some k8c1 }
def k8c2 : Code := { maxStack := 2, maxLocals := 2, code := prog_60_method_10_code, exceptionTable := #[], attributes := #[] }
def k8m2 : Method := { name := "firstBorder", desc := "()J", sig := { parameters := [], returnType := some .long }, accessFlags := 1, code := some k8c2 }
def k8c3 : Code := { maxStack := 5, maxLocals := 6, code := prog_60_method_14_code, exceptionTable := #[], attributes := #[] }
def k8m3 : Method := { name := "append", desc := "(Ljava/lang/Object;)V", sig := { parameters := [(.object "java/lang/Object")], returnType := none }, accessFlags := 2, code := some k8c3 }
def k8c4 : Code := { maxStack := 6, maxLocals := 5, code := prog_60_method_15_code, exceptionTable := #[], attributes := #[] }
def k8m4 : Method := { name := "makeRoom", desc := "()Z", sig := { parameters := [], returnType := some .boolean }, accessFlags := 2, code := some k8c4 }
def k8c5 : Code := { maxStack := 4, maxLocals := 2, code := prog_60_method_16_code, exceptionTable := #[], attributes := #[] }
def k8m5 : Method := { name := "capacity", desc := "(J)I", sig := { parameters := [.long], returnType := some .int }, accessFlags := 10, code := some k8c5 }
def k8c6 : Code := { maxStack := 4, maxLocals := 3, code := prog_60_method_17_code, exceptionTable := #[], attributes := #[] }
def k8m6 : Method := { name := "putInHash", desc := "(Ljava/lang/Object;Ljava/lang/Object;)V", sig := { parameters := [(.object "java/lang/Object"), (.object "java/lang/Object")], returnType := none }, accessFlags := 2, code := some k8c6 }
/-- com/example/plainsong/plainsong/engine/Table -/
def k8 : Class := { plain "com/example/plainsong/plainsong/engine/Table" (some 0) with
  accessFlags := 49
  interfaces := #[]
  cf := some (fileOf pool8 10 #[] #[{ accessFlags := 1, nameIndex := 7, descriptorIndex := 8, attributes := #[] }, { accessFlags := 1, nameIndex := 65, descriptorIndex := 66, attributes := #[] }, { accessFlags := 1, nameIndex := 188, descriptorIndex := 42, attributes := #[] }, { accessFlags := 2, nameIndex := 102, descriptorIndex := 103, attributes := #[] }, { accessFlags := 2, nameIndex := 140, descriptorIndex := 134, attributes := #[] }, { accessFlags := 10, nameIndex := 149, descriptorIndex := 150, attributes := #[] }, { accessFlags := 2, nameIndex := 93, descriptorIndex := 94, attributes := #[] }] 49 4 #[] #[{ accessFlags := 26, nameIndex := 13, descriptorIndex := 14, attributes := #[] }, { accessFlags := 26, nameIndex := 178, descriptorIndex := 58, attributes := #[] }, { accessFlags := 2, nameIndex := 17, descriptorIndex := 14, attributes := #[] }, { accessFlags := 2, nameIndex := 57, descriptorIndex := 58, attributes := #[] }, { accessFlags := 2, nameIndex := 97, descriptorIndex := 98, attributes := #[] }, { accessFlags := 2, nameIndex := 25, descriptorIndex := 26, attributes := #[] }, { accessFlags := 2, nameIndex := 129, descriptorIndex := 130, attributes := #[] }])
  fields := #[{ name := "EMPTY", type := (.array (.object "java/lang/Object")), accessFlags := 26, slot := 0, constantValue := 0 }, { name := "MAX_LIST", type := .int, accessFlags := 26, slot := 1, constantValue := 0 }, { name := "array", type := (.array (.object "java/lang/Object")), accessFlags := 2, slot := 0, constantValue := 0 }, { name := "arrayCount", type := .int, accessFlags := 2, slot := 1, constantValue := 0 }, { name := "holes", type := .boolean, accessFlags := 2, slot := 2, constantValue := 0 }, { name := "hash", type := (.object "com/example/plainsong/plainsong/engine/HashPart"), accessFlags := 2, slot := 3, constantValue := 0 }, { name := "metatable", type := (.object "com/example/plainsong/plainsong/engine/Table"), accessFlags := 2, slot := 4, constantValue := 0 }]
  methods := #[k8m0, k8m1, k8m2, k8m3, k8m4, k8m5, k8m6]
  instanceTypes := #[(.array (.object "java/lang/Object")), .int, .boolean, (.object "com/example/plainsong/plainsong/engine/HashPart"), (.object "com/example/plainsong/plainsong/engine/Table")]
  staticTypes := #[(.array (.object "java/lang/Object")), .int]
  resolved := Array.replicate 213 none
  statics := some 0 }

def pool9 : Array CpInfo := pool [(2, .class_ 4), (1, u "java/lang/Object"), (0, u "<init>"), (0, u "()V"), (0, .class_ 8), (0, u "java/lang/Long"), (7, .class_ 18), (1, u "java/lang/Long$LongCache"), (0, u "$assertionsDisabled"), (0, u "Z"), (8, u "archivedCache"), (0, u "[Ljava/lang/Long;"), (7, u "cache")] 24

def k9m0 : Method := { name := "<init>", desc := "()V", sig := { parameters := [], returnType := none }, accessFlags := 2, code := none }
/-- java/lang/Long$LongCache -/
def k9 : Class := { plain "java/lang/Long$LongCache" (some 0) with
  accessFlags := 48
  interfaces := #[]
  cf := some (fileOf pool9 16 #[.nestHost 7] #[{ accessFlags := 2, nameIndex := 5, descriptorIndex := 6, attributes := #[] }] 48 2 #[] #[{ accessFlags := 24, nameIndex := 38, descriptorIndex := 30, attributes := #[] }, { accessFlags := 8, nameIndex := 29, descriptorIndex := 30, attributes := #[] }, { accessFlags := 4120, nameIndex := 19, descriptorIndex := 20, attributes := #[] }])
  fields := #[{ name := "cache", type := (.array (.object "java/lang/Long")), accessFlags := 24, slot := 0, constantValue := 0 }, { name := "archivedCache", type := (.array (.object "java/lang/Long")), accessFlags := 8, slot := 1, constantValue := 0 }, { name := "$assertionsDisabled", type := .boolean, accessFlags := 4120, slot := 2, constantValue := 0 }]
  methods := #[k9m0]
  instanceTypes := #[]
  staticTypes := #[(.array (.object "java/lang/Long")), (.array (.object "java/lang/Long")), .boolean]
  resolved := Array.replicate 63 none
  statics := some 1 }

def pool10 : Array CpInfo := pool [(1, .methodref 2 3), (0, .class_ 4), (0, .nameAndType 5 6), (0, u "java/lang/Object"), (0, u "<init>"), (0, u "()V"), (0, .methodref 8 9), (0, .class_ 10), (0, .nameAndType 11 12), (0, u "com/example/plainsong/plainsong/engine/HashPart"), (0, u "capacityFor"), (0, u "(J)I"), (0, .methodref 8 14), (0, .nameAndType 15 16), (0, u "allocate"), (0, u "(I)V"), (0, .fieldref 8 18), (0, .nameAndType 19 20), (0, u "count"), (0, u "I"), (0, .fieldref 8 22), (0, .nameAndType 23 20), (0, u "size"), (2, u "cleared"), (0, u "Lcom/example/plainsong/plainsong/engine/ClearedKeyPlaces;"), (0, .methodref 8 29), (0, .nameAndType 30 31), (0, u "entryOf"), (0, u "(Ljava/lang/Object;)I"), (0, .fieldref 8 33), (0, .nameAndType 34 35), (0, u "values"), (0, u "[Ljava/lang/Object;"), (0, .fieldref 8 37), (0, .nameAndType 38 35), (0, u "keys"), (17, .methodref 2 57), (0, .nameAndType 58 59), (0, u "hashCode"), (0, u "()I"), (0, .methodref 8 61), (0, .nameAndType 62 63), (0, u "spread"), (0, u "(I)I"), (0, .methodref 8 65), (0, .nameAndType 66 67), (0, u "add"), (0, u "(Ljava/lang/Object;ILjava/lang/Object;)V"), (0, .methodref 8 69), (0, .nameAndType 70 71), (0, u "heldEntry"), (0, u "(Ljava/lang/Object;I)I"), (0, .fieldref 8 73), (0, .nameAndType 74 75), (0, u "hashes"), (0, u "[I"), (0, .methodref 8 77), (0, .nameAndType 78 79), (0, u "isInteger"), (0, u "(Ljava/lang/Object;)Z"), (12, .class_ 93), (0, u "java/lang/Long"), (8, .fieldref 8 103), (0, .nameAndType 104 75), (0, u "buckets"), (0, .fieldref 8 106), (0, .nameAndType 107 75), (0, u "chain"), (6, .fieldref 8 115), (0, .nameAndType 116 117), (0, u "emptied"), (0, u "Z"), (3, .fieldref 8 122), (0, .nameAndType 123 20), (0, u "fewest"), (3, .methodref 128 129), (0, .class_ 130), (0, .nameAndType 131 132), (0, u "java/util/Arrays"), (0, u "fill"), (0, u "([II)V"), (16, .methodref 8 150), (0, .nameAndType 151 67), (0, u "place"), (12, .long 4), (1, .methodref 167 168), (0, .class_ 169), (0, .nameAndType 170 171), (0, u "java/lang/Math"), (0, u "max"), (0, u "(JJ)J"), (0, .long 1073741824), (1, .integer 1073741824), (0, .methodref 176 177), (0, .class_ 178), (0, .nameAndType 179 63), (0, u "java/lang/Integer"), (0, u "highestOneBit"), (0, .integer 2654435769), (0, u "MIN_CAPACITY"), (2, u "KEPT_CAPACITY"), (1, u "REMOVED"), (1, u "MAX_CAPACITY"), (7, u "put"), (0, u "(Ljava/lang/Object;Ljava/lang/Object;)V")] 12

def k10c0 : Code := { maxStack := 3, maxLocals := 2, code := prog_46_method_1_code, exceptionTable := #[], attributes := #[] }
def k10m0 : Method := { name := "<init>", desc := "(I)V", sig := { parameters := [.int], returnType := none }, accessFlags := 0, code := some k10c0 }
def k10c1 : Code := { maxStack := 4, maxLocals := 4, code := prog_46_method_5_code, exceptionTable := #[], attributes := #[] }
def k10m1 : Method := { name := "put", desc := "(Ljava/lang/Object;Ljava/lang/Object;)V", sig := { parameters := [(.object "java/lang/Object"), (.object "java/lang/Object")], returnType := none }, accessFlags := 0, code := some k10c1 }
def k10c2 : Code := { maxStack := 3, maxLocals := 4, code := prog_46_method_12_code, exceptionTable := #[], attributes := #[] }
def k10m2 : Method := { name := "entryOf", desc := "(Ljava/lang/Object;)I", sig := { parameters := [(.object "java/lang/Object")], returnType := some .int }, accessFlags := 2, code := some k10c2 }
def k10c3 : Code := { maxStack := 4, maxLocals := 5, code := prog_46_method_14_code, exceptionTable := #[], attributes := #[] }
def k10m3 : Method := { name := "heldEntry", desc := "(Ljava/lang/Object;I)I", sig := { parameters := [(.object "java/lang/Object"), .int], returnType := some .int }, accessFlags := 2, code := some k10c3 }
def k10c4 : Code := { maxStack := 4, maxLocals := 4, code := prog_46_method_21_code, exceptionTable := #[], attributes := #[] }
def k10m4 : Method := { name := "add", desc := "(Ljava/lang/Object;ILjava/lang/Object;)V", sig := { parameters := [(.object "java/lang/Object"), .int, (.object "java/lang/Object")], returnType := none }, accessFlags := 2, code := some k10c4 }
def k10c5 : Code := { maxStack := 4, maxLocals := 6, code := prog_46_method_22_code, exceptionTable := #[], attributes := #[] }
def k10m5 : Method := { name := "place", desc := "(Ljava/lang/Object;ILjava/lang/Object;)V", sig := { parameters := [(.object "java/lang/Object"), .int, (.object "java/lang/Object")], returnType := none }, accessFlags := 2, code := some k10c5 }
def k10c6 : Code := { maxStack := 3, maxLocals := 2, code := prog_46_method_23_code, exceptionTable := #[], attributes := #[] }
def k10m6 : Method := { name := "allocate", desc := "(I)V", sig := { parameters := [.int], returnType := none }, accessFlags := 2, code := some k10c6 }
def k10c7 : Code := { maxStack := 4, maxLocals := 4, code := prog_46_method_24_code, exceptionTable := #[], attributes := #[] }
def k10m7 : Method := { name := "capacityFor", desc := "(J)I", sig := { parameters := [.long], returnType := some .int }, accessFlags := 10, code := some k10c7 }
def k10c8 : Code := { maxStack := 1, maxLocals := 1, code := prog_46_method_25_code, exceptionTable := #[], attributes := #[] }
def k10m8 : Method := { name := "isInteger", desc := "(Ljava/lang/Object;)Z", sig := { parameters := [(.object "java/lang/Object")], returnType := some .boolean }, accessFlags := 10, code := some k10c8 }
def k10c9 : Code := { maxStack := 3, maxLocals := 2, code := prog_46_method_26_code, exceptionTable := #[], attributes := #[] }
def k10m9 : Method := { name := "spread", desc := "(I)I", sig := { parameters := [.int], returnType := some .int }, accessFlags := 10, code := some k10c9 }
/-- com/example/plainsong/plainsong/engine/HashPart -/
def k10 : Class := { plain "com/example/plainsong/plainsong/engine/HashPart" (some 0) with
  accessFlags := 48
  interfaces := #[]
  cf := some (fileOf pool10 8 #[] #[{ accessFlags := 0, nameIndex := 5, descriptorIndex := 16, attributes := #[] }, { accessFlags := 0, nameIndex := 196, descriptorIndex := 197, attributes := #[] }, { accessFlags := 2, nameIndex := 30, descriptorIndex := 31, attributes := #[] }, { accessFlags := 2, nameIndex := 70, descriptorIndex := 71, attributes := #[] }, { accessFlags := 2, nameIndex := 66, descriptorIndex := 67, attributes := #[] }, { accessFlags := 2, nameIndex := 151, descriptorIndex := 67, attributes := #[] }, { accessFlags := 2, nameIndex := 15, descriptorIndex := 16, attributes := #[] }, { accessFlags := 10, nameIndex := 11, descriptorIndex := 12, attributes := #[] }, { accessFlags := 10, nameIndex := 78, descriptorIndex := 79, attributes := #[] }, { accessFlags := 10, nameIndex := 62, descriptorIndex := 63, attributes := #[] }] 48 2 #[] #[{ accessFlags := 26, nameIndex := 181, descriptorIndex := 20, attributes := #[] }, { accessFlags := 26, nameIndex := 184, descriptorIndex := 20, attributes := #[] }, { accessFlags := 26, nameIndex := 186, descriptorIndex := 20, attributes := #[] }, { accessFlags := 26, nameIndex := 188, descriptorIndex := 20, attributes := #[] }, { accessFlags := 2, nameIndex := 104, descriptorIndex := 75, attributes := #[] }, { accessFlags := 2, nameIndex := 38, descriptorIndex := 35, attributes := #[] }, { accessFlags := 2, nameIndex := 34, descriptorIndex := 35, attributes := #[] }, { accessFlags := 2, nameIndex := 74, descriptorIndex := 75, attributes := #[] }, { accessFlags := 2, nameIndex := 107, descriptorIndex := 75, attributes := #[] }, { accessFlags := 2, nameIndex := 23, descriptorIndex := 20, attributes := #[] }, { accessFlags := 2, nameIndex := 19, descriptorIndex := 20, attributes := #[] }, { accessFlags := 2, nameIndex := 123, descriptorIndex := 20, attributes := #[] }, { accessFlags := 2, nameIndex := 116, descriptorIndex := 117, attributes := #[] }, { accessFlags := 2, nameIndex := 26, descriptorIndex := 27, attributes := #[] }])
  fields := #[{ name := "MIN_CAPACITY", type := .int, accessFlags := 26, slot := 0, constantValue := 0 }, { name := "KEPT_CAPACITY", type := .int, accessFlags := 26, slot := 1, constantValue := 0 }, { name := "REMOVED", type := .int, accessFlags := 26, slot := 2, constantValue := 0 }, { name := "MAX_CAPACITY", type := .int, accessFlags := 26, slot := 3, constantValue := 0 }, { name := "buckets", type := (.array .int), accessFlags := 2, slot := 0, constantValue := 0 }, { name := "keys", type := (.array (.object "java/lang/Object")), accessFlags := 2, slot := 1, constantValue := 0 }, { name := "values", type := (.array (.object "java/lang/Object")), accessFlags := 2, slot := 2, constantValue := 0 }, { name := "hashes", type := (.array .int), accessFlags := 2, slot := 3, constantValue := 0 }, { name := "chain", type := (.array .int), accessFlags := 2, slot := 4, constantValue := 0 }, { name := "size", type := .int, accessFlags := 2, slot := 5, constantValue := 0 }, { name := "count", type := .int, accessFlags := 2, slot := 6, constantValue := 0 }, { name := "fewest", type := .int, accessFlags := 2, slot := 7, constantValue := 0 }, { name := "emptied", type := .boolean, accessFlags := 2, slot := 8, constantValue := 0 }, { name := "cleared", type := (.object "com/example/plainsong/plainsong/engine/ClearedKeyPlaces"), accessFlags := 2, slot := 9, constantValue := 0 }]
  methods := #[k10m0, k10m1, k10m2, k10m3, k10m4, k10m5, k10m6, k10m7, k10m8, k10m9]
  instanceTypes := #[(.array .int), (.array (.object "java/lang/Object")), (.array (.object "java/lang/Object")), (.array .int), (.array .int), .int, .int, .int, .boolean, (.object "com/example/plainsong/plainsong/engine/ClearedKeyPlaces")]
  staticTypes := #[.int, .int, .int, .int]
  resolved := Array.replicate 210 none
  statics := none }

def pool11 : Array CpInfo := pool [(1, .class_ 2), (0, u "java/lang/Math"), (1, .class_ 6), (1, u "java/lang/Object"), (0, u "<init>"), (0, u "()V"), (89, .class_ 100), (1, u "java/lang/Math$RandomNumberGeneratorHolder"), (20, u "(JJ)J"), (50, u "negativeZeroFloatBits"), (0, u "J"), (2, u "negativeZeroDoubleBits"), (21, u "max"), (2, u "min"), (43, u "$assertionsDisabled"), (0, u "Z"), (88, u "(II)I"), (2, u "twoToTheDoubleScaleDown"), (0, u "D"), (4, u "twoToTheDoubleScaleUp"), (9, u "E"), (3, u "PI"), (2, u "TAU"), (2, u "DEGREES_TO_RADIANS"), (0, u "RADIANS_TO_DEGREES")] 94

def k11m0 : Method := { name := "<init>", desc := "()V", sig := { parameters := [], returnType := none }, accessFlags := 2, code := none }
def k11c1 : Code := { maxStack := 4, maxLocals := 4, code := jdk_29_method_66_code, exceptionTable := #[], attributes := #[] }
def k11m1 : Method := { name := "max", desc := "(JJ)J", sig := { parameters := [.long, .long], returnType := some .long }, accessFlags := 9, code := some k11c1 }
def k11c2 : Code := { maxStack := 2, maxLocals := 2, code := jdk_29_method_69_code, exceptionTable := #[], attributes := #[] }
def k11m2 : Method := { name := "min", desc := "(II)I", sig := { parameters := [.int, .int], returnType := some .int }, accessFlags := 9, code := some k11c2 }
def k11c3 : Code := { maxStack := 4, maxLocals := 4, code := jdk_29_method_70_code, exceptionTable := #[], attributes := #[] }
def k11m3 : Method := { name := "min", desc := "(JJ)J", sig := { parameters := [.long, .long], returnType := some .long }, accessFlags := 9, code := some k11c3 }
/-- java/lang/Math -/
def k11 : Class := { plain "java/lang/Math" (some 0) with
  accessFlags := 49
  interfaces := #[]
  cf := some (fileOf pool11 1 #[.nestMembers #[98]] #[{ accessFlags := 2, nameIndex := 7, descriptorIndex := 8, attributes := #[] }, { accessFlags := 9, nameIndex := 198, descriptorIndex := 121, attributes := #[] }, { accessFlags := 9, nameIndex := 201, descriptorIndex := 335, attributes := #[] }, { accessFlags := 9, nameIndex := 201, descriptorIndex := 121, attributes := #[] }] 49 4 #[] #[{ accessFlags := 25, nameIndex := 354, descriptorIndex := 339, attributes := #[] }, { accessFlags := 25, nameIndex := 358, descriptorIndex := 339, attributes := #[] }, { accessFlags := 25, nameIndex := 361, descriptorIndex := 339, attributes := #[] }, { accessFlags := 26, nameIndex := 364, descriptorIndex := 339, attributes := #[] }, { accessFlags := 26, nameIndex := 365, descriptorIndex := 339, attributes := #[] }, { accessFlags := 26, nameIndex := 172, descriptorIndex := 173, attributes := #[] }, { accessFlags := 26, nameIndex := 176, descriptorIndex := 173, attributes := #[] }, { accessFlags := 8, nameIndex := 344, descriptorIndex := 339, attributes := #[] }, { accessFlags := 8, nameIndex := 338, descriptorIndex := 339, attributes := #[] }, { accessFlags := 4120, nameIndex := 245, descriptorIndex := 246, attributes := #[] }])
  fields := #[{ name := "E", type := .double, accessFlags := 25, slot := 0, constantValue := 0 }, { name := "PI", type := .double, accessFlags := 25, slot := 1, constantValue := 0 }, { name := "TAU", type := .double, accessFlags := 25, slot := 2, constantValue := 0 }, { name := "DEGREES_TO_RADIANS", type := .double, accessFlags := 26, slot := 3, constantValue := 0 }, { name := "RADIANS_TO_DEGREES", type := .double, accessFlags := 26, slot := 4, constantValue := 0 }, { name := "negativeZeroFloatBits", type := .long, accessFlags := 26, slot := 5, constantValue := 0 }, { name := "negativeZeroDoubleBits", type := .long, accessFlags := 26, slot := 6, constantValue := 0 }, { name := "twoToTheDoubleScaleUp", type := .double, accessFlags := 8, slot := 7, constantValue := 0 }, { name := "twoToTheDoubleScaleDown", type := .double, accessFlags := 8, slot := 8, constantValue := 0 }, { name := "$assertionsDisabled", type := .boolean, accessFlags := 4120, slot := 9, constantValue := 0 }]
  methods := #[k11m0, k11m1, k11m2, k11m3]
  instanceTypes := #[]
  staticTypes := #[.double, .double, .double, .double, .double, .long, .long, .double, .double, .boolean]
  resolved := Array.replicate 460 none
  statics := none }

def pool12 : Array CpInfo := pool [(1, .class_ 2), (0, u "java/lang/Integer"), (16, u "digits"), (0, u "[C"), (30, .methodref 1 52), (0, .nameAndType 53 54), (0, u "numberOfLeadingZeros"), (0, u "(I)I"), (30, u "DigitOnes"), (0, u "[B"), (2, u "DigitTens"), (37, .integer 2147483648), (61, .class_ 190), (0, u "java/lang/Integer$IntegerCache"), (3, u "I"), (8, .class_ 204), (0, u "java/lang/Number"), (2, u "value"), (56, .integer 65536), (37, u "TYPE"), (0, u "Ljava/lang/Class;"), (0, .class_ 305), (0, u "java/lang/Comparable"), (0, .class_ 307), (0, u "java/lang/constant/Constable"), (0, .class_ 309), (0, u "java/lang/constant/ConstantDesc"), (0, u "MIN_VALUE"), (1, u "MAX_VALUE"), (3, u "SIZE"), (1, u "BYTES"), (1, u "serialVersionUID"), (0, u "J"), (81, u "highestOneBit")] 49

def k12c0 : Code := { maxStack := 3, maxLocals := 1, code := jdk_33_method_45_code, exceptionTable := #[], attributes := #[] }
def k12m0 : Method := { name := "highestOneBit", desc := "(I)I", sig := { parameters := [.int], returnType := some .int }, accessFlags := 9, code := some k12c0 }
def k12c1 : Code := { maxStack := 3, maxLocals := 2, code := jdk_33_method_47_code, exceptionTable := #[], attributes := #[] }
def k12m1 : Method := { name := "numberOfLeadingZeros", desc := "(I)I", sig := { parameters := [.int], returnType := some .int }, accessFlags := 9, code := some k12c1 }
/-- java/lang/Integer -/
def k12 : Class := { plain "java/lang/Integer" (some 3) with
  accessFlags := 49
  interfaces := #[4, 5, 6]
  cf := some (fileOf pool12 1 #[.nestMembers #[189]] #[{ accessFlags := 9, nameIndex := 403, descriptorIndex := 54, attributes := #[] }, { accessFlags := 9, nameIndex := 53, descriptorIndex := 54, attributes := #[] }] 49 203 #[304, 306, 308] #[{ accessFlags := 25, nameIndex := 310, descriptorIndex := 194, attributes := #[] }, { accessFlags := 25, nameIndex := 312, descriptorIndex := 194, attributes := #[] }, { accessFlags := 25, nameIndex := 302, descriptorIndex := 303, attributes := #[] }, { accessFlags := 24, nameIndex := 19, descriptorIndex := 20, attributes := #[] }, { accessFlags := 24, nameIndex := 89, descriptorIndex := 86, attributes := #[] }, { accessFlags := 24, nameIndex := 85, descriptorIndex := 86, attributes := #[] }, { accessFlags := 18, nameIndex := 207, descriptorIndex := 194, attributes := #[] }, { accessFlags := 25, nameIndex := 316, descriptorIndex := 194, attributes := #[] }, { accessFlags := 25, nameIndex := 318, descriptorIndex := 194, attributes := #[] }, { accessFlags := 26, nameIndex := 320, descriptorIndex := 321, attributes := #[] }])
  fields := #[{ name := "MIN_VALUE", type := .int, accessFlags := 25, slot := 0, constantValue := 0 }, { name := "MAX_VALUE", type := .int, accessFlags := 25, slot := 1, constantValue := 0 }, { name := "TYPE", type := (.object "java/lang/Class"), accessFlags := 25, slot := 2, constantValue := 0 }, { name := "digits", type := (.array .char), accessFlags := 24, slot := 3, constantValue := 0 }, { name := "DigitTens", type := (.array .byte), accessFlags := 24, slot := 4, constantValue := 0 }, { name := "DigitOnes", type := (.array .byte), accessFlags := 24, slot := 5, constantValue := 0 }, { name := "value", type := .int, accessFlags := 18, slot := 0, constantValue := 0 }, { name := "SIZE", type := .int, accessFlags := 25, slot := 6, constantValue := 0 }, { name := "BYTES", type := .int, accessFlags := 25, slot := 7, constantValue := 0 }, { name := "serialVersionUID", type := .long, accessFlags := 26, slot := 8, constantValue := 0 }]
  methods := #[k12m0, k12m1]
  instanceTypes := #[.int]
  staticTypes := #[.int, .int, (.object "java/lang/Class"), (.array .char), (.array .byte), (.array .byte), .int, .int, .long]
  resolved := Array.replicate 453 none
  statics := none }

def pool13 : Array CpInfo := pool [(2, .class_ 4), (1, u "java/lang/Object"), (0, u "<init>"), (0, u "()V"), (7, .class_ 16), (1, u "java/util/Arrays"), (57, .class_ 76), (1, u "java/util/Arrays$NaturalOrder"), (9, .methodref 2 87), (0, .nameAndType 88 89), (0, u "getClass"), (0, u "()Ljava/lang/Class;"), (20, .class_ 111), (0, u "[Ljava/lang/Object;"), (1, .class_ 115), (1, u "java/util/Arrays$LegacyMergeSort"), (1, u "Z"), (32, .methodref 151 152), (0, .class_ 153), (0, .nameAndType 154 155), (0, u "java/lang/System"), (0, u "arraycopy"), (0, u "(Ljava/lang/Object;ILjava/lang/Object;II)V"), (144, .methodref 14 301), (0, .nameAndType 302 303), (0, u "copyOf"), (0, u "([Ljava/lang/Object;ILjava/lang/Class;)[Ljava/lang/Object;"), (0, .methodref 305 306), (0, .class_ 307), (0, .nameAndType 308 309), (0, u "java/lang/Math"), (0, u "min"), (0, u "(II)I"), (65, .class_ 376), (0, u "java/util/Arrays$ArrayList"), (68, u "$assertionsDisabled"), (269, u "MIN_ARRAY_SORT_GRAN"), (0, u "I"), (2, u "INSERTIONSORT_THRESHOLD"), (120, u "fill"), (4, u "([II)V"), (14, u "([Ljava/lang/Object;I)[Ljava/lang/Object;"), (114, .class_ 976), (0, u "java/util/Arrays$ArrayItr")] 52

def k13m0 : Method := { name := "<init>", desc := "()V", sig := { parameters := [], returnType := none }, accessFlags := 2, code := none }
def k13c1 : Code := { maxStack := 3, maxLocals := 4, code := jdk_65_method_103_code, exceptionTable := #[], attributes := #[] }
def k13m1 : Method := { name := "fill", desc := "([II)V", sig := { parameters := [(.array .int), .int], returnType := none }, accessFlags := 9, code := some k13c1 }
def k13c2 : Code := { maxStack := 3, maxLocals := 2, code := jdk_65_method_119_code, exceptionTable := #[], attributes := #[] }
def k13m2 : Method := { name := "copyOf", desc := "([Ljava/lang/Object;I)[Ljava/lang/Object;", sig := { parameters := [(.array (.object "java/lang/Object")), .int], returnType := some (.array (.object "java/lang/Object")) }, accessFlags := 9, code := some k13c2 }
def k13c3 : Code := { maxStack := 6, maxLocals := 4, code := jdk_65_method_120_code, exceptionTable := #[], attributes := #[] }
def k13m3 : Method := { name := "copyOf", desc := "([Ljava/lang/Object;ILjava/lang/Class;)[Ljava/lang/Object;", sig := { parameters := [(.array (.object "java/lang/Object")), .int, (.object "java/lang/Class")], returnType := some (.array (.object "java/lang/Object")) }, accessFlags := 9, code := some k13c3 }
/-- java/util/Arrays -/
def k13 : Class := { plain "java/util/Arrays" (some 0) with
  accessFlags := 49
  interfaces := #[]
  cf := some (fileOf pool13 14 #[.nestMembers #[975, 375, 113, 74]] #[{ accessFlags := 2, nameIndex := 5, descriptorIndex := 6, attributes := #[] }, { accessFlags := 9, nameIndex := 840, descriptorIndex := 845, attributes := #[] }, { accessFlags := 9, nameIndex := 302, descriptorIndex := 860, attributes := #[] }, { accessFlags := 9, nameIndex := 302, descriptorIndex := 303, attributes := #[] }] 49 2 #[] #[{ accessFlags := 26, nameIndex := 715, descriptorIndex := 716, attributes := #[] }, { accessFlags := 26, nameIndex := 719, descriptorIndex := 716, attributes := #[] }, { accessFlags := 4120, nameIndex := 445, descriptorIndex := 117, attributes := #[] }])
  fields := #[{ name := "MIN_ARRAY_SORT_GRAN", type := .int, accessFlags := 26, slot := 0, constantValue := 0 }, { name := "INSERTIONSORT_THRESHOLD", type := .int, accessFlags := 26, slot := 1, constantValue := 0 }, { name := "$assertionsDisabled", type := .boolean, accessFlags := 4120, slot := 2, constantValue := 0 }]
  methods := #[k13m0, k13m1, k13m2, k13m3]
  instanceTypes := #[]
  staticTypes := #[.int, .int, .boolean]
  resolved := Array.replicate 1029 none
  statics := none }

def pool14 : Array CpInfo := pool [(2, .class_ 4), (1, u "java/lang/Object"), (0, u "<init>"), (0, u "()V"), (1, .class_ 10), (1, u "java/lang/System"), (0, u "allowSecurityManager"), (0, u "I"), (16, u "cons"), (0, u "Ljava/io/Console;"), (77, .class_ 110), (1, u "java/lang/System$CallersHolder"), (43, u "initialErrStream"), (0, u "Ljava/io/PrintStream;"), (19, u "security"), (0, u "Ljava/lang/SecurityManager;"), (31, .class_ 209), (0, u "java/lang/System$1"), (7, u "props"), (0, u "Ljava/util/Properties;"), (2, u "lineSeparator"), (0, u "Ljava/lang/String;"), (96, .class_ 321), (1, u "java/lang/System$LoggerFinder"), (5, .class_ 328), (0, u "java/lang/System$Logger"), (67, u "err"), (2, u "out"), (91, u "notSupportedJnuEncoding"), (15, u "in"), (17, u "initialIn"), (0, u "Ljava/io/InputStream;"), (35, u "bootLayer"), (0, u "Ljava/lang/ModuleLayer;"), (99, .class_ 664), (0, u "java/lang/System$2"), (9, u "NEVER"), (2, u "MAYBE"), (49, u "arraycopy"), (0, u "(Ljava/lang/Object;ILjava/lang/Object;II)V"), (72, .class_ 802), (0, u "java/lang/System$Logger$Level")] 31

def k14m0 : Method := { name := "<init>", desc := "()V", sig := { parameters := [], returnType := none }, accessFlags := 2, code := none }
def k14m1 : Method := { name := "arraycopy", desc := "(Ljava/lang/Object;ILjava/lang/Object;II)V", sig := { parameters := [(.object "java/lang/Object"), .int, (.object "java/lang/Object"), .int, .int], returnType := none }, accessFlags := 265, code := none }
/-- java/lang/System -/
def k14 : Class := { plain "java/lang/System" (some 0) with
  accessFlags := 49
  interfaces := #[]
  cf := some (fileOf pool14 8 #[.nestMembers #[319, 327, 801, 108, 663, 208]] #[{ accessFlags := 2, nameIndex := 5, descriptorIndex := 6, attributes := #[] }, { accessFlags := 265, nameIndex := 727, descriptorIndex := 728, attributes := #[] }] 49 2 #[] #[{ accessFlags := 25, nameIndex := 507, descriptorIndex := 526, attributes := #[] }, { accessFlags := 25, nameIndex := 399, descriptorIndex := 155, attributes := #[] }, { accessFlags := 25, nameIndex := 396, descriptorIndex := 155, attributes := #[] }, { accessFlags := 10, nameIndex := 525, descriptorIndex := 526, attributes := #[] }, { accessFlags := 26, nameIndex := 674, descriptorIndex := 12, attributes := #[] }, { accessFlags := 26, nameIndex := 677, descriptorIndex := 12, attributes := #[] }, { accessFlags := 10, nameIndex := 11, descriptorIndex := 12, attributes := #[] }, { accessFlags := 74, nameIndex := 175, descriptorIndex := 176, attributes := #[] }, { accessFlags := 10, nameIndex := 491, descriptorIndex := 222, attributes := #[] }, { accessFlags := 74, nameIndex := 29, descriptorIndex := 30, attributes := #[] }, { accessFlags := 74, nameIndex := 154, descriptorIndex := 155, attributes := #[] }, { accessFlags := 10, nameIndex := 217, descriptorIndex := 218, attributes := #[] }, { accessFlags := 10, nameIndex := 221, descriptorIndex := 222, attributes := #[] }, { accessFlags := 8, nameIndex := 562, descriptorIndex := 563, attributes := #[] }])
  fields := #[{ name := "in", type := (.object "java/io/InputStream"), accessFlags := 25, slot := 0, constantValue := 0 }, { name := "out", type := (.object "java/io/PrintStream"), accessFlags := 25, slot := 1, constantValue := 0 }, { name := "err", type := (.object "java/io/PrintStream"), accessFlags := 25, slot := 2, constantValue := 0 }, { name := "initialIn", type := (.object "java/io/InputStream"), accessFlags := 10, slot := 3, constantValue := 0 }, { name := "NEVER", type := .int, accessFlags := 26, slot := 4, constantValue := 0 }, { name := "MAYBE", type := .int, accessFlags := 26, slot := 5, constantValue := 0 }, { name := "allowSecurityManager", type := .int, accessFlags := 10, slot := 6, constantValue := 0 }, { name := "security", type := (.object "java/lang/SecurityManager"), accessFlags := 74, slot := 7, constantValue := 0 }, { name := "notSupportedJnuEncoding", type := (.object "java/lang/String"), accessFlags := 10, slot := 8, constantValue := 0 }, { name := "cons", type := (.object "java/io/Console"), accessFlags := 74, slot := 9, constantValue := 0 }, { name := "initialErrStream", type := (.object "java/io/PrintStream"), accessFlags := 74, slot := 10, constantValue := 0 }, { name := "props", type := (.object "java/util/Properties"), accessFlags := 10, slot := 11, constantValue := 0 }, { name := "lineSeparator", type := (.object "java/lang/String"), accessFlags := 10, slot := 12, constantValue := 0 }, { name := "bootLayer", type := (.object "java/lang/ModuleLayer"), accessFlags := 8, slot := 13, constantValue := 0 }]
  methods := #[k14m0, k14m1]
  instanceTypes := #[]
  staticTypes := #[(.object "java/io/InputStream"), (.object "java/io/PrintStream"), (.object "java/io/PrintStream"), (.object "java/io/InputStream"), .int, .int, .int, (.object "java/lang/SecurityManager"), (.object "java/lang/String"), (.object "java/io/Console"), (.object "java/io/PrintStream"), (.object "java/util/Properties"), (.object "java/lang/String"), (.object "java/lang/ModuleLayer")]
  resolved := Array.replicate 834 none
  statics := none }

def pool15 : Array CpInfo := pool [(1, u "java/lang/Class"), (0, .class_ 1), (0, u "java/lang/Object"), (0, .class_ 3)] 0

/-- java/lang/Class -/
def k15 : Class := { plain "java/lang/Class" (some 0) with
  accessFlags := 49
  interfaces := #[]
  cf := some (fileOf pool15 2 #[] #[] 49 4 #[] #[])
  fields := #[]
  methods := #[]
  instanceTypes := #[]
  staticTypes := #[]
  resolved := Array.replicate 5 none
  statics := none }

def pool16 : Array CpInfo := pool [(1, u "java/lang/Cloneable"), (0, .class_ 1), (0, u "java/lang/Object"), (0, .class_ 3)] 3

/-- java/lang/Cloneable -/
def k16 : Class := { plain "java/lang/Cloneable" (some 0) with
  accessFlags := 1537
  interfaces := #[]
  cf := some (fileOf pool16 2 #[] #[] 1537 4 #[] #[])
  fields := #[]
  methods := #[]
  instanceTypes := #[]
  staticTypes := #[]
  resolved := Array.replicate 8 none
  statics := none }

/-- the primitive byte -/
def k17 : Class := { plain "byte" none with kind := .primitive 'B', accessFlags := 0x411 }
/-- [B -/
def k18 : Class := { plain "[B" (some 0) with kind := .array 17 .byte, interfaces := #[16, 2], accessFlags := 1041 }

/-- the primitive int -/
def k19 : Class := { plain "int" none with kind := .primitive 'I', accessFlags := 0x411 }
/-- [I -/
def k20 : Class := { plain "[I" (some 0) with kind := .array 19 .int, interfaces := #[16, 2], accessFlags := 1041 }

/-- [Ljava/lang/Long; -/
def k21 : Class := { plain "[Ljava/lang/Long;" (some 0) with kind := .array 7 (.object "java/lang/Long"), interfaces := #[16, 2], accessFlags := 1041 }

/-- [Ljava/lang/Object; -/
def k22 : Class := { plain "[Ljava/lang/Object;" (some 0) with kind := .array 0 (.object "java/lang/Object"), interfaces := #[16, 2], accessFlags := 1041, mirror := some 2 }

def heap : Heap := #[{ cls := 8, slots := #[.ref 3, .int 0], vm := .statics 8 },
  { cls := 9, slots := #[.ref 4, .null, .int 0], vm := .statics 9 },
  { cls := 15, slots := #[], vm := .mirror 22 },
  { cls := 22, slots := #[], vm := .none },
  { cls := 21, slots := #[.ref 5, .ref 6, .ref 7, .ref 8, .ref 9, .ref 10, .ref 11, .ref 12, .ref 13, .ref 14, .ref 15, .ref 16, .ref 17, .ref 18, .ref 19, .ref 20, .ref 21, .ref 22, .ref 23, .ref 24, .ref 25, .ref 26, .ref 27, .ref 28, .ref 29, .ref 30, .ref 31, .ref 32, .ref 33, .ref 34, .ref 35, .ref 36, .ref 37, .ref 38, .ref 39, .ref 40, .ref 41, .ref 42, .ref 43, .ref 44, .ref 45, .ref 46, .ref 47, .ref 48, .ref 49, .ref 50, .ref 51, .ref 52, .ref 53, .ref 54, .ref 55, .ref 56, .ref 57, .ref 58, .ref 59, .ref 60, .ref 61, .ref 62, .ref 63, .ref 64, .ref 65, .ref 66, .ref 67, .ref 68, .ref 69, .ref 70, .ref 71, .ref 72, .ref 73, .ref 74, .ref 75, .ref 76, .ref 77, .ref 78, .ref 79, .ref 80, .ref 81, .ref 82, .ref 83, .ref 84, .ref 85, .ref 86, .ref 87, .ref 88, .ref 89, .ref 90, .ref 91, .ref 92, .ref 93, .ref 94, .ref 95, .ref 96, .ref 97, .ref 98, .ref 99, .ref 100, .ref 101, .ref 102, .ref 103, .ref 104, .ref 105, .ref 106, .ref 107, .ref 108, .ref 109, .ref 110, .ref 111, .ref 112, .ref 113, .ref 114, .ref 115, .ref 116, .ref 117, .ref 118, .ref 119, .ref 120, .ref 121, .ref 122, .ref 123, .ref 124, .ref 125, .ref 126, .ref 127, .ref 128, .ref 129, .ref 130, .ref 131, .ref 132, .ref 133, .ref 134, .ref 135, .ref 136, .ref 137, .ref 138, .ref 139, .ref 140, .ref 141, .ref 142, .ref 143, .ref 144, .ref 145, .ref 146, .ref 147, .ref 148, .ref 149, .ref 150, .ref 151, .ref 152, .ref 153, .ref 154, .ref 155, .ref 156, .ref 157, .ref 158, .ref 159, .ref 160, .ref 161, .ref 162, .ref 163, .ref 164, .ref 165, .ref 166, .ref 167, .ref 168, .ref 169, .ref 170, .ref 171, .ref 172, .ref 173, .ref 174, .ref 175, .ref 176, .ref 177, .ref 178, .ref 179, .ref 180, .ref 181, .ref 182, .ref 183, .ref 184, .ref 185, .ref 186, .ref 187, .ref 188, .ref 189, .ref 190, .ref 191, .ref 192, .ref 193, .ref 194, .ref 195, .ref 196, .ref 197, .ref 198, .ref 199, .ref 200, .ref 201, .ref 202, .ref 203, .ref 204, .ref 205, .ref 206, .ref 207, .ref 208, .ref 209, .ref 210, .ref 211, .ref 212, .ref 213, .ref 214, .ref 215, .ref 216, .ref 217, .ref 218, .ref 219, .ref 220, .ref 221, .ref 222, .ref 223, .ref 224, .ref 225, .ref 226, .ref 227, .ref 228, .ref 229, .ref 230, .ref 231, .ref 232, .ref 233, .ref 234, .ref 235, .ref 236, .ref 237, .ref 238, .ref 239, .ref 240, .ref 241, .ref 242, .ref 243, .ref 244, .ref 245, .ref 246, .ref 247, .ref 248, .ref 249, .ref 250, .ref 251, .ref 252, .ref 253, .ref 254, .ref 255, .ref 256, .ref 257, .ref 258, .ref 259, .ref 260], vm := .none },
  { cls := 7, slots := #[.long (-128)], vm := .none },
  { cls := 7, slots := #[.long (-127)], vm := .none },
  { cls := 7, slots := #[.long (-126)], vm := .none },
  { cls := 7, slots := #[.long (-125)], vm := .none },
  { cls := 7, slots := #[.long (-124)], vm := .none },
  { cls := 7, slots := #[.long (-123)], vm := .none },
  { cls := 7, slots := #[.long (-122)], vm := .none },
  { cls := 7, slots := #[.long (-121)], vm := .none },
  { cls := 7, slots := #[.long (-120)], vm := .none },
  { cls := 7, slots := #[.long (-119)], vm := .none },
  { cls := 7, slots := #[.long (-118)], vm := .none },
  { cls := 7, slots := #[.long (-117)], vm := .none },
  { cls := 7, slots := #[.long (-116)], vm := .none },
  { cls := 7, slots := #[.long (-115)], vm := .none },
  { cls := 7, slots := #[.long (-114)], vm := .none },
  { cls := 7, slots := #[.long (-113)], vm := .none },
  { cls := 7, slots := #[.long (-112)], vm := .none },
  { cls := 7, slots := #[.long (-111)], vm := .none },
  { cls := 7, slots := #[.long (-110)], vm := .none },
  { cls := 7, slots := #[.long (-109)], vm := .none },
  { cls := 7, slots := #[.long (-108)], vm := .none },
  { cls := 7, slots := #[.long (-107)], vm := .none },
  { cls := 7, slots := #[.long (-106)], vm := .none },
  { cls := 7, slots := #[.long (-105)], vm := .none },
  { cls := 7, slots := #[.long (-104)], vm := .none },
  { cls := 7, slots := #[.long (-103)], vm := .none },
  { cls := 7, slots := #[.long (-102)], vm := .none },
  { cls := 7, slots := #[.long (-101)], vm := .none },
  { cls := 7, slots := #[.long (-100)], vm := .none },
  { cls := 7, slots := #[.long (-99)], vm := .none },
  { cls := 7, slots := #[.long (-98)], vm := .none },
  { cls := 7, slots := #[.long (-97)], vm := .none },
  { cls := 7, slots := #[.long (-96)], vm := .none },
  { cls := 7, slots := #[.long (-95)], vm := .none },
  { cls := 7, slots := #[.long (-94)], vm := .none },
  { cls := 7, slots := #[.long (-93)], vm := .none },
  { cls := 7, slots := #[.long (-92)], vm := .none },
  { cls := 7, slots := #[.long (-91)], vm := .none },
  { cls := 7, slots := #[.long (-90)], vm := .none },
  { cls := 7, slots := #[.long (-89)], vm := .none },
  { cls := 7, slots := #[.long (-88)], vm := .none },
  { cls := 7, slots := #[.long (-87)], vm := .none },
  { cls := 7, slots := #[.long (-86)], vm := .none },
  { cls := 7, slots := #[.long (-85)], vm := .none },
  { cls := 7, slots := #[.long (-84)], vm := .none },
  { cls := 7, slots := #[.long (-83)], vm := .none },
  { cls := 7, slots := #[.long (-82)], vm := .none },
  { cls := 7, slots := #[.long (-81)], vm := .none },
  { cls := 7, slots := #[.long (-80)], vm := .none },
  { cls := 7, slots := #[.long (-79)], vm := .none },
  { cls := 7, slots := #[.long (-78)], vm := .none },
  { cls := 7, slots := #[.long (-77)], vm := .none },
  { cls := 7, slots := #[.long (-76)], vm := .none },
  { cls := 7, slots := #[.long (-75)], vm := .none },
  { cls := 7, slots := #[.long (-74)], vm := .none },
  { cls := 7, slots := #[.long (-73)], vm := .none },
  { cls := 7, slots := #[.long (-72)], vm := .none },
  { cls := 7, slots := #[.long (-71)], vm := .none },
  { cls := 7, slots := #[.long (-70)], vm := .none },
  { cls := 7, slots := #[.long (-69)], vm := .none },
  { cls := 7, slots := #[.long (-68)], vm := .none },
  { cls := 7, slots := #[.long (-67)], vm := .none },
  { cls := 7, slots := #[.long (-66)], vm := .none },
  { cls := 7, slots := #[.long (-65)], vm := .none },
  { cls := 7, slots := #[.long (-64)], vm := .none },
  { cls := 7, slots := #[.long (-63)], vm := .none },
  { cls := 7, slots := #[.long (-62)], vm := .none },
  { cls := 7, slots := #[.long (-61)], vm := .none },
  { cls := 7, slots := #[.long (-60)], vm := .none },
  { cls := 7, slots := #[.long (-59)], vm := .none },
  { cls := 7, slots := #[.long (-58)], vm := .none },
  { cls := 7, slots := #[.long (-57)], vm := .none },
  { cls := 7, slots := #[.long (-56)], vm := .none },
  { cls := 7, slots := #[.long (-55)], vm := .none },
  { cls := 7, slots := #[.long (-54)], vm := .none },
  { cls := 7, slots := #[.long (-53)], vm := .none },
  { cls := 7, slots := #[.long (-52)], vm := .none },
  { cls := 7, slots := #[.long (-51)], vm := .none },
  { cls := 7, slots := #[.long (-50)], vm := .none },
  { cls := 7, slots := #[.long (-49)], vm := .none },
  { cls := 7, slots := #[.long (-48)], vm := .none },
  { cls := 7, slots := #[.long (-47)], vm := .none },
  { cls := 7, slots := #[.long (-46)], vm := .none },
  { cls := 7, slots := #[.long (-45)], vm := .none },
  { cls := 7, slots := #[.long (-44)], vm := .none },
  { cls := 7, slots := #[.long (-43)], vm := .none },
  { cls := 7, slots := #[.long (-42)], vm := .none },
  { cls := 7, slots := #[.long (-41)], vm := .none },
  { cls := 7, slots := #[.long (-40)], vm := .none },
  { cls := 7, slots := #[.long (-39)], vm := .none },
  { cls := 7, slots := #[.long (-38)], vm := .none },
  { cls := 7, slots := #[.long (-37)], vm := .none },
  { cls := 7, slots := #[.long (-36)], vm := .none },
  { cls := 7, slots := #[.long (-35)], vm := .none },
  { cls := 7, slots := #[.long (-34)], vm := .none },
  { cls := 7, slots := #[.long (-33)], vm := .none },
  { cls := 7, slots := #[.long (-32)], vm := .none },
  { cls := 7, slots := #[.long (-31)], vm := .none },
  { cls := 7, slots := #[.long (-30)], vm := .none },
  { cls := 7, slots := #[.long (-29)], vm := .none },
  { cls := 7, slots := #[.long (-28)], vm := .none },
  { cls := 7, slots := #[.long (-27)], vm := .none },
  { cls := 7, slots := #[.long (-26)], vm := .none },
  { cls := 7, slots := #[.long (-25)], vm := .none },
  { cls := 7, slots := #[.long (-24)], vm := .none },
  { cls := 7, slots := #[.long (-23)], vm := .none },
  { cls := 7, slots := #[.long (-22)], vm := .none },
  { cls := 7, slots := #[.long (-21)], vm := .none },
  { cls := 7, slots := #[.long (-20)], vm := .none },
  { cls := 7, slots := #[.long (-19)], vm := .none },
  { cls := 7, slots := #[.long (-18)], vm := .none },
  { cls := 7, slots := #[.long (-17)], vm := .none },
  { cls := 7, slots := #[.long (-16)], vm := .none },
  { cls := 7, slots := #[.long (-15)], vm := .none },
  { cls := 7, slots := #[.long (-14)], vm := .none },
  { cls := 7, slots := #[.long (-13)], vm := .none },
  { cls := 7, slots := #[.long (-12)], vm := .none },
  { cls := 7, slots := #[.long (-11)], vm := .none },
  { cls := 7, slots := #[.long (-10)], vm := .none },
  { cls := 7, slots := #[.long (-9)], vm := .none },
  { cls := 7, slots := #[.long (-8)], vm := .none },
  { cls := 7, slots := #[.long (-7)], vm := .none },
  { cls := 7, slots := #[.long (-6)], vm := .none },
  { cls := 7, slots := #[.long (-5)], vm := .none },
  { cls := 7, slots := #[.long (-4)], vm := .none },
  { cls := 7, slots := #[.long (-3)], vm := .none },
  { cls := 7, slots := #[.long (-2)], vm := .none },
  { cls := 7, slots := #[.long (-1)], vm := .none },
  { cls := 7, slots := #[.long 0], vm := .none },
  { cls := 7, slots := #[.long 1], vm := .none },
  { cls := 7, slots := #[.long 2], vm := .none },
  { cls := 7, slots := #[.long 3], vm := .none },
  { cls := 7, slots := #[.long 4], vm := .none },
  { cls := 7, slots := #[.long 5], vm := .none },
  { cls := 7, slots := #[.long 6], vm := .none },
  { cls := 7, slots := #[.long 7], vm := .none },
  { cls := 7, slots := #[.long 8], vm := .none },
  { cls := 7, slots := #[.long 9], vm := .none },
  { cls := 7, slots := #[.long 10], vm := .none },
  { cls := 7, slots := #[.long 11], vm := .none },
  { cls := 7, slots := #[.long 12], vm := .none },
  { cls := 7, slots := #[.long 13], vm := .none },
  { cls := 7, slots := #[.long 14], vm := .none },
  { cls := 7, slots := #[.long 15], vm := .none },
  { cls := 7, slots := #[.long 16], vm := .none },
  { cls := 7, slots := #[.long 17], vm := .none },
  { cls := 7, slots := #[.long 18], vm := .none },
  { cls := 7, slots := #[.long 19], vm := .none },
  { cls := 7, slots := #[.long 20], vm := .none },
  { cls := 7, slots := #[.long 21], vm := .none },
  { cls := 7, slots := #[.long 22], vm := .none },
  { cls := 7, slots := #[.long 23], vm := .none },
  { cls := 7, slots := #[.long 24], vm := .none },
  { cls := 7, slots := #[.long 25], vm := .none },
  { cls := 7, slots := #[.long 26], vm := .none },
  { cls := 7, slots := #[.long 27], vm := .none },
  { cls := 7, slots := #[.long 28], vm := .none },
  { cls := 7, slots := #[.long 29], vm := .none },
  { cls := 7, slots := #[.long 30], vm := .none },
  { cls := 7, slots := #[.long 31], vm := .none },
  { cls := 7, slots := #[.long 32], vm := .none },
  { cls := 7, slots := #[.long 33], vm := .none },
  { cls := 7, slots := #[.long 34], vm := .none },
  { cls := 7, slots := #[.long 35], vm := .none },
  { cls := 7, slots := #[.long 36], vm := .none },
  { cls := 7, slots := #[.long 37], vm := .none },
  { cls := 7, slots := #[.long 38], vm := .none },
  { cls := 7, slots := #[.long 39], vm := .none },
  { cls := 7, slots := #[.long 40], vm := .none },
  { cls := 7, slots := #[.long 41], vm := .none },
  { cls := 7, slots := #[.long 42], vm := .none },
  { cls := 7, slots := #[.long 43], vm := .none },
  { cls := 7, slots := #[.long 44], vm := .none },
  { cls := 7, slots := #[.long 45], vm := .none },
  { cls := 7, slots := #[.long 46], vm := .none },
  { cls := 7, slots := #[.long 47], vm := .none },
  { cls := 7, slots := #[.long 48], vm := .none },
  { cls := 7, slots := #[.long 49], vm := .none },
  { cls := 7, slots := #[.long 50], vm := .none },
  { cls := 7, slots := #[.long 51], vm := .none },
  { cls := 7, slots := #[.long 52], vm := .none },
  { cls := 7, slots := #[.long 53], vm := .none },
  { cls := 7, slots := #[.long 54], vm := .none },
  { cls := 7, slots := #[.long 55], vm := .none },
  { cls := 7, slots := #[.long 56], vm := .none },
  { cls := 7, slots := #[.long 57], vm := .none },
  { cls := 7, slots := #[.long 58], vm := .none },
  { cls := 7, slots := #[.long 59], vm := .none },
  { cls := 7, slots := #[.long 60], vm := .none },
  { cls := 7, slots := #[.long 61], vm := .none },
  { cls := 7, slots := #[.long 62], vm := .none },
  { cls := 7, slots := #[.long 63], vm := .none },
  { cls := 7, slots := #[.long 64], vm := .none },
  { cls := 7, slots := #[.long 65], vm := .none },
  { cls := 7, slots := #[.long 66], vm := .none },
  { cls := 7, slots := #[.long 67], vm := .none },
  { cls := 7, slots := #[.long 68], vm := .none },
  { cls := 7, slots := #[.long 69], vm := .none },
  { cls := 7, slots := #[.long 70], vm := .none },
  { cls := 7, slots := #[.long 71], vm := .none },
  { cls := 7, slots := #[.long 72], vm := .none },
  { cls := 7, slots := #[.long 73], vm := .none },
  { cls := 7, slots := #[.long 74], vm := .none },
  { cls := 7, slots := #[.long 75], vm := .none },
  { cls := 7, slots := #[.long 76], vm := .none },
  { cls := 7, slots := #[.long 77], vm := .none },
  { cls := 7, slots := #[.long 78], vm := .none },
  { cls := 7, slots := #[.long 79], vm := .none },
  { cls := 7, slots := #[.long 80], vm := .none },
  { cls := 7, slots := #[.long 81], vm := .none },
  { cls := 7, slots := #[.long 82], vm := .none },
  { cls := 7, slots := #[.long 83], vm := .none },
  { cls := 7, slots := #[.long 84], vm := .none },
  { cls := 7, slots := #[.long 85], vm := .none },
  { cls := 7, slots := #[.long 86], vm := .none },
  { cls := 7, slots := #[.long 87], vm := .none },
  { cls := 7, slots := #[.long 88], vm := .none },
  { cls := 7, slots := #[.long 89], vm := .none },
  { cls := 7, slots := #[.long 90], vm := .none },
  { cls := 7, slots := #[.long 91], vm := .none },
  { cls := 7, slots := #[.long 92], vm := .none },
  { cls := 7, slots := #[.long 93], vm := .none },
  { cls := 7, slots := #[.long 94], vm := .none },
  { cls := 7, slots := #[.long 95], vm := .none },
  { cls := 7, slots := #[.long 96], vm := .none },
  { cls := 7, slots := #[.long 97], vm := .none },
  { cls := 7, slots := #[.long 98], vm := .none },
  { cls := 7, slots := #[.long 99], vm := .none },
  { cls := 7, slots := #[.long 100], vm := .none },
  { cls := 7, slots := #[.long 101], vm := .none },
  { cls := 7, slots := #[.long 102], vm := .none },
  { cls := 7, slots := #[.long 103], vm := .none },
  { cls := 7, slots := #[.long 104], vm := .none },
  { cls := 7, slots := #[.long 105], vm := .none },
  { cls := 7, slots := #[.long 106], vm := .none },
  { cls := 7, slots := #[.long 107], vm := .none },
  { cls := 7, slots := #[.long 108], vm := .none },
  { cls := 7, slots := #[.long 109], vm := .none },
  { cls := 7, slots := #[.long 110], vm := .none },
  { cls := 7, slots := #[.long 111], vm := .none },
  { cls := 7, slots := #[.long 112], vm := .none },
  { cls := 7, slots := #[.long 113], vm := .none },
  { cls := 7, slots := #[.long 114], vm := .none },
  { cls := 7, slots := #[.long 115], vm := .none },
  { cls := 7, slots := #[.long 116], vm := .none },
  { cls := 7, slots := #[.long 117], vm := .none },
  { cls := 7, slots := #[.long 118], vm := .none },
  { cls := 7, slots := #[.long 119], vm := .none },
  { cls := 7, slots := #[.long 120], vm := .none },
  { cls := 7, slots := #[.long 121], vm := .none },
  { cls := 7, slots := #[.long 122], vm := .none },
  { cls := 7, slots := #[.long 123], vm := .none },
  { cls := 7, slots := #[.long 124], vm := .none },
  { cls := 7, slots := #[.long 125], vm := .none },
  { cls := 7, slots := #[.long 126], vm := .none },
  { cls := 7, slots := #[.long 127], vm := .none }]
def classes : Array Class := #[k0, k1, k2, k3, k4, k5, k6, k7, k8, k9, k10, k11, k12, k13, k14, k15, k16, k17, k18, k19, k20, k21, k22]
def interned : List (Array UInt16 × Addr) := []
def slotsUsed : Nat := 517
def theMethod : MethodId := ⟨1, 1⟩
def args0 : Array Value := #[.int 5, .int 3, .int 7, .long 9]
def aboutOver (below : List Frame) : State where
  vm := { classes := classes, interned := interned.toArray }
  heap := heap
  slotsUsed := slotsUsed
  threads := #[{ frames := .invoking theMethod args0 :: below }]
def below0 : List Frame := [.native { method := ⟨0, 0⟩, args := #[] }]
def about1 : State := aboutOver below0
def p0 : Program := .bare "" "" ""
def e0 : Env := launch0.env 0 0 0
theorem w_frames : about1.frames = Frame.invoking theMethod args0 :: below0 := rfl
set_option maxRecDepth 65536 in
theorem w_args : argsFit about1.vm theMethod args0 = true := by decide +kernel
set_option maxRecDepth 65536 in
theorem w_heap : heapFits about1 = true := by decide +kernel
set_option maxRecDepth 65536 in
theorem w_runnable : about1.curStatus? = some .runnable := by decide +kernel
set_option maxRecDepth 65536 in
theorem w_alone : about1.alone = true := by decide +kernel
set_option maxRecDepth 65536 in
theorem w_named : about1.methodNamed? x = some theMethod := by decide +kernel
set_option maxRecDepth 65536 in
theorem w_hears : about1.hears theMethod below0 = true := by decide +kernel
set_option maxRecDepth 65536 in
theorem w_ripe : about1.ripe theMethod args0 below0 = true := by decide +kernel
theorem w_running : about1.status = .running := rfl
set_option maxRecDepth 65536 in
theorem w_room : about1.hasRoom e0.platform room_1 = true :=
  launch0.hasRoom_least _ room_1 (by decide +kernel) (by decide +kernel) (by decide +kernel) (by decide +kernel) (by decide +kernel) (by decide +kernel)
theorem allAtoms_all (ts : List Jvm.Cond) (a : Array Jvm.Value) (st : Jvm.State) : (allAtoms ts).before a st = ts.all (fun c => c.before a st) := by
  induction ts with
  | nil => rfl
  | cons c t ih =>
    show (Jvm.Cond.and c (allAtoms t)).before a st = _
    rw [Jvm.Cond.before_and, ih, List.all_cons]
def words1 : List Jvm.Cond := Jvm.Cond.code x code maxLocals ret :: tables_1
/-- a 'code' word, met by the world's own term for the bytes: nothing is compared byte by byte -/
theorem code_word {y : MethodName} {bytes : ByteArray} {mx : Nat} {rt : Option FieldType} {a : Array Value} {s : State} {m : MethodId} {meth : Method} {c : Code} (h1 : s.methodNamed? y = some m) (h2 : s.vm.method? m = some meth) (h3 : meth.code = some c) (h4 : c.code = bytes)
    (h5 : (c.maxLocals == mx && c.exceptionTable.isEmpty && decide (c.maxStack ≤ mostOperands) && decide (meth.sig.returnType = rt) && !meth.locks && decide (parseMethodDescriptor y.desc = some meth.sig)) = true) : (Jvm.Cond.code y bytes mx rt).before a s = true := by
  simp only [Bool.and_eq_true, beq_iff_eq, Bool.not_eq_true', decide_eq_true_eq] at h5
  obtain ⟨⟨⟨⟨⟨g1, g2⟩, g3⟩, g4⟩, g5⟩, g6⟩ := h5
  simp [Cond.before, Cond.holds, Cond.value, h1, h2, h3, h4, g1, g2, g3, g4, g5, g6]
def isCode : Jvm.Cond → Bool
  | .code _ _ _ _ => true
  | _ => false
theorem all_split {L : List Jvm.Cond} {P : Jvm.Cond → Bool} (h1 : L.all (fun c => isCode c || P c) = true) (h2 : ∀ c ∈ L.filter isCode, P c = true) : L.all P = true := by
  refine List.all_eq_true.mpr fun c hc => ?_
  have h := List.all_eq_true.mp h1 c hc
  rcases Bool.eq_false_or_eq_true (isCode c) with hi | hi
  · exact h2 c (List.mem_filter.mpr ⟨hc, hi⟩)
  · simpa [hi] using h
set_option maxRecDepth 65536 in
theorem w_c0 : (Jvm.Cond.code x code maxLocals ret).before args0 about1 = true := code_word (m := ⟨1, 1⟩) (meth := k1m1) (c := k1c1) (by decide +kernel) rfl rfl rfl (by decide +kernel)
set_option maxRecDepth 65536 in
theorem w_c1 : (Jvm.Cond.code ({ cls := "java/lang/Long", name := "valueOf", desc := "(J)Ljava/lang/Long;" } : Jvm.MethodName) jdk_35_method_24_code (3 : Nat) (Option.some (Jvm.ClassFile.FieldType.object "java/lang/Long"))).before args0 about1 = true := code_word (m := ⟨7, 0⟩) (meth := k7m0) (c := k7c0) (by decide +kernel) rfl rfl rfl (by decide +kernel)
set_option maxRecDepth 65536 in
theorem w_c2 : (Jvm.Cond.code ({ cls := "java/lang/Long", name := "<init>", desc := "(J)V" } : Jvm.MethodName) jdk_35_method_26_code (3 : Nat) (Option.none : Option Jvm.ClassFile.FieldType)).before args0 about1 = true := code_word (m := ⟨7, 1⟩) (meth := k7m1) (c := k7c1) (by decide +kernel) rfl rfl rfl (by decide +kernel)
set_option maxRecDepth 65536 in
theorem w_c3 : (Jvm.Cond.code ({ cls := "java/lang/Number", name := "<init>", desc := "()V" } : Jvm.MethodName) jdk_18_method_1_code (1 : Nat) (Option.none : Option Jvm.ClassFile.FieldType)).before args0 about1 = true := code_word (m := ⟨3, 0⟩) (meth := k3m0) (c := k3c0) (by decide +kernel) rfl rfl rfl (by decide +kernel)
set_option maxRecDepth 65536 in
theorem w_c4 : (Jvm.Cond.code ({ cls := "java/lang/Object", name := "<init>", desc := "()V" } : Jvm.MethodName) object_method_1_code (1 : Nat) (Option.none : Option Jvm.ClassFile.FieldType)).before args0 about1 = true := code_word (m := ⟨0, 0⟩) (meth := k0m0) (c := k0c0) (by decide +kernel) rfl rfl rfl (by decide +kernel)
set_option maxRecDepth 65536 in
theorem w_c5 : (Jvm.Cond.code ({ cls := "com/example/plainsong/plainsong/engine/Table", name := "<init>", desc := "()V" } : Jvm.MethodName) prog_60_method_1_code (1 : Nat) (Option.none : Option Jvm.ClassFile.FieldType)).before args0 about1 = true := code_word (m := ⟨8, 0⟩) (meth := k8m0) (c := k8c0) (by decide +kernel) rfl rfl rfl (by decide +kernel)
set_option maxRecDepth 65536 in
theorem w_c6 : (Jvm.Cond.code ({ cls := "com/example/plainsong/plainsong/engine/Table", name := "put", desc := "(JLjava/lang/Object;)V" } : Jvm.MethodName) prog_60_method_7_code (4 : Nat) (Option.none : Option Jvm.ClassFile.FieldType)).before args0 about1 = true := code_word (m := ⟨8, 1⟩) (meth := k8m1) (c := k8c1) (by decide +kernel) rfl rfl rfl (by decide +kernel)
set_option maxRecDepth 65536 in
theorem w_c7 : (Jvm.Cond.code ({ cls := "com/example/plainsong/plainsong/engine/Table", name := "putInHash", desc := "(Ljava/lang/Object;Ljava/lang/Object;)V" } : Jvm.MethodName) prog_60_method_17_code (3 : Nat) (Option.none : Option Jvm.ClassFile.FieldType)).before args0 about1 = true := code_word (m := ⟨8, 6⟩) (meth := k8m6) (c := k8c6) (by decide +kernel) rfl rfl rfl (by decide +kernel)
set_option maxRecDepth 65536 in
theorem w_c8 : (Jvm.Cond.code ({ cls := "com/example/plainsong/plainsong/engine/HashPart", name := "<init>", desc := "(I)V" } : Jvm.MethodName) prog_46_method_1_code (2 : Nat) (Option.none : Option Jvm.ClassFile.FieldType)).before args0 about1 = true := code_word (m := ⟨10, 0⟩) (meth := k10m0) (c := k10c0) (by decide +kernel) rfl rfl rfl (by decide +kernel)
set_option maxRecDepth 65536 in
theorem w_c9 : (Jvm.Cond.code ({ cls := "com/example/plainsong/plainsong/engine/HashPart", name := "capacityFor", desc := "(J)I" } : Jvm.MethodName) prog_46_method_24_code (4 : Nat) (Option.some Jvm.ClassFile.FieldType.int)).before args0 about1 = true := code_word (m := ⟨10, 7⟩) (meth := k10m7) (c := k10c7) (by decide +kernel) rfl rfl rfl (by decide +kernel)
set_option maxRecDepth 65536 in
theorem w_c10 : (Jvm.Cond.code ({ cls := "java/lang/Math", name := "max", desc := "(JJ)J" } : Jvm.MethodName) jdk_29_method_66_code (4 : Nat) (Option.some Jvm.ClassFile.FieldType.long)).before args0 about1 = true := code_word (m := ⟨11, 1⟩) (meth := k11m1) (c := k11c1) (by decide +kernel) rfl rfl rfl (by decide +kernel)
set_option maxRecDepth 65536 in
theorem w_c11 : (Jvm.Cond.code ({ cls := "java/lang/Integer", name := "highestOneBit", desc := "(I)I" } : Jvm.MethodName) jdk_33_method_45_code (1 : Nat) (Option.some Jvm.ClassFile.FieldType.int)).before args0 about1 = true := code_word (m := ⟨12, 0⟩) (meth := k12m0) (c := k12c0) (by decide +kernel) rfl rfl rfl (by decide +kernel)
set_option maxRecDepth 65536 in
theorem w_c12 : (Jvm.Cond.code ({ cls := "java/lang/Integer", name := "numberOfLeadingZeros", desc := "(I)I" } : Jvm.MethodName) jdk_33_method_47_code (2 : Nat) (Option.some Jvm.ClassFile.FieldType.int)).before args0 about1 = true := code_word (m := ⟨12, 1⟩) (meth := k12m1) (c := k12c1) (by decide +kernel) rfl rfl rfl (by decide +kernel)
set_option maxRecDepth 65536 in
theorem w_c13 : (Jvm.Cond.code ({ cls := "com/example/plainsong/plainsong/engine/HashPart", name := "allocate", desc := "(I)V" } : Jvm.MethodName) prog_46_method_23_code (2 : Nat) (Option.none : Option Jvm.ClassFile.FieldType)).before args0 about1 = true := code_word (m := ⟨10, 6⟩) (meth := k10m6) (c := k10c6) (by decide +kernel) rfl rfl rfl (by decide +kernel)
set_option maxRecDepth 65536 in
theorem w_c14 : (Jvm.Cond.code ({ cls := "java/util/Arrays", name := "fill", desc := "([II)V" } : Jvm.MethodName) jdk_65_method_103_code (4 : Nat) (Option.none : Option Jvm.ClassFile.FieldType)).before args0 about1 = true := code_word (m := ⟨13, 1⟩) (meth := k13m1) (c := k13c1) (by decide +kernel) rfl rfl rfl (by decide +kernel)
set_option maxRecDepth 65536 in
theorem w_c15 : (Jvm.Cond.code ({ cls := "com/example/plainsong/plainsong/engine/HashPart", name := "put", desc := "(Ljava/lang/Object;Ljava/lang/Object;)V" } : Jvm.MethodName) prog_46_method_5_code (4 : Nat) (Option.none : Option Jvm.ClassFile.FieldType)).before args0 about1 = true := code_word (m := ⟨10, 1⟩) (meth := k10m1) (c := k10c1) (by decide +kernel) rfl rfl rfl (by decide +kernel)
set_option maxRecDepth 65536 in
theorem w_c16 : (Jvm.Cond.code ({ cls := "com/example/plainsong/plainsong/engine/HashPart", name := "entryOf", desc := "(Ljava/lang/Object;)I" } : Jvm.MethodName) prog_46_method_12_code (4 : Nat) (Option.some Jvm.ClassFile.FieldType.int)).before args0 about1 = true := code_word (m := ⟨10, 2⟩) (meth := k10m2) (c := k10c2) (by decide +kernel) rfl rfl rfl (by decide +kernel)
set_option maxRecDepth 65536 in
theorem w_c17 : (Jvm.Cond.code ({ cls := "java/lang/Long", name := "hashCode", desc := "()I" } : Jvm.MethodName) jdk_35_method_35_code (1 : Nat) (Option.some Jvm.ClassFile.FieldType.int)).before args0 about1 = true := code_word (m := ⟨7, 2⟩) (meth := k7m2) (c := k7c2) (by decide +kernel) rfl rfl rfl (by decide +kernel)
set_option maxRecDepth 65536 in
theorem w_c18 : (Jvm.Cond.code ({ cls := "java/lang/Long", name := "hashCode", desc := "(J)I" } : Jvm.MethodName) jdk_35_method_36_code (2 : Nat) (Option.some Jvm.ClassFile.FieldType.int)).before args0 about1 = true := code_word (m := ⟨7, 3⟩) (meth := k7m3) (c := k7c3) (by decide +kernel) rfl rfl rfl (by decide +kernel)
set_option maxRecDepth 65536 in
theorem w_c19 : (Jvm.Cond.code ({ cls := "com/example/plainsong/plainsong/engine/HashPart", name := "spread", desc := "(I)I" } : Jvm.MethodName) prog_46_method_26_code (2 : Nat) (Option.some Jvm.ClassFile.FieldType.int)).before args0 about1 = true := code_word (m := ⟨10, 9⟩) (meth := k10m9) (c := k10c9) (by decide +kernel) rfl rfl rfl (by decide +kernel)
set_option maxRecDepth 65536 in
theorem w_c20 : (Jvm.Cond.code ({ cls := "com/example/plainsong/plainsong/engine/HashPart", name := "heldEntry", desc := "(Ljava/lang/Object;I)I" } : Jvm.MethodName) prog_46_method_14_code (5 : Nat) (Option.some Jvm.ClassFile.FieldType.int)).before args0 about1 = true := code_word (m := ⟨10, 3⟩) (meth := k10m3) (c := k10c3) (by decide +kernel) rfl rfl rfl (by decide +kernel)
set_option maxRecDepth 65536 in
theorem w_c21 : (Jvm.Cond.code ({ cls := "com/example/plainsong/plainsong/engine/HashPart", name := "isInteger", desc := "(Ljava/lang/Object;)Z" } : Jvm.MethodName) prog_46_method_25_code (1 : Nat) (Option.some Jvm.ClassFile.FieldType.boolean)).before args0 about1 = true := code_word (m := ⟨10, 8⟩) (meth := k10m8) (c := k10c8) (by decide +kernel) rfl rfl rfl (by decide +kernel)
set_option maxRecDepth 65536 in
theorem w_c22 : (Jvm.Cond.code ({ cls := "com/example/plainsong/plainsong/engine/HashPart", name := "add", desc := "(Ljava/lang/Object;ILjava/lang/Object;)V" } : Jvm.MethodName) prog_46_method_21_code (4 : Nat) (Option.none : Option Jvm.ClassFile.FieldType)).before args0 about1 = true := code_word (m := ⟨10, 4⟩) (meth := k10m4) (c := k10c4) (by decide +kernel) rfl rfl rfl (by decide +kernel)
set_option maxRecDepth 65536 in
theorem w_c23 : (Jvm.Cond.code ({ cls := "com/example/plainsong/plainsong/engine/HashPart", name := "place", desc := "(Ljava/lang/Object;ILjava/lang/Object;)V" } : Jvm.MethodName) prog_46_method_22_code (6 : Nat) (Option.none : Option Jvm.ClassFile.FieldType)).before args0 about1 = true := code_word (m := ⟨10, 5⟩) (meth := k10m5) (c := k10c5) (by decide +kernel) rfl rfl rfl (by decide +kernel)
set_option maxRecDepth 65536 in
theorem w_c24 : (Jvm.Cond.code ({ cls := "com/example/plainsong/plainsong/engine/Table", name := "firstBorder", desc := "()J" } : Jvm.MethodName) prog_60_method_10_code (2 : Nat) (Option.some Jvm.ClassFile.FieldType.long)).before args0 about1 = true := code_word (m := ⟨8, 2⟩) (meth := k8m2) (c := k8c2) (by decide +kernel) rfl rfl rfl (by decide +kernel)
set_option maxRecDepth 65536 in
theorem w_c25 : (Jvm.Cond.code ({ cls := "com/example/plainsong/plainsong/engine/Table", name := "append", desc := "(Ljava/lang/Object;)V" } : Jvm.MethodName) prog_60_method_14_code (6 : Nat) (Option.none : Option Jvm.ClassFile.FieldType)).before args0 about1 = true := code_word (m := ⟨8, 3⟩) (meth := k8m3) (c := k8c3) (by decide +kernel) rfl rfl rfl (by decide +kernel)
set_option maxRecDepth 65536 in
theorem w_c26 : (Jvm.Cond.code ({ cls := "com/example/plainsong/plainsong/engine/Table", name := "makeRoom", desc := "()Z" } : Jvm.MethodName) prog_60_method_15_code (5 : Nat) (Option.some Jvm.ClassFile.FieldType.boolean)).before args0 about1 = true := code_word (m := ⟨8, 4⟩) (meth := k8m4) (c := k8c4) (by decide +kernel) rfl rfl rfl (by decide +kernel)
set_option maxRecDepth 65536 in
theorem w_c27 : (Jvm.Cond.code ({ cls := "com/example/plainsong/plainsong/engine/Table", name := "capacity", desc := "(J)I" } : Jvm.MethodName) prog_60_method_16_code (2 : Nat) (Option.some Jvm.ClassFile.FieldType.int)).before args0 about1 = true := code_word (m := ⟨8, 5⟩) (meth := k8m5) (c := k8c5) (by decide +kernel) rfl rfl rfl (by decide +kernel)
set_option maxRecDepth 65536 in
theorem w_c28 : (Jvm.Cond.code ({ cls := "java/lang/Math", name := "min", desc := "(JJ)J" } : Jvm.MethodName) jdk_29_method_70_code (4 : Nat) (Option.some Jvm.ClassFile.FieldType.long)).before args0 about1 = true := code_word (m := ⟨11, 3⟩) (meth := k11m3) (c := k11c3) (by decide +kernel) rfl rfl rfl (by decide +kernel)
set_option maxRecDepth 65536 in
theorem w_c29 : (Jvm.Cond.code ({ cls := "java/util/Arrays", name := "copyOf", desc := "([Ljava/lang/Object;I)[Ljava/lang/Object;" } : Jvm.MethodName) jdk_65_method_119_code (2 : Nat) (Option.some (Jvm.ClassFile.FieldType.array (Jvm.ClassFile.FieldType.object "java/lang/Object")))).before args0 about1 = true := code_word (m := ⟨13, 2⟩) (meth := k13m2) (c := k13c2) (by decide +kernel) rfl rfl rfl (by decide +kernel)
set_option maxRecDepth 65536 in
theorem w_c30 : (Jvm.Cond.code ({ cls := "java/util/Arrays", name := "copyOf", desc := "([Ljava/lang/Object;ILjava/lang/Class;)[Ljava/lang/Object;" } : Jvm.MethodName) jdk_65_method_120_code (4 : Nat) (Option.some (Jvm.ClassFile.FieldType.array (Jvm.ClassFile.FieldType.object "java/lang/Object")))).before args0 about1 = true := code_word (m := ⟨13, 3⟩) (meth := k13m3) (c := k13c3) (by decide +kernel) rfl rfl rfl (by decide +kernel)
set_option maxRecDepth 65536 in
theorem w_c31 : (Jvm.Cond.code ({ cls := "java/lang/Math", name := "min", desc := "(II)I" } : Jvm.MethodName) jdk_29_method_69_code (2 : Nat) (Option.some Jvm.ClassFile.FieldType.int)).before args0 about1 = true := code_word (m := ⟨11, 2⟩) (meth := k11m2) (c := k11c2) (by decide +kernel) rfl rfl rfl (by decide +kernel)
def codes1 : List Jvm.Cond := [Jvm.Cond.code x code maxLocals ret, Jvm.Cond.code ({ cls := "java/lang/Long", name := "valueOf", desc := "(J)Ljava/lang/Long;" } : Jvm.MethodName) jdk_35_method_24_code (3 : Nat) (Option.some (Jvm.ClassFile.FieldType.object "java/lang/Long")), Jvm.Cond.code ({ cls := "java/lang/Long", name := "<init>", desc := "(J)V" } : Jvm.MethodName) jdk_35_method_26_code (3 : Nat) (Option.none : Option Jvm.ClassFile.FieldType), Jvm.Cond.code ({ cls := "java/lang/Number", name := "<init>", desc := "()V" } : Jvm.MethodName) jdk_18_method_1_code (1 : Nat) (Option.none : Option Jvm.ClassFile.FieldType), Jvm.Cond.code ({ cls := "java/lang/Object", name := "<init>", desc := "()V" } : Jvm.MethodName) object_method_1_code (1 : Nat) (Option.none : Option Jvm.ClassFile.FieldType), Jvm.Cond.code ({ cls := "com/example/plainsong/plainsong/engine/Table", name := "<init>", desc := "()V" } : Jvm.MethodName) prog_60_method_1_code (1 : Nat) (Option.none : Option Jvm.ClassFile.FieldType), Jvm.Cond.code ({ cls := "com/example/plainsong/plainsong/engine/Table", name := "put", desc := "(JLjava/lang/Object;)V" } : Jvm.MethodName) prog_60_method_7_code (4 : Nat) (Option.none : Option Jvm.ClassFile.FieldType), Jvm.Cond.code ({ cls := "com/example/plainsong/plainsong/engine/Table", name := "putInHash", desc := "(Ljava/lang/Object;Ljava/lang/Object;)V" } : Jvm.MethodName) prog_60_method_17_code (3 : Nat) (Option.none : Option Jvm.ClassFile.FieldType), Jvm.Cond.code ({ cls := "com/example/plainsong/plainsong/engine/HashPart", name := "<init>", desc := "(I)V" } : Jvm.MethodName) prog_46_method_1_code (2 : Nat) (Option.none : Option Jvm.ClassFile.FieldType), Jvm.Cond.code ({ cls := "com/example/plainsong/plainsong/engine/HashPart", name := "capacityFor", desc := "(J)I" } : Jvm.MethodName) prog_46_method_24_code (4 : Nat) (Option.some Jvm.ClassFile.FieldType.int), Jvm.Cond.code ({ cls := "java/lang/Math", name := "max", desc := "(JJ)J" } : Jvm.MethodName) jdk_29_method_66_code (4 : Nat) (Option.some Jvm.ClassFile.FieldType.long), Jvm.Cond.code ({ cls := "java/lang/Integer", name := "highestOneBit", desc := "(I)I" } : Jvm.MethodName) jdk_33_method_45_code (1 : Nat) (Option.some Jvm.ClassFile.FieldType.int), Jvm.Cond.code ({ cls := "java/lang/Integer", name := "numberOfLeadingZeros", desc := "(I)I" } : Jvm.MethodName) jdk_33_method_47_code (2 : Nat) (Option.some Jvm.ClassFile.FieldType.int), Jvm.Cond.code ({ cls := "com/example/plainsong/plainsong/engine/HashPart", name := "allocate", desc := "(I)V" } : Jvm.MethodName) prog_46_method_23_code (2 : Nat) (Option.none : Option Jvm.ClassFile.FieldType), Jvm.Cond.code ({ cls := "java/util/Arrays", name := "fill", desc := "([II)V" } : Jvm.MethodName) jdk_65_method_103_code (4 : Nat) (Option.none : Option Jvm.ClassFile.FieldType), Jvm.Cond.code ({ cls := "com/example/plainsong/plainsong/engine/HashPart", name := "put", desc := "(Ljava/lang/Object;Ljava/lang/Object;)V" } : Jvm.MethodName) prog_46_method_5_code (4 : Nat) (Option.none : Option Jvm.ClassFile.FieldType), Jvm.Cond.code ({ cls := "com/example/plainsong/plainsong/engine/HashPart", name := "entryOf", desc := "(Ljava/lang/Object;)I" } : Jvm.MethodName) prog_46_method_12_code (4 : Nat) (Option.some Jvm.ClassFile.FieldType.int), Jvm.Cond.code ({ cls := "java/lang/Long", name := "hashCode", desc := "()I" } : Jvm.MethodName) jdk_35_method_35_code (1 : Nat) (Option.some Jvm.ClassFile.FieldType.int), Jvm.Cond.code ({ cls := "java/lang/Long", name := "hashCode", desc := "(J)I" } : Jvm.MethodName) jdk_35_method_36_code (2 : Nat) (Option.some Jvm.ClassFile.FieldType.int), Jvm.Cond.code ({ cls := "com/example/plainsong/plainsong/engine/HashPart", name := "spread", desc := "(I)I" } : Jvm.MethodName) prog_46_method_26_code (2 : Nat) (Option.some Jvm.ClassFile.FieldType.int), Jvm.Cond.code ({ cls := "com/example/plainsong/plainsong/engine/HashPart", name := "heldEntry", desc := "(Ljava/lang/Object;I)I" } : Jvm.MethodName) prog_46_method_14_code (5 : Nat) (Option.some Jvm.ClassFile.FieldType.int), Jvm.Cond.code ({ cls := "com/example/plainsong/plainsong/engine/HashPart", name := "isInteger", desc := "(Ljava/lang/Object;)Z" } : Jvm.MethodName) prog_46_method_25_code (1 : Nat) (Option.some Jvm.ClassFile.FieldType.boolean), Jvm.Cond.code ({ cls := "com/example/plainsong/plainsong/engine/HashPart", name := "add", desc := "(Ljava/lang/Object;ILjava/lang/Object;)V" } : Jvm.MethodName) prog_46_method_21_code (4 : Nat) (Option.none : Option Jvm.ClassFile.FieldType), Jvm.Cond.code ({ cls := "com/example/plainsong/plainsong/engine/HashPart", name := "place", desc := "(Ljava/lang/Object;ILjava/lang/Object;)V" } : Jvm.MethodName) prog_46_method_22_code (6 : Nat) (Option.none : Option Jvm.ClassFile.FieldType), Jvm.Cond.code ({ cls := "com/example/plainsong/plainsong/engine/Table", name := "firstBorder", desc := "()J" } : Jvm.MethodName) prog_60_method_10_code (2 : Nat) (Option.some Jvm.ClassFile.FieldType.long), Jvm.Cond.code ({ cls := "com/example/plainsong/plainsong/engine/Table", name := "append", desc := "(Ljava/lang/Object;)V" } : Jvm.MethodName) prog_60_method_14_code (6 : Nat) (Option.none : Option Jvm.ClassFile.FieldType), Jvm.Cond.code ({ cls := "com/example/plainsong/plainsong/engine/Table", name := "makeRoom", desc := "()Z" } : Jvm.MethodName) prog_60_method_15_code (5 : Nat) (Option.some Jvm.ClassFile.FieldType.boolean), Jvm.Cond.code ({ cls := "com/example/plainsong/plainsong/engine/Table", name := "capacity", desc := "(J)I" } : Jvm.MethodName) prog_60_method_16_code (2 : Nat) (Option.some Jvm.ClassFile.FieldType.int), Jvm.Cond.code ({ cls := "java/lang/Math", name := "min", desc := "(JJ)J" } : Jvm.MethodName) jdk_29_method_70_code (4 : Nat) (Option.some Jvm.ClassFile.FieldType.long), Jvm.Cond.code ({ cls := "java/util/Arrays", name := "copyOf", desc := "([Ljava/lang/Object;I)[Ljava/lang/Object;" } : Jvm.MethodName) jdk_65_method_119_code (2 : Nat) (Option.some (Jvm.ClassFile.FieldType.array (Jvm.ClassFile.FieldType.object "java/lang/Object"))), Jvm.Cond.code ({ cls := "java/util/Arrays", name := "copyOf", desc := "([Ljava/lang/Object;ILjava/lang/Class;)[Ljava/lang/Object;" } : Jvm.MethodName) jdk_65_method_120_code (4 : Nat) (Option.some (Jvm.ClassFile.FieldType.array (Jvm.ClassFile.FieldType.object "java/lang/Object"))), Jvm.Cond.code ({ cls := "java/lang/Math", name := "min", desc := "(II)I" } : Jvm.MethodName) jdk_29_method_69_code (2 : Nat) (Option.some Jvm.ClassFile.FieldType.int)]
set_option maxRecDepth 65536 in
theorem codes_eq : words1.filter isCode = codes1 := rfl
theorem w_codes : ∀ c ∈ words1.filter isCode, c.before args0 about1 = true := by
  rw [codes_eq]
  intro c hc
  simp only [codes1, List.mem_cons, List.not_mem_nil, or_false] at hc
  rcases hc with rfl | rfl | rfl | rfl | rfl | rfl | rfl | rfl | rfl | rfl | rfl | rfl | rfl | rfl | rfl | rfl | rfl | rfl | rfl | rfl | rfl | rfl | rfl | rfl | rfl | rfl | rfl | rfl | rfl | rfl | rfl | rfl
  · exact w_c0
  · exact w_c1
  · exact w_c2
  · exact w_c3
  · exact w_c4
  · exact w_c5
  · exact w_c6
  · exact w_c7
  · exact w_c8
  · exact w_c9
  · exact w_c10
  · exact w_c11
  · exact w_c12
  · exact w_c13
  · exact w_c14
  · exact w_c15
  · exact w_c16
  · exact w_c17
  · exact w_c18
  · exact w_c19
  · exact w_c20
  · exact w_c21
  · exact w_c22
  · exact w_c23
  · exact w_c24
  · exact w_c25
  · exact w_c26
  · exact w_c27
  · exact w_c28
  · exact w_c29
  · exact w_c30
  · exact w_c31
set_option maxRecDepth 65536 in
theorem w_t1 : (words1.take 24).all (fun c => isCode c || c.before args0 about1) = true := by decide +kernel
set_option maxRecDepth 65536 in
theorem w_t2 : ((words1.drop 24).take 24).all (fun c => isCode c || c.before args0 about1) = true := by decide +kernel
set_option maxRecDepth 65536 in
theorem w_t3 : (((words1.drop 24).drop 24).take 24).all (fun c => isCode c || c.before args0 about1) = true := by decide +kernel
set_option maxRecDepth 65536 in
theorem w_t4 : ((((words1.drop 24).drop 24).drop 24).take 24).all (fun c => isCode c || c.before args0 about1) = true := by decide +kernel
set_option maxRecDepth 65536 in
theorem w_t5 : (((((words1.drop 24).drop 24).drop 24).drop 24).take 24).all (fun c => isCode c || c.before args0 about1) = true := by decide +kernel
set_option maxRecDepth 65536 in
theorem w_t6 : ((((((words1.drop 24).drop 24).drop 24).drop 24).drop 24).take 24).all (fun c => isCode c || c.before args0 about1) = true := by decide +kernel
set_option maxRecDepth 65536 in
theorem w_t7 : (((((((words1.drop 24).drop 24).drop 24).drop 24).drop 24).drop 24).take 24).all (fun c => isCode c || c.before args0 about1) = true := by decide +kernel
set_option maxRecDepth 65536 in
theorem w_t8 : ((((((((words1.drop 24).drop 24).drop 24).drop 24).drop 24).drop 24).drop 24).take 24).all (fun c => isCode c || c.before args0 about1) = true := by decide +kernel
set_option maxRecDepth 65536 in
theorem w_t9 : ((((((((words1.drop 24).drop 24).drop 24).drop 24).drop 24).drop 24).drop 24).drop 24).all (fun c => isCode c || c.before args0 about1) = true := by decide +kernel
theorem w_tables : (allAtoms (Jvm.Cond.code x code maxLocals ret :: tables_1)).before args0 about1 = true := by
  rw [allAtoms_all]
  show words1.all (fun c => c.before args0 about1) = true
  refine all_split ?_ w_codes
  rw [← List.take_append_drop 24 words1, List.all_append, w_t1, ← List.take_append_drop 24 (words1.drop 24), List.all_append, w_t2, ← List.take_append_drop 24 ((words1.drop 24).drop 24), List.all_append, w_t3, ← List.take_append_drop 24 (((words1.drop 24).drop 24).drop 24), List.all_append, w_t4, ← List.take_append_drop 24 ((((words1.drop 24).drop 24).drop 24).drop 24), List.all_append, w_t5, ← List.take_append_drop 24 (((((words1.drop 24).drop 24).drop 24).drop 24).drop 24), List.all_append, w_t6, ← List.take_append_drop 24 ((((((words1.drop 24).drop 24).drop 24).drop 24).drop 24).drop 24), List.all_append, w_t7, ← List.take_append_drop 24 (((((((words1.drop 24).drop 24).drop 24).drop 24).drop 24).drop 24).drop 24), List.all_append, w_t8, w_t9]
  rfl
set_option maxRecDepth 65536 in
theorem w_rest : rest_1_c.before args0 about1 = true := by decide +kernel
set_option maxRecDepth 65536 in
theorem w_case : (Jvm.Cond.and given_1 narrow_1).before args0 about1 = true := by decide +kernel
theorem w_applies : (headSpec (Jvm.Cond.code x code maxLocals ret :: tables_1) room_1).applies x e0.platform about1 = true :=
  (Spec.applies_iff w_frames).mpr ⟨w_running, w_runnable, w_alone, w_named, w_hears, w_ripe, w_room, w_tables⟩
theorem atStart : AtStart classFile x code maxLocals ret World_1 tables_1 room_1 Calls_1 rest_1 Pre_1 launch0 p0 e0 about1 theMethod args0 below0 :=
  ⟨lists_1, trivial, launch0.admits_env _ _ _, launch0.least_env, fairChoices_fair.cas, fairChoices_fair.clock, w_frames, w_args, w_heap, w_applies, ⟨⟨22, k22, 2, by decide +kernel, rfl, rfl, _, rfl, rfl⟩, trivial⟩, w_rest, w_case⟩
end start1
theorem witness_1 : WitnessClaimed_1 := ⟨start1.p0, start1.e0, start1.about1, start1.theMethod, start1.args0, start1.below0, start1.atStart⟩
end Jvm.Pilot.@@N@@
