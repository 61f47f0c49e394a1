import JvmDerived
import JvmDerived.Pilot.@@N@@Statement
import JvmDerived.Pilot.@@N@@Code
set_option linter.unusedVariables false
set_option linter.unusedSimpArgs false
@@BLOCK:NumsL.lean.txt@@
@@BLOCK:Masks.lean.txt@@
namespace Jvm.RoadKit
open Sem ClassFile Op Lib Jvm.Stand Jvm.Free Jvm.LawKit
section New
variable {p : Program} {l : Launch} {e : Env} {R : Room} {s : State} {m : MethodId} {args : Array Value} {below : List Frame} {meth : Method} {c : Code} {T : State} {locs : List Loc} {cells slots : Nat}
theorem retI (X : Stand p l e R s m args below meth c T locs cells slots) (hx : p.tables.exec = Jvm.exec) {pc : Nat} {Ls : Array Slot} {z : Int32} {rest : List Value} (hret : meth.sig.returnType = some .int) (hd : decode c.code pc = .ok (.ireturn, 1)) {fs : List Frame}
    (hl : ∀ (f : JFrame) (acts : List Action), f.method = m → f.locked = none → f.entered = [] → (doReturn e (T.setTop f) acts (some (.int z))).1 = T.setFrames fs) : Steps p.tables e below (T.setTop (mkF m pc Ls (.int z :: rest))) (T.setFrames fs) := by
  have hm' : T.vm.method? m = some meth := X.method'
  have hn : narrow .int (.int z) = .int z := rfl
  show Steps p.tables e below (T.setTop { method := m, pc := pc, locals := Ls, stack := _ :: rest, locked := none }) _
  jvm_step X.here [X.here.top, hx, hd, hm', hret, hn]
  first | (intro acts; rw [hl _ acts rfl rfl rfl]) | rw [hl _ _ rfl rfl rfl]
  exact Steps.refl _
theorem own_retA (X : Stand p l e R s m args below meth c T locs cells slots) (hx : p.tables.exec = Jvm.exec) {pc : Nat} {Ls : Array Slot} {z : Value} {t : FieldType} {rest : List Value} (hret : meth.sig.returnType = some t) (ht : t.isReference = true) (hz : z.isRef = true) (hd : decode c.code pc = .ok (.areturn, 1)) {fs : List Frame}
    (hl : ∀ (f : JFrame) (acts : List Action), f.method = m → f.locked = none → f.entered = [] → (doReturn e (T.setTop f) acts (some z)).1 = T.setFrames fs) : Steps p.tables e below (T.setTop (mkF m pc Ls (z :: rest))) (T.setFrames fs) := by
  have hm' : T.vm.method? m = some meth := X.method'
  show Steps p.tables e below (T.setTop { method := m, pc := pc, locals := Ls, stack := z :: rest, locked := none }) _
  rcases ref_cases hz with rfl | ⟨a, rfl⟩ <;>
  · jvm_step X.here [X.here.top, hx, hd, hm', hret, ht, Value.isRef]
    first | (intro acts; rw [hl _ acts rfl rfl rfl]) | rw [hl _ _ rfl rfl rfl]
    exact Steps.refl _
end New
end Jvm.RoadKit
namespace Jvm.Pilot.@@N@@
open Jvm Jvm.ClassFile Sem Op Lib Jvm.Free Jvm.Stand Jvm.LawKit Jvm.RoadKit Bundle Jvm.Pilot.@@N@@.Jvm.D
section OwnKit
variable {p : Program} {l : Launch} {e : Env} {R : Room} {s : State} {m : MethodId} {args : Array Value} {below : List Frame} {meth : Method} {c : Code} {T : State} {locs : List Loc} {cells slots : Nat} {Z : State} {a0 : Array Value} {h : Heap}
/-- from the state S the run comes to an end of which Post holds -/
def own_G (tb : Tables) (e : Env) (below : List Frame) (Post : Outcome → State → Prop) (S : State) : Prop := ∃ s₂ o, Steps tb e below S s₂ ∧ s₂.status = .running ∧ Ended s₂ below o ∧ Post o s₂
theorem own_go {tb : Tables} {Post : Outcome → State → Prop} {S S' : State} (k : ∀ t, Steps tb e below S' t → Steps tb e below S t) (h : own_G tb e below Post S') : own_G tb e below Post S := by
  obtain ⟨a, b, st, d⟩ := h
  exact ⟨a, b, k _ st, d⟩
theorem own_join {tb : Tables} {Post : Outcome → State → Prop} {S S' : State} (k : own_G tb e below Post S' → own_G tb e below Post S) (h : own_G tb e below Post S') : own_G tb e below Post S := k h
theorem own_refc {v : Value} (h : v.isRef = true) : v = .null ∨ ∃ a, v = .ref a := by cases v <;> simp [Value.isRef] at h ⊢
theorem own_cat {v : Value} (h : v.isRef = true) : v.category = 1 := by rcases own_refc h with rfl | ⟨a, rfl⟩ <;> rfl
theorem own_w1 {v : Value} (h : v.isRef = true) : 2 * 0 + (([v] : List Value).map fun v => v.category).sum ≤ 1 := by simp only [List.map_cons, List.map_nil, List.sum_cons, List.sum_nil, own_cat h]; decide
theorem own_end (X : Stand p l e R s m args below meth c T locs cells slots) (hlocks : meth.locks = false) {v : Option Value} (hv : meth.sig.returnType = none → v = none) {S : State} {Q : Option Value → Heap → List Loc → Prop} {rc rs : Nat} (hQ : Q v T.heap locs)
    (st : ∀ fs, (∀ (f : JFrame) (acts : List Action), f.method = m → f.locked = none → f.entered = [] → (doReturn e (T.setTop f) acts v).1 = T.setFrames fs) → Steps p.tables e below S (T.setFrames fs)) (hc : cells ≤ rc) (hs : slots ≤ rs) :
    own_G p.tables e below (fun o U' => ∃ v L, o = .returned v ∧ Q v U'.heap L ∧ FrameEnd s o U' L rc rs) S := by
  obtain ⟨fs, hr, hrun, hended, hW, hsame⟩ := X.leave (v := v) hv hlocks
  exact ⟨_, _, st fs hr, hrun, hended, _, _, rfl, hQ, ⟨_, rfl⟩, hW, hsame.mono hc hs⟩
theorem own_endW {vm₁ : Vm} (X : Stand p l e R (s.setVm vm₁) m args below meth c T locs cells slots) (hlocks : meth.locks = false) {n : Nat} (hS : s.Since vm₁ n) (hn : n ≤ T.heap.size) {v : Option Value} (hv : meth.sig.returnType = none → v = none) {S : State} {Q : Option Value → Heap → List Loc → Prop} {rc rs : Nat} (hQ : Q v T.heap locs)
    (st : ∀ fs, (∀ (f : JFrame) (acts : List Action), f.method = m → f.locked = none → f.entered = [] → (doReturn e (T.setTop f) acts v).1 = T.setFrames fs) → Steps p.tables e below S (T.setFrames fs)) (hc : cells ≤ rc) (hs : slots ≤ rs) :
    own_G p.tables e below (fun o U' => ∃ v L, o = .returned v ∧ Q v U'.heap L ∧ ReturnedEndW s o U' L rc rs) S := by
  obtain ⟨fs, hr, hrun, hended, h1, h2, h3, h4⟩ := X.leaveW hS hn (v := v) hv hlocks
  exact ⟨_, _, st fs hr, hrun, hended, _, _, rfl, hQ, h1, h2, h3, h4.mono hc hs⟩
theorem own_fit {v : Value} {C : String} (h : v.isRef = true) : fits (.object C) v = true := by rcases own_refc h with rfl | ⟨a, rfl⟩ <;> rfl
/-- a pure body's answer: it returns r, writes nothing, makes nothing -/
def QP (r : Option Value) (h0 : Heap) (v : Option Value) (h : Heap) (L : List Loc) : Prop := v = r ∧ L = [] ∧ h = h0
/-- the law's answer: it returns r, writes nothing old -/
def QL (r : Option Value) (n0 : Nat) (v : Option Value) (h : Heap) (L : List Loc) : Prop := v = r ∧ Fr n0 L
theorem own_staKeep {h' : Heap} {C n d : String} {v : Value} {ws : List Addr} (F : Sta Z h C n d v) (K : Keep h h' ws) (q : ∀ x ∈ ws, ∃ cell : Cell, h[x]? = some cell ∧ cell.vm.isStatics = false) : Sta Z h' C n d v := by
  obtain ⟨cf, i, k, f, st, cell, h1, h2, h3, h4, h5, h6, h7⟩ := F
  refine ⟨cf, i, k, f, st, cell, h1, h2, h3, h4, K.2.1 st cell h5 (fun z => ?_), h6, h7⟩
  obtain ⟨c', e1, e2⟩ := q st z
  cases e1.symm.trans h5
  rw [e2] at h6; cases h6
theorem own_mvSame {ref owner name desc : String} (hZ : Z.Warmed39 s.vm) (hmh : ref ≠ "java/lang/invoke/MethodHandle" ∧ ref ≠ "java/lang/invoke/VarHandle") (w : (Jvm.Cond.sameMethod ref owner name desc).before a0 Z = true) : (Jvm.Cond.sameMethod ref owner name desc).before args s = true := by
  have h1 : (Jvm.Cond.sameMethod ref owner name desc).before a0 (Z.setVm s.vm) = true := Cond.sameMethod_setVm hZ.alike hmh w
  exact h1
theorem own_callP (X : Stand p l e R s m args below meth c T locs cells slots) (hx : p.tables.exec = Jvm.exec) (hZ : Z.Warmed39 s.vm) {own : String} {index : Nat} {y : MethodName} {bytes : ByteArray} {maxL : Nat} {ret : Option FieldType} {rm : Room} {r : Option Value} {as' : Array Value}
    (hown : s.vm.findClass own = some m.cls) (w1 : (Jvm.Cond.methodLink own index y).before a0 Z = true) (w2 : (Jvm.Cond.static y).before a0 Z = true) (w3 : (Jvm.Cond.initialized y.cls).before a0 Z = true) (w4 : (Jvm.Cond.code y bytes maxL ret).before a0 Z = true)
    (hy : y.cls ≠ "java/lang/invoke/MethodHandle" ∧ y.cls ≠ "java/lang/invoke/VarHandle") {W : Nat}
    (hM : MetFree l y (head1 [Jvm.Cond.code y bytes maxL ret] rm) (fun a U => a = as' ∧ Z.Warmed39 U.vm ∧ U.heap = h) (fun _ _ _ _ _ => True) (fun _ U o U' => ∃ v L, o = .returned v ∧ QP r h v U'.heap L ∧ FrameEnd U o U' L rm.cells rm.slots))
    (hf : rm.frames + 1 ≤ R.frames) (hl : W + (maxL + 11) + rm.locals ≤ R.locals) (hc : rm.cells = 0) (hs0 : rm.slots = 0) (eT : T.heap = h)
    {g : JFrame} (hg : g.method = m) (hsize : g.locals.size = c.maxLocals) {argsL rest : List Value} (hlen : ∀ sig, parseMethodDescriptor y.desc = some sig → argsL.length = sig.parameters.length) (hstack : g.stack = argsL.reverse ++ rest) (ha : argsL.toArray = as')
    (hW : 2 * g.monitorRoom + (rest.map fun v => v.category).sum ≤ W) (hd : decode c.code g.pc = .ok (.invokestatic index, 3)) (hcr : cells ≤ R.cells) (hsr : slots ≤ R.slots) :
    ∃ T', Stand p l e R s m args below meth c T' locs cells slots ∧ T'.heap = h ∧ ∀ target, Steps p.tables e below (T'.setTop { g with pc := g.pc + 3, stack := r.toList ++ rest }) target → Steps p.tables e below (T.setTop g) target := by
  obtain ⟨_, _, ⟨T1, L1, k1, n1⟩, -, X1, ⟨Lc, hQ, l1, y1, z1⟩, st⟩ := Jvm.LawKit.callS X hx hown (mvT hZ w1) (mvT hZ w2) (mvT hZ w3) (mvT hZ w4) hy (backOf (W := W) hM hZ w4 w3 hf hl) hg hsize hlen hstack hW hd (fun _ _ => ⟨ha, eT, by rw [hc]; exact hcr, by rw [hs0]; exact hsr⟩)
  dsimp only [Pt.U, Pt.locs, Pt.cells, Pt.slots] at X1 l1 y1 z1 st hQ
  obtain ⟨rfl, rfl, e1⟩ := hQ
  rw [List.append_nil] at l1
  rw [hc] at y1
  rw [hs0] at z1
  subst l1 y1 z1
  exact ⟨T1, X1, e1, st⟩
theorem own_callV (X : Stand p l e R s m args below meth c T locs cells slots) (hx : p.tables.exec = Jvm.exec) (hZ : Z.Warmed39 s.vm) {own C : String} {index : Nat} {y : MethodName} {bytes : ByteArray} {maxL : Nat} {ret : Option FieldType} {rm : Room} {r : Option Value} {as' : Array Value} {a : Addr}
    (hown : s.vm.findClass own = some m.cls) (w1 : (Jvm.Cond.methodLink own index y).before a0 Z = true) (w2 : (Jvm.Cond.declares y).before a0 Z = true) (w3 : (Jvm.Cond.selects C y y).before a0 Z = true) (w4 : (Jvm.Cond.instanceMethod y).before a0 Z = true) (w5 : (Jvm.Cond.initialized y.cls).before a0 Z = true) (w6 : (Jvm.Cond.code y bytes maxL ret).before a0 Z = true)
    (hy : y.cls ≠ "java/lang/invoke/MethodHandle" ∧ y.cls ≠ "java/lang/invoke/VarHandle") {W : Nat}
    (hM : MetFree l y (head1 [Jvm.Cond.code y bytes maxL ret] rm) (fun a U => a = as' ∧ Z.Warmed39 U.vm ∧ U.heap = h) (fun _ _ _ _ _ => True) (fun _ U o U' => ∃ v L, o = .returned v ∧ QP r h v U'.heap L ∧ FrameEnd U o U' L rm.cells rm.slots))
    (hf : rm.frames + 1 ≤ R.frames) (hl : W + (maxL + 11) + rm.locals ≤ R.locals) (hc : rm.cells = 0) (hs0 : rm.slots = 0) (eT : T.heap = h) (Ex : Exa Z h a C)
    {g : JFrame} (hg : g.method = m) (hsize : g.locals.size = c.maxLocals) {argsL rest : List Value} (hlen : ∀ sig, parseMethodDescriptor y.desc = some sig → argsL.length = sig.parameters.length) (hstack : g.stack = argsL.reverse ++ .ref a :: rest) (ha : (.ref a :: argsL).toArray = as')
    (hW : 2 * g.monitorRoom + (rest.map fun v => v.category).sum ≤ W) (hd : decode c.code g.pc = .ok (.invokevirtual index, 3)) (hcr : cells ≤ R.cells) (hsr : slots ≤ R.slots) :
    ∃ T', Stand p l e R s m args below meth c T' locs cells slots ∧ T'.heap = h ∧ ∀ target, Steps p.tables e below (T'.setTop { g with pc := g.pc + 3, stack := r.toList ++ rest }) target → Steps p.tables e below (T.setTop g) target := by
  obtain ⟨cq, kq, qa, qb, qc⟩ := isOf hZ eT Ex
  obtain ⟨_, _, ⟨T1, L1, k1, n1⟩, -, X1, ⟨Lc, hQ, l1, y1, z1⟩, st⟩ := X.virtualBack hx hown (mvT hZ w1) (mvT hZ w2) (notFace_of_selects (args := #[]) (mvT hZ w3)) (mvT hZ w3) (mvT hZ w4) hy (backOf (W := W) hM hZ w6 w5 hf hl) qa qc hg hsize (Steps.refl _) hlen hstack hW hd (fun _ _ => ⟨ha, eT, by rw [hc]; exact hcr, by rw [hs0]; exact hsr⟩)
  dsimp only [Pt.U, Pt.locs, Pt.cells, Pt.slots] at X1 l1 y1 z1 st hQ
  obtain ⟨rfl, rfl, e1⟩ := hQ
  rw [List.append_nil] at l1
  rw [hc] at y1
  rw [hs0] at z1
  subst l1 y1 z1
  exact ⟨T1, X1, e1, fun target k => st.trans k⟩
theorem own_callI (X : Stand p l e R s m args below meth c T locs cells slots) (hx : p.tables.exec = Jvm.exec) (hZ : Z.Warmed39 s.vm) {own : String} {index : Nat} {y : MethodName} (hy1 : y.name = "<init>") {bytes : ByteArray} {maxL : Nat} {rm : Room} {as' : Array Value} {a : Addr}
    (hown : s.vm.findClass own = some m.cls) (w1 : (Jvm.Cond.methodLink own index y).before a0 Z = true) (w4 : (Jvm.Cond.instanceMethod y).before a0 Z = true) (w5 : (Jvm.Cond.initialized y.cls).before a0 Z = true) (w6 : (Jvm.Cond.code y bytes maxL none).before a0 Z = true)
    (hy : y.cls ≠ "java/lang/invoke/MethodHandle" ∧ y.cls ≠ "java/lang/invoke/VarHandle") {W : Nat}
    (hM : MetFree l y (head1 [Jvm.Cond.code y bytes maxL none] rm) (fun a U => a = as' ∧ Z.Warmed39 U.vm ∧ U.heap = h) (fun _ _ _ _ _ => True) (fun _ U o U' => ∃ v L, o = .returned v ∧ QP none h v U'.heap L ∧ FrameEnd U o U' L rm.cells rm.slots))
    (hf : rm.frames + 1 ≤ R.frames) (hl : W + (maxL + 11) + rm.locals ≤ R.locals) (hc : rm.cells = 0) (hs0 : rm.slots = 0) (eT : T.heap = h)
    {g : JFrame} (hg : g.method = m) (hsize : g.locals.size = c.maxLocals) {argsL rest : List Value} (hlen : ∀ sig, parseMethodDescriptor y.desc = some sig → argsL.length = sig.parameters.length) (hstack : g.stack = argsL.reverse ++ .ref a :: rest) (ha : (.ref a :: argsL).toArray = as')
    (hW : 2 * g.monitorRoom + (rest.map fun v => v.category).sum ≤ W) (hd : decode c.code g.pc = .ok (.invokespecial index, 3)) (hcr : cells ≤ R.cells) (hsr : slots ≤ R.slots) :
    ∃ T', Stand p l e R s m args below meth c T' locs cells slots ∧ T'.heap = h ∧ ∀ target, Steps p.tables e below (T'.setTop { g with pc := g.pc + 3, stack := rest }) target → Steps p.tables e below (T.setTop g) target := by
  obtain ⟨_, _, ⟨T1, L1, k1, n1⟩, -, X1, ⟨Lc, hQ, l1, y1, z1⟩, st⟩ := X.specialBack hx hy1 hown (mvT hZ w1) (mvT hZ w4) (mvT hZ w6) hy (backOf (W := W) hM hZ w6 w5 hf hl) hg hsize (Steps.refl _) hlen hstack hW hd (fun _ _ => ⟨ha, eT, by rw [hc]; exact hcr, by rw [hs0]; exact hsr⟩)
  dsimp only [Pt.U, Pt.locs, Pt.cells, Pt.slots] at X1 l1 y1 z1 st hQ
  obtain ⟨rfl, rfl, e1⟩ := hQ
  rw [List.append_nil] at l1
  rw [hc] at y1
  rw [hs0] at z1
  subst l1 y1 z1
  exact ⟨T1, X1, e1, fun target k => st.trans k⟩
theorem own_l1 {x y : Int64} (h : x < y) : lcmpW x y < 0 := by rw [lcW]; exact (lc_lt x y).mpr h
theorem own_l2 {x y : Int64} (h : ¬ x < y) : ¬ lcmpW x y < 0 := by rw [lcW]; exact fun q => h ((lc_lt x y).mp q)
theorem own_g1 {x y : Int64} (h : y < x) : 0 < lcmpW x y := by rw [lcW]; exact (lc_gt x y).mpr h
theorem own_g2 {x y : Int64} (h : ¬ y < x) : ¬ 0 < lcmpW x y := by rw [lcW]; exact fun q => h ((lc_gt x y).mp q)
theorem own_e1 {x y : Int64} (h : x = y) : lcmpW x y = 0 := by rw [lcW]; exact (lc_eq x y).mpr h
theorem own_e2 {x y : Int64} (h : ¬ x = y) : ¬ lcmpW x y = 0 := by rw [lcW]; exact fun q => h ((lc_eq x y).mp q)
end OwnKit
theorem own_mod (x m : Int32) (hm : 0 < m.toInt) : 0 ≤ ((x &&& (2147483647 : Int32)) % m).toInt ∧ ((x &&& (2147483647 : Int32)) % m).toInt < m.toInt := by
  have e := Jvm.Kit.i32_mask x 2147483647 (k := 31) (by decide) (by decide)
  have h0 : 0 ≤ (x &&& (2147483647 : Int32)).toInt := by omega
  rw [Jvm.Kit.i32_rem_nonneg h0]
  exact ⟨Int.emod_nonneg _ (by omega), Int.emod_lt_of_pos _ hm⟩
theorem own_ext {x : Int32} {n : Nat} (h : x.toInt = n) (hn : n < 2 ^ 31) : x = Int32.ofNat n := Int32.toInt_inj.mp (by rw [h, Int32.toInt_ofNat_of_lt hn])

theorem own_strA {Z : State} {a0 : Array Value} (hw : ∀ d ∈ tables_1, d.before a0 Z = true) : ∀ a ∈ Bundle.stringAtoms, a.before a0 Z = true := by
  intro a ha
  simp only [Bundle.stringAtoms, Bundle.sN, List.mem_cons, List.not_mem_nil, or_false] at ha
  rcases ha with rfl | rfl | rfl | rfl | rfl | rfl | rfl
  · exact hw _ (List.mem_of_getElem? (i := 2) rfl)
  · exact hw _ (List.mem_of_getElem? (i := 10) rfl)
  · exact hw _ (List.mem_of_getElem? (i := 14) rfl)
  · exact hw _ (List.mem_of_getElem? (i := 23) rfl)
  · exact hw _ (List.mem_of_getElem? (i := 25) rfl)
  · exact hw _ (List.mem_of_getElem? (i := 34) rfl)
  · exact hw _ (List.mem_of_getElem? (i := 35) rfl)
def F2 (x0 : Int32) : Int32 :=
  if (255 : Int32) < x0 then
    (nar .boolean (0 : Int32))
  else
    (nar .boolean (1 : Int32))
theorem d2_0 : decode jdk_43_method_3_code 0 = .ok (.iload_n 0, 1) := by decide +kernel
theorem d2_1 : decode jdk_43_method_3_code 1 = .ok (.sipush 255, 3) := by decide +kernel
theorem d2_4 : decode jdk_43_method_3_code 4 = .ok (.if_icmp .gt 7, 3) := by decide +kernel
theorem d2_7 : decode jdk_43_method_3_code 7 = .ok (.iconst 1, 1) := by decide +kernel
theorem d2_8 : decode jdk_43_method_3_code 8 = .ok (.goto 4, 3) := by decide +kernel
theorem d2_11 : decode jdk_43_method_3_code 11 = .ok (.iconst 0, 1) := by decide +kernel
theorem d2_12 : decode jdk_43_method_3_code 12 = .ok (.ireturn, 1) := by decide +kernel
theorem own_pn0 : plainName "java/lang/StringLatin1" = true := by first | (simp [plainName, overriddenIn]; done) | decide +kernel
theorem ef_2_I (m : MethodId) (x0 : Int32) : entryFrame m #[(.int x0)] 1 = mkF m 0 #[.val (.int x0)] [] := by
  first | (simp [entryFrame, mkF, argsToLocals, Value.category]; done) | rfl
set_option maxRecDepth 65536 in
set_option maxHeartbeats 40000000 in
theorem rm2 (l : Launch) (Z : State) (a0 : Array Value) (hw : ∀ d ∈ tables_1, d.before a0 Z = true) (ws : List Jvm.Cond) (x0 : Int32)  (h0 : Heap)  :
    MetFree l (⟨"java/lang/StringLatin1", "canEncode", "(C)Z"⟩ : MethodName) (head1 (Jvm.Cond.code (⟨"java/lang/StringLatin1", "canEncode", "(C)Z"⟩ : MethodName) jdk_43_method_3_code 1 (some .boolean) :: ws) ({ frames := 0, cells := 0, slots := 0, locals := 0 } : Room)) (fun a U => a = #[(.int x0)] ∧ Z.Warmed39 U.vm ∧ U.heap = h0) (fun _ _ _ _ _ => True) (fun _ U o U' => ∃ v L, o = .returned v ∧ QP (some (.int (F2 x0))) h0 v U'.heap L ∧ FrameEnd U o U' L ({ frames := 0, cells := 0, slots := 0, locals := 0 } : Room).cells ({ frames := 0, cells := 0, slots := 0, locals := 0 } : Room).slots) := by
  refine MetFree.of_bodySF (plainFor_of_name own_pn0) hisR ?_
  intro p e s m args below meth c s₁ Bd hml0 hP hK
  obtain ⟨rfl, hZ, hh⟩ := hP
  have hx := Bd.exec
  have hby := Bd.bytes
  have hml : c.maxLocals = 1 := hml0
  have hown : s.vm.findClass "java/lang/StringLatin1" = some m.cls := findClass_of_methodNamed Bd.named
  have hnm := (name_of_methodNamed Bd.named Bd.method).1
  have X0 : Stand p l e ({ frames := 0, cells := 0, slots := 0, locals := 0 } : Room) s m #[(.int x0)] below meth c s₁ [] 0 0 := Stand.of_body Bd
  have e0 : s₁.heap = h0 := by rw [← hh, Bd.state]; rfl
  show own_G p.tables e below (fun o U' => ∃ v L, o = .returned v ∧ QP (some (.int (F2 x0))) h0 v U'.heap L ∧ FrameEnd s o U' L ({ frames := 0, cells := 0, slots := 0, locals := 0 } : Room).cells ({ frames := 0, cells := 0, slots := 0, locals := 0 } : Room).slots) (s₁.setTop (entryFrame m #[(.int x0)] 1))
  refine own_go (fun _ k => castTop (ef_2_I m x0) k) ?_
  show own_G p.tables e below _ (s₁.setTop (mkF m 0 #[.val (.int x0)] []))
  refine own_go (fun _ k => XS.iloadN X0.here hx rfl (hb hby d2_0) rfl k) ?_
  show own_G p.tables e below _ (s₁.setTop (mkF m 1 #[.val (.int x0)] [(.int x0)]))
  refine own_go (fun _ k => XS.sipush X0.here hx rfl (hb hby d2_1) k) ?_
  show own_G p.tables e below _ (s₁.setTop (mkF m 4 #[.val (.int x0)] [(.int (255 : Int32)), (.int x0)]))
  by_cases hc4_1 : (255 : Int32) < x0
  · refine own_go (fun _ k => XS.icmpYes X0.here hx rfl (pc0 := 4) (pc' := 11) rfl (hb hby d2_4) rfl ((tlt hc4_1).2.2.1) (by decide) (by decide) k) ?_
    show own_G p.tables e below _ (s₁.setTop (mkF m 11 #[.val (.int x0)] []))
    refine own_go (fun _ k => XS.iconst X0.here hx rfl (hb hby d2_11) k) ?_
    show own_G p.tables e below _ (s₁.setTop (mkF m 12 #[.val (.int x0)] [(.int (0 : Int32))]))
    exact own_end X0 Bd.notSynchronized (v := some (.int (nar .boolean (0 : Int32)))) (fun h => by rw [Bd.returns] at h; cases h) (Q := QP (some (.int (F2 x0))) h0) ⟨by unfold F2; simp only [if_pos hc4_1]; try rfl, rfl, e0⟩ (fun fs hr => retN X0 hx (t := .boolean) Bd.returns (by simp) (hb hby d2_12) hr) (by decide) (by decide)
  · refine own_go (fun _ k => XS.icmpNo X0.here hx rfl (hb hby d2_4) rfl ((flt hc4_1).2.2.1) k) ?_
    show own_G p.tables e below _ (s₁.setTop (mkF m 7 #[.val (.int x0)] []))
    refine own_go (fun _ k => XS.iconst X0.here hx rfl (hb hby d2_7) k) ?_
    show own_G p.tables e below _ (s₁.setTop (mkF m 8 #[.val (.int x0)] [(.int (1 : Int32))]))
    refine own_go (fun _ k => XS.goto X0.here hx rfl (pc0 := 8) (pc' := 12) rfl (hb hby d2_8) (by decide) (by decide) k) ?_
    show own_G p.tables e below _ (s₁.setTop (mkF m 12 #[.val (.int x0)] [(.int (1 : Int32))]))
    exact own_end X0 Bd.notSynchronized (v := some (.int (nar .boolean (1 : Int32)))) (fun h => by rw [Bd.returns] at h; cases h) (Q := QP (some (.int (F2 x0))) h0) ⟨by unfold F2; simp only [if_neg hc4_1]; try rfl, rfl, e0⟩ (fun fs hr => retN X0 hx (t := .boolean) Bd.returns (by simp) (hb hby d2_12) hr) (by decide) (by decide)
theorem own_m8 (x : Int32) : ∃ n : Nat, n < 256 ∧ (x &&& (255 : Int32)) = Int32.ofNat n := by
  have e := Jvm.Kit.i32_mask x 255 (k := 8) (by decide) (by decide)
  exact ⟨(x &&& (255 : Int32)).toInt.toNat, by omega, own_ext (by omega) (by omega)⟩
theorem own_enc (x : Int32) : ¬ F2 ((((x.toUInt32 >>> ((1 : Int32) &&& 31).toUInt32).toInt32) &&& (255 : Int32)).toUInt32.toUInt16.toUInt32.toInt32) = (0 : Int32) := by
  obtain ⟨n, hn, e⟩ := own_m8 ((x.toUInt32 >>> ((1 : Int32) &&& 31).toUInt32).toInt32)
  rw [e]
  exact (by decide +kernel : ∀ n : Fin 256, ¬ F2 ((Int32.ofNat n.val).toUInt32.toUInt16.toUInt32.toInt32) = (0 : Int32)) ⟨n, hn⟩
def own_b (x : Int32) : Int32 := if (x &&& (1 : Int32)) = (0 : Int32) then 0 else 1
theorem own_cz {s : State} {args : Array Value} {t : Term} {cz : Int32} (ht : t.eval args s none [] s = some (.int cz)) (h : (Jvm.Cond.not (Jvm.Cond.eq t (.int 0))).value args s none s [] = some true) : ¬ cz = (0 : Int32) := by
  have h2 := not_v h
  intro e
  subst e
  have e2 : (Term.int 0).eval args s none [] s = some (.int 0) := rfl
  simp [Cond.value, ht, e2] at h2
/-- the class c, whose superclasses are c1, then none, is not one of another class's -/
theorem own_sub2 {vm : Vm} {c c1 t : ClassId} {k k1 : Class} (h0 : c ≠ t) (h1 : c1 ≠ t) (hk : vm.classes[c]? = some k) (hs : k.super = some c1) (hk1 : vm.classes[c1]? = some k1) (hs1 : k1.super = none) : ∀ fuel, vm.isSubclassAux fuel c t = false := fun fuel => by
  cases fuel with
  | zero => rfl
  | succ f =>
    cases f with
    | zero => simp [Vm.isSubclassAux, h0, hk, hs]
    | succ f' => simp [Vm.isSubclassAux, h0, h1, hk, hs, hk1, hs1]
theorem own_sub3 {vm : Vm} {c c1 c2 t : ClassId} {k k1 k2 : Class} (h0 : c ≠ t) (h1 : c1 ≠ t) (h2 : c2 ≠ t) (hk : vm.classes[c]? = some k) (hs : k.super = some c1) (hk1 : vm.classes[c1]? = some k1) (hs1 : k1.super = some c2) (hk2 : vm.classes[c2]? = some k2) (hs2 : k2.super = none) : ∀ fuel, vm.isSubclassAux fuel c t = false := fun fuel => by
  cases fuel with
  | zero => rfl
  | succ f =>
    have q := own_sub2 h1 h2 hk1 hs1 hk2 hs2 f
    simp [Vm.isSubclassAux, h0, hk, hs, q]
theorem own_ncls {Z : State} {a b : String} {c d : ClassId} (ha : Z.vm.findClass a = some c) (hb : Z.vm.findClass b = some d) (hn : a ≠ b) : c ≠ d := fun e => by
  subst e
  obtain ⟨k, hk, e1⟩ := Vm.findClass_spec ha
  obtain ⟨k', hk', e2⟩ := Vm.findClass_spec hb
  cases hk.symm.trans hk'
  exact hn (e1.symm.trans e2)
theorem own_nas {vm : Vm} {c t : ClassId} {k kt : Class} (h0 : c ≠ t) (hk : vm.classes[c]? = some k) (hkt : vm.classes[t]? = some kt) (ho : k.kind = .ordinary) (hot : kt.kind = .ordinary) (hit : kt.isInterface = false) (sub : ∀ fuel, vm.isSubclassAux fuel c t = false) : vm.assignable c t = false := by
  show vm.assignableAux (255 + 1) c t = false
  simp [Vm.assignableAux, h0, hk, hkt, ho, hot, hit, Vm.isSubclass, sub]
theorem own_nnBN {Z : State} {a0 : Array Value} (hw : ∀ d ∈ tables_1, d.before a0 Z = true) {h : Heap} {a : Addr} (E : Exa Z h a "com/example/ptah/ptah/model/NullNode") : Ins Z h a "com/example/ptah/ptah/model/BooleanNode" false := by
  obtain ⟨cell, k, h1, h2, h3, h4, -⟩ := E
  obtain ⟨p, k0, kp, hf1, hk0, hkp, hs0, ho0, -, -⟩ := Cond.superclass_spec h2 (hw _ (List.mem_of_getElem? (i := 84) rfl))
  obtain ⟨q, k1, kq, hf2, hk1, hkq, hs1, -, -, -⟩ := Cond.superclass_spec hf1 (hw _ (List.mem_of_getElem? (i := 85) rfl))
  obtain ⟨r, k2, hf3, hk2, hs2, -, -⟩ := Cond.noSuperclass_spec (hw _ (List.mem_of_getElem? (i := 83) rfl))
  cases hf2.symm.trans hf3
  obtain ⟨t, kt, ft, hkt, hot, hit, -⟩ := Cond.instantiable_spec (hw _ (List.mem_of_getElem? (i := 48) rfl))
  have hit' : kt.isInterface = false := by simp only [Bool.or_eq_false_iff] at hit; exact hit.1
  refine ⟨cell, t, h1, ft, ?_⟩
  have n0 := own_ncls h2 ft (by decide)
  rw [own_nas n0 hk0 hkt ho0 hot hit' (own_sub3 n0 (own_ncls hf1 ft (by decide)) (own_ncls hf2 ft (by decide)) hk0 hs0 hk1 hs1 hk2 hs2), Bool.and_false]
theorem own_slBN {Z : State} {a0 : Array Value} (hw : ∀ d ∈ tables_1, d.before a0 Z = true) {h : Heap} {a : Addr} (E : Exa Z h a "com/example/ptah/ptah/model/SourceLocation") : Ins Z h a "com/example/ptah/ptah/model/BooleanNode" false := by
  obtain ⟨cell, k, h1, h2, h3, h4, -⟩ := E
  obtain ⟨p, k0, kp, hf1, hk0, hkp, hs0, ho0, -, -⟩ := Cond.superclass_spec h2 (hw _ (List.mem_of_getElem? (i := 82) rfl))
  obtain ⟨r, k2, hf3, hk2, hs2, -, -⟩ := Cond.noSuperclass_spec (hw _ (List.mem_of_getElem? (i := 83) rfl))
  cases hf1.symm.trans hf3
  obtain ⟨t, kt, ft, hkt, hot, hit, -⟩ := Cond.instantiable_spec (hw _ (List.mem_of_getElem? (i := 48) rfl))
  have hit' : kt.isInterface = false := by simp only [Bool.or_eq_false_iff] at hit; exact hit.1
  refine ⟨cell, t, h1, ft, ?_⟩
  have n0 := own_ncls h2 ft (by decide)
  rw [own_nas n0 hk0 hkt ho0 hot hit' (own_sub2 n0 (own_ncls hf1 ft (by decide)) hk0 hs0 hk2 hs2), Bool.and_false]

def Q_rm3 (Z : State) (x0 : Int32)  (h0 : Heap) (n0 : Nat) (v : Option Value) (h : Heap) (L : List Loc) : Prop := v = some (.ref h0.size) ∧ Fr n0 L ∧ Keep h0 h []
theorem d3_0 : decode jdk_43_method_46_code 0 = .ok (.iconst 1, 1) := by decide +kernel
theorem d3_1 : decode jdk_43_method_46_code 1 = .ok (.newarray .byte, 2) := by decide +kernel
theorem d3_3 : decode jdk_43_method_46_code 3 = .ok (.dup, 1) := by decide +kernel
theorem d3_4 : decode jdk_43_method_46_code 4 = .ok (.iconst 0, 1) := by decide +kernel
theorem d3_5 : decode jdk_43_method_46_code 5 = .ok (.iload_n 0, 1) := by decide +kernel
theorem d3_6 : decode jdk_43_method_46_code 6 = .ok (.i2b, 1) := by decide +kernel
theorem d3_7 : decode jdk_43_method_46_code 7 = .ok (.bastore, 1) := by decide +kernel
theorem d3_8 : decode jdk_43_method_46_code 8 = .ok (.areturn, 1) := by decide +kernel
theorem ef_3_I (m : MethodId) (x0 : Int32) : entryFrame m #[(.int x0)] 1 = mkF m 0 #[.val (.int x0)] [] := by
  first | (simp [entryFrame, mkF, argsToLocals, Value.category]; done) | rfl
set_option maxRecDepth 65536 in
set_option maxHeartbeats 40000000 in
theorem rm3 (l : Launch) (Z : State) (a0 : Array Value) (hw : ∀ d ∈ tables_1, d.before a0 Z = true) (ws : List Jvm.Cond) (x0 : Int32)  (h0 : Heap) (n0 : Nat) (Z0 : n0 ≤ h0.size)   :
    MetFree l (⟨"java/lang/StringLatin1", "toBytes", "(C)[B"⟩ : MethodName) (head1 (Jvm.Cond.code (⟨"java/lang/StringLatin1", "toBytes", "(C)[B"⟩ : MethodName) jdk_43_method_46_code 1 (some (.array .byte)) :: ws) ({ frames := 0, cells := 1, slots := 1, locals := 0 } : Room)) (fun a U => a = #[(.int x0)] ∧ Z.Warmed39 U.vm ∧ U.heap = h0) (fun _ _ _ _ _ => True) (fun _ U o U' => ∃ v L, o = .returned v ∧ Q_rm3 Z x0 h0 n0 v U'.heap L ∧ FrameEnd U o U' L ({ frames := 0, cells := 1, slots := 1, locals := 0 } : Room).cells ({ frames := 0, cells := 1, slots := 1, locals := 0 } : Room).slots) := by
  refine MetFree.of_bodySF (plainFor_of_name own_pn0) hisR ?_
  intro p e s m args below meth c s₁ Bd hml0 hP hK
  obtain ⟨rfl, hZ, hh⟩ := hP
  have hx := Bd.exec
  have hby := Bd.bytes
  have hml : c.maxLocals = 1 := hml0
  have hown : s.vm.findClass "java/lang/StringLatin1" = some m.cls := findClass_of_methodNamed Bd.named
  have hnm := (name_of_methodNamed Bd.named Bd.method).1
  have X0 : Stand p l e ({ frames := 0, cells := 1, slots := 1, locals := 0 } : Room) s m #[(.int x0)] below meth c s₁ [] 0 0 := Stand.of_body Bd
  have e0 : s₁.heap = h0 := by rw [← hh, Bd.state]; rfl
  show own_G p.tables e below (fun o U' => ∃ v L, o = .returned v ∧ Q_rm3 Z x0 h0 n0 v U'.heap L ∧ FrameEnd s o U' L ({ frames := 0, cells := 1, slots := 1, locals := 0 } : Room).cells ({ frames := 0, cells := 1, slots := 1, locals := 0 } : Room).slots) (s₁.setTop (entryFrame m #[(.int x0)] 1))
  refine own_go (fun _ k => castTop (ef_3_I m x0) k) ?_
  have N0 := Fr.nil n0
  have KP0 := Keep.refl h0 []
  show own_G p.tables e below _ (s₁.setTop (mkF m 0 #[.val (.int x0)] []))
  refine own_go (fun _ k => XS.iconst X0.here hx rfl (hb hby d3_0) k) ?_
  show own_G p.tables e below _ (s₁.setTop (mkF m 1 #[.val (.int x0)] [(.int (1 : Int32))]))
  obtain ⟨T2, h2, k2, X2, e2, E2, A2, st2⟩ := newP X0 hx hZ (hw _ (List.mem_of_getElem? (i := 14) rfl)) e0 (g := (mkF m 1 #[.val (.int x0)] [(.int (1 : Int32))])) rfl (hb hby d3_1) rfl (by decide) (cap := 1) (by decide) (by decide) (by decide) (by decide)
  obtain ⟨b2, g2⟩ : ∃ z, z = h0.size := ⟨_, rfl⟩
  rw [← g2] at A2 st2
  have ge_3 : n0 ≤ b2 := Nat.le_trans Z0 (Nat.le_of_eq g2.symm)
  have sz_4 : h0.size ≤ b2 := Nat.le_trans KP0.1 (Nat.le_of_eq g2.symm)
  have Z_5 : n0 ≤ h2.size := Nat.le_trans Z0 E2.1
  have KP_6 : Keep h0 h2 [] := KP0.ext E2
  have V2 : Arv Z h2 b2 k2 .byte (1 : Int32) [(.int (0 : Int32))] (.int (0 : Int32)) := (Arv.new A2 (by decide)).pad (pad_rep [] (.int (0 : Int32)) 1)
  refine own_go st2 ?_
  show own_G p.tables e below _ (T2.setTop (mkF m 3 #[.val (.int x0)] [(.ref b2)]))
  refine own_go (fun _ k => XS.dup X2.here hx rfl (hb hby d3_3) rfl rfl k) ?_
  show own_G p.tables e below _ (T2.setTop (mkF m 4 #[.val (.int x0)] [(.ref b2), (.ref b2)]))
  refine own_go (fun _ k => XS.iconst X2.here hx rfl (hb hby d3_4) k) ?_
  show own_G p.tables e below _ (T2.setTop (mkF m 5 #[.val (.int x0)] [(.int (0 : Int32)), (.ref b2), (.ref b2)]))
  refine own_go (fun _ k => XS.iloadN X2.here hx rfl (hb hby d3_5) rfl k) ?_
  show own_G p.tables e below _ (T2.setTop (mkF m 6 #[.val (.int x0)] [(.int x0), (.int (0 : Int32)), (.ref b2), (.ref b2)]))
  refine own_go (fun _ k => XS.i2b X2.here hx rfl (hb hby d3_6) rfl k) ?_
  show own_G p.tables e below _ (T2.setTop (mkF m 7 #[.val (.int x0)] [(.int (x0.toInt8.toInt32)), (.int (0 : Int32)), (.ref b2), (.ref b2)]))
  obtain ⟨cl7, Ar7, q7, S7, N7, H7, G7⟩ := id V2
  obtain ⟨T7, h7, X7, e7, W7, st7⟩ := stB X2 hx hZ e2 Ar7 (j := (0 : Int32)) (inb_of S7 ⟨by decide, by decide⟩) (g := (mkF m 7 #[.val (.int x0)] [(.int (x0.toInt8.toInt32)), (.int (0 : Int32)), (.ref b2), (.ref b2)])) rfl rfl (hb hby d3_7)
  have V7 : Arv Z h7 b2 k2 .byte (1 : Int32) [(.int (nar .byte (x0.toInt8.toInt32)))] (.int (0 : Int32)) := Arv.set Ar7 q7 S7 N7 H7 G7 (fits_nar_byte _) W7 0 rfl (Nat.le_of_ble_eq_true rfl)
  have Z_8 : n0 ≤ h7.size := Nat.le_trans Z_5 (Nat.le_of_eq W7.size.symm)
  have KP_9 : Keep h0 h7 [] := KP_6.wr W7 (Or.inr sz_4)
  have N_7 := Fr.snoc X7 N0 ge_3
  refine own_go st7 ?_
  show own_G p.tables e below _ (T7.setTop (mkF m 8 #[.val (.int x0)] [(.ref b2)]))
  subst g2
  exact own_end X7 Bd.notSynchronized (v := some (.ref h0.size)) (fun h => by rw [Bd.returns] at h; cases h) (Q := Q_rm3 Z x0 h0 n0) (by show Q_rm3 Z x0 h0 n0 (some (.ref h0.size)) T7.heap _; rw [e7]; exact ⟨rfl, N_7, KP_9⟩) (fun fs hr => own_retA X7 hx Bd.returns rfl rfl (hb hby d3_8) hr) (by decide) (by decide)
def Q_rm4 (Z : State) (x0 : Addr) (x1 : Addr) (x2 : Int32)  (h0 : Heap) (n0 : Nat) (v : Option Value) (h : Heap) (L : List Loc) : Prop := v = none ∧ Fr n0 L ∧ Keep h0 h [x0] ∧ Exa Z h x0 "java/lang/String"
theorem d4_0 : decode jdk_42_method_151_code 0 = .ok (.aload_n 0, 1) := by decide +kernel
theorem d4_1 : decode jdk_42_method_151_code 1 = .ok (.invokespecial 1, 3) := by decide +kernel
theorem d4_4 : decode jdk_42_method_151_code 4 = .ok (.aload_n 0, 1) := by decide +kernel
theorem d4_5 : decode jdk_42_method_151_code 5 = .ok (.aload_n 1, 1) := by decide +kernel
theorem d4_6 : decode jdk_42_method_151_code 6 = .ok (.putfield 9, 3) := by decide +kernel
theorem d4_9 : decode jdk_42_method_151_code 9 = .ok (.aload_n 0, 1) := by decide +kernel
theorem d4_10 : decode jdk_42_method_151_code 10 = .ok (.iload_n 2, 1) := by decide +kernel
theorem d4_11 : decode jdk_42_method_151_code 11 = .ok (.putfield 15, 3) := by decide +kernel
theorem d4_14 : decode jdk_42_method_151_code 14 = .ok (.return_, 1) := by decide +kernel
theorem own_pn1 : plainName "java/lang/String" = true := by first | (simp [plainName, overriddenIn]; done) | decide +kernel
theorem ef_4_RRI (m : MethodId) (x0 : Addr) (x1 : Addr) (x2 : Int32) : entryFrame m #[(.ref x0), (.ref x1), (.int x2)] 3 = mkF m 0 #[.val (.ref x0), .val (.ref x1), .val (.int x2)] [] := by
  first | (simp [entryFrame, mkF, argsToLocals, Value.category]; done) | rfl
set_option maxRecDepth 65536 in
set_option maxHeartbeats 40000000 in
theorem rm4 (l : Launch) (Z : State) (a0 : Array Value) (hw : ∀ d ∈ tables_1, d.before a0 Z = true) (ws : List Jvm.Cond) (x0 : Addr) (x1 : Addr) (x2 : Int32)  (h0 : Heap) (n0 : Nat) (Z0 : n0 ≤ h0.size) (p0_ : Exa Z h0 x0 "java/lang/String") (p1_ : n0 ≤ x0) (p2_ : Fld Z h0 x0 "java/lang/String" "value" "[B" .null) (p3_ : Fld Z h0 x0 "java/lang/String" "coder" "B" (.int (0 : Int32)))  :
    MetFree l (⟨"java/lang/String", "<init>", "([BB)V"⟩ : MethodName) (head1 (Jvm.Cond.code (⟨"java/lang/String", "<init>", "([BB)V"⟩ : MethodName) jdk_42_method_151_code 3 none :: ws) ({ frames := 1, cells := 0, slots := 0, locals := 12 } : Room)) (fun a U => a = #[(.ref x0), (.ref x1), (.int x2)] ∧ Z.Warmed39 U.vm ∧ U.heap = h0) (fun _ _ _ _ _ => True) (fun _ U o U' => ∃ v L, o = .returned v ∧ Q_rm4 Z x0 x1 x2 h0 n0 v U'.heap L ∧ FrameEnd U o U' L ({ frames := 1, cells := 0, slots := 0, locals := 12 } : Room).cells ({ frames := 1, cells := 0, slots := 0, locals := 12 } : Room).slots) := by
  refine MetFree.of_bodySF (plainFor_of_name own_pn1) hisR ?_
  intro p e s m args below meth c s₁ Bd hml0 hP hK
  obtain ⟨rfl, hZ, hh⟩ := hP
  have hx := Bd.exec
  have hby := Bd.bytes
  have hml : c.maxLocals = 3 := hml0
  have hown : s.vm.findClass "java/lang/String" = some m.cls := findClass_of_methodNamed Bd.named
  have hnm := (name_of_methodNamed Bd.named Bd.method).1
  have X0 : Stand p l e ({ frames := 1, cells := 0, slots := 0, locals := 12 } : Room) s m #[(.ref x0), (.ref x1), (.int x2)] below meth c s₁ [] 0 0 := Stand.of_body Bd
  have e0 : s₁.heap = h0 := by rw [← hh, Bd.state]; rfl
  show own_G p.tables e below (fun o U' => ∃ v L, o = .returned v ∧ Q_rm4 Z x0 x1 x2 h0 n0 v U'.heap L ∧ FrameEnd s o U' L ({ frames := 1, cells := 0, slots := 0, locals := 12 } : Room).cells ({ frames := 1, cells := 0, slots := 0, locals := 12 } : Room).slots) (s₁.setTop (entryFrame m #[(.ref x0), (.ref x1), (.int x2)] 3))
  refine own_go (fun _ k => castTop (ef_4_RRI m x0 x1 x2) k) ?_
  have N0 := Fr.nil n0
  have KP0 := Keep.refl h0 [x0]
  show own_G p.tables e below _ (s₁.setTop (mkF m 0 #[.val (.ref x0), .val (.ref x1), .val (.int x2)] []))
  refine own_go (fun _ k => XS.aloadN X0.here hx rfl (hb hby d4_0) rfl rfl k) ?_
  show own_G p.tables e below _ (s₁.setTop (mkF m 1 #[.val (.ref x0), .val (.ref x1), .val (.int x2)] [(.ref x0)]))
  obtain ⟨T10, X10, e10, st10⟩ := initO X0 hx hZ hown (hw _ (List.mem_of_getElem? (i := 19) rfl)) (hw _ (List.mem_of_getElem? (i := 20) rfl)) (hw _ (List.mem_of_getElem? (i := 21) rfl)) e0 (g := (mkF m 1 #[.val (.ref x0), .val (.ref x1), .val (.int x2)] [(.ref x0)])) rfl (by rw [hml]; rfl) rfl (hb hby d4_1) (by decide) (W := 0) (by show 2 * 0 + _ ≤ _; exact Nat.le_of_eq rfl) (by decide)
  refine own_go st10 ?_
  show own_G p.tables e below _ (T10.setTop (mkF m 4 #[.val (.ref x0), .val (.ref x1), .val (.int x2)] []))
  refine own_go (fun _ k => XS.aloadN X10.here hx rfl (hb hby d4_4) rfl rfl k) ?_
  show own_G p.tables e below _ (T10.setTop (mkF m 5 #[.val (.ref x0), .val (.ref x1), .val (.int x2)] [(.ref x0)]))
  refine own_go (fun _ k => XS.aloadN X10.here hx rfl (hb hby d4_5) rfl rfl k) ?_
  show own_G p.tables e below _ (T10.setTop (mkF m 6 #[.val (.ref x0), .val (.ref x1), .val (.int x2)] [(.ref x1), (.ref x0)]))
  obtain ⟨T11, h11, X11, e11, W11, st11⟩ := putF X10 hx hZ hown (host := "") (Or.inl (hw _ (List.mem_of_getElem? (i := 22) rfl))) Via.refl e10 p2_ p0_ (Or.inr ⟨(hw _ (List.mem_of_getElem? (i := 23) rfl)), rfl, hnm⟩) (hw _ (List.mem_of_getElem? (i := 10) rfl)) (ty := (.array .byte)) (by decide) rfl rfl (g := (mkF m 6 #[.val (.ref x0), .val (.ref x1), .val (.int x2)] [(.ref x1), (.ref x0)])) rfl rfl (hb hby d4_6)
  have X_12 := p0_.wr W11
  have F_13 := p3_.other W11 (Or.inr (slot_ne (Or.inr (hw _ (List.mem_of_getElem? (i := 25) rfl))) (Or.inr (hw _ (List.mem_of_getElem? (i := 23) rfl))) (by decide) (t := .byte) (t' := (.array .byte)) (by decide) (by decide)))
  have F_14 := p2_.same W11
  have Z_15 : n0 ≤ h11.size := Nat.le_trans Z0 (Nat.le_of_eq W11.size.symm)
  have KP_16 : Keep h0 h11 [x0] := KP0.wr W11 (Or.inl (List.mem_of_getElem? (i := 0) rfl))
  have N_11 := Fr.snoc X11 N0 p1_
  refine own_go st11 ?_
  show own_G p.tables e below _ (T11.setTop (mkF m 9 #[.val (.ref x0), .val (.ref x1), .val (.int x2)] []))
  refine own_go (fun _ k => XS.aloadN X11.here hx rfl (hb hby d4_9) rfl rfl k) ?_
  show own_G p.tables e below _ (T11.setTop (mkF m 10 #[.val (.ref x0), .val (.ref x1), .val (.int x2)] [(.ref x0)]))
  refine own_go (fun _ k => XS.iloadN X11.here hx rfl (hb hby d4_10) rfl k) ?_
  show own_G p.tables e below _ (T11.setTop (mkF m 11 #[.val (.ref x0), .val (.ref x1), .val (.int x2)] [(.int x2), (.ref x0)]))
  obtain ⟨T17, h17, X17, e17, W17, st17⟩ := putFN X11 hx hZ hown (hw _ (List.mem_of_getElem? (i := 24) rfl)) Via.refl e11 F_13 X_12 (Or.inr ⟨(hw _ (List.mem_of_getElem? (i := 25) rfl)), rfl, hnm⟩) (hw _ (List.mem_of_getElem? (i := 10) rfl)) (ty := .byte) (v' := .int (nar .byte x2)) (by decide) rfl (fits_nar_byte _) (g := (mkF m 11 #[.val (.ref x0), .val (.ref x1), .val (.int x2)] [(.int x2), (.ref x0)])) rfl rfl (hb hby d4_11)
  have X_18 := X_12.wr W17
  have F_19 := F_14.other W17 (Or.inr (slot_ne (Or.inr (hw _ (List.mem_of_getElem? (i := 23) rfl))) (Or.inr (hw _ (List.mem_of_getElem? (i := 25) rfl))) (by decide) (t := (.array .byte)) (t' := .byte) (by decide) (by decide)))
  have F_20 := F_13.same W17
  have Z_21 : n0 ≤ h17.size := Nat.le_trans Z_15 (Nat.le_of_eq W17.size.symm)
  have KP_22 : Keep h0 h17 [x0] := KP_16.wr W17 (Or.inl (List.mem_of_getElem? (i := 0) rfl))
  have N_17 := Fr.snoc X17 N_11 p1_
  refine own_go st17 ?_
  show own_G p.tables e below _ (T17.setTop (mkF m 14 #[.val (.ref x0), .val (.ref x1), .val (.int x2)] []))
  exact own_end X17 Bd.notSynchronized (v := none) (fun _ => rfl) (Q := Q_rm4 Z x0 x1 x2 h0 n0) (by show Q_rm4 Z x0 x1 x2 h0 n0 (none) T17.heap _; rw [e17]; exact ⟨rfl, N_17, KP_22, X_18⟩) (fun fs hr => X17.returnOut hx Bd.returns (hb hby d4_14) hr) (by decide) (by decide)
def Q_rm1 (Z : State) (x0 : Int32) (cz : Int32) (h0 : Heap) (n0 : Nat) (v : Option Value) (h : Heap) (L : List Loc) : Prop := v = some (.ref h0.size) ∧ Fr n0 L ∧ Keep h0 h [] ∧ Exa Z h h0.size "java/lang/String"
theorem own_pd0 : parseMethodDescriptor "(C)Z" = some ⟨[.char], some .boolean⟩ := by decide +kernel
theorem own_pd1 : parseMethodDescriptor "(C)[B" = some ⟨[.char], some (.array .byte)⟩ := by decide +kernel
theorem own_pd2 : parseMethodDescriptor "([BB)V" = some ⟨[(.array .byte), .byte], none⟩ := by decide +kernel
theorem d1_0 : decode jdk_42_method_139_code 0 = .ok (.getstatic 38, 3) := by decide +kernel
theorem d1_3 : decode jdk_42_method_139_code 3 = .ok (.ifCond .eq 23, 3) := by decide +kernel
theorem d1_6 : decode jdk_42_method_139_code 6 = .ok (.iload_n 0, 1) := by decide +kernel
theorem d1_7 : decode jdk_42_method_139_code 7 = .ok (.invokestatic 1015, 3) := by decide +kernel
theorem d1_10 : decode jdk_42_method_139_code 10 = .ok (.ifCond .eq 16, 3) := by decide +kernel
theorem d1_13 : decode jdk_42_method_139_code 13 = .ok (.new 10, 3) := by decide +kernel
theorem d1_16 : decode jdk_42_method_139_code 16 = .ok (.dup, 1) := by decide +kernel
theorem d1_17 : decode jdk_42_method_139_code 17 = .ok (.iload_n 0, 1) := by decide +kernel
theorem d1_18 : decode jdk_42_method_139_code 18 = .ok (.invokestatic 1018, 3) := by decide +kernel
theorem d1_21 : decode jdk_42_method_139_code 21 = .ok (.iconst 0, 1) := by decide +kernel
theorem d1_22 : decode jdk_42_method_139_code 22 = .ok (.invokespecial 209, 3) := by decide +kernel
theorem d1_25 : decode jdk_42_method_139_code 25 = .ok (.areturn, 1) := by decide +kernel
theorem d1_26 : decode jdk_42_method_139_code 26 = .ok (.new 10, 3) := by decide +kernel
theorem d1_29 : decode jdk_42_method_139_code 29 = .ok (.dup, 1) := by decide +kernel
theorem d1_30 : decode jdk_42_method_139_code 30 = .ok (.iload_n 0, 1) := by decide +kernel
theorem d1_31 : decode jdk_42_method_139_code 31 = .ok (.invokestatic 1021, 3) := by decide +kernel
theorem d1_34 : decode jdk_42_method_139_code 34 = .ok (.iconst 1, 1) := by decide +kernel
theorem d1_35 : decode jdk_42_method_139_code 35 = .ok (.invokespecial 209, 3) := by decide +kernel
theorem d1_38 : decode jdk_42_method_139_code 38 = .ok (.areturn, 1) := by decide +kernel
theorem ef_1_I (m : MethodId) (x0 : Int32) : entryFrame m #[(.int x0)] 1 = mkF m 0 #[.val (.int x0)] [] := by
  first | (simp [entryFrame, mkF, argsToLocals, Value.category]; done) | rfl
set_option maxRecDepth 65536 in
set_option maxHeartbeats 40000000 in
theorem rm1 (l : Launch) (Z : State) (a0 : Array Value) (hw : ∀ d ∈ tables_1, d.before a0 Z = true) (ws : List Jvm.Cond) (x0 : Int32) (cz : Int32) (h0 : Heap) (n0 : Nat) (Z0 : n0 ≤ h0.size) (p0_ : Sta Z h0 "java/lang/String" "COMPACT_STRINGS" "Z" (.int cz)) (p1_ : ¬ cz = (0 : Int32)) (p2_ : ¬ (F2 x0) = (0 : Int32))  :
    MetFree l (⟨"java/lang/String", "valueOf", "(C)Ljava/lang/String;"⟩ : MethodName) (head1 (Jvm.Cond.code (⟨"java/lang/String", "valueOf", "(C)Ljava/lang/String;"⟩ : MethodName) jdk_42_method_139_code 1 (some (.object "java/lang/String")) :: ws) ({ frames := 2, cells := 2, slots := 5, locals := 27 } : Room)) (fun a U => a = #[(.int x0)] ∧ Z.Warmed39 U.vm ∧ U.heap = h0) (fun _ _ _ _ _ => True) (fun _ U o U' => ∃ v L, o = .returned v ∧ Q_rm1 Z x0 cz h0 n0 v U'.heap L ∧ FrameEnd U o U' L ({ frames := 2, cells := 2, slots := 5, locals := 27 } : Room).cells ({ frames := 2, cells := 2, slots := 5, locals := 27 } : Room).slots) := by
  refine MetFree.of_bodySF (plainFor_of_name own_pn1) hisR ?_
  intro p e s m args below meth c s₁ Bd hml0 hP hK
  obtain ⟨rfl, hZ, hh⟩ := hP
  have hx := Bd.exec
  have hby := Bd.bytes
  have hml : c.maxLocals = 1 := hml0
  have hown : s.vm.findClass "java/lang/String" = some m.cls := findClass_of_methodNamed Bd.named
  have hnm := (name_of_methodNamed Bd.named Bd.method).1
  have X0 : Stand p l e ({ frames := 2, cells := 2, slots := 5, locals := 27 } : Room) s m #[(.int x0)] below meth c s₁ [] 0 0 := Stand.of_body Bd
  have e0 : s₁.heap = h0 := by rw [← hh, Bd.state]; rfl
  show own_G p.tables e below (fun o U' => ∃ v L, o = .returned v ∧ Q_rm1 Z x0 cz h0 n0 v U'.heap L ∧ FrameEnd s o U' L ({ frames := 2, cells := 2, slots := 5, locals := 27 } : Room).cells ({ frames := 2, cells := 2, slots := 5, locals := 27 } : Room).slots) (s₁.setTop (entryFrame m #[(.int x0)] 1))
  refine own_go (fun _ k => castTop (ef_1_I m x0) k) ?_
  have N0 := Fr.nil n0
  have KP0 := Keep.refl h0 []
  show own_G p.tables e below _ (s₁.setTop (mkF m 0 #[.val (.int x0)] []))
  obtain ⟨T23, X23, e23, st23⟩ := getS2 X0 hx hZ hown (host := "") (Or.inl (hw _ (List.mem_of_getElem? (i := 4) rfl))) Via.refl e0 p0_ (g := (mkF m 0 #[.val (.int x0)] [])) rfl (hb hby d1_0)
  refine own_go st23 ?_
  show own_G p.tables e below _ (T23.setTop (mkF m 3 #[.val (.int x0)] [(.int cz)]))
  refine own_go (fun _ k => XS.ifNo X23.here hx rfl (hb hby d1_3) rfl (((if0 _ _).trans (feq p1_).1)) k) ?_
  show own_G p.tables e below _ (T23.setTop (mkF m 6 #[.val (.int x0)] []))
  refine own_go (fun _ k => XS.iloadN X23.here hx rfl (hb hby d1_6) rfl k) ?_
  show own_G p.tables e below _ (T23.setTop (mkF m 7 #[.val (.int x0)] [(.int x0)]))
  obtain ⟨T24, X24, e24, st24⟩ := own_callP X23 hx hZ (y := (⟨"java/lang/StringLatin1", "canEncode", "(C)Z"⟩ : MethodName)) hown (hw _ (List.mem_of_getElem? (i := 5) rfl)) (hw _ (List.mem_of_getElem? (i := 6) rfl)) (hw _ (List.mem_of_getElem? (i := 7) rfl)) (hw _ (List.mem_of_getElem? (i := 8) rfl)) (by decide) (W := 0) (rm2 l Z a0 hw [] x0  h0 ) (by decide) (by decide) rfl rfl e23 (g := (mkF m 7 #[.val (.int x0)] [(.int x0)])) rfl (by rw [hml]; rfl) (argsL := [(.int x0)]) (rest := []) (lenOf own_pd0 rfl) rfl rfl (by show 2 * 0 + _ ≤ _; exact Nat.le_of_eq rfl) (hb hby d1_7) (by decide) (by decide)
  refine own_go st24 ?_
  show own_G p.tables e below _ (T24.setTop (mkF m 10 #[.val (.int x0)] [(.int (F2 x0))]))
  refine own_go (fun _ k => XS.ifNo X24.here hx rfl (hb hby d1_10) rfl (((if0 _ _).trans (feq p2_).1)) k) ?_
  show own_G p.tables e below _ (T24.setTop (mkF m 13 #[.val (.int x0)] []))
  obtain ⟨T25, h25, X25, e25, E25, A25, D25, -, st25⟩ := newO X24 hx hZ hown (hw _ (List.mem_of_getElem? (i := 9) rfl)) (hw _ (List.mem_of_getElem? (i := 10) rfl)) (hw _ (List.mem_of_getElem? (i := 2) rfl)) e24 (g := (mkF m 13 #[.val (.int x0)] [])) rfl (hb hby d1_13) (by decide) (by decide)
  obtain ⟨b25, g25⟩ : ∃ z, z = h0.size := ⟨_, rfl⟩
  rw [← g25] at A25 D25 st25
  have ge_26 : n0 ≤ b25 := Nat.le_trans Z0 (Nat.le_of_eq g25.symm)
  have sz_27 : h0.size ≤ b25 := Nat.le_trans KP0.1 (Nat.le_of_eq g25.symm)
  have S_28 := p0_.ext E25
  have Z_29 : n0 ≤ h25.size := Nat.le_trans Z0 E25.1
  have KP_30 : Keep h0 h25 [] := KP0.ext E25
  have F_31 : Fld Z h25 b25 "java/lang/String" "value" "[B" .null := D25 (Or.inr (hw _ (List.mem_of_getElem? (i := 23) rfl))) (ty := (.array .byte)) (by decide)
  have F_32 : Fld Z h25 b25 "java/lang/String" "coder" "B" (.int (0 : Int32)) := D25 (Or.inr (hw _ (List.mem_of_getElem? (i := 25) rfl))) (ty := .byte) (by decide)
  refine own_go st25 ?_
  show own_G p.tables e below _ (T25.setTop (mkF m 16 #[.val (.int x0)] [(.ref b25)]))
  refine own_go (fun _ k => XS.dup X25.here hx rfl (hb hby d1_16) rfl rfl k) ?_
  show own_G p.tables e below _ (T25.setTop (mkF m 17 #[.val (.int x0)] [(.ref b25), (.ref b25)]))
  refine own_go (fun _ k => XS.iloadN X25.here hx rfl (hb hby d1_17) rfl k) ?_
  show own_G p.tables e below _ (T25.setTop (mkF m 18 #[.val (.int x0)] [(.int x0), (.ref b25), (.ref b25)]))
  obtain ⟨_, _, ⟨T33, L33, k33, n33⟩, -, X33, ⟨Lc33, hQ33, l33, y33, z33⟩, st33⟩ := Jvm.LawKit.callS X25 hx (y := (⟨"java/lang/StringLatin1", "toBytes", "(C)[B"⟩ : MethodName)) hown (mvT hZ (hw _ (List.mem_of_getElem? (i := 11) rfl))) (mvT hZ (hw _ (List.mem_of_getElem? (i := 12) rfl))) (mvT hZ (hw _ (List.mem_of_getElem? (i := 7) rfl))) (mvT hZ (hw _ (List.mem_of_getElem? (i := 13) rfl))) (by decide) (backOf (W := 2) (rm3 l Z a0 hw [] x0  h25 n0 Z_29 ) hZ (hw _ (List.mem_of_getElem? (i := 13) rfl)) (hw _ (List.mem_of_getElem? (i := 7) rfl)) (by decide) (by decide)) (g := (mkF m 18 #[.val (.int x0)] [(.int x0), (.ref b25), (.ref b25)])) rfl (by rw [hml]; rfl) (argsL := [(.int x0)]) (rest := [(.ref b25), (.ref b25)]) (lenOf own_pd1 rfl) rfl (by show 2 * 0 + _ ≤ _; exact Nat.le_of_eq rfl) (hb hby d1_18) (fun _ _ => ⟨rfl, e25, (by decide : 1 + 1 ≤ _), (by decide : 4 + 1 ≤ _)⟩)
  dsimp only [Pt.U, Pt.locs, Pt.cells, Pt.slots] at X33 l33 y33 z33 st33 hQ33
  subst l33 y33 z33
  obtain ⟨rfl, Nq33, K33⟩ := hQ33
  obtain ⟨b33, g33⟩ : ∃ z, z = h25.size := ⟨_, rfl⟩
  rw [← g33] at st33
  have ne_34 : b25 ≠ b33 := Nat.ne_of_lt (Nat.lt_of_lt_of_le A25.lt (Nat.le_of_eq g33.symm))
  have ge_35 : n0 ≤ b33 := Nat.le_trans Z_29 (Nat.le_of_eq g33.symm)
  have sz_36 : h0.size ≤ b33 := Nat.le_trans KP_30.1 (Nat.le_of_eq g33.symm)
  have X_37 := A25.keep K33
  have F_38 := F_31.keep K33 nin0
  have F_39 := F_32.keep K33 nin0
  have Z_40 : n0 ≤ T33.heap.size := Nat.le_trans Z_29 K33.1
  have KP_41 : Keep h0 T33.heap [] := KP_30.trans K33 all0
  have N_33 := Fr.app N0 Nq33
  refine own_go (fun _ k => st33 _ k) ?_
  show own_G p.tables e below _ (T33.setTop (mkF m 21 #[.val (.int x0)] [(.ref b33), (.ref b25), (.ref b25)]))
  refine own_go (fun _ k => XS.iconst X33.here hx rfl (hb hby d1_21) k) ?_
  show own_G p.tables e below _ (T33.setTop (mkF m 22 #[.val (.int x0)] [(.int (0 : Int32)), (.ref b33), (.ref b25), (.ref b25)]))
  obtain ⟨_, _, ⟨T42, L42, k42, n42⟩, -, X42, ⟨Lc42, hQ42, l42, y42, z42⟩, st42⟩ := X33.specialBack hx (y := (⟨"java/lang/String", "<init>", "([BB)V"⟩ : MethodName)) rfl hown (mvT hZ (hw _ (List.mem_of_getElem? (i := 15) rfl))) (mvT hZ (hw _ (List.mem_of_getElem? (i := 16) rfl))) (mvT hZ (hw _ (List.mem_of_getElem? (i := 18) rfl))) (by decide) (backOf (W := 1) (rm4 l Z a0 hw [] b25 b33 (0 : Int32)  T33.heap n0 Z_40 X_37 ge_26 F_38 F_39) hZ (hw _ (List.mem_of_getElem? (i := 18) rfl)) (hw _ (List.mem_of_getElem? (i := 2) rfl)) (by decide) (by decide)) (g := (mkF m 22 #[.val (.int x0)] [(.int (0 : Int32)), (.ref b33), (.ref b25), (.ref b25)])) rfl (by rw [hml]; rfl) (Steps.refl _) (a := b25) (argsL := [(.ref b33), (.int (0 : Int32))]) (rest := [(.ref b25)]) (lenOf own_pd2 rfl) rfl (by show 2 * 0 + _ ≤ _; exact Nat.le_of_eq rfl) (hb hby d1_22) (fun _ _ => ⟨rfl, rfl, (by decide : 2 + 0 ≤ _), (by decide : 5 + 0 ≤ _)⟩)
  dsimp only [Pt.U, Pt.locs, Pt.cells, Pt.slots] at X42 l42 y42 z42 st42 hQ42
  subst l42 y42 z42
  obtain ⟨rfl, Nq42, K42, G_43⟩ := hQ42
  have X_44 := X_37.keep K42
  have Z_45 : n0 ≤ T42.heap.size := Nat.le_trans Z_40 K42.1
  have KP_46 : Keep h0 T42.heap [] := KP_41.trans K42 (allS (Or.inr sz_27) all0)
  have N_42 := Fr.app N_33 Nq42
  refine own_go (fun _ k => st42.trans k) ?_
  show own_G p.tables e below _ (T42.setTop (mkF m 25 #[.val (.int x0)] [(.ref b25)]))
  subst g25
  exact own_end X42 Bd.notSynchronized (v := some (.ref h0.size)) (fun h => by rw [Bd.returns] at h; cases h) (Q := Q_rm1 Z x0 cz h0 n0) (by show Q_rm1 Z x0 cz h0 n0 (some (.ref h0.size)) T42.heap _; exact ⟨rfl, N_42, KP_46, G_43⟩) (fun fs hr => own_retA X42 hx Bd.returns rfl rfl (hb hby d1_25) hr) (by decide) (by decide)
theorem d7_0 : decode jdk_31_method_11_code 0 = .ok (.aload_n 0, 1) := by decide +kernel
theorem d7_1 : decode jdk_31_method_11_code 1 = .ok (.ifnonnull 12, 3) := by decide +kernel
theorem d7_4 : decode jdk_31_method_11_code 4 = .ok (.new 84, 3) := by decide +kernel
theorem d7_7 : decode jdk_31_method_11_code 7 = .ok (.dup, 1) := by decide +kernel
theorem d7_8 : decode jdk_31_method_11_code 8 = .ok (.aload_n 1, 1) := by decide +kernel
theorem d7_9 : decode jdk_31_method_11_code 9 = .ok (.invokespecial 87, 3) := by decide +kernel
theorem d7_12 : decode jdk_31_method_11_code 12 = .ok (.athrow, 1) := by decide +kernel
theorem d7_13 : decode jdk_31_method_11_code 13 = .ok (.aload_n 0, 1) := by decide +kernel
theorem d7_14 : decode jdk_31_method_11_code 14 = .ok (.areturn, 1) := by decide +kernel
theorem own_pn2 : plainName "java/util/Objects" = true := by first | (simp [plainName, overriddenIn]; done) | decide +kernel
theorem ef_7_RR (m : MethodId) (x0 : Addr) (x1 : Addr) : entryFrame m #[(.ref x0), (.ref x1)] 2 = mkF m 0 #[.val (.ref x0), .val (.ref x1)] [] := by
  first | (simp [entryFrame, mkF, argsToLocals, Value.category]; done) | rfl
set_option maxRecDepth 65536 in
set_option maxHeartbeats 40000000 in
theorem rm7 (l : Launch) (Z : State) (a0 : Array Value) (hw : ∀ d ∈ tables_1, d.before a0 Z = true) (ws : List Jvm.Cond) (x0 : Addr) (x1 : Addr)  (h0 : Heap)  :
    MetFree l (⟨"java/util/Objects", "requireNonNull", "(Ljava/lang/Object;Ljava/lang/String;)Ljava/lang/Object;"⟩ : MethodName) (head1 (Jvm.Cond.code (⟨"java/util/Objects", "requireNonNull", "(Ljava/lang/Object;Ljava/lang/String;)Ljava/lang/Object;"⟩ : MethodName) jdk_31_method_11_code 2 (some (.object "java/lang/Object")) :: ws) ({ frames := 0, cells := 0, slots := 0, locals := 0 } : Room)) (fun a U => a = #[(.ref x0), (.ref x1)] ∧ Z.Warmed39 U.vm ∧ U.heap = h0) (fun _ _ _ _ _ => True) (fun _ U o U' => ∃ v L, o = .returned v ∧ QP (some (.ref x0)) h0 v U'.heap L ∧ FrameEnd U o U' L ({ frames := 0, cells := 0, slots := 0, locals := 0 } : Room).cells ({ frames := 0, cells := 0, slots := 0, locals := 0 } : Room).slots) := by
  refine MetFree.of_bodySF (plainFor_of_name own_pn2) hisR ?_
  intro p e s m args below meth c s₁ Bd hml0 hP hK
  obtain ⟨rfl, hZ, hh⟩ := hP
  have hx := Bd.exec
  have hby := Bd.bytes
  have hml : c.maxLocals = 2 := hml0
  have hown : s.vm.findClass "java/util/Objects" = some m.cls := findClass_of_methodNamed Bd.named
  have hnm := (name_of_methodNamed Bd.named Bd.method).1
  have X0 : Stand p l e ({ frames := 0, cells := 0, slots := 0, locals := 0 } : Room) s m #[(.ref x0), (.ref x1)] below meth c s₁ [] 0 0 := Stand.of_body Bd
  have e0 : s₁.heap = h0 := by rw [← hh, Bd.state]; rfl
  show own_G p.tables e below (fun o U' => ∃ v L, o = .returned v ∧ QP (some (.ref x0)) h0 v U'.heap L ∧ FrameEnd s o U' L ({ frames := 0, cells := 0, slots := 0, locals := 0 } : Room).cells ({ frames := 0, cells := 0, slots := 0, locals := 0 } : Room).slots) (s₁.setTop (entryFrame m #[(.ref x0), (.ref x1)] 2))
  refine own_go (fun _ k => castTop (ef_7_RR m x0 x1) k) ?_
  show own_G p.tables e below _ (s₁.setTop (mkF m 0 #[.val (.ref x0), .val (.ref x1)] []))
  refine own_go (fun _ k => XS.aloadN X0.here hx rfl (hb hby d7_0) rfl rfl k) ?_
  show own_G p.tables e below _ (s₁.setTop (mkF m 1 #[.val (.ref x0), .val (.ref x1)] [(.ref x0)]))
  refine own_go (fun _ k => XS.ifnonnullYes X0.here hx rfl (pc0 := 1) (pc' := 13) rfl (hb hby d7_1) rfl (by decide) (by decide) k) ?_
  show own_G p.tables e below _ (s₁.setTop (mkF m 13 #[.val (.ref x0), .val (.ref x1)] []))
  refine own_go (fun _ k => XS.aloadN X0.here hx rfl (hb hby d7_13) rfl rfl k) ?_
  show own_G p.tables e below _ (s₁.setTop (mkF m 14 #[.val (.ref x0), .val (.ref x1)] [(.ref x0)]))
  exact own_end X0 Bd.notSynchronized (v := some (.ref x0)) (fun h => by rw [Bd.returns] at h; cases h) (Q := QP (some (.ref x0)) h0) ⟨rfl, rfl, e0⟩ (fun fs hr => own_retA X0 hx Bd.returns rfl rfl (hb hby d7_14) hr) (by decide) (by decide)
def Q_rm6 (Z : State) (x0 : Addr) (x1 : Addr) (x2 : Int32) (x3 : Int32)  (h0 : Heap) (n0 : Nat) (v : Option Value) (h : Heap) (L : List Loc) : Prop := v = none ∧ Fr n0 L ∧ Keep h0 h [x0] ∧ Exa Z h x0 "com/example/ptah/ptah/model/SourceLocation"
theorem own_pd3 : parseMethodDescriptor "(Ljava/lang/Object;Ljava/lang/String;)Ljava/lang/Object;" = some ⟨[(.object "java/lang/Object"), (.object "java/lang/String")], some (.object "java/lang/Object")⟩ := by decide +kernel
theorem d6_0 : decode prog_97_method_1_code 0 = .ok (.aload_n 0, 1) := by decide +kernel
theorem d6_1 : decode prog_97_method_1_code 1 = .ok (.invokespecial 1, 3) := by decide +kernel
theorem d6_4 : decode prog_97_method_1_code 4 = .ok (.aload_n 0, 1) := by decide +kernel
theorem d6_5 : decode prog_97_method_1_code 5 = .ok (.aload_n 1, 1) := by decide +kernel
theorem d6_6 : decode prog_97_method_1_code 6 = .ok (.ldc 7, 2) := by decide +kernel
theorem d6_8 : decode prog_97_method_1_code 8 = .ok (.invokestatic 9, 3) := by decide +kernel
theorem d6_11 : decode prog_97_method_1_code 11 = .ok (.checkcast 15, 3) := by decide +kernel
theorem d6_14 : decode prog_97_method_1_code 14 = .ok (.putfield 17, 3) := by decide +kernel
theorem d6_17 : decode prog_97_method_1_code 17 = .ok (.aload_n 0, 1) := by decide +kernel
theorem d6_18 : decode prog_97_method_1_code 18 = .ok (.iload_n 2, 1) := by decide +kernel
theorem d6_19 : decode prog_97_method_1_code 19 = .ok (.putfield 22, 3) := by decide +kernel
theorem d6_22 : decode prog_97_method_1_code 22 = .ok (.aload_n 0, 1) := by decide +kernel
theorem d6_23 : decode prog_97_method_1_code 23 = .ok (.iload_n 3, 1) := by decide +kernel
theorem d6_24 : decode prog_97_method_1_code 24 = .ok (.putfield 26, 3) := by decide +kernel
theorem d6_27 : decode prog_97_method_1_code 27 = .ok (.return_, 1) := by decide +kernel
theorem own_pn3 : plainName "com/example/ptah/ptah/model/SourceLocation" = true := by first | (simp [plainName, overriddenIn]; done) | decide +kernel
theorem ef_6_RRII (m : MethodId) (x0 : Addr) (x1 : Addr) (x2 : Int32) (x3 : Int32) : entryFrame m #[(.ref x0), (.ref x1), (.int x2), (.int x3)] 4 = mkF m 0 #[.val (.ref x0), .val (.ref x1), .val (.int x2), .val (.int x3)] [] := by
  first | (simp [entryFrame, mkF, argsToLocals, Value.category]; done) | rfl
set_option maxRecDepth 65536 in
set_option maxHeartbeats 40000000 in
theorem rm6 (l : Launch) (Z : State) (a0 : Array Value) (hw : ∀ d ∈ tables_1, d.before a0 Z = true) (ws : List Jvm.Cond) (x0 : Addr) (x1 : Addr) (x2 : Int32) (x3 : Int32)  (h0 : Heap) (n0 : Nat) (Z0 : n0 ≤ h0.size) (p0_ : Exa Z h0 x0 "com/example/ptah/ptah/model/SourceLocation") (p1_ : n0 ≤ x0) (p2_ : Exa Z h0 x1 "java/lang/String") (p3_ : Fld Z h0 x0 "com/example/ptah/ptah/model/SourceLocation" "filename" "Ljava/lang/String;" .null) (p4_ : Fld Z h0 x0 "com/example/ptah/ptah/model/SourceLocation" "line" "I" (.int (0 : Int32))) (p5_ : Fld Z h0 x0 "com/example/ptah/ptah/model/SourceLocation" "column" "I" (.int (0 : Int32)))  :
    MetFree l (⟨"com/example/ptah/ptah/model/SourceLocation", "<init>", "(Ljava/lang/String;II)V"⟩ : MethodName) (head1 (Jvm.Cond.code (⟨"com/example/ptah/ptah/model/SourceLocation", "<init>", "(Ljava/lang/String;II)V"⟩ : MethodName) prog_97_method_1_code 4 none :: ws) ({ frames := 1, cells := 2, slots := 36, locals := 14 } : Room)) (fun a U => a = #[(.ref x0), (.ref x1), (.int x2), (.int x3)] ∧ Z.Warmed39 U.vm ∧ U.heap = h0) (fun _ _ _ _ _ => True) (fun _ U o U' => ∃ v L, o = .returned v ∧ Q_rm6 Z x0 x1 x2 x3 h0 n0 v U'.heap L ∧ ReturnedEndW U o U' L ({ frames := 1, cells := 2, slots := 36, locals := 14 } : Room).cells ({ frames := 1, cells := 2, slots := 36, locals := 14 } : Room).slots) := by
  refine MetFree.of_bodySF (plainFor_of_name own_pn3) hisR ?_
  intro p e s m args below meth c s₁ Bd hml0 hP hK
  obtain ⟨rfl, hZ, hh⟩ := hP
  have hx := Bd.exec
  have hby := Bd.bytes
  have hml : c.maxLocals = 4 := hml0
  have hown : s.vm.findClass "com/example/ptah/ptah/model/SourceLocation" = some m.cls := findClass_of_methodNamed Bd.named
  have hnm := (name_of_methodNamed Bd.named Bd.method).1
  have X0 : Stand p l e ({ frames := 1, cells := 2, slots := 36, locals := 14 } : Room) s m #[(.ref x0), (.ref x1), (.int x2), (.int x3)] below meth c s₁ [] 0 0 := Stand.of_body Bd
  have e0 : s₁.heap = h0 := by rw [← hh, Bd.state]; rfl
  show own_G p.tables e below (fun o U' => ∃ v L, o = .returned v ∧ Q_rm6 Z x0 x1 x2 x3 h0 n0 v U'.heap L ∧ ReturnedEndW s o U' L ({ frames := 1, cells := 2, slots := 36, locals := 14 } : Room).cells ({ frames := 1, cells := 2, slots := 36, locals := 14 } : Room).slots) (s₁.setTop (entryFrame m #[(.ref x0), (.ref x1), (.int x2), (.int x3)] 4))
  refine own_go (fun _ k => castTop (ef_6_RRII m x0 x1 x2 x3) k) ?_
  have N0 := Fr.nil n0
  have KP0 := Keep.refl h0 [x0]
  have hS : s.Since s.vm h0.size := (State.WarmedH.refl s).since _
  have hk : h0.size ≤ h0.size := Nat.le_refl _
  have own_sA : ∀ a ∈ Bundle.stringAtoms, a.before a0 Z = true := own_strA hw
  show own_G p.tables e below _ (s₁.setTop (mkF m 0 #[.val (.ref x0), .val (.ref x1), .val (.int x2), .val (.int x3)] []))
  refine own_go (fun _ k => XS.aloadN X0.here hx rfl (hb hby d6_0) rfl rfl k) ?_
  show own_G p.tables e below _ (s₁.setTop (mkF m 1 #[.val (.ref x0), .val (.ref x1), .val (.int x2), .val (.int x3)] [(.ref x0)]))
  obtain ⟨T47, X47, e47, st47⟩ := initO X0 hx hZ hown (hw _ (List.mem_of_getElem? (i := 32) rfl)) (hw _ (List.mem_of_getElem? (i := 20) rfl)) (hw _ (List.mem_of_getElem? (i := 21) rfl)) e0 (g := (mkF m 1 #[.val (.ref x0), .val (.ref x1), .val (.int x2), .val (.int x3)] [(.ref x0)])) rfl (by rw [hml]; rfl) rfl (hb hby d6_1) (by decide) (W := 0) (by show 2 * 0 + _ ≤ _; exact Nat.le_of_eq rfl) (by decide)
  refine own_go st47 ?_
  show own_G p.tables e below _ (T47.setTop (mkF m 4 #[.val (.ref x0), .val (.ref x1), .val (.int x2), .val (.int x3)] []))
  refine own_go (fun _ k => XS.aloadN X47.here hx rfl (hb hby d6_4) rfl rfl k) ?_
  show own_G p.tables e below _ (T47.setTop (mkF m 5 #[.val (.ref x0), .val (.ref x1), .val (.int x2), .val (.int x3)] [(.ref x0)]))
  refine own_go (fun _ k => XS.aloadN X47.here hx rfl (hb hby d6_5) rfl rfl k) ?_
  show own_G p.tables e below _ (T47.setTop (mkF m 6 #[.val (.ref x0), .val (.ref x1), .val (.int x2), .val (.int x3)] [(.ref x1), (.ref x0)]))
  obtain ⟨b48, T48, h48, k48, X48, e48, E48, hS, hk48, hZ, hown, st48⟩ := ldcS (s := s) (vm0 := s.vm) X47 hx hZ hown (hw _ (List.mem_of_getElem? (i := 33) rfl)) own_sA e47 hS hk (g := (mkF m 6 #[.val (.ref x0), .val (.ref x1), .val (.int x2), .val (.int x3)] [(.ref x1), (.ref x0)])) rfl (hb hby d6_6) (n := 32) (by decide) (by decide) (by decide) (by decide)
  have X_49 := p0_.ext E48
  have X_50 := p2_.ext E48
  have F_51 := p3_.ext E48
  have F_52 := p4_.ext E48
  have F_53 := p5_.ext E48
  have Z_54 : n0 ≤ h48.size := Nat.le_trans Z0 E48.1
  have hk_55 := Nat.le_trans hk E48.1
  have KP_56 : Keep h0 h48 [x0] := KP0.ext E48
  refine own_go st48 ?_
  show own_G p.tables e below _ (T48.setTop (mkF m 8 #[.val (.ref x0), .val (.ref x1), .val (.int x2), .val (.int x3)] [(.ref b48), (.ref x1), (.ref x0)]))
  obtain ⟨T57, X57, e57, st57⟩ := own_callP X48 hx hZ (y := (⟨"java/util/Objects", "requireNonNull", "(Ljava/lang/Object;Ljava/lang/String;)Ljava/lang/Object;"⟩ : MethodName)) hown (hw _ (List.mem_of_getElem? (i := 36) rfl)) (hw _ (List.mem_of_getElem? (i := 37) rfl)) (hw _ (List.mem_of_getElem? (i := 38) rfl)) (hw _ (List.mem_of_getElem? (i := 39) rfl)) (by decide) (W := 1) (rm7 l Z a0 hw [] x1 b48  h48 ) (by decide) (by decide) rfl rfl e48 (g := (mkF m 8 #[.val (.ref x0), .val (.ref x1), .val (.int x2), .val (.int x3)] [(.ref b48), (.ref x1), (.ref x0)])) rfl (by rw [hml]; rfl) (argsL := [(.ref x1), (.ref b48)]) (rest := [(.ref x0)]) (lenOf own_pd3 rfl) rfl rfl (by show 2 * 0 + _ ≤ _; exact Nat.le_of_eq rfl) (hb hby d6_8) (by decide) (by decide)
  refine own_go st57 ?_
  show own_G p.tables e below _ (T57.setTop (mkF m 11 #[.val (.ref x0), .val (.ref x1), .val (.int x2), .val (.int x3)] [(.ref x1), (.ref x0)]))
  obtain ⟨T58, X58, e58, st58⟩ := castY X57 hx hZ hown (hw _ (List.mem_of_getElem? (i := 40) rfl)) e57 (Ins.self X_50) (g := (mkF m 11 #[.val (.ref x0), .val (.ref x1), .val (.int x2), .val (.int x3)] [(.ref x1), (.ref x0)])) rfl rfl (hb hby d6_11)
  refine own_go st58 ?_
  show own_G p.tables e below _ (T58.setTop (mkF m 14 #[.val (.ref x0), .val (.ref x1), .val (.int x2), .val (.int x3)] [(.ref x1), (.ref x0)]))
  obtain ⟨T59, h59, X59, e59, W59, st59⟩ := putF X58 hx hZ hown (host := "") (Or.inl (hw _ (List.mem_of_getElem? (i := 41) rfl))) Via.refl e58 F_51 X_49 (Or.inr ⟨(hw _ (List.mem_of_getElem? (i := 42) rfl)), rfl, hnm⟩) (hw _ (List.mem_of_getElem? (i := 27) rfl)) (ty := (.object "java/lang/String")) (by decide) rfl rfl (g := (mkF m 14 #[.val (.ref x0), .val (.ref x1), .val (.int x2), .val (.int x3)] [(.ref x1), (.ref x0)])) rfl rfl (hb hby d6_14)
  have X_60 := X_49.wr W59
  have X_61 := X_50.wr W59
  have F_62 := F_52.other W59 (Or.inr (slot_ne (Or.inr (hw _ (List.mem_of_getElem? (i := 44) rfl))) (Or.inr (hw _ (List.mem_of_getElem? (i := 42) rfl))) (by decide) (t := .int) (t' := (.object "java/lang/String")) (by decide) (by decide)))
  have F_63 := F_53.other W59 (Or.inr (slot_ne (Or.inr (hw _ (List.mem_of_getElem? (i := 46) rfl))) (Or.inr (hw _ (List.mem_of_getElem? (i := 42) rfl))) (by decide) (t := .int) (t' := (.object "java/lang/String")) (by decide) (by decide)))
  have F_64 := F_51.same W59
  have Z_65 : n0 ≤ h59.size := Nat.le_trans Z_54 (Nat.le_of_eq W59.size.symm)
  have hk_66 := Nat.le_trans hk48 (Nat.le_of_eq W59.size.symm)
  have KP_67 : Keep h0 h59 [x0] := KP_56.wr W59 (Or.inl (List.mem_of_getElem? (i := 0) rfl))
  have N_59 := Fr.snoc X59 N0 p1_
  refine own_go st59 ?_
  show own_G p.tables e below _ (T59.setTop (mkF m 17 #[.val (.ref x0), .val (.ref x1), .val (.int x2), .val (.int x3)] []))
  refine own_go (fun _ k => XS.aloadN X59.here hx rfl (hb hby d6_17) rfl rfl k) ?_
  show own_G p.tables e below _ (T59.setTop (mkF m 18 #[.val (.ref x0), .val (.ref x1), .val (.int x2), .val (.int x3)] [(.ref x0)]))
  refine own_go (fun _ k => XS.iloadN X59.here hx rfl (hb hby d6_18) rfl k) ?_
  show own_G p.tables e below _ (T59.setTop (mkF m 19 #[.val (.ref x0), .val (.ref x1), .val (.int x2), .val (.int x3)] [(.int x2), (.ref x0)]))
  obtain ⟨T68, h68, X68, e68, W68, st68⟩ := putF X59 hx hZ hown (host := "") (Or.inl (hw _ (List.mem_of_getElem? (i := 43) rfl))) Via.refl e59 F_62 X_60 (Or.inr ⟨(hw _ (List.mem_of_getElem? (i := 44) rfl)), rfl, hnm⟩) (hw _ (List.mem_of_getElem? (i := 27) rfl)) (ty := .int) (by decide) rfl rfl (g := (mkF m 19 #[.val (.ref x0), .val (.ref x1), .val (.int x2), .val (.int x3)] [(.int x2), (.ref x0)])) rfl rfl (hb hby d6_19)
  have X_69 := X_60.wr W68
  have X_70 := X_61.wr W68
  have F_71 := F_64.other W68 (Or.inr (slot_ne (Or.inr (hw _ (List.mem_of_getElem? (i := 42) rfl))) (Or.inr (hw _ (List.mem_of_getElem? (i := 44) rfl))) (by decide) (t := (.object "java/lang/String")) (t' := .int) (by decide) (by decide)))
  have F_72 := F_63.other W68 (Or.inr (slot_ne (Or.inr (hw _ (List.mem_of_getElem? (i := 46) rfl))) (Or.inr (hw _ (List.mem_of_getElem? (i := 44) rfl))) (by decide) (t := .int) (t' := .int) (by decide) (by decide)))
  have F_73 := F_62.same W68
  have Z_74 : n0 ≤ h68.size := Nat.le_trans Z_65 (Nat.le_of_eq W68.size.symm)
  have hk_75 := Nat.le_trans hk_66 (Nat.le_of_eq W68.size.symm)
  have KP_76 : Keep h0 h68 [x0] := KP_67.wr W68 (Or.inl (List.mem_of_getElem? (i := 0) rfl))
  have N_68 := Fr.snoc X68 N_59 p1_
  refine own_go st68 ?_
  show own_G p.tables e below _ (T68.setTop (mkF m 22 #[.val (.ref x0), .val (.ref x1), .val (.int x2), .val (.int x3)] []))
  refine own_go (fun _ k => XS.aloadN X68.here hx rfl (hb hby d6_22) rfl rfl k) ?_
  show own_G p.tables e below _ (T68.setTop (mkF m 23 #[.val (.ref x0), .val (.ref x1), .val (.int x2), .val (.int x3)] [(.ref x0)]))
  refine own_go (fun _ k => XS.iloadN X68.here hx rfl (hb hby d6_23) rfl k) ?_
  show own_G p.tables e below _ (T68.setTop (mkF m 24 #[.val (.ref x0), .val (.ref x1), .val (.int x2), .val (.int x3)] [(.int x3), (.ref x0)]))
  obtain ⟨T77, h77, X77, e77, W77, st77⟩ := putF X68 hx hZ hown (host := "") (Or.inl (hw _ (List.mem_of_getElem? (i := 45) rfl))) Via.refl e68 F_72 X_69 (Or.inr ⟨(hw _ (List.mem_of_getElem? (i := 46) rfl)), rfl, hnm⟩) (hw _ (List.mem_of_getElem? (i := 27) rfl)) (ty := .int) (by decide) rfl rfl (g := (mkF m 24 #[.val (.ref x0), .val (.ref x1), .val (.int x2), .val (.int x3)] [(.int x3), (.ref x0)])) rfl rfl (hb hby d6_24)
  have X_78 := X_69.wr W77
  have X_79 := X_70.wr W77
  have F_80 := F_71.other W77 (Or.inr (slot_ne (Or.inr (hw _ (List.mem_of_getElem? (i := 42) rfl))) (Or.inr (hw _ (List.mem_of_getElem? (i := 46) rfl))) (by decide) (t := (.object "java/lang/String")) (t' := .int) (by decide) (by decide)))
  have F_81 := F_73.other W77 (Or.inr (slot_ne (Or.inr (hw _ (List.mem_of_getElem? (i := 44) rfl))) (Or.inr (hw _ (List.mem_of_getElem? (i := 46) rfl))) (by decide) (t := .int) (t' := .int) (by decide) (by decide)))
  have F_82 := F_72.same W77
  have Z_83 : n0 ≤ h77.size := Nat.le_trans Z_74 (Nat.le_of_eq W77.size.symm)
  have hk_84 := Nat.le_trans hk_75 (Nat.le_of_eq W77.size.symm)
  have KP_85 : Keep h0 h77 [x0] := KP_76.wr W77 (Or.inl (List.mem_of_getElem? (i := 0) rfl))
  have N_77 := Fr.snoc X77 N_68 p1_
  refine own_go st77 ?_
  show own_G p.tables e below _ (T77.setTop (mkF m 27 #[.val (.ref x0), .val (.ref x1), .val (.int x2), .val (.int x3)] []))
  exact own_endW X77 Bd.notSynchronized hS (by rw [e77]; exact hk_84) (v := none) (fun _ => rfl) (Q := Q_rm6 Z x0 x1 x2 x3 h0 n0) (by show Q_rm6 Z x0 x1 x2 x3 h0 n0 (none) T77.heap _; rw [e77]; exact ⟨rfl, N_77, KP_85, X_78⟩) (fun fs hr => X77.returnOut hx Bd.returns (hb hby d6_27) hr) (by decide) (by decide)
def Q_rm_nodeB (Z : State) (x0 : Addr) (x1 : Addr) (u : Int32) (h0 : Heap) (n0 : Nat) (v : Option Value) (h : Heap) (L : List Loc) : Prop := v = none ∧ Fr n0 L ∧ Keep h0 h [x0] ∧ Exa Z h x0 "com/example/ptah/ptah/model/BooleanNode" ∧ Fld Z h x0 "com/example/ptah/ptah/model/BooleanNode" "value" "Z" (.int u)
theorem d9_0 : decode prog_74_method_1_code 0 = .ok (.aload_n 0, 1) := by decide +kernel
theorem d9_1 : decode prog_74_method_1_code 1 = .ok (.invokespecial 1, 3) := by decide +kernel
theorem d9_4 : decode prog_74_method_1_code 4 = .ok (.aload_n 0, 1) := by decide +kernel
theorem d9_5 : decode prog_74_method_1_code 5 = .ok (.aload_n 1, 1) := by decide +kernel
theorem d9_6 : decode prog_74_method_1_code 6 = .ok (.ldc 7, 2) := by decide +kernel
theorem d9_8 : decode prog_74_method_1_code 8 = .ok (.invokestatic 9, 3) := by decide +kernel
theorem d9_11 : decode prog_74_method_1_code 11 = .ok (.checkcast 15, 3) := by decide +kernel
theorem d9_14 : decode prog_74_method_1_code 14 = .ok (.putfield 17, 3) := by decide +kernel
theorem d9_17 : decode prog_74_method_1_code 17 = .ok (.return_, 1) := by decide +kernel
theorem own_pn4 : plainName "com/example/ptah/ptah/model/Node" = true := by first | (simp [plainName, overriddenIn]; done) | decide +kernel
theorem ef_9_RR (m : MethodId) (x0 : Addr) (x1 : Addr) : entryFrame m #[(.ref x0), (.ref x1)] 2 = mkF m 0 #[.val (.ref x0), .val (.ref x1)] [] := by
  first | (simp [entryFrame, mkF, argsToLocals, Value.category]; done) | rfl
set_option maxRecDepth 65536 in
set_option maxHeartbeats 40000000 in
theorem rm_nodeB (l : Launch) (Z : State) (a0 : Array Value) (hw : ∀ d ∈ tables_1, d.before a0 Z = true) (ws : List Jvm.Cond) (x0 : Addr) (x1 : Addr) (u : Int32) (h0 : Heap) (n0 : Nat) (Z0 : n0 ≤ h0.size) (p0_ : Exa Z h0 x0 "com/example/ptah/ptah/model/BooleanNode") (p1_ : n0 ≤ x0) (p2_ : Exa Z h0 x1 "com/example/ptah/ptah/model/SourceLocation") (p3_ : Fld Z h0 x0 "com/example/ptah/ptah/model/Node" "sourceLocation" "Lcom/example/ptah/ptah/model/SourceLocation;" .null) (p4_ : Fld Z h0 x0 "com/example/ptah/ptah/model/BooleanNode" "value" "Z" (.int u))  :
    MetFree l (⟨"com/example/ptah/ptah/model/Node", "<init>", "(Lcom/example/ptah/ptah/model/SourceLocation;)V"⟩ : MethodName) (head1 (Jvm.Cond.code (⟨"com/example/ptah/ptah/model/Node", "<init>", "(Lcom/example/ptah/ptah/model/SourceLocation;)V"⟩ : MethodName) prog_74_method_1_code 2 none :: ws) ({ frames := 1, cells := 2, slots := 60, locals := 14 } : Room)) (fun a U => a = #[(.ref x0), (.ref x1)] ∧ Z.Warmed39 U.vm ∧ U.heap = h0) (fun _ _ _ _ _ => True) (fun _ U o U' => ∃ v L, o = .returned v ∧ Q_rm_nodeB Z x0 x1 u h0 n0 v U'.heap L ∧ ReturnedEndW U o U' L ({ frames := 1, cells := 2, slots := 60, locals := 14 } : Room).cells ({ frames := 1, cells := 2, slots := 60, locals := 14 } : Room).slots) := by
  refine MetFree.of_bodySF (plainFor_of_name own_pn4) hisR ?_
  intro p e s m args below meth c s₁ Bd hml0 hP hK
  obtain ⟨rfl, hZ, hh⟩ := hP
  have hx := Bd.exec
  have hby := Bd.bytes
  have hml : c.maxLocals = 2 := hml0
  have hown : s.vm.findClass "com/example/ptah/ptah/model/Node" = some m.cls := findClass_of_methodNamed Bd.named
  have hnm := (name_of_methodNamed Bd.named Bd.method).1
  have X0 : Stand p l e ({ frames := 1, cells := 2, slots := 60, locals := 14 } : Room) s m #[(.ref x0), (.ref x1)] below meth c s₁ [] 0 0 := Stand.of_body Bd
  have e0 : s₁.heap = h0 := by rw [← hh, Bd.state]; rfl
  show own_G p.tables e below (fun o U' => ∃ v L, o = .returned v ∧ Q_rm_nodeB Z x0 x1 u h0 n0 v U'.heap L ∧ ReturnedEndW s o U' L ({ frames := 1, cells := 2, slots := 60, locals := 14 } : Room).cells ({ frames := 1, cells := 2, slots := 60, locals := 14 } : Room).slots) (s₁.setTop (entryFrame m #[(.ref x0), (.ref x1)] 2))
  refine own_go (fun _ k => castTop (ef_9_RR m x0 x1) k) ?_
  have N0 := Fr.nil n0
  have KP0 := Keep.refl h0 [x0]
  have hS : s.Since s.vm h0.size := (State.WarmedH.refl s).since _
  have hk : h0.size ≤ h0.size := Nat.le_refl _
  have own_sA : ∀ a ∈ Bundle.stringAtoms, a.before a0 Z = true := own_strA hw
  show own_G p.tables e below _ (s₁.setTop (mkF m 0 #[.val (.ref x0), .val (.ref x1)] []))
  refine own_go (fun _ k => XS.aloadN X0.here hx rfl (hb hby d9_0) rfl rfl k) ?_
  show own_G p.tables e below _ (s₁.setTop (mkF m 1 #[.val (.ref x0), .val (.ref x1)] [(.ref x0)]))
  obtain ⟨T86, X86, e86, st86⟩ := initO X0 hx hZ hown (hw _ (List.mem_of_getElem? (i := 58) rfl)) (hw _ (List.mem_of_getElem? (i := 20) rfl)) (hw _ (List.mem_of_getElem? (i := 21) rfl)) e0 (g := (mkF m 1 #[.val (.ref x0), .val (.ref x1)] [(.ref x0)])) rfl (by rw [hml]; rfl) rfl (hb hby d9_1) (by decide) (W := 0) (by show 2 * 0 + _ ≤ _; exact Nat.le_of_eq rfl) (by decide)
  refine own_go st86 ?_
  show own_G p.tables e below _ (T86.setTop (mkF m 4 #[.val (.ref x0), .val (.ref x1)] []))
  refine own_go (fun _ k => XS.aloadN X86.here hx rfl (hb hby d9_4) rfl rfl k) ?_
  show own_G p.tables e below _ (T86.setTop (mkF m 5 #[.val (.ref x0), .val (.ref x1)] [(.ref x0)]))
  refine own_go (fun _ k => XS.aloadN X86.here hx rfl (hb hby d9_5) rfl rfl k) ?_
  show own_G p.tables e below _ (T86.setTop (mkF m 6 #[.val (.ref x0), .val (.ref x1)] [(.ref x1), (.ref x0)]))
  obtain ⟨b87, T87, h87, k87, X87, e87, E87, hS, hk87, hZ, hown, st87⟩ := ldcS (s := s) (vm0 := s.vm) X86 hx hZ hown (hw _ (List.mem_of_getElem? (i := 59) rfl)) own_sA e86 hS hk (g := (mkF m 6 #[.val (.ref x0), .val (.ref x1)] [(.ref x1), (.ref x0)])) rfl (hb hby d9_6) (n := 56) (by decide) (by decide) (by decide) (by decide)
  have X_88 := p0_.ext E87
  have X_89 := p2_.ext E87
  have F_90 := p3_.ext E87
  have F_91 := p4_.ext E87
  have Z_92 : n0 ≤ h87.size := Nat.le_trans Z0 E87.1
  have hk_93 := Nat.le_trans hk E87.1
  have KP_94 : Keep h0 h87 [x0] := KP0.ext E87
  refine own_go st87 ?_
  show own_G p.tables e below _ (T87.setTop (mkF m 8 #[.val (.ref x0), .val (.ref x1)] [(.ref b87), (.ref x1), (.ref x0)]))
  obtain ⟨T95, X95, e95, st95⟩ := own_callP X87 hx hZ (y := (⟨"java/util/Objects", "requireNonNull", "(Ljava/lang/Object;Ljava/lang/String;)Ljava/lang/Object;"⟩ : MethodName)) hown (hw _ (List.mem_of_getElem? (i := 60) rfl)) (hw _ (List.mem_of_getElem? (i := 37) rfl)) (hw _ (List.mem_of_getElem? (i := 38) rfl)) (hw _ (List.mem_of_getElem? (i := 39) rfl)) (by decide) (W := 1) (rm7 l Z a0 hw [] x1 b87  h87 ) (by decide) (by decide) rfl rfl e87 (g := (mkF m 8 #[.val (.ref x0), .val (.ref x1)] [(.ref b87), (.ref x1), (.ref x0)])) rfl (by rw [hml]; rfl) (argsL := [(.ref x1), (.ref b87)]) (rest := [(.ref x0)]) (lenOf own_pd3 rfl) rfl rfl (by show 2 * 0 + _ ≤ _; exact Nat.le_of_eq rfl) (hb hby d9_8) (by decide) (by decide)
  refine own_go st95 ?_
  show own_G p.tables e below _ (T95.setTop (mkF m 11 #[.val (.ref x0), .val (.ref x1)] [(.ref x1), (.ref x0)]))
  obtain ⟨T96, X96, e96, st96⟩ := castY X95 hx hZ hown (hw _ (List.mem_of_getElem? (i := 61) rfl)) e95 (Ins.self X_89) (g := (mkF m 11 #[.val (.ref x0), .val (.ref x1)] [(.ref x1), (.ref x0)])) rfl rfl (hb hby d9_11)
  refine own_go st96 ?_
  show own_G p.tables e below _ (T96.setTop (mkF m 14 #[.val (.ref x0), .val (.ref x1)] [(.ref x1), (.ref x0)]))
  obtain ⟨T97, h97, X97, e97, W97, st97⟩ := putF X96 hx hZ hown (host := "") (Or.inl (hw _ (List.mem_of_getElem? (i := 63) rfl))) Via.refl e96 F_90 X_88 (Or.inr ⟨(hw _ (List.mem_of_getElem? (i := 64) rfl)), rfl, hnm⟩) (hw _ (List.mem_of_getElem? (i := 48) rfl)) (ty := (.object "com/example/ptah/ptah/model/SourceLocation")) (by decide) rfl rfl (g := (mkF m 14 #[.val (.ref x0), .val (.ref x1)] [(.ref x1), (.ref x0)])) rfl rfl (hb hby d9_14)
  have X_98 := X_88.wr W97
  have X_99 := X_89.wr W97
  have F_100 := F_91.other W97 (Or.inr (slot_ne (Or.inr (hw _ (List.mem_of_getElem? (i := 66) rfl))) (Or.inr (hw _ (List.mem_of_getElem? (i := 64) rfl))) (by decide) (t := .boolean) (t' := (.object "com/example/ptah/ptah/model/SourceLocation")) (by decide) (by decide)))
  have F_101 := F_90.same W97
  have Z_102 : n0 ≤ h97.size := Nat.le_trans Z_92 (Nat.le_of_eq W97.size.symm)
  have hk_103 := Nat.le_trans hk87 (Nat.le_of_eq W97.size.symm)
  have KP_104 : Keep h0 h97 [x0] := KP_94.wr W97 (Or.inl (List.mem_of_getElem? (i := 0) rfl))
  have N_97 := Fr.snoc X97 N0 p1_
  refine own_go st97 ?_
  show own_G p.tables e below _ (T97.setTop (mkF m 17 #[.val (.ref x0), .val (.ref x1)] []))
  exact own_endW X97 Bd.notSynchronized hS (by rw [e97]; exact hk_103) (v := none) (fun _ => rfl) (Q := Q_rm_nodeB Z x0 x1 u h0 n0) (by show Q_rm_nodeB Z x0 x1 u h0 n0 (none) T97.heap _; rw [e97]; exact ⟨rfl, N_97, KP_104, X_98, F_100⟩) (fun fs hr => X97.returnOut hx Bd.returns (hb hby d9_17) hr) (by decide) (by decide)
def Q_rm_nodeN (Z : State) (x0 : Addr) (x1 : Addr)  (h0 : Heap) (n0 : Nat) (v : Option Value) (h : Heap) (L : List Loc) : Prop := v = none ∧ Fr n0 L ∧ Keep h0 h [x0] ∧ Exa Z h x0 "com/example/ptah/ptah/model/NullNode"
set_option maxRecDepth 65536 in
set_option maxHeartbeats 40000000 in
theorem rm_nodeN (l : Launch) (Z : State) (a0 : Array Value) (hw : ∀ d ∈ tables_1, d.before a0 Z = true) (ws : List Jvm.Cond) (x0 : Addr) (x1 : Addr)  (h0 : Heap) (n0 : Nat) (Z0 : n0 ≤ h0.size) (p0_ : Exa Z h0 x0 "com/example/ptah/ptah/model/NullNode") (p1_ : n0 ≤ x0) (p2_ : Exa Z h0 x1 "com/example/ptah/ptah/model/SourceLocation") (p3_ : Fld Z h0 x0 "com/example/ptah/ptah/model/Node" "sourceLocation" "Lcom/example/ptah/ptah/model/SourceLocation;" .null)  :
    MetFree l (⟨"com/example/ptah/ptah/model/Node", "<init>", "(Lcom/example/ptah/ptah/model/SourceLocation;)V"⟩ : MethodName) (head1 (Jvm.Cond.code (⟨"com/example/ptah/ptah/model/Node", "<init>", "(Lcom/example/ptah/ptah/model/SourceLocation;)V"⟩ : MethodName) prog_74_method_1_code 2 none :: ws) ({ frames := 1, cells := 2, slots := 60, locals := 14 } : Room)) (fun a U => a = #[(.ref x0), (.ref x1)] ∧ Z.Warmed39 U.vm ∧ U.heap = h0) (fun _ _ _ _ _ => True) (fun _ U o U' => ∃ v L, o = .returned v ∧ Q_rm_nodeN Z x0 x1 h0 n0 v U'.heap L ∧ ReturnedEndW U o U' L ({ frames := 1, cells := 2, slots := 60, locals := 14 } : Room).cells ({ frames := 1, cells := 2, slots := 60, locals := 14 } : Room).slots) := by
  refine MetFree.of_bodySF (plainFor_of_name own_pn4) hisR ?_
  intro p e s m args below meth c s₁ Bd hml0 hP hK
  obtain ⟨rfl, hZ, hh⟩ := hP
  have hx := Bd.exec
  have hby := Bd.bytes
  have hml : c.maxLocals = 2 := hml0
  have hown : s.vm.findClass "com/example/ptah/ptah/model/Node" = some m.cls := findClass_of_methodNamed Bd.named
  have hnm := (name_of_methodNamed Bd.named Bd.method).1
  have X0 : Stand p l e ({ frames := 1, cells := 2, slots := 60, locals := 14 } : Room) s m #[(.ref x0), (.ref x1)] below meth c s₁ [] 0 0 := Stand.of_body Bd
  have e0 : s₁.heap = h0 := by rw [← hh, Bd.state]; rfl
  show own_G p.tables e below (fun o U' => ∃ v L, o = .returned v ∧ Q_rm_nodeN Z x0 x1 h0 n0 v U'.heap L ∧ ReturnedEndW s o U' L ({ frames := 1, cells := 2, slots := 60, locals := 14 } : Room).cells ({ frames := 1, cells := 2, slots := 60, locals := 14 } : Room).slots) (s₁.setTop (entryFrame m #[(.ref x0), (.ref x1)] 2))
  refine own_go (fun _ k => castTop (ef_9_RR m x0 x1) k) ?_
  have N0 := Fr.nil n0
  have KP0 := Keep.refl h0 [x0]
  have hS : s.Since s.vm h0.size := (State.WarmedH.refl s).since _
  have hk : h0.size ≤ h0.size := Nat.le_refl _
  have own_sA : ∀ a ∈ Bundle.stringAtoms, a.before a0 Z = true := own_strA hw
  show own_G p.tables e below _ (s₁.setTop (mkF m 0 #[.val (.ref x0), .val (.ref x1)] []))
  refine own_go (fun _ k => XS.aloadN X0.here hx rfl (hb hby d9_0) rfl rfl k) ?_
  show own_G p.tables e below _ (s₁.setTop (mkF m 1 #[.val (.ref x0), .val (.ref x1)] [(.ref x0)]))
  obtain ⟨T105, X105, e105, st105⟩ := initO X0 hx hZ hown (hw _ (List.mem_of_getElem? (i := 58) rfl)) (hw _ (List.mem_of_getElem? (i := 20) rfl)) (hw _ (List.mem_of_getElem? (i := 21) rfl)) e0 (g := (mkF m 1 #[.val (.ref x0), .val (.ref x1)] [(.ref x0)])) rfl (by rw [hml]; rfl) rfl (hb hby d9_1) (by decide) (W := 0) (by show 2 * 0 + _ ≤ _; exact Nat.le_of_eq rfl) (by decide)
  refine own_go st105 ?_
  show own_G p.tables e below _ (T105.setTop (mkF m 4 #[.val (.ref x0), .val (.ref x1)] []))
  refine own_go (fun _ k => XS.aloadN X105.here hx rfl (hb hby d9_4) rfl rfl k) ?_
  show own_G p.tables e below _ (T105.setTop (mkF m 5 #[.val (.ref x0), .val (.ref x1)] [(.ref x0)]))
  refine own_go (fun _ k => XS.aloadN X105.here hx rfl (hb hby d9_5) rfl rfl k) ?_
  show own_G p.tables e below _ (T105.setTop (mkF m 6 #[.val (.ref x0), .val (.ref x1)] [(.ref x1), (.ref x0)]))
  obtain ⟨b106, T106, h106, k106, X106, e106, E106, hS, hk106, hZ, hown, st106⟩ := ldcS (s := s) (vm0 := s.vm) X105 hx hZ hown (hw _ (List.mem_of_getElem? (i := 59) rfl)) own_sA e105 hS hk (g := (mkF m 6 #[.val (.ref x0), .val (.ref x1)] [(.ref x1), (.ref x0)])) rfl (hb hby d9_6) (n := 56) (by decide) (by decide) (by decide) (by decide)
  have X_107 := p0_.ext E106
  have X_108 := p2_.ext E106
  have F_109 := p3_.ext E106
  have Z_110 : n0 ≤ h106.size := Nat.le_trans Z0 E106.1
  have hk_111 := Nat.le_trans hk E106.1
  have KP_112 : Keep h0 h106 [x0] := KP0.ext E106
  refine own_go st106 ?_
  show own_G p.tables e below _ (T106.setTop (mkF m 8 #[.val (.ref x0), .val (.ref x1)] [(.ref b106), (.ref x1), (.ref x0)]))
  obtain ⟨T113, X113, e113, st113⟩ := own_callP X106 hx hZ (y := (⟨"java/util/Objects", "requireNonNull", "(Ljava/lang/Object;Ljava/lang/String;)Ljava/lang/Object;"⟩ : MethodName)) hown (hw _ (List.mem_of_getElem? (i := 60) rfl)) (hw _ (List.mem_of_getElem? (i := 37) rfl)) (hw _ (List.mem_of_getElem? (i := 38) rfl)) (hw _ (List.mem_of_getElem? (i := 39) rfl)) (by decide) (W := 1) (rm7 l Z a0 hw [] x1 b106  h106 ) (by decide) (by decide) rfl rfl e106 (g := (mkF m 8 #[.val (.ref x0), .val (.ref x1)] [(.ref b106), (.ref x1), (.ref x0)])) rfl (by rw [hml]; rfl) (argsL := [(.ref x1), (.ref b106)]) (rest := [(.ref x0)]) (lenOf own_pd3 rfl) rfl rfl (by show 2 * 0 + _ ≤ _; exact Nat.le_of_eq rfl) (hb hby d9_8) (by decide) (by decide)
  refine own_go st113 ?_
  show own_G p.tables e below _ (T113.setTop (mkF m 11 #[.val (.ref x0), .val (.ref x1)] [(.ref x1), (.ref x0)]))
  obtain ⟨T114, X114, e114, st114⟩ := castY X113 hx hZ hown (hw _ (List.mem_of_getElem? (i := 61) rfl)) e113 (Ins.self X_108) (g := (mkF m 11 #[.val (.ref x0), .val (.ref x1)] [(.ref x1), (.ref x0)])) rfl rfl (hb hby d9_11)
  refine own_go st114 ?_
  show own_G p.tables e below _ (T114.setTop (mkF m 14 #[.val (.ref x0), .val (.ref x1)] [(.ref x1), (.ref x0)]))
  obtain ⟨T115, h115, X115, e115, W115, st115⟩ := putF X114 hx hZ hown (host := "") (Or.inl (hw _ (List.mem_of_getElem? (i := 63) rfl))) Via.refl e114 F_109 X_107 (Or.inr ⟨(hw _ (List.mem_of_getElem? (i := 74) rfl)), rfl, hnm⟩) (hw _ (List.mem_of_getElem? (i := 68) rfl)) (ty := (.object "com/example/ptah/ptah/model/SourceLocation")) (by decide) rfl rfl (g := (mkF m 14 #[.val (.ref x0), .val (.ref x1)] [(.ref x1), (.ref x0)])) rfl rfl (hb hby d9_14)
  have X_116 := X_107.wr W115
  have X_117 := X_108.wr W115
  have F_118 := F_109.same W115
  have Z_119 : n0 ≤ h115.size := Nat.le_trans Z_110 (Nat.le_of_eq W115.size.symm)
  have hk_120 := Nat.le_trans hk106 (Nat.le_of_eq W115.size.symm)
  have KP_121 : Keep h0 h115 [x0] := KP_112.wr W115 (Or.inl (List.mem_of_getElem? (i := 0) rfl))
  have N_115 := Fr.snoc X115 N0 p1_
  refine own_go st115 ?_
  show own_G p.tables e below _ (T115.setTop (mkF m 17 #[.val (.ref x0), .val (.ref x1)] []))
  exact own_endW X115 Bd.notSynchronized hS (by rw [e115]; exact hk_120) (v := none) (fun _ => rfl) (Q := Q_rm_nodeN Z x0 x1 h0 n0) (by show Q_rm_nodeN Z x0 x1 h0 n0 (none) T115.heap _; rw [e115]; exact ⟨rfl, N_115, KP_121, X_116⟩) (fun fs hr => X115.returnOut hx Bd.returns (hb hby d9_17) hr) (by decide) (by decide)
def Q_rm8 (Z : State) (x0 : Addr) (x1 : Int32) (x2 : Addr)  (h0 : Heap) (n0 : Nat) (v : Option Value) (h : Heap) (L : List Loc) : Prop := v = none ∧ Fr n0 L ∧ Keep h0 h [x0] ∧ Exa Z h x0 "com/example/ptah/ptah/model/BooleanNode" ∧ Fld Z h x0 "com/example/ptah/ptah/model/BooleanNode" "value" "Z" (.int (nar .boolean x1))
theorem own_pd4 : parseMethodDescriptor "(Lcom/example/ptah/ptah/model/SourceLocation;)V" = some ⟨[(.object "com/example/ptah/ptah/model/SourceLocation")], none⟩ := by decide +kernel
theorem d8_0 : decode prog_49_method_1_code 0 = .ok (.aload_n 0, 1) := by decide +kernel
theorem d8_1 : decode prog_49_method_1_code 1 = .ok (.aload_n 2, 1) := by decide +kernel
theorem d8_2 : decode prog_49_method_1_code 2 = .ok (.invokespecial 1, 3) := by decide +kernel
theorem d8_5 : decode prog_49_method_1_code 5 = .ok (.aload_n 0, 1) := by decide +kernel
theorem d8_6 : decode prog_49_method_1_code 6 = .ok (.iload_n 1, 1) := by decide +kernel
theorem d8_7 : decode prog_49_method_1_code 7 = .ok (.putfield 7, 3) := by decide +kernel
theorem d8_10 : decode prog_49_method_1_code 10 = .ok (.return_, 1) := by decide +kernel
theorem own_pn5 : plainName "com/example/ptah/ptah/model/BooleanNode" = true := by first | (simp [plainName, overriddenIn]; done) | decide +kernel
theorem ef_8_RIR (m : MethodId) (x0 : Addr) (x1 : Int32) (x2 : Addr) : entryFrame m #[(.ref x0), (.int x1), (.ref x2)] 3 = mkF m 0 #[.val (.ref x0), .val (.int x1), .val (.ref x2)] [] := by
  first | (simp [entryFrame, mkF, argsToLocals, Value.category]; done) | rfl
set_option maxRecDepth 65536 in
set_option maxHeartbeats 40000000 in
theorem rm8 (l : Launch) (Z : State) (a0 : Array Value) (hw : ∀ d ∈ tables_1, d.before a0 Z = true) (ws : List Jvm.Cond) (x0 : Addr) (x1 : Int32) (x2 : Addr)  (h0 : Heap) (n0 : Nat) (Z0 : n0 ≤ h0.size) (p0_ : Exa Z h0 x0 "com/example/ptah/ptah/model/BooleanNode") (p1_ : n0 ≤ x0) (p2_ : Exa Z h0 x2 "com/example/ptah/ptah/model/SourceLocation") (p3_ : Fld Z h0 x0 "com/example/ptah/ptah/model/Node" "sourceLocation" "Lcom/example/ptah/ptah/model/SourceLocation;" .null) (p4_ : Fld Z h0 x0 "com/example/ptah/ptah/model/BooleanNode" "value" "Z" (.int (0 : Int32)))  :
    MetFree l (⟨"com/example/ptah/ptah/model/BooleanNode", "<init>", "(ZLcom/example/ptah/ptah/model/SourceLocation;)V"⟩ : MethodName) (head1 (Jvm.Cond.code (⟨"com/example/ptah/ptah/model/BooleanNode", "<init>", "(ZLcom/example/ptah/ptah/model/SourceLocation;)V"⟩ : MethodName) prog_49_method_1_code 3 none :: ws) ({ frames := 2, cells := 2, slots := 60, locals := 27 } : Room)) (fun a U => a = #[(.ref x0), (.int x1), (.ref x2)] ∧ Z.Warmed39 U.vm ∧ U.heap = h0) (fun _ _ _ _ _ => True) (fun _ U o U' => ∃ v L, o = .returned v ∧ Q_rm8 Z x0 x1 x2 h0 n0 v U'.heap L ∧ ReturnedEndW U o U' L ({ frames := 2, cells := 2, slots := 60, locals := 27 } : Room).cells ({ frames := 2, cells := 2, slots := 60, locals := 27 } : Room).slots) := by
  refine MetFree.of_bodySF (plainFor_of_name own_pn5) hisR ?_
  intro p e s m args below meth c s₁ Bd hml0 hP hK
  obtain ⟨rfl, hZ, hh⟩ := hP
  have hx := Bd.exec
  have hby := Bd.bytes
  have hml : c.maxLocals = 3 := hml0
  have hown : s.vm.findClass "com/example/ptah/ptah/model/BooleanNode" = some m.cls := findClass_of_methodNamed Bd.named
  have hnm := (name_of_methodNamed Bd.named Bd.method).1
  have X0 : Stand p l e ({ frames := 2, cells := 2, slots := 60, locals := 27 } : Room) s m #[(.ref x0), (.int x1), (.ref x2)] below meth c s₁ [] 0 0 := Stand.of_body Bd
  have e0 : s₁.heap = h0 := by rw [← hh, Bd.state]; rfl
  show own_G p.tables e below (fun o U' => ∃ v L, o = .returned v ∧ Q_rm8 Z x0 x1 x2 h0 n0 v U'.heap L ∧ ReturnedEndW s o U' L ({ frames := 2, cells := 2, slots := 60, locals := 27 } : Room).cells ({ frames := 2, cells := 2, slots := 60, locals := 27 } : Room).slots) (s₁.setTop (entryFrame m #[(.ref x0), (.int x1), (.ref x2)] 3))
  refine own_go (fun _ k => castTop (ef_8_RIR m x0 x1 x2) k) ?_
  have N0 := Fr.nil n0
  have KP0 := Keep.refl h0 [x0]
  have hS : s.Since s.vm h0.size := (State.WarmedH.refl s).since _
  have hk : h0.size ≤ h0.size := Nat.le_refl _
  have own_sA : ∀ a ∈ Bundle.stringAtoms, a.before a0 Z = true := own_strA hw
  show own_G p.tables e below _ (s₁.setTop (mkF m 0 #[.val (.ref x0), .val (.int x1), .val (.ref x2)] []))
  refine own_go (fun _ k => XS.aloadN X0.here hx rfl (hb hby d8_0) rfl rfl k) ?_
  show own_G p.tables e below _ (s₁.setTop (mkF m 1 #[.val (.ref x0), .val (.int x1), .val (.ref x2)] [(.ref x0)]))
  refine own_go (fun _ k => XS.aloadN X0.here hx rfl (hb hby d8_1) rfl rfl k) ?_
  show own_G p.tables e below _ (s₁.setTop (mkF m 2 #[.val (.ref x0), .val (.int x1), .val (.ref x2)] [(.ref x2), (.ref x0)]))
  obtain ⟨_, _, ⟨T122, L122, k122, n122⟩, -, X122, hSn, hgr, ⟨Lc122, hQ122, l122, y122, z122⟩, st122⟩ := X0.specialBackS hx (y := (⟨"com/example/ptah/ptah/model/Node", "<init>", "(Lcom/example/ptah/ptah/model/SourceLocation;)V"⟩ : MethodName)) rfl hown (mvT hZ (hw _ (List.mem_of_getElem? (i := 53) rfl))) (mvT hZ (hw _ (List.mem_of_getElem? (i := 54) rfl))) (mvT hZ (hw _ (List.mem_of_getElem? (i := 57) rfl))) (by decide) (backOfS (W := 0) (rm_nodeB l Z a0 hw [] x0 x2 (0 : Int32) h0 n0 Z0 p0_ p1_ p2_ p3_ p4_) hZ (hw _ (List.mem_of_getElem? (i := 57) rfl)) (hw _ (List.mem_of_getElem? (i := 56) rfl)) (by decide) (by decide)) (g := (mkF m 2 #[.val (.ref x0), .val (.int x1), .val (.ref x2)] [(.ref x2), (.ref x0)])) rfl (by rw [hml]; rfl) (Steps.refl _) (a := x0) (argsL := [(.ref x2)]) (rest := []) (lenOf own_pd4 rfl) rfl (by show 2 * 0 + _ ≤ _; exact Nat.le_of_eq rfl) (hb hby d8_2) (fun _ _ => ⟨rfl, e0, (by decide : 0 + 2 ≤ _), (by decide : 0 + 60 ≤ _)⟩)
  dsimp only [Pt.U, Pt.locs, Pt.cells, Pt.slots] at X122 l122 y122 z122 st122 hQ122 hSn hgr
  subst l122 y122 z122
  obtain ⟨rfl, Nq122, K122, G_123, G_124⟩ := hQ122
  have hS := foldS (s := s) hS (by rw [e0]; exact hk) hSn hgr
  have hZ := State.Warmed39.trans (t := s) hZ hSn.1
  have hown : (s.setVm T122.vm).vm.findClass "com/example/ptah/ptah/model/BooleanNode" = some m.cls := by rw [show (s.setVm T122.vm).vm = T122.vm from rfl, hSn.1.alike.findClass]; exact hown
  have X_125 := p0_.keep K122
  have X_126 := p2_.keep K122
  have Z_127 : n0 ≤ T122.heap.size := Nat.le_trans Z0 K122.1
  have hk_128 := Nat.le_trans hk K122.1
  have KP_129 : Keep h0 T122.heap [x0] := KP0.trans K122 (allS (Or.inl (List.mem_of_getElem? (i := 0) rfl)) all0)
  have hk122 : T122.heap.size ≤ T122.heap.size := Nat.le_refl _
  have N_122 := Fr.app N0 Nq122
  have X122 : Stand p l e _ (s.setVm T122.vm) m _ below meth c T122 _ _ _ := X122
  refine own_go (fun _ k => st122.trans k) ?_
  show own_G p.tables e below _ (T122.setTop (mkF m 5 #[.val (.ref x0), .val (.int x1), .val (.ref x2)] []))
  refine own_go (fun _ k => XS.aloadN X122.here hx rfl (hb hby d8_5) rfl rfl k) ?_
  show own_G p.tables e below _ (T122.setTop (mkF m 6 #[.val (.ref x0), .val (.int x1), .val (.ref x2)] [(.ref x0)]))
  refine own_go (fun _ k => XS.iloadN X122.here hx rfl (hb hby d8_6) rfl k) ?_
  show own_G p.tables e below _ (T122.setTop (mkF m 7 #[.val (.ref x0), .val (.int x1), .val (.ref x2)] [(.int x1), (.ref x0)]))
  obtain ⟨T130, h130, X130, e130, W130, st130⟩ := putFN X122 hx hZ hown (hw _ (List.mem_of_getElem? (i := 65) rfl)) Via.refl rfl G_124 G_123 (Or.inr ⟨(hw _ (List.mem_of_getElem? (i := 66) rfl)), rfl, hnm⟩) (hw _ (List.mem_of_getElem? (i := 48) rfl)) (ty := .boolean) (v' := .int (nar .boolean x1)) (by decide) rfl (fits_nar_bool _) (g := (mkF m 7 #[.val (.ref x0), .val (.int x1), .val (.ref x2)] [(.int x1), (.ref x0)])) rfl rfl (hb hby d8_7)
  have X_131 := G_123.wr W130
  have X_132 := X_126.wr W130
  have F_133 := G_124.same W130
  have Z_134 : n0 ≤ h130.size := Nat.le_trans Z_127 (Nat.le_of_eq W130.size.symm)
  have hk_135 := Nat.le_trans hk122 (Nat.le_of_eq W130.size.symm)
  have KP_136 : Keep h0 h130 [x0] := KP_129.wr W130 (Or.inl (List.mem_of_getElem? (i := 0) rfl))
  have N_130 := Fr.snoc X130 N_122 p1_
  refine own_go st130 ?_
  show own_G p.tables e below _ (T130.setTop (mkF m 10 #[.val (.ref x0), .val (.int x1), .val (.ref x2)] []))
  exact own_endW X130 Bd.notSynchronized hS (by rw [e130]; exact hk_135) (v := none) (fun _ => rfl) (Q := Q_rm8 Z x0 x1 x2 h0 n0) (by show Q_rm8 Z x0 x1 x2 h0 n0 (none) T130.heap _; rw [e130]; exact ⟨rfl, N_130, KP_136, X_131, F_133⟩) (fun fs hr => X130.returnOut hx Bd.returns (hb hby d8_10) hr) (by decide) (by decide)
def Q_rm10 (Z : State) (x0 : Addr) (x1 : Addr)  (h0 : Heap) (n0 : Nat) (v : Option Value) (h : Heap) (L : List Loc) : Prop := v = none ∧ Fr n0 L ∧ Keep h0 h [x0] ∧ Exa Z h x0 "com/example/ptah/ptah/model/NullNode"
theorem d10_0 : decode prog_76_method_1_code 0 = .ok (.aload_n 0, 1) := by decide +kernel
theorem d10_1 : decode prog_76_method_1_code 1 = .ok (.aload_n 1, 1) := by decide +kernel
theorem d10_2 : decode prog_76_method_1_code 2 = .ok (.invokespecial 1, 3) := by decide +kernel
theorem d10_5 : decode prog_76_method_1_code 5 = .ok (.return_, 1) := by decide +kernel
theorem own_pn6 : plainName "com/example/ptah/ptah/model/NullNode" = true := by first | (simp [plainName, overriddenIn]; done) | decide +kernel
theorem ef_10_RR (m : MethodId) (x0 : Addr) (x1 : Addr) : entryFrame m #[(.ref x0), (.ref x1)] 2 = mkF m 0 #[.val (.ref x0), .val (.ref x1)] [] := by
  first | (simp [entryFrame, mkF, argsToLocals, Value.category]; done) | rfl
set_option maxRecDepth 65536 in
set_option maxHeartbeats 40000000 in
theorem rm10 (l : Launch) (Z : State) (a0 : Array Value) (hw : ∀ d ∈ tables_1, d.before a0 Z = true) (ws : List Jvm.Cond) (x0 : Addr) (x1 : Addr)  (h0 : Heap) (n0 : Nat) (Z0 : n0 ≤ h0.size) (p0_ : Exa Z h0 x0 "com/example/ptah/ptah/model/NullNode") (p1_ : n0 ≤ x0) (p2_ : Exa Z h0 x1 "com/example/ptah/ptah/model/SourceLocation") (p3_ : Fld Z h0 x0 "com/example/ptah/ptah/model/Node" "sourceLocation" "Lcom/example/ptah/ptah/model/SourceLocation;" .null)  :
    MetFree l (⟨"com/example/ptah/ptah/model/NullNode", "<init>", "(Lcom/example/ptah/ptah/model/SourceLocation;)V"⟩ : MethodName) (head1 (Jvm.Cond.code (⟨"com/example/ptah/ptah/model/NullNode", "<init>", "(Lcom/example/ptah/ptah/model/SourceLocation;)V"⟩ : MethodName) prog_76_method_1_code 2 none :: ws) ({ frames := 2, cells := 2, slots := 60, locals := 27 } : Room)) (fun a U => a = #[(.ref x0), (.ref x1)] ∧ Z.Warmed39 U.vm ∧ U.heap = h0) (fun _ _ _ _ _ => True) (fun _ U o U' => ∃ v L, o = .returned v ∧ Q_rm10 Z x0 x1 h0 n0 v U'.heap L ∧ ReturnedEndW U o U' L ({ frames := 2, cells := 2, slots := 60, locals := 27 } : Room).cells ({ frames := 2, cells := 2, slots := 60, locals := 27 } : Room).slots) := by
  refine MetFree.of_bodySF (plainFor_of_name own_pn6) hisR ?_
  intro p e s m args below meth c s₁ Bd hml0 hP hK
  obtain ⟨rfl, hZ, hh⟩ := hP
  have hx := Bd.exec
  have hby := Bd.bytes
  have hml : c.maxLocals = 2 := hml0
  have hown : s.vm.findClass "com/example/ptah/ptah/model/NullNode" = some m.cls := findClass_of_methodNamed Bd.named
  have hnm := (name_of_methodNamed Bd.named Bd.method).1
  have X0 : Stand p l e ({ frames := 2, cells := 2, slots := 60, locals := 27 } : Room) s m #[(.ref x0), (.ref x1)] below meth c s₁ [] 0 0 := Stand.of_body Bd
  have e0 : s₁.heap = h0 := by rw [← hh, Bd.state]; rfl
  show own_G p.tables e below (fun o U' => ∃ v L, o = .returned v ∧ Q_rm10 Z x0 x1 h0 n0 v U'.heap L ∧ ReturnedEndW s o U' L ({ frames := 2, cells := 2, slots := 60, locals := 27 } : Room).cells ({ frames := 2, cells := 2, slots := 60, locals := 27 } : Room).slots) (s₁.setTop (entryFrame m #[(.ref x0), (.ref x1)] 2))
  refine own_go (fun _ k => castTop (ef_10_RR m x0 x1) k) ?_
  have N0 := Fr.nil n0
  have KP0 := Keep.refl h0 [x0]
  have hS : s.Since s.vm h0.size := (State.WarmedH.refl s).since _
  have hk : h0.size ≤ h0.size := Nat.le_refl _
  have own_sA : ∀ a ∈ Bundle.stringAtoms, a.before a0 Z = true := own_strA hw
  show own_G p.tables e below _ (s₁.setTop (mkF m 0 #[.val (.ref x0), .val (.ref x1)] []))
  refine own_go (fun _ k => XS.aloadN X0.here hx rfl (hb hby d10_0) rfl rfl k) ?_
  show own_G p.tables e below _ (s₁.setTop (mkF m 1 #[.val (.ref x0), .val (.ref x1)] [(.ref x0)]))
  refine own_go (fun _ k => XS.aloadN X0.here hx rfl (hb hby d10_1) rfl rfl k) ?_
  show own_G p.tables e below _ (s₁.setTop (mkF m 2 #[.val (.ref x0), .val (.ref x1)] [(.ref x1), (.ref x0)]))
  obtain ⟨_, _, ⟨T137, L137, k137, n137⟩, -, X137, hSn, hgr, ⟨Lc137, hQ137, l137, y137, z137⟩, st137⟩ := X0.specialBackS hx (y := (⟨"com/example/ptah/ptah/model/Node", "<init>", "(Lcom/example/ptah/ptah/model/SourceLocation;)V"⟩ : MethodName)) rfl hown (mvT hZ (hw _ (List.mem_of_getElem? (i := 73) rfl))) (mvT hZ (hw _ (List.mem_of_getElem? (i := 54) rfl))) (mvT hZ (hw _ (List.mem_of_getElem? (i := 57) rfl))) (by decide) (backOfS (W := 0) (rm_nodeN l Z a0 hw [] x0 x1  h0 n0 Z0 p0_ p1_ p2_ p3_) hZ (hw _ (List.mem_of_getElem? (i := 57) rfl)) (hw _ (List.mem_of_getElem? (i := 56) rfl)) (by decide) (by decide)) (g := (mkF m 2 #[.val (.ref x0), .val (.ref x1)] [(.ref x1), (.ref x0)])) rfl (by rw [hml]; rfl) (Steps.refl _) (a := x0) (argsL := [(.ref x1)]) (rest := []) (lenOf own_pd4 rfl) rfl (by show 2 * 0 + _ ≤ _; exact Nat.le_of_eq rfl) (hb hby d10_2) (fun _ _ => ⟨rfl, e0, (by decide : 0 + 2 ≤ _), (by decide : 0 + 60 ≤ _)⟩)
  dsimp only [Pt.U, Pt.locs, Pt.cells, Pt.slots] at X137 l137 y137 z137 st137 hQ137 hSn hgr
  subst l137 y137 z137
  obtain ⟨rfl, Nq137, K137, G_138⟩ := hQ137
  have hS := foldS (s := s) hS (by rw [e0]; exact hk) hSn hgr
  have hZ := State.Warmed39.trans (t := s) hZ hSn.1
  have hown : (s.setVm T137.vm).vm.findClass "com/example/ptah/ptah/model/NullNode" = some m.cls := by rw [show (s.setVm T137.vm).vm = T137.vm from rfl, hSn.1.alike.findClass]; exact hown
  have X_139 := p0_.keep K137
  have X_140 := p2_.keep K137
  have Z_141 : n0 ≤ T137.heap.size := Nat.le_trans Z0 K137.1
  have hk_142 := Nat.le_trans hk K137.1
  have KP_143 : Keep h0 T137.heap [x0] := KP0.trans K137 (allS (Or.inl (List.mem_of_getElem? (i := 0) rfl)) all0)
  have hk137 : T137.heap.size ≤ T137.heap.size := Nat.le_refl _
  have N_137 := Fr.app N0 Nq137
  have X137 : Stand p l e _ (s.setVm T137.vm) m _ below meth c T137 _ _ _ := X137
  refine own_go (fun _ k => st137.trans k) ?_
  show own_G p.tables e below _ (T137.setTop (mkF m 5 #[.val (.ref x0), .val (.ref x1)] []))
  exact own_endW X137 Bd.notSynchronized hS hk137 (v := none) (fun _ => rfl) (Q := Q_rm10 Z x0 x1 h0 n0) (by show Q_rm10 Z x0 x1 h0 n0 (none) T137.heap _; exact ⟨rfl, N_137, KP_143, G_138⟩) (fun fs hr => X137.returnOut hx Bd.returns (hb hby d10_5) hr) (by decide) (by decide)
def Feqa  (u0 u1 : Int32) : Int32 :=
  if u0 = u1 then
    (nar .boolean (1 : Int32))
  else
    (nar .boolean (0 : Int32))
theorem d11_0 : decode prog_49_method_4_code 0 = .ok (.aload_n 1, 1) := by decide +kernel
theorem d11_1 : decode prog_49_method_4_code 1 = .ok (.instanceof 8, 3) := by decide +kernel
theorem d11_4 : decode prog_49_method_4_code 4 = .ok (.ifCond .eq 21, 3) := by decide +kernel
theorem d11_7 : decode prog_49_method_4_code 7 = .ok (.aload_n 0, 1) := by decide +kernel
theorem d11_8 : decode prog_49_method_4_code 8 = .ok (.getfield 7, 3) := by decide +kernel
theorem d11_11 : decode prog_49_method_4_code 11 = .ok (.aload_n 1, 1) := by decide +kernel
theorem d11_12 : decode prog_49_method_4_code 12 = .ok (.checkcast 8, 3) := by decide +kernel
theorem d11_15 : decode prog_49_method_4_code 15 = .ok (.getfield 7, 3) := by decide +kernel
theorem d11_18 : decode prog_49_method_4_code 18 = .ok (.if_icmp .ne 7, 3) := by decide +kernel
theorem d11_21 : decode prog_49_method_4_code 21 = .ok (.iconst 1, 1) := by decide +kernel
theorem d11_22 : decode prog_49_method_4_code 22 = .ok (.goto 4, 3) := by decide +kernel
theorem d11_25 : decode prog_49_method_4_code 25 = .ok (.iconst 0, 1) := by decide +kernel
theorem d11_26 : decode prog_49_method_4_code 26 = .ok (.ireturn, 1) := by decide +kernel
theorem ef_11_RR (m : MethodId) (x0 : Addr) (x1 : Addr) : entryFrame m #[(.ref x0), (.ref x1)] 2 = mkF m 0 #[.val (.ref x0), .val (.ref x1)] [] := by
  first | (simp [entryFrame, mkF, argsToLocals, Value.category]; done) | rfl
set_option maxRecDepth 65536 in
set_option maxHeartbeats 40000000 in
theorem rm_eqa (l : Launch) (Z : State) (a0 : Array Value) (hw : ∀ d ∈ tables_1, d.before a0 Z = true) (ws : List Jvm.Cond) (x0 : Addr) (x1 : Addr)  (u0 u1 : Int32) (h0 : Heap) (Fa : Fld Z h0 x0 "com/example/ptah/ptah/model/BooleanNode" "value" "Z" (.int u0)) (Fb : Fld Z h0 x1 "com/example/ptah/ptah/model/BooleanNode" "value" "Z" (.int u1)) (Xb : Exa Z h0 x1 "com/example/ptah/ptah/model/BooleanNode") :
    MetFree l (⟨"com/example/ptah/ptah/model/BooleanNode", "equals", "(Ljava/lang/Object;)Z"⟩ : MethodName) (head1 (Jvm.Cond.code (⟨"com/example/ptah/ptah/model/BooleanNode", "equals", "(Ljava/lang/Object;)Z"⟩ : MethodName) prog_49_method_4_code 2 (some .boolean) :: ws) ({ frames := 0, cells := 0, slots := 0, locals := 0 } : Room)) (fun a U => a = #[(.ref x0), (.ref x1)] ∧ Z.Warmed39 U.vm ∧ U.heap = h0) (fun _ _ _ _ _ => True) (fun _ U o U' => ∃ v L, o = .returned v ∧ QP (some (.int (Feqa  u0 u1))) h0 v U'.heap L ∧ FrameEnd U o U' L ({ frames := 0, cells := 0, slots := 0, locals := 0 } : Room).cells ({ frames := 0, cells := 0, slots := 0, locals := 0 } : Room).slots) := by
  refine MetFree.of_bodySF (plainFor_of_name own_pn5) hisR ?_
  intro p e s m args below meth c s₁ Bd hml0 hP hK
  obtain ⟨rfl, hZ, hh⟩ := hP
  have hx := Bd.exec
  have hby := Bd.bytes
  have hml : c.maxLocals = 2 := hml0
  have hown : s.vm.findClass "com/example/ptah/ptah/model/BooleanNode" = some m.cls := findClass_of_methodNamed Bd.named
  have hnm := (name_of_methodNamed Bd.named Bd.method).1
  have X0 : Stand p l e ({ frames := 0, cells := 0, slots := 0, locals := 0 } : Room) s m #[(.ref x0), (.ref x1)] below meth c s₁ [] 0 0 := Stand.of_body Bd
  have e0 : s₁.heap = h0 := by rw [← hh, Bd.state]; rfl
  show own_G p.tables e below (fun o U' => ∃ v L, o = .returned v ∧ QP (some (.int (Feqa  u0 u1))) h0 v U'.heap L ∧ FrameEnd s o U' L ({ frames := 0, cells := 0, slots := 0, locals := 0 } : Room).cells ({ frames := 0, cells := 0, slots := 0, locals := 0 } : Room).slots) (s₁.setTop (entryFrame m #[(.ref x0), (.ref x1)] 2))
  refine own_go (fun _ k => castTop (ef_11_RR m x0 x1) k) ?_
  show own_G p.tables e below _ (s₁.setTop (mkF m 0 #[.val (.ref x0), .val (.ref x1)] []))
  refine own_go (fun _ k => XS.aloadN X0.here hx rfl (hb hby d11_0) rfl rfl k) ?_
  show own_G p.tables e below _ (s₁.setTop (mkF m 1 #[.val (.ref x0), .val (.ref x1)] [(.ref x1)]))
  obtain ⟨T144, X144, e144, st144⟩ := instY X0 hx hZ hown (hw _ (List.mem_of_getElem? (i := 80) rfl)) e0 (Ins.self Xb) (g := (mkF m 1 #[.val (.ref x0), .val (.ref x1)] [(.ref x1)])) rfl rfl (hb hby d11_1)
  refine own_go st144 ?_
  show own_G p.tables e below _ (T144.setTop (mkF m 4 #[.val (.ref x0), .val (.ref x1)] [(.int (1 : Int32))]))
  refine own_go (fun _ k => XS.ifNo X144.here hx rfl (hb hby d11_4) rfl (((if0 _ _).trans (feq (by decide : ¬ ((1 : Int32) = (0 : Int32)))).1)) k) ?_
  show own_G p.tables e below _ (T144.setTop (mkF m 7 #[.val (.ref x0), .val (.ref x1)] []))
  refine own_go (fun _ k => XS.aloadN X144.here hx rfl (hb hby d11_7) rfl rfl k) ?_
  show own_G p.tables e below _ (T144.setTop (mkF m 8 #[.val (.ref x0), .val (.ref x1)] [(.ref x0)]))
  obtain ⟨T145, X145, e145, st145⟩ := getF X144 hx hZ hown (host := "") (Or.inl (hw _ (List.mem_of_getElem? (i := 65) rfl))) Via.refl e144 Fa (g := (mkF m 8 #[.val (.ref x0), .val (.ref x1)] [(.ref x0)])) rfl rfl (hb hby d11_8)
  refine own_go st145 ?_
  show own_G p.tables e below _ (T145.setTop (mkF m 11 #[.val (.ref x0), .val (.ref x1)] [(.int u0)]))
  refine own_go (fun _ k => XS.aloadN X145.here hx rfl (hb hby d11_11) rfl rfl k) ?_
  show own_G p.tables e below _ (T145.setTop (mkF m 12 #[.val (.ref x0), .val (.ref x1)] [(.ref x1), (.int u0)]))
  obtain ⟨T146, X146, e146, st146⟩ := castY X145 hx hZ hown (hw _ (List.mem_of_getElem? (i := 80) rfl)) e145 (Ins.self Xb) (g := (mkF m 12 #[.val (.ref x0), .val (.ref x1)] [(.ref x1), (.int u0)])) rfl rfl (hb hby d11_12)
  refine own_go st146 ?_
  show own_G p.tables e below _ (T146.setTop (mkF m 15 #[.val (.ref x0), .val (.ref x1)] [(.ref x1), (.int u0)]))
  obtain ⟨T147, X147, e147, st147⟩ := getF X146 hx hZ hown (host := "") (Or.inl (hw _ (List.mem_of_getElem? (i := 65) rfl))) Via.refl e146 Fb (g := (mkF m 15 #[.val (.ref x0), .val (.ref x1)] [(.ref x1), (.int u0)])) rfl rfl (hb hby d11_15)
  refine own_go st147 ?_
  show own_G p.tables e below _ (T147.setTop (mkF m 18 #[.val (.ref x0), .val (.ref x1)] [(.int u1), (.int u0)]))
  by_cases hc18_148 : u0 = u1
  · refine own_go (fun _ k => XS.icmpNo X147.here hx rfl (hb hby d11_18) rfl ((teq hc18_148).2) k) ?_
    show own_G p.tables e below _ (T147.setTop (mkF m 21 #[.val (.ref x0), .val (.ref x1)] []))
    refine own_go (fun _ k => XS.iconst X147.here hx rfl (hb hby d11_21) k) ?_
    show own_G p.tables e below _ (T147.setTop (mkF m 22 #[.val (.ref x0), .val (.ref x1)] [(.int (1 : Int32))]))
    refine own_go (fun _ k => XS.goto X147.here hx rfl (pc0 := 22) (pc' := 26) rfl (hb hby d11_22) (by decide) (by decide) k) ?_
    show own_G p.tables e below _ (T147.setTop (mkF m 26 #[.val (.ref x0), .val (.ref x1)] [(.int (1 : Int32))]))
    exact own_end X147 Bd.notSynchronized (v := some (.int (nar .boolean (1 : Int32)))) (fun h => by rw [Bd.returns] at h; cases h) (Q := QP (some (.int (Feqa  u0 u1))) h0) ⟨by unfold Feqa; simp only [if_pos hc18_148]; try rfl, rfl, e147⟩ (fun fs hr => retN X147 hx (t := .boolean) Bd.returns (by simp) (hb hby d11_26) hr) (by decide) (by decide)
  · refine own_go (fun _ k => XS.icmpYes X147.here hx rfl (pc0 := 18) (pc' := 25) rfl (hb hby d11_18) rfl ((feq hc18_148).2) (by decide) (by decide) k) ?_
    show own_G p.tables e below _ (T147.setTop (mkF m 25 #[.val (.ref x0), .val (.ref x1)] []))
    refine own_go (fun _ k => XS.iconst X147.here hx rfl (hb hby d11_25) k) ?_
    show own_G p.tables e below _ (T147.setTop (mkF m 26 #[.val (.ref x0), .val (.ref x1)] [(.int (0 : Int32))]))
    exact own_end X147 Bd.notSynchronized (v := some (.int (nar .boolean (0 : Int32)))) (fun h => by rw [Bd.returns] at h; cases h) (Q := QP (some (.int (Feqa  u0 u1))) h0) ⟨by unfold Feqa; simp only [if_neg hc18_148]; try rfl, rfl, e147⟩ (fun fs hr => retN X147 hx (t := .boolean) Bd.returns (by simp) (hb hby d11_26) hr) (by decide) (by decide)
def Feqn  : Int32 :=
  (nar .boolean (0 : Int32))
theorem ef_11_Rn (m : MethodId) (x0 : Addr) : entryFrame m #[(.ref x0), .null] 2 = mkF m 0 #[.val (.ref x0), .val .null] [] := by
  first | (simp [entryFrame, mkF, argsToLocals, Value.category]; done) | rfl
set_option maxRecDepth 65536 in
set_option maxHeartbeats 40000000 in
theorem rm_eqn (l : Launch) (Z : State) (a0 : Array Value) (hw : ∀ d ∈ tables_1, d.before a0 Z = true) (ws : List Jvm.Cond) (x0 : Addr)  (h0 : Heap)  :
    MetFree l (⟨"com/example/ptah/ptah/model/BooleanNode", "equals", "(Ljava/lang/Object;)Z"⟩ : MethodName) (head1 (Jvm.Cond.code (⟨"com/example/ptah/ptah/model/BooleanNode", "equals", "(Ljava/lang/Object;)Z"⟩ : MethodName) prog_49_method_4_code 2 (some .boolean) :: ws) ({ frames := 0, cells := 0, slots := 0, locals := 0 } : Room)) (fun a U => a = #[(.ref x0), .null] ∧ Z.Warmed39 U.vm ∧ U.heap = h0) (fun _ _ _ _ _ => True) (fun _ U o U' => ∃ v L, o = .returned v ∧ QP (some (.int (Feqn ))) h0 v U'.heap L ∧ FrameEnd U o U' L ({ frames := 0, cells := 0, slots := 0, locals := 0 } : Room).cells ({ frames := 0, cells := 0, slots := 0, locals := 0 } : Room).slots) := by
  refine MetFree.of_bodySF (plainFor_of_name own_pn5) hisR ?_
  intro p e s m args below meth c s₁ Bd hml0 hP hK
  obtain ⟨rfl, hZ, hh⟩ := hP
  have hx := Bd.exec
  have hby := Bd.bytes
  have hml : c.maxLocals = 2 := hml0
  have hown : s.vm.findClass "com/example/ptah/ptah/model/BooleanNode" = some m.cls := findClass_of_methodNamed Bd.named
  have hnm := (name_of_methodNamed Bd.named Bd.method).1
  have X0 : Stand p l e ({ frames := 0, cells := 0, slots := 0, locals := 0 } : Room) s m #[(.ref x0), .null] below meth c s₁ [] 0 0 := Stand.of_body Bd
  have e0 : s₁.heap = h0 := by rw [← hh, Bd.state]; rfl
  show own_G p.tables e below (fun o U' => ∃ v L, o = .returned v ∧ QP (some (.int (Feqn ))) h0 v U'.heap L ∧ FrameEnd s o U' L ({ frames := 0, cells := 0, slots := 0, locals := 0 } : Room).cells ({ frames := 0, cells := 0, slots := 0, locals := 0 } : Room).slots) (s₁.setTop (entryFrame m #[(.ref x0), .null] 2))
  refine own_go (fun _ k => castTop (ef_11_Rn m x0) k) ?_
  show own_G p.tables e below _ (s₁.setTop (mkF m 0 #[.val (.ref x0), .val .null] []))
  refine own_go (fun _ k => XS.aloadN X0.here hx rfl (hb hby d11_0) rfl rfl k) ?_
  show own_G p.tables e below _ (s₁.setTop (mkF m 1 #[.val (.ref x0), .val .null] [.null]))
  refine own_go (fun _ k => X0.instanceofNull hx (g := (mkF m 1 #[.val (.ref x0), .val .null] [.null])) rfl rfl (hb hby d11_1) _ k) ?_
  show own_G p.tables e below _ (s₁.setTop (mkF m 4 #[.val (.ref x0), .val .null] [(.int (0 : Int32))]))
  refine own_go (fun _ k => XS.ifYes X0.here hx rfl (pc0 := 4) (pc' := 25) rfl (hb hby d11_4) rfl (((if0 _ _).trans (teq (by decide : (0 : Int32) = (0 : Int32))).1)) (by decide) (by decide) k) ?_
  show own_G p.tables e below _ (s₁.setTop (mkF m 25 #[.val (.ref x0), .val .null] []))
  refine own_go (fun _ k => XS.iconst X0.here hx rfl (hb hby d11_25) k) ?_
  show own_G p.tables e below _ (s₁.setTop (mkF m 26 #[.val (.ref x0), .val .null] [(.int (0 : Int32))]))
  exact own_end X0 Bd.notSynchronized (v := some (.int (nar .boolean (0 : Int32)))) (fun h => by rw [Bd.returns] at h; cases h) (Q := QP (some (.int (Feqn ))) h0) ⟨by unfold Feqn; rfl, rfl, e0⟩ (fun fs hr => retN X0 hx (t := .boolean) Bd.returns (by simp) (hb hby d11_26) hr) (by decide) (by decide)
def Feqnn  : Int32 :=
  (nar .boolean (0 : Int32))
set_option maxRecDepth 65536 in
set_option maxHeartbeats 40000000 in
theorem rm_eqnn (l : Launch) (Z : State) (a0 : Array Value) (hw : ∀ d ∈ tables_1, d.before a0 Z = true) (ws : List Jvm.Cond) (x0 : Addr) (x1 : Addr)  (h0 : Heap) (Xb : Exa Z h0 x1 "com/example/ptah/ptah/model/NullNode") :
    MetFree l (⟨"com/example/ptah/ptah/model/BooleanNode", "equals", "(Ljava/lang/Object;)Z"⟩ : MethodName) (head1 (Jvm.Cond.code (⟨"com/example/ptah/ptah/model/BooleanNode", "equals", "(Ljava/lang/Object;)Z"⟩ : MethodName) prog_49_method_4_code 2 (some .boolean) :: ws) ({ frames := 0, cells := 0, slots := 0, locals := 0 } : Room)) (fun a U => a = #[(.ref x0), (.ref x1)] ∧ Z.Warmed39 U.vm ∧ U.heap = h0) (fun _ _ _ _ _ => True) (fun _ U o U' => ∃ v L, o = .returned v ∧ QP (some (.int (Feqnn ))) h0 v U'.heap L ∧ FrameEnd U o U' L ({ frames := 0, cells := 0, slots := 0, locals := 0 } : Room).cells ({ frames := 0, cells := 0, slots := 0, locals := 0 } : Room).slots) := by
  refine MetFree.of_bodySF (plainFor_of_name own_pn5) hisR ?_
  intro p e s m args below meth c s₁ Bd hml0 hP hK
  obtain ⟨rfl, hZ, hh⟩ := hP
  have hx := Bd.exec
  have hby := Bd.bytes
  have hml : c.maxLocals = 2 := hml0
  have hown : s.vm.findClass "com/example/ptah/ptah/model/BooleanNode" = some m.cls := findClass_of_methodNamed Bd.named
  have hnm := (name_of_methodNamed Bd.named Bd.method).1
  have X0 : Stand p l e ({ frames := 0, cells := 0, slots := 0, locals := 0 } : Room) s m #[(.ref x0), (.ref x1)] below meth c s₁ [] 0 0 := Stand.of_body Bd
  have e0 : s₁.heap = h0 := by rw [← hh, Bd.state]; rfl
  show own_G p.tables e below (fun o U' => ∃ v L, o = .returned v ∧ QP (some (.int (Feqnn ))) h0 v U'.heap L ∧ FrameEnd s o U' L ({ frames := 0, cells := 0, slots := 0, locals := 0 } : Room).cells ({ frames := 0, cells := 0, slots := 0, locals := 0 } : Room).slots) (s₁.setTop (entryFrame m #[(.ref x0), (.ref x1)] 2))
  refine own_go (fun _ k => castTop (ef_11_RR m x0 x1) k) ?_
  show own_G p.tables e below _ (s₁.setTop (mkF m 0 #[.val (.ref x0), .val (.ref x1)] []))
  refine own_go (fun _ k => XS.aloadN X0.here hx rfl (hb hby d11_0) rfl rfl k) ?_
  show own_G p.tables e below _ (s₁.setTop (mkF m 1 #[.val (.ref x0), .val (.ref x1)] [(.ref x1)]))
  obtain ⟨T149, X149, e149, st149⟩ := instN X0 hx hZ hown (hw _ (List.mem_of_getElem? (i := 80) rfl)) e0 (by rw [hh]; exact own_nnBN hw Xb) (by rw [hh]; exact Xb) (g := (mkF m 1 #[.val (.ref x0), .val (.ref x1)] [(.ref x1)])) rfl rfl (hb hby d11_1)
  refine own_go st149 ?_
  show own_G p.tables e below _ (T149.setTop (mkF m 4 #[.val (.ref x0), .val (.ref x1)] [(.int (0 : Int32))]))
  refine own_go (fun _ k => XS.ifYes X149.here hx rfl (pc0 := 4) (pc' := 25) rfl (hb hby d11_4) rfl (((if0 _ _).trans (teq (by decide : (0 : Int32) = (0 : Int32))).1)) (by decide) (by decide) k) ?_
  show own_G p.tables e below _ (T149.setTop (mkF m 25 #[.val (.ref x0), .val (.ref x1)] []))
  refine own_go (fun _ k => XS.iconst X149.here hx rfl (hb hby d11_25) k) ?_
  show own_G p.tables e below _ (T149.setTop (mkF m 26 #[.val (.ref x0), .val (.ref x1)] [(.int (0 : Int32))]))
  exact own_end X149 Bd.notSynchronized (v := some (.int (nar .boolean (0 : Int32)))) (fun h => by rw [Bd.returns] at h; cases h) (Q := QP (some (.int (Feqnn ))) h0) ⟨by unfold Feqnn; rfl, rfl, e149⟩ (fun fs hr => retN X149 hx (t := .boolean) Bd.returns (by simp) (hb hby d11_26) hr) (by decide) (by decide)
def Feqsl  : Int32 :=
  (nar .boolean (0 : Int32))
set_option maxRecDepth 65536 in
set_option maxHeartbeats 40000000 in
theorem rm_eqsl (l : Launch) (Z : State) (a0 : Array Value) (hw : ∀ d ∈ tables_1, d.before a0 Z = true) (ws : List Jvm.Cond) (x0 : Addr) (x1 : Addr)  (h0 : Heap) (Xb : Exa Z h0 x1 "com/example/ptah/ptah/model/SourceLocation") :
    MetFree l (⟨"com/example/ptah/ptah/model/BooleanNode", "equals", "(Ljava/lang/Object;)Z"⟩ : MethodName) (head1 (Jvm.Cond.code (⟨"com/example/ptah/ptah/model/BooleanNode", "equals", "(Ljava/lang/Object;)Z"⟩ : MethodName) prog_49_method_4_code 2 (some .boolean) :: ws) ({ frames := 0, cells := 0, slots := 0, locals := 0 } : Room)) (fun a U => a = #[(.ref x0), (.ref x1)] ∧ Z.Warmed39 U.vm ∧ U.heap = h0) (fun _ _ _ _ _ => True) (fun _ U o U' => ∃ v L, o = .returned v ∧ QP (some (.int (Feqsl ))) h0 v U'.heap L ∧ FrameEnd U o U' L ({ frames := 0, cells := 0, slots := 0, locals := 0 } : Room).cells ({ frames := 0, cells := 0, slots := 0, locals := 0 } : Room).slots) := by
  refine MetFree.of_bodySF (plainFor_of_name own_pn5) hisR ?_
  intro p e s m args below meth c s₁ Bd hml0 hP hK
  obtain ⟨rfl, hZ, hh⟩ := hP
  have hx := Bd.exec
  have hby := Bd.bytes
  have hml : c.maxLocals = 2 := hml0
  have hown : s.vm.findClass "com/example/ptah/ptah/model/BooleanNode" = some m.cls := findClass_of_methodNamed Bd.named
  have hnm := (name_of_methodNamed Bd.named Bd.method).1
  have X0 : Stand p l e ({ frames := 0, cells := 0, slots := 0, locals := 0 } : Room) s m #[(.ref x0), (.ref x1)] below meth c s₁ [] 0 0 := Stand.of_body Bd
  have e0 : s₁.heap = h0 := by rw [← hh, Bd.state]; rfl
  show own_G p.tables e below (fun o U' => ∃ v L, o = .returned v ∧ QP (some (.int (Feqsl ))) h0 v U'.heap L ∧ FrameEnd s o U' L ({ frames := 0, cells := 0, slots := 0, locals := 0 } : Room).cells ({ frames := 0, cells := 0, slots := 0, locals := 0 } : Room).slots) (s₁.setTop (entryFrame m #[(.ref x0), (.ref x1)] 2))
  refine own_go (fun _ k => castTop (ef_11_RR m x0 x1) k) ?_
  show own_G p.tables e below _ (s₁.setTop (mkF m 0 #[.val (.ref x0), .val (.ref x1)] []))
  refine own_go (fun _ k => XS.aloadN X0.here hx rfl (hb hby d11_0) rfl rfl k) ?_
  show own_G p.tables e below _ (s₁.setTop (mkF m 1 #[.val (.ref x0), .val (.ref x1)] [(.ref x1)]))
  obtain ⟨T150, X150, e150, st150⟩ := instN X0 hx hZ hown (hw _ (List.mem_of_getElem? (i := 80) rfl)) e0 (by rw [hh]; exact own_slBN hw Xb) (by rw [hh]; exact Xb) (g := (mkF m 1 #[.val (.ref x0), .val (.ref x1)] [(.ref x1)])) rfl rfl (hb hby d11_1)
  refine own_go st150 ?_
  show own_G p.tables e below _ (T150.setTop (mkF m 4 #[.val (.ref x0), .val (.ref x1)] [(.int (0 : Int32))]))
  refine own_go (fun _ k => XS.ifYes X150.here hx rfl (pc0 := 4) (pc' := 25) rfl (hb hby d11_4) rfl (((if0 _ _).trans (teq (by decide : (0 : Int32) = (0 : Int32))).1)) (by decide) (by decide) k) ?_
  show own_G p.tables e below _ (T150.setTop (mkF m 25 #[.val (.ref x0), .val (.ref x1)] []))
  refine own_go (fun _ k => XS.iconst X150.here hx rfl (hb hby d11_25) k) ?_
  show own_G p.tables e below _ (T150.setTop (mkF m 26 #[.val (.ref x0), .val (.ref x1)] [(.int (0 : Int32))]))
  exact own_end X150 Bd.notSynchronized (v := some (.int (nar .boolean (0 : Int32)))) (fun h => by rw [Bd.returns] at h; cases h) (Q := QP (some (.int (Feqsl ))) h0) ⟨by unfold Feqsl; rfl, rfl, e150⟩ (fun fs hr => retN X150 hx (t := .boolean) Bd.returns (by simp) (hb hby d11_26) hr) (by decide) (by decide)
theorem own_pd5 : parseMethodDescriptor "(C)Ljava/lang/String;" = some ⟨[.char], some (.object "java/lang/String")⟩ := by decide +kernel
theorem own_pd6 : parseMethodDescriptor "(Ljava/lang/String;II)V" = some ⟨[(.object "java/lang/String"), .int, .int], none⟩ := by decide +kernel
theorem own_pd7 : parseMethodDescriptor "(ZLcom/example/ptah/ptah/model/SourceLocation;)V" = some ⟨[.boolean, (.object "com/example/ptah/ptah/model/SourceLocation")], none⟩ := by decide +kernel
theorem own_pd8 : parseMethodDescriptor "(Ljava/lang/Object;)Z" = some ⟨[(.object "java/lang/Object")], some .boolean⟩ := by decide +kernel
def F0 (x0 : Int32) (x1 : Int32) (x2 : Int32) (x3 : Int32) (x4 : Int32) (x5 : Int32) : Int32 :=
  if (x5 &&& (7 : Int32)) = (4 : Int32) then
    if (3 : Int32) < (x5 &&& (7 : Int32)) then
      if (Feqa (nar .boolean (own_b x0)) (nar .boolean (own_b x0))) = (1 : Int32) then
        (nar .boolean (1 : Int32))
      else
        (nar .boolean (0 : Int32))
    else
      if (own_b x0) = (own_b x1) then
        if (Feqa (nar .boolean (own_b x0)) (nar .boolean (own_b x0))) = (1 : Int32) then
          (nar .boolean (1 : Int32))
        else
          (nar .boolean (0 : Int32))
      else
        if (Feqa (nar .boolean (own_b x0)) (nar .boolean (own_b x0))) = (0 : Int32) then
          (nar .boolean (1 : Int32))
        else
          (nar .boolean (0 : Int32))
  else
    if (x5 &&& (7 : Int32)) = (5 : Int32) then
      if (3 : Int32) < (x5 &&& (7 : Int32)) then
        if (Feqn ) = (0 : Int32) then
          (nar .boolean (1 : Int32))
        else
          (nar .boolean (0 : Int32))
      else
        if (own_b x0) = (own_b x1) then
          if (Feqn ) = (1 : Int32) then
            (nar .boolean (1 : Int32))
          else
            (nar .boolean (0 : Int32))
        else
          if (Feqn ) = (0 : Int32) then
            (nar .boolean (1 : Int32))
          else
            (nar .boolean (0 : Int32))
    else
      if (x5 &&& (7 : Int32)) = (6 : Int32) then
        if (3 : Int32) < (x5 &&& (7 : Int32)) then
          if (Feqnn ) = (0 : Int32) then
            (nar .boolean (1 : Int32))
          else
            (nar .boolean (0 : Int32))
        else
          if (own_b x0) = (own_b x1) then
            if (Feqnn ) = (1 : Int32) then
              (nar .boolean (1 : Int32))
            else
              (nar .boolean (0 : Int32))
          else
            if (Feqnn ) = (0 : Int32) then
              (nar .boolean (1 : Int32))
            else
              (nar .boolean (0 : Int32))
      else
        if (x5 &&& (7 : Int32)) = (7 : Int32) then
          if (3 : Int32) < (x5 &&& (7 : Int32)) then
            if (Feqsl ) = (0 : Int32) then
              (nar .boolean (1 : Int32))
            else
              (nar .boolean (0 : Int32))
          else
            if (own_b x0) = (own_b x1) then
              if (Feqsl ) = (1 : Int32) then
                (nar .boolean (1 : Int32))
              else
                (nar .boolean (0 : Int32))
            else
              if (Feqsl ) = (0 : Int32) then
                (nar .boolean (1 : Int32))
              else
                (nar .boolean (0 : Int32))
        else
          if (3 : Int32) < (x5 &&& (7 : Int32)) then
            if (Feqa (nar .boolean (own_b x0)) (nar .boolean (own_b x1))) = (0 : Int32) then
              (nar .boolean (1 : Int32))
            else
              (nar .boolean (0 : Int32))
          else
            if (own_b x0) = (own_b x1) then
              if (Feqa (nar .boolean (own_b x0)) (nar .boolean (own_b x1))) = (1 : Int32) then
                (nar .boolean (1 : Int32))
              else
                (nar .boolean (0 : Int32))
            else
              if (Feqa (nar .boolean (own_b x0)) (nar .boolean (own_b x1))) = (0 : Int32) then
                (nar .boolean (1 : Int32))
              else
                (nar .boolean (0 : Int32))
theorem own_pn7 : plainName "com/example/ptah/ptah/model/BooleanNodeEqualsPinLaw" = true := by first | (simp [plainName, overriddenIn]; done) | decide +kernel
theorem ef_0_IIIIII (m : MethodId) (x0 : Int32) (x1 : Int32) (x2 : Int32) (x3 : Int32) (x4 : Int32) (x5 : Int32) : entryFrame m #[(.int x0), (.int x1), (.int x2), (.int x3), (.int x4), (.int x5)] maxLocals = mkF m 0 #[.val (.int x0), .val (.int x1), .val (.int x2), .val (.int x3), .val (.int x4), .val (.int x5), .unset, .unset, .unset, .unset, .unset, .unset, .unset, .unset, .unset, .unset, .unset, .unset] [] := by
  first | (simp [entryFrame, mkF, argsToLocals, Value.category, maxLocals]; done) | rfl
set_option maxRecDepth 65536 in
set_option maxHeartbeats 40000000 in
theorem rm0 (l : Launch) (Z : State) (a0 : Array Value) (hw : ∀ d ∈ tables_1, d.before a0 Z = true) (ws : List Jvm.Cond) (x0 : Int32) (x1 : Int32) (x2 : Int32) (x3 : Int32) (x4 : Int32) (x5 : Int32) (cz : Int32) (h0 : Heap) (n0 : Nat) (Z0 : n0 ≤ h0.size) (Sc : Sta Z h0 "java/lang/String" "COMPACT_STRINGS" "Z" (.int cz)) (hcz : ¬ cz = (0 : Int32)) :
    MetFree l x (head1 (Jvm.Cond.code x code maxLocals ret :: ws) room_1) (fun a U => a = #[(.int x0), (.int x1), (.int x2), (.int x3), (.int x4), (.int x5)] ∧ Z.Warmed39 U.vm ∧ U.heap = h0) (fun _ _ _ _ _ => True) (fun _ U o U' => ∃ v L, o = .returned v ∧ QL (some (.int (F0 x0 x1 x2 x3 x4 x5))) n0 v U'.heap L ∧ ReturnedEndW U o U' L 32 2176) := by
  refine MetFree.of_bodySF (plainFor_of_name own_pn7) hisR ?_
  intro p e s m args below meth c s₁ Bd hml0 hP hK
  obtain ⟨rfl, hZ, hh⟩ := hP
  have hx := Bd.exec
  have hby := Bd.bytes
  have hml : c.maxLocals = 18 := hml0
  have hown : s.vm.findClass "com/example/ptah/ptah/model/BooleanNodeEqualsPinLaw" = some m.cls := findClass_of_methodNamed Bd.named
  have hnm := (name_of_methodNamed Bd.named Bd.method).1
  have X0 : Stand p l e room_1 s m #[(.int x0), (.int x1), (.int x2), (.int x3), (.int x4), (.int x5)] below meth c s₁ [] 0 0 := Stand.of_body Bd
  have e0 : s₁.heap = h0 := by rw [← hh, Bd.state]; rfl
  show own_G p.tables e below (fun o U' => ∃ v L, o = .returned v ∧ QL (some (.int (F0 x0 x1 x2 x3 x4 x5))) n0 v U'.heap L ∧ ReturnedEndW s o U' L 32 2176) (s₁.setTop (entryFrame m #[(.int x0), (.int x1), (.int x2), (.int x3), (.int x4), (.int x5)] maxLocals))
  refine own_go (fun _ k => castTop (ef_0_IIIIII m x0 x1 x2 x3 x4 x5) k) ?_
  have N0 := Fr.nil n0
  have hS : s.Since s.vm h0.size := (State.WarmedH.refl s).since _
  have hk : h0.size ≤ h0.size := Nat.le_refl _
  have own_sA : ∀ a ∈ Bundle.stringAtoms, a.before a0 Z = true := own_strA hw
  show own_G p.tables e below _ (s₁.setTop (mkF m 0 #[.val (.int x0), .val (.int x1), .val (.int x2), .val (.int x3), .val (.int x4), .val (.int x5), .unset, .unset, .unset, .unset, .unset, .unset, .unset, .unset, .unset, .unset, .unset, .unset] []))
  refine own_go (fun _ k => XS.iloadN X0.here hx rfl (hb hby at_0) rfl k) ?_
  show own_G p.tables e below _ (s₁.setTop (mkF m 1 #[.val (.int x0), .val (.int x1), .val (.int x2), .val (.int x3), .val (.int x4), .val (.int x5), .unset, .unset, .unset, .unset, .unset, .unset, .unset, .unset, .unset, .unset, .unset, .unset] [(.int x0)]))
  refine own_go (fun _ k => XS.iconst X0.here hx rfl (hb hby at_1) k) ?_
  show own_G p.tables e below _ (s₁.setTop (mkF m 2 #[.val (.int x0), .val (.int x1), .val (.int x2), .val (.int x3), .val (.int x4), .val (.int x5), .unset, .unset, .unset, .unset, .unset, .unset, .unset, .unset, .unset, .unset, .unset, .unset] [(.int (1 : Int32)), (.int x0)]))
  refine own_go (fun _ k => XS.iand X0.here hx rfl (hb hby at_2) rfl k) ?_
  show own_G p.tables e below _ (s₁.setTop (mkF m 3 #[.val (.int x0), .val (.int x1), .val (.int x2), .val (.int x3), .val (.int x4), .val (.int x5), .unset, .unset, .unset, .unset, .unset, .unset, .unset, .unset, .unset, .unset, .unset, .unset] [(.int (x0 &&& (1 : Int32)))]))
  refine own_join (S' := s₁.setTop (mkF m 11 #[.val (.int x0), .val (.int x1), .val (.int x2), .val (.int x3), .val (.int x4), .val (.int x5), .unset, .unset, .unset, .unset, .unset, .unset, .unset, .unset, .unset, .unset, .unset, .unset] [(.int (own_b x0))])) (fun hj => ?_) ?_
  · by_cases hc3_151 : (x0 &&& (1 : Int32)) = (0 : Int32)
    · have hv : (own_b x0) = (0 : Int32) := by unfold own_b; simp only [if_pos hc3_151, if_true, if_false, ite_true, ite_false]; try rfl
      rw [hv] at hj
      refine own_go (fun _ k => XS.ifYes X0.here hx rfl (pc0 := 3) (pc' := 10) rfl (hb hby at_3) rfl (((if0 _ _).trans (teq hc3_151).1)) (by decide) (by decide) k) ?_
      show own_G p.tables e below _ (s₁.setTop (mkF m 10 #[.val (.int x0), .val (.int x1), .val (.int x2), .val (.int x3), .val (.int x4), .val (.int x5), .unset, .unset, .unset, .unset, .unset, .unset, .unset, .unset, .unset, .unset, .unset, .unset] []))
      refine own_go (fun _ k => XS.iconst X0.here hx rfl (hb hby at_10) k) ?_
      show own_G p.tables e below _ (s₁.setTop (mkF m 11 #[.val (.int x0), .val (.int x1), .val (.int x2), .val (.int x3), .val (.int x4), .val (.int x5), .unset, .unset, .unset, .unset, .unset, .unset, .unset, .unset, .unset, .unset, .unset, .unset] [(.int (0 : Int32))]))
      exact hj
    · have hv : (own_b x0) = (1 : Int32) := by unfold own_b; simp only [if_neg hc3_151, if_true, if_false, ite_true, ite_false]; try rfl
      rw [hv] at hj
      refine own_go (fun _ k => XS.ifNo X0.here hx rfl (hb hby at_3) rfl (((if0 _ _).trans (feq hc3_151).1)) k) ?_
      show own_G p.tables e below _ (s₁.setTop (mkF m 6 #[.val (.int x0), .val (.int x1), .val (.int x2), .val (.int x3), .val (.int x4), .val (.int x5), .unset, .unset, .unset, .unset, .unset, .unset, .unset, .unset, .unset, .unset, .unset, .unset] []))
      refine own_go (fun _ k => XS.iconst X0.here hx rfl (hb hby at_6) k) ?_
      show own_G p.tables e below _ (s₁.setTop (mkF m 7 #[.val (.int x0), .val (.int x1), .val (.int x2), .val (.int x3), .val (.int x4), .val (.int x5), .unset, .unset, .unset, .unset, .unset, .unset, .unset, .unset, .unset, .unset, .unset, .unset] [(.int (1 : Int32))]))
      refine own_go (fun _ k => XS.goto X0.here hx rfl (pc0 := 7) (pc' := 11) rfl (hb hby at_7) (by decide) (by decide) k) ?_
      show own_G p.tables e below _ (s₁.setTop (mkF m 11 #[.val (.int x0), .val (.int x1), .val (.int x2), .val (.int x3), .val (.int x4), .val (.int x5), .unset, .unset, .unset, .unset, .unset, .unset, .unset, .unset, .unset, .unset, .unset, .unset] [(.int (1 : Int32))]))
      exact hj
  show own_G p.tables e below _ (s₁.setTop (mkF m 11 #[.val (.int x0), .val (.int x1), .val (.int x2), .val (.int x3), .val (.int x4), .val (.int x5), .unset, .unset, .unset, .unset, .unset, .unset, .unset, .unset, .unset, .unset, .unset, .unset] [(.int (own_b x0))]))
  refine own_go (fun _ k => XS.istore X0.here hx rfl (hb hby at_11) rfl (l' := #[.val (.int x0), .val (.int x1), .val (.int x2), .val (.int x3), .val (.int x4), .val (.int x5), .val (.int (own_b x0)), .unset, .unset, .unset, .unset, .unset, .unset, .unset, .unset, .unset, .unset, .unset]) rfl k) ?_
  show own_G p.tables e below _ (s₁.setTop (mkF m 13 #[.val (.int x0), .val (.int x1), .val (.int x2), .val (.int x3), .val (.int x4), .val (.int x5), .val (.int (own_b x0)), .unset, .unset, .unset, .unset, .unset, .unset, .unset, .unset, .unset, .unset, .unset] []))
  refine own_go (fun _ k => XS.iloadN X0.here hx rfl (hb hby at_13) rfl k) ?_
  show own_G p.tables e below _ (s₁.setTop (mkF m 14 #[.val (.int x0), .val (.int x1), .val (.int x2), .val (.int x3), .val (.int x4), .val (.int x5), .val (.int (own_b x0)), .unset, .unset, .unset, .unset, .unset, .unset, .unset, .unset, .unset, .unset, .unset] [(.int x1)]))
  refine own_go (fun _ k => XS.iconst X0.here hx rfl (hb hby at_14) k) ?_
  show own_G p.tables e below _ (s₁.setTop (mkF m 15 #[.val (.int x0), .val (.int x1), .val (.int x2), .val (.int x3), .val (.int x4), .val (.int x5), .val (.int (own_b x0)), .unset, .unset, .unset, .unset, .unset, .unset, .unset, .unset, .unset, .unset, .unset] [(.int (1 : Int32)), (.int x1)]))
  refine own_go (fun _ k => XS.iand X0.here hx rfl (hb hby at_15) rfl k) ?_
  show own_G p.tables e below _ (s₁.setTop (mkF m 16 #[.val (.int x0), .val (.int x1), .val (.int x2), .val (.int x3), .val (.int x4), .val (.int x5), .val (.int (own_b x0)), .unset, .unset, .unset, .unset, .unset, .unset, .unset, .unset, .unset, .unset, .unset] [(.int (x1 &&& (1 : Int32)))]))
  refine own_join (S' := s₁.setTop (mkF m 24 #[.val (.int x0), .val (.int x1), .val (.int x2), .val (.int x3), .val (.int x4), .val (.int x5), .val (.int (own_b x0)), .unset, .unset, .unset, .unset, .unset, .unset, .unset, .unset, .unset, .unset, .unset] [(.int (own_b x1))])) (fun hj => ?_) ?_
  · by_cases hc16_152 : (x1 &&& (1 : Int32)) = (0 : Int32)
    · have hv : (own_b x1) = (0 : Int32) := by unfold own_b; simp only [if_pos hc16_152, if_true, if_false, ite_true, ite_false]; try rfl
      rw [hv] at hj
      refine own_go (fun _ k => XS.ifYes X0.here hx rfl (pc0 := 16) (pc' := 23) rfl (hb hby at_16) rfl (((if0 _ _).trans (teq hc16_152).1)) (by decide) (by decide) k) ?_
      show own_G p.tables e below _ (s₁.setTop (mkF m 23 #[.val (.int x0), .val (.int x1), .val (.int x2), .val (.int x3), .val (.int x4), .val (.int x5), .val (.int (own_b x0)), .unset, .unset, .unset, .unset, .unset, .unset, .unset, .unset, .unset, .unset, .unset] []))
      refine own_go (fun _ k => XS.iconst X0.here hx rfl (hb hby at_23) k) ?_
      show own_G p.tables e below _ (s₁.setTop (mkF m 24 #[.val (.int x0), .val (.int x1), .val (.int x2), .val (.int x3), .val (.int x4), .val (.int x5), .val (.int (own_b x0)), .unset, .unset, .unset, .unset, .unset, .unset, .unset, .unset, .unset, .unset, .unset] [(.int (0 : Int32))]))
      exact hj
    · have hv : (own_b x1) = (1 : Int32) := by unfold own_b; simp only [if_neg hc16_152, if_true, if_false, ite_true, ite_false]; try rfl
      rw [hv] at hj
      refine own_go (fun _ k => XS.ifNo X0.here hx rfl (hb hby at_16) rfl (((if0 _ _).trans (feq hc16_152).1)) k) ?_
      show own_G p.tables e below _ (s₁.setTop (mkF m 19 #[.val (.int x0), .val (.int x1), .val (.int x2), .val (.int x3), .val (.int x4), .val (.int x5), .val (.int (own_b x0)), .unset, .unset, .unset, .unset, .unset, .unset, .unset, .unset, .unset, .unset, .unset] []))
      refine own_go (fun _ k => XS.iconst X0.here hx rfl (hb hby at_19) k) ?_
      show own_G p.tables e below _ (s₁.setTop (mkF m 20 #[.val (.int x0), .val (.int x1), .val (.int x2), .val (.int x3), .val (.int x4), .val (.int x5), .val (.int (own_b x0)), .unset, .unset, .unset, .unset, .unset, .unset, .unset, .unset, .unset, .unset, .unset] [(.int (1 : Int32))]))
      refine own_go (fun _ k => XS.goto X0.here hx rfl (pc0 := 20) (pc' := 24) rfl (hb hby at_20) (by decide) (by decide) k) ?_
      show own_G p.tables e below _ (s₁.setTop (mkF m 24 #[.val (.int x0), .val (.int x1), .val (.int x2), .val (.int x3), .val (.int x4), .val (.int x5), .val (.int (own_b x0)), .unset, .unset, .unset, .unset, .unset, .unset, .unset, .unset, .unset, .unset, .unset] [(.int (1 : Int32))]))
      exact hj
  show own_G p.tables e below _ (s₁.setTop (mkF m 24 #[.val (.int x0), .val (.int x1), .val (.int x2), .val (.int x3), .val (.int x4), .val (.int x5), .val (.int (own_b x0)), .unset, .unset, .unset, .unset, .unset, .unset, .unset, .unset, .unset, .unset, .unset] [(.int (own_b x1))]))
  refine own_go (fun _ k => XS.istore X0.here hx rfl (hb hby at_24) rfl (l' := #[.val (.int x0), .val (.int x1), .val (.int x2), .val (.int x3), .val (.int x4), .val (.int x5), .val (.int (own_b x0)), .val (.int (own_b x1)), .unset, .unset, .unset, .unset, .unset, .unset, .unset, .unset, .unset, .unset]) rfl k) ?_
  show own_G p.tables e below _ (s₁.setTop (mkF m 26 #[.val (.int x0), .val (.int x1), .val (.int x2), .val (.int x3), .val (.int x4), .val (.int x5), .val (.int (own_b x0)), .val (.int (own_b x1)), .unset, .unset, .unset, .unset, .unset, .unset, .unset, .unset, .unset, .unset] []))
  refine own_go (fun _ k => XS.iloadN X0.here hx rfl (hb hby at_26) rfl k) ?_
  show own_G p.tables e below _ (s₁.setTop (mkF m 27 #[.val (.int x0), .val (.int x1), .val (.int x2), .val (.int x3), .val (.int x4), .val (.int x5), .val (.int (own_b x0)), .val (.int (own_b x1)), .unset, .unset, .unset, .unset, .unset, .unset, .unset, .unset, .unset, .unset] [(.int x0)]))
  refine own_go (fun _ k => XS.iconst X0.here hx rfl (hb hby at_27) k) ?_
  show own_G p.tables e below _ (s₁.setTop (mkF m 28 #[.val (.int x0), .val (.int x1), .val (.int x2), .val (.int x3), .val (.int x4), .val (.int x5), .val (.int (own_b x0)), .val (.int (own_b x1)), .unset, .unset, .unset, .unset, .unset, .unset, .unset, .unset, .unset, .unset] [(.int (1 : Int32)), (.int x0)]))
  refine own_go (fun _ k => XS.iushr X0.here hx rfl (hb hby at_28) rfl k) ?_
  show own_G p.tables e below _ (s₁.setTop (mkF m 29 #[.val (.int x0), .val (.int x1), .val (.int x2), .val (.int x3), .val (.int x4), .val (.int x5), .val (.int (own_b x0)), .val (.int (own_b x1)), .unset, .unset, .unset, .unset, .unset, .unset, .unset, .unset, .unset, .unset] [(.int ((x0.toUInt32 >>> ((1 : Int32) &&& 31).toUInt32).toInt32))]))
  refine own_go (fun _ k => XS.sipush X0.here hx rfl (hb hby at_29) k) ?_
  show own_G p.tables e below _ (s₁.setTop (mkF m 32 #[.val (.int x0), .val (.int x1), .val (.int x2), .val (.int x3), .val (.int x4), .val (.int x5), .val (.int (own_b x0)), .val (.int (own_b x1)), .unset, .unset, .unset, .unset, .unset, .unset, .unset, .unset, .unset, .unset] [(.int (255 : Int32)), (.int ((x0.toUInt32 >>> ((1 : Int32) &&& 31).toUInt32).toInt32))]))
  refine own_go (fun _ k => XS.iand X0.here hx rfl (hb hby at_32) rfl k) ?_
  show own_G p.tables e below _ (s₁.setTop (mkF m 33 #[.val (.int x0), .val (.int x1), .val (.int x2), .val (.int x3), .val (.int x4), .val (.int x5), .val (.int (own_b x0)), .val (.int (own_b x1)), .unset, .unset, .unset, .unset, .unset, .unset, .unset, .unset, .unset, .unset] [(.int (((x0.toUInt32 >>> ((1 : Int32) &&& 31).toUInt32).toInt32) &&& (255 : Int32)))]))
  refine own_go (fun _ k => XS.i2c X0.here hx rfl (hb hby at_33) rfl k) ?_
  show own_G p.tables e below _ (s₁.setTop (mkF m 34 #[.val (.int x0), .val (.int x1), .val (.int x2), .val (.int x3), .val (.int x4), .val (.int x5), .val (.int (own_b x0)), .val (.int (own_b x1)), .unset, .unset, .unset, .unset, .unset, .unset, .unset, .unset, .unset, .unset] [(.int ((((x0.toUInt32 >>> ((1 : Int32) &&& 31).toUInt32).toInt32) &&& (255 : Int32)).toUInt32.toUInt16.toUInt32.toInt32))]))
  obtain ⟨_, _, ⟨T153, L153, k153, n153⟩, -, X153, ⟨Lc153, hQ153, l153, y153, z153⟩, st153⟩ := Jvm.LawKit.callS X0 hx (y := (⟨"java/lang/String", "valueOf", "(C)Ljava/lang/String;"⟩ : MethodName)) hown (mvT hZ (hw _ (List.mem_of_getElem? (i := 0) rfl))) (mvT hZ (hw _ (List.mem_of_getElem? (i := 1) rfl))) (mvT hZ (hw _ (List.mem_of_getElem? (i := 2) rfl))) (mvT hZ (hw _ (List.mem_of_getElem? (i := 3) rfl))) (by decide) (backOf (W := 0) (rm1 l Z a0 hw [] ((((x0.toUInt32 >>> ((1 : Int32) &&& 31).toUInt32).toInt32) &&& (255 : Int32)).toUInt32.toUInt16.toUInt32.toInt32) cz h0 n0 Z0 Sc hcz (own_enc _)) hZ (hw _ (List.mem_of_getElem? (i := 3) rfl)) (hw _ (List.mem_of_getElem? (i := 2) rfl)) (by decide) (by decide)) (g := (mkF m 34 #[.val (.int x0), .val (.int x1), .val (.int x2), .val (.int x3), .val (.int x4), .val (.int x5), .val (.int (own_b x0)), .val (.int (own_b x1)), .unset, .unset, .unset, .unset, .unset, .unset, .unset, .unset, .unset, .unset] [(.int ((((x0.toUInt32 >>> ((1 : Int32) &&& 31).toUInt32).toInt32) &&& (255 : Int32)).toUInt32.toUInt16.toUInt32.toInt32))])) rfl (by rw [hml]; rfl) (argsL := [(.int ((((x0.toUInt32 >>> ((1 : Int32) &&& 31).toUInt32).toInt32) &&& (255 : Int32)).toUInt32.toUInt16.toUInt32.toInt32))]) (rest := []) (lenOf own_pd5 rfl) rfl (by show 2 * 0 + _ ≤ _; exact Nat.le_of_eq rfl) (hb hby at_34) (fun _ _ => ⟨rfl, e0, (by decide : 0 + 2 ≤ _), (by decide : 0 + 5 ≤ _)⟩)
  dsimp only [Pt.U, Pt.locs, Pt.cells, Pt.slots] at X153 l153 y153 z153 st153 hQ153
  subst l153 y153 z153
  obtain ⟨rfl, Nq153, K153, G_154⟩ := hQ153
  obtain ⟨b153, g153⟩ : ∃ z, z = h0.size := ⟨_, rfl⟩
  rw [← g153] at G_154 st153
  have ge_155 : n0 ≤ b153 := Nat.le_trans Z0 (Nat.le_of_eq g153.symm)
  have S_156 := own_staKeep Sc K153 (fun _ q => nomatch q)
  have Z_157 : n0 ≤ T153.heap.size := Nat.le_trans Z0 K153.1
  have hk_158 := Nat.le_trans hk K153.1
  have N_153 := Fr.app N0 Nq153
  refine own_go (fun _ k => st153 _ k) ?_
  show own_G p.tables e below _ (T153.setTop (mkF m 37 #[.val (.int x0), .val (.int x1), .val (.int x2), .val (.int x3), .val (.int x4), .val (.int x5), .val (.int (own_b x0)), .val (.int (own_b x1)), .unset, .unset, .unset, .unset, .unset, .unset, .unset, .unset, .unset, .unset] [(.ref b153)]))
  refine own_go (fun _ k => XS.astore X153.here hx rfl (hb hby at_37) rfl rfl (l' := #[.val (.int x0), .val (.int x1), .val (.int x2), .val (.int x3), .val (.int x4), .val (.int x5), .val (.int (own_b x0)), .val (.int (own_b x1)), .val (.ref b153), .unset, .unset, .unset, .unset, .unset, .unset, .unset, .unset, .unset]) rfl k) ?_
  show own_G p.tables e below _ (T153.setTop (mkF m 39 #[.val (.int x0), .val (.int x1), .val (.int x2), .val (.int x3), .val (.int x4), .val (.int x5), .val (.int (own_b x0)), .val (.int (own_b x1)), .val (.ref b153), .unset, .unset, .unset, .unset, .unset, .unset, .unset, .unset, .unset] []))
  refine own_go (fun _ k => XS.iloadN X153.here hx rfl (hb hby at_39) rfl k) ?_
  show own_G p.tables e below _ (T153.setTop (mkF m 40 #[.val (.int x0), .val (.int x1), .val (.int x2), .val (.int x3), .val (.int x4), .val (.int x5), .val (.int (own_b x0)), .val (.int (own_b x1)), .val (.ref b153), .unset, .unset, .unset, .unset, .unset, .unset, .unset, .unset, .unset] [(.int x1)]))
  refine own_go (fun _ k => XS.iconst X153.here hx rfl (hb hby at_40) k) ?_
  show own_G p.tables e below _ (T153.setTop (mkF m 41 #[.val (.int x0), .val (.int x1), .val (.int x2), .val (.int x3), .val (.int x4), .val (.int x5), .val (.int (own_b x0)), .val (.int (own_b x1)), .val (.ref b153), .unset, .unset, .unset, .unset, .unset, .unset, .unset, .unset, .unset] [(.int (1 : Int32)), (.int x1)]))
  refine own_go (fun _ k => XS.iushr X153.here hx rfl (hb hby at_41) rfl k) ?_
  show own_G p.tables e below _ (T153.setTop (mkF m 42 #[.val (.int x0), .val (.int x1), .val (.int x2), .val (.int x3), .val (.int x4), .val (.int x5), .val (.int (own_b x0)), .val (.int (own_b x1)), .val (.ref b153), .unset, .unset, .unset, .unset, .unset, .unset, .unset, .unset, .unset] [(.int ((x1.toUInt32 >>> ((1 : Int32) &&& 31).toUInt32).toInt32))]))
  refine own_go (fun _ k => XS.sipush X153.here hx rfl (hb hby at_42) k) ?_
  show own_G p.tables e below _ (T153.setTop (mkF m 45 #[.val (.int x0), .val (.int x1), .val (.int x2), .val (.int x3), .val (.int x4), .val (.int x5), .val (.int (own_b x0)), .val (.int (own_b x1)), .val (.ref b153), .unset, .unset, .unset, .unset, .unset, .unset, .unset, .unset, .unset] [(.int (255 : Int32)), (.int ((x1.toUInt32 >>> ((1 : Int32) &&& 31).toUInt32).toInt32))]))
  refine own_go (fun _ k => XS.iand X153.here hx rfl (hb hby at_45) rfl k) ?_
  show own_G p.tables e below _ (T153.setTop (mkF m 46 #[.val (.int x0), .val (.int x1), .val (.int x2), .val (.int x3), .val (.int x4), .val (.int x5), .val (.int (own_b x0)), .val (.int (own_b x1)), .val (.ref b153), .unset, .unset, .unset, .unset, .unset, .unset, .unset, .unset, .unset] [(.int (((x1.toUInt32 >>> ((1 : Int32) &&& 31).toUInt32).toInt32) &&& (255 : Int32)))]))
  refine own_go (fun _ k => XS.i2c X153.here hx rfl (hb hby at_46) rfl k) ?_
  show own_G p.tables e below _ (T153.setTop (mkF m 47 #[.val (.int x0), .val (.int x1), .val (.int x2), .val (.int x3), .val (.int x4), .val (.int x5), .val (.int (own_b x0)), .val (.int (own_b x1)), .val (.ref b153), .unset, .unset, .unset, .unset, .unset, .unset, .unset, .unset, .unset] [(.int ((((x1.toUInt32 >>> ((1 : Int32) &&& 31).toUInt32).toInt32) &&& (255 : Int32)).toUInt32.toUInt16.toUInt32.toInt32))]))
  obtain ⟨_, _, ⟨T159, L159, k159, n159⟩, -, X159, ⟨Lc159, hQ159, l159, y159, z159⟩, st159⟩ := Jvm.LawKit.callS X153 hx (y := (⟨"java/lang/String", "valueOf", "(C)Ljava/lang/String;"⟩ : MethodName)) hown (mvT hZ (hw _ (List.mem_of_getElem? (i := 0) rfl))) (mvT hZ (hw _ (List.mem_of_getElem? (i := 1) rfl))) (mvT hZ (hw _ (List.mem_of_getElem? (i := 2) rfl))) (mvT hZ (hw _ (List.mem_of_getElem? (i := 3) rfl))) (by decide) (backOf (W := 0) (rm1 l Z a0 hw [] ((((x1.toUInt32 >>> ((1 : Int32) &&& 31).toUInt32).toInt32) &&& (255 : Int32)).toUInt32.toUInt16.toUInt32.toInt32) cz T153.heap n0 Z_157 S_156 hcz (own_enc _)) hZ (hw _ (List.mem_of_getElem? (i := 3) rfl)) (hw _ (List.mem_of_getElem? (i := 2) rfl)) (by decide) (by decide)) (g := (mkF m 47 #[.val (.int x0), .val (.int x1), .val (.int x2), .val (.int x3), .val (.int x4), .val (.int x5), .val (.int (own_b x0)), .val (.int (own_b x1)), .val (.ref b153), .unset, .unset, .unset, .unset, .unset, .unset, .unset, .unset, .unset] [(.int ((((x1.toUInt32 >>> ((1 : Int32) &&& 31).toUInt32).toInt32) &&& (255 : Int32)).toUInt32.toUInt16.toUInt32.toInt32))])) rfl (by rw [hml]; rfl) (argsL := [(.int ((((x1.toUInt32 >>> ((1 : Int32) &&& 31).toUInt32).toInt32) &&& (255 : Int32)).toUInt32.toUInt16.toUInt32.toInt32))]) (rest := []) (lenOf own_pd5 rfl) rfl (by show 2 * 0 + _ ≤ _; exact Nat.le_of_eq rfl) (hb hby at_47) (fun _ _ => ⟨rfl, rfl, (by decide : 2 + 2 ≤ _), (by decide : 5 + 5 ≤ _)⟩)
  dsimp only [Pt.U, Pt.locs, Pt.cells, Pt.slots] at X159 l159 y159 z159 st159 hQ159
  subst l159 y159 z159
  obtain ⟨rfl, Nq159, K159, G_160⟩ := hQ159
  obtain ⟨b159, g159⟩ : ∃ z, z = T153.heap.size := ⟨_, rfl⟩
  rw [← g159] at G_160 st159
  have ne_161 : b153 ≠ b159 := Nat.ne_of_lt (Nat.lt_of_lt_of_le G_154.lt (Nat.le_of_eq g159.symm))
  have ge_162 : n0 ≤ b159 := Nat.le_trans Z_157 (Nat.le_of_eq g159.symm)
  have S_163 := own_staKeep S_156 K159 (fun _ q => nomatch q)
  have X_164 := G_154.keep K159
  have Z_165 : n0 ≤ T159.heap.size := Nat.le_trans Z_157 K159.1
  have hk_166 := Nat.le_trans hk_158 K159.1
  have N_159 := Fr.app N_153 Nq159
  refine own_go (fun _ k => st159 _ k) ?_
  show own_G p.tables e below _ (T159.setTop (mkF m 50 #[.val (.int x0), .val (.int x1), .val (.int x2), .val (.int x3), .val (.int x4), .val (.int x5), .val (.int (own_b x0)), .val (.int (own_b x1)), .val (.ref b153), .unset, .unset, .unset, .unset, .unset, .unset, .unset, .unset, .unset] [(.ref b159)]))
  refine own_go (fun _ k => XS.astore X159.here hx rfl (hb hby at_50) rfl rfl (l' := #[.val (.int x0), .val (.int x1), .val (.int x2), .val (.int x3), .val (.int x4), .val (.int x5), .val (.int (own_b x0)), .val (.int (own_b x1)), .val (.ref b153), .val (.ref b159), .unset, .unset, .unset, .unset, .unset, .unset, .unset, .unset]) rfl k) ?_
  show own_G p.tables e below _ (T159.setTop (mkF m 52 #[.val (.int x0), .val (.int x1), .val (.int x2), .val (.int x3), .val (.int x4), .val (.int x5), .val (.int (own_b x0)), .val (.int (own_b x1)), .val (.ref b153), .val (.ref b159), .unset, .unset, .unset, .unset, .unset, .unset, .unset, .unset] []))
  obtain ⟨T167, h167, X167, e167, E167, A167, D167, -, st167⟩ := newO X159 hx hZ hown (hw _ (List.mem_of_getElem? (i := 26) rfl)) (hw _ (List.mem_of_getElem? (i := 27) rfl)) (hw _ (List.mem_of_getElem? (i := 28) rfl)) rfl (g := (mkF m 52 #[.val (.int x0), .val (.int x1), .val (.int x2), .val (.int x3), .val (.int x4), .val (.int x5), .val (.int (own_b x0)), .val (.int (own_b x1)), .val (.ref b153), .val (.ref b159), .unset, .unset, .unset, .unset, .unset, .unset, .unset, .unset] [])) rfl (hb hby at_52) (by decide) (by decide)
  obtain ⟨b167, g167⟩ : ∃ z, z = T159.heap.size := ⟨_, rfl⟩
  rw [← g167] at A167 D167 st167
  have ne_168 : b153 ≠ b167 := Nat.ne_of_lt (Nat.lt_of_lt_of_le X_164.lt (Nat.le_of_eq g167.symm))
  have ne_169 : b159 ≠ b167 := Nat.ne_of_lt (Nat.lt_of_lt_of_le G_160.lt (Nat.le_of_eq g167.symm))
  have ge_170 : n0 ≤ b167 := Nat.le_trans Z_165 (Nat.le_of_eq g167.symm)
  have S_171 := S_163.ext E167
  have X_172 := X_164.ext E167
  have X_173 := G_160.ext E167
  have Z_174 : n0 ≤ h167.size := Nat.le_trans Z_165 E167.1
  have hk_175 := Nat.le_trans hk_166 E167.1
  have F_176 : Fld Z h167 b167 "com/example/ptah/ptah/model/SourceLocation" "filename" "Ljava/lang/String;" .null := D167 (Or.inr (hw _ (List.mem_of_getElem? (i := 42) rfl))) (ty := (.object "java/lang/String")) (by decide)
  have F_177 : Fld Z h167 b167 "com/example/ptah/ptah/model/SourceLocation" "line" "I" (.int (0 : Int32)) := D167 (Or.inr (hw _ (List.mem_of_getElem? (i := 44) rfl))) (ty := .int) (by decide)
  have F_178 : Fld Z h167 b167 "com/example/ptah/ptah/model/SourceLocation" "column" "I" (.int (0 : Int32)) := D167 (Or.inr (hw _ (List.mem_of_getElem? (i := 46) rfl))) (ty := .int) (by decide)
  refine own_go st167 ?_
  show own_G p.tables e below _ (T167.setTop (mkF m 55 #[.val (.int x0), .val (.int x1), .val (.int x2), .val (.int x3), .val (.int x4), .val (.int x5), .val (.int (own_b x0)), .val (.int (own_b x1)), .val (.ref b153), .val (.ref b159), .unset, .unset, .unset, .unset, .unset, .unset, .unset, .unset] [(.ref b167)]))
  refine own_go (fun _ k => XS.dup X167.here hx rfl (hb hby at_55) rfl rfl k) ?_
  show own_G p.tables e below _ (T167.setTop (mkF m 56 #[.val (.int x0), .val (.int x1), .val (.int x2), .val (.int x3), .val (.int x4), .val (.int x5), .val (.int (own_b x0)), .val (.int (own_b x1)), .val (.ref b153), .val (.ref b159), .unset, .unset, .unset, .unset, .unset, .unset, .unset, .unset] [(.ref b167), (.ref b167)]))
  refine own_go (fun _ k => XS.aload X167.here hx rfl (hb hby at_56) rfl rfl k) ?_
  show own_G p.tables e below _ (T167.setTop (mkF m 58 #[.val (.int x0), .val (.int x1), .val (.int x2), .val (.int x3), .val (.int x4), .val (.int x5), .val (.int (own_b x0)), .val (.int (own_b x1)), .val (.ref b153), .val (.ref b159), .unset, .unset, .unset, .unset, .unset, .unset, .unset, .unset] [(.ref b153), (.ref b167), (.ref b167)]))
  refine own_go (fun _ k => XS.iloadN X167.here hx rfl (hb hby at_58) rfl k) ?_
  show own_G p.tables e below _ (T167.setTop (mkF m 59 #[.val (.int x0), .val (.int x1), .val (.int x2), .val (.int x3), .val (.int x4), .val (.int x5), .val (.int (own_b x0)), .val (.int (own_b x1)), .val (.ref b153), .val (.ref b159), .unset, .unset, .unset, .unset, .unset, .unset, .unset, .unset] [(.int x2), (.ref b153), (.ref b167), (.ref b167)]))
  refine own_go (fun _ k => XS.iloadN X167.here hx rfl (hb hby at_59) rfl k) ?_
  show own_G p.tables e below _ (T167.setTop (mkF m 60 #[.val (.int x0), .val (.int x1), .val (.int x2), .val (.int x3), .val (.int x4), .val (.int x5), .val (.int (own_b x0)), .val (.int (own_b x1)), .val (.ref b153), .val (.ref b159), .unset, .unset, .unset, .unset, .unset, .unset, .unset, .unset] [(.int x3), (.int x2), (.ref b153), (.ref b167), (.ref b167)]))
  obtain ⟨_, _, ⟨T179, L179, k179, n179⟩, -, X179, hSn, hgr, ⟨Lc179, hQ179, l179, y179, z179⟩, st179⟩ := X167.specialBackS hx (y := (⟨"com/example/ptah/ptah/model/SourceLocation", "<init>", "(Ljava/lang/String;II)V"⟩ : MethodName)) rfl hown (mvT hZ (hw _ (List.mem_of_getElem? (i := 29) rfl))) (mvT hZ (hw _ (List.mem_of_getElem? (i := 30) rfl))) (mvT hZ (hw _ (List.mem_of_getElem? (i := 31) rfl))) (by decide) (backOfS (W := 1) (rm6 l Z a0 hw [] b167 b153 x2 x3  h167 n0 Z_174 A167 ge_170 X_172 F_176 F_177 F_178) hZ (hw _ (List.mem_of_getElem? (i := 31) rfl)) (hw _ (List.mem_of_getElem? (i := 28) rfl)) (by decide) (by decide)) (g := (mkF m 60 #[.val (.int x0), .val (.int x1), .val (.int x2), .val (.int x3), .val (.int x4), .val (.int x5), .val (.int (own_b x0)), .val (.int (own_b x1)), .val (.ref b153), .val (.ref b159), .unset, .unset, .unset, .unset, .unset, .unset, .unset, .unset] [(.int x3), (.int x2), (.ref b153), (.ref b167), (.ref b167)])) rfl (by rw [hml]; rfl) (Steps.refl _) (a := b167) (argsL := [(.ref b153), (.int x2), (.int x3)]) (rest := [(.ref b167)]) (lenOf own_pd6 rfl) rfl (by show 2 * 0 + _ ≤ _; exact Nat.le_of_eq rfl) (hb hby at_60) (fun _ _ => ⟨rfl, e167, (by decide : 5 + 2 ≤ _), (by decide : 13 + 36 ≤ _)⟩)
  dsimp only [Pt.U, Pt.locs, Pt.cells, Pt.slots] at X179 l179 y179 z179 st179 hQ179 hSn hgr
  subst l179 y179 z179
  obtain ⟨rfl, Nq179, K179, G_180⟩ := hQ179
  have hS := foldS (s := s) hS (by rw [e167]; exact hk_175) hSn hgr
  have hZ := State.Warmed39.trans (t := s) hZ hSn.1
  have hown : (s.setVm T179.vm).vm.findClass "com/example/ptah/ptah/model/BooleanNodeEqualsPinLaw" = some m.cls := by rw [show (s.setVm T179.vm).vm = T179.vm from rfl, hSn.1.alike.findClass]; exact hown
  have X_181 := X_172.keep K179
  have X_182 := X_173.keep K179
  have X_183 := A167.keep K179
  have Z_184 : n0 ≤ T179.heap.size := Nat.le_trans Z_174 K179.1
  have hk_185 := Nat.le_trans hk_175 K179.1
  have hk179 : T179.heap.size ≤ T179.heap.size := Nat.le_refl _
  have N_179 := Fr.app N_159 Nq179
  have X179 : Stand p l e _ (s.setVm T179.vm) m _ below meth c T179 _ _ _ := X179
  refine own_go (fun _ k => st179.trans k) ?_
  show own_G p.tables e below _ (T179.setTop (mkF m 63 #[.val (.int x0), .val (.int x1), .val (.int x2), .val (.int x3), .val (.int x4), .val (.int x5), .val (.int (own_b x0)), .val (.int (own_b x1)), .val (.ref b153), .val (.ref b159), .unset, .unset, .unset, .unset, .unset, .unset, .unset, .unset] [(.ref b167)]))
  refine own_go (fun _ k => XS.astore X179.here hx rfl (hb hby at_63) rfl rfl (l' := #[.val (.int x0), .val (.int x1), .val (.int x2), .val (.int x3), .val (.int x4), .val (.int x5), .val (.int (own_b x0)), .val (.int (own_b x1)), .val (.ref b153), .val (.ref b159), .val (.ref b167), .unset, .unset, .unset, .unset, .unset, .unset, .unset]) rfl k) ?_
  show own_G p.tables e below _ (T179.setTop (mkF m 65 #[.val (.int x0), .val (.int x1), .val (.int x2), .val (.int x3), .val (.int x4), .val (.int x5), .val (.int (own_b x0)), .val (.int (own_b x1)), .val (.ref b153), .val (.ref b159), .val (.ref b167), .unset, .unset, .unset, .unset, .unset, .unset, .unset] []))
  obtain ⟨T186, h186, X186, e186, E186, A186, D186, -, st186⟩ := newO X179 hx hZ hown (hw _ (List.mem_of_getElem? (i := 26) rfl)) (hw _ (List.mem_of_getElem? (i := 27) rfl)) (hw _ (List.mem_of_getElem? (i := 28) rfl)) rfl (g := (mkF m 65 #[.val (.int x0), .val (.int x1), .val (.int x2), .val (.int x3), .val (.int x4), .val (.int x5), .val (.int (own_b x0)), .val (.int (own_b x1)), .val (.ref b153), .val (.ref b159), .val (.ref b167), .unset, .unset, .unset, .unset, .unset, .unset, .unset] [])) rfl (hb hby at_65) (by decide) (by decide)
  obtain ⟨b186, g186⟩ : ∃ z, z = T179.heap.size := ⟨_, rfl⟩
  rw [← g186] at A186 D186 st186
  have ne_187 : b153 ≠ b186 := Nat.ne_of_lt (Nat.lt_of_lt_of_le X_181.lt (Nat.le_of_eq g186.symm))
  have ne_188 : b159 ≠ b186 := Nat.ne_of_lt (Nat.lt_of_lt_of_le X_182.lt (Nat.le_of_eq g186.symm))
  have ne_189 : b167 ≠ b186 := Nat.ne_of_lt (Nat.lt_of_lt_of_le G_180.lt (Nat.le_of_eq g186.symm))
  have ge_190 : n0 ≤ b186 := Nat.le_trans Z_184 (Nat.le_of_eq g186.symm)
  have X_191 := X_181.ext E186
  have X_192 := X_182.ext E186
  have X_193 := G_180.ext E186
  have Z_194 : n0 ≤ h186.size := Nat.le_trans Z_184 E186.1
  have hk_195 := Nat.le_trans hk179 E186.1
  have F_196 : Fld Z h186 b186 "com/example/ptah/ptah/model/SourceLocation" "filename" "Ljava/lang/String;" .null := D186 (Or.inr (hw _ (List.mem_of_getElem? (i := 42) rfl))) (ty := (.object "java/lang/String")) (by decide)
  have F_197 : Fld Z h186 b186 "com/example/ptah/ptah/model/SourceLocation" "line" "I" (.int (0 : Int32)) := D186 (Or.inr (hw _ (List.mem_of_getElem? (i := 44) rfl))) (ty := .int) (by decide)
  have F_198 : Fld Z h186 b186 "com/example/ptah/ptah/model/SourceLocation" "column" "I" (.int (0 : Int32)) := D186 (Or.inr (hw _ (List.mem_of_getElem? (i := 46) rfl))) (ty := .int) (by decide)
  refine own_go st186 ?_
  show own_G p.tables e below _ (T186.setTop (mkF m 68 #[.val (.int x0), .val (.int x1), .val (.int x2), .val (.int x3), .val (.int x4), .val (.int x5), .val (.int (own_b x0)), .val (.int (own_b x1)), .val (.ref b153), .val (.ref b159), .val (.ref b167), .unset, .unset, .unset, .unset, .unset, .unset, .unset] [(.ref b186)]))
  refine own_go (fun _ k => XS.dup X186.here hx rfl (hb hby at_68) rfl rfl k) ?_
  show own_G p.tables e below _ (T186.setTop (mkF m 69 #[.val (.int x0), .val (.int x1), .val (.int x2), .val (.int x3), .val (.int x4), .val (.int x5), .val (.int (own_b x0)), .val (.int (own_b x1)), .val (.ref b153), .val (.ref b159), .val (.ref b167), .unset, .unset, .unset, .unset, .unset, .unset, .unset] [(.ref b186), (.ref b186)]))
  refine own_go (fun _ k => XS.aload X186.here hx rfl (hb hby at_69) rfl rfl k) ?_
  show own_G p.tables e below _ (T186.setTop (mkF m 71 #[.val (.int x0), .val (.int x1), .val (.int x2), .val (.int x3), .val (.int x4), .val (.int x5), .val (.int (own_b x0)), .val (.int (own_b x1)), .val (.ref b153), .val (.ref b159), .val (.ref b167), .unset, .unset, .unset, .unset, .unset, .unset, .unset] [(.ref b159), (.ref b186), (.ref b186)]))
  refine own_go (fun _ k => XS.iload X186.here hx rfl (hb hby at_71) rfl k) ?_
  show own_G p.tables e below _ (T186.setTop (mkF m 73 #[.val (.int x0), .val (.int x1), .val (.int x2), .val (.int x3), .val (.int x4), .val (.int x5), .val (.int (own_b x0)), .val (.int (own_b x1)), .val (.ref b153), .val (.ref b159), .val (.ref b167), .unset, .unset, .unset, .unset, .unset, .unset, .unset] [(.int x4), (.ref b159), (.ref b186), (.ref b186)]))
  refine own_go (fun _ k => XS.iload X186.here hx rfl (hb hby at_73) rfl k) ?_
  show own_G p.tables e below _ (T186.setTop (mkF m 75 #[.val (.int x0), .val (.int x1), .val (.int x2), .val (.int x3), .val (.int x4), .val (.int x5), .val (.int (own_b x0)), .val (.int (own_b x1)), .val (.ref b153), .val (.ref b159), .val (.ref b167), .unset, .unset, .unset, .unset, .unset, .unset, .unset] [(.int x5), (.int x4), (.ref b159), (.ref b186), (.ref b186)]))
  refine own_go (fun _ k => XS.iconst X186.here hx rfl (hb hby at_75) k) ?_
  show own_G p.tables e below _ (T186.setTop (mkF m 76 #[.val (.int x0), .val (.int x1), .val (.int x2), .val (.int x3), .val (.int x4), .val (.int x5), .val (.int (own_b x0)), .val (.int (own_b x1)), .val (.ref b153), .val (.ref b159), .val (.ref b167), .unset, .unset, .unset, .unset, .unset, .unset, .unset] [(.int (3 : Int32)), (.int x5), (.int x4), (.ref b159), (.ref b186), (.ref b186)]))
  refine own_go (fun _ k => XS.ishr X186.here hx rfl (hb hby at_76) rfl k) ?_
  show own_G p.tables e below _ (T186.setTop (mkF m 77 #[.val (.int x0), .val (.int x1), .val (.int x2), .val (.int x3), .val (.int x4), .val (.int x5), .val (.int (own_b x0)), .val (.int (own_b x1)), .val (.ref b153), .val (.ref b159), .val (.ref b167), .unset, .unset, .unset, .unset, .unset, .unset, .unset] [(.int (x5 >>> ((3 : Int32) &&& 31))), (.int x4), (.ref b159), (.ref b186), (.ref b186)]))
  obtain ⟨_, _, ⟨T199, L199, k199, n199⟩, -, X199, hSn, hgr, ⟨Lc199, hQ199, l199, y199, z199⟩, st199⟩ := X186.specialBackS hx (y := (⟨"com/example/ptah/ptah/model/SourceLocation", "<init>", "(Ljava/lang/String;II)V"⟩ : MethodName)) rfl hown (mvT hZ (hw _ (List.mem_of_getElem? (i := 29) rfl))) (mvT hZ (hw _ (List.mem_of_getElem? (i := 30) rfl))) (mvT hZ (hw _ (List.mem_of_getElem? (i := 31) rfl))) (by decide) (backOfS (W := 1) (rm6 l Z a0 hw [] b186 b159 x4 (x5 >>> ((3 : Int32) &&& 31))  h186 n0 Z_194 A186 ge_190 X_192 F_196 F_197 F_198) hZ (hw _ (List.mem_of_getElem? (i := 31) rfl)) (hw _ (List.mem_of_getElem? (i := 28) rfl)) (by decide) (by decide)) (g := (mkF m 77 #[.val (.int x0), .val (.int x1), .val (.int x2), .val (.int x3), .val (.int x4), .val (.int x5), .val (.int (own_b x0)), .val (.int (own_b x1)), .val (.ref b153), .val (.ref b159), .val (.ref b167), .unset, .unset, .unset, .unset, .unset, .unset, .unset] [(.int (x5 >>> ((3 : Int32) &&& 31))), (.int x4), (.ref b159), (.ref b186), (.ref b186)])) rfl (by rw [hml]; rfl) (Steps.refl _) (a := b186) (argsL := [(.ref b159), (.int x4), (.int (x5 >>> ((3 : Int32) &&& 31)))]) (rest := [(.ref b186)]) (lenOf own_pd6 rfl) rfl (by show 2 * 0 + _ ≤ _; exact Nat.le_of_eq rfl) (hb hby at_77) (fun _ _ => ⟨rfl, e186, (by decide : 8 + 2 ≤ _), (by decide : 52 + 36 ≤ _)⟩)
  dsimp only [Pt.U, Pt.locs, Pt.cells, Pt.slots] at X199 l199 y199 z199 st199 hQ199 hSn hgr
  subst l199 y199 z199
  obtain ⟨rfl, Nq199, K199, G_200⟩ := hQ199
  have hS := foldS (s := s) hS (by rw [e186]; exact hk_195) hSn hgr
  have hZ := State.Warmed39.trans (t := (s.setVm T179.vm)) hZ hSn.1
  have hown : (s.setVm T199.vm).vm.findClass "com/example/ptah/ptah/model/BooleanNodeEqualsPinLaw" = some m.cls := by rw [show (s.setVm T199.vm).vm = T199.vm from rfl, hSn.1.alike.findClass]; exact hown
  have X_201 := X_191.keep K199
  have X_202 := X_192.keep K199
  have X_203 := X_193.keep K199
  have X_204 := A186.keep K199
  have Z_205 : n0 ≤ T199.heap.size := Nat.le_trans Z_194 K199.1
  have hk_206 := Nat.le_trans hk_195 K199.1
  have hk199 : T199.heap.size ≤ T199.heap.size := Nat.le_refl _
  have N_199 := Fr.app N_179 Nq199
  have X199 : Stand p l e _ (s.setVm T199.vm) m _ below meth c T199 _ _ _ := X199
  refine own_go (fun _ k => st199.trans k) ?_
  show own_G p.tables e below _ (T199.setTop (mkF m 80 #[.val (.int x0), .val (.int x1), .val (.int x2), .val (.int x3), .val (.int x4), .val (.int x5), .val (.int (own_b x0)), .val (.int (own_b x1)), .val (.ref b153), .val (.ref b159), .val (.ref b167), .unset, .unset, .unset, .unset, .unset, .unset, .unset] [(.ref b186)]))
  refine own_go (fun _ k => XS.astore X199.here hx rfl (hb hby at_80) rfl rfl (l' := #[.val (.int x0), .val (.int x1), .val (.int x2), .val (.int x3), .val (.int x4), .val (.int x5), .val (.int (own_b x0)), .val (.int (own_b x1)), .val (.ref b153), .val (.ref b159), .val (.ref b167), .val (.ref b186), .unset, .unset, .unset, .unset, .unset, .unset]) rfl k) ?_
  show own_G p.tables e below _ (T199.setTop (mkF m 82 #[.val (.int x0), .val (.int x1), .val (.int x2), .val (.int x3), .val (.int x4), .val (.int x5), .val (.int (own_b x0)), .val (.int (own_b x1)), .val (.ref b153), .val (.ref b159), .val (.ref b167), .val (.ref b186), .unset, .unset, .unset, .unset, .unset, .unset] []))
  obtain ⟨T207, h207, X207, e207, E207, A207, D207, -, st207⟩ := newO X199 hx hZ hown (hw _ (List.mem_of_getElem? (i := 47) rfl)) (hw _ (List.mem_of_getElem? (i := 48) rfl)) (hw _ (List.mem_of_getElem? (i := 49) rfl)) rfl (g := (mkF m 82 #[.val (.int x0), .val (.int x1), .val (.int x2), .val (.int x3), .val (.int x4), .val (.int x5), .val (.int (own_b x0)), .val (.int (own_b x1)), .val (.ref b153), .val (.ref b159), .val (.ref b167), .val (.ref b186), .unset, .unset, .unset, .unset, .unset, .unset] [])) rfl (hb hby at_82) (by decide) (by decide)
  obtain ⟨b207, g207⟩ : ∃ z, z = T199.heap.size := ⟨_, rfl⟩
  rw [← g207] at A207 D207 st207
  have ne_208 : b153 ≠ b207 := Nat.ne_of_lt (Nat.lt_of_lt_of_le X_201.lt (Nat.le_of_eq g207.symm))
  have ne_209 : b159 ≠ b207 := Nat.ne_of_lt (Nat.lt_of_lt_of_le X_202.lt (Nat.le_of_eq g207.symm))
  have ne_210 : b167 ≠ b207 := Nat.ne_of_lt (Nat.lt_of_lt_of_le X_203.lt (Nat.le_of_eq g207.symm))
  have ne_211 : b186 ≠ b207 := Nat.ne_of_lt (Nat.lt_of_lt_of_le G_200.lt (Nat.le_of_eq g207.symm))
  have ge_212 : n0 ≤ b207 := Nat.le_trans Z_205 (Nat.le_of_eq g207.symm)
  have X_213 := X_201.ext E207
  have X_214 := X_202.ext E207
  have X_215 := X_203.ext E207
  have X_216 := G_200.ext E207
  have Z_217 : n0 ≤ h207.size := Nat.le_trans Z_205 E207.1
  have hk_218 := Nat.le_trans hk199 E207.1
  have F_219 : Fld Z h207 b207 "com/example/ptah/ptah/model/Node" "sourceLocation" "Lcom/example/ptah/ptah/model/SourceLocation;" .null := D207 (Or.inr (hw _ (List.mem_of_getElem? (i := 64) rfl))) (ty := (.object "com/example/ptah/ptah/model/SourceLocation")) (by decide)
  have F_220 : Fld Z h207 b207 "com/example/ptah/ptah/model/BooleanNode" "value" "Z" (.int (0 : Int32)) := D207 (Or.inr (hw _ (List.mem_of_getElem? (i := 66) rfl))) (ty := .boolean) (by decide)
  refine own_go st207 ?_
  show own_G p.tables e below _ (T207.setTop (mkF m 85 #[.val (.int x0), .val (.int x1), .val (.int x2), .val (.int x3), .val (.int x4), .val (.int x5), .val (.int (own_b x0)), .val (.int (own_b x1)), .val (.ref b153), .val (.ref b159), .val (.ref b167), .val (.ref b186), .unset, .unset, .unset, .unset, .unset, .unset] [(.ref b207)]))
  refine own_go (fun _ k => XS.dup X207.here hx rfl (hb hby at_85) rfl rfl k) ?_
  show own_G p.tables e below _ (T207.setTop (mkF m 86 #[.val (.int x0), .val (.int x1), .val (.int x2), .val (.int x3), .val (.int x4), .val (.int x5), .val (.int (own_b x0)), .val (.int (own_b x1)), .val (.ref b153), .val (.ref b159), .val (.ref b167), .val (.ref b186), .unset, .unset, .unset, .unset, .unset, .unset] [(.ref b207), (.ref b207)]))
  refine own_go (fun _ k => XS.iload X207.here hx rfl (hb hby at_86) rfl k) ?_
  show own_G p.tables e below _ (T207.setTop (mkF m 88 #[.val (.int x0), .val (.int x1), .val (.int x2), .val (.int x3), .val (.int x4), .val (.int x5), .val (.int (own_b x0)), .val (.int (own_b x1)), .val (.ref b153), .val (.ref b159), .val (.ref b167), .val (.ref b186), .unset, .unset, .unset, .unset, .unset, .unset] [(.int (own_b x0)), (.ref b207), (.ref b207)]))
  refine own_go (fun _ k => XS.aload X207.here hx rfl (hb hby at_88) rfl rfl k) ?_
  show own_G p.tables e below _ (T207.setTop (mkF m 90 #[.val (.int x0), .val (.int x1), .val (.int x2), .val (.int x3), .val (.int x4), .val (.int x5), .val (.int (own_b x0)), .val (.int (own_b x1)), .val (.ref b153), .val (.ref b159), .val (.ref b167), .val (.ref b186), .unset, .unset, .unset, .unset, .unset, .unset] [(.ref b167), (.int (own_b x0)), (.ref b207), (.ref b207)]))
  obtain ⟨_, _, ⟨T221, L221, k221, n221⟩, -, X221, hSn, hgr, ⟨Lc221, hQ221, l221, y221, z221⟩, st221⟩ := X207.specialBackS hx (y := (⟨"com/example/ptah/ptah/model/BooleanNode", "<init>", "(ZLcom/example/ptah/ptah/model/SourceLocation;)V"⟩ : MethodName)) rfl hown (mvT hZ (hw _ (List.mem_of_getElem? (i := 50) rfl))) (mvT hZ (hw _ (List.mem_of_getElem? (i := 51) rfl))) (mvT hZ (hw _ (List.mem_of_getElem? (i := 52) rfl))) (by decide) (backOfS (W := 1) (rm8 l Z a0 hw [] b207 (own_b x0) b167  h207 n0 Z_217 A207 ge_212 X_215 F_219 F_220) hZ (hw _ (List.mem_of_getElem? (i := 52) rfl)) (hw _ (List.mem_of_getElem? (i := 49) rfl)) (by decide) (by decide)) (g := (mkF m 90 #[.val (.int x0), .val (.int x1), .val (.int x2), .val (.int x3), .val (.int x4), .val (.int x5), .val (.int (own_b x0)), .val (.int (own_b x1)), .val (.ref b153), .val (.ref b159), .val (.ref b167), .val (.ref b186), .unset, .unset, .unset, .unset, .unset, .unset] [(.ref b167), (.int (own_b x0)), (.ref b207), (.ref b207)])) rfl (by rw [hml]; rfl) (Steps.refl _) (a := b207) (argsL := [(.int (own_b x0)), (.ref b167)]) (rest := [(.ref b207)]) (lenOf own_pd7 rfl) rfl (by show 2 * 0 + _ ≤ _; exact Nat.le_of_eq rfl) (hb hby at_90) (fun _ _ => ⟨rfl, e207, (by decide : 11 + 2 ≤ _), (by decide : 90 + 60 ≤ _)⟩)
  dsimp only [Pt.U, Pt.locs, Pt.cells, Pt.slots] at X221 l221 y221 z221 st221 hQ221 hSn hgr
  subst l221 y221 z221
  obtain ⟨rfl, Nq221, K221, G_222, G_223⟩ := hQ221
  have hS := foldS (s := s) hS (by rw [e207]; exact hk_218) hSn hgr
  have hZ := State.Warmed39.trans (t := (s.setVm T199.vm)) hZ hSn.1
  have hown : (s.setVm T221.vm).vm.findClass "com/example/ptah/ptah/model/BooleanNodeEqualsPinLaw" = some m.cls := by rw [show (s.setVm T221.vm).vm = T221.vm from rfl, hSn.1.alike.findClass]; exact hown
  have X_224 := X_213.keep K221
  have X_225 := X_214.keep K221
  have X_226 := X_215.keep K221
  have X_227 := X_216.keep K221
  have X_228 := A207.keep K221
  have Z_229 : n0 ≤ T221.heap.size := Nat.le_trans Z_217 K221.1
  have hk_230 := Nat.le_trans hk_218 K221.1
  have hk221 : T221.heap.size ≤ T221.heap.size := Nat.le_refl _
  have N_221 := Fr.app N_199 Nq221
  have X221 : Stand p l e _ (s.setVm T221.vm) m _ below meth c T221 _ _ _ := X221
  refine own_go (fun _ k => st221.trans k) ?_
  show own_G p.tables e below _ (T221.setTop (mkF m 93 #[.val (.int x0), .val (.int x1), .val (.int x2), .val (.int x3), .val (.int x4), .val (.int x5), .val (.int (own_b x0)), .val (.int (own_b x1)), .val (.ref b153), .val (.ref b159), .val (.ref b167), .val (.ref b186), .unset, .unset, .unset, .unset, .unset, .unset] [(.ref b207)]))
  refine own_go (fun _ k => XS.astore X221.here hx rfl (hb hby at_93) rfl rfl (l' := #[.val (.int x0), .val (.int x1), .val (.int x2), .val (.int x3), .val (.int x4), .val (.int x5), .val (.int (own_b x0)), .val (.int (own_b x1)), .val (.ref b153), .val (.ref b159), .val (.ref b167), .val (.ref b186), .val (.ref b207), .unset, .unset, .unset, .unset, .unset]) rfl k) ?_
  show own_G p.tables e below _ (T221.setTop (mkF m 95 #[.val (.int x0), .val (.int x1), .val (.int x2), .val (.int x3), .val (.int x4), .val (.int x5), .val (.int (own_b x0)), .val (.int (own_b x1)), .val (.ref b153), .val (.ref b159), .val (.ref b167), .val (.ref b186), .val (.ref b207), .unset, .unset, .unset, .unset, .unset] []))
  obtain ⟨T231, h231, X231, e231, E231, A231, D231, -, st231⟩ := newO X221 hx hZ hown (hw _ (List.mem_of_getElem? (i := 47) rfl)) (hw _ (List.mem_of_getElem? (i := 48) rfl)) (hw _ (List.mem_of_getElem? (i := 49) rfl)) rfl (g := (mkF m 95 #[.val (.int x0), .val (.int x1), .val (.int x2), .val (.int x3), .val (.int x4), .val (.int x5), .val (.int (own_b x0)), .val (.int (own_b x1)), .val (.ref b153), .val (.ref b159), .val (.ref b167), .val (.ref b186), .val (.ref b207), .unset, .unset, .unset, .unset, .unset] [])) rfl (hb hby at_95) (by decide) (by decide)
  obtain ⟨b231, g231⟩ : ∃ z, z = T221.heap.size := ⟨_, rfl⟩
  rw [← g231] at A231 D231 st231
  have ne_232 : b153 ≠ b231 := Nat.ne_of_lt (Nat.lt_of_lt_of_le X_224.lt (Nat.le_of_eq g231.symm))
  have ne_233 : b159 ≠ b231 := Nat.ne_of_lt (Nat.lt_of_lt_of_le X_225.lt (Nat.le_of_eq g231.symm))
  have ne_234 : b167 ≠ b231 := Nat.ne_of_lt (Nat.lt_of_lt_of_le X_226.lt (Nat.le_of_eq g231.symm))
  have ne_235 : b186 ≠ b231 := Nat.ne_of_lt (Nat.lt_of_lt_of_le X_227.lt (Nat.le_of_eq g231.symm))
  have ne_236 : b207 ≠ b231 := Nat.ne_of_lt (Nat.lt_of_lt_of_le G_222.lt (Nat.le_of_eq g231.symm))
  have ge_237 : n0 ≤ b231 := Nat.le_trans Z_229 (Nat.le_of_eq g231.symm)
  have X_238 := X_224.ext E231
  have X_239 := X_225.ext E231
  have X_240 := X_226.ext E231
  have X_241 := X_227.ext E231
  have X_242 := G_222.ext E231
  have F_243 := G_223.ext E231
  have Z_244 : n0 ≤ h231.size := Nat.le_trans Z_229 E231.1
  have hk_245 := Nat.le_trans hk221 E231.1
  have F_246 : Fld Z h231 b231 "com/example/ptah/ptah/model/Node" "sourceLocation" "Lcom/example/ptah/ptah/model/SourceLocation;" .null := D231 (Or.inr (hw _ (List.mem_of_getElem? (i := 64) rfl))) (ty := (.object "com/example/ptah/ptah/model/SourceLocation")) (by decide)
  have F_247 : Fld Z h231 b231 "com/example/ptah/ptah/model/BooleanNode" "value" "Z" (.int (0 : Int32)) := D231 (Or.inr (hw _ (List.mem_of_getElem? (i := 66) rfl))) (ty := .boolean) (by decide)
  refine own_go st231 ?_
  show own_G p.tables e below _ (T231.setTop (mkF m 98 #[.val (.int x0), .val (.int x1), .val (.int x2), .val (.int x3), .val (.int x4), .val (.int x5), .val (.int (own_b x0)), .val (.int (own_b x1)), .val (.ref b153), .val (.ref b159), .val (.ref b167), .val (.ref b186), .val (.ref b207), .unset, .unset, .unset, .unset, .unset] [(.ref b231)]))
  refine own_go (fun _ k => XS.dup X231.here hx rfl (hb hby at_98) rfl rfl k) ?_
  show own_G p.tables e below _ (T231.setTop (mkF m 99 #[.val (.int x0), .val (.int x1), .val (.int x2), .val (.int x3), .val (.int x4), .val (.int x5), .val (.int (own_b x0)), .val (.int (own_b x1)), .val (.ref b153), .val (.ref b159), .val (.ref b167), .val (.ref b186), .val (.ref b207), .unset, .unset, .unset, .unset, .unset] [(.ref b231), (.ref b231)]))
  refine own_go (fun _ k => XS.iload X231.here hx rfl (hb hby at_99) rfl k) ?_
  show own_G p.tables e below _ (T231.setTop (mkF m 101 #[.val (.int x0), .val (.int x1), .val (.int x2), .val (.int x3), .val (.int x4), .val (.int x5), .val (.int (own_b x0)), .val (.int (own_b x1)), .val (.ref b153), .val (.ref b159), .val (.ref b167), .val (.ref b186), .val (.ref b207), .unset, .unset, .unset, .unset, .unset] [(.int (own_b x1)), (.ref b231), (.ref b231)]))
  refine own_go (fun _ k => XS.aload X231.here hx rfl (hb hby at_101) rfl rfl k) ?_
  show own_G p.tables e below _ (T231.setTop (mkF m 103 #[.val (.int x0), .val (.int x1), .val (.int x2), .val (.int x3), .val (.int x4), .val (.int x5), .val (.int (own_b x0)), .val (.int (own_b x1)), .val (.ref b153), .val (.ref b159), .val (.ref b167), .val (.ref b186), .val (.ref b207), .unset, .unset, .unset, .unset, .unset] [(.ref b186), (.int (own_b x1)), (.ref b231), (.ref b231)]))
  obtain ⟨_, _, ⟨T248, L248, k248, n248⟩, -, X248, hSn, hgr, ⟨Lc248, hQ248, l248, y248, z248⟩, st248⟩ := X231.specialBackS hx (y := (⟨"com/example/ptah/ptah/model/BooleanNode", "<init>", "(ZLcom/example/ptah/ptah/model/SourceLocation;)V"⟩ : MethodName)) rfl hown (mvT hZ (hw _ (List.mem_of_getElem? (i := 50) rfl))) (mvT hZ (hw _ (List.mem_of_getElem? (i := 51) rfl))) (mvT hZ (hw _ (List.mem_of_getElem? (i := 52) rfl))) (by decide) (backOfS (W := 1) (rm8 l Z a0 hw [] b231 (own_b x1) b186  h231 n0 Z_244 A231 ge_237 X_241 F_246 F_247) hZ (hw _ (List.mem_of_getElem? (i := 52) rfl)) (hw _ (List.mem_of_getElem? (i := 49) rfl)) (by decide) (by decide)) (g := (mkF m 103 #[.val (.int x0), .val (.int x1), .val (.int x2), .val (.int x3), .val (.int x4), .val (.int x5), .val (.int (own_b x0)), .val (.int (own_b x1)), .val (.ref b153), .val (.ref b159), .val (.ref b167), .val (.ref b186), .val (.ref b207), .unset, .unset, .unset, .unset, .unset] [(.ref b186), (.int (own_b x1)), (.ref b231), (.ref b231)])) rfl (by rw [hml]; rfl) (Steps.refl _) (a := b231) (argsL := [(.int (own_b x1)), (.ref b186)]) (rest := [(.ref b231)]) (lenOf own_pd7 rfl) rfl (by show 2 * 0 + _ ≤ _; exact Nat.le_of_eq rfl) (hb hby at_103) (fun _ _ => ⟨rfl, e231, (by decide : 14 + 2 ≤ _), (by decide : 152 + 60 ≤ _)⟩)
  dsimp only [Pt.U, Pt.locs, Pt.cells, Pt.slots] at X248 l248 y248 z248 st248 hQ248 hSn hgr
  subst l248 y248 z248
  obtain ⟨rfl, Nq248, K248, G_249, G_250⟩ := hQ248
  have hS := foldS (s := s) hS (by rw [e231]; exact hk_245) hSn hgr
  have hZ := State.Warmed39.trans (t := (s.setVm T221.vm)) hZ hSn.1
  have hown : (s.setVm T248.vm).vm.findClass "com/example/ptah/ptah/model/BooleanNodeEqualsPinLaw" = some m.cls := by rw [show (s.setVm T248.vm).vm = T248.vm from rfl, hSn.1.alike.findClass]; exact hown
  have X_251 := X_238.keep K248
  have X_252 := X_239.keep K248
  have X_253 := X_240.keep K248
  have X_254 := X_241.keep K248
  have X_255 := X_242.keep K248
  have F_256 := F_243.keep K248 (ninS ne_236 nin0)
  have X_257 := A231.keep K248
  have Z_258 : n0 ≤ T248.heap.size := Nat.le_trans Z_244 K248.1
  have hk_259 := Nat.le_trans hk_245 K248.1
  have hk248 : T248.heap.size ≤ T248.heap.size := Nat.le_refl _
  have N_248 := Fr.app N_221 Nq248
  have X248 : Stand p l e _ (s.setVm T248.vm) m _ below meth c T248 _ _ _ := X248
  refine own_go (fun _ k => st248.trans k) ?_
  show own_G p.tables e below _ (T248.setTop (mkF m 106 #[.val (.int x0), .val (.int x1), .val (.int x2), .val (.int x3), .val (.int x4), .val (.int x5), .val (.int (own_b x0)), .val (.int (own_b x1)), .val (.ref b153), .val (.ref b159), .val (.ref b167), .val (.ref b186), .val (.ref b207), .unset, .unset, .unset, .unset, .unset] [(.ref b231)]))
  refine own_go (fun _ k => XS.astore X248.here hx rfl (hb hby at_106) rfl rfl (l' := #[.val (.int x0), .val (.int x1), .val (.int x2), .val (.int x3), .val (.int x4), .val (.int x5), .val (.int (own_b x0)), .val (.int (own_b x1)), .val (.ref b153), .val (.ref b159), .val (.ref b167), .val (.ref b186), .val (.ref b207), .val (.ref b231), .unset, .unset, .unset, .unset]) rfl k) ?_
  show own_G p.tables e below _ (T248.setTop (mkF m 108 #[.val (.int x0), .val (.int x1), .val (.int x2), .val (.int x3), .val (.int x4), .val (.int x5), .val (.int (own_b x0)), .val (.int (own_b x1)), .val (.ref b153), .val (.ref b159), .val (.ref b167), .val (.ref b186), .val (.ref b207), .val (.ref b231), .unset, .unset, .unset, .unset] []))
  obtain ⟨T260, h260, X260, e260, E260, A260, D260, -, st260⟩ := newO X248 hx hZ hown (hw _ (List.mem_of_getElem? (i := 67) rfl)) (hw _ (List.mem_of_getElem? (i := 68) rfl)) (hw _ (List.mem_of_getElem? (i := 69) rfl)) rfl (g := (mkF m 108 #[.val (.int x0), .val (.int x1), .val (.int x2), .val (.int x3), .val (.int x4), .val (.int x5), .val (.int (own_b x0)), .val (.int (own_b x1)), .val (.ref b153), .val (.ref b159), .val (.ref b167), .val (.ref b186), .val (.ref b207), .val (.ref b231), .unset, .unset, .unset, .unset] [])) rfl (hb hby at_108) (by decide) (by decide)
  obtain ⟨b260, g260⟩ : ∃ z, z = T248.heap.size := ⟨_, rfl⟩
  rw [← g260] at A260 D260 st260
  have ne_261 : b153 ≠ b260 := Nat.ne_of_lt (Nat.lt_of_lt_of_le X_251.lt (Nat.le_of_eq g260.symm))
  have ne_262 : b159 ≠ b260 := Nat.ne_of_lt (Nat.lt_of_lt_of_le X_252.lt (Nat.le_of_eq g260.symm))
  have ne_263 : b167 ≠ b260 := Nat.ne_of_lt (Nat.lt_of_lt_of_le X_253.lt (Nat.le_of_eq g260.symm))
  have ne_264 : b186 ≠ b260 := Nat.ne_of_lt (Nat.lt_of_lt_of_le X_254.lt (Nat.le_of_eq g260.symm))
  have ne_265 : b207 ≠ b260 := Nat.ne_of_lt (Nat.lt_of_lt_of_le X_255.lt (Nat.le_of_eq g260.symm))
  have ne_266 : b231 ≠ b260 := Nat.ne_of_lt (Nat.lt_of_lt_of_le G_249.lt (Nat.le_of_eq g260.symm))
  have ge_267 : n0 ≤ b260 := Nat.le_trans Z_258 (Nat.le_of_eq g260.symm)
  have X_268 := X_251.ext E260
  have X_269 := X_252.ext E260
  have X_270 := X_253.ext E260
  have X_271 := X_254.ext E260
  have X_272 := X_255.ext E260
  have F_273 := F_256.ext E260
  have X_274 := G_249.ext E260
  have F_275 := G_250.ext E260
  have Z_276 : n0 ≤ h260.size := Nat.le_trans Z_258 E260.1
  have hk_277 := Nat.le_trans hk248 E260.1
  have F_278 : Fld Z h260 b260 "com/example/ptah/ptah/model/Node" "sourceLocation" "Lcom/example/ptah/ptah/model/SourceLocation;" .null := D260 (Or.inr (hw _ (List.mem_of_getElem? (i := 74) rfl))) (ty := (.object "com/example/ptah/ptah/model/SourceLocation")) (by decide)
  refine own_go st260 ?_
  show own_G p.tables e below _ (T260.setTop (mkF m 111 #[.val (.int x0), .val (.int x1), .val (.int x2), .val (.int x3), .val (.int x4), .val (.int x5), .val (.int (own_b x0)), .val (.int (own_b x1)), .val (.ref b153), .val (.ref b159), .val (.ref b167), .val (.ref b186), .val (.ref b207), .val (.ref b231), .unset, .unset, .unset, .unset] [(.ref b260)]))
  refine own_go (fun _ k => XS.dup X260.here hx rfl (hb hby at_111) rfl rfl k) ?_
  show own_G p.tables e below _ (T260.setTop (mkF m 112 #[.val (.int x0), .val (.int x1), .val (.int x2), .val (.int x3), .val (.int x4), .val (.int x5), .val (.int (own_b x0)), .val (.int (own_b x1)), .val (.ref b153), .val (.ref b159), .val (.ref b167), .val (.ref b186), .val (.ref b207), .val (.ref b231), .unset, .unset, .unset, .unset] [(.ref b260), (.ref b260)]))
  refine own_go (fun _ k => XS.aload X260.here hx rfl (hb hby at_112) rfl rfl k) ?_
  show own_G p.tables e below _ (T260.setTop (mkF m 114 #[.val (.int x0), .val (.int x1), .val (.int x2), .val (.int x3), .val (.int x4), .val (.int x5), .val (.int (own_b x0)), .val (.int (own_b x1)), .val (.ref b153), .val (.ref b159), .val (.ref b167), .val (.ref b186), .val (.ref b207), .val (.ref b231), .unset, .unset, .unset, .unset] [(.ref b186), (.ref b260), (.ref b260)]))
  obtain ⟨_, _, ⟨T279, L279, k279, n279⟩, -, X279, hSn, hgr, ⟨Lc279, hQ279, l279, y279, z279⟩, st279⟩ := X260.specialBackS hx (y := (⟨"com/example/ptah/ptah/model/NullNode", "<init>", "(Lcom/example/ptah/ptah/model/SourceLocation;)V"⟩ : MethodName)) rfl hown (mvT hZ (hw _ (List.mem_of_getElem? (i := 70) rfl))) (mvT hZ (hw _ (List.mem_of_getElem? (i := 71) rfl))) (mvT hZ (hw _ (List.mem_of_getElem? (i := 72) rfl))) (by decide) (backOfS (W := 1) (rm10 l Z a0 hw [] b260 b186  h260 n0 Z_276 A260 ge_267 X_271 F_278) hZ (hw _ (List.mem_of_getElem? (i := 72) rfl)) (hw _ (List.mem_of_getElem? (i := 69) rfl)) (by decide) (by decide)) (g := (mkF m 114 #[.val (.int x0), .val (.int x1), .val (.int x2), .val (.int x3), .val (.int x4), .val (.int x5), .val (.int (own_b x0)), .val (.int (own_b x1)), .val (.ref b153), .val (.ref b159), .val (.ref b167), .val (.ref b186), .val (.ref b207), .val (.ref b231), .unset, .unset, .unset, .unset] [(.ref b186), (.ref b260), (.ref b260)])) rfl (by rw [hml]; rfl) (Steps.refl _) (a := b260) (argsL := [(.ref b186)]) (rest := [(.ref b260)]) (lenOf own_pd4 rfl) rfl (by show 2 * 0 + _ ≤ _; exact Nat.le_of_eq rfl) (hb hby at_114) (fun _ _ => ⟨rfl, e260, (by decide : 17 + 2 ≤ _), (by decide : 213 + 60 ≤ _)⟩)
  dsimp only [Pt.U, Pt.locs, Pt.cells, Pt.slots] at X279 l279 y279 z279 st279 hQ279 hSn hgr
  subst l279 y279 z279
  obtain ⟨rfl, Nq279, K279, G_280⟩ := hQ279
  have hS := foldS (s := s) hS (by rw [e260]; exact hk_277) hSn hgr
  have hZ := State.Warmed39.trans (t := (s.setVm T248.vm)) hZ hSn.1
  have hown : (s.setVm T279.vm).vm.findClass "com/example/ptah/ptah/model/BooleanNodeEqualsPinLaw" = some m.cls := by rw [show (s.setVm T279.vm).vm = T279.vm from rfl, hSn.1.alike.findClass]; exact hown
  have X_281 := X_268.keep K279
  have X_282 := X_269.keep K279
  have X_283 := X_270.keep K279
  have X_284 := X_271.keep K279
  have X_285 := X_272.keep K279
  have F_286 := F_273.keep K279 (ninS ne_265 nin0)
  have X_287 := X_274.keep K279
  have F_288 := F_275.keep K279 (ninS ne_266 nin0)
  have X_289 := A260.keep K279
  have Z_290 : n0 ≤ T279.heap.size := Nat.le_trans Z_276 K279.1
  have hk_291 := Nat.le_trans hk_277 K279.1
  have hk279 : T279.heap.size ≤ T279.heap.size := Nat.le_refl _
  have N_279 := Fr.app N_248 Nq279
  have X279 : Stand p l e _ (s.setVm T279.vm) m _ below meth c T279 _ _ _ := X279
  refine own_go (fun _ k => st279.trans k) ?_
  show own_G p.tables e below _ (T279.setTop (mkF m 117 #[.val (.int x0), .val (.int x1), .val (.int x2), .val (.int x3), .val (.int x4), .val (.int x5), .val (.int (own_b x0)), .val (.int (own_b x1)), .val (.ref b153), .val (.ref b159), .val (.ref b167), .val (.ref b186), .val (.ref b207), .val (.ref b231), .unset, .unset, .unset, .unset] [(.ref b260)]))
  refine own_go (fun _ k => XS.astore X279.here hx rfl (hb hby at_117) rfl rfl (l' := #[.val (.int x0), .val (.int x1), .val (.int x2), .val (.int x3), .val (.int x4), .val (.int x5), .val (.int (own_b x0)), .val (.int (own_b x1)), .val (.ref b153), .val (.ref b159), .val (.ref b167), .val (.ref b186), .val (.ref b207), .val (.ref b231), .val (.ref b260), .unset, .unset, .unset]) rfl k) ?_
  show own_G p.tables e below _ (T279.setTop (mkF m 119 #[.val (.int x0), .val (.int x1), .val (.int x2), .val (.int x3), .val (.int x4), .val (.int x5), .val (.int (own_b x0)), .val (.int (own_b x1)), .val (.ref b153), .val (.ref b159), .val (.ref b167), .val (.ref b186), .val (.ref b207), .val (.ref b231), .val (.ref b260), .unset, .unset, .unset] []))
  refine own_go (fun _ k => XS.iload X279.here hx rfl (hb hby at_119) rfl k) ?_
  show own_G p.tables e below _ (T279.setTop (mkF m 121 #[.val (.int x0), .val (.int x1), .val (.int x2), .val (.int x3), .val (.int x4), .val (.int x5), .val (.int (own_b x0)), .val (.int (own_b x1)), .val (.ref b153), .val (.ref b159), .val (.ref b167), .val (.ref b186), .val (.ref b207), .val (.ref b231), .val (.ref b260), .unset, .unset, .unset] [(.int x5)]))
  refine own_go (fun _ k => XS.bipush X279.here hx rfl (hb hby at_121) k) ?_
  show own_G p.tables e below _ (T279.setTop (mkF m 123 #[.val (.int x0), .val (.int x1), .val (.int x2), .val (.int x3), .val (.int x4), .val (.int x5), .val (.int (own_b x0)), .val (.int (own_b x1)), .val (.ref b153), .val (.ref b159), .val (.ref b167), .val (.ref b186), .val (.ref b207), .val (.ref b231), .val (.ref b260), .unset, .unset, .unset] [(.int (7 : Int32)), (.int x5)]))
  refine own_go (fun _ k => XS.iand X279.here hx rfl (hb hby at_123) rfl k) ?_
  show own_G p.tables e below _ (T279.setTop (mkF m 124 #[.val (.int x0), .val (.int x1), .val (.int x2), .val (.int x3), .val (.int x4), .val (.int x5), .val (.int (own_b x0)), .val (.int (own_b x1)), .val (.ref b153), .val (.ref b159), .val (.ref b167), .val (.ref b186), .val (.ref b207), .val (.ref b231), .val (.ref b260), .unset, .unset, .unset] [(.int (x5 &&& (7 : Int32)))]))
  refine own_go (fun _ k => XS.istore X279.here hx rfl (hb hby at_124) rfl (l' := #[.val (.int x0), .val (.int x1), .val (.int x2), .val (.int x3), .val (.int x4), .val (.int x5), .val (.int (own_b x0)), .val (.int (own_b x1)), .val (.ref b153), .val (.ref b159), .val (.ref b167), .val (.ref b186), .val (.ref b207), .val (.ref b231), .val (.ref b260), .val (.int (x5 &&& (7 : Int32))), .unset, .unset]) rfl k) ?_
  show own_G p.tables e below _ (T279.setTop (mkF m 126 #[.val (.int x0), .val (.int x1), .val (.int x2), .val (.int x3), .val (.int x4), .val (.int x5), .val (.int (own_b x0)), .val (.int (own_b x1)), .val (.ref b153), .val (.ref b159), .val (.ref b167), .val (.ref b186), .val (.ref b207), .val (.ref b231), .val (.ref b260), .val (.int (x5 &&& (7 : Int32))), .unset, .unset] []))
  refine own_go (fun _ k => XS.aload X279.here hx rfl (hb hby at_126) rfl rfl k) ?_
  show own_G p.tables e below _ (T279.setTop (mkF m 128 #[.val (.int x0), .val (.int x1), .val (.int x2), .val (.int x3), .val (.int x4), .val (.int x5), .val (.int (own_b x0)), .val (.int (own_b x1)), .val (.ref b153), .val (.ref b159), .val (.ref b167), .val (.ref b186), .val (.ref b207), .val (.ref b231), .val (.ref b260), .val (.int (x5 &&& (7 : Int32))), .unset, .unset] [(.ref b231)]))
  refine own_go (fun _ k => XS.astore X279.here hx rfl (hb hby at_128) rfl rfl (l' := #[.val (.int x0), .val (.int x1), .val (.int x2), .val (.int x3), .val (.int x4), .val (.int x5), .val (.int (own_b x0)), .val (.int (own_b x1)), .val (.ref b153), .val (.ref b159), .val (.ref b167), .val (.ref b186), .val (.ref b207), .val (.ref b231), .val (.ref b260), .val (.int (x5 &&& (7 : Int32))), .val (.ref b231), .unset]) rfl k) ?_
  show own_G p.tables e below _ (T279.setTop (mkF m 130 #[.val (.int x0), .val (.int x1), .val (.int x2), .val (.int x3), .val (.int x4), .val (.int x5), .val (.int (own_b x0)), .val (.int (own_b x1)), .val (.ref b153), .val (.ref b159), .val (.ref b167), .val (.ref b186), .val (.ref b207), .val (.ref b231), .val (.ref b260), .val (.int (x5 &&& (7 : Int32))), .val (.ref b231), .unset] []))
  refine own_go (fun _ k => XS.iload X279.here hx rfl (hb hby at_130) rfl k) ?_
  show own_G p.tables e below _ (T279.setTop (mkF m 132 #[.val (.int x0), .val (.int x1), .val (.int x2), .val (.int x3), .val (.int x4), .val (.int x5), .val (.int (own_b x0)), .val (.int (own_b x1)), .val (.ref b153), .val (.ref b159), .val (.ref b167), .val (.ref b186), .val (.ref b207), .val (.ref b231), .val (.ref b260), .val (.int (x5 &&& (7 : Int32))), .val (.ref b231), .unset] [(.int (x5 &&& (7 : Int32)))]))
  refine own_go (fun _ k => XS.iconst X279.here hx rfl (hb hby at_132) k) ?_
  show own_G p.tables e below _ (T279.setTop (mkF m 133 #[.val (.int x0), .val (.int x1), .val (.int x2), .val (.int x3), .val (.int x4), .val (.int x5), .val (.int (own_b x0)), .val (.int (own_b x1)), .val (.ref b153), .val (.ref b159), .val (.ref b167), .val (.ref b186), .val (.ref b207), .val (.ref b231), .val (.ref b260), .val (.int (x5 &&& (7 : Int32))), .val (.ref b231), .unset] [(.int (4 : Int32)), (.int (x5 &&& (7 : Int32)))]))
  by_cases hc133_292 : (x5 &&& (7 : Int32)) = (4 : Int32)
  · refine own_go (fun _ k => XS.icmpNo X279.here hx rfl (hb hby at_133) rfl ((teq hc133_292).2) k) ?_
    show own_G p.tables e below _ (T279.setTop (mkF m 136 #[.val (.int x0), .val (.int x1), .val (.int x2), .val (.int x3), .val (.int x4), .val (.int x5), .val (.int (own_b x0)), .val (.int (own_b x1)), .val (.ref b153), .val (.ref b159), .val (.ref b167), .val (.ref b186), .val (.ref b207), .val (.ref b231), .val (.ref b260), .val (.int (x5 &&& (7 : Int32))), .val (.ref b231), .unset] []))
    refine own_go (fun _ k => XS.aload X279.here hx rfl (hb hby at_136) rfl rfl k) ?_
    show own_G p.tables e below _ (T279.setTop (mkF m 138 #[.val (.int x0), .val (.int x1), .val (.int x2), .val (.int x3), .val (.int x4), .val (.int x5), .val (.int (own_b x0)), .val (.int (own_b x1)), .val (.ref b153), .val (.ref b159), .val (.ref b167), .val (.ref b186), .val (.ref b207), .val (.ref b231), .val (.ref b260), .val (.int (x5 &&& (7 : Int32))), .val (.ref b231), .unset] [(.ref b207)]))
    refine own_go (fun _ k => XS.astore X279.here hx rfl (hb hby at_138) rfl rfl (l' := #[.val (.int x0), .val (.int x1), .val (.int x2), .val (.int x3), .val (.int x4), .val (.int x5), .val (.int (own_b x0)), .val (.int (own_b x1)), .val (.ref b153), .val (.ref b159), .val (.ref b167), .val (.ref b186), .val (.ref b207), .val (.ref b231), .val (.ref b260), .val (.int (x5 &&& (7 : Int32))), .val (.ref b207), .unset]) rfl k) ?_
    show own_G p.tables e below _ (T279.setTop (mkF m 140 #[.val (.int x0), .val (.int x1), .val (.int x2), .val (.int x3), .val (.int x4), .val (.int x5), .val (.int (own_b x0)), .val (.int (own_b x1)), .val (.ref b153), .val (.ref b159), .val (.ref b167), .val (.ref b186), .val (.ref b207), .val (.ref b231), .val (.ref b260), .val (.int (x5 &&& (7 : Int32))), .val (.ref b207), .unset] []))
    refine own_go (fun _ k => XS.goto X279.here hx rfl (pc0 := 140) (pc' := 180) rfl (hb hby at_140) (by decide) (by decide) k) ?_
    show own_G p.tables e below _ (T279.setTop (mkF m 180 #[.val (.int x0), .val (.int x1), .val (.int x2), .val (.int x3), .val (.int x4), .val (.int x5), .val (.int (own_b x0)), .val (.int (own_b x1)), .val (.ref b153), .val (.ref b159), .val (.ref b167), .val (.ref b186), .val (.ref b207), .val (.ref b231), .val (.ref b260), .val (.int (x5 &&& (7 : Int32))), .val (.ref b207), .unset] []))
    refine own_go (fun _ k => XS.iload X279.here hx rfl (hb hby at_180) rfl k) ?_
    show own_G p.tables e below _ (T279.setTop (mkF m 182 #[.val (.int x0), .val (.int x1), .val (.int x2), .val (.int x3), .val (.int x4), .val (.int x5), .val (.int (own_b x0)), .val (.int (own_b x1)), .val (.ref b153), .val (.ref b159), .val (.ref b167), .val (.ref b186), .val (.ref b207), .val (.ref b231), .val (.ref b260), .val (.int (x5 &&& (7 : Int32))), .val (.ref b207), .unset] [(.int (x5 &&& (7 : Int32)))]))
    refine own_go (fun _ k => XS.iconst X279.here hx rfl (hb hby at_182) k) ?_
    show own_G p.tables e below _ (T279.setTop (mkF m 183 #[.val (.int x0), .val (.int x1), .val (.int x2), .val (.int x3), .val (.int x4), .val (.int x5), .val (.int (own_b x0)), .val (.int (own_b x1)), .val (.ref b153), .val (.ref b159), .val (.ref b167), .val (.ref b186), .val (.ref b207), .val (.ref b231), .val (.ref b260), .val (.int (x5 &&& (7 : Int32))), .val (.ref b207), .unset] [(.int (3 : Int32)), (.int (x5 &&& (7 : Int32)))]))
    by_cases hc183_293 : (3 : Int32) < (x5 &&& (7 : Int32))
    · refine own_go (fun _ k => XS.icmpYes X279.here hx rfl (pc0 := 183) (pc' := 203) rfl (hb hby at_183) rfl ((tlt hc183_293).2.2.1) (by decide) (by decide) k) ?_
      show own_G p.tables e below _ (T279.setTop (mkF m 203 #[.val (.int x0), .val (.int x1), .val (.int x2), .val (.int x3), .val (.int x4), .val (.int x5), .val (.int (own_b x0)), .val (.int (own_b x1)), .val (.ref b153), .val (.ref b159), .val (.ref b167), .val (.ref b186), .val (.ref b207), .val (.ref b231), .val (.ref b260), .val (.int (x5 &&& (7 : Int32))), .val (.ref b207), .unset] []))
      refine own_go (fun _ k => XS.iload X279.here hx rfl (hb hby at_203) rfl k) ?_
      show own_G p.tables e below _ (T279.setTop (mkF m 205 #[.val (.int x0), .val (.int x1), .val (.int x2), .val (.int x3), .val (.int x4), .val (.int x5), .val (.int (own_b x0)), .val (.int (own_b x1)), .val (.ref b153), .val (.ref b159), .val (.ref b167), .val (.ref b186), .val (.ref b207), .val (.ref b231), .val (.ref b260), .val (.int (x5 &&& (7 : Int32))), .val (.ref b207), .unset] [(.int (x5 &&& (7 : Int32)))]))
      refine own_go (fun _ k => XS.iconst X279.here hx rfl (hb hby at_205) k) ?_
      show own_G p.tables e below _ (T279.setTop (mkF m 206 #[.val (.int x0), .val (.int x1), .val (.int x2), .val (.int x3), .val (.int x4), .val (.int x5), .val (.int (own_b x0)), .val (.int (own_b x1)), .val (.ref b153), .val (.ref b159), .val (.ref b167), .val (.ref b186), .val (.ref b207), .val (.ref b231), .val (.ref b260), .val (.int (x5 &&& (7 : Int32))), .val (.ref b207), .unset] [(.int (4 : Int32)), (.int (x5 &&& (7 : Int32)))]))
      refine own_go (fun _ k => XS.icmpNo X279.here hx rfl (hb hby at_206) rfl ((teq hc133_292).2) k) ?_
      show own_G p.tables e below _ (T279.setTop (mkF m 209 #[.val (.int x0), .val (.int x1), .val (.int x2), .val (.int x3), .val (.int x4), .val (.int x5), .val (.int (own_b x0)), .val (.int (own_b x1)), .val (.ref b153), .val (.ref b159), .val (.ref b167), .val (.ref b186), .val (.ref b207), .val (.ref b231), .val (.ref b260), .val (.int (x5 &&& (7 : Int32))), .val (.ref b207), .unset] []))
      refine own_go (fun _ k => XS.iconst X279.here hx rfl (hb hby at_209) k) ?_
      show own_G p.tables e below _ (T279.setTop (mkF m 210 #[.val (.int x0), .val (.int x1), .val (.int x2), .val (.int x3), .val (.int x4), .val (.int x5), .val (.int (own_b x0)), .val (.int (own_b x1)), .val (.ref b153), .val (.ref b159), .val (.ref b167), .val (.ref b186), .val (.ref b207), .val (.ref b231), .val (.ref b260), .val (.int (x5 &&& (7 : Int32))), .val (.ref b207), .unset] [(.int (1 : Int32))]))
      refine own_go (fun _ k => XS.istore X279.here hx rfl (hb hby at_210) rfl (l' := #[.val (.int x0), .val (.int x1), .val (.int x2), .val (.int x3), .val (.int x4), .val (.int x5), .val (.int (own_b x0)), .val (.int (own_b x1)), .val (.ref b153), .val (.ref b159), .val (.ref b167), .val (.ref b186), .val (.ref b207), .val (.ref b231), .val (.ref b260), .val (.int (x5 &&& (7 : Int32))), .val (.ref b207), .val (.int (1 : Int32))]) rfl k) ?_
      show own_G p.tables e below _ (T279.setTop (mkF m 212 #[.val (.int x0), .val (.int x1), .val (.int x2), .val (.int x3), .val (.int x4), .val (.int x5), .val (.int (own_b x0)), .val (.int (own_b x1)), .val (.ref b153), .val (.ref b159), .val (.ref b167), .val (.ref b186), .val (.ref b207), .val (.ref b231), .val (.ref b260), .val (.int (x5 &&& (7 : Int32))), .val (.ref b207), .val (.int (1 : Int32))] []))
      refine own_go (fun _ k => XS.goto X279.here hx rfl (pc0 := 212) (pc' := 218) rfl (hb hby at_212) (by decide) (by decide) k) ?_
      show own_G p.tables e below _ (T279.setTop (mkF m 218 #[.val (.int x0), .val (.int x1), .val (.int x2), .val (.int x3), .val (.int x4), .val (.int x5), .val (.int (own_b x0)), .val (.int (own_b x1)), .val (.ref b153), .val (.ref b159), .val (.ref b167), .val (.ref b186), .val (.ref b207), .val (.ref b231), .val (.ref b260), .val (.int (x5 &&& (7 : Int32))), .val (.ref b207), .val (.int (1 : Int32))] []))
      refine own_go (fun _ k => XS.aload X279.here hx rfl (hb hby at_218) rfl rfl k) ?_
      show own_G p.tables e below _ (T279.setTop (mkF m 220 #[.val (.int x0), .val (.int x1), .val (.int x2), .val (.int x3), .val (.int x4), .val (.int x5), .val (.int (own_b x0)), .val (.int (own_b x1)), .val (.ref b153), .val (.ref b159), .val (.ref b167), .val (.ref b186), .val (.ref b207), .val (.ref b231), .val (.ref b260), .val (.int (x5 &&& (7 : Int32))), .val (.ref b207), .val (.int (1 : Int32))] [(.ref b207)]))
      refine own_go (fun _ k => XS.aload X279.here hx rfl (hb hby at_220) rfl rfl k) ?_
      show own_G p.tables e below _ (T279.setTop (mkF m 222 #[.val (.int x0), .val (.int x1), .val (.int x2), .val (.int x3), .val (.int x4), .val (.int x5), .val (.int (own_b x0)), .val (.int (own_b x1)), .val (.ref b153), .val (.ref b159), .val (.ref b167), .val (.ref b186), .val (.ref b207), .val (.ref b231), .val (.ref b260), .val (.int (x5 &&& (7 : Int32))), .val (.ref b207), .val (.int (1 : Int32))] [(.ref b207), (.ref b207)]))
      obtain ⟨T294, X294, e294, st294⟩ := own_callV X279 hx hZ (y := (⟨"com/example/ptah/ptah/model/BooleanNode", "equals", "(Ljava/lang/Object;)Z"⟩ : MethodName)) hown (hw _ (List.mem_of_getElem? (i := 75) rfl)) (hw _ (List.mem_of_getElem? (i := 76) rfl)) (hw _ (List.mem_of_getElem? (i := 78) rfl)) (hw _ (List.mem_of_getElem? (i := 77) rfl)) (hw _ (List.mem_of_getElem? (i := 49) rfl)) (hw _ (List.mem_of_getElem? (i := 79) rfl)) (by decide) (W := 0) (rm_eqa l Z a0 hw [] b207 b207 (nar .boolean (own_b x0)) (nar .boolean (own_b x0)) T279.heap F_286 F_286 X_285) (by decide) (by decide) rfl rfl rfl X_285 (g := (mkF m 222 #[.val (.int x0), .val (.int x1), .val (.int x2), .val (.int x3), .val (.int x4), .val (.int x5), .val (.int (own_b x0)), .val (.int (own_b x1)), .val (.ref b153), .val (.ref b159), .val (.ref b167), .val (.ref b186), .val (.ref b207), .val (.ref b231), .val (.ref b260), .val (.int (x5 &&& (7 : Int32))), .val (.ref b207), .val (.int (1 : Int32))] [(.ref b207), (.ref b207)])) rfl (by rw [hml]; rfl) (argsL := [(.ref b207)]) (rest := []) (lenOf own_pd8 rfl) rfl rfl (by show 2 * 0 + _ ≤ _; exact Nat.le_of_eq rfl) (hb hby at_222) (by decide) (by decide)
      refine own_go st294 ?_
      show own_G p.tables e below _ (T294.setTop (mkF m 225 #[.val (.int x0), .val (.int x1), .val (.int x2), .val (.int x3), .val (.int x4), .val (.int x5), .val (.int (own_b x0)), .val (.int (own_b x1)), .val (.ref b153), .val (.ref b159), .val (.ref b167), .val (.ref b186), .val (.ref b207), .val (.ref b231), .val (.ref b260), .val (.int (x5 &&& (7 : Int32))), .val (.ref b207), .val (.int (1 : Int32))] [(.int (Feqa (nar .boolean (own_b x0)) (nar .boolean (own_b x0))))]))
      refine own_go (fun _ k => XS.iload X294.here hx rfl (hb hby at_225) rfl k) ?_
      show own_G p.tables e below _ (T294.setTop (mkF m 227 #[.val (.int x0), .val (.int x1), .val (.int x2), .val (.int x3), .val (.int x4), .val (.int x5), .val (.int (own_b x0)), .val (.int (own_b x1)), .val (.ref b153), .val (.ref b159), .val (.ref b167), .val (.ref b186), .val (.ref b207), .val (.ref b231), .val (.ref b260), .val (.int (x5 &&& (7 : Int32))), .val (.ref b207), .val (.int (1 : Int32))] [(.int (1 : Int32)), (.int (Feqa (nar .boolean (own_b x0)) (nar .boolean (own_b x0))))]))
      by_cases hc227_295 : (Feqa (nar .boolean (own_b x0)) (nar .boolean (own_b x0))) = (1 : Int32)
      · refine own_go (fun _ k => XS.icmpNo X294.here hx rfl (hb hby at_227) rfl ((teq hc227_295).2) k) ?_
        show own_G p.tables e below _ (T294.setTop (mkF m 230 #[.val (.int x0), .val (.int x1), .val (.int x2), .val (.int x3), .val (.int x4), .val (.int x5), .val (.int (own_b x0)), .val (.int (own_b x1)), .val (.ref b153), .val (.ref b159), .val (.ref b167), .val (.ref b186), .val (.ref b207), .val (.ref b231), .val (.ref b260), .val (.int (x5 &&& (7 : Int32))), .val (.ref b207), .val (.int (1 : Int32))] []))
        refine own_go (fun _ k => XS.iconst X294.here hx rfl (hb hby at_230) k) ?_
        show own_G p.tables e below _ (T294.setTop (mkF m 231 #[.val (.int x0), .val (.int x1), .val (.int x2), .val (.int x3), .val (.int x4), .val (.int x5), .val (.int (own_b x0)), .val (.int (own_b x1)), .val (.ref b153), .val (.ref b159), .val (.ref b167), .val (.ref b186), .val (.ref b207), .val (.ref b231), .val (.ref b260), .val (.int (x5 &&& (7 : Int32))), .val (.ref b207), .val (.int (1 : Int32))] [(.int (1 : Int32))]))
        refine own_go (fun _ k => XS.goto X294.here hx rfl (pc0 := 231) (pc' := 235) rfl (hb hby at_231) (by decide) (by decide) k) ?_
        show own_G p.tables e below _ (T294.setTop (mkF m 235 #[.val (.int x0), .val (.int x1), .val (.int x2), .val (.int x3), .val (.int x4), .val (.int x5), .val (.int (own_b x0)), .val (.int (own_b x1)), .val (.ref b153), .val (.ref b159), .val (.ref b167), .val (.ref b186), .val (.ref b207), .val (.ref b231), .val (.ref b260), .val (.int (x5 &&& (7 : Int32))), .val (.ref b207), .val (.int (1 : Int32))] [(.int (1 : Int32))]))
        exact own_endW X294 Bd.notSynchronized hS (by rw [e294]; exact hk279) (v := some (.int (nar .boolean (1 : Int32)))) (fun h => by rw [Bd.returns] at h; cases h) (Q := QL (some (.int (F0 x0 x1 x2 x3 x4 x5))) n0) ⟨by unfold F0; simp only [if_pos hc133_292, if_pos hc183_293, if_pos hc227_295]; try rfl, N_279⟩ (fun fs hr => retN X294 hx (t := .boolean) Bd.returns (by simp) (hb hby at_235) hr) (by decide) (by decide)
      · refine own_go (fun _ k => XS.icmpYes X294.here hx rfl (pc0 := 227) (pc' := 234) rfl (hb hby at_227) rfl ((feq hc227_295).2) (by decide) (by decide) k) ?_
        show own_G p.tables e below _ (T294.setTop (mkF m 234 #[.val (.int x0), .val (.int x1), .val (.int x2), .val (.int x3), .val (.int x4), .val (.int x5), .val (.int (own_b x0)), .val (.int (own_b x1)), .val (.ref b153), .val (.ref b159), .val (.ref b167), .val (.ref b186), .val (.ref b207), .val (.ref b231), .val (.ref b260), .val (.int (x5 &&& (7 : Int32))), .val (.ref b207), .val (.int (1 : Int32))] []))
        refine own_go (fun _ k => XS.iconst X294.here hx rfl (hb hby at_234) k) ?_
        show own_G p.tables e below _ (T294.setTop (mkF m 235 #[.val (.int x0), .val (.int x1), .val (.int x2), .val (.int x3), .val (.int x4), .val (.int x5), .val (.int (own_b x0)), .val (.int (own_b x1)), .val (.ref b153), .val (.ref b159), .val (.ref b167), .val (.ref b186), .val (.ref b207), .val (.ref b231), .val (.ref b260), .val (.int (x5 &&& (7 : Int32))), .val (.ref b207), .val (.int (1 : Int32))] [(.int (0 : Int32))]))
        exact own_endW X294 Bd.notSynchronized hS (by rw [e294]; exact hk279) (v := some (.int (nar .boolean (0 : Int32)))) (fun h => by rw [Bd.returns] at h; cases h) (Q := QL (some (.int (F0 x0 x1 x2 x3 x4 x5))) n0) ⟨by unfold F0; simp only [if_pos hc133_292, if_pos hc183_293, if_neg hc227_295]; try rfl, N_279⟩ (fun fs hr => retN X294 hx (t := .boolean) Bd.returns (by simp) (hb hby at_235) hr) (by decide) (by decide)
    · refine own_go (fun _ k => XS.icmpNo X279.here hx rfl (hb hby at_183) rfl ((flt hc183_293).2.2.1) k) ?_
      show own_G p.tables e below _ (T279.setTop (mkF m 186 #[.val (.int x0), .val (.int x1), .val (.int x2), .val (.int x3), .val (.int x4), .val (.int x5), .val (.int (own_b x0)), .val (.int (own_b x1)), .val (.ref b153), .val (.ref b159), .val (.ref b167), .val (.ref b186), .val (.ref b207), .val (.ref b231), .val (.ref b260), .val (.int (x5 &&& (7 : Int32))), .val (.ref b207), .unset] []))
      refine own_go (fun _ k => XS.iload X279.here hx rfl (hb hby at_186) rfl k) ?_
      show own_G p.tables e below _ (T279.setTop (mkF m 188 #[.val (.int x0), .val (.int x1), .val (.int x2), .val (.int x3), .val (.int x4), .val (.int x5), .val (.int (own_b x0)), .val (.int (own_b x1)), .val (.ref b153), .val (.ref b159), .val (.ref b167), .val (.ref b186), .val (.ref b207), .val (.ref b231), .val (.ref b260), .val (.int (x5 &&& (7 : Int32))), .val (.ref b207), .unset] [(.int (own_b x0))]))
      refine own_go (fun _ k => XS.iload X279.here hx rfl (hb hby at_188) rfl k) ?_
      show own_G p.tables e below _ (T279.setTop (mkF m 190 #[.val (.int x0), .val (.int x1), .val (.int x2), .val (.int x3), .val (.int x4), .val (.int x5), .val (.int (own_b x0)), .val (.int (own_b x1)), .val (.ref b153), .val (.ref b159), .val (.ref b167), .val (.ref b186), .val (.ref b207), .val (.ref b231), .val (.ref b260), .val (.int (x5 &&& (7 : Int32))), .val (.ref b207), .unset] [(.int (own_b x1)), (.int (own_b x0))]))
      by_cases hc190_296 : (own_b x0) = (own_b x1)
      · refine own_go (fun _ k => XS.icmpNo X279.here hx rfl (hb hby at_190) rfl ((teq hc190_296).2) k) ?_
        show own_G p.tables e below _ (T279.setTop (mkF m 193 #[.val (.int x0), .val (.int x1), .val (.int x2), .val (.int x3), .val (.int x4), .val (.int x5), .val (.int (own_b x0)), .val (.int (own_b x1)), .val (.ref b153), .val (.ref b159), .val (.ref b167), .val (.ref b186), .val (.ref b207), .val (.ref b231), .val (.ref b260), .val (.int (x5 &&& (7 : Int32))), .val (.ref b207), .unset] []))
        refine own_go (fun _ k => XS.iconst X279.here hx rfl (hb hby at_193) k) ?_
        show own_G p.tables e below _ (T279.setTop (mkF m 194 #[.val (.int x0), .val (.int x1), .val (.int x2), .val (.int x3), .val (.int x4), .val (.int x5), .val (.int (own_b x0)), .val (.int (own_b x1)), .val (.ref b153), .val (.ref b159), .val (.ref b167), .val (.ref b186), .val (.ref b207), .val (.ref b231), .val (.ref b260), .val (.int (x5 &&& (7 : Int32))), .val (.ref b207), .unset] [(.int (1 : Int32))]))
        refine own_go (fun _ k => XS.goto X279.here hx rfl (pc0 := 194) (pc' := 198) rfl (hb hby at_194) (by decide) (by decide) k) ?_
        show own_G p.tables e below _ (T279.setTop (mkF m 198 #[.val (.int x0), .val (.int x1), .val (.int x2), .val (.int x3), .val (.int x4), .val (.int x5), .val (.int (own_b x0)), .val (.int (own_b x1)), .val (.ref b153), .val (.ref b159), .val (.ref b167), .val (.ref b186), .val (.ref b207), .val (.ref b231), .val (.ref b260), .val (.int (x5 &&& (7 : Int32))), .val (.ref b207), .unset] [(.int (1 : Int32))]))
        refine own_go (fun _ k => XS.istore X279.here hx rfl (hb hby at_198) rfl (l' := #[.val (.int x0), .val (.int x1), .val (.int x2), .val (.int x3), .val (.int x4), .val (.int x5), .val (.int (own_b x0)), .val (.int (own_b x1)), .val (.ref b153), .val (.ref b159), .val (.ref b167), .val (.ref b186), .val (.ref b207), .val (.ref b231), .val (.ref b260), .val (.int (x5 &&& (7 : Int32))), .val (.ref b207), .val (.int (1 : Int32))]) rfl k) ?_
        show own_G p.tables e below _ (T279.setTop (mkF m 200 #[.val (.int x0), .val (.int x1), .val (.int x2), .val (.int x3), .val (.int x4), .val (.int x5), .val (.int (own_b x0)), .val (.int (own_b x1)), .val (.ref b153), .val (.ref b159), .val (.ref b167), .val (.ref b186), .val (.ref b207), .val (.ref b231), .val (.ref b260), .val (.int (x5 &&& (7 : Int32))), .val (.ref b207), .val (.int (1 : Int32))] []))
        refine own_go (fun _ k => XS.goto X279.here hx rfl (pc0 := 200) (pc' := 218) rfl (hb hby at_200) (by decide) (by decide) k) ?_
        show own_G p.tables e below _ (T279.setTop (mkF m 218 #[.val (.int x0), .val (.int x1), .val (.int x2), .val (.int x3), .val (.int x4), .val (.int x5), .val (.int (own_b x0)), .val (.int (own_b x1)), .val (.ref b153), .val (.ref b159), .val (.ref b167), .val (.ref b186), .val (.ref b207), .val (.ref b231), .val (.ref b260), .val (.int (x5 &&& (7 : Int32))), .val (.ref b207), .val (.int (1 : Int32))] []))
        refine own_go (fun _ k => XS.aload X279.here hx rfl (hb hby at_218) rfl rfl k) ?_
        show own_G p.tables e below _ (T279.setTop (mkF m 220 #[.val (.int x0), .val (.int x1), .val (.int x2), .val (.int x3), .val (.int x4), .val (.int x5), .val (.int (own_b x0)), .val (.int (own_b x1)), .val (.ref b153), .val (.ref b159), .val (.ref b167), .val (.ref b186), .val (.ref b207), .val (.ref b231), .val (.ref b260), .val (.int (x5 &&& (7 : Int32))), .val (.ref b207), .val (.int (1 : Int32))] [(.ref b207)]))
        refine own_go (fun _ k => XS.aload X279.here hx rfl (hb hby at_220) rfl rfl k) ?_
        show own_G p.tables e below _ (T279.setTop (mkF m 222 #[.val (.int x0), .val (.int x1), .val (.int x2), .val (.int x3), .val (.int x4), .val (.int x5), .val (.int (own_b x0)), .val (.int (own_b x1)), .val (.ref b153), .val (.ref b159), .val (.ref b167), .val (.ref b186), .val (.ref b207), .val (.ref b231), .val (.ref b260), .val (.int (x5 &&& (7 : Int32))), .val (.ref b207), .val (.int (1 : Int32))] [(.ref b207), (.ref b207)]))
        obtain ⟨T297, X297, e297, st297⟩ := own_callV X279 hx hZ (y := (⟨"com/example/ptah/ptah/model/BooleanNode", "equals", "(Ljava/lang/Object;)Z"⟩ : MethodName)) hown (hw _ (List.mem_of_getElem? (i := 75) rfl)) (hw _ (List.mem_of_getElem? (i := 76) rfl)) (hw _ (List.mem_of_getElem? (i := 78) rfl)) (hw _ (List.mem_of_getElem? (i := 77) rfl)) (hw _ (List.mem_of_getElem? (i := 49) rfl)) (hw _ (List.mem_of_getElem? (i := 79) rfl)) (by decide) (W := 0) (rm_eqa l Z a0 hw [] b207 b207 (nar .boolean (own_b x0)) (nar .boolean (own_b x0)) T279.heap F_286 F_286 X_285) (by decide) (by decide) rfl rfl rfl X_285 (g := (mkF m 222 #[.val (.int x0), .val (.int x1), .val (.int x2), .val (.int x3), .val (.int x4), .val (.int x5), .val (.int (own_b x0)), .val (.int (own_b x1)), .val (.ref b153), .val (.ref b159), .val (.ref b167), .val (.ref b186), .val (.ref b207), .val (.ref b231), .val (.ref b260), .val (.int (x5 &&& (7 : Int32))), .val (.ref b207), .val (.int (1 : Int32))] [(.ref b207), (.ref b207)])) rfl (by rw [hml]; rfl) (argsL := [(.ref b207)]) (rest := []) (lenOf own_pd8 rfl) rfl rfl (by show 2 * 0 + _ ≤ _; exact Nat.le_of_eq rfl) (hb hby at_222) (by decide) (by decide)
        refine own_go st297 ?_
        show own_G p.tables e below _ (T297.setTop (mkF m 225 #[.val (.int x0), .val (.int x1), .val (.int x2), .val (.int x3), .val (.int x4), .val (.int x5), .val (.int (own_b x0)), .val (.int (own_b x1)), .val (.ref b153), .val (.ref b159), .val (.ref b167), .val (.ref b186), .val (.ref b207), .val (.ref b231), .val (.ref b260), .val (.int (x5 &&& (7 : Int32))), .val (.ref b207), .val (.int (1 : Int32))] [(.int (Feqa (nar .boolean (own_b x0)) (nar .boolean (own_b x0))))]))
        refine own_go (fun _ k => XS.iload X297.here hx rfl (hb hby at_225) rfl k) ?_
        show own_G p.tables e below _ (T297.setTop (mkF m 227 #[.val (.int x0), .val (.int x1), .val (.int x2), .val (.int x3), .val (.int x4), .val (.int x5), .val (.int (own_b x0)), .val (.int (own_b x1)), .val (.ref b153), .val (.ref b159), .val (.ref b167), .val (.ref b186), .val (.ref b207), .val (.ref b231), .val (.ref b260), .val (.int (x5 &&& (7 : Int32))), .val (.ref b207), .val (.int (1 : Int32))] [(.int (1 : Int32)), (.int (Feqa (nar .boolean (own_b x0)) (nar .boolean (own_b x0))))]))
        by_cases hc227_298 : (Feqa (nar .boolean (own_b x0)) (nar .boolean (own_b x0))) = (1 : Int32)
        · refine own_go (fun _ k => XS.icmpNo X297.here hx rfl (hb hby at_227) rfl ((teq hc227_298).2) k) ?_
          show own_G p.tables e below _ (T297.setTop (mkF m 230 #[.val (.int x0), .val (.int x1), .val (.int x2), .val (.int x3), .val (.int x4), .val (.int x5), .val (.int (own_b x0)), .val (.int (own_b x1)), .val (.ref b153), .val (.ref b159), .val (.ref b167), .val (.ref b186), .val (.ref b207), .val (.ref b231), .val (.ref b260), .val (.int (x5 &&& (7 : Int32))), .val (.ref b207), .val (.int (1 : Int32))] []))
          refine own_go (fun _ k => XS.iconst X297.here hx rfl (hb hby at_230) k) ?_
          show own_G p.tables e below _ (T297.setTop (mkF m 231 #[.val (.int x0), .val (.int x1), .val (.int x2), .val (.int x3), .val (.int x4), .val (.int x5), .val (.int (own_b x0)), .val (.int (own_b x1)), .val (.ref b153), .val (.ref b159), .val (.ref b167), .val (.ref b186), .val (.ref b207), .val (.ref b231), .val (.ref b260), .val (.int (x5 &&& (7 : Int32))), .val (.ref b207), .val (.int (1 : Int32))] [(.int (1 : Int32))]))
          refine own_go (fun _ k => XS.goto X297.here hx rfl (pc0 := 231) (pc' := 235) rfl (hb hby at_231) (by decide) (by decide) k) ?_
          show own_G p.tables e below _ (T297.setTop (mkF m 235 #[.val (.int x0), .val (.int x1), .val (.int x2), .val (.int x3), .val (.int x4), .val (.int x5), .val (.int (own_b x0)), .val (.int (own_b x1)), .val (.ref b153), .val (.ref b159), .val (.ref b167), .val (.ref b186), .val (.ref b207), .val (.ref b231), .val (.ref b260), .val (.int (x5 &&& (7 : Int32))), .val (.ref b207), .val (.int (1 : Int32))] [(.int (1 : Int32))]))
          exact own_endW X297 Bd.notSynchronized hS (by rw [e297]; exact hk279) (v := some (.int (nar .boolean (1 : Int32)))) (fun h => by rw [Bd.returns] at h; cases h) (Q := QL (some (.int (F0 x0 x1 x2 x3 x4 x5))) n0) ⟨by unfold F0; simp only [if_pos hc133_292, if_neg hc183_293, if_pos hc190_296, if_pos hc227_298]; try rfl, N_279⟩ (fun fs hr => retN X297 hx (t := .boolean) Bd.returns (by simp) (hb hby at_235) hr) (by decide) (by decide)
        · refine own_go (fun _ k => XS.icmpYes X297.here hx rfl (pc0 := 227) (pc' := 234) rfl (hb hby at_227) rfl ((feq hc227_298).2) (by decide) (by decide) k) ?_
          show own_G p.tables e below _ (T297.setTop (mkF m 234 #[.val (.int x0), .val (.int x1), .val (.int x2), .val (.int x3), .val (.int x4), .val (.int x5), .val (.int (own_b x0)), .val (.int (own_b x1)), .val (.ref b153), .val (.ref b159), .val (.ref b167), .val (.ref b186), .val (.ref b207), .val (.ref b231), .val (.ref b260), .val (.int (x5 &&& (7 : Int32))), .val (.ref b207), .val (.int (1 : Int32))] []))
          refine own_go (fun _ k => XS.iconst X297.here hx rfl (hb hby at_234) k) ?_
          show own_G p.tables e below _ (T297.setTop (mkF m 235 #[.val (.int x0), .val (.int x1), .val (.int x2), .val (.int x3), .val (.int x4), .val (.int x5), .val (.int (own_b x0)), .val (.int (own_b x1)), .val (.ref b153), .val (.ref b159), .val (.ref b167), .val (.ref b186), .val (.ref b207), .val (.ref b231), .val (.ref b260), .val (.int (x5 &&& (7 : Int32))), .val (.ref b207), .val (.int (1 : Int32))] [(.int (0 : Int32))]))
          exact own_endW X297 Bd.notSynchronized hS (by rw [e297]; exact hk279) (v := some (.int (nar .boolean (0 : Int32)))) (fun h => by rw [Bd.returns] at h; cases h) (Q := QL (some (.int (F0 x0 x1 x2 x3 x4 x5))) n0) ⟨by unfold F0; simp only [if_pos hc133_292, if_neg hc183_293, if_pos hc190_296, if_neg hc227_298]; try rfl, N_279⟩ (fun fs hr => retN X297 hx (t := .boolean) Bd.returns (by simp) (hb hby at_235) hr) (by decide) (by decide)
      · refine own_go (fun _ k => XS.icmpYes X279.here hx rfl (pc0 := 190) (pc' := 197) rfl (hb hby at_190) rfl ((feq hc190_296).2) (by decide) (by decide) k) ?_
        show own_G p.tables e below _ (T279.setTop (mkF m 197 #[.val (.int x0), .val (.int x1), .val (.int x2), .val (.int x3), .val (.int x4), .val (.int x5), .val (.int (own_b x0)), .val (.int (own_b x1)), .val (.ref b153), .val (.ref b159), .val (.ref b167), .val (.ref b186), .val (.ref b207), .val (.ref b231), .val (.ref b260), .val (.int (x5 &&& (7 : Int32))), .val (.ref b207), .unset] []))
        refine own_go (fun _ k => XS.iconst X279.here hx rfl (hb hby at_197) k) ?_
        show own_G p.tables e below _ (T279.setTop (mkF m 198 #[.val (.int x0), .val (.int x1), .val (.int x2), .val (.int x3), .val (.int x4), .val (.int x5), .val (.int (own_b x0)), .val (.int (own_b x1)), .val (.ref b153), .val (.ref b159), .val (.ref b167), .val (.ref b186), .val (.ref b207), .val (.ref b231), .val (.ref b260), .val (.int (x5 &&& (7 : Int32))), .val (.ref b207), .unset] [(.int (0 : Int32))]))
        refine own_go (fun _ k => XS.istore X279.here hx rfl (hb hby at_198) rfl (l' := #[.val (.int x0), .val (.int x1), .val (.int x2), .val (.int x3), .val (.int x4), .val (.int x5), .val (.int (own_b x0)), .val (.int (own_b x1)), .val (.ref b153), .val (.ref b159), .val (.ref b167), .val (.ref b186), .val (.ref b207), .val (.ref b231), .val (.ref b260), .val (.int (x5 &&& (7 : Int32))), .val (.ref b207), .val (.int (0 : Int32))]) rfl k) ?_
        show own_G p.tables e below _ (T279.setTop (mkF m 200 #[.val (.int x0), .val (.int x1), .val (.int x2), .val (.int x3), .val (.int x4), .val (.int x5), .val (.int (own_b x0)), .val (.int (own_b x1)), .val (.ref b153), .val (.ref b159), .val (.ref b167), .val (.ref b186), .val (.ref b207), .val (.ref b231), .val (.ref b260), .val (.int (x5 &&& (7 : Int32))), .val (.ref b207), .val (.int (0 : Int32))] []))
        refine own_go (fun _ k => XS.goto X279.here hx rfl (pc0 := 200) (pc' := 218) rfl (hb hby at_200) (by decide) (by decide) k) ?_
        show own_G p.tables e below _ (T279.setTop (mkF m 218 #[.val (.int x0), .val (.int x1), .val (.int x2), .val (.int x3), .val (.int x4), .val (.int x5), .val (.int (own_b x0)), .val (.int (own_b x1)), .val (.ref b153), .val (.ref b159), .val (.ref b167), .val (.ref b186), .val (.ref b207), .val (.ref b231), .val (.ref b260), .val (.int (x5 &&& (7 : Int32))), .val (.ref b207), .val (.int (0 : Int32))] []))
        refine own_go (fun _ k => XS.aload X279.here hx rfl (hb hby at_218) rfl rfl k) ?_
        show own_G p.tables e below _ (T279.setTop (mkF m 220 #[.val (.int x0), .val (.int x1), .val (.int x2), .val (.int x3), .val (.int x4), .val (.int x5), .val (.int (own_b x0)), .val (.int (own_b x1)), .val (.ref b153), .val (.ref b159), .val (.ref b167), .val (.ref b186), .val (.ref b207), .val (.ref b231), .val (.ref b260), .val (.int (x5 &&& (7 : Int32))), .val (.ref b207), .val (.int (0 : Int32))] [(.ref b207)]))
        refine own_go (fun _ k => XS.aload X279.here hx rfl (hb hby at_220) rfl rfl k) ?_
        show own_G p.tables e below _ (T279.setTop (mkF m 222 #[.val (.int x0), .val (.int x1), .val (.int x2), .val (.int x3), .val (.int x4), .val (.int x5), .val (.int (own_b x0)), .val (.int (own_b x1)), .val (.ref b153), .val (.ref b159), .val (.ref b167), .val (.ref b186), .val (.ref b207), .val (.ref b231), .val (.ref b260), .val (.int (x5 &&& (7 : Int32))), .val (.ref b207), .val (.int (0 : Int32))] [(.ref b207), (.ref b207)]))
        obtain ⟨T299, X299, e299, st299⟩ := own_callV X279 hx hZ (y := (⟨"com/example/ptah/ptah/model/BooleanNode", "equals", "(Ljava/lang/Object;)Z"⟩ : MethodName)) hown (hw _ (List.mem_of_getElem? (i := 75) rfl)) (hw _ (List.mem_of_getElem? (i := 76) rfl)) (hw _ (List.mem_of_getElem? (i := 78) rfl)) (hw _ (List.mem_of_getElem? (i := 77) rfl)) (hw _ (List.mem_of_getElem? (i := 49) rfl)) (hw _ (List.mem_of_getElem? (i := 79) rfl)) (by decide) (W := 0) (rm_eqa l Z a0 hw [] b207 b207 (nar .boolean (own_b x0)) (nar .boolean (own_b x0)) T279.heap F_286 F_286 X_285) (by decide) (by decide) rfl rfl rfl X_285 (g := (mkF m 222 #[.val (.int x0), .val (.int x1), .val (.int x2), .val (.int x3), .val (.int x4), .val (.int x5), .val (.int (own_b x0)), .val (.int (own_b x1)), .val (.ref b153), .val (.ref b159), .val (.ref b167), .val (.ref b186), .val (.ref b207), .val (.ref b231), .val (.ref b260), .val (.int (x5 &&& (7 : Int32))), .val (.ref b207), .val (.int (0 : Int32))] [(.ref b207), (.ref b207)])) rfl (by rw [hml]; rfl) (argsL := [(.ref b207)]) (rest := []) (lenOf own_pd8 rfl) rfl rfl (by show 2 * 0 + _ ≤ _; exact Nat.le_of_eq rfl) (hb hby at_222) (by decide) (by decide)
        refine own_go st299 ?_
        show own_G p.tables e below _ (T299.setTop (mkF m 225 #[.val (.int x0), .val (.int x1), .val (.int x2), .val (.int x3), .val (.int x4), .val (.int x5), .val (.int (own_b x0)), .val (.int (own_b x1)), .val (.ref b153), .val (.ref b159), .val (.ref b167), .val (.ref b186), .val (.ref b207), .val (.ref b231), .val (.ref b260), .val (.int (x5 &&& (7 : Int32))), .val (.ref b207), .val (.int (0 : Int32))] [(.int (Feqa (nar .boolean (own_b x0)) (nar .boolean (own_b x0))))]))
        refine own_go (fun _ k => XS.iload X299.here hx rfl (hb hby at_225) rfl k) ?_
        show own_G p.tables e below _ (T299.setTop (mkF m 227 #[.val (.int x0), .val (.int x1), .val (.int x2), .val (.int x3), .val (.int x4), .val (.int x5), .val (.int (own_b x0)), .val (.int (own_b x1)), .val (.ref b153), .val (.ref b159), .val (.ref b167), .val (.ref b186), .val (.ref b207), .val (.ref b231), .val (.ref b260), .val (.int (x5 &&& (7 : Int32))), .val (.ref b207), .val (.int (0 : Int32))] [(.int (0 : Int32)), (.int (Feqa (nar .boolean (own_b x0)) (nar .boolean (own_b x0))))]))
        by_cases hc227_300 : (Feqa (nar .boolean (own_b x0)) (nar .boolean (own_b x0))) = (0 : Int32)
        · refine own_go (fun _ k => XS.icmpNo X299.here hx rfl (hb hby at_227) rfl ((teq hc227_300).2) k) ?_
          show own_G p.tables e below _ (T299.setTop (mkF m 230 #[.val (.int x0), .val (.int x1), .val (.int x2), .val (.int x3), .val (.int x4), .val (.int x5), .val (.int (own_b x0)), .val (.int (own_b x1)), .val (.ref b153), .val (.ref b159), .val (.ref b167), .val (.ref b186), .val (.ref b207), .val (.ref b231), .val (.ref b260), .val (.int (x5 &&& (7 : Int32))), .val (.ref b207), .val (.int (0 : Int32))] []))
          refine own_go (fun _ k => XS.iconst X299.here hx rfl (hb hby at_230) k) ?_
          show own_G p.tables e below _ (T299.setTop (mkF m 231 #[.val (.int x0), .val (.int x1), .val (.int x2), .val (.int x3), .val (.int x4), .val (.int x5), .val (.int (own_b x0)), .val (.int (own_b x1)), .val (.ref b153), .val (.ref b159), .val (.ref b167), .val (.ref b186), .val (.ref b207), .val (.ref b231), .val (.ref b260), .val (.int (x5 &&& (7 : Int32))), .val (.ref b207), .val (.int (0 : Int32))] [(.int (1 : Int32))]))
          refine own_go (fun _ k => XS.goto X299.here hx rfl (pc0 := 231) (pc' := 235) rfl (hb hby at_231) (by decide) (by decide) k) ?_
          show own_G p.tables e below _ (T299.setTop (mkF m 235 #[.val (.int x0), .val (.int x1), .val (.int x2), .val (.int x3), .val (.int x4), .val (.int x5), .val (.int (own_b x0)), .val (.int (own_b x1)), .val (.ref b153), .val (.ref b159), .val (.ref b167), .val (.ref b186), .val (.ref b207), .val (.ref b231), .val (.ref b260), .val (.int (x5 &&& (7 : Int32))), .val (.ref b207), .val (.int (0 : Int32))] [(.int (1 : Int32))]))
          exact own_endW X299 Bd.notSynchronized hS (by rw [e299]; exact hk279) (v := some (.int (nar .boolean (1 : Int32)))) (fun h => by rw [Bd.returns] at h; cases h) (Q := QL (some (.int (F0 x0 x1 x2 x3 x4 x5))) n0) ⟨by unfold F0; simp only [if_pos hc133_292, if_neg hc183_293, if_neg hc190_296, if_pos hc227_300]; try rfl, N_279⟩ (fun fs hr => retN X299 hx (t := .boolean) Bd.returns (by simp) (hb hby at_235) hr) (by decide) (by decide)
        · refine own_go (fun _ k => XS.icmpYes X299.here hx rfl (pc0 := 227) (pc' := 234) rfl (hb hby at_227) rfl ((feq hc227_300).2) (by decide) (by decide) k) ?_
          show own_G p.tables e below _ (T299.setTop (mkF m 234 #[.val (.int x0), .val (.int x1), .val (.int x2), .val (.int x3), .val (.int x4), .val (.int x5), .val (.int (own_b x0)), .val (.int (own_b x1)), .val (.ref b153), .val (.ref b159), .val (.ref b167), .val (.ref b186), .val (.ref b207), .val (.ref b231), .val (.ref b260), .val (.int (x5 &&& (7 : Int32))), .val (.ref b207), .val (.int (0 : Int32))] []))
          refine own_go (fun _ k => XS.iconst X299.here hx rfl (hb hby at_234) k) ?_
          show own_G p.tables e below _ (T299.setTop (mkF m 235 #[.val (.int x0), .val (.int x1), .val (.int x2), .val (.int x3), .val (.int x4), .val (.int x5), .val (.int (own_b x0)), .val (.int (own_b x1)), .val (.ref b153), .val (.ref b159), .val (.ref b167), .val (.ref b186), .val (.ref b207), .val (.ref b231), .val (.ref b260), .val (.int (x5 &&& (7 : Int32))), .val (.ref b207), .val (.int (0 : Int32))] [(.int (0 : Int32))]))
          exact own_endW X299 Bd.notSynchronized hS (by rw [e299]; exact hk279) (v := some (.int (nar .boolean (0 : Int32)))) (fun h => by rw [Bd.returns] at h; cases h) (Q := QL (some (.int (F0 x0 x1 x2 x3 x4 x5))) n0) ⟨by unfold F0; simp only [if_pos hc133_292, if_neg hc183_293, if_neg hc190_296, if_neg hc227_300]; try rfl, N_279⟩ (fun fs hr => retN X299 hx (t := .boolean) Bd.returns (by simp) (hb hby at_235) hr) (by decide) (by decide)
  · refine own_go (fun _ k => XS.icmpYes X279.here hx rfl (pc0 := 133) (pc' := 143) rfl (hb hby at_133) rfl ((feq hc133_292).2) (by decide) (by decide) k) ?_
    show own_G p.tables e below _ (T279.setTop (mkF m 143 #[.val (.int x0), .val (.int x1), .val (.int x2), .val (.int x3), .val (.int x4), .val (.int x5), .val (.int (own_b x0)), .val (.int (own_b x1)), .val (.ref b153), .val (.ref b159), .val (.ref b167), .val (.ref b186), .val (.ref b207), .val (.ref b231), .val (.ref b260), .val (.int (x5 &&& (7 : Int32))), .val (.ref b231), .unset] []))
    refine own_go (fun _ k => XS.iload X279.here hx rfl (hb hby at_143) rfl k) ?_
    show own_G p.tables e below _ (T279.setTop (mkF m 145 #[.val (.int x0), .val (.int x1), .val (.int x2), .val (.int x3), .val (.int x4), .val (.int x5), .val (.int (own_b x0)), .val (.int (own_b x1)), .val (.ref b153), .val (.ref b159), .val (.ref b167), .val (.ref b186), .val (.ref b207), .val (.ref b231), .val (.ref b260), .val (.int (x5 &&& (7 : Int32))), .val (.ref b231), .unset] [(.int (x5 &&& (7 : Int32)))]))
    refine own_go (fun _ k => XS.iconst X279.here hx rfl (hb hby at_145) k) ?_
    show own_G p.tables e below _ (T279.setTop (mkF m 146 #[.val (.int x0), .val (.int x1), .val (.int x2), .val (.int x3), .val (.int x4), .val (.int x5), .val (.int (own_b x0)), .val (.int (own_b x1)), .val (.ref b153), .val (.ref b159), .val (.ref b167), .val (.ref b186), .val (.ref b207), .val (.ref b231), .val (.ref b260), .val (.int (x5 &&& (7 : Int32))), .val (.ref b231), .unset] [(.int (5 : Int32)), (.int (x5 &&& (7 : Int32)))]))
    by_cases hc146_301 : (x5 &&& (7 : Int32)) = (5 : Int32)
    · refine own_go (fun _ k => XS.icmpNo X279.here hx rfl (hb hby at_146) rfl ((teq hc146_301).2) k) ?_
      show own_G p.tables e below _ (T279.setTop (mkF m 149 #[.val (.int x0), .val (.int x1), .val (.int x2), .val (.int x3), .val (.int x4), .val (.int x5), .val (.int (own_b x0)), .val (.int (own_b x1)), .val (.ref b153), .val (.ref b159), .val (.ref b167), .val (.ref b186), .val (.ref b207), .val (.ref b231), .val (.ref b260), .val (.int (x5 &&& (7 : Int32))), .val (.ref b231), .unset] []))
      refine own_go (fun _ k => XS.aconstNull X279.here hx rfl (hb hby at_149) k) ?_
      show own_G p.tables e below _ (T279.setTop (mkF m 150 #[.val (.int x0), .val (.int x1), .val (.int x2), .val (.int x3), .val (.int x4), .val (.int x5), .val (.int (own_b x0)), .val (.int (own_b x1)), .val (.ref b153), .val (.ref b159), .val (.ref b167), .val (.ref b186), .val (.ref b207), .val (.ref b231), .val (.ref b260), .val (.int (x5 &&& (7 : Int32))), .val (.ref b231), .unset] [.null]))
      refine own_go (fun _ k => XS.astore X279.here hx rfl (hb hby at_150) rfl rfl (l' := #[.val (.int x0), .val (.int x1), .val (.int x2), .val (.int x3), .val (.int x4), .val (.int x5), .val (.int (own_b x0)), .val (.int (own_b x1)), .val (.ref b153), .val (.ref b159), .val (.ref b167), .val (.ref b186), .val (.ref b207), .val (.ref b231), .val (.ref b260), .val (.int (x5 &&& (7 : Int32))), .val .null, .unset]) rfl k) ?_
      show own_G p.tables e below _ (T279.setTop (mkF m 152 #[.val (.int x0), .val (.int x1), .val (.int x2), .val (.int x3), .val (.int x4), .val (.int x5), .val (.int (own_b x0)), .val (.int (own_b x1)), .val (.ref b153), .val (.ref b159), .val (.ref b167), .val (.ref b186), .val (.ref b207), .val (.ref b231), .val (.ref b260), .val (.int (x5 &&& (7 : Int32))), .val .null, .unset] []))
      refine own_go (fun _ k => XS.goto X279.here hx rfl (pc0 := 152) (pc' := 180) rfl (hb hby at_152) (by decide) (by decide) k) ?_
      show own_G p.tables e below _ (T279.setTop (mkF m 180 #[.val (.int x0), .val (.int x1), .val (.int x2), .val (.int x3), .val (.int x4), .val (.int x5), .val (.int (own_b x0)), .val (.int (own_b x1)), .val (.ref b153), .val (.ref b159), .val (.ref b167), .val (.ref b186), .val (.ref b207), .val (.ref b231), .val (.ref b260), .val (.int (x5 &&& (7 : Int32))), .val .null, .unset] []))
      refine own_go (fun _ k => XS.iload X279.here hx rfl (hb hby at_180) rfl k) ?_
      show own_G p.tables e below _ (T279.setTop (mkF m 182 #[.val (.int x0), .val (.int x1), .val (.int x2), .val (.int x3), .val (.int x4), .val (.int x5), .val (.int (own_b x0)), .val (.int (own_b x1)), .val (.ref b153), .val (.ref b159), .val (.ref b167), .val (.ref b186), .val (.ref b207), .val (.ref b231), .val (.ref b260), .val (.int (x5 &&& (7 : Int32))), .val .null, .unset] [(.int (x5 &&& (7 : Int32)))]))
      refine own_go (fun _ k => XS.iconst X279.here hx rfl (hb hby at_182) k) ?_
      show own_G p.tables e below _ (T279.setTop (mkF m 183 #[.val (.int x0), .val (.int x1), .val (.int x2), .val (.int x3), .val (.int x4), .val (.int x5), .val (.int (own_b x0)), .val (.int (own_b x1)), .val (.ref b153), .val (.ref b159), .val (.ref b167), .val (.ref b186), .val (.ref b207), .val (.ref b231), .val (.ref b260), .val (.int (x5 &&& (7 : Int32))), .val .null, .unset] [(.int (3 : Int32)), (.int (x5 &&& (7 : Int32)))]))
      by_cases hc183_302 : (3 : Int32) < (x5 &&& (7 : Int32))
      · refine own_go (fun _ k => XS.icmpYes X279.here hx rfl (pc0 := 183) (pc' := 203) rfl (hb hby at_183) rfl ((tlt hc183_302).2.2.1) (by decide) (by decide) k) ?_
        show own_G p.tables e below _ (T279.setTop (mkF m 203 #[.val (.int x0), .val (.int x1), .val (.int x2), .val (.int x3), .val (.int x4), .val (.int x5), .val (.int (own_b x0)), .val (.int (own_b x1)), .val (.ref b153), .val (.ref b159), .val (.ref b167), .val (.ref b186), .val (.ref b207), .val (.ref b231), .val (.ref b260), .val (.int (x5 &&& (7 : Int32))), .val .null, .unset] []))
        refine own_go (fun _ k => XS.iload X279.here hx rfl (hb hby at_203) rfl k) ?_
        show own_G p.tables e below _ (T279.setTop (mkF m 205 #[.val (.int x0), .val (.int x1), .val (.int x2), .val (.int x3), .val (.int x4), .val (.int x5), .val (.int (own_b x0)), .val (.int (own_b x1)), .val (.ref b153), .val (.ref b159), .val (.ref b167), .val (.ref b186), .val (.ref b207), .val (.ref b231), .val (.ref b260), .val (.int (x5 &&& (7 : Int32))), .val .null, .unset] [(.int (x5 &&& (7 : Int32)))]))
        refine own_go (fun _ k => XS.iconst X279.here hx rfl (hb hby at_205) k) ?_
        show own_G p.tables e below _ (T279.setTop (mkF m 206 #[.val (.int x0), .val (.int x1), .val (.int x2), .val (.int x3), .val (.int x4), .val (.int x5), .val (.int (own_b x0)), .val (.int (own_b x1)), .val (.ref b153), .val (.ref b159), .val (.ref b167), .val (.ref b186), .val (.ref b207), .val (.ref b231), .val (.ref b260), .val (.int (x5 &&& (7 : Int32))), .val .null, .unset] [(.int (4 : Int32)), (.int (x5 &&& (7 : Int32)))]))
        refine own_go (fun _ k => XS.icmpYes X279.here hx rfl (pc0 := 206) (pc' := 215) rfl (hb hby at_206) rfl ((feq hc133_292).2) (by decide) (by decide) k) ?_
        show own_G p.tables e below _ (T279.setTop (mkF m 215 #[.val (.int x0), .val (.int x1), .val (.int x2), .val (.int x3), .val (.int x4), .val (.int x5), .val (.int (own_b x0)), .val (.int (own_b x1)), .val (.ref b153), .val (.ref b159), .val (.ref b167), .val (.ref b186), .val (.ref b207), .val (.ref b231), .val (.ref b260), .val (.int (x5 &&& (7 : Int32))), .val .null, .unset] []))
        refine own_go (fun _ k => XS.iconst X279.here hx rfl (hb hby at_215) k) ?_
        show own_G p.tables e below _ (T279.setTop (mkF m 216 #[.val (.int x0), .val (.int x1), .val (.int x2), .val (.int x3), .val (.int x4), .val (.int x5), .val (.int (own_b x0)), .val (.int (own_b x1)), .val (.ref b153), .val (.ref b159), .val (.ref b167), .val (.ref b186), .val (.ref b207), .val (.ref b231), .val (.ref b260), .val (.int (x5 &&& (7 : Int32))), .val .null, .unset] [(.int (0 : Int32))]))
        refine own_go (fun _ k => XS.istore X279.here hx rfl (hb hby at_216) rfl (l' := #[.val (.int x0), .val (.int x1), .val (.int x2), .val (.int x3), .val (.int x4), .val (.int x5), .val (.int (own_b x0)), .val (.int (own_b x1)), .val (.ref b153), .val (.ref b159), .val (.ref b167), .val (.ref b186), .val (.ref b207), .val (.ref b231), .val (.ref b260), .val (.int (x5 &&& (7 : Int32))), .val .null, .val (.int (0 : Int32))]) rfl k) ?_
        show own_G p.tables e below _ (T279.setTop (mkF m 218 #[.val (.int x0), .val (.int x1), .val (.int x2), .val (.int x3), .val (.int x4), .val (.int x5), .val (.int (own_b x0)), .val (.int (own_b x1)), .val (.ref b153), .val (.ref b159), .val (.ref b167), .val (.ref b186), .val (.ref b207), .val (.ref b231), .val (.ref b260), .val (.int (x5 &&& (7 : Int32))), .val .null, .val (.int (0 : Int32))] []))
        refine own_go (fun _ k => XS.aload X279.here hx rfl (hb hby at_218) rfl rfl k) ?_
        show own_G p.tables e below _ (T279.setTop (mkF m 220 #[.val (.int x0), .val (.int x1), .val (.int x2), .val (.int x3), .val (.int x4), .val (.int x5), .val (.int (own_b x0)), .val (.int (own_b x1)), .val (.ref b153), .val (.ref b159), .val (.ref b167), .val (.ref b186), .val (.ref b207), .val (.ref b231), .val (.ref b260), .val (.int (x5 &&& (7 : Int32))), .val .null, .val (.int (0 : Int32))] [(.ref b207)]))
        refine own_go (fun _ k => XS.aload X279.here hx rfl (hb hby at_220) rfl rfl k) ?_
        show own_G p.tables e below _ (T279.setTop (mkF m 222 #[.val (.int x0), .val (.int x1), .val (.int x2), .val (.int x3), .val (.int x4), .val (.int x5), .val (.int (own_b x0)), .val (.int (own_b x1)), .val (.ref b153), .val (.ref b159), .val (.ref b167), .val (.ref b186), .val (.ref b207), .val (.ref b231), .val (.ref b260), .val (.int (x5 &&& (7 : Int32))), .val .null, .val (.int (0 : Int32))] [.null, (.ref b207)]))
        obtain ⟨T303, X303, e303, st303⟩ := own_callV X279 hx hZ (y := (⟨"com/example/ptah/ptah/model/BooleanNode", "equals", "(Ljava/lang/Object;)Z"⟩ : MethodName)) hown (hw _ (List.mem_of_getElem? (i := 75) rfl)) (hw _ (List.mem_of_getElem? (i := 76) rfl)) (hw _ (List.mem_of_getElem? (i := 78) rfl)) (hw _ (List.mem_of_getElem? (i := 77) rfl)) (hw _ (List.mem_of_getElem? (i := 49) rfl)) (hw _ (List.mem_of_getElem? (i := 79) rfl)) (by decide) (W := 0) (rm_eqn l Z a0 hw [] b207  T279.heap ) (by decide) (by decide) rfl rfl rfl X_285 (g := (mkF m 222 #[.val (.int x0), .val (.int x1), .val (.int x2), .val (.int x3), .val (.int x4), .val (.int x5), .val (.int (own_b x0)), .val (.int (own_b x1)), .val (.ref b153), .val (.ref b159), .val (.ref b167), .val (.ref b186), .val (.ref b207), .val (.ref b231), .val (.ref b260), .val (.int (x5 &&& (7 : Int32))), .val .null, .val (.int (0 : Int32))] [.null, (.ref b207)])) rfl (by rw [hml]; rfl) (argsL := [.null]) (rest := []) (lenOf own_pd8 rfl) rfl rfl (by show 2 * 0 + _ ≤ _; exact Nat.le_of_eq rfl) (hb hby at_222) (by decide) (by decide)
        refine own_go st303 ?_
        show own_G p.tables e below _ (T303.setTop (mkF m 225 #[.val (.int x0), .val (.int x1), .val (.int x2), .val (.int x3), .val (.int x4), .val (.int x5), .val (.int (own_b x0)), .val (.int (own_b x1)), .val (.ref b153), .val (.ref b159), .val (.ref b167), .val (.ref b186), .val (.ref b207), .val (.ref b231), .val (.ref b260), .val (.int (x5 &&& (7 : Int32))), .val .null, .val (.int (0 : Int32))] [(.int (Feqn ))]))
        refine own_go (fun _ k => XS.iload X303.here hx rfl (hb hby at_225) rfl k) ?_
        show own_G p.tables e below _ (T303.setTop (mkF m 227 #[.val (.int x0), .val (.int x1), .val (.int x2), .val (.int x3), .val (.int x4), .val (.int x5), .val (.int (own_b x0)), .val (.int (own_b x1)), .val (.ref b153), .val (.ref b159), .val (.ref b167), .val (.ref b186), .val (.ref b207), .val (.ref b231), .val (.ref b260), .val (.int (x5 &&& (7 : Int32))), .val .null, .val (.int (0 : Int32))] [(.int (0 : Int32)), (.int (Feqn ))]))
        by_cases hc227_304 : (Feqn ) = (0 : Int32)
        · refine own_go (fun _ k => XS.icmpNo X303.here hx rfl (hb hby at_227) rfl ((teq hc227_304).2) k) ?_
          show own_G p.tables e below _ (T303.setTop (mkF m 230 #[.val (.int x0), .val (.int x1), .val (.int x2), .val (.int x3), .val (.int x4), .val (.int x5), .val (.int (own_b x0)), .val (.int (own_b x1)), .val (.ref b153), .val (.ref b159), .val (.ref b167), .val (.ref b186), .val (.ref b207), .val (.ref b231), .val (.ref b260), .val (.int (x5 &&& (7 : Int32))), .val .null, .val (.int (0 : Int32))] []))
          refine own_go (fun _ k => XS.iconst X303.here hx rfl (hb hby at_230) k) ?_
          show own_G p.tables e below _ (T303.setTop (mkF m 231 #[.val (.int x0), .val (.int x1), .val (.int x2), .val (.int x3), .val (.int x4), .val (.int x5), .val (.int (own_b x0)), .val (.int (own_b x1)), .val (.ref b153), .val (.ref b159), .val (.ref b167), .val (.ref b186), .val (.ref b207), .val (.ref b231), .val (.ref b260), .val (.int (x5 &&& (7 : Int32))), .val .null, .val (.int (0 : Int32))] [(.int (1 : Int32))]))
          refine own_go (fun _ k => XS.goto X303.here hx rfl (pc0 := 231) (pc' := 235) rfl (hb hby at_231) (by decide) (by decide) k) ?_
          show own_G p.tables e below _ (T303.setTop (mkF m 235 #[.val (.int x0), .val (.int x1), .val (.int x2), .val (.int x3), .val (.int x4), .val (.int x5), .val (.int (own_b x0)), .val (.int (own_b x1)), .val (.ref b153), .val (.ref b159), .val (.ref b167), .val (.ref b186), .val (.ref b207), .val (.ref b231), .val (.ref b260), .val (.int (x5 &&& (7 : Int32))), .val .null, .val (.int (0 : Int32))] [(.int (1 : Int32))]))
          exact own_endW X303 Bd.notSynchronized hS (by rw [e303]; exact hk279) (v := some (.int (nar .boolean (1 : Int32)))) (fun h => by rw [Bd.returns] at h; cases h) (Q := QL (some (.int (F0 x0 x1 x2 x3 x4 x5))) n0) ⟨by unfold F0; simp only [if_neg hc133_292, if_pos hc146_301, if_pos hc183_302, if_pos hc227_304]; try rfl, N_279⟩ (fun fs hr => retN X303 hx (t := .boolean) Bd.returns (by simp) (hb hby at_235) hr) (by decide) (by decide)
        · refine own_go (fun _ k => XS.icmpYes X303.here hx rfl (pc0 := 227) (pc' := 234) rfl (hb hby at_227) rfl ((feq hc227_304).2) (by decide) (by decide) k) ?_
          show own_G p.tables e below _ (T303.setTop (mkF m 234 #[.val (.int x0), .val (.int x1), .val (.int x2), .val (.int x3), .val (.int x4), .val (.int x5), .val (.int (own_b x0)), .val (.int (own_b x1)), .val (.ref b153), .val (.ref b159), .val (.ref b167), .val (.ref b186), .val (.ref b207), .val (.ref b231), .val (.ref b260), .val (.int (x5 &&& (7 : Int32))), .val .null, .val (.int (0 : Int32))] []))
          refine own_go (fun _ k => XS.iconst X303.here hx rfl (hb hby at_234) k) ?_
          show own_G p.tables e below _ (T303.setTop (mkF m 235 #[.val (.int x0), .val (.int x1), .val (.int x2), .val (.int x3), .val (.int x4), .val (.int x5), .val (.int (own_b x0)), .val (.int (own_b x1)), .val (.ref b153), .val (.ref b159), .val (.ref b167), .val (.ref b186), .val (.ref b207), .val (.ref b231), .val (.ref b260), .val (.int (x5 &&& (7 : Int32))), .val .null, .val (.int (0 : Int32))] [(.int (0 : Int32))]))
          exact own_endW X303 Bd.notSynchronized hS (by rw [e303]; exact hk279) (v := some (.int (nar .boolean (0 : Int32)))) (fun h => by rw [Bd.returns] at h; cases h) (Q := QL (some (.int (F0 x0 x1 x2 x3 x4 x5))) n0) ⟨by unfold F0; simp only [if_neg hc133_292, if_pos hc146_301, if_pos hc183_302, if_neg hc227_304]; try rfl, N_279⟩ (fun fs hr => retN X303 hx (t := .boolean) Bd.returns (by simp) (hb hby at_235) hr) (by decide) (by decide)
      · refine own_go (fun _ k => XS.icmpNo X279.here hx rfl (hb hby at_183) rfl ((flt hc183_302).2.2.1) k) ?_
        show own_G p.tables e below _ (T279.setTop (mkF m 186 #[.val (.int x0), .val (.int x1), .val (.int x2), .val (.int x3), .val (.int x4), .val (.int x5), .val (.int (own_b x0)), .val (.int (own_b x1)), .val (.ref b153), .val (.ref b159), .val (.ref b167), .val (.ref b186), .val (.ref b207), .val (.ref b231), .val (.ref b260), .val (.int (x5 &&& (7 : Int32))), .val .null, .unset] []))
        refine own_go (fun _ k => XS.iload X279.here hx rfl (hb hby at_186) rfl k) ?_
        show own_G p.tables e below _ (T279.setTop (mkF m 188 #[.val (.int x0), .val (.int x1), .val (.int x2), .val (.int x3), .val (.int x4), .val (.int x5), .val (.int (own_b x0)), .val (.int (own_b x1)), .val (.ref b153), .val (.ref b159), .val (.ref b167), .val (.ref b186), .val (.ref b207), .val (.ref b231), .val (.ref b260), .val (.int (x5 &&& (7 : Int32))), .val .null, .unset] [(.int (own_b x0))]))
        refine own_go (fun _ k => XS.iload X279.here hx rfl (hb hby at_188) rfl k) ?_
        show own_G p.tables e below _ (T279.setTop (mkF m 190 #[.val (.int x0), .val (.int x1), .val (.int x2), .val (.int x3), .val (.int x4), .val (.int x5), .val (.int (own_b x0)), .val (.int (own_b x1)), .val (.ref b153), .val (.ref b159), .val (.ref b167), .val (.ref b186), .val (.ref b207), .val (.ref b231), .val (.ref b260), .val (.int (x5 &&& (7 : Int32))), .val .null, .unset] [(.int (own_b x1)), (.int (own_b x0))]))
        by_cases hc190_305 : (own_b x0) = (own_b x1)
        · refine own_go (fun _ k => XS.icmpNo X279.here hx rfl (hb hby at_190) rfl ((teq hc190_305).2) k) ?_
          show own_G p.tables e below _ (T279.setTop (mkF m 193 #[.val (.int x0), .val (.int x1), .val (.int x2), .val (.int x3), .val (.int x4), .val (.int x5), .val (.int (own_b x0)), .val (.int (own_b x1)), .val (.ref b153), .val (.ref b159), .val (.ref b167), .val (.ref b186), .val (.ref b207), .val (.ref b231), .val (.ref b260), .val (.int (x5 &&& (7 : Int32))), .val .null, .unset] []))
          refine own_go (fun _ k => XS.iconst X279.here hx rfl (hb hby at_193) k) ?_
          show own_G p.tables e below _ (T279.setTop (mkF m 194 #[.val (.int x0), .val (.int x1), .val (.int x2), .val (.int x3), .val (.int x4), .val (.int x5), .val (.int (own_b x0)), .val (.int (own_b x1)), .val (.ref b153), .val (.ref b159), .val (.ref b167), .val (.ref b186), .val (.ref b207), .val (.ref b231), .val (.ref b260), .val (.int (x5 &&& (7 : Int32))), .val .null, .unset] [(.int (1 : Int32))]))
          refine own_go (fun _ k => XS.goto X279.here hx rfl (pc0 := 194) (pc' := 198) rfl (hb hby at_194) (by decide) (by decide) k) ?_
          show own_G p.tables e below _ (T279.setTop (mkF m 198 #[.val (.int x0), .val (.int x1), .val (.int x2), .val (.int x3), .val (.int x4), .val (.int x5), .val (.int (own_b x0)), .val (.int (own_b x1)), .val (.ref b153), .val (.ref b159), .val (.ref b167), .val (.ref b186), .val (.ref b207), .val (.ref b231), .val (.ref b260), .val (.int (x5 &&& (7 : Int32))), .val .null, .unset] [(.int (1 : Int32))]))
          refine own_go (fun _ k => XS.istore X279.here hx rfl (hb hby at_198) rfl (l' := #[.val (.int x0), .val (.int x1), .val (.int x2), .val (.int x3), .val (.int x4), .val (.int x5), .val (.int (own_b x0)), .val (.int (own_b x1)), .val (.ref b153), .val (.ref b159), .val (.ref b167), .val (.ref b186), .val (.ref b207), .val (.ref b231), .val (.ref b260), .val (.int (x5 &&& (7 : Int32))), .val .null, .val (.int (1 : Int32))]) rfl k) ?_
          show own_G p.tables e below _ (T279.setTop (mkF m 200 #[.val (.int x0), .val (.int x1), .val (.int x2), .val (.int x3), .val (.int x4), .val (.int x5), .val (.int (own_b x0)), .val (.int (own_b x1)), .val (.ref b153), .val (.ref b159), .val (.ref b167), .val (.ref b186), .val (.ref b207), .val (.ref b231), .val (.ref b260), .val (.int (x5 &&& (7 : Int32))), .val .null, .val (.int (1 : Int32))] []))
          refine own_go (fun _ k => XS.goto X279.here hx rfl (pc0 := 200) (pc' := 218) rfl (hb hby at_200) (by decide) (by decide) k) ?_
          show own_G p.tables e below _ (T279.setTop (mkF m 218 #[.val (.int x0), .val (.int x1), .val (.int x2), .val (.int x3), .val (.int x4), .val (.int x5), .val (.int (own_b x0)), .val (.int (own_b x1)), .val (.ref b153), .val (.ref b159), .val (.ref b167), .val (.ref b186), .val (.ref b207), .val (.ref b231), .val (.ref b260), .val (.int (x5 &&& (7 : Int32))), .val .null, .val (.int (1 : Int32))] []))
          refine own_go (fun _ k => XS.aload X279.here hx rfl (hb hby at_218) rfl rfl k) ?_
          show own_G p.tables e below _ (T279.setTop (mkF m 220 #[.val (.int x0), .val (.int x1), .val (.int x2), .val (.int x3), .val (.int x4), .val (.int x5), .val (.int (own_b x0)), .val (.int (own_b x1)), .val (.ref b153), .val (.ref b159), .val (.ref b167), .val (.ref b186), .val (.ref b207), .val (.ref b231), .val (.ref b260), .val (.int (x5 &&& (7 : Int32))), .val .null, .val (.int (1 : Int32))] [(.ref b207)]))
          refine own_go (fun _ k => XS.aload X279.here hx rfl (hb hby at_220) rfl rfl k) ?_
          show own_G p.tables e below _ (T279.setTop (mkF m 222 #[.val (.int x0), .val (.int x1), .val (.int x2), .val (.int x3), .val (.int x4), .val (.int x5), .val (.int (own_b x0)), .val (.int (own_b x1)), .val (.ref b153), .val (.ref b159), .val (.ref b167), .val (.ref b186), .val (.ref b207), .val (.ref b231), .val (.ref b260), .val (.int (x5 &&& (7 : Int32))), .val .null, .val (.int (1 : Int32))] [.null, (.ref b207)]))
          obtain ⟨T306, X306, e306, st306⟩ := own_callV X279 hx hZ (y := (⟨"com/example/ptah/ptah/model/BooleanNode", "equals", "(Ljava/lang/Object;)Z"⟩ : MethodName)) hown (hw _ (List.mem_of_getElem? (i := 75) rfl)) (hw _ (List.mem_of_getElem? (i := 76) rfl)) (hw _ (List.mem_of_getElem? (i := 78) rfl)) (hw _ (List.mem_of_getElem? (i := 77) rfl)) (hw _ (List.mem_of_getElem? (i := 49) rfl)) (hw _ (List.mem_of_getElem? (i := 79) rfl)) (by decide) (W := 0) (rm_eqn l Z a0 hw [] b207  T279.heap ) (by decide) (by decide) rfl rfl rfl X_285 (g := (mkF m 222 #[.val (.int x0), .val (.int x1), .val (.int x2), .val (.int x3), .val (.int x4), .val (.int x5), .val (.int (own_b x0)), .val (.int (own_b x1)), .val (.ref b153), .val (.ref b159), .val (.ref b167), .val (.ref b186), .val (.ref b207), .val (.ref b231), .val (.ref b260), .val (.int (x5 &&& (7 : Int32))), .val .null, .val (.int (1 : Int32))] [.null, (.ref b207)])) rfl (by rw [hml]; rfl) (argsL := [.null]) (rest := []) (lenOf own_pd8 rfl) rfl rfl (by show 2 * 0 + _ ≤ _; exact Nat.le_of_eq rfl) (hb hby at_222) (by decide) (by decide)
          refine own_go st306 ?_
          show own_G p.tables e below _ (T306.setTop (mkF m 225 #[.val (.int x0), .val (.int x1), .val (.int x2), .val (.int x3), .val (.int x4), .val (.int x5), .val (.int (own_b x0)), .val (.int (own_b x1)), .val (.ref b153), .val (.ref b159), .val (.ref b167), .val (.ref b186), .val (.ref b207), .val (.ref b231), .val (.ref b260), .val (.int (x5 &&& (7 : Int32))), .val .null, .val (.int (1 : Int32))] [(.int (Feqn ))]))
          refine own_go (fun _ k => XS.iload X306.here hx rfl (hb hby at_225) rfl k) ?_
          show own_G p.tables e below _ (T306.setTop (mkF m 227 #[.val (.int x0), .val (.int x1), .val (.int x2), .val (.int x3), .val (.int x4), .val (.int x5), .val (.int (own_b x0)), .val (.int (own_b x1)), .val (.ref b153), .val (.ref b159), .val (.ref b167), .val (.ref b186), .val (.ref b207), .val (.ref b231), .val (.ref b260), .val (.int (x5 &&& (7 : Int32))), .val .null, .val (.int (1 : Int32))] [(.int (1 : Int32)), (.int (Feqn ))]))
          by_cases hc227_307 : (Feqn ) = (1 : Int32)
          · refine own_go (fun _ k => XS.icmpNo X306.here hx rfl (hb hby at_227) rfl ((teq hc227_307).2) k) ?_
            show own_G p.tables e below _ (T306.setTop (mkF m 230 #[.val (.int x0), .val (.int x1), .val (.int x2), .val (.int x3), .val (.int x4), .val (.int x5), .val (.int (own_b x0)), .val (.int (own_b x1)), .val (.ref b153), .val (.ref b159), .val (.ref b167), .val (.ref b186), .val (.ref b207), .val (.ref b231), .val (.ref b260), .val (.int (x5 &&& (7 : Int32))), .val .null, .val (.int (1 : Int32))] []))
            refine own_go (fun _ k => XS.iconst X306.here hx rfl (hb hby at_230) k) ?_
            show own_G p.tables e below _ (T306.setTop (mkF m 231 #[.val (.int x0), .val (.int x1), .val (.int x2), .val (.int x3), .val (.int x4), .val (.int x5), .val (.int (own_b x0)), .val (.int (own_b x1)), .val (.ref b153), .val (.ref b159), .val (.ref b167), .val (.ref b186), .val (.ref b207), .val (.ref b231), .val (.ref b260), .val (.int (x5 &&& (7 : Int32))), .val .null, .val (.int (1 : Int32))] [(.int (1 : Int32))]))
            refine own_go (fun _ k => XS.goto X306.here hx rfl (pc0 := 231) (pc' := 235) rfl (hb hby at_231) (by decide) (by decide) k) ?_
            show own_G p.tables e below _ (T306.setTop (mkF m 235 #[.val (.int x0), .val (.int x1), .val (.int x2), .val (.int x3), .val (.int x4), .val (.int x5), .val (.int (own_b x0)), .val (.int (own_b x1)), .val (.ref b153), .val (.ref b159), .val (.ref b167), .val (.ref b186), .val (.ref b207), .val (.ref b231), .val (.ref b260), .val (.int (x5 &&& (7 : Int32))), .val .null, .val (.int (1 : Int32))] [(.int (1 : Int32))]))
            exact own_endW X306 Bd.notSynchronized hS (by rw [e306]; exact hk279) (v := some (.int (nar .boolean (1 : Int32)))) (fun h => by rw [Bd.returns] at h; cases h) (Q := QL (some (.int (F0 x0 x1 x2 x3 x4 x5))) n0) ⟨by unfold F0; simp only [if_neg hc133_292, if_pos hc146_301, if_neg hc183_302, if_pos hc190_305, if_pos hc227_307]; try rfl, N_279⟩ (fun fs hr => retN X306 hx (t := .boolean) Bd.returns (by simp) (hb hby at_235) hr) (by decide) (by decide)
          · refine own_go (fun _ k => XS.icmpYes X306.here hx rfl (pc0 := 227) (pc' := 234) rfl (hb hby at_227) rfl ((feq hc227_307).2) (by decide) (by decide) k) ?_
            show own_G p.tables e below _ (T306.setTop (mkF m 234 #[.val (.int x0), .val (.int x1), .val (.int x2), .val (.int x3), .val (.int x4), .val (.int x5), .val (.int (own_b x0)), .val (.int (own_b x1)), .val (.ref b153), .val (.ref b159), .val (.ref b167), .val (.ref b186), .val (.ref b207), .val (.ref b231), .val (.ref b260), .val (.int (x5 &&& (7 : Int32))), .val .null, .val (.int (1 : Int32))] []))
            refine own_go (fun _ k => XS.iconst X306.here hx rfl (hb hby at_234) k) ?_
            show own_G p.tables e below _ (T306.setTop (mkF m 235 #[.val (.int x0), .val (.int x1), .val (.int x2), .val (.int x3), .val (.int x4), .val (.int x5), .val (.int (own_b x0)), .val (.int (own_b x1)), .val (.ref b153), .val (.ref b159), .val (.ref b167), .val (.ref b186), .val (.ref b207), .val (.ref b231), .val (.ref b260), .val (.int (x5 &&& (7 : Int32))), .val .null, .val (.int (1 : Int32))] [(.int (0 : Int32))]))
            exact own_endW X306 Bd.notSynchronized hS (by rw [e306]; exact hk279) (v := some (.int (nar .boolean (0 : Int32)))) (fun h => by rw [Bd.returns] at h; cases h) (Q := QL (some (.int (F0 x0 x1 x2 x3 x4 x5))) n0) ⟨by unfold F0; simp only [if_neg hc133_292, if_pos hc146_301, if_neg hc183_302, if_pos hc190_305, if_neg hc227_307]; try rfl, N_279⟩ (fun fs hr => retN X306 hx (t := .boolean) Bd.returns (by simp) (hb hby at_235) hr) (by decide) (by decide)
        · refine own_go (fun _ k => XS.icmpYes X279.here hx rfl (pc0 := 190) (pc' := 197) rfl (hb hby at_190) rfl ((feq hc190_305).2) (by decide) (by decide) k) ?_
          show own_G p.tables e below _ (T279.setTop (mkF m 197 #[.val (.int x0), .val (.int x1), .val (.int x2), .val (.int x3), .val (.int x4), .val (.int x5), .val (.int (own_b x0)), .val (.int (own_b x1)), .val (.ref b153), .val (.ref b159), .val (.ref b167), .val (.ref b186), .val (.ref b207), .val (.ref b231), .val (.ref b260), .val (.int (x5 &&& (7 : Int32))), .val .null, .unset] []))
          refine own_go (fun _ k => XS.iconst X279.here hx rfl (hb hby at_197) k) ?_
          show own_G p.tables e below _ (T279.setTop (mkF m 198 #[.val (.int x0), .val (.int x1), .val (.int x2), .val (.int x3), .val (.int x4), .val (.int x5), .val (.int (own_b x0)), .val (.int (own_b x1)), .val (.ref b153), .val (.ref b159), .val (.ref b167), .val (.ref b186), .val (.ref b207), .val (.ref b231), .val (.ref b260), .val (.int (x5 &&& (7 : Int32))), .val .null, .unset] [(.int (0 : Int32))]))
          refine own_go (fun _ k => XS.istore X279.here hx rfl (hb hby at_198) rfl (l' := #[.val (.int x0), .val (.int x1), .val (.int x2), .val (.int x3), .val (.int x4), .val (.int x5), .val (.int (own_b x0)), .val (.int (own_b x1)), .val (.ref b153), .val (.ref b159), .val (.ref b167), .val (.ref b186), .val (.ref b207), .val (.ref b231), .val (.ref b260), .val (.int (x5 &&& (7 : Int32))), .val .null, .val (.int (0 : Int32))]) rfl k) ?_
          show own_G p.tables e below _ (T279.setTop (mkF m 200 #[.val (.int x0), .val (.int x1), .val (.int x2), .val (.int x3), .val (.int x4), .val (.int x5), .val (.int (own_b x0)), .val (.int (own_b x1)), .val (.ref b153), .val (.ref b159), .val (.ref b167), .val (.ref b186), .val (.ref b207), .val (.ref b231), .val (.ref b260), .val (.int (x5 &&& (7 : Int32))), .val .null, .val (.int (0 : Int32))] []))
          refine own_go (fun _ k => XS.goto X279.here hx rfl (pc0 := 200) (pc' := 218) rfl (hb hby at_200) (by decide) (by decide) k) ?_
          show own_G p.tables e below _ (T279.setTop (mkF m 218 #[.val (.int x0), .val (.int x1), .val (.int x2), .val (.int x3), .val (.int x4), .val (.int x5), .val (.int (own_b x0)), .val (.int (own_b x1)), .val (.ref b153), .val (.ref b159), .val (.ref b167), .val (.ref b186), .val (.ref b207), .val (.ref b231), .val (.ref b260), .val (.int (x5 &&& (7 : Int32))), .val .null, .val (.int (0 : Int32))] []))
          refine own_go (fun _ k => XS.aload X279.here hx rfl (hb hby at_218) rfl rfl k) ?_
          show own_G p.tables e below _ (T279.setTop (mkF m 220 #[.val (.int x0), .val (.int x1), .val (.int x2), .val (.int x3), .val (.int x4), .val (.int x5), .val (.int (own_b x0)), .val (.int (own_b x1)), .val (.ref b153), .val (.ref b159), .val (.ref b167), .val (.ref b186), .val (.ref b207), .val (.ref b231), .val (.ref b260), .val (.int (x5 &&& (7 : Int32))), .val .null, .val (.int (0 : Int32))] [(.ref b207)]))
          refine own_go (fun _ k => XS.aload X279.here hx rfl (hb hby at_220) rfl rfl k) ?_
          show own_G p.tables e below _ (T279.setTop (mkF m 222 #[.val (.int x0), .val (.int x1), .val (.int x2), .val (.int x3), .val (.int x4), .val (.int x5), .val (.int (own_b x0)), .val (.int (own_b x1)), .val (.ref b153), .val (.ref b159), .val (.ref b167), .val (.ref b186), .val (.ref b207), .val (.ref b231), .val (.ref b260), .val (.int (x5 &&& (7 : Int32))), .val .null, .val (.int (0 : Int32))] [.null, (.ref b207)]))
          obtain ⟨T308, X308, e308, st308⟩ := own_callV X279 hx hZ (y := (⟨"com/example/ptah/ptah/model/BooleanNode", "equals", "(Ljava/lang/Object;)Z"⟩ : MethodName)) hown (hw _ (List.mem_of_getElem? (i := 75) rfl)) (hw _ (List.mem_of_getElem? (i := 76) rfl)) (hw _ (List.mem_of_getElem? (i := 78) rfl)) (hw _ (List.mem_of_getElem? (i := 77) rfl)) (hw _ (List.mem_of_getElem? (i := 49) rfl)) (hw _ (List.mem_of_getElem? (i := 79) rfl)) (by decide) (W := 0) (rm_eqn l Z a0 hw [] b207  T279.heap ) (by decide) (by decide) rfl rfl rfl X_285 (g := (mkF m 222 #[.val (.int x0), .val (.int x1), .val (.int x2), .val (.int x3), .val (.int x4), .val (.int x5), .val (.int (own_b x0)), .val (.int (own_b x1)), .val (.ref b153), .val (.ref b159), .val (.ref b167), .val (.ref b186), .val (.ref b207), .val (.ref b231), .val (.ref b260), .val (.int (x5 &&& (7 : Int32))), .val .null, .val (.int (0 : Int32))] [.null, (.ref b207)])) rfl (by rw [hml]; rfl) (argsL := [.null]) (rest := []) (lenOf own_pd8 rfl) rfl rfl (by show 2 * 0 + _ ≤ _; exact Nat.le_of_eq rfl) (hb hby at_222) (by decide) (by decide)
          refine own_go st308 ?_
          show own_G p.tables e below _ (T308.setTop (mkF m 225 #[.val (.int x0), .val (.int x1), .val (.int x2), .val (.int x3), .val (.int x4), .val (.int x5), .val (.int (own_b x0)), .val (.int (own_b x1)), .val (.ref b153), .val (.ref b159), .val (.ref b167), .val (.ref b186), .val (.ref b207), .val (.ref b231), .val (.ref b260), .val (.int (x5 &&& (7 : Int32))), .val .null, .val (.int (0 : Int32))] [(.int (Feqn ))]))
          refine own_go (fun _ k => XS.iload X308.here hx rfl (hb hby at_225) rfl k) ?_
          show own_G p.tables e below _ (T308.setTop (mkF m 227 #[.val (.int x0), .val (.int x1), .val (.int x2), .val (.int x3), .val (.int x4), .val (.int x5), .val (.int (own_b x0)), .val (.int (own_b x1)), .val (.ref b153), .val (.ref b159), .val (.ref b167), .val (.ref b186), .val (.ref b207), .val (.ref b231), .val (.ref b260), .val (.int (x5 &&& (7 : Int32))), .val .null, .val (.int (0 : Int32))] [(.int (0 : Int32)), (.int (Feqn ))]))
          by_cases hc227_309 : (Feqn ) = (0 : Int32)
          · refine own_go (fun _ k => XS.icmpNo X308.here hx rfl (hb hby at_227) rfl ((teq hc227_309).2) k) ?_
            show own_G p.tables e below _ (T308.setTop (mkF m 230 #[.val (.int x0), .val (.int x1), .val (.int x2), .val (.int x3), .val (.int x4), .val (.int x5), .val (.int (own_b x0)), .val (.int (own_b x1)), .val (.ref b153), .val (.ref b159), .val (.ref b167), .val (.ref b186), .val (.ref b207), .val (.ref b231), .val (.ref b260), .val (.int (x5 &&& (7 : Int32))), .val .null, .val (.int (0 : Int32))] []))
            refine own_go (fun _ k => XS.iconst X308.here hx rfl (hb hby at_230) k) ?_
            show own_G p.tables e below _ (T308.setTop (mkF m 231 #[.val (.int x0), .val (.int x1), .val (.int x2), .val (.int x3), .val (.int x4), .val (.int x5), .val (.int (own_b x0)), .val (.int (own_b x1)), .val (.ref b153), .val (.ref b159), .val (.ref b167), .val (.ref b186), .val (.ref b207), .val (.ref b231), .val (.ref b260), .val (.int (x5 &&& (7 : Int32))), .val .null, .val (.int (0 : Int32))] [(.int (1 : Int32))]))
            refine own_go (fun _ k => XS.goto X308.here hx rfl (pc0 := 231) (pc' := 235) rfl (hb hby at_231) (by decide) (by decide) k) ?_
            show own_G p.tables e below _ (T308.setTop (mkF m 235 #[.val (.int x0), .val (.int x1), .val (.int x2), .val (.int x3), .val (.int x4), .val (.int x5), .val (.int (own_b x0)), .val (.int (own_b x1)), .val (.ref b153), .val (.ref b159), .val (.ref b167), .val (.ref b186), .val (.ref b207), .val (.ref b231), .val (.ref b260), .val (.int (x5 &&& (7 : Int32))), .val .null, .val (.int (0 : Int32))] [(.int (1 : Int32))]))
            exact own_endW X308 Bd.notSynchronized hS (by rw [e308]; exact hk279) (v := some (.int (nar .boolean (1 : Int32)))) (fun h => by rw [Bd.returns] at h; cases h) (Q := QL (some (.int (F0 x0 x1 x2 x3 x4 x5))) n0) ⟨by unfold F0; simp only [if_neg hc133_292, if_pos hc146_301, if_neg hc183_302, if_neg hc190_305, if_pos hc227_309]; try rfl, N_279⟩ (fun fs hr => retN X308 hx (t := .boolean) Bd.returns (by simp) (hb hby at_235) hr) (by decide) (by decide)
          · refine own_go (fun _ k => XS.icmpYes X308.here hx rfl (pc0 := 227) (pc' := 234) rfl (hb hby at_227) rfl ((feq hc227_309).2) (by decide) (by decide) k) ?_
            show own_G p.tables e below _ (T308.setTop (mkF m 234 #[.val (.int x0), .val (.int x1), .val (.int x2), .val (.int x3), .val (.int x4), .val (.int x5), .val (.int (own_b x0)), .val (.int (own_b x1)), .val (.ref b153), .val (.ref b159), .val (.ref b167), .val (.ref b186), .val (.ref b207), .val (.ref b231), .val (.ref b260), .val (.int (x5 &&& (7 : Int32))), .val .null, .val (.int (0 : Int32))] []))
            refine own_go (fun _ k => XS.iconst X308.here hx rfl (hb hby at_234) k) ?_
            show own_G p.tables e below _ (T308.setTop (mkF m 235 #[.val (.int x0), .val (.int x1), .val (.int x2), .val (.int x3), .val (.int x4), .val (.int x5), .val (.int (own_b x0)), .val (.int (own_b x1)), .val (.ref b153), .val (.ref b159), .val (.ref b167), .val (.ref b186), .val (.ref b207), .val (.ref b231), .val (.ref b260), .val (.int (x5 &&& (7 : Int32))), .val .null, .val (.int (0 : Int32))] [(.int (0 : Int32))]))
            exact own_endW X308 Bd.notSynchronized hS (by rw [e308]; exact hk279) (v := some (.int (nar .boolean (0 : Int32)))) (fun h => by rw [Bd.returns] at h; cases h) (Q := QL (some (.int (F0 x0 x1 x2 x3 x4 x5))) n0) ⟨by unfold F0; simp only [if_neg hc133_292, if_pos hc146_301, if_neg hc183_302, if_neg hc190_305, if_neg hc227_309]; try rfl, N_279⟩ (fun fs hr => retN X308 hx (t := .boolean) Bd.returns (by simp) (hb hby at_235) hr) (by decide) (by decide)
    · refine own_go (fun _ k => XS.icmpYes X279.here hx rfl (pc0 := 146) (pc' := 155) rfl (hb hby at_146) rfl ((feq hc146_301).2) (by decide) (by decide) k) ?_
      show own_G p.tables e below _ (T279.setTop (mkF m 155 #[.val (.int x0), .val (.int x1), .val (.int x2), .val (.int x3), .val (.int x4), .val (.int x5), .val (.int (own_b x0)), .val (.int (own_b x1)), .val (.ref b153), .val (.ref b159), .val (.ref b167), .val (.ref b186), .val (.ref b207), .val (.ref b231), .val (.ref b260), .val (.int (x5 &&& (7 : Int32))), .val (.ref b231), .unset] []))
      refine own_go (fun _ k => XS.iload X279.here hx rfl (hb hby at_155) rfl k) ?_
      show own_G p.tables e below _ (T279.setTop (mkF m 157 #[.val (.int x0), .val (.int x1), .val (.int x2), .val (.int x3), .val (.int x4), .val (.int x5), .val (.int (own_b x0)), .val (.int (own_b x1)), .val (.ref b153), .val (.ref b159), .val (.ref b167), .val (.ref b186), .val (.ref b207), .val (.ref b231), .val (.ref b260), .val (.int (x5 &&& (7 : Int32))), .val (.ref b231), .unset] [(.int (x5 &&& (7 : Int32)))]))
      refine own_go (fun _ k => XS.bipush X279.here hx rfl (hb hby at_157) k) ?_
      show own_G p.tables e below _ (T279.setTop (mkF m 159 #[.val (.int x0), .val (.int x1), .val (.int x2), .val (.int x3), .val (.int x4), .val (.int x5), .val (.int (own_b x0)), .val (.int (own_b x1)), .val (.ref b153), .val (.ref b159), .val (.ref b167), .val (.ref b186), .val (.ref b207), .val (.ref b231), .val (.ref b260), .val (.int (x5 &&& (7 : Int32))), .val (.ref b231), .unset] [(.int (6 : Int32)), (.int (x5 &&& (7 : Int32)))]))
      by_cases hc159_310 : (x5 &&& (7 : Int32)) = (6 : Int32)
      · refine own_go (fun _ k => XS.icmpNo X279.here hx rfl (hb hby at_159) rfl ((teq hc159_310).2) k) ?_
        show own_G p.tables e below _ (T279.setTop (mkF m 162 #[.val (.int x0), .val (.int x1), .val (.int x2), .val (.int x3), .val (.int x4), .val (.int x5), .val (.int (own_b x0)), .val (.int (own_b x1)), .val (.ref b153), .val (.ref b159), .val (.ref b167), .val (.ref b186), .val (.ref b207), .val (.ref b231), .val (.ref b260), .val (.int (x5 &&& (7 : Int32))), .val (.ref b231), .unset] []))
        refine own_go (fun _ k => XS.aload X279.here hx rfl (hb hby at_162) rfl rfl k) ?_
        show own_G p.tables e below _ (T279.setTop (mkF m 164 #[.val (.int x0), .val (.int x1), .val (.int x2), .val (.int x3), .val (.int x4), .val (.int x5), .val (.int (own_b x0)), .val (.int (own_b x1)), .val (.ref b153), .val (.ref b159), .val (.ref b167), .val (.ref b186), .val (.ref b207), .val (.ref b231), .val (.ref b260), .val (.int (x5 &&& (7 : Int32))), .val (.ref b231), .unset] [(.ref b260)]))
        refine own_go (fun _ k => XS.astore X279.here hx rfl (hb hby at_164) rfl rfl (l' := #[.val (.int x0), .val (.int x1), .val (.int x2), .val (.int x3), .val (.int x4), .val (.int x5), .val (.int (own_b x0)), .val (.int (own_b x1)), .val (.ref b153), .val (.ref b159), .val (.ref b167), .val (.ref b186), .val (.ref b207), .val (.ref b231), .val (.ref b260), .val (.int (x5 &&& (7 : Int32))), .val (.ref b260), .unset]) rfl k) ?_
        show own_G p.tables e below _ (T279.setTop (mkF m 166 #[.val (.int x0), .val (.int x1), .val (.int x2), .val (.int x3), .val (.int x4), .val (.int x5), .val (.int (own_b x0)), .val (.int (own_b x1)), .val (.ref b153), .val (.ref b159), .val (.ref b167), .val (.ref b186), .val (.ref b207), .val (.ref b231), .val (.ref b260), .val (.int (x5 &&& (7 : Int32))), .val (.ref b260), .unset] []))
        refine own_go (fun _ k => XS.goto X279.here hx rfl (pc0 := 166) (pc' := 180) rfl (hb hby at_166) (by decide) (by decide) k) ?_
        show own_G p.tables e below _ (T279.setTop (mkF m 180 #[.val (.int x0), .val (.int x1), .val (.int x2), .val (.int x3), .val (.int x4), .val (.int x5), .val (.int (own_b x0)), .val (.int (own_b x1)), .val (.ref b153), .val (.ref b159), .val (.ref b167), .val (.ref b186), .val (.ref b207), .val (.ref b231), .val (.ref b260), .val (.int (x5 &&& (7 : Int32))), .val (.ref b260), .unset] []))
        refine own_go (fun _ k => XS.iload X279.here hx rfl (hb hby at_180) rfl k) ?_
        show own_G p.tables e below _ (T279.setTop (mkF m 182 #[.val (.int x0), .val (.int x1), .val (.int x2), .val (.int x3), .val (.int x4), .val (.int x5), .val (.int (own_b x0)), .val (.int (own_b x1)), .val (.ref b153), .val (.ref b159), .val (.ref b167), .val (.ref b186), .val (.ref b207), .val (.ref b231), .val (.ref b260), .val (.int (x5 &&& (7 : Int32))), .val (.ref b260), .unset] [(.int (x5 &&& (7 : Int32)))]))
        refine own_go (fun _ k => XS.iconst X279.here hx rfl (hb hby at_182) k) ?_
        show own_G p.tables e below _ (T279.setTop (mkF m 183 #[.val (.int x0), .val (.int x1), .val (.int x2), .val (.int x3), .val (.int x4), .val (.int x5), .val (.int (own_b x0)), .val (.int (own_b x1)), .val (.ref b153), .val (.ref b159), .val (.ref b167), .val (.ref b186), .val (.ref b207), .val (.ref b231), .val (.ref b260), .val (.int (x5 &&& (7 : Int32))), .val (.ref b260), .unset] [(.int (3 : Int32)), (.int (x5 &&& (7 : Int32)))]))
        by_cases hc183_311 : (3 : Int32) < (x5 &&& (7 : Int32))
        · refine own_go (fun _ k => XS.icmpYes X279.here hx rfl (pc0 := 183) (pc' := 203) rfl (hb hby at_183) rfl ((tlt hc183_311).2.2.1) (by decide) (by decide) k) ?_
          show own_G p.tables e below _ (T279.setTop (mkF m 203 #[.val (.int x0), .val (.int x1), .val (.int x2), .val (.int x3), .val (.int x4), .val (.int x5), .val (.int (own_b x0)), .val (.int (own_b x1)), .val (.ref b153), .val (.ref b159), .val (.ref b167), .val (.ref b186), .val (.ref b207), .val (.ref b231), .val (.ref b260), .val (.int (x5 &&& (7 : Int32))), .val (.ref b260), .unset] []))
          refine own_go (fun _ k => XS.iload X279.here hx rfl (hb hby at_203) rfl k) ?_
          show own_G p.tables e below _ (T279.setTop (mkF m 205 #[.val (.int x0), .val (.int x1), .val (.int x2), .val (.int x3), .val (.int x4), .val (.int x5), .val (.int (own_b x0)), .val (.int (own_b x1)), .val (.ref b153), .val (.ref b159), .val (.ref b167), .val (.ref b186), .val (.ref b207), .val (.ref b231), .val (.ref b260), .val (.int (x5 &&& (7 : Int32))), .val (.ref b260), .unset] [(.int (x5 &&& (7 : Int32)))]))
          refine own_go (fun _ k => XS.iconst X279.here hx rfl (hb hby at_205) k) ?_
          show own_G p.tables e below _ (T279.setTop (mkF m 206 #[.val (.int x0), .val (.int x1), .val (.int x2), .val (.int x3), .val (.int x4), .val (.int x5), .val (.int (own_b x0)), .val (.int (own_b x1)), .val (.ref b153), .val (.ref b159), .val (.ref b167), .val (.ref b186), .val (.ref b207), .val (.ref b231), .val (.ref b260), .val (.int (x5 &&& (7 : Int32))), .val (.ref b260), .unset] [(.int (4 : Int32)), (.int (x5 &&& (7 : Int32)))]))
          refine own_go (fun _ k => XS.icmpYes X279.here hx rfl (pc0 := 206) (pc' := 215) rfl (hb hby at_206) rfl ((feq hc133_292).2) (by decide) (by decide) k) ?_
          show own_G p.tables e below _ (T279.setTop (mkF m 215 #[.val (.int x0), .val (.int x1), .val (.int x2), .val (.int x3), .val (.int x4), .val (.int x5), .val (.int (own_b x0)), .val (.int (own_b x1)), .val (.ref b153), .val (.ref b159), .val (.ref b167), .val (.ref b186), .val (.ref b207), .val (.ref b231), .val (.ref b260), .val (.int (x5 &&& (7 : Int32))), .val (.ref b260), .unset] []))
          refine own_go (fun _ k => XS.iconst X279.here hx rfl (hb hby at_215) k) ?_
          show own_G p.tables e below _ (T279.setTop (mkF m 216 #[.val (.int x0), .val (.int x1), .val (.int x2), .val (.int x3), .val (.int x4), .val (.int x5), .val (.int (own_b x0)), .val (.int (own_b x1)), .val (.ref b153), .val (.ref b159), .val (.ref b167), .val (.ref b186), .val (.ref b207), .val (.ref b231), .val (.ref b260), .val (.int (x5 &&& (7 : Int32))), .val (.ref b260), .unset] [(.int (0 : Int32))]))
          refine own_go (fun _ k => XS.istore X279.here hx rfl (hb hby at_216) rfl (l' := #[.val (.int x0), .val (.int x1), .val (.int x2), .val (.int x3), .val (.int x4), .val (.int x5), .val (.int (own_b x0)), .val (.int (own_b x1)), .val (.ref b153), .val (.ref b159), .val (.ref b167), .val (.ref b186), .val (.ref b207), .val (.ref b231), .val (.ref b260), .val (.int (x5 &&& (7 : Int32))), .val (.ref b260), .val (.int (0 : Int32))]) rfl k) ?_
          show own_G p.tables e below _ (T279.setTop (mkF m 218 #[.val (.int x0), .val (.int x1), .val (.int x2), .val (.int x3), .val (.int x4), .val (.int x5), .val (.int (own_b x0)), .val (.int (own_b x1)), .val (.ref b153), .val (.ref b159), .val (.ref b167), .val (.ref b186), .val (.ref b207), .val (.ref b231), .val (.ref b260), .val (.int (x5 &&& (7 : Int32))), .val (.ref b260), .val (.int (0 : Int32))] []))
          refine own_go (fun _ k => XS.aload X279.here hx rfl (hb hby at_218) rfl rfl k) ?_
          show own_G p.tables e below _ (T279.setTop (mkF m 220 #[.val (.int x0), .val (.int x1), .val (.int x2), .val (.int x3), .val (.int x4), .val (.int x5), .val (.int (own_b x0)), .val (.int (own_b x1)), .val (.ref b153), .val (.ref b159), .val (.ref b167), .val (.ref b186), .val (.ref b207), .val (.ref b231), .val (.ref b260), .val (.int (x5 &&& (7 : Int32))), .val (.ref b260), .val (.int (0 : Int32))] [(.ref b207)]))
          refine own_go (fun _ k => XS.aload X279.here hx rfl (hb hby at_220) rfl rfl k) ?_
          show own_G p.tables e below _ (T279.setTop (mkF m 222 #[.val (.int x0), .val (.int x1), .val (.int x2), .val (.int x3), .val (.int x4), .val (.int x5), .val (.int (own_b x0)), .val (.int (own_b x1)), .val (.ref b153), .val (.ref b159), .val (.ref b167), .val (.ref b186), .val (.ref b207), .val (.ref b231), .val (.ref b260), .val (.int (x5 &&& (7 : Int32))), .val (.ref b260), .val (.int (0 : Int32))] [(.ref b260), (.ref b207)]))
          obtain ⟨T312, X312, e312, st312⟩ := own_callV X279 hx hZ (y := (⟨"com/example/ptah/ptah/model/BooleanNode", "equals", "(Ljava/lang/Object;)Z"⟩ : MethodName)) hown (hw _ (List.mem_of_getElem? (i := 75) rfl)) (hw _ (List.mem_of_getElem? (i := 76) rfl)) (hw _ (List.mem_of_getElem? (i := 78) rfl)) (hw _ (List.mem_of_getElem? (i := 77) rfl)) (hw _ (List.mem_of_getElem? (i := 49) rfl)) (hw _ (List.mem_of_getElem? (i := 79) rfl)) (by decide) (W := 0) (rm_eqnn l Z a0 hw [] b207 b260  T279.heap G_280) (by decide) (by decide) rfl rfl rfl X_285 (g := (mkF m 222 #[.val (.int x0), .val (.int x1), .val (.int x2), .val (.int x3), .val (.int x4), .val (.int x5), .val (.int (own_b x0)), .val (.int (own_b x1)), .val (.ref b153), .val (.ref b159), .val (.ref b167), .val (.ref b186), .val (.ref b207), .val (.ref b231), .val (.ref b260), .val (.int (x5 &&& (7 : Int32))), .val (.ref b260), .val (.int (0 : Int32))] [(.ref b260), (.ref b207)])) rfl (by rw [hml]; rfl) (argsL := [(.ref b260)]) (rest := []) (lenOf own_pd8 rfl) rfl rfl (by show 2 * 0 + _ ≤ _; exact Nat.le_of_eq rfl) (hb hby at_222) (by decide) (by decide)
          refine own_go st312 ?_
          show own_G p.tables e below _ (T312.setTop (mkF m 225 #[.val (.int x0), .val (.int x1), .val (.int x2), .val (.int x3), .val (.int x4), .val (.int x5), .val (.int (own_b x0)), .val (.int (own_b x1)), .val (.ref b153), .val (.ref b159), .val (.ref b167), .val (.ref b186), .val (.ref b207), .val (.ref b231), .val (.ref b260), .val (.int (x5 &&& (7 : Int32))), .val (.ref b260), .val (.int (0 : Int32))] [(.int (Feqnn ))]))
          refine own_go (fun _ k => XS.iload X312.here hx rfl (hb hby at_225) rfl k) ?_
          show own_G p.tables e below _ (T312.setTop (mkF m 227 #[.val (.int x0), .val (.int x1), .val (.int x2), .val (.int x3), .val (.int x4), .val (.int x5), .val (.int (own_b x0)), .val (.int (own_b x1)), .val (.ref b153), .val (.ref b159), .val (.ref b167), .val (.ref b186), .val (.ref b207), .val (.ref b231), .val (.ref b260), .val (.int (x5 &&& (7 : Int32))), .val (.ref b260), .val (.int (0 : Int32))] [(.int (0 : Int32)), (.int (Feqnn ))]))
          by_cases hc227_313 : (Feqnn ) = (0 : Int32)
          · refine own_go (fun _ k => XS.icmpNo X312.here hx rfl (hb hby at_227) rfl ((teq hc227_313).2) k) ?_
            show own_G p.tables e below _ (T312.setTop (mkF m 230 #[.val (.int x0), .val (.int x1), .val (.int x2), .val (.int x3), .val (.int x4), .val (.int x5), .val (.int (own_b x0)), .val (.int (own_b x1)), .val (.ref b153), .val (.ref b159), .val (.ref b167), .val (.ref b186), .val (.ref b207), .val (.ref b231), .val (.ref b260), .val (.int (x5 &&& (7 : Int32))), .val (.ref b260), .val (.int (0 : Int32))] []))
            refine own_go (fun _ k => XS.iconst X312.here hx rfl (hb hby at_230) k) ?_
            show own_G p.tables e below _ (T312.setTop (mkF m 231 #[.val (.int x0), .val (.int x1), .val (.int x2), .val (.int x3), .val (.int x4), .val (.int x5), .val (.int (own_b x0)), .val (.int (own_b x1)), .val (.ref b153), .val (.ref b159), .val (.ref b167), .val (.ref b186), .val (.ref b207), .val (.ref b231), .val (.ref b260), .val (.int (x5 &&& (7 : Int32))), .val (.ref b260), .val (.int (0 : Int32))] [(.int (1 : Int32))]))
            refine own_go (fun _ k => XS.goto X312.here hx rfl (pc0 := 231) (pc' := 235) rfl (hb hby at_231) (by decide) (by decide) k) ?_
            show own_G p.tables e below _ (T312.setTop (mkF m 235 #[.val (.int x0), .val (.int x1), .val (.int x2), .val (.int x3), .val (.int x4), .val (.int x5), .val (.int (own_b x0)), .val (.int (own_b x1)), .val (.ref b153), .val (.ref b159), .val (.ref b167), .val (.ref b186), .val (.ref b207), .val (.ref b231), .val (.ref b260), .val (.int (x5 &&& (7 : Int32))), .val (.ref b260), .val (.int (0 : Int32))] [(.int (1 : Int32))]))
            exact own_endW X312 Bd.notSynchronized hS (by rw [e312]; exact hk279) (v := some (.int (nar .boolean (1 : Int32)))) (fun h => by rw [Bd.returns] at h; cases h) (Q := QL (some (.int (F0 x0 x1 x2 x3 x4 x5))) n0) ⟨by unfold F0; simp only [if_neg hc133_292, if_neg hc146_301, if_pos hc159_310, if_pos hc183_311, if_pos hc227_313]; try rfl, N_279⟩ (fun fs hr => retN X312 hx (t := .boolean) Bd.returns (by simp) (hb hby at_235) hr) (by decide) (by decide)
          · refine own_go (fun _ k => XS.icmpYes X312.here hx rfl (pc0 := 227) (pc' := 234) rfl (hb hby at_227) rfl ((feq hc227_313).2) (by decide) (by decide) k) ?_
            show own_G p.tables e below _ (T312.setTop (mkF m 234 #[.val (.int x0), .val (.int x1), .val (.int x2), .val (.int x3), .val (.int x4), .val (.int x5), .val (.int (own_b x0)), .val (.int (own_b x1)), .val (.ref b153), .val (.ref b159), .val (.ref b167), .val (.ref b186), .val (.ref b207), .val (.ref b231), .val (.ref b260), .val (.int (x5 &&& (7 : Int32))), .val (.ref b260), .val (.int (0 : Int32))] []))
            refine own_go (fun _ k => XS.iconst X312.here hx rfl (hb hby at_234) k) ?_
            show own_G p.tables e below _ (T312.setTop (mkF m 235 #[.val (.int x0), .val (.int x1), .val (.int x2), .val (.int x3), .val (.int x4), .val (.int x5), .val (.int (own_b x0)), .val (.int (own_b x1)), .val (.ref b153), .val (.ref b159), .val (.ref b167), .val (.ref b186), .val (.ref b207), .val (.ref b231), .val (.ref b260), .val (.int (x5 &&& (7 : Int32))), .val (.ref b260), .val (.int (0 : Int32))] [(.int (0 : Int32))]))
            exact own_endW X312 Bd.notSynchronized hS (by rw [e312]; exact hk279) (v := some (.int (nar .boolean (0 : Int32)))) (fun h => by rw [Bd.returns] at h; cases h) (Q := QL (some (.int (F0 x0 x1 x2 x3 x4 x5))) n0) ⟨by unfold F0; simp only [if_neg hc133_292, if_neg hc146_301, if_pos hc159_310, if_pos hc183_311, if_neg hc227_313]; try rfl, N_279⟩ (fun fs hr => retN X312 hx (t := .boolean) Bd.returns (by simp) (hb hby at_235) hr) (by decide) (by decide)
        · refine own_go (fun _ k => XS.icmpNo X279.here hx rfl (hb hby at_183) rfl ((flt hc183_311).2.2.1) k) ?_
          show own_G p.tables e below _ (T279.setTop (mkF m 186 #[.val (.int x0), .val (.int x1), .val (.int x2), .val (.int x3), .val (.int x4), .val (.int x5), .val (.int (own_b x0)), .val (.int (own_b x1)), .val (.ref b153), .val (.ref b159), .val (.ref b167), .val (.ref b186), .val (.ref b207), .val (.ref b231), .val (.ref b260), .val (.int (x5 &&& (7 : Int32))), .val (.ref b260), .unset] []))
          refine own_go (fun _ k => XS.iload X279.here hx rfl (hb hby at_186) rfl k) ?_
          show own_G p.tables e below _ (T279.setTop (mkF m 188 #[.val (.int x0), .val (.int x1), .val (.int x2), .val (.int x3), .val (.int x4), .val (.int x5), .val (.int (own_b x0)), .val (.int (own_b x1)), .val (.ref b153), .val (.ref b159), .val (.ref b167), .val (.ref b186), .val (.ref b207), .val (.ref b231), .val (.ref b260), .val (.int (x5 &&& (7 : Int32))), .val (.ref b260), .unset] [(.int (own_b x0))]))
          refine own_go (fun _ k => XS.iload X279.here hx rfl (hb hby at_188) rfl k) ?_
          show own_G p.tables e below _ (T279.setTop (mkF m 190 #[.val (.int x0), .val (.int x1), .val (.int x2), .val (.int x3), .val (.int x4), .val (.int x5), .val (.int (own_b x0)), .val (.int (own_b x1)), .val (.ref b153), .val (.ref b159), .val (.ref b167), .val (.ref b186), .val (.ref b207), .val (.ref b231), .val (.ref b260), .val (.int (x5 &&& (7 : Int32))), .val (.ref b260), .unset] [(.int (own_b x1)), (.int (own_b x0))]))
          by_cases hc190_314 : (own_b x0) = (own_b x1)
          · refine own_go (fun _ k => XS.icmpNo X279.here hx rfl (hb hby at_190) rfl ((teq hc190_314).2) k) ?_
            show own_G p.tables e below _ (T279.setTop (mkF m 193 #[.val (.int x0), .val (.int x1), .val (.int x2), .val (.int x3), .val (.int x4), .val (.int x5), .val (.int (own_b x0)), .val (.int (own_b x1)), .val (.ref b153), .val (.ref b159), .val (.ref b167), .val (.ref b186), .val (.ref b207), .val (.ref b231), .val (.ref b260), .val (.int (x5 &&& (7 : Int32))), .val (.ref b260), .unset] []))
            refine own_go (fun _ k => XS.iconst X279.here hx rfl (hb hby at_193) k) ?_
            show own_G p.tables e below _ (T279.setTop (mkF m 194 #[.val (.int x0), .val (.int x1), .val (.int x2), .val (.int x3), .val (.int x4), .val (.int x5), .val (.int (own_b x0)), .val (.int (own_b x1)), .val (.ref b153), .val (.ref b159), .val (.ref b167), .val (.ref b186), .val (.ref b207), .val (.ref b231), .val (.ref b260), .val (.int (x5 &&& (7 : Int32))), .val (.ref b260), .unset] [(.int (1 : Int32))]))
            refine own_go (fun _ k => XS.goto X279.here hx rfl (pc0 := 194) (pc' := 198) rfl (hb hby at_194) (by decide) (by decide) k) ?_
            show own_G p.tables e below _ (T279.setTop (mkF m 198 #[.val (.int x0), .val (.int x1), .val (.int x2), .val (.int x3), .val (.int x4), .val (.int x5), .val (.int (own_b x0)), .val (.int (own_b x1)), .val (.ref b153), .val (.ref b159), .val (.ref b167), .val (.ref b186), .val (.ref b207), .val (.ref b231), .val (.ref b260), .val (.int (x5 &&& (7 : Int32))), .val (.ref b260), .unset] [(.int (1 : Int32))]))
            refine own_go (fun _ k => XS.istore X279.here hx rfl (hb hby at_198) rfl (l' := #[.val (.int x0), .val (.int x1), .val (.int x2), .val (.int x3), .val (.int x4), .val (.int x5), .val (.int (own_b x0)), .val (.int (own_b x1)), .val (.ref b153), .val (.ref b159), .val (.ref b167), .val (.ref b186), .val (.ref b207), .val (.ref b231), .val (.ref b260), .val (.int (x5 &&& (7 : Int32))), .val (.ref b260), .val (.int (1 : Int32))]) rfl k) ?_
            show own_G p.tables e below _ (T279.setTop (mkF m 200 #[.val (.int x0), .val (.int x1), .val (.int x2), .val (.int x3), .val (.int x4), .val (.int x5), .val (.int (own_b x0)), .val (.int (own_b x1)), .val (.ref b153), .val (.ref b159), .val (.ref b167), .val (.ref b186), .val (.ref b207), .val (.ref b231), .val (.ref b260), .val (.int (x5 &&& (7 : Int32))), .val (.ref b260), .val (.int (1 : Int32))] []))
            refine own_go (fun _ k => XS.goto X279.here hx rfl (pc0 := 200) (pc' := 218) rfl (hb hby at_200) (by decide) (by decide) k) ?_
            show own_G p.tables e below _ (T279.setTop (mkF m 218 #[.val (.int x0), .val (.int x1), .val (.int x2), .val (.int x3), .val (.int x4), .val (.int x5), .val (.int (own_b x0)), .val (.int (own_b x1)), .val (.ref b153), .val (.ref b159), .val (.ref b167), .val (.ref b186), .val (.ref b207), .val (.ref b231), .val (.ref b260), .val (.int (x5 &&& (7 : Int32))), .val (.ref b260), .val (.int (1 : Int32))] []))
            refine own_go (fun _ k => XS.aload X279.here hx rfl (hb hby at_218) rfl rfl k) ?_
            show own_G p.tables e below _ (T279.setTop (mkF m 220 #[.val (.int x0), .val (.int x1), .val (.int x2), .val (.int x3), .val (.int x4), .val (.int x5), .val (.int (own_b x0)), .val (.int (own_b x1)), .val (.ref b153), .val (.ref b159), .val (.ref b167), .val (.ref b186), .val (.ref b207), .val (.ref b231), .val (.ref b260), .val (.int (x5 &&& (7 : Int32))), .val (.ref b260), .val (.int (1 : Int32))] [(.ref b207)]))
            refine own_go (fun _ k => XS.aload X279.here hx rfl (hb hby at_220) rfl rfl k) ?_
            show own_G p.tables e below _ (T279.setTop (mkF m 222 #[.val (.int x0), .val (.int x1), .val (.int x2), .val (.int x3), .val (.int x4), .val (.int x5), .val (.int (own_b x0)), .val (.int (own_b x1)), .val (.ref b153), .val (.ref b159), .val (.ref b167), .val (.ref b186), .val (.ref b207), .val (.ref b231), .val (.ref b260), .val (.int (x5 &&& (7 : Int32))), .val (.ref b260), .val (.int (1 : Int32))] [(.ref b260), (.ref b207)]))
            obtain ⟨T315, X315, e315, st315⟩ := own_callV X279 hx hZ (y := (⟨"com/example/ptah/ptah/model/BooleanNode", "equals", "(Ljava/lang/Object;)Z"⟩ : MethodName)) hown (hw _ (List.mem_of_getElem? (i := 75) rfl)) (hw _ (List.mem_of_getElem? (i := 76) rfl)) (hw _ (List.mem_of_getElem? (i := 78) rfl)) (hw _ (List.mem_of_getElem? (i := 77) rfl)) (hw _ (List.mem_of_getElem? (i := 49) rfl)) (hw _ (List.mem_of_getElem? (i := 79) rfl)) (by decide) (W := 0) (rm_eqnn l Z a0 hw [] b207 b260  T279.heap G_280) (by decide) (by decide) rfl rfl rfl X_285 (g := (mkF m 222 #[.val (.int x0), .val (.int x1), .val (.int x2), .val (.int x3), .val (.int x4), .val (.int x5), .val (.int (own_b x0)), .val (.int (own_b x1)), .val (.ref b153), .val (.ref b159), .val (.ref b167), .val (.ref b186), .val (.ref b207), .val (.ref b231), .val (.ref b260), .val (.int (x5 &&& (7 : Int32))), .val (.ref b260), .val (.int (1 : Int32))] [(.ref b260), (.ref b207)])) rfl (by rw [hml]; rfl) (argsL := [(.ref b260)]) (rest := []) (lenOf own_pd8 rfl) rfl rfl (by show 2 * 0 + _ ≤ _; exact Nat.le_of_eq rfl) (hb hby at_222) (by decide) (by decide)
            refine own_go st315 ?_
            show own_G p.tables e below _ (T315.setTop (mkF m 225 #[.val (.int x0), .val (.int x1), .val (.int x2), .val (.int x3), .val (.int x4), .val (.int x5), .val (.int (own_b x0)), .val (.int (own_b x1)), .val (.ref b153), .val (.ref b159), .val (.ref b167), .val (.ref b186), .val (.ref b207), .val (.ref b231), .val (.ref b260), .val (.int (x5 &&& (7 : Int32))), .val (.ref b260), .val (.int (1 : Int32))] [(.int (Feqnn ))]))
            refine own_go (fun _ k => XS.iload X315.here hx rfl (hb hby at_225) rfl k) ?_
            show own_G p.tables e below _ (T315.setTop (mkF m 227 #[.val (.int x0), .val (.int x1), .val (.int x2), .val (.int x3), .val (.int x4), .val (.int x5), .val (.int (own_b x0)), .val (.int (own_b x1)), .val (.ref b153), .val (.ref b159), .val (.ref b167), .val (.ref b186), .val (.ref b207), .val (.ref b231), .val (.ref b260), .val (.int (x5 &&& (7 : Int32))), .val (.ref b260), .val (.int (1 : Int32))] [(.int (1 : Int32)), (.int (Feqnn ))]))
            by_cases hc227_316 : (Feqnn ) = (1 : Int32)
            · refine own_go (fun _ k => XS.icmpNo X315.here hx rfl (hb hby at_227) rfl ((teq hc227_316).2) k) ?_
              show own_G p.tables e below _ (T315.setTop (mkF m 230 #[.val (.int x0), .val (.int x1), .val (.int x2), .val (.int x3), .val (.int x4), .val (.int x5), .val (.int (own_b x0)), .val (.int (own_b x1)), .val (.ref b153), .val (.ref b159), .val (.ref b167), .val (.ref b186), .val (.ref b207), .val (.ref b231), .val (.ref b260), .val (.int (x5 &&& (7 : Int32))), .val (.ref b260), .val (.int (1 : Int32))] []))
              refine own_go (fun _ k => XS.iconst X315.here hx rfl (hb hby at_230) k) ?_
              show own_G p.tables e below _ (T315.setTop (mkF m 231 #[.val (.int x0), .val (.int x1), .val (.int x2), .val (.int x3), .val (.int x4), .val (.int x5), .val (.int (own_b x0)), .val (.int (own_b x1)), .val (.ref b153), .val (.ref b159), .val (.ref b167), .val (.ref b186), .val (.ref b207), .val (.ref b231), .val (.ref b260), .val (.int (x5 &&& (7 : Int32))), .val (.ref b260), .val (.int (1 : Int32))] [(.int (1 : Int32))]))
              refine own_go (fun _ k => XS.goto X315.here hx rfl (pc0 := 231) (pc' := 235) rfl (hb hby at_231) (by decide) (by decide) k) ?_
              show own_G p.tables e below _ (T315.setTop (mkF m 235 #[.val (.int x0), .val (.int x1), .val (.int x2), .val (.int x3), .val (.int x4), .val (.int x5), .val (.int (own_b x0)), .val (.int (own_b x1)), .val (.ref b153), .val (.ref b159), .val (.ref b167), .val (.ref b186), .val (.ref b207), .val (.ref b231), .val (.ref b260), .val (.int (x5 &&& (7 : Int32))), .val (.ref b260), .val (.int (1 : Int32))] [(.int (1 : Int32))]))
              exact own_endW X315 Bd.notSynchronized hS (by rw [e315]; exact hk279) (v := some (.int (nar .boolean (1 : Int32)))) (fun h => by rw [Bd.returns] at h; cases h) (Q := QL (some (.int (F0 x0 x1 x2 x3 x4 x5))) n0) ⟨by unfold F0; simp only [if_neg hc133_292, if_neg hc146_301, if_pos hc159_310, if_neg hc183_311, if_pos hc190_314, if_pos hc227_316]; try rfl, N_279⟩ (fun fs hr => retN X315 hx (t := .boolean) Bd.returns (by simp) (hb hby at_235) hr) (by decide) (by decide)
            · refine own_go (fun _ k => XS.icmpYes X315.here hx rfl (pc0 := 227) (pc' := 234) rfl (hb hby at_227) rfl ((feq hc227_316).2) (by decide) (by decide) k) ?_
              show own_G p.tables e below _ (T315.setTop (mkF m 234 #[.val (.int x0), .val (.int x1), .val (.int x2), .val (.int x3), .val (.int x4), .val (.int x5), .val (.int (own_b x0)), .val (.int (own_b x1)), .val (.ref b153), .val (.ref b159), .val (.ref b167), .val (.ref b186), .val (.ref b207), .val (.ref b231), .val (.ref b260), .val (.int (x5 &&& (7 : Int32))), .val (.ref b260), .val (.int (1 : Int32))] []))
              refine own_go (fun _ k => XS.iconst X315.here hx rfl (hb hby at_234) k) ?_
              show own_G p.tables e below _ (T315.setTop (mkF m 235 #[.val (.int x0), .val (.int x1), .val (.int x2), .val (.int x3), .val (.int x4), .val (.int x5), .val (.int (own_b x0)), .val (.int (own_b x1)), .val (.ref b153), .val (.ref b159), .val (.ref b167), .val (.ref b186), .val (.ref b207), .val (.ref b231), .val (.ref b260), .val (.int (x5 &&& (7 : Int32))), .val (.ref b260), .val (.int (1 : Int32))] [(.int (0 : Int32))]))
              exact own_endW X315 Bd.notSynchronized hS (by rw [e315]; exact hk279) (v := some (.int (nar .boolean (0 : Int32)))) (fun h => by rw [Bd.returns] at h; cases h) (Q := QL (some (.int (F0 x0 x1 x2 x3 x4 x5))) n0) ⟨by unfold F0; simp only [if_neg hc133_292, if_neg hc146_301, if_pos hc159_310, if_neg hc183_311, if_pos hc190_314, if_neg hc227_316]; try rfl, N_279⟩ (fun fs hr => retN X315 hx (t := .boolean) Bd.returns (by simp) (hb hby at_235) hr) (by decide) (by decide)
          · refine own_go (fun _ k => XS.icmpYes X279.here hx rfl (pc0 := 190) (pc' := 197) rfl (hb hby at_190) rfl ((feq hc190_314).2) (by decide) (by decide) k) ?_
            show own_G p.tables e below _ (T279.setTop (mkF m 197 #[.val (.int x0), .val (.int x1), .val (.int x2), .val (.int x3), .val (.int x4), .val (.int x5), .val (.int (own_b x0)), .val (.int (own_b x1)), .val (.ref b153), .val (.ref b159), .val (.ref b167), .val (.ref b186), .val (.ref b207), .val (.ref b231), .val (.ref b260), .val (.int (x5 &&& (7 : Int32))), .val (.ref b260), .unset] []))
            refine own_go (fun _ k => XS.iconst X279.here hx rfl (hb hby at_197) k) ?_
            show own_G p.tables e below _ (T279.setTop (mkF m 198 #[.val (.int x0), .val (.int x1), .val (.int x2), .val (.int x3), .val (.int x4), .val (.int x5), .val (.int (own_b x0)), .val (.int (own_b x1)), .val (.ref b153), .val (.ref b159), .val (.ref b167), .val (.ref b186), .val (.ref b207), .val (.ref b231), .val (.ref b260), .val (.int (x5 &&& (7 : Int32))), .val (.ref b260), .unset] [(.int (0 : Int32))]))
            refine own_go (fun _ k => XS.istore X279.here hx rfl (hb hby at_198) rfl (l' := #[.val (.int x0), .val (.int x1), .val (.int x2), .val (.int x3), .val (.int x4), .val (.int x5), .val (.int (own_b x0)), .val (.int (own_b x1)), .val (.ref b153), .val (.ref b159), .val (.ref b167), .val (.ref b186), .val (.ref b207), .val (.ref b231), .val (.ref b260), .val (.int (x5 &&& (7 : Int32))), .val (.ref b260), .val (.int (0 : Int32))]) rfl k) ?_
            show own_G p.tables e below _ (T279.setTop (mkF m 200 #[.val (.int x0), .val (.int x1), .val (.int x2), .val (.int x3), .val (.int x4), .val (.int x5), .val (.int (own_b x0)), .val (.int (own_b x1)), .val (.ref b153), .val (.ref b159), .val (.ref b167), .val (.ref b186), .val (.ref b207), .val (.ref b231), .val (.ref b260), .val (.int (x5 &&& (7 : Int32))), .val (.ref b260), .val (.int (0 : Int32))] []))
            refine own_go (fun _ k => XS.goto X279.here hx rfl (pc0 := 200) (pc' := 218) rfl (hb hby at_200) (by decide) (by decide) k) ?_
            show own_G p.tables e below _ (T279.setTop (mkF m 218 #[.val (.int x0), .val (.int x1), .val (.int x2), .val (.int x3), .val (.int x4), .val (.int x5), .val (.int (own_b x0)), .val (.int (own_b x1)), .val (.ref b153), .val (.ref b159), .val (.ref b167), .val (.ref b186), .val (.ref b207), .val (.ref b231), .val (.ref b260), .val (.int (x5 &&& (7 : Int32))), .val (.ref b260), .val (.int (0 : Int32))] []))
            refine own_go (fun _ k => XS.aload X279.here hx rfl (hb hby at_218) rfl rfl k) ?_
            show own_G p.tables e below _ (T279.setTop (mkF m 220 #[.val (.int x0), .val (.int x1), .val (.int x2), .val (.int x3), .val (.int x4), .val (.int x5), .val (.int (own_b x0)), .val (.int (own_b x1)), .val (.ref b153), .val (.ref b159), .val (.ref b167), .val (.ref b186), .val (.ref b207), .val (.ref b231), .val (.ref b260), .val (.int (x5 &&& (7 : Int32))), .val (.ref b260), .val (.int (0 : Int32))] [(.ref b207)]))
            refine own_go (fun _ k => XS.aload X279.here hx rfl (hb hby at_220) rfl rfl k) ?_
            show own_G p.tables e below _ (T279.setTop (mkF m 222 #[.val (.int x0), .val (.int x1), .val (.int x2), .val (.int x3), .val (.int x4), .val (.int x5), .val (.int (own_b x0)), .val (.int (own_b x1)), .val (.ref b153), .val (.ref b159), .val (.ref b167), .val (.ref b186), .val (.ref b207), .val (.ref b231), .val (.ref b260), .val (.int (x5 &&& (7 : Int32))), .val (.ref b260), .val (.int (0 : Int32))] [(.ref b260), (.ref b207)]))
            obtain ⟨T317, X317, e317, st317⟩ := own_callV X279 hx hZ (y := (⟨"com/example/ptah/ptah/model/BooleanNode", "equals", "(Ljava/lang/Object;)Z"⟩ : MethodName)) hown (hw _ (List.mem_of_getElem? (i := 75) rfl)) (hw _ (List.mem_of_getElem? (i := 76) rfl)) (hw _ (List.mem_of_getElem? (i := 78) rfl)) (hw _ (List.mem_of_getElem? (i := 77) rfl)) (hw _ (List.mem_of_getElem? (i := 49) rfl)) (hw _ (List.mem_of_getElem? (i := 79) rfl)) (by decide) (W := 0) (rm_eqnn l Z a0 hw [] b207 b260  T279.heap G_280) (by decide) (by decide) rfl rfl rfl X_285 (g := (mkF m 222 #[.val (.int x0), .val (.int x1), .val (.int x2), .val (.int x3), .val (.int x4), .val (.int x5), .val (.int (own_b x0)), .val (.int (own_b x1)), .val (.ref b153), .val (.ref b159), .val (.ref b167), .val (.ref b186), .val (.ref b207), .val (.ref b231), .val (.ref b260), .val (.int (x5 &&& (7 : Int32))), .val (.ref b260), .val (.int (0 : Int32))] [(.ref b260), (.ref b207)])) rfl (by rw [hml]; rfl) (argsL := [(.ref b260)]) (rest := []) (lenOf own_pd8 rfl) rfl rfl (by show 2 * 0 + _ ≤ _; exact Nat.le_of_eq rfl) (hb hby at_222) (by decide) (by decide)
            refine own_go st317 ?_
            show own_G p.tables e below _ (T317.setTop (mkF m 225 #[.val (.int x0), .val (.int x1), .val (.int x2), .val (.int x3), .val (.int x4), .val (.int x5), .val (.int (own_b x0)), .val (.int (own_b x1)), .val (.ref b153), .val (.ref b159), .val (.ref b167), .val (.ref b186), .val (.ref b207), .val (.ref b231), .val (.ref b260), .val (.int (x5 &&& (7 : Int32))), .val (.ref b260), .val (.int (0 : Int32))] [(.int (Feqnn ))]))
            refine own_go (fun _ k => XS.iload X317.here hx rfl (hb hby at_225) rfl k) ?_
            show own_G p.tables e below _ (T317.setTop (mkF m 227 #[.val (.int x0), .val (.int x1), .val (.int x2), .val (.int x3), .val (.int x4), .val (.int x5), .val (.int (own_b x0)), .val (.int (own_b x1)), .val (.ref b153), .val (.ref b159), .val (.ref b167), .val (.ref b186), .val (.ref b207), .val (.ref b231), .val (.ref b260), .val (.int (x5 &&& (7 : Int32))), .val (.ref b260), .val (.int (0 : Int32))] [(.int (0 : Int32)), (.int (Feqnn ))]))
            by_cases hc227_318 : (Feqnn ) = (0 : Int32)
            · refine own_go (fun _ k => XS.icmpNo X317.here hx rfl (hb hby at_227) rfl ((teq hc227_318).2) k) ?_
              show own_G p.tables e below _ (T317.setTop (mkF m 230 #[.val (.int x0), .val (.int x1), .val (.int x2), .val (.int x3), .val (.int x4), .val (.int x5), .val (.int (own_b x0)), .val (.int (own_b x1)), .val (.ref b153), .val (.ref b159), .val (.ref b167), .val (.ref b186), .val (.ref b207), .val (.ref b231), .val (.ref b260), .val (.int (x5 &&& (7 : Int32))), .val (.ref b260), .val (.int (0 : Int32))] []))
              refine own_go (fun _ k => XS.iconst X317.here hx rfl (hb hby at_230) k) ?_
              show own_G p.tables e below _ (T317.setTop (mkF m 231 #[.val (.int x0), .val (.int x1), .val (.int x2), .val (.int x3), .val (.int x4), .val (.int x5), .val (.int (own_b x0)), .val (.int (own_b x1)), .val (.ref b153), .val (.ref b159), .val (.ref b167), .val (.ref b186), .val (.ref b207), .val (.ref b231), .val (.ref b260), .val (.int (x5 &&& (7 : Int32))), .val (.ref b260), .val (.int (0 : Int32))] [(.int (1 : Int32))]))
              refine own_go (fun _ k => XS.goto X317.here hx rfl (pc0 := 231) (pc' := 235) rfl (hb hby at_231) (by decide) (by decide) k) ?_
              show own_G p.tables e below _ (T317.setTop (mkF m 235 #[.val (.int x0), .val (.int x1), .val (.int x2), .val (.int x3), .val (.int x4), .val (.int x5), .val (.int (own_b x0)), .val (.int (own_b x1)), .val (.ref b153), .val (.ref b159), .val (.ref b167), .val (.ref b186), .val (.ref b207), .val (.ref b231), .val (.ref b260), .val (.int (x5 &&& (7 : Int32))), .val (.ref b260), .val (.int (0 : Int32))] [(.int (1 : Int32))]))
              exact own_endW X317 Bd.notSynchronized hS (by rw [e317]; exact hk279) (v := some (.int (nar .boolean (1 : Int32)))) (fun h => by rw [Bd.returns] at h; cases h) (Q := QL (some (.int (F0 x0 x1 x2 x3 x4 x5))) n0) ⟨by unfold F0; simp only [if_neg hc133_292, if_neg hc146_301, if_pos hc159_310, if_neg hc183_311, if_neg hc190_314, if_pos hc227_318]; try rfl, N_279⟩ (fun fs hr => retN X317 hx (t := .boolean) Bd.returns (by simp) (hb hby at_235) hr) (by decide) (by decide)
            · refine own_go (fun _ k => XS.icmpYes X317.here hx rfl (pc0 := 227) (pc' := 234) rfl (hb hby at_227) rfl ((feq hc227_318).2) (by decide) (by decide) k) ?_
              show own_G p.tables e below _ (T317.setTop (mkF m 234 #[.val (.int x0), .val (.int x1), .val (.int x2), .val (.int x3), .val (.int x4), .val (.int x5), .val (.int (own_b x0)), .val (.int (own_b x1)), .val (.ref b153), .val (.ref b159), .val (.ref b167), .val (.ref b186), .val (.ref b207), .val (.ref b231), .val (.ref b260), .val (.int (x5 &&& (7 : Int32))), .val (.ref b260), .val (.int (0 : Int32))] []))
              refine own_go (fun _ k => XS.iconst X317.here hx rfl (hb hby at_234) k) ?_
              show own_G p.tables e below _ (T317.setTop (mkF m 235 #[.val (.int x0), .val (.int x1), .val (.int x2), .val (.int x3), .val (.int x4), .val (.int x5), .val (.int (own_b x0)), .val (.int (own_b x1)), .val (.ref b153), .val (.ref b159), .val (.ref b167), .val (.ref b186), .val (.ref b207), .val (.ref b231), .val (.ref b260), .val (.int (x5 &&& (7 : Int32))), .val (.ref b260), .val (.int (0 : Int32))] [(.int (0 : Int32))]))
              exact own_endW X317 Bd.notSynchronized hS (by rw [e317]; exact hk279) (v := some (.int (nar .boolean (0 : Int32)))) (fun h => by rw [Bd.returns] at h; cases h) (Q := QL (some (.int (F0 x0 x1 x2 x3 x4 x5))) n0) ⟨by unfold F0; simp only [if_neg hc133_292, if_neg hc146_301, if_pos hc159_310, if_neg hc183_311, if_neg hc190_314, if_neg hc227_318]; try rfl, N_279⟩ (fun fs hr => retN X317 hx (t := .boolean) Bd.returns (by simp) (hb hby at_235) hr) (by decide) (by decide)
      · refine own_go (fun _ k => XS.icmpYes X279.here hx rfl (pc0 := 159) (pc' := 169) rfl (hb hby at_159) rfl ((feq hc159_310).2) (by decide) (by decide) k) ?_
        show own_G p.tables e below _ (T279.setTop (mkF m 169 #[.val (.int x0), .val (.int x1), .val (.int x2), .val (.int x3), .val (.int x4), .val (.int x5), .val (.int (own_b x0)), .val (.int (own_b x1)), .val (.ref b153), .val (.ref b159), .val (.ref b167), .val (.ref b186), .val (.ref b207), .val (.ref b231), .val (.ref b260), .val (.int (x5 &&& (7 : Int32))), .val (.ref b231), .unset] []))
        refine own_go (fun _ k => XS.iload X279.here hx rfl (hb hby at_169) rfl k) ?_
        show own_G p.tables e below _ (T279.setTop (mkF m 171 #[.val (.int x0), .val (.int x1), .val (.int x2), .val (.int x3), .val (.int x4), .val (.int x5), .val (.int (own_b x0)), .val (.int (own_b x1)), .val (.ref b153), .val (.ref b159), .val (.ref b167), .val (.ref b186), .val (.ref b207), .val (.ref b231), .val (.ref b260), .val (.int (x5 &&& (7 : Int32))), .val (.ref b231), .unset] [(.int (x5 &&& (7 : Int32)))]))
        refine own_go (fun _ k => XS.bipush X279.here hx rfl (hb hby at_171) k) ?_
        show own_G p.tables e below _ (T279.setTop (mkF m 173 #[.val (.int x0), .val (.int x1), .val (.int x2), .val (.int x3), .val (.int x4), .val (.int x5), .val (.int (own_b x0)), .val (.int (own_b x1)), .val (.ref b153), .val (.ref b159), .val (.ref b167), .val (.ref b186), .val (.ref b207), .val (.ref b231), .val (.ref b260), .val (.int (x5 &&& (7 : Int32))), .val (.ref b231), .unset] [(.int (7 : Int32)), (.int (x5 &&& (7 : Int32)))]))
        by_cases hc173_319 : (x5 &&& (7 : Int32)) = (7 : Int32)
        · refine own_go (fun _ k => XS.icmpNo X279.here hx rfl (hb hby at_173) rfl ((teq hc173_319).2) k) ?_
          show own_G p.tables e below _ (T279.setTop (mkF m 176 #[.val (.int x0), .val (.int x1), .val (.int x2), .val (.int x3), .val (.int x4), .val (.int x5), .val (.int (own_b x0)), .val (.int (own_b x1)), .val (.ref b153), .val (.ref b159), .val (.ref b167), .val (.ref b186), .val (.ref b207), .val (.ref b231), .val (.ref b260), .val (.int (x5 &&& (7 : Int32))), .val (.ref b231), .unset] []))
          refine own_go (fun _ k => XS.aload X279.here hx rfl (hb hby at_176) rfl rfl k) ?_
          show own_G p.tables e below _ (T279.setTop (mkF m 178 #[.val (.int x0), .val (.int x1), .val (.int x2), .val (.int x3), .val (.int x4), .val (.int x5), .val (.int (own_b x0)), .val (.int (own_b x1)), .val (.ref b153), .val (.ref b159), .val (.ref b167), .val (.ref b186), .val (.ref b207), .val (.ref b231), .val (.ref b260), .val (.int (x5 &&& (7 : Int32))), .val (.ref b231), .unset] [(.ref b167)]))
          refine own_go (fun _ k => XS.astore X279.here hx rfl (hb hby at_178) rfl rfl (l' := #[.val (.int x0), .val (.int x1), .val (.int x2), .val (.int x3), .val (.int x4), .val (.int x5), .val (.int (own_b x0)), .val (.int (own_b x1)), .val (.ref b153), .val (.ref b159), .val (.ref b167), .val (.ref b186), .val (.ref b207), .val (.ref b231), .val (.ref b260), .val (.int (x5 &&& (7 : Int32))), .val (.ref b167), .unset]) rfl k) ?_
          show own_G p.tables e below _ (T279.setTop (mkF m 180 #[.val (.int x0), .val (.int x1), .val (.int x2), .val (.int x3), .val (.int x4), .val (.int x5), .val (.int (own_b x0)), .val (.int (own_b x1)), .val (.ref b153), .val (.ref b159), .val (.ref b167), .val (.ref b186), .val (.ref b207), .val (.ref b231), .val (.ref b260), .val (.int (x5 &&& (7 : Int32))), .val (.ref b167), .unset] []))
          refine own_go (fun _ k => XS.iload X279.here hx rfl (hb hby at_180) rfl k) ?_
          show own_G p.tables e below _ (T279.setTop (mkF m 182 #[.val (.int x0), .val (.int x1), .val (.int x2), .val (.int x3), .val (.int x4), .val (.int x5), .val (.int (own_b x0)), .val (.int (own_b x1)), .val (.ref b153), .val (.ref b159), .val (.ref b167), .val (.ref b186), .val (.ref b207), .val (.ref b231), .val (.ref b260), .val (.int (x5 &&& (7 : Int32))), .val (.ref b167), .unset] [(.int (x5 &&& (7 : Int32)))]))
          refine own_go (fun _ k => XS.iconst X279.here hx rfl (hb hby at_182) k) ?_
          show own_G p.tables e below _ (T279.setTop (mkF m 183 #[.val (.int x0), .val (.int x1), .val (.int x2), .val (.int x3), .val (.int x4), .val (.int x5), .val (.int (own_b x0)), .val (.int (own_b x1)), .val (.ref b153), .val (.ref b159), .val (.ref b167), .val (.ref b186), .val (.ref b207), .val (.ref b231), .val (.ref b260), .val (.int (x5 &&& (7 : Int32))), .val (.ref b167), .unset] [(.int (3 : Int32)), (.int (x5 &&& (7 : Int32)))]))
          by_cases hc183_320 : (3 : Int32) < (x5 &&& (7 : Int32))
          · refine own_go (fun _ k => XS.icmpYes X279.here hx rfl (pc0 := 183) (pc' := 203) rfl (hb hby at_183) rfl ((tlt hc183_320).2.2.1) (by decide) (by decide) k) ?_
            show own_G p.tables e below _ (T279.setTop (mkF m 203 #[.val (.int x0), .val (.int x1), .val (.int x2), .val (.int x3), .val (.int x4), .val (.int x5), .val (.int (own_b x0)), .val (.int (own_b x1)), .val (.ref b153), .val (.ref b159), .val (.ref b167), .val (.ref b186), .val (.ref b207), .val (.ref b231), .val (.ref b260), .val (.int (x5 &&& (7 : Int32))), .val (.ref b167), .unset] []))
            refine own_go (fun _ k => XS.iload X279.here hx rfl (hb hby at_203) rfl k) ?_
            show own_G p.tables e below _ (T279.setTop (mkF m 205 #[.val (.int x0), .val (.int x1), .val (.int x2), .val (.int x3), .val (.int x4), .val (.int x5), .val (.int (own_b x0)), .val (.int (own_b x1)), .val (.ref b153), .val (.ref b159), .val (.ref b167), .val (.ref b186), .val (.ref b207), .val (.ref b231), .val (.ref b260), .val (.int (x5 &&& (7 : Int32))), .val (.ref b167), .unset] [(.int (x5 &&& (7 : Int32)))]))
            refine own_go (fun _ k => XS.iconst X279.here hx rfl (hb hby at_205) k) ?_
            show own_G p.tables e below _ (T279.setTop (mkF m 206 #[.val (.int x0), .val (.int x1), .val (.int x2), .val (.int x3), .val (.int x4), .val (.int x5), .val (.int (own_b x0)), .val (.int (own_b x1)), .val (.ref b153), .val (.ref b159), .val (.ref b167), .val (.ref b186), .val (.ref b207), .val (.ref b231), .val (.ref b260), .val (.int (x5 &&& (7 : Int32))), .val (.ref b167), .unset] [(.int (4 : Int32)), (.int (x5 &&& (7 : Int32)))]))
            refine own_go (fun _ k => XS.icmpYes X279.here hx rfl (pc0 := 206) (pc' := 215) rfl (hb hby at_206) rfl ((feq hc133_292).2) (by decide) (by decide) k) ?_
            show own_G p.tables e below _ (T279.setTop (mkF m 215 #[.val (.int x0), .val (.int x1), .val (.int x2), .val (.int x3), .val (.int x4), .val (.int x5), .val (.int (own_b x0)), .val (.int (own_b x1)), .val (.ref b153), .val (.ref b159), .val (.ref b167), .val (.ref b186), .val (.ref b207), .val (.ref b231), .val (.ref b260), .val (.int (x5 &&& (7 : Int32))), .val (.ref b167), .unset] []))
            refine own_go (fun _ k => XS.iconst X279.here hx rfl (hb hby at_215) k) ?_
            show own_G p.tables e below _ (T279.setTop (mkF m 216 #[.val (.int x0), .val (.int x1), .val (.int x2), .val (.int x3), .val (.int x4), .val (.int x5), .val (.int (own_b x0)), .val (.int (own_b x1)), .val (.ref b153), .val (.ref b159), .val (.ref b167), .val (.ref b186), .val (.ref b207), .val (.ref b231), .val (.ref b260), .val (.int (x5 &&& (7 : Int32))), .val (.ref b167), .unset] [(.int (0 : Int32))]))
            refine own_go (fun _ k => XS.istore X279.here hx rfl (hb hby at_216) rfl (l' := #[.val (.int x0), .val (.int x1), .val (.int x2), .val (.int x3), .val (.int x4), .val (.int x5), .val (.int (own_b x0)), .val (.int (own_b x1)), .val (.ref b153), .val (.ref b159), .val (.ref b167), .val (.ref b186), .val (.ref b207), .val (.ref b231), .val (.ref b260), .val (.int (x5 &&& (7 : Int32))), .val (.ref b167), .val (.int (0 : Int32))]) rfl k) ?_
            show own_G p.tables e below _ (T279.setTop (mkF m 218 #[.val (.int x0), .val (.int x1), .val (.int x2), .val (.int x3), .val (.int x4), .val (.int x5), .val (.int (own_b x0)), .val (.int (own_b x1)), .val (.ref b153), .val (.ref b159), .val (.ref b167), .val (.ref b186), .val (.ref b207), .val (.ref b231), .val (.ref b260), .val (.int (x5 &&& (7 : Int32))), .val (.ref b167), .val (.int (0 : Int32))] []))
            refine own_go (fun _ k => XS.aload X279.here hx rfl (hb hby at_218) rfl rfl k) ?_
            show own_G p.tables e below _ (T279.setTop (mkF m 220 #[.val (.int x0), .val (.int x1), .val (.int x2), .val (.int x3), .val (.int x4), .val (.int x5), .val (.int (own_b x0)), .val (.int (own_b x1)), .val (.ref b153), .val (.ref b159), .val (.ref b167), .val (.ref b186), .val (.ref b207), .val (.ref b231), .val (.ref b260), .val (.int (x5 &&& (7 : Int32))), .val (.ref b167), .val (.int (0 : Int32))] [(.ref b207)]))
            refine own_go (fun _ k => XS.aload X279.here hx rfl (hb hby at_220) rfl rfl k) ?_
            show own_G p.tables e below _ (T279.setTop (mkF m 222 #[.val (.int x0), .val (.int x1), .val (.int x2), .val (.int x3), .val (.int x4), .val (.int x5), .val (.int (own_b x0)), .val (.int (own_b x1)), .val (.ref b153), .val (.ref b159), .val (.ref b167), .val (.ref b186), .val (.ref b207), .val (.ref b231), .val (.ref b260), .val (.int (x5 &&& (7 : Int32))), .val (.ref b167), .val (.int (0 : Int32))] [(.ref b167), (.ref b207)]))
            obtain ⟨T321, X321, e321, st321⟩ := own_callV X279 hx hZ (y := (⟨"com/example/ptah/ptah/model/BooleanNode", "equals", "(Ljava/lang/Object;)Z"⟩ : MethodName)) hown (hw _ (List.mem_of_getElem? (i := 75) rfl)) (hw _ (List.mem_of_getElem? (i := 76) rfl)) (hw _ (List.mem_of_getElem? (i := 78) rfl)) (hw _ (List.mem_of_getElem? (i := 77) rfl)) (hw _ (List.mem_of_getElem? (i := 49) rfl)) (hw _ (List.mem_of_getElem? (i := 79) rfl)) (by decide) (W := 0) (rm_eqsl l Z a0 hw [] b207 b167  T279.heap X_283) (by decide) (by decide) rfl rfl rfl X_285 (g := (mkF m 222 #[.val (.int x0), .val (.int x1), .val (.int x2), .val (.int x3), .val (.int x4), .val (.int x5), .val (.int (own_b x0)), .val (.int (own_b x1)), .val (.ref b153), .val (.ref b159), .val (.ref b167), .val (.ref b186), .val (.ref b207), .val (.ref b231), .val (.ref b260), .val (.int (x5 &&& (7 : Int32))), .val (.ref b167), .val (.int (0 : Int32))] [(.ref b167), (.ref b207)])) rfl (by rw [hml]; rfl) (argsL := [(.ref b167)]) (rest := []) (lenOf own_pd8 rfl) rfl rfl (by show 2 * 0 + _ ≤ _; exact Nat.le_of_eq rfl) (hb hby at_222) (by decide) (by decide)
            refine own_go st321 ?_
            show own_G p.tables e below _ (T321.setTop (mkF m 225 #[.val (.int x0), .val (.int x1), .val (.int x2), .val (.int x3), .val (.int x4), .val (.int x5), .val (.int (own_b x0)), .val (.int (own_b x1)), .val (.ref b153), .val (.ref b159), .val (.ref b167), .val (.ref b186), .val (.ref b207), .val (.ref b231), .val (.ref b260), .val (.int (x5 &&& (7 : Int32))), .val (.ref b167), .val (.int (0 : Int32))] [(.int (Feqsl ))]))
            refine own_go (fun _ k => XS.iload X321.here hx rfl (hb hby at_225) rfl k) ?_
            show own_G p.tables e below _ (T321.setTop (mkF m 227 #[.val (.int x0), .val (.int x1), .val (.int x2), .val (.int x3), .val (.int x4), .val (.int x5), .val (.int (own_b x0)), .val (.int (own_b x1)), .val (.ref b153), .val (.ref b159), .val (.ref b167), .val (.ref b186), .val (.ref b207), .val (.ref b231), .val (.ref b260), .val (.int (x5 &&& (7 : Int32))), .val (.ref b167), .val (.int (0 : Int32))] [(.int (0 : Int32)), (.int (Feqsl ))]))
            by_cases hc227_322 : (Feqsl ) = (0 : Int32)
            · refine own_go (fun _ k => XS.icmpNo X321.here hx rfl (hb hby at_227) rfl ((teq hc227_322).2) k) ?_
              show own_G p.tables e below _ (T321.setTop (mkF m 230 #[.val (.int x0), .val (.int x1), .val (.int x2), .val (.int x3), .val (.int x4), .val (.int x5), .val (.int (own_b x0)), .val (.int (own_b x1)), .val (.ref b153), .val (.ref b159), .val (.ref b167), .val (.ref b186), .val (.ref b207), .val (.ref b231), .val (.ref b260), .val (.int (x5 &&& (7 : Int32))), .val (.ref b167), .val (.int (0 : Int32))] []))
              refine own_go (fun _ k => XS.iconst X321.here hx rfl (hb hby at_230) k) ?_
              show own_G p.tables e below _ (T321.setTop (mkF m 231 #[.val (.int x0), .val (.int x1), .val (.int x2), .val (.int x3), .val (.int x4), .val (.int x5), .val (.int (own_b x0)), .val (.int (own_b x1)), .val (.ref b153), .val (.ref b159), .val (.ref b167), .val (.ref b186), .val (.ref b207), .val (.ref b231), .val (.ref b260), .val (.int (x5 &&& (7 : Int32))), .val (.ref b167), .val (.int (0 : Int32))] [(.int (1 : Int32))]))
              refine own_go (fun _ k => XS.goto X321.here hx rfl (pc0 := 231) (pc' := 235) rfl (hb hby at_231) (by decide) (by decide) k) ?_
              show own_G p.tables e below _ (T321.setTop (mkF m 235 #[.val (.int x0), .val (.int x1), .val (.int x2), .val (.int x3), .val (.int x4), .val (.int x5), .val (.int (own_b x0)), .val (.int (own_b x1)), .val (.ref b153), .val (.ref b159), .val (.ref b167), .val (.ref b186), .val (.ref b207), .val (.ref b231), .val (.ref b260), .val (.int (x5 &&& (7 : Int32))), .val (.ref b167), .val (.int (0 : Int32))] [(.int (1 : Int32))]))
              exact own_endW X321 Bd.notSynchronized hS (by rw [e321]; exact hk279) (v := some (.int (nar .boolean (1 : Int32)))) (fun h => by rw [Bd.returns] at h; cases h) (Q := QL (some (.int (F0 x0 x1 x2 x3 x4 x5))) n0) ⟨by unfold F0; simp only [if_neg hc133_292, if_neg hc146_301, if_neg hc159_310, if_pos hc173_319, if_pos hc183_320, if_pos hc227_322]; try rfl, N_279⟩ (fun fs hr => retN X321 hx (t := .boolean) Bd.returns (by simp) (hb hby at_235) hr) (by decide) (by decide)
            · refine own_go (fun _ k => XS.icmpYes X321.here hx rfl (pc0 := 227) (pc' := 234) rfl (hb hby at_227) rfl ((feq hc227_322).2) (by decide) (by decide) k) ?_
              show own_G p.tables e below _ (T321.setTop (mkF m 234 #[.val (.int x0), .val (.int x1), .val (.int x2), .val (.int x3), .val (.int x4), .val (.int x5), .val (.int (own_b x0)), .val (.int (own_b x1)), .val (.ref b153), .val (.ref b159), .val (.ref b167), .val (.ref b186), .val (.ref b207), .val (.ref b231), .val (.ref b260), .val (.int (x5 &&& (7 : Int32))), .val (.ref b167), .val (.int (0 : Int32))] []))
              refine own_go (fun _ k => XS.iconst X321.here hx rfl (hb hby at_234) k) ?_
              show own_G p.tables e below _ (T321.setTop (mkF m 235 #[.val (.int x0), .val (.int x1), .val (.int x2), .val (.int x3), .val (.int x4), .val (.int x5), .val (.int (own_b x0)), .val (.int (own_b x1)), .val (.ref b153), .val (.ref b159), .val (.ref b167), .val (.ref b186), .val (.ref b207), .val (.ref b231), .val (.ref b260), .val (.int (x5 &&& (7 : Int32))), .val (.ref b167), .val (.int (0 : Int32))] [(.int (0 : Int32))]))
              exact own_endW X321 Bd.notSynchronized hS (by rw [e321]; exact hk279) (v := some (.int (nar .boolean (0 : Int32)))) (fun h => by rw [Bd.returns] at h; cases h) (Q := QL (some (.int (F0 x0 x1 x2 x3 x4 x5))) n0) ⟨by unfold F0; simp only [if_neg hc133_292, if_neg hc146_301, if_neg hc159_310, if_pos hc173_319, if_pos hc183_320, if_neg hc227_322]; try rfl, N_279⟩ (fun fs hr => retN X321 hx (t := .boolean) Bd.returns (by simp) (hb hby at_235) hr) (by decide) (by decide)
          · refine own_go (fun _ k => XS.icmpNo X279.here hx rfl (hb hby at_183) rfl ((flt hc183_320).2.2.1) k) ?_
            show own_G p.tables e below _ (T279.setTop (mkF m 186 #[.val (.int x0), .val (.int x1), .val (.int x2), .val (.int x3), .val (.int x4), .val (.int x5), .val (.int (own_b x0)), .val (.int (own_b x1)), .val (.ref b153), .val (.ref b159), .val (.ref b167), .val (.ref b186), .val (.ref b207), .val (.ref b231), .val (.ref b260), .val (.int (x5 &&& (7 : Int32))), .val (.ref b167), .unset] []))
            refine own_go (fun _ k => XS.iload X279.here hx rfl (hb hby at_186) rfl k) ?_
            show own_G p.tables e below _ (T279.setTop (mkF m 188 #[.val (.int x0), .val (.int x1), .val (.int x2), .val (.int x3), .val (.int x4), .val (.int x5), .val (.int (own_b x0)), .val (.int (own_b x1)), .val (.ref b153), .val (.ref b159), .val (.ref b167), .val (.ref b186), .val (.ref b207), .val (.ref b231), .val (.ref b260), .val (.int (x5 &&& (7 : Int32))), .val (.ref b167), .unset] [(.int (own_b x0))]))
            refine own_go (fun _ k => XS.iload X279.here hx rfl (hb hby at_188) rfl k) ?_
            show own_G p.tables e below _ (T279.setTop (mkF m 190 #[.val (.int x0), .val (.int x1), .val (.int x2), .val (.int x3), .val (.int x4), .val (.int x5), .val (.int (own_b x0)), .val (.int (own_b x1)), .val (.ref b153), .val (.ref b159), .val (.ref b167), .val (.ref b186), .val (.ref b207), .val (.ref b231), .val (.ref b260), .val (.int (x5 &&& (7 : Int32))), .val (.ref b167), .unset] [(.int (own_b x1)), (.int (own_b x0))]))
            by_cases hc190_323 : (own_b x0) = (own_b x1)
            · refine own_go (fun _ k => XS.icmpNo X279.here hx rfl (hb hby at_190) rfl ((teq hc190_323).2) k) ?_
              show own_G p.tables e below _ (T279.setTop (mkF m 193 #[.val (.int x0), .val (.int x1), .val (.int x2), .val (.int x3), .val (.int x4), .val (.int x5), .val (.int (own_b x0)), .val (.int (own_b x1)), .val (.ref b153), .val (.ref b159), .val (.ref b167), .val (.ref b186), .val (.ref b207), .val (.ref b231), .val (.ref b260), .val (.int (x5 &&& (7 : Int32))), .val (.ref b167), .unset] []))
              refine own_go (fun _ k => XS.iconst X279.here hx rfl (hb hby at_193) k) ?_
              show own_G p.tables e below _ (T279.setTop (mkF m 194 #[.val (.int x0), .val (.int x1), .val (.int x2), .val (.int x3), .val (.int x4), .val (.int x5), .val (.int (own_b x0)), .val (.int (own_b x1)), .val (.ref b153), .val (.ref b159), .val (.ref b167), .val (.ref b186), .val (.ref b207), .val (.ref b231), .val (.ref b260), .val (.int (x5 &&& (7 : Int32))), .val (.ref b167), .unset] [(.int (1 : Int32))]))
              refine own_go (fun _ k => XS.goto X279.here hx rfl (pc0 := 194) (pc' := 198) rfl (hb hby at_194) (by decide) (by decide) k) ?_
              show own_G p.tables e below _ (T279.setTop (mkF m 198 #[.val (.int x0), .val (.int x1), .val (.int x2), .val (.int x3), .val (.int x4), .val (.int x5), .val (.int (own_b x0)), .val (.int (own_b x1)), .val (.ref b153), .val (.ref b159), .val (.ref b167), .val (.ref b186), .val (.ref b207), .val (.ref b231), .val (.ref b260), .val (.int (x5 &&& (7 : Int32))), .val (.ref b167), .unset] [(.int (1 : Int32))]))
              refine own_go (fun _ k => XS.istore X279.here hx rfl (hb hby at_198) rfl (l' := #[.val (.int x0), .val (.int x1), .val (.int x2), .val (.int x3), .val (.int x4), .val (.int x5), .val (.int (own_b x0)), .val (.int (own_b x1)), .val (.ref b153), .val (.ref b159), .val (.ref b167), .val (.ref b186), .val (.ref b207), .val (.ref b231), .val (.ref b260), .val (.int (x5 &&& (7 : Int32))), .val (.ref b167), .val (.int (1 : Int32))]) rfl k) ?_
              show own_G p.tables e below _ (T279.setTop (mkF m 200 #[.val (.int x0), .val (.int x1), .val (.int x2), .val (.int x3), .val (.int x4), .val (.int x5), .val (.int (own_b x0)), .val (.int (own_b x1)), .val (.ref b153), .val (.ref b159), .val (.ref b167), .val (.ref b186), .val (.ref b207), .val (.ref b231), .val (.ref b260), .val (.int (x5 &&& (7 : Int32))), .val (.ref b167), .val (.int (1 : Int32))] []))
              refine own_go (fun _ k => XS.goto X279.here hx rfl (pc0 := 200) (pc' := 218) rfl (hb hby at_200) (by decide) (by decide) k) ?_
              show own_G p.tables e below _ (T279.setTop (mkF m 218 #[.val (.int x0), .val (.int x1), .val (.int x2), .val (.int x3), .val (.int x4), .val (.int x5), .val (.int (own_b x0)), .val (.int (own_b x1)), .val (.ref b153), .val (.ref b159), .val (.ref b167), .val (.ref b186), .val (.ref b207), .val (.ref b231), .val (.ref b260), .val (.int (x5 &&& (7 : Int32))), .val (.ref b167), .val (.int (1 : Int32))] []))
              refine own_go (fun _ k => XS.aload X279.here hx rfl (hb hby at_218) rfl rfl k) ?_
              show own_G p.tables e below _ (T279.setTop (mkF m 220 #[.val (.int x0), .val (.int x1), .val (.int x2), .val (.int x3), .val (.int x4), .val (.int x5), .val (.int (own_b x0)), .val (.int (own_b x1)), .val (.ref b153), .val (.ref b159), .val (.ref b167), .val (.ref b186), .val (.ref b207), .val (.ref b231), .val (.ref b260), .val (.int (x5 &&& (7 : Int32))), .val (.ref b167), .val (.int (1 : Int32))] [(.ref b207)]))
              refine own_go (fun _ k => XS.aload X279.here hx rfl (hb hby at_220) rfl rfl k) ?_
              show own_G p.tables e below _ (T279.setTop (mkF m 222 #[.val (.int x0), .val (.int x1), .val (.int x2), .val (.int x3), .val (.int x4), .val (.int x5), .val (.int (own_b x0)), .val (.int (own_b x1)), .val (.ref b153), .val (.ref b159), .val (.ref b167), .val (.ref b186), .val (.ref b207), .val (.ref b231), .val (.ref b260), .val (.int (x5 &&& (7 : Int32))), .val (.ref b167), .val (.int (1 : Int32))] [(.ref b167), (.ref b207)]))
              obtain ⟨T324, X324, e324, st324⟩ := own_callV X279 hx hZ (y := (⟨"com/example/ptah/ptah/model/BooleanNode", "equals", "(Ljava/lang/Object;)Z"⟩ : MethodName)) hown (hw _ (List.mem_of_getElem? (i := 75) rfl)) (hw _ (List.mem_of_getElem? (i := 76) rfl)) (hw _ (List.mem_of_getElem? (i := 78) rfl)) (hw _ (List.mem_of_getElem? (i := 77) rfl)) (hw _ (List.mem_of_getElem? (i := 49) rfl)) (hw _ (List.mem_of_getElem? (i := 79) rfl)) (by decide) (W := 0) (rm_eqsl l Z a0 hw [] b207 b167  T279.heap X_283) (by decide) (by decide) rfl rfl rfl X_285 (g := (mkF m 222 #[.val (.int x0), .val (.int x1), .val (.int x2), .val (.int x3), .val (.int x4), .val (.int x5), .val (.int (own_b x0)), .val (.int (own_b x1)), .val (.ref b153), .val (.ref b159), .val (.ref b167), .val (.ref b186), .val (.ref b207), .val (.ref b231), .val (.ref b260), .val (.int (x5 &&& (7 : Int32))), .val (.ref b167), .val (.int (1 : Int32))] [(.ref b167), (.ref b207)])) rfl (by rw [hml]; rfl) (argsL := [(.ref b167)]) (rest := []) (lenOf own_pd8 rfl) rfl rfl (by show 2 * 0 + _ ≤ _; exact Nat.le_of_eq rfl) (hb hby at_222) (by decide) (by decide)
              refine own_go st324 ?_
              show own_G p.tables e below _ (T324.setTop (mkF m 225 #[.val (.int x0), .val (.int x1), .val (.int x2), .val (.int x3), .val (.int x4), .val (.int x5), .val (.int (own_b x0)), .val (.int (own_b x1)), .val (.ref b153), .val (.ref b159), .val (.ref b167), .val (.ref b186), .val (.ref b207), .val (.ref b231), .val (.ref b260), .val (.int (x5 &&& (7 : Int32))), .val (.ref b167), .val (.int (1 : Int32))] [(.int (Feqsl ))]))
              refine own_go (fun _ k => XS.iload X324.here hx rfl (hb hby at_225) rfl k) ?_
              show own_G p.tables e below _ (T324.setTop (mkF m 227 #[.val (.int x0), .val (.int x1), .val (.int x2), .val (.int x3), .val (.int x4), .val (.int x5), .val (.int (own_b x0)), .val (.int (own_b x1)), .val (.ref b153), .val (.ref b159), .val (.ref b167), .val (.ref b186), .val (.ref b207), .val (.ref b231), .val (.ref b260), .val (.int (x5 &&& (7 : Int32))), .val (.ref b167), .val (.int (1 : Int32))] [(.int (1 : Int32)), (.int (Feqsl ))]))
              by_cases hc227_325 : (Feqsl ) = (1 : Int32)
              · refine own_go (fun _ k => XS.icmpNo X324.here hx rfl (hb hby at_227) rfl ((teq hc227_325).2) k) ?_
                show own_G p.tables e below _ (T324.setTop (mkF m 230 #[.val (.int x0), .val (.int x1), .val (.int x2), .val (.int x3), .val (.int x4), .val (.int x5), .val (.int (own_b x0)), .val (.int (own_b x1)), .val (.ref b153), .val (.ref b159), .val (.ref b167), .val (.ref b186), .val (.ref b207), .val (.ref b231), .val (.ref b260), .val (.int (x5 &&& (7 : Int32))), .val (.ref b167), .val (.int (1 : Int32))] []))
                refine own_go (fun _ k => XS.iconst X324.here hx rfl (hb hby at_230) k) ?_
                show own_G p.tables e below _ (T324.setTop (mkF m 231 #[.val (.int x0), .val (.int x1), .val (.int x2), .val (.int x3), .val (.int x4), .val (.int x5), .val (.int (own_b x0)), .val (.int (own_b x1)), .val (.ref b153), .val (.ref b159), .val (.ref b167), .val (.ref b186), .val (.ref b207), .val (.ref b231), .val (.ref b260), .val (.int (x5 &&& (7 : Int32))), .val (.ref b167), .val (.int (1 : Int32))] [(.int (1 : Int32))]))
                refine own_go (fun _ k => XS.goto X324.here hx rfl (pc0 := 231) (pc' := 235) rfl (hb hby at_231) (by decide) (by decide) k) ?_
                show own_G p.tables e below _ (T324.setTop (mkF m 235 #[.val (.int x0), .val (.int x1), .val (.int x2), .val (.int x3), .val (.int x4), .val (.int x5), .val (.int (own_b x0)), .val (.int (own_b x1)), .val (.ref b153), .val (.ref b159), .val (.ref b167), .val (.ref b186), .val (.ref b207), .val (.ref b231), .val (.ref b260), .val (.int (x5 &&& (7 : Int32))), .val (.ref b167), .val (.int (1 : Int32))] [(.int (1 : Int32))]))
                exact own_endW X324 Bd.notSynchronized hS (by rw [e324]; exact hk279) (v := some (.int (nar .boolean (1 : Int32)))) (fun h => by rw [Bd.returns] at h; cases h) (Q := QL (some (.int (F0 x0 x1 x2 x3 x4 x5))) n0) ⟨by unfold F0; simp only [if_neg hc133_292, if_neg hc146_301, if_neg hc159_310, if_pos hc173_319, if_neg hc183_320, if_pos hc190_323, if_pos hc227_325]; try rfl, N_279⟩ (fun fs hr => retN X324 hx (t := .boolean) Bd.returns (by simp) (hb hby at_235) hr) (by decide) (by decide)
              · refine own_go (fun _ k => XS.icmpYes X324.here hx rfl (pc0 := 227) (pc' := 234) rfl (hb hby at_227) rfl ((feq hc227_325).2) (by decide) (by decide) k) ?_
                show own_G p.tables e below _ (T324.setTop (mkF m 234 #[.val (.int x0), .val (.int x1), .val (.int x2), .val (.int x3), .val (.int x4), .val (.int x5), .val (.int (own_b x0)), .val (.int (own_b x1)), .val (.ref b153), .val (.ref b159), .val (.ref b167), .val (.ref b186), .val (.ref b207), .val (.ref b231), .val (.ref b260), .val (.int (x5 &&& (7 : Int32))), .val (.ref b167), .val (.int (1 : Int32))] []))
                refine own_go (fun _ k => XS.iconst X324.here hx rfl (hb hby at_234) k) ?_
                show own_G p.tables e below _ (T324.setTop (mkF m 235 #[.val (.int x0), .val (.int x1), .val (.int x2), .val (.int x3), .val (.int x4), .val (.int x5), .val (.int (own_b x0)), .val (.int (own_b x1)), .val (.ref b153), .val (.ref b159), .val (.ref b167), .val (.ref b186), .val (.ref b207), .val (.ref b231), .val (.ref b260), .val (.int (x5 &&& (7 : Int32))), .val (.ref b167), .val (.int (1 : Int32))] [(.int (0 : Int32))]))
                exact own_endW X324 Bd.notSynchronized hS (by rw [e324]; exact hk279) (v := some (.int (nar .boolean (0 : Int32)))) (fun h => by rw [Bd.returns] at h; cases h) (Q := QL (some (.int (F0 x0 x1 x2 x3 x4 x5))) n0) ⟨by unfold F0; simp only [if_neg hc133_292, if_neg hc146_301, if_neg hc159_310, if_pos hc173_319, if_neg hc183_320, if_pos hc190_323, if_neg hc227_325]; try rfl, N_279⟩ (fun fs hr => retN X324 hx (t := .boolean) Bd.returns (by simp) (hb hby at_235) hr) (by decide) (by decide)
            · refine own_go (fun _ k => XS.icmpYes X279.here hx rfl (pc0 := 190) (pc' := 197) rfl (hb hby at_190) rfl ((feq hc190_323).2) (by decide) (by decide) k) ?_
              show own_G p.tables e below _ (T279.setTop (mkF m 197 #[.val (.int x0), .val (.int x1), .val (.int x2), .val (.int x3), .val (.int x4), .val (.int x5), .val (.int (own_b x0)), .val (.int (own_b x1)), .val (.ref b153), .val (.ref b159), .val (.ref b167), .val (.ref b186), .val (.ref b207), .val (.ref b231), .val (.ref b260), .val (.int (x5 &&& (7 : Int32))), .val (.ref b167), .unset] []))
              refine own_go (fun _ k => XS.iconst X279.here hx rfl (hb hby at_197) k) ?_
              show own_G p.tables e below _ (T279.setTop (mkF m 198 #[.val (.int x0), .val (.int x1), .val (.int x2), .val (.int x3), .val (.int x4), .val (.int x5), .val (.int (own_b x0)), .val (.int (own_b x1)), .val (.ref b153), .val (.ref b159), .val (.ref b167), .val (.ref b186), .val (.ref b207), .val (.ref b231), .val (.ref b260), .val (.int (x5 &&& (7 : Int32))), .val (.ref b167), .unset] [(.int (0 : Int32))]))
              refine own_go (fun _ k => XS.istore X279.here hx rfl (hb hby at_198) rfl (l' := #[.val (.int x0), .val (.int x1), .val (.int x2), .val (.int x3), .val (.int x4), .val (.int x5), .val (.int (own_b x0)), .val (.int (own_b x1)), .val (.ref b153), .val (.ref b159), .val (.ref b167), .val (.ref b186), .val (.ref b207), .val (.ref b231), .val (.ref b260), .val (.int (x5 &&& (7 : Int32))), .val (.ref b167), .val (.int (0 : Int32))]) rfl k) ?_
              show own_G p.tables e below _ (T279.setTop (mkF m 200 #[.val (.int x0), .val (.int x1), .val (.int x2), .val (.int x3), .val (.int x4), .val (.int x5), .val (.int (own_b x0)), .val (.int (own_b x1)), .val (.ref b153), .val (.ref b159), .val (.ref b167), .val (.ref b186), .val (.ref b207), .val (.ref b231), .val (.ref b260), .val (.int (x5 &&& (7 : Int32))), .val (.ref b167), .val (.int (0 : Int32))] []))
              refine own_go (fun _ k => XS.goto X279.here hx rfl (pc0 := 200) (pc' := 218) rfl (hb hby at_200) (by decide) (by decide) k) ?_
              show own_G p.tables e below _ (T279.setTop (mkF m 218 #[.val (.int x0), .val (.int x1), .val (.int x2), .val (.int x3), .val (.int x4), .val (.int x5), .val (.int (own_b x0)), .val (.int (own_b x1)), .val (.ref b153), .val (.ref b159), .val (.ref b167), .val (.ref b186), .val (.ref b207), .val (.ref b231), .val (.ref b260), .val (.int (x5 &&& (7 : Int32))), .val (.ref b167), .val (.int (0 : Int32))] []))
              refine own_go (fun _ k => XS.aload X279.here hx rfl (hb hby at_218) rfl rfl k) ?_
              show own_G p.tables e below _ (T279.setTop (mkF m 220 #[.val (.int x0), .val (.int x1), .val (.int x2), .val (.int x3), .val (.int x4), .val (.int x5), .val (.int (own_b x0)), .val (.int (own_b x1)), .val (.ref b153), .val (.ref b159), .val (.ref b167), .val (.ref b186), .val (.ref b207), .val (.ref b231), .val (.ref b260), .val (.int (x5 &&& (7 : Int32))), .val (.ref b167), .val (.int (0 : Int32))] [(.ref b207)]))
              refine own_go (fun _ k => XS.aload X279.here hx rfl (hb hby at_220) rfl rfl k) ?_
              show own_G p.tables e below _ (T279.setTop (mkF m 222 #[.val (.int x0), .val (.int x1), .val (.int x2), .val (.int x3), .val (.int x4), .val (.int x5), .val (.int (own_b x0)), .val (.int (own_b x1)), .val (.ref b153), .val (.ref b159), .val (.ref b167), .val (.ref b186), .val (.ref b207), .val (.ref b231), .val (.ref b260), .val (.int (x5 &&& (7 : Int32))), .val (.ref b167), .val (.int (0 : Int32))] [(.ref b167), (.ref b207)]))
              obtain ⟨T326, X326, e326, st326⟩ := own_callV X279 hx hZ (y := (⟨"com/example/ptah/ptah/model/BooleanNode", "equals", "(Ljava/lang/Object;)Z"⟩ : MethodName)) hown (hw _ (List.mem_of_getElem? (i := 75) rfl)) (hw _ (List.mem_of_getElem? (i := 76) rfl)) (hw _ (List.mem_of_getElem? (i := 78) rfl)) (hw _ (List.mem_of_getElem? (i := 77) rfl)) (hw _ (List.mem_of_getElem? (i := 49) rfl)) (hw _ (List.mem_of_getElem? (i := 79) rfl)) (by decide) (W := 0) (rm_eqsl l Z a0 hw [] b207 b167  T279.heap X_283) (by decide) (by decide) rfl rfl rfl X_285 (g := (mkF m 222 #[.val (.int x0), .val (.int x1), .val (.int x2), .val (.int x3), .val (.int x4), .val (.int x5), .val (.int (own_b x0)), .val (.int (own_b x1)), .val (.ref b153), .val (.ref b159), .val (.ref b167), .val (.ref b186), .val (.ref b207), .val (.ref b231), .val (.ref b260), .val (.int (x5 &&& (7 : Int32))), .val (.ref b167), .val (.int (0 : Int32))] [(.ref b167), (.ref b207)])) rfl (by rw [hml]; rfl) (argsL := [(.ref b167)]) (rest := []) (lenOf own_pd8 rfl) rfl rfl (by show 2 * 0 + _ ≤ _; exact Nat.le_of_eq rfl) (hb hby at_222) (by decide) (by decide)
              refine own_go st326 ?_
              show own_G p.tables e below _ (T326.setTop (mkF m 225 #[.val (.int x0), .val (.int x1), .val (.int x2), .val (.int x3), .val (.int x4), .val (.int x5), .val (.int (own_b x0)), .val (.int (own_b x1)), .val (.ref b153), .val (.ref b159), .val (.ref b167), .val (.ref b186), .val (.ref b207), .val (.ref b231), .val (.ref b260), .val (.int (x5 &&& (7 : Int32))), .val (.ref b167), .val (.int (0 : Int32))] [(.int (Feqsl ))]))
              refine own_go (fun _ k => XS.iload X326.here hx rfl (hb hby at_225) rfl k) ?_
              show own_G p.tables e below _ (T326.setTop (mkF m 227 #[.val (.int x0), .val (.int x1), .val (.int x2), .val (.int x3), .val (.int x4), .val (.int x5), .val (.int (own_b x0)), .val (.int (own_b x1)), .val (.ref b153), .val (.ref b159), .val (.ref b167), .val (.ref b186), .val (.ref b207), .val (.ref b231), .val (.ref b260), .val (.int (x5 &&& (7 : Int32))), .val (.ref b167), .val (.int (0 : Int32))] [(.int (0 : Int32)), (.int (Feqsl ))]))
              by_cases hc227_327 : (Feqsl ) = (0 : Int32)
              · refine own_go (fun _ k => XS.icmpNo X326.here hx rfl (hb hby at_227) rfl ((teq hc227_327).2) k) ?_
                show own_G p.tables e below _ (T326.setTop (mkF m 230 #[.val (.int x0), .val (.int x1), .val (.int x2), .val (.int x3), .val (.int x4), .val (.int x5), .val (.int (own_b x0)), .val (.int (own_b x1)), .val (.ref b153), .val (.ref b159), .val (.ref b167), .val (.ref b186), .val (.ref b207), .val (.ref b231), .val (.ref b260), .val (.int (x5 &&& (7 : Int32))), .val (.ref b167), .val (.int (0 : Int32))] []))
                refine own_go (fun _ k => XS.iconst X326.here hx rfl (hb hby at_230) k) ?_
                show own_G p.tables e below _ (T326.setTop (mkF m 231 #[.val (.int x0), .val (.int x1), .val (.int x2), .val (.int x3), .val (.int x4), .val (.int x5), .val (.int (own_b x0)), .val (.int (own_b x1)), .val (.ref b153), .val (.ref b159), .val (.ref b167), .val (.ref b186), .val (.ref b207), .val (.ref b231), .val (.ref b260), .val (.int (x5 &&& (7 : Int32))), .val (.ref b167), .val (.int (0 : Int32))] [(.int (1 : Int32))]))
                refine own_go (fun _ k => XS.goto X326.here hx rfl (pc0 := 231) (pc' := 235) rfl (hb hby at_231) (by decide) (by decide) k) ?_
                show own_G p.tables e below _ (T326.setTop (mkF m 235 #[.val (.int x0), .val (.int x1), .val (.int x2), .val (.int x3), .val (.int x4), .val (.int x5), .val (.int (own_b x0)), .val (.int (own_b x1)), .val (.ref b153), .val (.ref b159), .val (.ref b167), .val (.ref b186), .val (.ref b207), .val (.ref b231), .val (.ref b260), .val (.int (x5 &&& (7 : Int32))), .val (.ref b167), .val (.int (0 : Int32))] [(.int (1 : Int32))]))
                exact own_endW X326 Bd.notSynchronized hS (by rw [e326]; exact hk279) (v := some (.int (nar .boolean (1 : Int32)))) (fun h => by rw [Bd.returns] at h; cases h) (Q := QL (some (.int (F0 x0 x1 x2 x3 x4 x5))) n0) ⟨by unfold F0; simp only [if_neg hc133_292, if_neg hc146_301, if_neg hc159_310, if_pos hc173_319, if_neg hc183_320, if_neg hc190_323, if_pos hc227_327]; try rfl, N_279⟩ (fun fs hr => retN X326 hx (t := .boolean) Bd.returns (by simp) (hb hby at_235) hr) (by decide) (by decide)
              · refine own_go (fun _ k => XS.icmpYes X326.here hx rfl (pc0 := 227) (pc' := 234) rfl (hb hby at_227) rfl ((feq hc227_327).2) (by decide) (by decide) k) ?_
                show own_G p.tables e below _ (T326.setTop (mkF m 234 #[.val (.int x0), .val (.int x1), .val (.int x2), .val (.int x3), .val (.int x4), .val (.int x5), .val (.int (own_b x0)), .val (.int (own_b x1)), .val (.ref b153), .val (.ref b159), .val (.ref b167), .val (.ref b186), .val (.ref b207), .val (.ref b231), .val (.ref b260), .val (.int (x5 &&& (7 : Int32))), .val (.ref b167), .val (.int (0 : Int32))] []))
                refine own_go (fun _ k => XS.iconst X326.here hx rfl (hb hby at_234) k) ?_
                show own_G p.tables e below _ (T326.setTop (mkF m 235 #[.val (.int x0), .val (.int x1), .val (.int x2), .val (.int x3), .val (.int x4), .val (.int x5), .val (.int (own_b x0)), .val (.int (own_b x1)), .val (.ref b153), .val (.ref b159), .val (.ref b167), .val (.ref b186), .val (.ref b207), .val (.ref b231), .val (.ref b260), .val (.int (x5 &&& (7 : Int32))), .val (.ref b167), .val (.int (0 : Int32))] [(.int (0 : Int32))]))
                exact own_endW X326 Bd.notSynchronized hS (by rw [e326]; exact hk279) (v := some (.int (nar .boolean (0 : Int32)))) (fun h => by rw [Bd.returns] at h; cases h) (Q := QL (some (.int (F0 x0 x1 x2 x3 x4 x5))) n0) ⟨by unfold F0; simp only [if_neg hc133_292, if_neg hc146_301, if_neg hc159_310, if_pos hc173_319, if_neg hc183_320, if_neg hc190_323, if_neg hc227_327]; try rfl, N_279⟩ (fun fs hr => retN X326 hx (t := .boolean) Bd.returns (by simp) (hb hby at_235) hr) (by decide) (by decide)
        · refine own_go (fun _ k => XS.icmpYes X279.here hx rfl (pc0 := 173) (pc' := 180) rfl (hb hby at_173) rfl ((feq hc173_319).2) (by decide) (by decide) k) ?_
          show own_G p.tables e below _ (T279.setTop (mkF m 180 #[.val (.int x0), .val (.int x1), .val (.int x2), .val (.int x3), .val (.int x4), .val (.int x5), .val (.int (own_b x0)), .val (.int (own_b x1)), .val (.ref b153), .val (.ref b159), .val (.ref b167), .val (.ref b186), .val (.ref b207), .val (.ref b231), .val (.ref b260), .val (.int (x5 &&& (7 : Int32))), .val (.ref b231), .unset] []))
          refine own_go (fun _ k => XS.iload X279.here hx rfl (hb hby at_180) rfl k) ?_
          show own_G p.tables e below _ (T279.setTop (mkF m 182 #[.val (.int x0), .val (.int x1), .val (.int x2), .val (.int x3), .val (.int x4), .val (.int x5), .val (.int (own_b x0)), .val (.int (own_b x1)), .val (.ref b153), .val (.ref b159), .val (.ref b167), .val (.ref b186), .val (.ref b207), .val (.ref b231), .val (.ref b260), .val (.int (x5 &&& (7 : Int32))), .val (.ref b231), .unset] [(.int (x5 &&& (7 : Int32)))]))
          refine own_go (fun _ k => XS.iconst X279.here hx rfl (hb hby at_182) k) ?_
          show own_G p.tables e below _ (T279.setTop (mkF m 183 #[.val (.int x0), .val (.int x1), .val (.int x2), .val (.int x3), .val (.int x4), .val (.int x5), .val (.int (own_b x0)), .val (.int (own_b x1)), .val (.ref b153), .val (.ref b159), .val (.ref b167), .val (.ref b186), .val (.ref b207), .val (.ref b231), .val (.ref b260), .val (.int (x5 &&& (7 : Int32))), .val (.ref b231), .unset] [(.int (3 : Int32)), (.int (x5 &&& (7 : Int32)))]))
          by_cases hc183_328 : (3 : Int32) < (x5 &&& (7 : Int32))
          · refine own_go (fun _ k => XS.icmpYes X279.here hx rfl (pc0 := 183) (pc' := 203) rfl (hb hby at_183) rfl ((tlt hc183_328).2.2.1) (by decide) (by decide) k) ?_
            show own_G p.tables e below _ (T279.setTop (mkF m 203 #[.val (.int x0), .val (.int x1), .val (.int x2), .val (.int x3), .val (.int x4), .val (.int x5), .val (.int (own_b x0)), .val (.int (own_b x1)), .val (.ref b153), .val (.ref b159), .val (.ref b167), .val (.ref b186), .val (.ref b207), .val (.ref b231), .val (.ref b260), .val (.int (x5 &&& (7 : Int32))), .val (.ref b231), .unset] []))
            refine own_go (fun _ k => XS.iload X279.here hx rfl (hb hby at_203) rfl k) ?_
            show own_G p.tables e below _ (T279.setTop (mkF m 205 #[.val (.int x0), .val (.int x1), .val (.int x2), .val (.int x3), .val (.int x4), .val (.int x5), .val (.int (own_b x0)), .val (.int (own_b x1)), .val (.ref b153), .val (.ref b159), .val (.ref b167), .val (.ref b186), .val (.ref b207), .val (.ref b231), .val (.ref b260), .val (.int (x5 &&& (7 : Int32))), .val (.ref b231), .unset] [(.int (x5 &&& (7 : Int32)))]))
            refine own_go (fun _ k => XS.iconst X279.here hx rfl (hb hby at_205) k) ?_
            show own_G p.tables e below _ (T279.setTop (mkF m 206 #[.val (.int x0), .val (.int x1), .val (.int x2), .val (.int x3), .val (.int x4), .val (.int x5), .val (.int (own_b x0)), .val (.int (own_b x1)), .val (.ref b153), .val (.ref b159), .val (.ref b167), .val (.ref b186), .val (.ref b207), .val (.ref b231), .val (.ref b260), .val (.int (x5 &&& (7 : Int32))), .val (.ref b231), .unset] [(.int (4 : Int32)), (.int (x5 &&& (7 : Int32)))]))
            refine own_go (fun _ k => XS.icmpYes X279.here hx rfl (pc0 := 206) (pc' := 215) rfl (hb hby at_206) rfl ((feq hc133_292).2) (by decide) (by decide) k) ?_
            show own_G p.tables e below _ (T279.setTop (mkF m 215 #[.val (.int x0), .val (.int x1), .val (.int x2), .val (.int x3), .val (.int x4), .val (.int x5), .val (.int (own_b x0)), .val (.int (own_b x1)), .val (.ref b153), .val (.ref b159), .val (.ref b167), .val (.ref b186), .val (.ref b207), .val (.ref b231), .val (.ref b260), .val (.int (x5 &&& (7 : Int32))), .val (.ref b231), .unset] []))
            refine own_go (fun _ k => XS.iconst X279.here hx rfl (hb hby at_215) k) ?_
            show own_G p.tables e below _ (T279.setTop (mkF m 216 #[.val (.int x0), .val (.int x1), .val (.int x2), .val (.int x3), .val (.int x4), .val (.int x5), .val (.int (own_b x0)), .val (.int (own_b x1)), .val (.ref b153), .val (.ref b159), .val (.ref b167), .val (.ref b186), .val (.ref b207), .val (.ref b231), .val (.ref b260), .val (.int (x5 &&& (7 : Int32))), .val (.ref b231), .unset] [(.int (0 : Int32))]))
            refine own_go (fun _ k => XS.istore X279.here hx rfl (hb hby at_216) rfl (l' := #[.val (.int x0), .val (.int x1), .val (.int x2), .val (.int x3), .val (.int x4), .val (.int x5), .val (.int (own_b x0)), .val (.int (own_b x1)), .val (.ref b153), .val (.ref b159), .val (.ref b167), .val (.ref b186), .val (.ref b207), .val (.ref b231), .val (.ref b260), .val (.int (x5 &&& (7 : Int32))), .val (.ref b231), .val (.int (0 : Int32))]) rfl k) ?_
            show own_G p.tables e below _ (T279.setTop (mkF m 218 #[.val (.int x0), .val (.int x1), .val (.int x2), .val (.int x3), .val (.int x4), .val (.int x5), .val (.int (own_b x0)), .val (.int (own_b x1)), .val (.ref b153), .val (.ref b159), .val (.ref b167), .val (.ref b186), .val (.ref b207), .val (.ref b231), .val (.ref b260), .val (.int (x5 &&& (7 : Int32))), .val (.ref b231), .val (.int (0 : Int32))] []))
            refine own_go (fun _ k => XS.aload X279.here hx rfl (hb hby at_218) rfl rfl k) ?_
            show own_G p.tables e below _ (T279.setTop (mkF m 220 #[.val (.int x0), .val (.int x1), .val (.int x2), .val (.int x3), .val (.int x4), .val (.int x5), .val (.int (own_b x0)), .val (.int (own_b x1)), .val (.ref b153), .val (.ref b159), .val (.ref b167), .val (.ref b186), .val (.ref b207), .val (.ref b231), .val (.ref b260), .val (.int (x5 &&& (7 : Int32))), .val (.ref b231), .val (.int (0 : Int32))] [(.ref b207)]))
            refine own_go (fun _ k => XS.aload X279.here hx rfl (hb hby at_220) rfl rfl k) ?_
            show own_G p.tables e below _ (T279.setTop (mkF m 222 #[.val (.int x0), .val (.int x1), .val (.int x2), .val (.int x3), .val (.int x4), .val (.int x5), .val (.int (own_b x0)), .val (.int (own_b x1)), .val (.ref b153), .val (.ref b159), .val (.ref b167), .val (.ref b186), .val (.ref b207), .val (.ref b231), .val (.ref b260), .val (.int (x5 &&& (7 : Int32))), .val (.ref b231), .val (.int (0 : Int32))] [(.ref b231), (.ref b207)]))
            obtain ⟨T329, X329, e329, st329⟩ := own_callV X279 hx hZ (y := (⟨"com/example/ptah/ptah/model/BooleanNode", "equals", "(Ljava/lang/Object;)Z"⟩ : MethodName)) hown (hw _ (List.mem_of_getElem? (i := 75) rfl)) (hw _ (List.mem_of_getElem? (i := 76) rfl)) (hw _ (List.mem_of_getElem? (i := 78) rfl)) (hw _ (List.mem_of_getElem? (i := 77) rfl)) (hw _ (List.mem_of_getElem? (i := 49) rfl)) (hw _ (List.mem_of_getElem? (i := 79) rfl)) (by decide) (W := 0) (rm_eqa l Z a0 hw [] b207 b231 (nar .boolean (own_b x0)) (nar .boolean (own_b x1)) T279.heap F_286 F_288 X_287) (by decide) (by decide) rfl rfl rfl X_285 (g := (mkF m 222 #[.val (.int x0), .val (.int x1), .val (.int x2), .val (.int x3), .val (.int x4), .val (.int x5), .val (.int (own_b x0)), .val (.int (own_b x1)), .val (.ref b153), .val (.ref b159), .val (.ref b167), .val (.ref b186), .val (.ref b207), .val (.ref b231), .val (.ref b260), .val (.int (x5 &&& (7 : Int32))), .val (.ref b231), .val (.int (0 : Int32))] [(.ref b231), (.ref b207)])) rfl (by rw [hml]; rfl) (argsL := [(.ref b231)]) (rest := []) (lenOf own_pd8 rfl) rfl rfl (by show 2 * 0 + _ ≤ _; exact Nat.le_of_eq rfl) (hb hby at_222) (by decide) (by decide)
            refine own_go st329 ?_
            show own_G p.tables e below _ (T329.setTop (mkF m 225 #[.val (.int x0), .val (.int x1), .val (.int x2), .val (.int x3), .val (.int x4), .val (.int x5), .val (.int (own_b x0)), .val (.int (own_b x1)), .val (.ref b153), .val (.ref b159), .val (.ref b167), .val (.ref b186), .val (.ref b207), .val (.ref b231), .val (.ref b260), .val (.int (x5 &&& (7 : Int32))), .val (.ref b231), .val (.int (0 : Int32))] [(.int (Feqa (nar .boolean (own_b x0)) (nar .boolean (own_b x1))))]))
            refine own_go (fun _ k => XS.iload X329.here hx rfl (hb hby at_225) rfl k) ?_
            show own_G p.tables e below _ (T329.setTop (mkF m 227 #[.val (.int x0), .val (.int x1), .val (.int x2), .val (.int x3), .val (.int x4), .val (.int x5), .val (.int (own_b x0)), .val (.int (own_b x1)), .val (.ref b153), .val (.ref b159), .val (.ref b167), .val (.ref b186), .val (.ref b207), .val (.ref b231), .val (.ref b260), .val (.int (x5 &&& (7 : Int32))), .val (.ref b231), .val (.int (0 : Int32))] [(.int (0 : Int32)), (.int (Feqa (nar .boolean (own_b x0)) (nar .boolean (own_b x1))))]))
            by_cases hc227_330 : (Feqa (nar .boolean (own_b x0)) (nar .boolean (own_b x1))) = (0 : Int32)
            · refine own_go (fun _ k => XS.icmpNo X329.here hx rfl (hb hby at_227) rfl ((teq hc227_330).2) k) ?_
              show own_G p.tables e below _ (T329.setTop (mkF m 230 #[.val (.int x0), .val (.int x1), .val (.int x2), .val (.int x3), .val (.int x4), .val (.int x5), .val (.int (own_b x0)), .val (.int (own_b x1)), .val (.ref b153), .val (.ref b159), .val (.ref b167), .val (.ref b186), .val (.ref b207), .val (.ref b231), .val (.ref b260), .val (.int (x5 &&& (7 : Int32))), .val (.ref b231), .val (.int (0 : Int32))] []))
              refine own_go (fun _ k => XS.iconst X329.here hx rfl (hb hby at_230) k) ?_
              show own_G p.tables e below _ (T329.setTop (mkF m 231 #[.val (.int x0), .val (.int x1), .val (.int x2), .val (.int x3), .val (.int x4), .val (.int x5), .val (.int (own_b x0)), .val (.int (own_b x1)), .val (.ref b153), .val (.ref b159), .val (.ref b167), .val (.ref b186), .val (.ref b207), .val (.ref b231), .val (.ref b260), .val (.int (x5 &&& (7 : Int32))), .val (.ref b231), .val (.int (0 : Int32))] [(.int (1 : Int32))]))
              refine own_go (fun _ k => XS.goto X329.here hx rfl (pc0 := 231) (pc' := 235) rfl (hb hby at_231) (by decide) (by decide) k) ?_
              show own_G p.tables e below _ (T329.setTop (mkF m 235 #[.val (.int x0), .val (.int x1), .val (.int x2), .val (.int x3), .val (.int x4), .val (.int x5), .val (.int (own_b x0)), .val (.int (own_b x1)), .val (.ref b153), .val (.ref b159), .val (.ref b167), .val (.ref b186), .val (.ref b207), .val (.ref b231), .val (.ref b260), .val (.int (x5 &&& (7 : Int32))), .val (.ref b231), .val (.int (0 : Int32))] [(.int (1 : Int32))]))
              exact own_endW X329 Bd.notSynchronized hS (by rw [e329]; exact hk279) (v := some (.int (nar .boolean (1 : Int32)))) (fun h => by rw [Bd.returns] at h; cases h) (Q := QL (some (.int (F0 x0 x1 x2 x3 x4 x5))) n0) ⟨by unfold F0; simp only [if_neg hc133_292, if_neg hc146_301, if_neg hc159_310, if_neg hc173_319, if_pos hc183_328, if_pos hc227_330]; try rfl, N_279⟩ (fun fs hr => retN X329 hx (t := .boolean) Bd.returns (by simp) (hb hby at_235) hr) (by decide) (by decide)
            · refine own_go (fun _ k => XS.icmpYes X329.here hx rfl (pc0 := 227) (pc' := 234) rfl (hb hby at_227) rfl ((feq hc227_330).2) (by decide) (by decide) k) ?_
              show own_G p.tables e below _ (T329.setTop (mkF m 234 #[.val (.int x0), .val (.int x1), .val (.int x2), .val (.int x3), .val (.int x4), .val (.int x5), .val (.int (own_b x0)), .val (.int (own_b x1)), .val (.ref b153), .val (.ref b159), .val (.ref b167), .val (.ref b186), .val (.ref b207), .val (.ref b231), .val (.ref b260), .val (.int (x5 &&& (7 : Int32))), .val (.ref b231), .val (.int (0 : Int32))] []))
              refine own_go (fun _ k => XS.iconst X329.here hx rfl (hb hby at_234) k) ?_
              show own_G p.tables e below _ (T329.setTop (mkF m 235 #[.val (.int x0), .val (.int x1), .val (.int x2), .val (.int x3), .val (.int x4), .val (.int x5), .val (.int (own_b x0)), .val (.int (own_b x1)), .val (.ref b153), .val (.ref b159), .val (.ref b167), .val (.ref b186), .val (.ref b207), .val (.ref b231), .val (.ref b260), .val (.int (x5 &&& (7 : Int32))), .val (.ref b231), .val (.int (0 : Int32))] [(.int (0 : Int32))]))
              exact own_endW X329 Bd.notSynchronized hS (by rw [e329]; exact hk279) (v := some (.int (nar .boolean (0 : Int32)))) (fun h => by rw [Bd.returns] at h; cases h) (Q := QL (some (.int (F0 x0 x1 x2 x3 x4 x5))) n0) ⟨by unfold F0; simp only [if_neg hc133_292, if_neg hc146_301, if_neg hc159_310, if_neg hc173_319, if_pos hc183_328, if_neg hc227_330]; try rfl, N_279⟩ (fun fs hr => retN X329 hx (t := .boolean) Bd.returns (by simp) (hb hby at_235) hr) (by decide) (by decide)
          · refine own_go (fun _ k => XS.icmpNo X279.here hx rfl (hb hby at_183) rfl ((flt hc183_328).2.2.1) k) ?_
            show own_G p.tables e below _ (T279.setTop (mkF m 186 #[.val (.int x0), .val (.int x1), .val (.int x2), .val (.int x3), .val (.int x4), .val (.int x5), .val (.int (own_b x0)), .val (.int (own_b x1)), .val (.ref b153), .val (.ref b159), .val (.ref b167), .val (.ref b186), .val (.ref b207), .val (.ref b231), .val (.ref b260), .val (.int (x5 &&& (7 : Int32))), .val (.ref b231), .unset] []))
            refine own_go (fun _ k => XS.iload X279.here hx rfl (hb hby at_186) rfl k) ?_
            show own_G p.tables e below _ (T279.setTop (mkF m 188 #[.val (.int x0), .val (.int x1), .val (.int x2), .val (.int x3), .val (.int x4), .val (.int x5), .val (.int (own_b x0)), .val (.int (own_b x1)), .val (.ref b153), .val (.ref b159), .val (.ref b167), .val (.ref b186), .val (.ref b207), .val (.ref b231), .val (.ref b260), .val (.int (x5 &&& (7 : Int32))), .val (.ref b231), .unset] [(.int (own_b x0))]))
            refine own_go (fun _ k => XS.iload X279.here hx rfl (hb hby at_188) rfl k) ?_
            show own_G p.tables e below _ (T279.setTop (mkF m 190 #[.val (.int x0), .val (.int x1), .val (.int x2), .val (.int x3), .val (.int x4), .val (.int x5), .val (.int (own_b x0)), .val (.int (own_b x1)), .val (.ref b153), .val (.ref b159), .val (.ref b167), .val (.ref b186), .val (.ref b207), .val (.ref b231), .val (.ref b260), .val (.int (x5 &&& (7 : Int32))), .val (.ref b231), .unset] [(.int (own_b x1)), (.int (own_b x0))]))
            by_cases hc190_331 : (own_b x0) = (own_b x1)
            · refine own_go (fun _ k => XS.icmpNo X279.here hx rfl (hb hby at_190) rfl ((teq hc190_331).2) k) ?_
              show own_G p.tables e below _ (T279.setTop (mkF m 193 #[.val (.int x0), .val (.int x1), .val (.int x2), .val (.int x3), .val (.int x4), .val (.int x5), .val (.int (own_b x0)), .val (.int (own_b x1)), .val (.ref b153), .val (.ref b159), .val (.ref b167), .val (.ref b186), .val (.ref b207), .val (.ref b231), .val (.ref b260), .val (.int (x5 &&& (7 : Int32))), .val (.ref b231), .unset] []))
              refine own_go (fun _ k => XS.iconst X279.here hx rfl (hb hby at_193) k) ?_
              show own_G p.tables e below _ (T279.setTop (mkF m 194 #[.val (.int x0), .val (.int x1), .val (.int x2), .val (.int x3), .val (.int x4), .val (.int x5), .val (.int (own_b x0)), .val (.int (own_b x1)), .val (.ref b153), .val (.ref b159), .val (.ref b167), .val (.ref b186), .val (.ref b207), .val (.ref b231), .val (.ref b260), .val (.int (x5 &&& (7 : Int32))), .val (.ref b231), .unset] [(.int (1 : Int32))]))
              refine own_go (fun _ k => XS.goto X279.here hx rfl (pc0 := 194) (pc' := 198) rfl (hb hby at_194) (by decide) (by decide) k) ?_
              show own_G p.tables e below _ (T279.setTop (mkF m 198 #[.val (.int x0), .val (.int x1), .val (.int x2), .val (.int x3), .val (.int x4), .val (.int x5), .val (.int (own_b x0)), .val (.int (own_b x1)), .val (.ref b153), .val (.ref b159), .val (.ref b167), .val (.ref b186), .val (.ref b207), .val (.ref b231), .val (.ref b260), .val (.int (x5 &&& (7 : Int32))), .val (.ref b231), .unset] [(.int (1 : Int32))]))
              refine own_go (fun _ k => XS.istore X279.here hx rfl (hb hby at_198) rfl (l' := #[.val (.int x0), .val (.int x1), .val (.int x2), .val (.int x3), .val (.int x4), .val (.int x5), .val (.int (own_b x0)), .val (.int (own_b x1)), .val (.ref b153), .val (.ref b159), .val (.ref b167), .val (.ref b186), .val (.ref b207), .val (.ref b231), .val (.ref b260), .val (.int (x5 &&& (7 : Int32))), .val (.ref b231), .val (.int (1 : Int32))]) rfl k) ?_
              show own_G p.tables e below _ (T279.setTop (mkF m 200 #[.val (.int x0), .val (.int x1), .val (.int x2), .val (.int x3), .val (.int x4), .val (.int x5), .val (.int (own_b x0)), .val (.int (own_b x1)), .val (.ref b153), .val (.ref b159), .val (.ref b167), .val (.ref b186), .val (.ref b207), .val (.ref b231), .val (.ref b260), .val (.int (x5 &&& (7 : Int32))), .val (.ref b231), .val (.int (1 : Int32))] []))
              refine own_go (fun _ k => XS.goto X279.here hx rfl (pc0 := 200) (pc' := 218) rfl (hb hby at_200) (by decide) (by decide) k) ?_
              show own_G p.tables e below _ (T279.setTop (mkF m 218 #[.val (.int x0), .val (.int x1), .val (.int x2), .val (.int x3), .val (.int x4), .val (.int x5), .val (.int (own_b x0)), .val (.int (own_b x1)), .val (.ref b153), .val (.ref b159), .val (.ref b167), .val (.ref b186), .val (.ref b207), .val (.ref b231), .val (.ref b260), .val (.int (x5 &&& (7 : Int32))), .val (.ref b231), .val (.int (1 : Int32))] []))
              refine own_go (fun _ k => XS.aload X279.here hx rfl (hb hby at_218) rfl rfl k) ?_
              show own_G p.tables e below _ (T279.setTop (mkF m 220 #[.val (.int x0), .val (.int x1), .val (.int x2), .val (.int x3), .val (.int x4), .val (.int x5), .val (.int (own_b x0)), .val (.int (own_b x1)), .val (.ref b153), .val (.ref b159), .val (.ref b167), .val (.ref b186), .val (.ref b207), .val (.ref b231), .val (.ref b260), .val (.int (x5 &&& (7 : Int32))), .val (.ref b231), .val (.int (1 : Int32))] [(.ref b207)]))
              refine own_go (fun _ k => XS.aload X279.here hx rfl (hb hby at_220) rfl rfl k) ?_
              show own_G p.tables e below _ (T279.setTop (mkF m 222 #[.val (.int x0), .val (.int x1), .val (.int x2), .val (.int x3), .val (.int x4), .val (.int x5), .val (.int (own_b x0)), .val (.int (own_b x1)), .val (.ref b153), .val (.ref b159), .val (.ref b167), .val (.ref b186), .val (.ref b207), .val (.ref b231), .val (.ref b260), .val (.int (x5 &&& (7 : Int32))), .val (.ref b231), .val (.int (1 : Int32))] [(.ref b231), (.ref b207)]))
              obtain ⟨T332, X332, e332, st332⟩ := own_callV X279 hx hZ (y := (⟨"com/example/ptah/ptah/model/BooleanNode", "equals", "(Ljava/lang/Object;)Z"⟩ : MethodName)) hown (hw _ (List.mem_of_getElem? (i := 75) rfl)) (hw _ (List.mem_of_getElem? (i := 76) rfl)) (hw _ (List.mem_of_getElem? (i := 78) rfl)) (hw _ (List.mem_of_getElem? (i := 77) rfl)) (hw _ (List.mem_of_getElem? (i := 49) rfl)) (hw _ (List.mem_of_getElem? (i := 79) rfl)) (by decide) (W := 0) (rm_eqa l Z a0 hw [] b207 b231 (nar .boolean (own_b x0)) (nar .boolean (own_b x1)) T279.heap F_286 F_288 X_287) (by decide) (by decide) rfl rfl rfl X_285 (g := (mkF m 222 #[.val (.int x0), .val (.int x1), .val (.int x2), .val (.int x3), .val (.int x4), .val (.int x5), .val (.int (own_b x0)), .val (.int (own_b x1)), .val (.ref b153), .val (.ref b159), .val (.ref b167), .val (.ref b186), .val (.ref b207), .val (.ref b231), .val (.ref b260), .val (.int (x5 &&& (7 : Int32))), .val (.ref b231), .val (.int (1 : Int32))] [(.ref b231), (.ref b207)])) rfl (by rw [hml]; rfl) (argsL := [(.ref b231)]) (rest := []) (lenOf own_pd8 rfl) rfl rfl (by show 2 * 0 + _ ≤ _; exact Nat.le_of_eq rfl) (hb hby at_222) (by decide) (by decide)
              refine own_go st332 ?_
              show own_G p.tables e below _ (T332.setTop (mkF m 225 #[.val (.int x0), .val (.int x1), .val (.int x2), .val (.int x3), .val (.int x4), .val (.int x5), .val (.int (own_b x0)), .val (.int (own_b x1)), .val (.ref b153), .val (.ref b159), .val (.ref b167), .val (.ref b186), .val (.ref b207), .val (.ref b231), .val (.ref b260), .val (.int (x5 &&& (7 : Int32))), .val (.ref b231), .val (.int (1 : Int32))] [(.int (Feqa (nar .boolean (own_b x0)) (nar .boolean (own_b x1))))]))
              refine own_go (fun _ k => XS.iload X332.here hx rfl (hb hby at_225) rfl k) ?_
              show own_G p.tables e below _ (T332.setTop (mkF m 227 #[.val (.int x0), .val (.int x1), .val (.int x2), .val (.int x3), .val (.int x4), .val (.int x5), .val (.int (own_b x0)), .val (.int (own_b x1)), .val (.ref b153), .val (.ref b159), .val (.ref b167), .val (.ref b186), .val (.ref b207), .val (.ref b231), .val (.ref b260), .val (.int (x5 &&& (7 : Int32))), .val (.ref b231), .val (.int (1 : Int32))] [(.int (1 : Int32)), (.int (Feqa (nar .boolean (own_b x0)) (nar .boolean (own_b x1))))]))
              by_cases hc227_333 : (Feqa (nar .boolean (own_b x0)) (nar .boolean (own_b x1))) = (1 : Int32)
              · refine own_go (fun _ k => XS.icmpNo X332.here hx rfl (hb hby at_227) rfl ((teq hc227_333).2) k) ?_
                show own_G p.tables e below _ (T332.setTop (mkF m 230 #[.val (.int x0), .val (.int x1), .val (.int x2), .val (.int x3), .val (.int x4), .val (.int x5), .val (.int (own_b x0)), .val (.int (own_b x1)), .val (.ref b153), .val (.ref b159), .val (.ref b167), .val (.ref b186), .val (.ref b207), .val (.ref b231), .val (.ref b260), .val (.int (x5 &&& (7 : Int32))), .val (.ref b231), .val (.int (1 : Int32))] []))
                refine own_go (fun _ k => XS.iconst X332.here hx rfl (hb hby at_230) k) ?_
                show own_G p.tables e below _ (T332.setTop (mkF m 231 #[.val (.int x0), .val (.int x1), .val (.int x2), .val (.int x3), .val (.int x4), .val (.int x5), .val (.int (own_b x0)), .val (.int (own_b x1)), .val (.ref b153), .val (.ref b159), .val (.ref b167), .val (.ref b186), .val (.ref b207), .val (.ref b231), .val (.ref b260), .val (.int (x5 &&& (7 : Int32))), .val (.ref b231), .val (.int (1 : Int32))] [(.int (1 : Int32))]))
                refine own_go (fun _ k => XS.goto X332.here hx rfl (pc0 := 231) (pc' := 235) rfl (hb hby at_231) (by decide) (by decide) k) ?_
                show own_G p.tables e below _ (T332.setTop (mkF m 235 #[.val (.int x0), .val (.int x1), .val (.int x2), .val (.int x3), .val (.int x4), .val (.int x5), .val (.int (own_b x0)), .val (.int (own_b x1)), .val (.ref b153), .val (.ref b159), .val (.ref b167), .val (.ref b186), .val (.ref b207), .val (.ref b231), .val (.ref b260), .val (.int (x5 &&& (7 : Int32))), .val (.ref b231), .val (.int (1 : Int32))] [(.int (1 : Int32))]))
                exact own_endW X332 Bd.notSynchronized hS (by rw [e332]; exact hk279) (v := some (.int (nar .boolean (1 : Int32)))) (fun h => by rw [Bd.returns] at h; cases h) (Q := QL (some (.int (F0 x0 x1 x2 x3 x4 x5))) n0) ⟨by unfold F0; simp only [if_neg hc133_292, if_neg hc146_301, if_neg hc159_310, if_neg hc173_319, if_neg hc183_328, if_pos hc190_331, if_pos hc227_333]; try rfl, N_279⟩ (fun fs hr => retN X332 hx (t := .boolean) Bd.returns (by simp) (hb hby at_235) hr) (by decide) (by decide)
              · refine own_go (fun _ k => XS.icmpYes X332.here hx rfl (pc0 := 227) (pc' := 234) rfl (hb hby at_227) rfl ((feq hc227_333).2) (by decide) (by decide) k) ?_
                show own_G p.tables e below _ (T332.setTop (mkF m 234 #[.val (.int x0), .val (.int x1), .val (.int x2), .val (.int x3), .val (.int x4), .val (.int x5), .val (.int (own_b x0)), .val (.int (own_b x1)), .val (.ref b153), .val (.ref b159), .val (.ref b167), .val (.ref b186), .val (.ref b207), .val (.ref b231), .val (.ref b260), .val (.int (x5 &&& (7 : Int32))), .val (.ref b231), .val (.int (1 : Int32))] []))
                refine own_go (fun _ k => XS.iconst X332.here hx rfl (hb hby at_234) k) ?_
                show own_G p.tables e below _ (T332.setTop (mkF m 235 #[.val (.int x0), .val (.int x1), .val (.int x2), .val (.int x3), .val (.int x4), .val (.int x5), .val (.int (own_b x0)), .val (.int (own_b x1)), .val (.ref b153), .val (.ref b159), .val (.ref b167), .val (.ref b186), .val (.ref b207), .val (.ref b231), .val (.ref b260), .val (.int (x5 &&& (7 : Int32))), .val (.ref b231), .val (.int (1 : Int32))] [(.int (0 : Int32))]))
                exact own_endW X332 Bd.notSynchronized hS (by rw [e332]; exact hk279) (v := some (.int (nar .boolean (0 : Int32)))) (fun h => by rw [Bd.returns] at h; cases h) (Q := QL (some (.int (F0 x0 x1 x2 x3 x4 x5))) n0) ⟨by unfold F0; simp only [if_neg hc133_292, if_neg hc146_301, if_neg hc159_310, if_neg hc173_319, if_neg hc183_328, if_pos hc190_331, if_neg hc227_333]; try rfl, N_279⟩ (fun fs hr => retN X332 hx (t := .boolean) Bd.returns (by simp) (hb hby at_235) hr) (by decide) (by decide)
            · refine own_go (fun _ k => XS.icmpYes X279.here hx rfl (pc0 := 190) (pc' := 197) rfl (hb hby at_190) rfl ((feq hc190_331).2) (by decide) (by decide) k) ?_
              show own_G p.tables e below _ (T279.setTop (mkF m 197 #[.val (.int x0), .val (.int x1), .val (.int x2), .val (.int x3), .val (.int x4), .val (.int x5), .val (.int (own_b x0)), .val (.int (own_b x1)), .val (.ref b153), .val (.ref b159), .val (.ref b167), .val (.ref b186), .val (.ref b207), .val (.ref b231), .val (.ref b260), .val (.int (x5 &&& (7 : Int32))), .val (.ref b231), .unset] []))
              refine own_go (fun _ k => XS.iconst X279.here hx rfl (hb hby at_197) k) ?_
              show own_G p.tables e below _ (T279.setTop (mkF m 198 #[.val (.int x0), .val (.int x1), .val (.int x2), .val (.int x3), .val (.int x4), .val (.int x5), .val (.int (own_b x0)), .val (.int (own_b x1)), .val (.ref b153), .val (.ref b159), .val (.ref b167), .val (.ref b186), .val (.ref b207), .val (.ref b231), .val (.ref b260), .val (.int (x5 &&& (7 : Int32))), .val (.ref b231), .unset] [(.int (0 : Int32))]))
              refine own_go (fun _ k => XS.istore X279.here hx rfl (hb hby at_198) rfl (l' := #[.val (.int x0), .val (.int x1), .val (.int x2), .val (.int x3), .val (.int x4), .val (.int x5), .val (.int (own_b x0)), .val (.int (own_b x1)), .val (.ref b153), .val (.ref b159), .val (.ref b167), .val (.ref b186), .val (.ref b207), .val (.ref b231), .val (.ref b260), .val (.int (x5 &&& (7 : Int32))), .val (.ref b231), .val (.int (0 : Int32))]) rfl k) ?_
              show own_G p.tables e below _ (T279.setTop (mkF m 200 #[.val (.int x0), .val (.int x1), .val (.int x2), .val (.int x3), .val (.int x4), .val (.int x5), .val (.int (own_b x0)), .val (.int (own_b x1)), .val (.ref b153), .val (.ref b159), .val (.ref b167), .val (.ref b186), .val (.ref b207), .val (.ref b231), .val (.ref b260), .val (.int (x5 &&& (7 : Int32))), .val (.ref b231), .val (.int (0 : Int32))] []))
              refine own_go (fun _ k => XS.goto X279.here hx rfl (pc0 := 200) (pc' := 218) rfl (hb hby at_200) (by decide) (by decide) k) ?_
              show own_G p.tables e below _ (T279.setTop (mkF m 218 #[.val (.int x0), .val (.int x1), .val (.int x2), .val (.int x3), .val (.int x4), .val (.int x5), .val (.int (own_b x0)), .val (.int (own_b x1)), .val (.ref b153), .val (.ref b159), .val (.ref b167), .val (.ref b186), .val (.ref b207), .val (.ref b231), .val (.ref b260), .val (.int (x5 &&& (7 : Int32))), .val (.ref b231), .val (.int (0 : Int32))] []))
              refine own_go (fun _ k => XS.aload X279.here hx rfl (hb hby at_218) rfl rfl k) ?_
              show own_G p.tables e below _ (T279.setTop (mkF m 220 #[.val (.int x0), .val (.int x1), .val (.int x2), .val (.int x3), .val (.int x4), .val (.int x5), .val (.int (own_b x0)), .val (.int (own_b x1)), .val (.ref b153), .val (.ref b159), .val (.ref b167), .val (.ref b186), .val (.ref b207), .val (.ref b231), .val (.ref b260), .val (.int (x5 &&& (7 : Int32))), .val (.ref b231), .val (.int (0 : Int32))] [(.ref b207)]))
              refine own_go (fun _ k => XS.aload X279.here hx rfl (hb hby at_220) rfl rfl k) ?_
              show own_G p.tables e below _ (T279.setTop (mkF m 222 #[.val (.int x0), .val (.int x1), .val (.int x2), .val (.int x3), .val (.int x4), .val (.int x5), .val (.int (own_b x0)), .val (.int (own_b x1)), .val (.ref b153), .val (.ref b159), .val (.ref b167), .val (.ref b186), .val (.ref b207), .val (.ref b231), .val (.ref b260), .val (.int (x5 &&& (7 : Int32))), .val (.ref b231), .val (.int (0 : Int32))] [(.ref b231), (.ref b207)]))
              obtain ⟨T334, X334, e334, st334⟩ := own_callV X279 hx hZ (y := (⟨"com/example/ptah/ptah/model/BooleanNode", "equals", "(Ljava/lang/Object;)Z"⟩ : MethodName)) hown (hw _ (List.mem_of_getElem? (i := 75) rfl)) (hw _ (List.mem_of_getElem? (i := 76) rfl)) (hw _ (List.mem_of_getElem? (i := 78) rfl)) (hw _ (List.mem_of_getElem? (i := 77) rfl)) (hw _ (List.mem_of_getElem? (i := 49) rfl)) (hw _ (List.mem_of_getElem? (i := 79) rfl)) (by decide) (W := 0) (rm_eqa l Z a0 hw [] b207 b231 (nar .boolean (own_b x0)) (nar .boolean (own_b x1)) T279.heap F_286 F_288 X_287) (by decide) (by decide) rfl rfl rfl X_285 (g := (mkF m 222 #[.val (.int x0), .val (.int x1), .val (.int x2), .val (.int x3), .val (.int x4), .val (.int x5), .val (.int (own_b x0)), .val (.int (own_b x1)), .val (.ref b153), .val (.ref b159), .val (.ref b167), .val (.ref b186), .val (.ref b207), .val (.ref b231), .val (.ref b260), .val (.int (x5 &&& (7 : Int32))), .val (.ref b231), .val (.int (0 : Int32))] [(.ref b231), (.ref b207)])) rfl (by rw [hml]; rfl) (argsL := [(.ref b231)]) (rest := []) (lenOf own_pd8 rfl) rfl rfl (by show 2 * 0 + _ ≤ _; exact Nat.le_of_eq rfl) (hb hby at_222) (by decide) (by decide)
              refine own_go st334 ?_
              show own_G p.tables e below _ (T334.setTop (mkF m 225 #[.val (.int x0), .val (.int x1), .val (.int x2), .val (.int x3), .val (.int x4), .val (.int x5), .val (.int (own_b x0)), .val (.int (own_b x1)), .val (.ref b153), .val (.ref b159), .val (.ref b167), .val (.ref b186), .val (.ref b207), .val (.ref b231), .val (.ref b260), .val (.int (x5 &&& (7 : Int32))), .val (.ref b231), .val (.int (0 : Int32))] [(.int (Feqa (nar .boolean (own_b x0)) (nar .boolean (own_b x1))))]))
              refine own_go (fun _ k => XS.iload X334.here hx rfl (hb hby at_225) rfl k) ?_
              show own_G p.tables e below _ (T334.setTop (mkF m 227 #[.val (.int x0), .val (.int x1), .val (.int x2), .val (.int x3), .val (.int x4), .val (.int x5), .val (.int (own_b x0)), .val (.int (own_b x1)), .val (.ref b153), .val (.ref b159), .val (.ref b167), .val (.ref b186), .val (.ref b207), .val (.ref b231), .val (.ref b260), .val (.int (x5 &&& (7 : Int32))), .val (.ref b231), .val (.int (0 : Int32))] [(.int (0 : Int32)), (.int (Feqa (nar .boolean (own_b x0)) (nar .boolean (own_b x1))))]))
              by_cases hc227_335 : (Feqa (nar .boolean (own_b x0)) (nar .boolean (own_b x1))) = (0 : Int32)
              · refine own_go (fun _ k => XS.icmpNo X334.here hx rfl (hb hby at_227) rfl ((teq hc227_335).2) k) ?_
                show own_G p.tables e below _ (T334.setTop (mkF m 230 #[.val (.int x0), .val (.int x1), .val (.int x2), .val (.int x3), .val (.int x4), .val (.int x5), .val (.int (own_b x0)), .val (.int (own_b x1)), .val (.ref b153), .val (.ref b159), .val (.ref b167), .val (.ref b186), .val (.ref b207), .val (.ref b231), .val (.ref b260), .val (.int (x5 &&& (7 : Int32))), .val (.ref b231), .val (.int (0 : Int32))] []))
                refine own_go (fun _ k => XS.iconst X334.here hx rfl (hb hby at_230) k) ?_
                show own_G p.tables e below _ (T334.setTop (mkF m 231 #[.val (.int x0), .val (.int x1), .val (.int x2), .val (.int x3), .val (.int x4), .val (.int x5), .val (.int (own_b x0)), .val (.int (own_b x1)), .val (.ref b153), .val (.ref b159), .val (.ref b167), .val (.ref b186), .val (.ref b207), .val (.ref b231), .val (.ref b260), .val (.int (x5 &&& (7 : Int32))), .val (.ref b231), .val (.int (0 : Int32))] [(.int (1 : Int32))]))
                refine own_go (fun _ k => XS.goto X334.here hx rfl (pc0 := 231) (pc' := 235) rfl (hb hby at_231) (by decide) (by decide) k) ?_
                show own_G p.tables e below _ (T334.setTop (mkF m 235 #[.val (.int x0), .val (.int x1), .val (.int x2), .val (.int x3), .val (.int x4), .val (.int x5), .val (.int (own_b x0)), .val (.int (own_b x1)), .val (.ref b153), .val (.ref b159), .val (.ref b167), .val (.ref b186), .val (.ref b207), .val (.ref b231), .val (.ref b260), .val (.int (x5 &&& (7 : Int32))), .val (.ref b231), .val (.int (0 : Int32))] [(.int (1 : Int32))]))
                exact own_endW X334 Bd.notSynchronized hS (by rw [e334]; exact hk279) (v := some (.int (nar .boolean (1 : Int32)))) (fun h => by rw [Bd.returns] at h; cases h) (Q := QL (some (.int (F0 x0 x1 x2 x3 x4 x5))) n0) ⟨by unfold F0; simp only [if_neg hc133_292, if_neg hc146_301, if_neg hc159_310, if_neg hc173_319, if_neg hc183_328, if_neg hc190_331, if_pos hc227_335]; try rfl, N_279⟩ (fun fs hr => retN X334 hx (t := .boolean) Bd.returns (by simp) (hb hby at_235) hr) (by decide) (by decide)
              · refine own_go (fun _ k => XS.icmpYes X334.here hx rfl (pc0 := 227) (pc' := 234) rfl (hb hby at_227) rfl ((feq hc227_335).2) (by decide) (by decide) k) ?_
                show own_G p.tables e below _ (T334.setTop (mkF m 234 #[.val (.int x0), .val (.int x1), .val (.int x2), .val (.int x3), .val (.int x4), .val (.int x5), .val (.int (own_b x0)), .val (.int (own_b x1)), .val (.ref b153), .val (.ref b159), .val (.ref b167), .val (.ref b186), .val (.ref b207), .val (.ref b231), .val (.ref b260), .val (.int (x5 &&& (7 : Int32))), .val (.ref b231), .val (.int (0 : Int32))] []))
                refine own_go (fun _ k => XS.iconst X334.here hx rfl (hb hby at_234) k) ?_
                show own_G p.tables e below _ (T334.setTop (mkF m 235 #[.val (.int x0), .val (.int x1), .val (.int x2), .val (.int x3), .val (.int x4), .val (.int x5), .val (.int (own_b x0)), .val (.int (own_b x1)), .val (.ref b153), .val (.ref b159), .val (.ref b167), .val (.ref b186), .val (.ref b207), .val (.ref b231), .val (.ref b260), .val (.int (x5 &&& (7 : Int32))), .val (.ref b231), .val (.int (0 : Int32))] [(.int (0 : Int32))]))
                exact own_endW X334 Bd.notSynchronized hS (by rw [e334]; exact hk279) (v := some (.int (nar .boolean (0 : Int32)))) (fun h => by rw [Bd.returns] at h; cases h) (Q := QL (some (.int (F0 x0 x1 x2 x3 x4 x5))) n0) ⟨by unfold F0; simp only [if_neg hc133_292, if_neg hc146_301, if_neg hc159_310, if_neg hc173_319, if_neg hc183_328, if_neg hc190_331, if_neg hc227_335]; try rfl, N_279⟩ (fun fs hr => retN X334 hx (t := .boolean) Bd.returns (by simp) (hb hby at_235) hr) (by decide) (by decide)
theorem own_b01 (x : Int32) : own_b x = 0 ∨ own_b x = 1 := by
  unfold own_b
  by_cases h : (x &&& (1 : Int32)) = (0 : Int32)
  · exact Or.inl (if_pos h)
  · exact Or.inr (if_neg h)
theorem own_m3 (x : Int32) : ∃ n : Nat, n < 8 ∧ (x &&& (7 : Int32)) = Int32.ofNat n := by
  have e := Jvm.Kit.i32_mask x 7 (k := 3) (by decide) (by decide)
  exact ⟨(x &&& (7 : Int32)).toInt.toNat, by omega, own_ext (by omega) (by omega)⟩
theorem own_law (a b c d e f : Int32) : F0 a b c d e f = 1 := by
  obtain ⟨n, hn, en⟩ := own_m3 f
  unfold F0
  rw [en]
  rcases own_b01 a with ea | ea <;> rcases own_b01 b with eb | eb <;> rw [ea, eb] <;>
  · match n, hn with
    | 0, _ => rfl
    | 1, _ => rfl
    | 2, _ => rfl
    | 3, _ => rfl
    | 4, _ => rfl
    | 5, _ => rfl
    | 6, _ => rfl
    | 7, _ => rfl

set_option maxRecDepth 65536 in
set_option maxHeartbeats 40000000 in
theorem comes_1 {Post : Tables → Env → Array Value → State → Outcome → State → Prop} (hpost : ∀ tb e args s v u, (limb_1_1.after args s (.returned v) u = true ∧ limb_1_2.after args s (.returned v) u = true ∧ True) → ReturnedEndW s (.returned v) u (Jvm.fieldLocs frame_1_writes args s ++ Jvm.arrayLocs frame_1_arrays args s ++ Jvm.staticLocs frame_1_statics s) 32 2176 → Post tb e args s (.returned v) u) :
    ArmFor flags0 classFile x code maxLocals ret World_1 tables_1 room_1 Calls_1 rest_1 Pre_1 Post := by
  intro l hfl _ _ p e ha hc hk s m args below hf hA hF happ hP
  obtain ⟨hcalls, hrest, hpre⟩ := hP
  obtain ⟨-, -, -, hnamed, -, -, -, hat⟩ := (Spec.applies_iff hf).mp happ
  obtain ⟨hg, hn⟩ := and_e (Cond.before_iff.mp (show (Jvm.Cond.and given_1 narrow_1).before args s = true from hpre))
  obtain ⟨hcnt, hq0⟩ := and_e hg
  obtain ⟨ha0, hq1⟩ := and_e hq0
  obtain ⟨ha1, hq2⟩ := and_e hq1
  obtain ⟨ha2, hq3⟩ := and_e hq2
  obtain ⟨ha3, hq4⟩ := and_e hq3
  obtain ⟨ha4, hq5⟩ := and_e hq4
  have ha5 := hq5
  obtain ⟨w0, w1, w2, w3, w4, w5, rfl⟩ : ∃ w0 w1 w2 w3 w4 w5 : Value, args = #[w0, w1, w2, w3, w4, w5] := by
    have hs : args.size = 6 := by simpa [Cond.value, given_1] using hcnt
    obtain ⟨L⟩ := args
    match L, hs with
    | [w0, w1, w2, w3, w4, w5], _ => exact ⟨w0, w1, w2, w3, w4, w5, rfl⟩
  have hw := fun d (hd : d ∈ tables_1) => atoms_spec (ws := Jvm.Cond.code x code maxLocals ret :: tables_1) hat d (List.mem_cons_of_mem _ hd)
  have hfit : Fit s := fun {y c} hc i hi => by
    obtain ⟨ha, rfl⟩ := Array.getElem?_eq_some_iff.mp hc
    have q := List.all_eq_true.mp ((Array.all_eq_true_iff_forall_mem.mp hF) _ (Array.getElem_mem ha)) i (List.mem_range.mpr hi)
    simpa [Array.getElem?_eq_getElem hi] using q
  obtain ⟨hsets, hown0⟩ := atoms_of _ (rest_1_c_eq ▸ (show rest_1_c.before _ s = true from hrest))
  obtain ⟨i0, ei0⟩ := is_v ha0
  obtain rfl : w0 = (.int i0) := Option.some.inj ei0
  obtain ⟨i1, ei1⟩ := is_v ha1
  obtain rfl : w1 = (.int i1) := Option.some.inj ei1
  obtain ⟨i2, ei2⟩ := is_v ha2
  obtain rfl : w2 = (.int i2) := Option.some.inj ei2
  obtain ⟨i3, ei3⟩ := is_v ha3
  obtain rfl : w3 = (.int i3) := Option.some.inj ei3
  obtain ⟨i4, ei4⟩ := is_v ha4
  obtain rfl : w4 = (.int i4) := Option.some.inj ei4
  obtain ⟨i5, ei5⟩ := is_v ha5
  obtain rfl : w5 = (.int i5) := Option.some.inj ei5
  obtain ⟨cz, ecz⟩ := is_v (Cond.before_iff.mp (hsets _ (List.mem_of_getElem? (i := 1) rfl)))
  have Sc : Sta s s.heap "java/lang/String" "COMPACT_STRINGS" "Z" (.int cz) := Sta.start ecz (Or.inl (hsets _ (List.mem_of_getElem? (i := 0) rfl)))
  have hcz : ¬ cz = (0 : Int32) := own_cz ecz (Cond.before_iff.mp (hsets _ (List.mem_of_getElem? (i := 2) rfl)))
  obtain ⟨n, o, h1, h2, h3, _, L, rfl, ⟨rfl, N⟩, hq⟩ := rm0 l s _ hw tables_1 i0 i1 i2 i3 i4 i5 cz s.heap s.heap.size (Nat.le_refl _) Sc hcz p e ha hc hk s m _ below hf ((Spec.applies_iff_loose hf).mp happ).1 ⟨rfl, State.Warmed39.refl s, rfl⟩ trivial
  refine ⟨n, _, h1, h2, h3, hpost _ _ _ _ _ _ ⟨Cond.after_iff.mpr rfl, Cond.after_iff.mpr (eq_i res_at (Term.int_eval (1)) (by rw [own_law])), trivial⟩ ⟨hq.1, hq.2.1, hq.2.2.1, (hq.2.2.2.sift fun y hy => Or.inr (N y hy)).mono (by decide) (by decide)⟩⟩
theorem main_1_1 : Claimed_1_1 := comes_1 fun _ _ _ _ _ _ h hF => ⟨h.1, hF⟩
theorem main_1_2 : Claimed_1_2 := comes_1 fun _ _ _ _ _ _ h hF => ⟨h.2.1, hF⟩
end Jvm.Pilot.@@N@@
namespace Jvm.Pilot.@@N@@
open Jvm Jvm.ClassFile Sem Op Lib Jvm.Free Jvm.Stand Jvm.Pilot.@@N@@.Jvm.D
/-! MADE BY PROGRAM (witnessworld.py) out of the Statement's table words and the real class files: 21 classes; the members and pool entries that the words name. The judged class is class 1, her method 1. -/
namespace start1
open Jvm.ClassFile
def u (s : String) : CpInfo := .utf8 (stringToUtf16 s)
/-- a pool by its gaps: so many unusable entries, then the entry; so many at the end -/
def gap : Nat → List CpInfo → List CpInfo
  | 0, r => r
  | n + 1, r => .unusable :: gap n r
def poolList (es : List (Nat × CpInfo)) (last : Nat) : List CpInfo := es.foldr (fun e r => gap e.1 (e.2 :: r)) (gap last [])
def pool (es : List (Nat × CpInfo)) (last : Nat) : Array CpInfo := ⟨poolList es last⟩
def fileOf (pool : Array CpInfo) (this : Nat) (attrs : Array Attribute := #[]) (ms : Array MethodInfo := #[]) (fl : Nat := 33) (sup : Nat := 0) (ifs : Array Nat := #[]) (fds : Array FieldInfo := #[]) : ClassFile where
  minorVersion := 0
  majorVersion := 65
  constantPool := pool
  accessFlags := fl
  thisClass := this
  superClass := sup
  interfaces := ifs
  fields := fds
  methods := ms
  attributes := attrs
def plain (name : String) (sup : Option ClassId) : Class where
  name := name
  kind := .ordinary
  loader := none
  accessFlags := 33
  super := sup
  interfaces := #[]
  cf := none
  fields := #[]
  methods := #[]
  instanceTypes := #[]
  staticTypes := #[]
  resolved := #[]
  callSites := []
  init := .initialized
  statics := none
  mirror := none

def pool0 : Array CpInfo := pool [(5, u "<init>"), (0, u "()V"), (1, .class_ 10), (1, u "java/lang/Object")] 113

def k0c0 : Code := { maxStack := 0, maxLocals := 1, code := object_method_1_code, exceptionTable := #[], attributes := #[] }
def k0m0 : Method := { name := "<init>", desc := "()V", sig := { parameters := [], returnType := none }, accessFlags := 1, code := some k0c0 }
/-- java/lang/Object -/
def k0 : Class := { plain "java/lang/Object" none with
  accessFlags := 33
  interfaces := #[]
  cf := some (fileOf pool0 8 #[] #[{ accessFlags := 1, nameIndex := 5, descriptorIndex := 6, attributes := #[] }] 33 0 #[] #[])
  fields := #[]
  methods := #[k0m0]
  instanceTypes := #[]
  staticTypes := #[]
  resolved := Array.replicate 124 none
  statics := none }

def pool1 : Array CpInfo := pool [(2, .class_ 4), (1, u "java/lang/Object"), (0, u "<init>"), (0, u "()V"), (0, .methodref 8 9), (0, .class_ 10), (0, .nameAndType 11 12), (0, u "java/lang/String"), (0, u "valueOf"), (0, u "(C)Ljava/lang/String;"), (0, .class_ 14), (0, u "com/example/ptah/ptah/model/SourceLocation"), (0, .methodref 13 16), (0, .nameAndType 5 17), (0, u "(Ljava/lang/String;II)V"), (0, .class_ 19), (0, u "com/example/ptah/ptah/model/BooleanNode"), (0, .methodref 18 21), (0, .nameAndType 5 22), (0, u "(ZLcom/example/ptah/ptah/model/SourceLocation;)V"), (0, .class_ 24), (0, u "com/example/ptah/ptah/model/NullNode"), (0, .methodref 23 26), (0, .nameAndType 5 27), (0, u "(Lcom/example/ptah/ptah/model/SourceLocation;)V"), (0, .methodref 18 29), (0, .nameAndType 30 31), (0, u "equals"), (0, u "(Ljava/lang/Object;)Z"), (0, .class_ 33), (0, u "com/example/ptah/ptah/model/BooleanNodeEqualsPinLaw"), (2, u "law"), (0, u "(IIIIII)Z")] 3

def k1m0 : Method := { name := "<init>", desc := "()V", sig := { parameters := [], returnType := none }, accessFlags := 2, code := none }
def k1c1 : Code := { maxStack := 6, maxLocals := 18, code := code, exceptionTable := #[], attributes := #[] }
def k1m1 : Method := { name := "law", desc := "(IIIIII)Z", sig := { parameters := [.int, .int, .int, .int, .int, .int], returnType := some .boolean }, accessFlags := 9, code := some k1c1 }
/-- com/example/ptah/ptah/model/BooleanNodeEqualsPinLaw -/
def k1 : Class := { plain "com/example/ptah/ptah/model/BooleanNodeEqualsPinLaw" (some 0) with
  accessFlags := 49
  interfaces := #[]
  cf := some (fileOf pool1 32 #[] #[{ accessFlags := 2, nameIndex := 5, descriptorIndex := 6, attributes := #[] }, { accessFlags := 9, nameIndex := 36, descriptorIndex := 37, attributes := #[] }] 49 2 #[] #[])
  fields := #[]
  methods := #[k1m0, k1m1]
  instanceTypes := #[]
  staticTypes := #[]
  resolved := Array.replicate 41 none
  statics := none }

def pool2 : Array CpInfo := pool [(1, .class_ 2), (0, u "java/io/Serializable"), (0, .class_ 4), (0, u "java/lang/Object")] 2

/-- java/io/Serializable -/
def k2 : Class := { plain "java/io/Serializable" (some 0) with
  accessFlags := 1537
  interfaces := #[]
  cf := some (fileOf pool2 1 #[] #[] 1537 3 #[] #[])
  fields := #[]
  methods := #[]
  instanceTypes := #[]
  staticTypes := #[]
  resolved := Array.replicate 7 none
  statics := none }

def pool3 : Array CpInfo := pool [(1, .class_ 2), (0, u "java/lang/Comparable"), (0, .class_ 4), (0, u "java/lang/Object")] 7

/-- java/lang/Comparable -/
def k3 : Class := { plain "java/lang/Comparable" (some 0) with
  accessFlags := 1537
  interfaces := #[]
  cf := some (fileOf pool3 1 #[] #[] 1537 3 #[] #[])
  fields := #[]
  methods := #[]
  instanceTypes := #[]
  staticTypes := #[]
  resolved := Array.replicate 12 none
  statics := none }

def pool4 : Array CpInfo := pool [(2, .class_ 4), (1, u "java/lang/CharSequence"), (42, .class_ 48), (0, u "java/lang/CharSequence$1CodePointIterator"), (10, .class_ 60), (0, u "java/lang/CharSequence$1CharIterator"), (5, .class_ 67), (0, u "java/lang/Object")] 63

/-- java/lang/CharSequence -/
def k4 : Class := { plain "java/lang/CharSequence" (some 0) with
  accessFlags := 1537
  interfaces := #[]
  cf := some (fileOf pool4 2 #[.nestMembers #[47, 59]] #[] 1537 66 #[] #[])
  fields := #[]
  methods := #[]
  instanceTypes := #[]
  staticTypes := #[]
  resolved := Array.replicate 131 none
  statics := none }

def pool5 : Array CpInfo := pool [(1, .class_ 2), (0, u "java/lang/constant/Constable"), (0, .class_ 4), (0, u "java/lang/Object")] 6

/-- java/lang/constant/Constable -/
def k5 : Class := { plain "java/lang/constant/Constable" (some 0) with
  accessFlags := 1537
  interfaces := #[]
  cf := some (fileOf pool5 1 #[] #[] 1537 3 #[] #[])
  fields := #[]
  methods := #[]
  instanceTypes := #[]
  staticTypes := #[]
  resolved := Array.replicate 11 none
  statics := none }

def pool6 : Array CpInfo := pool [(1, .class_ 2), (0, u "java/lang/constant/ConstantDesc"), (0, .class_ 4), (0, u "java/lang/Object")] 32

/-- java/lang/constant/ConstantDesc -/
def k6 : Class := { plain "java/lang/constant/ConstantDesc" (some 0) with
  accessFlags := 1537
  interfaces := #[]
  cf := some (fileOf pool6 1 #[] #[] 1537 3 #[] #[])
  fields := #[]
  methods := #[]
  instanceTypes := #[]
  staticTypes := #[]
  resolved := Array.replicate 37 none
  statics := none }

def pool7 : Array CpInfo := pool [(1, .methodref 2 3), (0, .class_ 4), (0, .nameAndType 5 6), (0, u "java/lang/Object"), (0, u "<init>"), (0, u "()V"), (2, .fieldref 10 11), (0, .class_ 12), (0, .nameAndType 13 14), (0, u "java/lang/String"), (0, u "value"), (0, u "[B"), (0, .fieldref 10 16), (0, .nameAndType 17 18), (0, u "coder"), (0, u "B"), (2, u "hash"), (0, u "I"), (2, u "hashIsZero"), (0, u "Z"), (11, .fieldref 10 39), (0, .nameAndType 40 26), (0, u "COMPACT_STRINGS"), (12, u "toBytes"), (53, .class_ 109), (1, u "java/lang/StringLatin1"), (99, .methodref 10 210), (0, .nameAndType 5 211), (0, u "([BB)V"), (157, u "(C)Z"), (205, .class_ 576), (0, u "java/lang/CharSequence"), (22, u "CASE_INSENSITIVE_ORDER"), (0, u "Ljava/util/Comparator;"), (181, u "valueOf"), (0, u "(C)Ljava/lang/String;"), (231, .methodref 107 1016), (0, .nameAndType 1017 369), (0, u "canEncode"), (0, .methodref 107 1019), (0, .nameAndType 53 1020), (0, u "(C)[B"), (80, u "serialPersistentFields"), (0, u "[Ljava/io/ObjectStreamField;"), (0, .class_ 1104), (0, u "java/lang/String$CaseInsensitiveComparator"), (1, .class_ 1107), (0, u "java/io/Serializable"), (0, .class_ 1109), (0, u "java/lang/Comparable"), (0, .class_ 1111), (0, u "java/lang/constant/Constable"), (0, .class_ 1113), (0, u "java/lang/constant/ConstantDesc"), (2, u "serialVersionUID"), (0, u "J"), (3, u "REPL"), (0, u "C"), (2, u "LATIN1"), (1, u "UTF16")] 323

def k7m0 : Method := { name := "<init>", desc := "()V", sig := { parameters := [], returnType := none }, accessFlags := 1, code := none }
def k7c1 : Code := { maxStack := 4, maxLocals := 1, code := jdk_42_method_139_code, exceptionTable := #[], attributes := #[] }
def k7m1 : Method := { name := "valueOf", desc := "(C)Ljava/lang/String;", sig := { parameters := [.char], returnType := some (.object "java/lang/String") }, accessFlags := 9, code := some k7c1 }
def k7c2 : Code := { maxStack := 2, maxLocals := 3, code := jdk_42_method_151_code, exceptionTable := #[], attributes := #[] }
def k7m2 : Method := { name := "<init>", desc := "([BB)V", sig := { parameters := [(.array .byte), .byte], returnType := none }, accessFlags := 0, code := some k7c2 }
/-- java/lang/String -/
def k7 : Class := { plain "java/lang/String" (some 0) with
  accessFlags := 49
  interfaces := #[2, 3, 4, 5, 6]
  cf := some (fileOf pool7 10 #[.nestMembers #[1103]] #[{ accessFlags := 1, nameIndex := 5, descriptorIndex := 6, attributes := #[] }, { accessFlags := 9, nameIndex := 782, descriptorIndex := 783, attributes := #[] }, { accessFlags := 0, nameIndex := 5, descriptorIndex := 211, attributes := #[] }] 49 2 #[1106, 1108, 575, 1110, 1112] #[{ accessFlags := 18, nameIndex := 13, descriptorIndex := 14, attributes := #[] }, { accessFlags := 18, nameIndex := 17, descriptorIndex := 18, attributes := #[] }, { accessFlags := 2, nameIndex := 21, descriptorIndex := 22, attributes := #[] }, { accessFlags := 2, nameIndex := 25, descriptorIndex := 26, attributes := #[] }, { accessFlags := 26, nameIndex := 1116, descriptorIndex := 1117, attributes := #[] }, { accessFlags := 24, nameIndex := 40, descriptorIndex := 26, attributes := #[] }, { accessFlags := 26, nameIndex := 1101, descriptorIndex := 1102, attributes := #[] }, { accessFlags := 26, nameIndex := 1121, descriptorIndex := 1122, attributes := #[] }, { accessFlags := 25, nameIndex := 599, descriptorIndex := 600, attributes := #[] }, { accessFlags := 24, nameIndex := 1125, descriptorIndex := 18, attributes := #[] }, { accessFlags := 24, nameIndex := 1127, descriptorIndex := 18, attributes := #[] }])
  fields := #[{ name := "value", type := (.array .byte), accessFlags := 18, slot := 0, constantValue := 0 }, { name := "coder", type := .byte, accessFlags := 18, slot := 1, constantValue := 0 }, { name := "hash", type := .int, accessFlags := 2, slot := 2, constantValue := 0 }, { name := "hashIsZero", type := .boolean, accessFlags := 2, slot := 3, constantValue := 0 }, { name := "serialVersionUID", type := .long, accessFlags := 26, slot := 0, constantValue := 0 }, { name := "COMPACT_STRINGS", type := .boolean, accessFlags := 24, slot := 1, constantValue := 0 }, { name := "serialPersistentFields", type := (.array (.object "java/io/ObjectStreamField")), accessFlags := 26, slot := 2, constantValue := 0 }, { name := "REPL", type := .char, accessFlags := 26, slot := 3, constantValue := 0 }, { name := "CASE_INSENSITIVE_ORDER", type := (.object "java/util/Comparator"), accessFlags := 25, slot := 4, constantValue := 0 }, { name := "LATIN1", type := .byte, accessFlags := 24, slot := 5, constantValue := 0 }, { name := "UTF16", type := .byte, accessFlags := 24, slot := 6, constantValue := 0 }]
  methods := #[k7m0, k7m1, k7m2]
  instanceTypes := #[(.array .byte), .byte, .int, .boolean]
  staticTypes := #[.long, .boolean, (.array (.object "java/io/ObjectStreamField")), .char, (.object "java/util/Comparator"), .byte, .byte]
  resolved := Array.replicate 1451 none
  statics := some 0 }

def pool8 : Array CpInfo := pool [(4, .class_ 6), (1, u "java/lang/Object"), (0, u "<init>"), (0, u "()V"), (5, .class_ 16), (1, u "java/lang/StringLatin1"), (73, u "canEncode"), (14, u "(C)Z"), (15, u "$assertionsDisabled"), (0, u "Z"), (98, .class_ 223), (1, u "java/lang/StringLatin1$LinesSpliterator"), (156, u "toBytes"), (1, u "(C)[B"), (7, .class_ 391), (0, u "java/lang/StringLatin1$CharsSpliterator")] 3

def k8m0 : Method := { name := "<init>", desc := "()V", sig := { parameters := [], returnType := none }, accessFlags := 0, code := none }
def k8c1 : Code := { maxStack := 2, maxLocals := 1, code := jdk_43_method_3_code, exceptionTable := #[], attributes := #[] }
def k8m1 : Method := { name := "canEncode", desc := "(C)Z", sig := { parameters := [.char], returnType := some .boolean }, accessFlags := 9, code := some k8c1 }
def k8c2 : Code := { maxStack := 4, maxLocals := 1, code := jdk_43_method_46_code, exceptionTable := #[], attributes := #[] }
def k8m2 : Method := { name := "toBytes", desc := "(C)[B", sig := { parameters := [.char], returnType := some (.array .byte) }, accessFlags := 9, code := some k8c2 }
/-- java/lang/StringLatin1 -/
def k8 : Class := { plain "java/lang/StringLatin1" (some 0) with
  accessFlags := 48
  interfaces := #[]
  cf := some (fileOf pool8 14 #[.nestMembers #[390, 221]] #[{ accessFlags := 0, nameIndex := 7, descriptorIndex := 8, attributes := #[] }, { accessFlags := 9, nameIndex := 90, descriptorIndex := 105, attributes := #[] }, { accessFlags := 9, nameIndex := 380, descriptorIndex := 382, attributes := #[] }] 48 4 #[] #[{ accessFlags := 4120, nameIndex := 121, descriptorIndex := 122, attributes := #[] }])
  fields := #[{ name := "$assertionsDisabled", type := .boolean, accessFlags := 4120, slot := 0, constantValue := 0 }]
  methods := #[k8m0, k8m1, k8m2]
  instanceTypes := #[]
  staticTypes := #[.boolean]
  resolved := Array.replicate 395 none
  statics := none }

def pool9 : Array CpInfo := pool [(1, .methodref 2 3), (0, .class_ 4), (0, .nameAndType 5 6), (0, u "java/lang/Object"), (0, u "<init>"), (0, u "()V"), (0, .string 8), (0, u "filename"), (0, .methodref 10 11), (0, .class_ 12), (0, .nameAndType 13 14), (0, u "java/util/Objects"), (0, u "requireNonNull"), (0, u "(Ljava/lang/Object;Ljava/lang/String;)Ljava/lang/Object;"), (0, .class_ 16), (0, u "java/lang/String"), (0, .fieldref 18 19), (0, .class_ 20), (0, .nameAndType 8 21), (0, u "com/example/ptah/ptah/model/SourceLocation"), (0, u "Ljava/lang/String;"), (0, .fieldref 18 23), (0, .nameAndType 24 25), (0, u "line"), (0, u "I"), (0, .fieldref 18 27), (0, .nameAndType 28 25), (0, u "column"), (2, u "NONE"), (0, u "Lcom/example/ptah/ptah/model/SourceLocation;"), (25, u "(Ljava/lang/String;II)V")] 28

def k9c0 : Code := { maxStack := 3, maxLocals := 4, code := prog_97_method_1_code, exceptionTable := #[], attributes := #[] }
def k9m0 : Method := { name := "<init>", desc := "(Ljava/lang/String;II)V", sig := { parameters := [(.object "java/lang/String"), .int, .int], returnType := none }, accessFlags := 1, code := some k9c0 }
/-- com/example/ptah/ptah/model/SourceLocation -/
def k9 : Class := { plain "com/example/ptah/ptah/model/SourceLocation" (some 0) with
  accessFlags := 49
  interfaces := #[]
  cf := some (fileOf pool9 18 #[] #[{ accessFlags := 1, nameIndex := 5, descriptorIndex := 58, attributes := #[] }] 49 2 #[] #[{ accessFlags := 25, nameIndex := 31, descriptorIndex := 32, attributes := #[] }, { accessFlags := 18, nameIndex := 8, descriptorIndex := 21, attributes := #[] }, { accessFlags := 18, nameIndex := 24, descriptorIndex := 25, attributes := #[] }, { accessFlags := 18, nameIndex := 28, descriptorIndex := 25, attributes := #[] }])
  fields := #[{ name := "NONE", type := (.object "com/example/ptah/ptah/model/SourceLocation"), accessFlags := 25, slot := 0, constantValue := 0 }, { name := "filename", type := (.object "java/lang/String"), accessFlags := 18, slot := 0, constantValue := 0 }, { name := "line", type := .int, accessFlags := 18, slot := 1, constantValue := 0 }, { name := "column", type := .int, accessFlags := 18, slot := 2, constantValue := 0 }]
  methods := #[k9m0]
  instanceTypes := #[(.object "java/lang/String"), .int, .int]
  staticTypes := #[(.object "com/example/ptah/ptah/model/SourceLocation")]
  resolved := Array.replicate 87 none
  statics := none }

def pool10 : Array CpInfo := pool [(2, .class_ 4), (1, u "java/lang/Object"), (0, u "<init>"), (0, u "()V"), (35, .class_ 44), (1, u "java/util/Objects"), (0, u "requireNonNull"), (48, u "(Ljava/lang/Object;Ljava/lang/String;)Ljava/lang/Object;")] 89

def k10m0 : Method := { name := "<init>", desc := "()V", sig := { parameters := [], returnType := none }, accessFlags := 2, code := none }
def k10c1 : Code := { maxStack := 3, maxLocals := 2, code := jdk_31_method_11_code, exceptionTable := #[], attributes := #[] }
def k10m1 : Method := { name := "requireNonNull", desc := "(Ljava/lang/Object;Ljava/lang/String;)Ljava/lang/Object;", sig := { parameters := [(.object "java/lang/Object"), (.object "java/lang/String")], returnType := some (.object "java/lang/Object") }, accessFlags := 9, code := some k10c1 }
/-- java/util/Objects -/
def k10 : Class := { plain "java/util/Objects" (some 0) with
  accessFlags := 49
  interfaces := #[]
  cf := some (fileOf pool10 42 #[] #[{ accessFlags := 2, nameIndex := 5, descriptorIndex := 6, attributes := #[] }, { accessFlags := 9, nameIndex := 45, descriptorIndex := 94, attributes := #[] }] 49 2 #[] #[])
  fields := #[]
  methods := #[k10m0, k10m1]
  instanceTypes := #[]
  staticTypes := #[]
  resolved := Array.replicate 184 none
  statics := none }

def pool11 : Array CpInfo := pool [(1, .methodref 2 3), (0, .class_ 4), (0, .nameAndType 5 6), (0, u "java/lang/Object"), (0, u "<init>"), (0, u "()V"), (0, .string 8), (0, u "sourceLocation"), (0, .methodref 10 11), (0, .class_ 12), (0, .nameAndType 13 14), (0, u "java/util/Objects"), (0, u "requireNonNull"), (0, u "(Ljava/lang/Object;Ljava/lang/String;)Ljava/lang/Object;"), (0, .class_ 16), (0, u "com/example/ptah/ptah/model/SourceLocation"), (0, .fieldref 18 19), (0, .class_ 20), (0, .nameAndType 8 21), (0, u "com/example/ptah/ptah/model/Node"), (0, u "Lcom/example/ptah/ptah/model/SourceLocation;"), (0, u "MAX_DEPTH"), (0, u "I"), (2, u "(Lcom/example/ptah/ptah/model/SourceLocation;)V")] 21

def k11c0 : Code := { maxStack := 3, maxLocals := 2, code := prog_74_method_1_code, exceptionTable := #[], attributes := #[] }
def k11m0 : Method := { name := "<init>", desc := "(Lcom/example/ptah/ptah/model/SourceLocation;)V", sig := { parameters := [(.object "com/example/ptah/ptah/model/SourceLocation")], returnType := none }, accessFlags := 0, code := some k11c0 }
/-- com/example/ptah/ptah/model/Node -/
def k11 : Class := { plain "com/example/ptah/ptah/model/Node" (some 0) with
  accessFlags := 1057
  interfaces := #[]
  cf := some (fileOf pool11 18 #[] #[{ accessFlags := 0, nameIndex := 5, descriptorIndex := 26, attributes := #[] }] 1057 2 #[] #[{ accessFlags := 25, nameIndex := 22, descriptorIndex := 23, attributes := #[] }, { accessFlags := 18, nameIndex := 8, descriptorIndex := 21, attributes := #[] }])
  fields := #[{ name := "MAX_DEPTH", type := .int, accessFlags := 25, slot := 0, constantValue := 0 }, { name := "sourceLocation", type := (.object "com/example/ptah/ptah/model/SourceLocation"), accessFlags := 18, slot := 0, constantValue := 0 }]
  methods := #[k11m0]
  instanceTypes := #[(.object "com/example/ptah/ptah/model/SourceLocation")]
  staticTypes := #[.int]
  resolved := Array.replicate 48 none
  statics := none }

def pool12 : Array CpInfo := pool [(1, .methodref 2 3), (0, .class_ 4), (0, .nameAndType 5 6), (0, u "com/example/ptah/ptah/model/Node"), (0, u "<init>"), (0, u "(Lcom/example/ptah/ptah/model/SourceLocation;)V"), (0, .fieldref 8 9), (0, .class_ 10), (0, .nameAndType 11 12), (0, u "com/example/ptah/ptah/model/BooleanNode"), (0, u "value"), (0, u "Z"), (12, u "(ZLcom/example/ptah/ptah/model/SourceLocation;)V"), (6, u "equals"), (0, u "(Ljava/lang/Object;)Z")] 4

def k12c0 : Code := { maxStack := 2, maxLocals := 3, code := prog_49_method_1_code, exceptionTable := #[], attributes := #[] }
def k12m0 : Method := { name := "<init>", desc := "(ZLcom/example/ptah/ptah/model/SourceLocation;)V", sig := { parameters := [.boolean, (.object "com/example/ptah/ptah/model/SourceLocation")], returnType := none }, accessFlags := 1, code := some k12c0 }
def k12c1 : Code := { maxStack := 2, maxLocals := 2, code := prog_49_method_4_code, exceptionTable := #[], attributes := #[] }
def k12m1 : Method := { name := "equals", desc := "(Ljava/lang/Object;)Z", sig := { parameters := [(.object "java/lang/Object")], returnType := some .boolean }, accessFlags := 1, code := some k12c1 }
/-- com/example/ptah/ptah/model/BooleanNode -/
def k12 : Class := { plain "com/example/ptah/ptah/model/BooleanNode" (some 11) with
  accessFlags := 49
  interfaces := #[]
  cf := some (fileOf pool12 8 #[] #[{ accessFlags := 1, nameIndex := 5, descriptorIndex := 25, attributes := #[] }, { accessFlags := 1, nameIndex := 32, descriptorIndex := 33, attributes := #[] }] 49 2 #[] #[{ accessFlags := 18, nameIndex := 11, descriptorIndex := 12, attributes := #[] }])
  fields := #[{ name := "value", type := .boolean, accessFlags := 18, slot := 1, constantValue := 0 }]
  methods := #[k12m0, k12m1]
  instanceTypes := #[(.object "com/example/ptah/ptah/model/SourceLocation"), .boolean]
  staticTypes := #[]
  resolved := Array.replicate 38 none
  statics := none }

def pool13 : Array CpInfo := pool [(1, .methodref 2 3), (0, .class_ 4), (0, .nameAndType 5 6), (0, u "com/example/ptah/ptah/model/Node"), (0, u "<init>"), (0, u "(Lcom/example/ptah/ptah/model/SourceLocation;)V"), (6, .class_ 14), (0, u "com/example/ptah/ptah/model/NullNode")] 10

def k13c0 : Code := { maxStack := 2, maxLocals := 2, code := prog_76_method_1_code, exceptionTable := #[], attributes := #[] }
def k13m0 : Method := { name := "<init>", desc := "(Lcom/example/ptah/ptah/model/SourceLocation;)V", sig := { parameters := [(.object "com/example/ptah/ptah/model/SourceLocation")], returnType := none }, accessFlags := 1, code := some k13c0 }
/-- com/example/ptah/ptah/model/NullNode -/
def k13 : Class := { plain "com/example/ptah/ptah/model/NullNode" (some 11) with
  accessFlags := 49
  interfaces := #[]
  cf := some (fileOf pool13 13 #[] #[{ accessFlags := 1, nameIndex := 5, descriptorIndex := 6, attributes := #[] }] 49 2 #[] #[])
  fields := #[]
  methods := #[k13m0]
  instanceTypes := #[(.object "com/example/ptah/ptah/model/SourceLocation")]
  staticTypes := #[]
  resolved := Array.replicate 25 none
  statics := none }

def pool14 : Array CpInfo := pool [(2, .class_ 4), (1, u "java/lang/Object"), (0, u "<init>"), (0, u "()V"), (17, .class_ 26), (1, u "jdk/internal/util/Preconditions"), (28, .class_ 56), (0, u "jdk/internal/util/Preconditions$4"), (57, .class_ 115), (0, u "jdk/internal/util/Preconditions$1"), (7, u "SIOOBE_FORMATTER"), (0, u "Ljava/util/function/BiFunction;"), (0, .class_ 126), (0, u "jdk/internal/util/Preconditions$2"), (3, u "AIOOBE_FORMATTER"), (0, .class_ 132), (0, u "jdk/internal/util/Preconditions$3"), (3, u "IOOBE_FORMATTER")] 57

def k14m0 : Method := { name := "<init>", desc := "()V", sig := { parameters := [], returnType := none }, accessFlags := 1, code := none }
/-- jdk/internal/util/Preconditions -/
def k14 : Class := { plain "jdk/internal/util/Preconditions" (some 0) with
  accessFlags := 33
  interfaces := #[]
  cf := some (fileOf pool14 24 #[.nestMembers #[55, 131, 125, 114]] #[{ accessFlags := 1, nameIndex := 5, descriptorIndex := 6, attributes := #[] }] 33 2 #[] #[{ accessFlags := 25, nameIndex := 123, descriptorIndex := 124, attributes := #[] }, { accessFlags := 25, nameIndex := 130, descriptorIndex := 124, attributes := #[] }, { accessFlags := 25, nameIndex := 136, descriptorIndex := 124, attributes := #[] }])
  fields := #[{ name := "SIOOBE_FORMATTER", type := (.object "java/util/function/BiFunction"), accessFlags := 25, slot := 0, constantValue := 0 }, { name := "AIOOBE_FORMATTER", type := (.object "java/util/function/BiFunction"), accessFlags := 25, slot := 1, constantValue := 0 }, { name := "IOOBE_FORMATTER", type := (.object "java/util/function/BiFunction"), accessFlags := 25, slot := 2, constantValue := 0 }]
  methods := #[k14m0]
  instanceTypes := #[]
  staticTypes := #[(.object "java/util/function/BiFunction"), (.object "java/util/function/BiFunction"), (.object "java/util/function/BiFunction")]
  resolved := Array.replicate 194 none
  statics := some 1 }

def pool15 : Array CpInfo := pool [(9, u "<init>"), (6, .class_ 18), (1, u "java/lang/Object"), (0, u "()V"), (1, .class_ 23), (1, u "jdk/internal/util/ArraysSupport"), (0, u "LOG2_ARRAY_LONG_INDEX_SCALE"), (0, u "I"), (2, u "U"), (0, u "Ljdk/internal/misc/Unsafe;"), (8, u "BIG_ENDIAN"), (0, u "Z"), (8, u "LOG2_BYTE_BIT_SIZE"), (4, u "LOG2_ARRAY_INT_INDEX_SCALE"), (54, u "JLA"), (0, u "Ljdk/internal/access/JavaLangAccess;"), (11, u "LOG2_ARRAY_BOOLEAN_INDEX_SCALE"), (9, u "LOG2_ARRAY_BYTE_INDEX_SCALE"), (5, u "LOG2_ARRAY_CHAR_INDEX_SCALE"), (5, u "LOG2_ARRAY_SHORT_INDEX_SCALE"), (18, u "LOG2_ARRAY_FLOAT_INDEX_SCALE"), (24, u "LOG2_ARRAY_DOUBLE_INDEX_SCALE"), (89, u "T_BOOLEAN"), (2, u "T_CHAR"), (1, u "T_FLOAT"), (1, u "T_DOUBLE"), (1, u "T_BYTE"), (1, u "T_SHORT"), (1, u "T_INT"), (1, u "T_LONG"), (1, u "SOFT_MAX_ARRAY_LENGTH")] 83

def k15m0 : Method := { name := "<init>", desc := "()V", sig := { parameters := [], returnType := none }, accessFlags := 2, code := none }
/-- jdk/internal/util/ArraysSupport -/
def k15 : Class := { plain "jdk/internal/util/ArraysSupport" (some 0) with
  accessFlags := 33
  interfaces := #[]
  cf := some (fileOf pool15 21 #[] #[{ accessFlags := 2, nameIndex := 9, descriptorIndex := 19, attributes := #[] }] 33 16 #[] #[{ accessFlags := 24, nameIndex := 28, descriptorIndex := 29, attributes := #[] }, { accessFlags := 26, nameIndex := 38, descriptorIndex := 39, attributes := #[] }, { accessFlags := 25, nameIndex := 121, descriptorIndex := 25, attributes := #[] }, { accessFlags := 25, nameIndex := 131, descriptorIndex := 25, attributes := #[] }, { accessFlags := 25, nameIndex := 137, descriptorIndex := 25, attributes := #[] }, { accessFlags := 25, nameIndex := 143, descriptorIndex := 25, attributes := #[] }, { accessFlags := 25, nameIndex := 53, descriptorIndex := 25, attributes := #[] }, { accessFlags := 25, nameIndex := 24, descriptorIndex := 25, attributes := #[] }, { accessFlags := 25, nameIndex := 162, descriptorIndex := 25, attributes := #[] }, { accessFlags := 25, nameIndex := 187, descriptorIndex := 25, attributes := #[] }, { accessFlags := 26, nameIndex := 48, descriptorIndex := 25, attributes := #[] }, { accessFlags := 25, nameIndex := 277, descriptorIndex := 25, attributes := #[] }, { accessFlags := 25, nameIndex := 280, descriptorIndex := 25, attributes := #[] }, { accessFlags := 25, nameIndex := 282, descriptorIndex := 25, attributes := #[] }, { accessFlags := 25, nameIndex := 284, descriptorIndex := 25, attributes := #[] }, { accessFlags := 25, nameIndex := 286, descriptorIndex := 25, attributes := #[] }, { accessFlags := 25, nameIndex := 288, descriptorIndex := 25, attributes := #[] }, { accessFlags := 25, nameIndex := 290, descriptorIndex := 25, attributes := #[] }, { accessFlags := 25, nameIndex := 292, descriptorIndex := 25, attributes := #[] }, { accessFlags := 26, nameIndex := 108, descriptorIndex := 109, attributes := #[] }, { accessFlags := 25, nameIndex := 294, descriptorIndex := 25, attributes := #[] }])
  fields := #[{ name := "U", type := (.object "jdk/internal/misc/Unsafe"), accessFlags := 24, slot := 0, constantValue := 0 }, { name := "BIG_ENDIAN", type := .boolean, accessFlags := 26, slot := 1, constantValue := 0 }, { name := "LOG2_ARRAY_BOOLEAN_INDEX_SCALE", type := .int, accessFlags := 25, slot := 2, constantValue := 0 }, { name := "LOG2_ARRAY_BYTE_INDEX_SCALE", type := .int, accessFlags := 25, slot := 3, constantValue := 0 }, { name := "LOG2_ARRAY_CHAR_INDEX_SCALE", type := .int, accessFlags := 25, slot := 4, constantValue := 0 }, { name := "LOG2_ARRAY_SHORT_INDEX_SCALE", type := .int, accessFlags := 25, slot := 5, constantValue := 0 }, { name := "LOG2_ARRAY_INT_INDEX_SCALE", type := .int, accessFlags := 25, slot := 6, constantValue := 0 }, { name := "LOG2_ARRAY_LONG_INDEX_SCALE", type := .int, accessFlags := 25, slot := 7, constantValue := 0 }, { name := "LOG2_ARRAY_FLOAT_INDEX_SCALE", type := .int, accessFlags := 25, slot := 8, constantValue := 0 }, { name := "LOG2_ARRAY_DOUBLE_INDEX_SCALE", type := .int, accessFlags := 25, slot := 9, constantValue := 0 }, { name := "LOG2_BYTE_BIT_SIZE", type := .int, accessFlags := 26, slot := 10, constantValue := 0 }, { name := "T_BOOLEAN", type := .int, accessFlags := 25, slot := 11, constantValue := 0 }, { name := "T_CHAR", type := .int, accessFlags := 25, slot := 12, constantValue := 0 }, { name := "T_FLOAT", type := .int, accessFlags := 25, slot := 13, constantValue := 0 }, { name := "T_DOUBLE", type := .int, accessFlags := 25, slot := 14, constantValue := 0 }, { name := "T_BYTE", type := .int, accessFlags := 25, slot := 15, constantValue := 0 }, { name := "T_SHORT", type := .int, accessFlags := 25, slot := 16, constantValue := 0 }, { name := "T_INT", type := .int, accessFlags := 25, slot := 17, constantValue := 0 }, { name := "T_LONG", type := .int, accessFlags := 25, slot := 18, constantValue := 0 }, { name := "JLA", type := (.object "jdk/internal/access/JavaLangAccess"), accessFlags := 26, slot := 19, constantValue := 0 }, { name := "SOFT_MAX_ARRAY_LENGTH", type := .int, accessFlags := 25, slot := 20, constantValue := 0 }]
  methods := #[k15m0]
  instanceTypes := #[]
  staticTypes := #[(.object "jdk/internal/misc/Unsafe"), .boolean, .int, .int, .int, .int, .int, .int, .int, .int, .int, .int, .int, .int, .int, .int, .int, .int, .int, (.object "jdk/internal/access/JavaLangAccess"), .int]
  resolved := Array.replicate 378 none
  statics := none }

def pool16 : Array CpInfo := pool [(1, u "java/lang/Cloneable"), (0, .class_ 1), (0, u "java/lang/Object"), (0, .class_ 3)] 3

/-- java/lang/Cloneable -/
def k16 : Class := { plain "java/lang/Cloneable" (some 0) with
  accessFlags := 1537
  interfaces := #[]
  cf := some (fileOf pool16 2 #[] #[] 1537 4 #[] #[])
  fields := #[]
  methods := #[]
  instanceTypes := #[]
  staticTypes := #[]
  resolved := Array.replicate 8 none
  statics := none }

/-- the primitive byte -/
def k17 : Class := { plain "byte" none with kind := .primitive 'B', accessFlags := 0x411 }
/-- [B -/
def k18 : Class := { plain "[B" (some 0) with kind := .array 17 .byte, interfaces := #[16, 2], accessFlags := 1041 }

/-- the primitive int -/
def k19 : Class := { plain "int" none with kind := .primitive 'I', accessFlags := 0x411 }
/-- [I -/
def k20 : Class := { plain "[I" (some 0) with kind := .array 19 .int, interfaces := #[16, 2], accessFlags := 1041 }

def heap : Heap := #[{ cls := 7, slots := #[.long 0, .int 1, .null, .int 0, .null, .int 0, .int 0], vm := .statics 7 },
  { cls := 14, slots := #[.null, .null, .null], vm := .statics 14 }]
def classes : Array Class := #[k0, k1, k2, k3, k4, k5, k6, k7, k8, k9, k10, k11, k12, k13, k14, k15, k16, k17, k18, k19, k20]
def interned : List (Array UInt16 × Addr) := []
def slotsUsed : Nat := 10
def theMethod : MethodId := ⟨1, 1⟩
def args0 : Array Value := #[.int 5, .int 3, .int 7, .int 2, .int 9, .int 11]
def aboutOver (below : List Frame) : State where
  vm := { classes := classes, interned := interned.toArray }
  heap := heap
  slotsUsed := slotsUsed
  threads := #[{ frames := .invoking theMethod args0 :: below }]
def below0 : List Frame := [.native { method := ⟨0, 0⟩, args := #[] }]
def about1 : State := aboutOver below0
def p0 : Program := .bare "" "" ""
def e0 : Env := launch0.env 0 0 0
theorem w_frames : about1.frames = Frame.invoking theMethod args0 :: below0 := rfl
set_option maxRecDepth 65536 in
theorem w_args : argsFit about1.vm theMethod args0 = true := by decide +kernel
set_option maxRecDepth 65536 in
theorem w_heap : heapFits about1 = true := by decide +kernel
set_option maxRecDepth 65536 in
theorem w_runnable : about1.curStatus? = some .runnable := by decide +kernel
set_option maxRecDepth 65536 in
theorem w_alone : about1.alone = true := by decide +kernel
set_option maxRecDepth 65536 in
theorem w_named : about1.methodNamed? x = some theMethod := by decide +kernel
set_option maxRecDepth 65536 in
theorem w_hears : about1.hears theMethod below0 = true := by decide +kernel
set_option maxRecDepth 65536 in
theorem w_ripe : about1.ripe theMethod args0 below0 = true := by decide +kernel
theorem w_running : about1.status = .running := rfl
set_option maxRecDepth 65536 in
theorem w_room : about1.hasRoom e0.platform room_1 = true :=
  launch0.hasRoom_least _ room_1 (by decide +kernel) (by decide +kernel) (by decide +kernel) (by decide +kernel) (by decide +kernel) (by decide +kernel)
theorem allAtoms_all (ts : List Jvm.Cond) (a : Array Jvm.Value) (st : Jvm.State) : (allAtoms ts).before a st = ts.all (fun c => c.before a st) := by
  induction ts with
  | nil => rfl
  | cons c t ih =>
    show (Jvm.Cond.and c (allAtoms t)).before a st = _
    rw [Jvm.Cond.before_and, ih, List.all_cons]
def words1 : List Jvm.Cond := Jvm.Cond.code x code maxLocals ret :: tables_1
/-- a 'code' word, met by the world's own term for the bytes: nothing is compared byte by byte -/
theorem code_word {y : MethodName} {bytes : ByteArray} {mx : Nat} {rt : Option FieldType} {a : Array Value} {s : State} {m : MethodId} {meth : Method} {c : Code} (h1 : s.methodNamed? y = some m) (h2 : s.vm.method? m = some meth) (h3 : meth.code = some c) (h4 : c.code = bytes)
    (h5 : (c.maxLocals == mx && c.exceptionTable.isEmpty && decide (c.maxStack ≤ mostOperands) && decide (meth.sig.returnType = rt) && !meth.locks && decide (parseMethodDescriptor y.desc = some meth.sig)) = true) : (Jvm.Cond.code y bytes mx rt).before a s = true := by
  simp only [Bool.and_eq_true, beq_iff_eq, Bool.not_eq_true', decide_eq_true_eq] at h5
  obtain ⟨⟨⟨⟨⟨g1, g2⟩, g3⟩, g4⟩, g5⟩, g6⟩ := h5
  simp [Cond.before, Cond.holds, Cond.value, h1, h2, h3, h4, g1, g2, g3, g4, g5, g6]
def isCode : Jvm.Cond → Bool
  | .code _ _ _ _ => true
  | _ => false
theorem all_split {L : List Jvm.Cond} {P : Jvm.Cond → Bool} (h1 : L.all (fun c => isCode c || P c) = true) (h2 : ∀ c ∈ L.filter isCode, P c = true) : L.all P = true := by
  refine List.all_eq_true.mpr fun c hc => ?_
  have h := List.all_eq_true.mp h1 c hc
  rcases Bool.eq_false_or_eq_true (isCode c) with hi | hi
  · exact h2 c (List.mem_filter.mpr ⟨hc, hi⟩)
  · simpa [hi] using h
set_option maxRecDepth 65536 in
theorem w_c0 : (Jvm.Cond.code x code maxLocals ret).before args0 about1 = true := code_word (m := ⟨1, 1⟩) (meth := k1m1) (c := k1c1) (by decide +kernel) rfl rfl rfl (by decide +kernel)
set_option maxRecDepth 65536 in
theorem w_c1 : (Jvm.Cond.code ({ cls := "java/lang/String", name := "valueOf", desc := "(C)Ljava/lang/String;" } : Jvm.MethodName) jdk_42_method_139_code (1 : Nat) (Option.some (Jvm.ClassFile.FieldType.object "java/lang/String"))).before args0 about1 = true := code_word (m := ⟨7, 1⟩) (meth := k7m1) (c := k7c1) (by decide +kernel) rfl rfl rfl (by decide +kernel)
set_option maxRecDepth 65536 in
theorem w_c2 : (Jvm.Cond.code ({ cls := "java/lang/StringLatin1", name := "canEncode", desc := "(C)Z" } : Jvm.MethodName) jdk_43_method_3_code (1 : Nat) (Option.some Jvm.ClassFile.FieldType.boolean)).before args0 about1 = true := code_word (m := ⟨8, 1⟩) (meth := k8m1) (c := k8c1) (by decide +kernel) rfl rfl rfl (by decide +kernel)
set_option maxRecDepth 65536 in
theorem w_c3 : (Jvm.Cond.code ({ cls := "java/lang/StringLatin1", name := "toBytes", desc := "(C)[B" } : Jvm.MethodName) jdk_43_method_46_code (1 : Nat) (Option.some (Jvm.ClassFile.FieldType.array Jvm.ClassFile.FieldType.byte))).before args0 about1 = true := code_word (m := ⟨8, 2⟩) (meth := k8m2) (c := k8c2) (by decide +kernel) rfl rfl rfl (by decide +kernel)
set_option maxRecDepth 65536 in
theorem w_c4 : (Jvm.Cond.code ({ cls := "java/lang/String", name := "<init>", desc := "([BB)V" } : Jvm.MethodName) jdk_42_method_151_code (3 : Nat) (Option.none : Option Jvm.ClassFile.FieldType)).before args0 about1 = true := code_word (m := ⟨7, 2⟩) (meth := k7m2) (c := k7c2) (by decide +kernel) rfl rfl rfl (by decide +kernel)
set_option maxRecDepth 65536 in
theorem w_c5 : (Jvm.Cond.code ({ cls := "java/lang/Object", name := "<init>", desc := "()V" } : Jvm.MethodName) object_method_1_code (1 : Nat) (Option.none : Option Jvm.ClassFile.FieldType)).before args0 about1 = true := code_word (m := ⟨0, 0⟩) (meth := k0m0) (c := k0c0) (by decide +kernel) rfl rfl rfl (by decide +kernel)
set_option maxRecDepth 65536 in
theorem w_c6 : (Jvm.Cond.code ({ cls := "com/example/ptah/ptah/model/SourceLocation", name := "<init>", desc := "(Ljava/lang/String;II)V" } : Jvm.MethodName) prog_97_method_1_code (4 : Nat) (Option.none : Option Jvm.ClassFile.FieldType)).before args0 about1 = true := code_word (m := ⟨9, 0⟩) (meth := k9m0) (c := k9c0) (by decide +kernel) rfl rfl rfl (by decide +kernel)
set_option maxRecDepth 65536 in
theorem w_c7 : (Jvm.Cond.code ({ cls := "java/util/Objects", name := "requireNonNull", desc := "(Ljava/lang/Object;Ljava/lang/String;)Ljava/lang/Object;" } : Jvm.MethodName) jdk_31_method_11_code (2 : Nat) (Option.some (Jvm.ClassFile.FieldType.object "java/lang/Object"))).before args0 about1 = true := code_word (m := ⟨10, 1⟩) (meth := k10m1) (c := k10c1) (by decide +kernel) rfl rfl rfl (by decide +kernel)
set_option maxRecDepth 65536 in
theorem w_c8 : (Jvm.Cond.code ({ cls := "com/example/ptah/ptah/model/BooleanNode", name := "<init>", desc := "(ZLcom/example/ptah/ptah/model/SourceLocation;)V" } : Jvm.MethodName) prog_49_method_1_code (3 : Nat) (Option.none : Option Jvm.ClassFile.FieldType)).before args0 about1 = true := code_word (m := ⟨12, 0⟩) (meth := k12m0) (c := k12c0) (by decide +kernel) rfl rfl rfl (by decide +kernel)
set_option maxRecDepth 65536 in
theorem w_c9 : (Jvm.Cond.code ({ cls := "com/example/ptah/ptah/model/Node", name := "<init>", desc := "(Lcom/example/ptah/ptah/model/SourceLocation;)V" } : Jvm.MethodName) prog_74_method_1_code (2 : Nat) (Option.none : Option Jvm.ClassFile.FieldType)).before args0 about1 = true := code_word (m := ⟨11, 0⟩) (meth := k11m0) (c := k11c0) (by decide +kernel) rfl rfl rfl (by decide +kernel)
set_option maxRecDepth 65536 in
theorem w_c10 : (Jvm.Cond.code ({ cls := "com/example/ptah/ptah/model/NullNode", name := "<init>", desc := "(Lcom/example/ptah/ptah/model/SourceLocation;)V" } : Jvm.MethodName) prog_76_method_1_code (2 : Nat) (Option.none : Option Jvm.ClassFile.FieldType)).before args0 about1 = true := code_word (m := ⟨13, 0⟩) (meth := k13m0) (c := k13c0) (by decide +kernel) rfl rfl rfl (by decide +kernel)
set_option maxRecDepth 65536 in
theorem w_c11 : (Jvm.Cond.code ({ cls := "com/example/ptah/ptah/model/BooleanNode", name := "equals", desc := "(Ljava/lang/Object;)Z" } : Jvm.MethodName) prog_49_method_4_code (2 : Nat) (Option.some Jvm.ClassFile.FieldType.boolean)).before args0 about1 = true := code_word (m := ⟨12, 1⟩) (meth := k12m1) (c := k12c1) (by decide +kernel) rfl rfl rfl (by decide +kernel)
def codes1 : List Jvm.Cond := [Jvm.Cond.code x code maxLocals ret, Jvm.Cond.code ({ cls := "java/lang/String", name := "valueOf", desc := "(C)Ljava/lang/String;" } : Jvm.MethodName) jdk_42_method_139_code (1 : Nat) (Option.some (Jvm.ClassFile.FieldType.object "java/lang/String")), Jvm.Cond.code ({ cls := "java/lang/StringLatin1", name := "canEncode", desc := "(C)Z" } : Jvm.MethodName) jdk_43_method_3_code (1 : Nat) (Option.some Jvm.ClassFile.FieldType.boolean), Jvm.Cond.code ({ cls := "java/lang/StringLatin1", name := "toBytes", desc := "(C)[B" } : Jvm.MethodName) jdk_43_method_46_code (1 : Nat) (Option.some (Jvm.ClassFile.FieldType.array Jvm.ClassFile.FieldType.byte)), Jvm.Cond.code ({ cls := "java/lang/String", name := "<init>", desc := "([BB)V" } : Jvm.MethodName) jdk_42_method_151_code (3 : Nat) (Option.none : Option Jvm.ClassFile.FieldType), Jvm.Cond.code ({ cls := "java/lang/Object", name := "<init>", desc := "()V" } : Jvm.MethodName) object_method_1_code (1 : Nat) (Option.none : Option Jvm.ClassFile.FieldType), Jvm.Cond.code ({ cls := "com/example/ptah/ptah/model/SourceLocation", name := "<init>", desc := "(Ljava/lang/String;II)V" } : Jvm.MethodName) prog_97_method_1_code (4 : Nat) (Option.none : Option Jvm.ClassFile.FieldType), Jvm.Cond.code ({ cls := "java/util/Objects", name := "requireNonNull", desc := "(Ljava/lang/Object;Ljava/lang/String;)Ljava/lang/Object;" } : Jvm.MethodName) jdk_31_method_11_code (2 : Nat) (Option.some (Jvm.ClassFile.FieldType.object "java/lang/Object")), Jvm.Cond.code ({ cls := "com/example/ptah/ptah/model/BooleanNode", name := "<init>", desc := "(ZLcom/example/ptah/ptah/model/SourceLocation;)V" } : Jvm.MethodName) prog_49_method_1_code (3 : Nat) (Option.none : Option Jvm.ClassFile.FieldType), Jvm.Cond.code ({ cls := "com/example/ptah/ptah/model/Node", name := "<init>", desc := "(Lcom/example/ptah/ptah/model/SourceLocation;)V" } : Jvm.MethodName) prog_74_method_1_code (2 : Nat) (Option.none : Option Jvm.ClassFile.FieldType), Jvm.Cond.code ({ cls := "com/example/ptah/ptah/model/NullNode", name := "<init>", desc := "(Lcom/example/ptah/ptah/model/SourceLocation;)V" } : Jvm.MethodName) prog_76_method_1_code (2 : Nat) (Option.none : Option Jvm.ClassFile.FieldType), Jvm.Cond.code ({ cls := "com/example/ptah/ptah/model/BooleanNode", name := "equals", desc := "(Ljava/lang/Object;)Z" } : Jvm.MethodName) prog_49_method_4_code (2 : Nat) (Option.some Jvm.ClassFile.FieldType.boolean)]
set_option maxRecDepth 65536 in
theorem codes_eq : words1.filter isCode = codes1 := rfl
theorem w_codes : ∀ c ∈ words1.filter isCode, c.before args0 about1 = true := by
  rw [codes_eq]
  intro c hc
  simp only [codes1, List.mem_cons, List.not_mem_nil, or_false] at hc
  rcases hc with rfl | rfl | rfl | rfl | rfl | rfl | rfl | rfl | rfl | rfl | rfl | rfl
  · exact w_c0
  · exact w_c1
  · exact w_c2
  · exact w_c3
  · exact w_c4
  · exact w_c5
  · exact w_c6
  · exact w_c7
  · exact w_c8
  · exact w_c9
  · exact w_c10
  · exact w_c11
set_option maxRecDepth 65536 in
theorem w_t1 : (words1.take 24).all (fun c => isCode c || c.before args0 about1) = true := by decide +kernel
set_option maxRecDepth 65536 in
theorem w_t2 : ((words1.drop 24).take 24).all (fun c => isCode c || c.before args0 about1) = true := by decide +kernel
set_option maxRecDepth 65536 in
theorem w_t3 : (((words1.drop 24).drop 24).take 24).all (fun c => isCode c || c.before args0 about1) = true := by decide +kernel
set_option maxRecDepth 65536 in
theorem w_t4 : (((words1.drop 24).drop 24).drop 24).all (fun c => isCode c || c.before args0 about1) = true := by decide +kernel
theorem w_tables : (allAtoms (Jvm.Cond.code x code maxLocals ret :: tables_1)).before args0 about1 = true := by
  rw [allAtoms_all]
  show words1.all (fun c => c.before args0 about1) = true
  refine all_split ?_ w_codes
  rw [← List.take_append_drop 24 words1, List.all_append, w_t1, ← List.take_append_drop 24 (words1.drop 24), List.all_append, w_t2, ← List.take_append_drop 24 ((words1.drop 24).drop 24), List.all_append, w_t3, w_t4]
  rfl
set_option maxRecDepth 65536 in
theorem w_rest : rest_1_c.before args0 about1 = true := by decide +kernel
set_option maxRecDepth 65536 in
theorem w_case : (Jvm.Cond.and given_1 narrow_1).before args0 about1 = true := by decide +kernel
theorem w_applies : (headSpec (Jvm.Cond.code x code maxLocals ret :: tables_1) room_1).applies x e0.platform about1 = true :=
  (Spec.applies_iff w_frames).mpr ⟨w_running, w_runnable, w_alone, w_named, w_hears, w_ripe, w_room, w_tables⟩
theorem atStart : AtStart classFile x code maxLocals ret World_1 tables_1 room_1 Calls_1 rest_1 Pre_1 launch0 p0 e0 about1 theMethod args0 below0 :=
  ⟨lists_1, trivial, launch0.admits_env _ _ _, launch0.least_env, fairChoices_fair.cas, fairChoices_fair.clock, w_frames, w_args, w_heap, w_applies, trivial, w_rest, w_case⟩
end start1
theorem witness_1 : WitnessClaimed_1 := ⟨start1.p0, start1.e0, start1.about1, start1.theMethod, start1.args0, start1.below0, start1.atStart⟩
end Jvm.Pilot.@@N@@
