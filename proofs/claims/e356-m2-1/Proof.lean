import JvmDerived
import JvmDerived.Pilot.@@N@@Statement
import JvmDerived.Pilot.@@N@@Code
set_option linter.unusedVariables false
set_option linter.unusedSimpArgs false
@@BLOCK:NumsL.lean.txt@@
@@BLOCK:Masks.lean.txt@@
namespace Jvm.RoadKit
open Sem ClassFile Op Lib Jvm.Stand Jvm.Free Jvm.LawKit
section New
variable {p : Program} {l : Launch} {e : Env} {R : Room} {s : State} {m : MethodId} {args : Array Value} {below : List Frame} {meth : Method} {c : Code} {T : State} {locs : List Loc} {cells slots : Nat}
theorem retI (X : Stand p l e R s m args below meth c T locs cells slots) (hx : p.tables.exec = Jvm.exec) {pc : Nat} {Ls : Array Slot} {z : Int32} {rest : List Value} (hret : meth.sig.returnType = some .int) (hd : decode c.code pc = .ok (.ireturn, 1)) {fs : List Frame}
    (hl : ∀ (f : JFrame) (acts : List Action), f.method = m → f.locked = none → f.entered = [] → (doReturn e (T.setTop f) acts (some (.int z))).1 = T.setFrames fs) : Steps p.tables e below (T.setTop (mkF m pc Ls (.int z :: rest))) (T.setFrames fs) := by
  have hm' : T.vm.method? m = some meth := X.method'
  have hn : narrow .int (.int z) = .int z := rfl
  show Steps p.tables e below (T.setTop { method := m, pc := pc, locals := Ls, stack := _ :: rest, locked := none }) _
  jvm_step X.here [X.here.top, hx, hd, hm', hret, hn]
  first | (intro acts; rw [hl _ acts rfl rfl rfl]) | rw [hl _ _ rfl rfl rfl]
  exact Steps.refl _
theorem own_retA (X : Stand p l e R s m args below meth c T locs cells slots) (hx : p.tables.exec = Jvm.exec) {pc : Nat} {Ls : Array Slot} {z : Value} {t : FieldType} {rest : List Value} (hret : meth.sig.returnType = some t) (ht : t.isReference = true) (hz : z.isRef = true) (hd : decode c.code pc = .ok (.areturn, 1)) {fs : List Frame}
    (hl : ∀ (f : JFrame) (acts : List Action), f.method = m → f.locked = none → f.entered = [] → (doReturn e (T.setTop f) acts (some z)).1 = T.setFrames fs) : Steps p.tables e below (T.setTop (mkF m pc Ls (z :: rest))) (T.setFrames fs) := by
  have hm' : T.vm.method? m = some meth := X.method'
  show Steps p.tables e below (T.setTop { method := m, pc := pc, locals := Ls, stack := z :: rest, locked := none }) _
  rcases ref_cases hz with rfl | ⟨a, rfl⟩ <;>
  · jvm_step X.here [X.here.top, hx, hd, hm', hret, ht, Value.isRef]
    first | (intro acts; rw [hl _ acts rfl rfl rfl]) | rw [hl _ _ rfl rfl rfl]
    exact Steps.refl _
end New
end Jvm.RoadKit
namespace Jvm.Pilot.@@N@@
open Jvm Jvm.ClassFile Sem Op Lib Jvm.Free Jvm.Stand Jvm.LawKit Jvm.RoadKit Bundle Jvm.Pilot.@@N@@.Jvm.D
section OwnKit
variable {p : Program} {l : Launch} {e : Env} {R : Room} {s : State} {m : MethodId} {args : Array Value} {below : List Frame} {meth : Method} {c : Code} {T : State} {locs : List Loc} {cells slots : Nat} {Z : State} {a0 : Array Value} {h : Heap}
/-- from the state S the run comes to an end of which Post holds -/
def own_G (tb : Tables) (e : Env) (below : List Frame) (Post : Outcome → State → Prop) (S : State) : Prop := ∃ s₂ o, Steps tb e below S s₂ ∧ s₂.status = .running ∧ Ended s₂ below o ∧ Post o s₂
theorem own_go {tb : Tables} {Post : Outcome → State → Prop} {S S' : State} (k : ∀ t, Steps tb e below S' t → Steps tb e below S t) (h : own_G tb e below Post S') : own_G tb e below Post S := by
  obtain ⟨a, b, st, d⟩ := h
  exact ⟨a, b, k _ st, d⟩
theorem own_join {tb : Tables} {Post : Outcome → State → Prop} {S S' : State} (k : own_G tb e below Post S' → own_G tb e below Post S) (h : own_G tb e below Post S') : own_G tb e below Post S := k h
theorem own_refc {v : Value} (h : v.isRef = true) : v = .null ∨ ∃ a, v = .ref a := by cases v <;> simp [Value.isRef] at h ⊢
theorem own_cat {v : Value} (h : v.isRef = true) : v.category = 1 := by rcases own_refc h with rfl | ⟨a, rfl⟩ <;> rfl
theorem own_w1 {v : Value} (h : v.isRef = true) : 2 * 0 + (([v] : List Value).map fun v => v.category).sum ≤ 1 := by simp only [List.map_cons, List.map_nil, List.sum_cons, List.sum_nil, own_cat h]; decide
theorem own_end (X : Stand p l e R s m args below meth c T locs cells slots) (hlocks : meth.locks = false) {v : Option Value} (hv : meth.sig.returnType = none → v = none) {S : State} {Q : Option Value → Heap → List Loc → Prop} {rc rs : Nat} (hQ : Q v T.heap locs)
    (st : ∀ fs, (∀ (f : JFrame) (acts : List Action), f.method = m → f.locked = none → f.entered = [] → (doReturn e (T.setTop f) acts v).1 = T.setFrames fs) → Steps p.tables e below S (T.setFrames fs)) (hc : cells ≤ rc) (hs : slots ≤ rs) :
    own_G p.tables e below (fun o U' => ∃ v L, o = .returned v ∧ Q v U'.heap L ∧ FrameEnd s o U' L rc rs) S := by
  obtain ⟨fs, hr, hrun, hended, hW, hsame⟩ := X.leave (v := v) hv hlocks
  exact ⟨_, _, st fs hr, hrun, hended, _, _, rfl, hQ, ⟨_, rfl⟩, hW, hsame.mono hc hs⟩
theorem own_endW {vm₁ : Vm} (X : Stand p l e R (s.setVm vm₁) m args below meth c T locs cells slots) (hlocks : meth.locks = false) {n : Nat} (hS : s.Since vm₁ n) (hn : n ≤ T.heap.size) {v : Option Value} (hv : meth.sig.returnType = none → v = none) {S : State} {Q : Option Value → Heap → List Loc → Prop} {rc rs : Nat} (hQ : Q v T.heap locs)
    (st : ∀ fs, (∀ (f : JFrame) (acts : List Action), f.method = m → f.locked = none → f.entered = [] → (doReturn e (T.setTop f) acts v).1 = T.setFrames fs) → Steps p.tables e below S (T.setFrames fs)) (hc : cells ≤ rc) (hs : slots ≤ rs) :
    own_G p.tables e below (fun o U' => ∃ v L, o = .returned v ∧ Q v U'.heap L ∧ ReturnedEndW s o U' L rc rs) S := by
  obtain ⟨fs, hr, hrun, hended, h1, h2, h3, h4⟩ := X.leaveW hS hn (v := v) hv hlocks
  exact ⟨_, _, st fs hr, hrun, hended, _, _, rfl, hQ, h1, h2, h3, h4.mono hc hs⟩
theorem own_fit {v : Value} {C : String} (h : v.isRef = true) : fits (.object C) v = true := by rcases own_refc h with rfl | ⟨a, rfl⟩ <;> rfl
/-- a pure body's answer: it returns r, writes nothing, makes nothing -/
def QP (r : Option Value) (h0 : Heap) (v : Option Value) (h : Heap) (L : List Loc) : Prop := v = r ∧ L = [] ∧ h = h0
/-- the law's answer: it returns r, writes nothing old -/
def QL (r : Option Value) (n0 : Nat) (v : Option Value) (h : Heap) (L : List Loc) : Prop := v = r ∧ Fr n0 L
theorem own_staKeep {h' : Heap} {C n d : String} {v : Value} {ws : List Addr} (F : Sta Z h C n d v) (K : Keep h h' ws) (q : ∀ x ∈ ws, ∃ cell : Cell, h[x]? = some cell ∧ cell.vm.isStatics = false) : Sta Z h' C n d v := by
  obtain ⟨cf, i, k, f, st, cell, h1, h2, h3, h4, h5, h6, h7⟩ := F
  refine ⟨cf, i, k, f, st, cell, h1, h2, h3, h4, K.2.1 st cell h5 (fun z => ?_), h6, h7⟩
  obtain ⟨c', e1, e2⟩ := q st z
  cases e1.symm.trans h5
  rw [e2] at h6; cases h6
theorem own_mvSame {ref owner name desc : String} (hZ : Z.Warmed39 s.vm) (hmh : ref ≠ "java/lang/invoke/MethodHandle" ∧ ref ≠ "java/lang/invoke/VarHandle") (w : (Jvm.Cond.sameMethod ref owner name desc).before a0 Z = true) : (Jvm.Cond.sameMethod ref owner name desc).before args s = true := by
  have h1 : (Jvm.Cond.sameMethod ref owner name desc).before a0 (Z.setVm s.vm) = true := Cond.sameMethod_setVm hZ.alike hmh w
  exact h1
theorem own_callP (X : Stand p l e R s m args below meth c T locs cells slots) (hx : p.tables.exec = Jvm.exec) (hZ : Z.Warmed39 s.vm) {own : String} {index : Nat} {y : MethodName} {bytes : ByteArray} {maxL : Nat} {ret : Option FieldType} {rm : Room} {r : Option Value} {as' : Array Value}
    (hown : s.vm.findClass own = some m.cls) (w1 : (Jvm.Cond.methodLink own index y).before a0 Z = true) (w2 : (Jvm.Cond.static y).before a0 Z = true) (w3 : (Jvm.Cond.initialized y.cls).before a0 Z = true) (w4 : (Jvm.Cond.code y bytes maxL ret).before a0 Z = true)
    (hy : y.cls ≠ "java/lang/invoke/MethodHandle" ∧ y.cls ≠ "java/lang/invoke/VarHandle") {W : Nat}
    (hM : MetFree l y (head1 [Jvm.Cond.code y bytes maxL ret] rm) (fun a U => a = as' ∧ Z.Warmed39 U.vm ∧ U.heap = h) (fun _ _ _ _ _ => True) (fun _ U o U' => ∃ v L, o = .returned v ∧ QP r h v U'.heap L ∧ FrameEnd U o U' L rm.cells rm.slots))
    (hf : rm.frames + 1 ≤ R.frames) (hl : W + (maxL + 11) + rm.locals ≤ R.locals) (hc : rm.cells = 0) (hs0 : rm.slots = 0) (eT : T.heap = h)
    {g : JFrame} (hg : g.method = m) (hsize : g.locals.size = c.maxLocals) {argsL rest : List Value} (hlen : ∀ sig, parseMethodDescriptor y.desc = some sig → argsL.length = sig.parameters.length) (hstack : g.stack = argsL.reverse ++ rest) (ha : argsL.toArray = as')
    (hW : 2 * g.monitorRoom + (rest.map fun v => v.category).sum ≤ W) (hd : decode c.code g.pc = .ok (.invokestatic index, 3)) (hcr : cells ≤ R.cells) (hsr : slots ≤ R.slots) :
    ∃ T', Stand p l e R s m args below meth c T' locs cells slots ∧ T'.heap = h ∧ ∀ target, Steps p.tables e below (T'.setTop { g with pc := g.pc + 3, stack := r.toList ++ rest }) target → Steps p.tables e below (T.setTop g) target := by
  obtain ⟨_, _, ⟨T1, L1, k1, n1⟩, -, X1, ⟨Lc, hQ, l1, y1, z1⟩, st⟩ := Jvm.LawKit.callS X hx hown (mvT hZ w1) (mvT hZ w2) (mvT hZ w3) (mvT hZ w4) hy (backOf (W := W) hM hZ w4 w3 hf hl) hg hsize hlen hstack hW hd (fun _ _ => ⟨ha, eT, by rw [hc]; exact hcr, by rw [hs0]; exact hsr⟩)
  dsimp only [Pt.U, Pt.locs, Pt.cells, Pt.slots] at X1 l1 y1 z1 st hQ
  obtain ⟨rfl, rfl, e1⟩ := hQ
  rw [List.append_nil] at l1
  rw [hc] at y1
  rw [hs0] at z1
  subst l1 y1 z1
  exact ⟨T1, X1, e1, st⟩
theorem own_callV (X : Stand p l e R s m args below meth c T locs cells slots) (hx : p.tables.exec = Jvm.exec) (hZ : Z.Warmed39 s.vm) {own C : String} {index : Nat} {y : MethodName} {bytes : ByteArray} {maxL : Nat} {ret : Option FieldType} {rm : Room} {r : Option Value} {as' : Array Value} {a : Addr}
    (hown : s.vm.findClass own = some m.cls) (w1 : (Jvm.Cond.methodLink own index y).before a0 Z = true) (w2 : (Jvm.Cond.declares y).before a0 Z = true) (w3 : (Jvm.Cond.selects C y y).before a0 Z = true) (w4 : (Jvm.Cond.instanceMethod y).before a0 Z = true) (w5 : (Jvm.Cond.initialized y.cls).before a0 Z = true) (w6 : (Jvm.Cond.code y bytes maxL ret).before a0 Z = true)
    (hy : y.cls ≠ "java/lang/invoke/MethodHandle" ∧ y.cls ≠ "java/lang/invoke/VarHandle") {W : Nat}
    (hM : MetFree l y (head1 [Jvm.Cond.code y bytes maxL ret] rm) (fun a U => a = as' ∧ Z.Warmed39 U.vm ∧ U.heap = h) (fun _ _ _ _ _ => True) (fun _ U o U' => ∃ v L, o = .returned v ∧ QP r h v U'.heap L ∧ FrameEnd U o U' L rm.cells rm.slots))
    (hf : rm.frames + 1 ≤ R.frames) (hl : W + (maxL + 11) + rm.locals ≤ R.locals) (hc : rm.cells = 0) (hs0 : rm.slots = 0) (eT : T.heap = h) (Ex : Exa Z h a C)
    {g : JFrame} (hg : g.method = m) (hsize : g.locals.size = c.maxLocals) {argsL rest : List Value} (hlen : ∀ sig, parseMethodDescriptor y.desc = some sig → argsL.length = sig.parameters.length) (hstack : g.stack = argsL.reverse ++ .ref a :: rest) (ha : (.ref a :: argsL).toArray = as')
    (hW : 2 * g.monitorRoom + (rest.map fun v => v.category).sum ≤ W) (hd : decode c.code g.pc = .ok (.invokevirtual index, 3)) (hcr : cells ≤ R.cells) (hsr : slots ≤ R.slots) :
    ∃ T', Stand p l e R s m args below meth c T' locs cells slots ∧ T'.heap = h ∧ ∀ target, Steps p.tables e below (T'.setTop { g with pc := g.pc + 3, stack := r.toList ++ rest }) target → Steps p.tables e below (T.setTop g) target := by
  obtain ⟨cq, kq, qa, qb, qc⟩ := isOf hZ eT Ex
  obtain ⟨_, _, ⟨T1, L1, k1, n1⟩, -, X1, ⟨Lc, hQ, l1, y1, z1⟩, st⟩ := X.virtualBack hx hown (mvT hZ w1) (mvT hZ w2) (notFace_of_selects (args := #[]) (mvT hZ w3)) (mvT hZ w3) (mvT hZ w4) hy (backOf (W := W) hM hZ w6 w5 hf hl) qa qc hg hsize (Steps.refl _) hlen hstack hW hd (fun _ _ => ⟨ha, eT, by rw [hc]; exact hcr, by rw [hs0]; exact hsr⟩)
  dsimp only [Pt.U, Pt.locs, Pt.cells, Pt.slots] at X1 l1 y1 z1 st hQ
  obtain ⟨rfl, rfl, e1⟩ := hQ
  rw [List.append_nil] at l1
  rw [hc] at y1
  rw [hs0] at z1
  subst l1 y1 z1
  exact ⟨T1, X1, e1, fun target k => st.trans k⟩
theorem own_callI (X : Stand p l e R s m args below meth c T locs cells slots) (hx : p.tables.exec = Jvm.exec) (hZ : Z.Warmed39 s.vm) {own : String} {index : Nat} {y : MethodName} (hy1 : y.name = "<init>") {bytes : ByteArray} {maxL : Nat} {rm : Room} {as' : Array Value} {a : Addr}
    (hown : s.vm.findClass own = some m.cls) (w1 : (Jvm.Cond.methodLink own index y).before a0 Z = true) (w4 : (Jvm.Cond.instanceMethod y).before a0 Z = true) (w5 : (Jvm.Cond.initialized y.cls).before a0 Z = true) (w6 : (Jvm.Cond.code y bytes maxL none).before a0 Z = true)
    (hy : y.cls ≠ "java/lang/invoke/MethodHandle" ∧ y.cls ≠ "java/lang/invoke/VarHandle") {W : Nat}
    (hM : MetFree l y (head1 [Jvm.Cond.code y bytes maxL none] rm) (fun a U => a = as' ∧ Z.Warmed39 U.vm ∧ U.heap = h) (fun _ _ _ _ _ => True) (fun _ U o U' => ∃ v L, o = .returned v ∧ QP none h v U'.heap L ∧ FrameEnd U o U' L rm.cells rm.slots))
    (hf : rm.frames + 1 ≤ R.frames) (hl : W + (maxL + 11) + rm.locals ≤ R.locals) (hc : rm.cells = 0) (hs0 : rm.slots = 0) (eT : T.heap = h)
    {g : JFrame} (hg : g.method = m) (hsize : g.locals.size = c.maxLocals) {argsL rest : List Value} (hlen : ∀ sig, parseMethodDescriptor y.desc = some sig → argsL.length = sig.parameters.length) (hstack : g.stack = argsL.reverse ++ .ref a :: rest) (ha : (.ref a :: argsL).toArray = as')
    (hW : 2 * g.monitorRoom + (rest.map fun v => v.category).sum ≤ W) (hd : decode c.code g.pc = .ok (.invokespecial index, 3)) (hcr : cells ≤ R.cells) (hsr : slots ≤ R.slots) :
    ∃ T', Stand p l e R s m args below meth c T' locs cells slots ∧ T'.heap = h ∧ ∀ target, Steps p.tables e below (T'.setTop { g with pc := g.pc + 3, stack := rest }) target → Steps p.tables e below (T.setTop g) target := by
  obtain ⟨_, _, ⟨T1, L1, k1, n1⟩, -, X1, ⟨Lc, hQ, l1, y1, z1⟩, st⟩ := X.specialBack hx hy1 hown (mvT hZ w1) (mvT hZ w4) (mvT hZ w6) hy (backOf (W := W) hM hZ w6 w5 hf hl) hg hsize (Steps.refl _) hlen hstack hW hd (fun _ _ => ⟨ha, eT, by rw [hc]; exact hcr, by rw [hs0]; exact hsr⟩)
  dsimp only [Pt.U, Pt.locs, Pt.cells, Pt.slots] at X1 l1 y1 z1 st hQ
  obtain ⟨rfl, rfl, e1⟩ := hQ
  rw [List.append_nil] at l1
  rw [hc] at y1
  rw [hs0] at z1
  subst l1 y1 z1
  exact ⟨T1, X1, e1, fun target k => st.trans k⟩
theorem own_l1 {x y : Int64} (h : x < y) : lcmpW x y < 0 := by rw [lcW]; exact (lc_lt x y).mpr h
theorem own_l2 {x y : Int64} (h : ¬ x < y) : ¬ lcmpW x y < 0 := by rw [lcW]; exact fun q => h ((lc_lt x y).mp q)
theorem own_g1 {x y : Int64} (h : y < x) : 0 < lcmpW x y := by rw [lcW]; exact (lc_gt x y).mpr h
theorem own_g2 {x y : Int64} (h : ¬ y < x) : ¬ 0 < lcmpW x y := by rw [lcW]; exact fun q => h ((lc_gt x y).mp q)
theorem own_e1 {x y : Int64} (h : x = y) : lcmpW x y = 0 := by rw [lcW]; exact (lc_eq x y).mpr h
theorem own_e2 {x y : Int64} (h : ¬ x = y) : ¬ lcmpW x y = 0 := by rw [lcW]; exact fun q => h ((lc_eq x y).mp q)
end OwnKit
theorem own_mod (x m : Int32) (hm : 0 < m.toInt) : 0 ≤ ((x &&& (2147483647 : Int32)) % m).toInt ∧ ((x &&& (2147483647 : Int32)) % m).toInt < m.toInt := by
  have e := Jvm.Kit.i32_mask x 2147483647 (k := 31) (by decide) (by decide)
  have h0 : 0 ≤ (x &&& (2147483647 : Int32)).toInt := by omega
  rw [Jvm.Kit.i32_rem_nonneg h0]
  exact ⟨Int.emod_nonneg _ (by omega), Int.emod_lt_of_pos _ hm⟩
theorem own_ext {x : Int32} {n : Nat} (h : x.toInt = n) (hn : n < 2 ^ 31) : x = Int32.ofNat n := Int32.toInt_inj.mp (by rw [h, Int32.toInt_ofNat_of_lt hn])

theorem own_strA {Z : State} {a0 : Array Value} (hw : ∀ d ∈ tables_1, d.before a0 Z = true) : ∀ a ∈ Bundle.stringAtoms, a.before a0 Z = true := by
  intro a ha
  simp only [Bundle.stringAtoms, Bundle.sN, List.mem_cons, List.not_mem_nil, or_false] at ha
  rcases ha with rfl | rfl | rfl | rfl | rfl | rfl | rfl
  · exact hw _ (List.mem_of_getElem? (i := 11) rfl)
  · exact hw _ (List.mem_of_getElem? (i := 12) rfl)
  · exact hw _ (List.mem_of_getElem? (i := 13) rfl)
  · exact hw _ (List.mem_of_getElem? (i := 14) rfl)
  · exact hw _ (List.mem_of_getElem? (i := 15) rfl)
  · exact hw _ (List.mem_of_getElem? (i := 16) rfl)
  · exact hw _ (List.mem_of_getElem? (i := 17) rfl)
theorem own_rd {Z : State} {h : Heap} {a : Addr} {k : ClassId} {f : Nat → Int32} {d : Value} (V : Arv Z h a k .char (5 : Int32) [.int (f 0), .int (f 1), .int (f 2), .int (f 3), .int (f 4)] d) {j : Int32} (h0 : ¬ j < 0) (h4 : j < 5) :
    ∃ cl, Arr Z h a cl .char ∧ ¬ (j < 0 ∨ cl.slots.size ≤ j.toNatClampNeg) ∧ cl.slots[j.toNatClampNeg]? = some (.int (f j.toNatClampNeg)) := by
  obtain ⟨cl, A, -, S, -, H, -⟩ := V
  have hin := inb_of S ⟨h0, h4⟩
  refine ⟨cl, A, hin, ?_⟩
  have hj : j.toNatClampNeg < 5 := by
    have e4 : (5 : Int32).toInt = 5 := rfl
    have e0 : (0 : Int32).toInt = 0 := rfl
    rw [Int32.lt_iff_toInt_lt] at h0 h4
    simp only [Int32.toNatClampNeg]; omega
  rw [H _ (Nat.lt_of_not_le fun y => hin (Or.inr y))]
  generalize j.toNatClampNeg = n at hj
  match n, hj with
  | 0, _ => rfl
  | 1, _ => rfl
  | 2, _ => rfl
  | 3, _ => rfl
  | 4, _ => rfl
theorem own_lo {i a : Int32} (h : ¬ a < 0) (q : ¬ i < a) : ¬ i < 0 := by
  rw [Int32.lt_iff_toInt_lt] at *; omega
theorem own_hi {j b : Int32} (h : j < b) (ht : ¬ (5 : Int32) < b) : j < 5 := by
  rw [Int32.lt_iff_toInt_lt] at *; omega
theorem own_inc1 {a : Int32} (h0 : ¬ a < 0) (h : a < 5) : (a + 1).toInt = a.toInt + 1 := by
  have e4 : (5 : Int32).toInt = 5 := rfl
  have e0 : (0 : Int32).toInt = 0 := rfl
  have e1 : (1 : Int32).toInt = 1 := rfl
  rw [Int32.lt_iff_toInt_lt] at h0 h
  rw [Int32.toInt_add, e1, Int.bmod_eq_of_le] <;> omega
theorem own_inc {a b : Int32} (hf : ¬ a < 0) (h : a < b) (ht : ¬ (5 : Int32) < b) : ¬ (a + 1) < 0 := by
  have h4 := own_hi h ht
  have e := own_inc1 hf h4
  have e0 : (0 : Int32).toInt = 0 := rfl
  rw [Int32.lt_iff_toInt_lt] at *; omega
theorem own_last {a b : Int32} (hf : ¬ a < 0) (ht : ¬ (5 : Int32) < b) (h : a < b) (h3 : ((((a + 1) + 1) + 1) + 1) < b) : ¬ (((((a + 1) + 1) + 1) + 1) + 1) < b := by
  have e4 : (5 : Int32).toInt = 5 := rfl
  have e0 : (0 : Int32).toInt = 0 := rfl
  have a4 := own_hi h ht
  have e1 := own_inc1 hf a4
  rw [Int32.lt_iff_toInt_lt] at hf ht h h3 a4
  have g2 : (a + 1 + 1).toInt = a.toInt + 2 := by
    rw [Int32.toInt_add, e1, show (1 : Int32).toInt = 1 from rfl, Int.bmod_eq_of_le] <;> omega
  have g3 : (a + 1 + 1 + 1).toInt = a.toInt + 3 := by
    rw [Int32.toInt_add, g2, show (1 : Int32).toInt = 1 from rfl, Int.bmod_eq_of_le] <;> omega
  have g4 : (a + 1 + 1 + 1 + 1).toInt = a.toInt + 4 := by
    rw [Int32.toInt_add, g3, show (1 : Int32).toInt = 1 from rfl, Int.bmod_eq_of_le] <;> omega
  have g5 : (a + 1 + 1 + 1 + 1 + 1).toInt = a.toInt + 5 := by
    rw [Int32.toInt_add, g4, show (1 : Int32).toInt = 1 from rfl, Int.bmod_eq_of_le] <;> omega
  rw [Int32.lt_iff_toInt_lt]; omega
def own_off (e : Int32) : Int32 := (e &&& (2147483647 : Int32)) % (6 : Int32)
def own_len (e f : Int32) : Int32 := (f &&& (2147483647 : Int32)) % ((6 : Int32) - own_off e)
theorem own_off_b (e : Int32) : 0 ≤ (own_off e).toInt ∧ (own_off e).toInt < 6 := own_mod e 6 (by decide)
theorem own_six (e : Int32) : ((6 : Int32) - own_off e).toInt = 6 - (own_off e).toInt := by
  have h := own_off_b e
  rw [Jvm.Kit.i32_sub (by rw [show (6 : Int32).toInt = 6 from rfl]; omega) (by rw [show (6 : Int32).toInt = 6 from rfl]; omega)]; rfl
theorem own_off_nn (e : Int32) : ¬ own_off e < 0 := by
  have h := own_off_b e
  rw [Int32.lt_iff_toInt_lt, show (0 : Int32).toInt = 0 from rfl]; omega
theorem own_nz (e : Int32) : (6 : Int32) - own_off e ≠ 0 := fun q => by
  have h := own_off_b e
  have h5 := own_six e
  rw [q, show (0 : Int32).toInt = 0 from rfl] at h5; omega
theorem own_len_b (e f : Int32) : 0 ≤ (own_len e f).toInt ∧ (own_len e f).toInt < 6 - (own_off e).toInt := by
  have h := own_off_b e
  have h5 := own_six e
  have q := own_mod f ((6 : Int32) - own_off e) (by rw [h5]; omega)
  rw [h5] at q
  exact q
theorem own_to_le (e f : Int32) : ¬ (5 : Int32) < (own_off e + own_len e f) := by
  have h := own_off_b e
  have h2 := own_len_b e f
  rw [Int32.lt_iff_toInt_lt, Jvm.Kit.i32_add (by omega) (by omega), show (5 : Int32).toInt = 5 from rfl]; omega

def F1 (x0 : Int64) (x1 : Int32) : Int32 :=
  if (((((x0.toUInt64 >>> (x1 &&& 0x3f).toInt64.toUInt64).toInt64) &&& (511 : Int64)).toInt32) &&& (1 : Int32)) = (0 : Int32) then
    (nar .char (32 : Int32))
  else
    (nar .char (((((((x0.toUInt64 >>> (x1 &&& 0x3f).toInt64.toUInt64).toInt64) &&& (511 : Int64)).toInt32).toUInt32 >>> ((1 : Int32) &&& 31).toUInt32).toInt32).toUInt32.toUInt16.toUInt32.toInt32))
theorem d1_0 : decode method_2_code 0 = .ok (.lload_n 0, 1) := by decide +kernel
theorem d1_1 : decode method_2_code 1 = .ok (.iload_n 2, 1) := by decide +kernel
theorem d1_2 : decode method_2_code 2 = .ok (.lushr, 1) := by decide +kernel
theorem d1_3 : decode method_2_code 3 = .ok (.ldc2_w 7, 3) := by decide +kernel
theorem d1_6 : decode method_2_code 6 = .ok (.land, 1) := by decide +kernel
theorem d1_7 : decode method_2_code 7 = .ok (.l2i, 1) := by decide +kernel
theorem d1_8 : decode method_2_code 8 = .ok (.istore_n 3, 1) := by decide +kernel
theorem d1_9 : decode method_2_code 9 = .ok (.iload_n 3, 1) := by decide +kernel
theorem d1_10 : decode method_2_code 10 = .ok (.iconst 1, 1) := by decide +kernel
theorem d1_11 : decode method_2_code 11 = .ok (.iand, 1) := by decide +kernel
theorem d1_12 : decode method_2_code 12 = .ok (.ifCond .ne 6, 3) := by decide +kernel
theorem d1_15 : decode method_2_code 15 = .ok (.bipush 32, 2) := by decide +kernel
theorem d1_17 : decode method_2_code 17 = .ok (.ireturn, 1) := by decide +kernel
theorem d1_18 : decode method_2_code 18 = .ok (.iload_n 3, 1) := by decide +kernel
theorem d1_19 : decode method_2_code 19 = .ok (.iconst 1, 1) := by decide +kernel
theorem d1_20 : decode method_2_code 20 = .ok (.iushr, 1) := by decide +kernel
theorem d1_21 : decode method_2_code 21 = .ok (.i2c, 1) := by decide +kernel
theorem d1_22 : decode method_2_code 22 = .ok (.ireturn, 1) := by decide +kernel
theorem own_pn0 : plainName "com/example/davka/davka/layout/FieldIsBlankInPinLaw" = true := by first | (simp [plainName, overriddenIn]; done) | decide +kernel
theorem ef_1_JI (m : MethodId) (x0 : Int64) (x1 : Int32) : entryFrame m #[(.long x0), (.int x1)] 4 = mkF m 0 #[.val (.long x0), .second, .val (.int x1), .unset] [] := by
  first | (simp [entryFrame, mkF, argsToLocals, Value.category]; done) | rfl
set_option maxRecDepth 65536 in
set_option maxHeartbeats 40000000 in
theorem rm1 (l : Launch) (Z : State) (a0 : Array Value) (hw : ∀ d ∈ tables_1, d.before a0 Z = true) (ws : List Jvm.Cond) (x0 : Int64) (x1 : Int32)  (h0 : Heap)  :
    MetFree l (⟨"com/example/davka/davka/layout/FieldIsBlankInPinLaw", "ch", "(JI)C"⟩ : MethodName) (head1 (Jvm.Cond.code (⟨"com/example/davka/davka/layout/FieldIsBlankInPinLaw", "ch", "(JI)C"⟩ : MethodName) method_2_code 4 (some .char) :: ws) ({ frames := 0, cells := 0, slots := 0, locals := 0 } : Room)) (fun a U => a = #[(.long x0), (.int x1)] ∧ Z.Warmed39 U.vm ∧ U.heap = h0) (fun _ _ _ _ _ => True) (fun _ U o U' => ∃ v L, o = .returned v ∧ QP (some (.int (F1 x0 x1))) h0 v U'.heap L ∧ FrameEnd U o U' L ({ frames := 0, cells := 0, slots := 0, locals := 0 } : Room).cells ({ frames := 0, cells := 0, slots := 0, locals := 0 } : Room).slots) := by
  refine MetFree.of_bodySF (plainFor_of_name own_pn0) hisR ?_
  intro p e s m args below meth c s₁ Bd hml0 hP hK
  obtain ⟨rfl, hZ, hh⟩ := hP
  have hx := Bd.exec
  have hby := Bd.bytes
  have hml : c.maxLocals = 4 := hml0
  have hown : s.vm.findClass "com/example/davka/davka/layout/FieldIsBlankInPinLaw" = some m.cls := findClass_of_methodNamed Bd.named
  have hnm := (name_of_methodNamed Bd.named Bd.method).1
  have X0 : Stand p l e ({ frames := 0, cells := 0, slots := 0, locals := 0 } : Room) s m #[(.long x0), (.int x1)] below meth c s₁ [] 0 0 := Stand.of_body Bd
  have e0 : s₁.heap = h0 := by rw [← hh, Bd.state]; rfl
  show own_G p.tables e below (fun o U' => ∃ v L, o = .returned v ∧ QP (some (.int (F1 x0 x1))) h0 v U'.heap L ∧ FrameEnd s o U' L ({ frames := 0, cells := 0, slots := 0, locals := 0 } : Room).cells ({ frames := 0, cells := 0, slots := 0, locals := 0 } : Room).slots) (s₁.setTop (entryFrame m #[(.long x0), (.int x1)] 4))
  refine own_go (fun _ k => castTop (ef_1_JI m x0 x1) k) ?_
  show own_G p.tables e below _ (s₁.setTop (mkF m 0 #[.val (.long x0), .second, .val (.int x1), .unset] []))
  refine own_go (fun _ k => XS.lloadN X0.here hx rfl (hb hby d1_0) rfl k) ?_
  show own_G p.tables e below _ (s₁.setTop (mkF m 1 #[.val (.long x0), .second, .val (.int x1), .unset] [(.long x0)]))
  refine own_go (fun _ k => XS.iloadN X0.here hx rfl (hb hby d1_1) rfl k) ?_
  show own_G p.tables e below _ (s₁.setTop (mkF m 2 #[.val (.long x0), .second, .val (.int x1), .unset] [(.int x1), (.long x0)]))
  refine own_go (fun _ k => XS.lushr X0.here hx rfl (hb hby d1_2) rfl k) ?_
  show own_G p.tables e below _ (s₁.setTop (mkF m 3 #[.val (.long x0), .second, .val (.int x1), .unset] [(.long ((x0.toUInt64 >>> (x1 &&& 0x3f).toInt64.toUInt64).toInt64))]))
  refine own_go (fun _ k => X0.ldc2Long hx hown (mvT hZ (hw _ (List.mem_of_getElem? (i := 6) rfl))) (g := (mkF m 3 #[.val (.long x0), .second, .val (.int x1), .unset] [(.long ((x0.toUInt64 >>> (x1 &&& 0x3f).toInt64.toUInt64).toInt64))])) rfl (hb hby d1_3) _ k) ?_
  show own_G p.tables e below _ (s₁.setTop (mkF m 6 #[.val (.long x0), .second, .val (.int x1), .unset] [(.long (511 : Int64)), (.long ((x0.toUInt64 >>> (x1 &&& 0x3f).toInt64.toUInt64).toInt64))]))
  refine own_go (fun _ k => XS.land X0.here hx rfl (hb hby d1_6) rfl k) ?_
  show own_G p.tables e below _ (s₁.setTop (mkF m 7 #[.val (.long x0), .second, .val (.int x1), .unset] [(.long (((x0.toUInt64 >>> (x1 &&& 0x3f).toInt64.toUInt64).toInt64) &&& (511 : Int64)))]))
  refine own_go (fun _ k => XS.l2i X0.here hx rfl (hb hby d1_7) rfl k) ?_
  show own_G p.tables e below _ (s₁.setTop (mkF m 8 #[.val (.long x0), .second, .val (.int x1), .unset] [(.int ((((x0.toUInt64 >>> (x1 &&& 0x3f).toInt64.toUInt64).toInt64) &&& (511 : Int64)).toInt32))]))
  refine own_go (fun _ k => XS.istoreN X0.here hx rfl (hb hby d1_8) rfl (l' := #[.val (.long x0), .second, .val (.int x1), .val (.int ((((x0.toUInt64 >>> (x1 &&& 0x3f).toInt64.toUInt64).toInt64) &&& (511 : Int64)).toInt32))]) rfl k) ?_
  show own_G p.tables e below _ (s₁.setTop (mkF m 9 #[.val (.long x0), .second, .val (.int x1), .val (.int ((((x0.toUInt64 >>> (x1 &&& 0x3f).toInt64.toUInt64).toInt64) &&& (511 : Int64)).toInt32))] []))
  refine own_go (fun _ k => XS.iloadN X0.here hx rfl (hb hby d1_9) rfl k) ?_
  show own_G p.tables e below _ (s₁.setTop (mkF m 10 #[.val (.long x0), .second, .val (.int x1), .val (.int ((((x0.toUInt64 >>> (x1 &&& 0x3f).toInt64.toUInt64).toInt64) &&& (511 : Int64)).toInt32))] [(.int ((((x0.toUInt64 >>> (x1 &&& 0x3f).toInt64.toUInt64).toInt64) &&& (511 : Int64)).toInt32))]))
  refine own_go (fun _ k => XS.iconst X0.here hx rfl (hb hby d1_10) k) ?_
  show own_G p.tables e below _ (s₁.setTop (mkF m 11 #[.val (.long x0), .second, .val (.int x1), .val (.int ((((x0.toUInt64 >>> (x1 &&& 0x3f).toInt64.toUInt64).toInt64) &&& (511 : Int64)).toInt32))] [(.int (1 : Int32)), (.int ((((x0.toUInt64 >>> (x1 &&& 0x3f).toInt64.toUInt64).toInt64) &&& (511 : Int64)).toInt32))]))
  refine own_go (fun _ k => XS.iand X0.here hx rfl (hb hby d1_11) rfl k) ?_
  show own_G p.tables e below _ (s₁.setTop (mkF m 12 #[.val (.long x0), .second, .val (.int x1), .val (.int ((((x0.toUInt64 >>> (x1 &&& 0x3f).toInt64.toUInt64).toInt64) &&& (511 : Int64)).toInt32))] [(.int (((((x0.toUInt64 >>> (x1 &&& 0x3f).toInt64.toUInt64).toInt64) &&& (511 : Int64)).toInt32) &&& (1 : Int32)))]))
  by_cases hc12_1 : (((((x0.toUInt64 >>> (x1 &&& 0x3f).toInt64.toUInt64).toInt64) &&& (511 : Int64)).toInt32) &&& (1 : Int32)) = (0 : Int32)
  · refine own_go (fun _ k => XS.ifNo X0.here hx rfl (hb hby d1_12) rfl (((if0 _ _).trans (teq hc12_1).2)) k) ?_
    show own_G p.tables e below _ (s₁.setTop (mkF m 15 #[.val (.long x0), .second, .val (.int x1), .val (.int ((((x0.toUInt64 >>> (x1 &&& 0x3f).toInt64.toUInt64).toInt64) &&& (511 : Int64)).toInt32))] []))
    refine own_go (fun _ k => XS.bipush X0.here hx rfl (hb hby d1_15) k) ?_
    show own_G p.tables e below _ (s₁.setTop (mkF m 17 #[.val (.long x0), .second, .val (.int x1), .val (.int ((((x0.toUInt64 >>> (x1 &&& 0x3f).toInt64.toUInt64).toInt64) &&& (511 : Int64)).toInt32))] [(.int (32 : Int32))]))
    exact own_end X0 Bd.notSynchronized (v := some (.int (nar .char (32 : Int32)))) (fun h => by rw [Bd.returns] at h; cases h) (Q := QP (some (.int (F1 x0 x1))) h0) ⟨by unfold F1; simp only [if_pos hc12_1]; try rfl, rfl, e0⟩ (fun fs hr => retN X0 hx (t := .char) Bd.returns (by simp) (hb hby d1_17) hr) (by decide) (by decide)
  · refine own_go (fun _ k => XS.ifYes X0.here hx rfl (pc0 := 12) (pc' := 18) rfl (hb hby d1_12) rfl (((if0 _ _).trans (feq hc12_1).2)) (by decide) (by decide) k) ?_
    show own_G p.tables e below _ (s₁.setTop (mkF m 18 #[.val (.long x0), .second, .val (.int x1), .val (.int ((((x0.toUInt64 >>> (x1 &&& 0x3f).toInt64.toUInt64).toInt64) &&& (511 : Int64)).toInt32))] []))
    refine own_go (fun _ k => XS.iloadN X0.here hx rfl (hb hby d1_18) rfl k) ?_
    show own_G p.tables e below _ (s₁.setTop (mkF m 19 #[.val (.long x0), .second, .val (.int x1), .val (.int ((((x0.toUInt64 >>> (x1 &&& 0x3f).toInt64.toUInt64).toInt64) &&& (511 : Int64)).toInt32))] [(.int ((((x0.toUInt64 >>> (x1 &&& 0x3f).toInt64.toUInt64).toInt64) &&& (511 : Int64)).toInt32))]))
    refine own_go (fun _ k => XS.iconst X0.here hx rfl (hb hby d1_19) k) ?_
    show own_G p.tables e below _ (s₁.setTop (mkF m 20 #[.val (.long x0), .second, .val (.int x1), .val (.int ((((x0.toUInt64 >>> (x1 &&& 0x3f).toInt64.toUInt64).toInt64) &&& (511 : Int64)).toInt32))] [(.int (1 : Int32)), (.int ((((x0.toUInt64 >>> (x1 &&& 0x3f).toInt64.toUInt64).toInt64) &&& (511 : Int64)).toInt32))]))
    refine own_go (fun _ k => XS.iushr X0.here hx rfl (hb hby d1_20) rfl k) ?_
    show own_G p.tables e below _ (s₁.setTop (mkF m 21 #[.val (.long x0), .second, .val (.int x1), .val (.int ((((x0.toUInt64 >>> (x1 &&& 0x3f).toInt64.toUInt64).toInt64) &&& (511 : Int64)).toInt32))] [(.int ((((((x0.toUInt64 >>> (x1 &&& 0x3f).toInt64.toUInt64).toInt64) &&& (511 : Int64)).toInt32).toUInt32 >>> ((1 : Int32) &&& 31).toUInt32).toInt32))]))
    refine own_go (fun _ k => XS.i2c X0.here hx rfl (hb hby d1_21) rfl k) ?_
    show own_G p.tables e below _ (s₁.setTop (mkF m 22 #[.val (.long x0), .second, .val (.int x1), .val (.int ((((x0.toUInt64 >>> (x1 &&& 0x3f).toInt64.toUInt64).toInt64) &&& (511 : Int64)).toInt32))] [(.int (((((((x0.toUInt64 >>> (x1 &&& 0x3f).toInt64.toUInt64).toInt64) &&& (511 : Int64)).toInt32).toUInt32 >>> ((1 : Int32) &&& 31).toUInt32).toInt32).toUInt32.toUInt16.toUInt32.toInt32))]))
    exact own_end X0 Bd.notSynchronized (v := some (.int (nar .char (((((((x0.toUInt64 >>> (x1 &&& 0x3f).toInt64.toUInt64).toInt64) &&& (511 : Int64)).toInt32).toUInt32 >>> ((1 : Int32) &&& 31).toUInt32).toInt32).toUInt32.toUInt16.toUInt32.toInt32)))) (fun h => by rw [Bd.returns] at h; cases h) (Q := QP (some (.int (F1 x0 x1))) h0) ⟨by unfold F1; simp only [if_neg hc12_1]; try rfl, rfl, e0⟩ (fun fs hr => retN X0 hx (t := .char) Bd.returns (by simp) (hb hby d1_22) hr) (by decide) (by decide)
theorem d3_0 : decode jdk_30_method_1_code 0 = .ok (.aload_n 0, 1) := by decide +kernel
theorem d3_1 : decode jdk_30_method_1_code 1 = .ok (.invokespecial 1, 3) := by decide +kernel
theorem d3_4 : decode jdk_30_method_1_code 4 = .ok (.return_, 1) := by decide +kernel
theorem own_pn1 : plainName "java/lang/Record" = true := by first | (simp [plainName, overriddenIn]; done) | decide +kernel
theorem ef_3_R (m : MethodId) (x0 : Addr) : entryFrame m #[(.ref x0)] 1 = mkF m 0 #[.val (.ref x0)] [] := by
  first | (simp [entryFrame, mkF, argsToLocals, Value.category]; done) | rfl
set_option maxRecDepth 65536 in
set_option maxHeartbeats 40000000 in
theorem rm3 (l : Launch) (Z : State) (a0 : Array Value) (hw : ∀ d ∈ tables_1, d.before a0 Z = true) (ws : List Jvm.Cond) (x0 : Addr)  (h0 : Heap)  :
    MetFree l (⟨"java/lang/Record", "<init>", "()V"⟩ : MethodName) (head1 (Jvm.Cond.code (⟨"java/lang/Record", "<init>", "()V"⟩ : MethodName) jdk_30_method_1_code 1 none :: ws) ({ frames := 1, cells := 0, slots := 0, locals := 12 } : Room)) (fun a U => a = #[(.ref x0)] ∧ Z.Warmed39 U.vm ∧ U.heap = h0) (fun _ _ _ _ _ => True) (fun _ U o U' => ∃ v L, o = .returned v ∧ QP (none) h0 v U'.heap L ∧ FrameEnd U o U' L ({ frames := 1, cells := 0, slots := 0, locals := 12 } : Room).cells ({ frames := 1, cells := 0, slots := 0, locals := 12 } : Room).slots) := by
  refine MetFree.of_bodySF (plainFor_of_name own_pn1) hisR ?_
  intro p e s m args below meth c s₁ Bd hml0 hP hK
  obtain ⟨rfl, hZ, hh⟩ := hP
  have hx := Bd.exec
  have hby := Bd.bytes
  have hml : c.maxLocals = 1 := hml0
  have hown : s.vm.findClass "java/lang/Record" = some m.cls := findClass_of_methodNamed Bd.named
  have hnm := (name_of_methodNamed Bd.named Bd.method).1
  have X0 : Stand p l e ({ frames := 1, cells := 0, slots := 0, locals := 12 } : Room) s m #[(.ref x0)] below meth c s₁ [] 0 0 := Stand.of_body Bd
  have e0 : s₁.heap = h0 := by rw [← hh, Bd.state]; rfl
  show own_G p.tables e below (fun o U' => ∃ v L, o = .returned v ∧ QP (none) h0 v U'.heap L ∧ FrameEnd s o U' L ({ frames := 1, cells := 0, slots := 0, locals := 12 } : Room).cells ({ frames := 1, cells := 0, slots := 0, locals := 12 } : Room).slots) (s₁.setTop (entryFrame m #[(.ref x0)] 1))
  refine own_go (fun _ k => castTop (ef_3_R m x0) k) ?_
  show own_G p.tables e below _ (s₁.setTop (mkF m 0 #[.val (.ref x0)] []))
  refine own_go (fun _ k => XS.aloadN X0.here hx rfl (hb hby d3_0) rfl rfl k) ?_
  show own_G p.tables e below _ (s₁.setTop (mkF m 1 #[.val (.ref x0)] [(.ref x0)]))
  obtain ⟨T2, X2, e2, st2⟩ := initO X0 hx hZ hown (hw _ (List.mem_of_getElem? (i := 29) rfl)) (hw _ (List.mem_of_getElem? (i := 30) rfl)) (hw _ (List.mem_of_getElem? (i := 31) rfl)) e0 (g := (mkF m 1 #[.val (.ref x0)] [(.ref x0)])) rfl (by rw [hml]; rfl) rfl (hb hby d3_1) (by decide) (W := 0) (by show 2 * 0 + _ ≤ _; exact Nat.le_of_eq rfl) (by decide)
  refine own_go st2 ?_
  show own_G p.tables e below _ (T2.setTop (mkF m 4 #[.val (.ref x0)] []))
  exact own_end X2 Bd.notSynchronized (v := none) (fun _ => rfl) (Q := QP (none) h0) ⟨rfl, rfl, e2⟩ (fun fs hr => X2.returnOut hx Bd.returns (hb hby d3_4) hr) (by decide) (by decide)
def Q_rm2 (Z : State) (x0 : Addr) (x1 : Addr) (x2 : Int32) (x3 : Int32) (x4 : Addr) (x5 : Int32)  (h0 : Heap) (n0 : Nat) (v : Option Value) (h : Heap) (L : List Loc) : Prop := v = none ∧ Fr n0 L ∧ Keep h0 h [x0] ∧ Exa Z h x0 "com/example/davka/davka/layout/Field" ∧ Fld Z h x0 "com/example/davka/davka/layout/Field" "offset" "I" (.int x2) ∧ Fld Z h x0 "com/example/davka/davka/layout/Field" "length" "I" (.int x3)
theorem own_pd0 : parseMethodDescriptor "()V" = some ⟨[], none⟩ := by decide +kernel
theorem d2_0 : decode prog_147_method_1_code 0 = .ok (.aload_n 0, 1) := by decide +kernel
theorem d2_1 : decode prog_147_method_1_code 1 = .ok (.invokespecial 1, 3) := by decide +kernel
theorem d2_4 : decode prog_147_method_1_code 4 = .ok (.aload_n 0, 1) := by decide +kernel
theorem d2_5 : decode prog_147_method_1_code 5 = .ok (.aload_n 1, 1) := by decide +kernel
theorem d2_6 : decode prog_147_method_1_code 6 = .ok (.putfield 7, 3) := by decide +kernel
theorem d2_9 : decode prog_147_method_1_code 9 = .ok (.aload_n 0, 1) := by decide +kernel
theorem d2_10 : decode prog_147_method_1_code 10 = .ok (.iload_n 2, 1) := by decide +kernel
theorem d2_11 : decode prog_147_method_1_code 11 = .ok (.putfield 13, 3) := by decide +kernel
theorem d2_14 : decode prog_147_method_1_code 14 = .ok (.aload_n 0, 1) := by decide +kernel
theorem d2_15 : decode prog_147_method_1_code 15 = .ok (.iload_n 3, 1) := by decide +kernel
theorem d2_16 : decode prog_147_method_1_code 16 = .ok (.putfield 17, 3) := by decide +kernel
theorem d2_19 : decode prog_147_method_1_code 19 = .ok (.aload_n 0, 1) := by decide +kernel
theorem d2_20 : decode prog_147_method_1_code 20 = .ok (.aload 4, 2) := by decide +kernel
theorem d2_22 : decode prog_147_method_1_code 22 = .ok (.putfield 20, 3) := by decide +kernel
theorem d2_25 : decode prog_147_method_1_code 25 = .ok (.aload_n 0, 1) := by decide +kernel
theorem d2_26 : decode prog_147_method_1_code 26 = .ok (.iload 5, 2) := by decide +kernel
theorem d2_28 : decode prog_147_method_1_code 28 = .ok (.putfield 24, 3) := by decide +kernel
theorem d2_31 : decode prog_147_method_1_code 31 = .ok (.return_, 1) := by decide +kernel
theorem own_pn2 : plainName "com/example/davka/davka/layout/Field" = true := by first | (simp [plainName, overriddenIn]; done) | decide +kernel
theorem ef_2_RRIIRI (m : MethodId) (x0 : Addr) (x1 : Addr) (x2 : Int32) (x3 : Int32) (x4 : Addr) (x5 : Int32) : entryFrame m #[(.ref x0), (.ref x1), (.int x2), (.int x3), (.ref x4), (.int x5)] 6 = mkF m 0 #[.val (.ref x0), .val (.ref x1), .val (.int x2), .val (.int x3), .val (.ref x4), .val (.int x5)] [] := by
  first | (simp [entryFrame, mkF, argsToLocals, Value.category]; done) | rfl
set_option maxRecDepth 65536 in
set_option maxHeartbeats 40000000 in
theorem rm2 (l : Launch) (Z : State) (a0 : Array Value) (hw : ∀ d ∈ tables_1, d.before a0 Z = true) (ws : List Jvm.Cond) (x0 : Addr) (x1 : Addr) (x2 : Int32) (x3 : Int32) (x4 : Addr) (x5 : Int32)  (h0 : Heap) (n0 : Nat) (Z0 : n0 ≤ h0.size) (p0_ : Exa Z h0 x0 "com/example/davka/davka/layout/Field") (p1_ : n0 ≤ x0) (p2_ : Fld Z h0 x0 "com/example/davka/davka/layout/Field" "name" "Ljava/lang/String;" .null) (p3_ : Fld Z h0 x0 "com/example/davka/davka/layout/Field" "offset" "I" (.int (0 : Int32))) (p4_ : Fld Z h0 x0 "com/example/davka/davka/layout/Field" "length" "I" (.int (0 : Int32))) (p5_ : Fld Z h0 x0 "com/example/davka/davka/layout/Field" "kind" "Lcom/example/davka/davka/layout/FieldKind;" .null) (p6_ : Fld Z h0 x0 "com/example/davka/davka/layout/Field" "optional" "Z" (.int (0 : Int32)))  :
    MetFree l (⟨"com/example/davka/davka/layout/Field", "<init>", "(Ljava/lang/String;IILcom/example/davka/davka/layout/FieldKind;Z)V"⟩ : MethodName) (head1 (Jvm.Cond.code (⟨"com/example/davka/davka/layout/Field", "<init>", "(Ljava/lang/String;IILcom/example/davka/davka/layout/FieldKind;Z)V"⟩ : MethodName) prog_147_method_1_code 6 none :: ws) ({ frames := 2, cells := 0, slots := 0, locals := 24 } : Room)) (fun a U => a = #[(.ref x0), (.ref x1), (.int x2), (.int x3), (.ref x4), (.int x5)] ∧ Z.Warmed39 U.vm ∧ U.heap = h0) (fun _ _ _ _ _ => True) (fun _ U o U' => ∃ v L, o = .returned v ∧ Q_rm2 Z x0 x1 x2 x3 x4 x5 h0 n0 v U'.heap L ∧ FrameEnd U o U' L ({ frames := 2, cells := 0, slots := 0, locals := 24 } : Room).cells ({ frames := 2, cells := 0, slots := 0, locals := 24 } : Room).slots) := by
  refine MetFree.of_bodySF (plainFor_of_name own_pn2) hisR ?_
  intro p e s m args below meth c s₁ Bd hml0 hP hK
  obtain ⟨rfl, hZ, hh⟩ := hP
  have hx := Bd.exec
  have hby := Bd.bytes
  have hml : c.maxLocals = 6 := hml0
  have hown : s.vm.findClass "com/example/davka/davka/layout/Field" = some m.cls := findClass_of_methodNamed Bd.named
  have hnm := (name_of_methodNamed Bd.named Bd.method).1
  have X0 : Stand p l e ({ frames := 2, cells := 0, slots := 0, locals := 24 } : Room) s m #[(.ref x0), (.ref x1), (.int x2), (.int x3), (.ref x4), (.int x5)] below meth c s₁ [] 0 0 := Stand.of_body Bd
  have e0 : s₁.heap = h0 := by rw [← hh, Bd.state]; rfl
  show own_G p.tables e below (fun o U' => ∃ v L, o = .returned v ∧ Q_rm2 Z x0 x1 x2 x3 x4 x5 h0 n0 v U'.heap L ∧ FrameEnd s o U' L ({ frames := 2, cells := 0, slots := 0, locals := 24 } : Room).cells ({ frames := 2, cells := 0, slots := 0, locals := 24 } : Room).slots) (s₁.setTop (entryFrame m #[(.ref x0), (.ref x1), (.int x2), (.int x3), (.ref x4), (.int x5)] 6))
  refine own_go (fun _ k => castTop (ef_2_RRIIRI m x0 x1 x2 x3 x4 x5) k) ?_
  have N0 := Fr.nil n0
  have KP0 := Keep.refl h0 [x0]
  show own_G p.tables e below _ (s₁.setTop (mkF m 0 #[.val (.ref x0), .val (.ref x1), .val (.int x2), .val (.int x3), .val (.ref x4), .val (.int x5)] []))
  refine own_go (fun _ k => XS.aloadN X0.here hx rfl (hb hby d2_0) rfl rfl k) ?_
  show own_G p.tables e below _ (s₁.setTop (mkF m 1 #[.val (.ref x0), .val (.ref x1), .val (.int x2), .val (.int x3), .val (.ref x4), .val (.int x5)] [(.ref x0)]))
  obtain ⟨T3, X3, e3, st3⟩ := own_callI X0 hx hZ (y := (⟨"java/lang/Record", "<init>", "()V"⟩ : MethodName)) rfl hown (hw _ (List.mem_of_getElem? (i := 24) rfl)) (hw _ (List.mem_of_getElem? (i := 25) rfl)) (hw _ (List.mem_of_getElem? (i := 27) rfl)) (hw _ (List.mem_of_getElem? (i := 28) rfl)) (by decide) (W := 0) (rm3 l Z a0 hw [] x0  h0 ) (by decide) (by decide) rfl rfl e0 (g := (mkF m 1 #[.val (.ref x0), .val (.ref x1), .val (.int x2), .val (.int x3), .val (.ref x4), .val (.int x5)] [(.ref x0)])) rfl (by rw [hml]; rfl) (argsL := []) (rest := []) (lenOf own_pd0 rfl) rfl rfl (by show 2 * 0 + _ ≤ _; exact Nat.le_of_eq rfl) (hb hby d2_1) (by decide) (by decide)
  refine own_go st3 ?_
  show own_G p.tables e below _ (T3.setTop (mkF m 4 #[.val (.ref x0), .val (.ref x1), .val (.int x2), .val (.int x3), .val (.ref x4), .val (.int x5)] []))
  refine own_go (fun _ k => XS.aloadN X3.here hx rfl (hb hby d2_4) rfl rfl k) ?_
  show own_G p.tables e below _ (T3.setTop (mkF m 5 #[.val (.ref x0), .val (.ref x1), .val (.int x2), .val (.int x3), .val (.ref x4), .val (.int x5)] [(.ref x0)]))
  refine own_go (fun _ k => XS.aloadN X3.here hx rfl (hb hby d2_5) rfl rfl k) ?_
  show own_G p.tables e below _ (T3.setTop (mkF m 6 #[.val (.ref x0), .val (.ref x1), .val (.int x2), .val (.int x3), .val (.ref x4), .val (.int x5)] [(.ref x1), (.ref x0)]))
  obtain ⟨T4, h4, X4, e4, W4, st4⟩ := putF X3 hx hZ hown (host := "") (Or.inl (hw _ (List.mem_of_getElem? (i := 32) rfl))) Via.refl e3 p2_ p0_ (Or.inr ⟨(hw _ (List.mem_of_getElem? (i := 33) rfl)), rfl, hnm⟩) (hw _ (List.mem_of_getElem? (i := 8) rfl)) (ty := (.object "java/lang/String")) (by decide) rfl rfl (g := (mkF m 6 #[.val (.ref x0), .val (.ref x1), .val (.int x2), .val (.int x3), .val (.ref x4), .val (.int x5)] [(.ref x1), (.ref x0)])) rfl rfl (hb hby d2_6)
  have X_5 := p0_.wr W4
  have F_6 := p3_.other W4 (Or.inr (slot_ne (Or.inr (hw _ (List.mem_of_getElem? (i := 35) rfl))) (Or.inr (hw _ (List.mem_of_getElem? (i := 33) rfl))) (by decide) (t := .int) (t' := (.object "java/lang/String")) (by decide) (by decide)))
  have F_7 := p4_.other W4 (Or.inr (slot_ne (Or.inr (hw _ (List.mem_of_getElem? (i := 37) rfl))) (Or.inr (hw _ (List.mem_of_getElem? (i := 33) rfl))) (by decide) (t := .int) (t' := (.object "java/lang/String")) (by decide) (by decide)))
  have F_8 := p5_.other W4 (Or.inr (slot_ne (Or.inr (hw _ (List.mem_of_getElem? (i := 39) rfl))) (Or.inr (hw _ (List.mem_of_getElem? (i := 33) rfl))) (by decide) (t := (.object "com/example/davka/davka/layout/FieldKind")) (t' := (.object "java/lang/String")) (by decide) (by decide)))
  have F_9 := p6_.other W4 (Or.inr (slot_ne (Or.inr (hw _ (List.mem_of_getElem? (i := 41) rfl))) (Or.inr (hw _ (List.mem_of_getElem? (i := 33) rfl))) (by decide) (t := .boolean) (t' := (.object "java/lang/String")) (by decide) (by decide)))
  have F_10 := p2_.same W4
  have Z_11 : n0 ≤ h4.size := Nat.le_trans Z0 (Nat.le_of_eq W4.size.symm)
  have KP_12 : Keep h0 h4 [x0] := KP0.wr W4 (Or.inl (List.mem_of_getElem? (i := 0) rfl))
  have N_4 := Fr.snoc X4 N0 p1_
  refine own_go st4 ?_
  show own_G p.tables e below _ (T4.setTop (mkF m 9 #[.val (.ref x0), .val (.ref x1), .val (.int x2), .val (.int x3), .val (.ref x4), .val (.int x5)] []))
  refine own_go (fun _ k => XS.aloadN X4.here hx rfl (hb hby d2_9) rfl rfl k) ?_
  show own_G p.tables e below _ (T4.setTop (mkF m 10 #[.val (.ref x0), .val (.ref x1), .val (.int x2), .val (.int x3), .val (.ref x4), .val (.int x5)] [(.ref x0)]))
  refine own_go (fun _ k => XS.iloadN X4.here hx rfl (hb hby d2_10) rfl k) ?_
  show own_G p.tables e below _ (T4.setTop (mkF m 11 #[.val (.ref x0), .val (.ref x1), .val (.int x2), .val (.int x3), .val (.ref x4), .val (.int x5)] [(.int x2), (.ref x0)]))
  obtain ⟨T13, h13, X13, e13, W13, st13⟩ := putF X4 hx hZ hown (host := "") (Or.inl (hw _ (List.mem_of_getElem? (i := 34) rfl))) Via.refl e4 F_6 X_5 (Or.inr ⟨(hw _ (List.mem_of_getElem? (i := 35) rfl)), rfl, hnm⟩) (hw _ (List.mem_of_getElem? (i := 8) rfl)) (ty := .int) (by decide) rfl rfl (g := (mkF m 11 #[.val (.ref x0), .val (.ref x1), .val (.int x2), .val (.int x3), .val (.ref x4), .val (.int x5)] [(.int x2), (.ref x0)])) rfl rfl (hb hby d2_11)
  have X_14 := X_5.wr W13
  have F_15 := F_10.other W13 (Or.inr (slot_ne (Or.inr (hw _ (List.mem_of_getElem? (i := 33) rfl))) (Or.inr (hw _ (List.mem_of_getElem? (i := 35) rfl))) (by decide) (t := (.object "java/lang/String")) (t' := .int) (by decide) (by decide)))
  have F_16 := F_7.other W13 (Or.inr (slot_ne (Or.inr (hw _ (List.mem_of_getElem? (i := 37) rfl))) (Or.inr (hw _ (List.mem_of_getElem? (i := 35) rfl))) (by decide) (t := .int) (t' := .int) (by decide) (by decide)))
  have F_17 := F_8.other W13 (Or.inr (slot_ne (Or.inr (hw _ (List.mem_of_getElem? (i := 39) rfl))) (Or.inr (hw _ (List.mem_of_getElem? (i := 35) rfl))) (by decide) (t := (.object "com/example/davka/davka/layout/FieldKind")) (t' := .int) (by decide) (by decide)))
  have F_18 := F_9.other W13 (Or.inr (slot_ne (Or.inr (hw _ (List.mem_of_getElem? (i := 41) rfl))) (Or.inr (hw _ (List.mem_of_getElem? (i := 35) rfl))) (by decide) (t := .boolean) (t' := .int) (by decide) (by decide)))
  have F_19 := F_6.same W13
  have Z_20 : n0 ≤ h13.size := Nat.le_trans Z_11 (Nat.le_of_eq W13.size.symm)
  have KP_21 : Keep h0 h13 [x0] := KP_12.wr W13 (Or.inl (List.mem_of_getElem? (i := 0) rfl))
  have N_13 := Fr.snoc X13 N_4 p1_
  refine own_go st13 ?_
  show own_G p.tables e below _ (T13.setTop (mkF m 14 #[.val (.ref x0), .val (.ref x1), .val (.int x2), .val (.int x3), .val (.ref x4), .val (.int x5)] []))
  refine own_go (fun _ k => XS.aloadN X13.here hx rfl (hb hby d2_14) rfl rfl k) ?_
  show own_G p.tables e below _ (T13.setTop (mkF m 15 #[.val (.ref x0), .val (.ref x1), .val (.int x2), .val (.int x3), .val (.ref x4), .val (.int x5)] [(.ref x0)]))
  refine own_go (fun _ k => XS.iloadN X13.here hx rfl (hb hby d2_15) rfl k) ?_
  show own_G p.tables e below _ (T13.setTop (mkF m 16 #[.val (.ref x0), .val (.ref x1), .val (.int x2), .val (.int x3), .val (.ref x4), .val (.int x5)] [(.int x3), (.ref x0)]))
  obtain ⟨T22, h22, X22, e22, W22, st22⟩ := putF X13 hx hZ hown (host := "") (Or.inl (hw _ (List.mem_of_getElem? (i := 36) rfl))) Via.refl e13 F_16 X_14 (Or.inr ⟨(hw _ (List.mem_of_getElem? (i := 37) rfl)), rfl, hnm⟩) (hw _ (List.mem_of_getElem? (i := 8) rfl)) (ty := .int) (by decide) rfl rfl (g := (mkF m 16 #[.val (.ref x0), .val (.ref x1), .val (.int x2), .val (.int x3), .val (.ref x4), .val (.int x5)] [(.int x3), (.ref x0)])) rfl rfl (hb hby d2_16)
  have X_23 := X_14.wr W22
  have F_24 := F_15.other W22 (Or.inr (slot_ne (Or.inr (hw _ (List.mem_of_getElem? (i := 33) rfl))) (Or.inr (hw _ (List.mem_of_getElem? (i := 37) rfl))) (by decide) (t := (.object "java/lang/String")) (t' := .int) (by decide) (by decide)))
  have F_25 := F_19.other W22 (Or.inr (slot_ne (Or.inr (hw _ (List.mem_of_getElem? (i := 35) rfl))) (Or.inr (hw _ (List.mem_of_getElem? (i := 37) rfl))) (by decide) (t := .int) (t' := .int) (by decide) (by decide)))
  have F_26 := F_17.other W22 (Or.inr (slot_ne (Or.inr (hw _ (List.mem_of_getElem? (i := 39) rfl))) (Or.inr (hw _ (List.mem_of_getElem? (i := 37) rfl))) (by decide) (t := (.object "com/example/davka/davka/layout/FieldKind")) (t' := .int) (by decide) (by decide)))
  have F_27 := F_18.other W22 (Or.inr (slot_ne (Or.inr (hw _ (List.mem_of_getElem? (i := 41) rfl))) (Or.inr (hw _ (List.mem_of_getElem? (i := 37) rfl))) (by decide) (t := .boolean) (t' := .int) (by decide) (by decide)))
  have F_28 := F_16.same W22
  have Z_29 : n0 ≤ h22.size := Nat.le_trans Z_20 (Nat.le_of_eq W22.size.symm)
  have KP_30 : Keep h0 h22 [x0] := KP_21.wr W22 (Or.inl (List.mem_of_getElem? (i := 0) rfl))
  have N_22 := Fr.snoc X22 N_13 p1_
  refine own_go st22 ?_
  show own_G p.tables e below _ (T22.setTop (mkF m 19 #[.val (.ref x0), .val (.ref x1), .val (.int x2), .val (.int x3), .val (.ref x4), .val (.int x5)] []))
  refine own_go (fun _ k => XS.aloadN X22.here hx rfl (hb hby d2_19) rfl rfl k) ?_
  show own_G p.tables e below _ (T22.setTop (mkF m 20 #[.val (.ref x0), .val (.ref x1), .val (.int x2), .val (.int x3), .val (.ref x4), .val (.int x5)] [(.ref x0)]))
  refine own_go (fun _ k => XS.aload X22.here hx rfl (hb hby d2_20) rfl rfl k) ?_
  show own_G p.tables e below _ (T22.setTop (mkF m 22 #[.val (.ref x0), .val (.ref x1), .val (.int x2), .val (.int x3), .val (.ref x4), .val (.int x5)] [(.ref x4), (.ref x0)]))
  obtain ⟨T31, h31, X31, e31, W31, st31⟩ := putF X22 hx hZ hown (host := "") (Or.inl (hw _ (List.mem_of_getElem? (i := 38) rfl))) Via.refl e22 F_26 X_23 (Or.inr ⟨(hw _ (List.mem_of_getElem? (i := 39) rfl)), rfl, hnm⟩) (hw _ (List.mem_of_getElem? (i := 8) rfl)) (ty := (.object "com/example/davka/davka/layout/FieldKind")) (by decide) rfl rfl (g := (mkF m 22 #[.val (.ref x0), .val (.ref x1), .val (.int x2), .val (.int x3), .val (.ref x4), .val (.int x5)] [(.ref x4), (.ref x0)])) rfl rfl (hb hby d2_22)
  have X_32 := X_23.wr W31
  have F_33 := F_24.other W31 (Or.inr (slot_ne (Or.inr (hw _ (List.mem_of_getElem? (i := 33) rfl))) (Or.inr (hw _ (List.mem_of_getElem? (i := 39) rfl))) (by decide) (t := (.object "java/lang/String")) (t' := (.object "com/example/davka/davka/layout/FieldKind")) (by decide) (by decide)))
  have F_34 := F_25.other W31 (Or.inr (slot_ne (Or.inr (hw _ (List.mem_of_getElem? (i := 35) rfl))) (Or.inr (hw _ (List.mem_of_getElem? (i := 39) rfl))) (by decide) (t := .int) (t' := (.object "com/example/davka/davka/layout/FieldKind")) (by decide) (by decide)))
  have F_35 := F_28.other W31 (Or.inr (slot_ne (Or.inr (hw _ (List.mem_of_getElem? (i := 37) rfl))) (Or.inr (hw _ (List.mem_of_getElem? (i := 39) rfl))) (by decide) (t := .int) (t' := (.object "com/example/davka/davka/layout/FieldKind")) (by decide) (by decide)))
  have F_36 := F_27.other W31 (Or.inr (slot_ne (Or.inr (hw _ (List.mem_of_getElem? (i := 41) rfl))) (Or.inr (hw _ (List.mem_of_getElem? (i := 39) rfl))) (by decide) (t := .boolean) (t' := (.object "com/example/davka/davka/layout/FieldKind")) (by decide) (by decide)))
  have F_37 := F_26.same W31
  have Z_38 : n0 ≤ h31.size := Nat.le_trans Z_29 (Nat.le_of_eq W31.size.symm)
  have KP_39 : Keep h0 h31 [x0] := KP_30.wr W31 (Or.inl (List.mem_of_getElem? (i := 0) rfl))
  have N_31 := Fr.snoc X31 N_22 p1_
  refine own_go st31 ?_
  show own_G p.tables e below _ (T31.setTop (mkF m 25 #[.val (.ref x0), .val (.ref x1), .val (.int x2), .val (.int x3), .val (.ref x4), .val (.int x5)] []))
  refine own_go (fun _ k => XS.aloadN X31.here hx rfl (hb hby d2_25) rfl rfl k) ?_
  show own_G p.tables e below _ (T31.setTop (mkF m 26 #[.val (.ref x0), .val (.ref x1), .val (.int x2), .val (.int x3), .val (.ref x4), .val (.int x5)] [(.ref x0)]))
  refine own_go (fun _ k => XS.iload X31.here hx rfl (hb hby d2_26) rfl k) ?_
  show own_G p.tables e below _ (T31.setTop (mkF m 28 #[.val (.ref x0), .val (.ref x1), .val (.int x2), .val (.int x3), .val (.ref x4), .val (.int x5)] [(.int x5), (.ref x0)]))
  obtain ⟨T40, h40, X40, e40, W40, st40⟩ := putFN X31 hx hZ hown (hw _ (List.mem_of_getElem? (i := 40) rfl)) Via.refl e31 F_36 X_32 (Or.inr ⟨(hw _ (List.mem_of_getElem? (i := 41) rfl)), rfl, hnm⟩) (hw _ (List.mem_of_getElem? (i := 8) rfl)) (ty := .boolean) (v' := .int (nar .boolean x5)) (by decide) rfl (fits_nar_bool _) (g := (mkF m 28 #[.val (.ref x0), .val (.ref x1), .val (.int x2), .val (.int x3), .val (.ref x4), .val (.int x5)] [(.int x5), (.ref x0)])) rfl rfl (hb hby d2_28)
  have X_41 := X_32.wr W40
  have F_42 := F_33.other W40 (Or.inr (slot_ne (Or.inr (hw _ (List.mem_of_getElem? (i := 33) rfl))) (Or.inr (hw _ (List.mem_of_getElem? (i := 41) rfl))) (by decide) (t := (.object "java/lang/String")) (t' := .boolean) (by decide) (by decide)))
  have F_43 := F_34.other W40 (Or.inr (slot_ne (Or.inr (hw _ (List.mem_of_getElem? (i := 35) rfl))) (Or.inr (hw _ (List.mem_of_getElem? (i := 41) rfl))) (by decide) (t := .int) (t' := .boolean) (by decide) (by decide)))
  have F_44 := F_35.other W40 (Or.inr (slot_ne (Or.inr (hw _ (List.mem_of_getElem? (i := 37) rfl))) (Or.inr (hw _ (List.mem_of_getElem? (i := 41) rfl))) (by decide) (t := .int) (t' := .boolean) (by decide) (by decide)))
  have F_45 := F_37.other W40 (Or.inr (slot_ne (Or.inr (hw _ (List.mem_of_getElem? (i := 39) rfl))) (Or.inr (hw _ (List.mem_of_getElem? (i := 41) rfl))) (by decide) (t := (.object "com/example/davka/davka/layout/FieldKind")) (t' := .boolean) (by decide) (by decide)))
  have F_46 := F_36.same W40
  have Z_47 : n0 ≤ h40.size := Nat.le_trans Z_38 (Nat.le_of_eq W40.size.symm)
  have KP_48 : Keep h0 h40 [x0] := KP_39.wr W40 (Or.inl (List.mem_of_getElem? (i := 0) rfl))
  have N_40 := Fr.snoc X40 N_31 p1_
  refine own_go st40 ?_
  show own_G p.tables e below _ (T40.setTop (mkF m 31 #[.val (.ref x0), .val (.ref x1), .val (.int x2), .val (.int x3), .val (.ref x4), .val (.int x5)] []))
  exact own_end X40 Bd.notSynchronized (v := none) (fun _ => rfl) (Q := Q_rm2 Z x0 x1 x2 x3 x4 x5 h0 n0) (by show Q_rm2 Z x0 x1 x2 x3 x4 x5 h0 n0 (none) T40.heap _; rw [e40]; exact ⟨rfl, N_40, KP_48, X_41, F_43, F_44⟩) (fun fs hr => X40.returnOut hx Bd.returns (hb hby d2_31) hr) (by decide) (by decide)
def F5 (x1 : Int32) (x2 : Int32) (x3 : Int32) (f : Nat → Int32) : Int32 :=
  if x1 < x2 then
    (nar .boolean (1 : Int32))
  else
    if x1 < (x2 + x3) then
      if (f (x1).toNatClampNeg) = (32 : Int32) then
        (nar .boolean (1 : Int32))
      else
        (nar .boolean (0 : Int32))
    else
      (nar .boolean (1 : Int32))
theorem d5_0 : decode method_3_code 0 = .ok (.iload_n 1, 1) := by decide +kernel
theorem d5_1 : decode method_3_code 1 = .ok (.iload_n 2, 1) := by decide +kernel
theorem d5_2 : decode method_3_code 2 = .ok (.if_icmp .lt 18, 3) := by decide +kernel
theorem d5_5 : decode method_3_code 5 = .ok (.iload_n 1, 1) := by decide +kernel
theorem d5_6 : decode method_3_code 6 = .ok (.iload_n 2, 1) := by decide +kernel
theorem d5_7 : decode method_3_code 7 = .ok (.iload_n 3, 1) := by decide +kernel
theorem d5_8 : decode method_3_code 8 = .ok (.iadd, 1) := by decide +kernel
theorem d5_9 : decode method_3_code 9 = .ok (.if_icmp .ge 11, 3) := by decide +kernel
theorem d5_12 : decode method_3_code 12 = .ok (.aload_n 0, 1) := by decide +kernel
theorem d5_13 : decode method_3_code 13 = .ok (.iload_n 1, 1) := by decide +kernel
theorem d5_14 : decode method_3_code 14 = .ok (.caload, 1) := by decide +kernel
theorem d5_15 : decode method_3_code 15 = .ok (.bipush 32, 2) := by decide +kernel
theorem d5_17 : decode method_3_code 17 = .ok (.if_icmp .ne 7, 3) := by decide +kernel
theorem d5_20 : decode method_3_code 20 = .ok (.iconst 1, 1) := by decide +kernel
theorem d5_21 : decode method_3_code 21 = .ok (.goto 4, 3) := by decide +kernel
theorem d5_24 : decode method_3_code 24 = .ok (.iconst 0, 1) := by decide +kernel
theorem d5_25 : decode method_3_code 25 = .ok (.ireturn, 1) := by decide +kernel
theorem ef_5_RIII (m : MethodId) (x0 : Addr) (x1 : Int32) (x2 : Int32) (x3 : Int32) : entryFrame m #[(.ref x0), (.int x1), (.int x2), (.int x3)] 4 = mkF m 0 #[.val (.ref x0), .val (.int x1), .val (.int x2), .val (.int x3)] [] := by
  first | (simp [entryFrame, mkF, argsToLocals, Value.category]; done) | rfl
set_option maxRecDepth 65536 in
set_option maxHeartbeats 40000000 in
theorem rm5 (l : Launch) (Z : State) (a0 : Array Value) (hw : ∀ d ∈ tables_1, d.before a0 Z = true) (ws : List Jvm.Cond) (x0 : Addr) (x1 : Int32) (x2 : Int32) (x3 : Int32) (k : ClassId) (f : Nat → Int32) (h0 : Heap) (V : Arv Z h0 x0 k .char (5 : Int32) [.int (f 0), .int (f 1), .int (f 2), .int (f 3), .int (f 4)] (.int (0 : Int32))) (hf : ¬ x2 < 0) (ht : ¬ (5 : Int32) < (x2 + x3)) :
    MetFree l (⟨"com/example/davka/davka/layout/FieldIsBlankInPinLaw", "ok", "([CIII)Z"⟩ : MethodName) (head1 (Jvm.Cond.code (⟨"com/example/davka/davka/layout/FieldIsBlankInPinLaw", "ok", "([CIII)Z"⟩ : MethodName) method_3_code 4 (some .boolean) :: ws) ({ frames := 0, cells := 0, slots := 0, locals := 0 } : Room)) (fun a U => a = #[(.ref x0), (.int x1), (.int x2), (.int x3)] ∧ Z.Warmed39 U.vm ∧ U.heap = h0) (fun _ _ _ _ _ => True) (fun _ U o U' => ∃ v L, o = .returned v ∧ QP (some (.int (F5 x1 x2 x3 f))) h0 v U'.heap L ∧ FrameEnd U o U' L ({ frames := 0, cells := 0, slots := 0, locals := 0 } : Room).cells ({ frames := 0, cells := 0, slots := 0, locals := 0 } : Room).slots) := by
  refine MetFree.of_bodySF (plainFor_of_name own_pn0) hisR ?_
  intro p e s m args below meth c s₁ Bd hml0 hP hK
  obtain ⟨rfl, hZ, hh⟩ := hP
  have hx := Bd.exec
  have hby := Bd.bytes
  have hml : c.maxLocals = 4 := hml0
  have hown : s.vm.findClass "com/example/davka/davka/layout/FieldIsBlankInPinLaw" = some m.cls := findClass_of_methodNamed Bd.named
  have hnm := (name_of_methodNamed Bd.named Bd.method).1
  have X0 : Stand p l e ({ frames := 0, cells := 0, slots := 0, locals := 0 } : Room) s m #[(.ref x0), (.int x1), (.int x2), (.int x3)] below meth c s₁ [] 0 0 := Stand.of_body Bd
  have e0 : s₁.heap = h0 := by rw [← hh, Bd.state]; rfl
  show own_G p.tables e below (fun o U' => ∃ v L, o = .returned v ∧ QP (some (.int (F5 x1 x2 x3 f))) h0 v U'.heap L ∧ FrameEnd s o U' L ({ frames := 0, cells := 0, slots := 0, locals := 0 } : Room).cells ({ frames := 0, cells := 0, slots := 0, locals := 0 } : Room).slots) (s₁.setTop (entryFrame m #[(.ref x0), (.int x1), (.int x2), (.int x3)] 4))
  refine own_go (fun _ k => castTop (ef_5_RIII m x0 x1 x2 x3) k) ?_
  show own_G p.tables e below _ (s₁.setTop (mkF m 0 #[.val (.ref x0), .val (.int x1), .val (.int x2), .val (.int x3)] []))
  refine own_go (fun _ k => XS.iloadN X0.here hx rfl (hb hby d5_0) rfl k) ?_
  show own_G p.tables e below _ (s₁.setTop (mkF m 1 #[.val (.ref x0), .val (.int x1), .val (.int x2), .val (.int x3)] [(.int x1)]))
  refine own_go (fun _ k => XS.iloadN X0.here hx rfl (hb hby d5_1) rfl k) ?_
  show own_G p.tables e below _ (s₁.setTop (mkF m 2 #[.val (.ref x0), .val (.int x1), .val (.int x2), .val (.int x3)] [(.int x2), (.int x1)]))
  by_cases hc2_49 : x1 < x2
  · refine own_go (fun _ k => XS.icmpYes X0.here hx rfl (pc0 := 2) (pc' := 20) rfl (hb hby d5_2) rfl ((tlt hc2_49).1) (by decide) (by decide) k) ?_
    show own_G p.tables e below _ (s₁.setTop (mkF m 20 #[.val (.ref x0), .val (.int x1), .val (.int x2), .val (.int x3)] []))
    refine own_go (fun _ k => XS.iconst X0.here hx rfl (hb hby d5_20) k) ?_
    show own_G p.tables e below _ (s₁.setTop (mkF m 21 #[.val (.ref x0), .val (.int x1), .val (.int x2), .val (.int x3)] [(.int (1 : Int32))]))
    refine own_go (fun _ k => XS.goto X0.here hx rfl (pc0 := 21) (pc' := 25) rfl (hb hby d5_21) (by decide) (by decide) k) ?_
    show own_G p.tables e below _ (s₁.setTop (mkF m 25 #[.val (.ref x0), .val (.int x1), .val (.int x2), .val (.int x3)] [(.int (1 : Int32))]))
    exact own_end X0 Bd.notSynchronized (v := some (.int (nar .boolean (1 : Int32)))) (fun h => by rw [Bd.returns] at h; cases h) (Q := QP (some (.int (F5 x1 x2 x3 f))) h0) ⟨by unfold F5; simp only [if_pos hc2_49]; try rfl, rfl, e0⟩ (fun fs hr => retN X0 hx (t := .boolean) Bd.returns (by simp) (hb hby d5_25) hr) (by decide) (by decide)
  · refine own_go (fun _ k => XS.icmpNo X0.here hx rfl (hb hby d5_2) rfl ((flt hc2_49).1) k) ?_
    show own_G p.tables e below _ (s₁.setTop (mkF m 5 #[.val (.ref x0), .val (.int x1), .val (.int x2), .val (.int x3)] []))
    refine own_go (fun _ k => XS.iloadN X0.here hx rfl (hb hby d5_5) rfl k) ?_
    show own_G p.tables e below _ (s₁.setTop (mkF m 6 #[.val (.ref x0), .val (.int x1), .val (.int x2), .val (.int x3)] [(.int x1)]))
    refine own_go (fun _ k => XS.iloadN X0.here hx rfl (hb hby d5_6) rfl k) ?_
    show own_G p.tables e below _ (s₁.setTop (mkF m 7 #[.val (.ref x0), .val (.int x1), .val (.int x2), .val (.int x3)] [(.int x2), (.int x1)]))
    refine own_go (fun _ k => XS.iloadN X0.here hx rfl (hb hby d5_7) rfl k) ?_
    show own_G p.tables e below _ (s₁.setTop (mkF m 8 #[.val (.ref x0), .val (.int x1), .val (.int x2), .val (.int x3)] [(.int x3), (.int x2), (.int x1)]))
    refine own_go (fun _ k => XS.iadd X0.here hx rfl (hb hby d5_8) rfl k) ?_
    show own_G p.tables e below _ (s₁.setTop (mkF m 9 #[.val (.ref x0), .val (.int x1), .val (.int x2), .val (.int x3)] [(.int (x2 + x3)), (.int x1)]))
    by_cases hc9_50 : x1 < (x2 + x3)
    · refine own_go (fun _ k => XS.icmpNo X0.here hx rfl (hb hby d5_9) rfl ((tlt hc9_50).2.1) k) ?_
      show own_G p.tables e below _ (s₁.setTop (mkF m 12 #[.val (.ref x0), .val (.int x1), .val (.int x2), .val (.int x3)] []))
      refine own_go (fun _ k => XS.aloadN X0.here hx rfl (hb hby d5_12) rfl rfl k) ?_
      show own_G p.tables e below _ (s₁.setTop (mkF m 13 #[.val (.ref x0), .val (.int x1), .val (.int x2), .val (.int x3)] [(.ref x0)]))
      refine own_go (fun _ k => XS.iloadN X0.here hx rfl (hb hby d5_13) rfl k) ?_
      show own_G p.tables e below _ (s₁.setTop (mkF m 14 #[.val (.ref x0), .val (.int x1), .val (.int x2), .val (.int x3)] [(.int x1), (.ref x0)]))
      obtain ⟨cl51, Ar51, hin51, hat51⟩ := own_rd V (own_lo hf hc2_49) (own_hi hc9_50 ht)
      refine own_go (fun _ k => X0.caload hx (j := x1) (v := (.int (f (x1).toNatClampNeg))) (by rw [e0]; exact Ar51.1) (State.isArrayOf_alike hZ.alike Ar51.2.1) Ar51.2.2 hin51 hat51 (g := (mkF m 14 #[.val (.ref x0), .val (.int x1), .val (.int x2), .val (.int x3)] [(.int x1), (.ref x0)])) rfl rfl (hb hby d5_14) _ k) ?_
      show own_G p.tables e below _ (s₁.setTop (mkF m 15 #[.val (.ref x0), .val (.int x1), .val (.int x2), .val (.int x3)] [(.int (f (x1).toNatClampNeg))]))
      refine own_go (fun _ k => XS.bipush X0.here hx rfl (hb hby d5_15) k) ?_
      show own_G p.tables e below _ (s₁.setTop (mkF m 17 #[.val (.ref x0), .val (.int x1), .val (.int x2), .val (.int x3)] [(.int (32 : Int32)), (.int (f (x1).toNatClampNeg))]))
      by_cases hc17_52 : (f (x1).toNatClampNeg) = (32 : Int32)
      · refine own_go (fun _ k => XS.icmpNo X0.here hx rfl (hb hby d5_17) rfl ((teq hc17_52).2) k) ?_
        show own_G p.tables e below _ (s₁.setTop (mkF m 20 #[.val (.ref x0), .val (.int x1), .val (.int x2), .val (.int x3)] []))
        refine own_go (fun _ k => XS.iconst X0.here hx rfl (hb hby d5_20) k) ?_
        show own_G p.tables e below _ (s₁.setTop (mkF m 21 #[.val (.ref x0), .val (.int x1), .val (.int x2), .val (.int x3)] [(.int (1 : Int32))]))
        refine own_go (fun _ k => XS.goto X0.here hx rfl (pc0 := 21) (pc' := 25) rfl (hb hby d5_21) (by decide) (by decide) k) ?_
        show own_G p.tables e below _ (s₁.setTop (mkF m 25 #[.val (.ref x0), .val (.int x1), .val (.int x2), .val (.int x3)] [(.int (1 : Int32))]))
        exact own_end X0 Bd.notSynchronized (v := some (.int (nar .boolean (1 : Int32)))) (fun h => by rw [Bd.returns] at h; cases h) (Q := QP (some (.int (F5 x1 x2 x3 f))) h0) ⟨by unfold F5; simp only [if_neg hc2_49, if_pos hc9_50, if_pos hc17_52]; try rfl, rfl, e0⟩ (fun fs hr => retN X0 hx (t := .boolean) Bd.returns (by simp) (hb hby d5_25) hr) (by decide) (by decide)
      · refine own_go (fun _ k => XS.icmpYes X0.here hx rfl (pc0 := 17) (pc' := 24) rfl (hb hby d5_17) rfl ((feq hc17_52).2) (by decide) (by decide) k) ?_
        show own_G p.tables e below _ (s₁.setTop (mkF m 24 #[.val (.ref x0), .val (.int x1), .val (.int x2), .val (.int x3)] []))
        refine own_go (fun _ k => XS.iconst X0.here hx rfl (hb hby d5_24) k) ?_
        show own_G p.tables e below _ (s₁.setTop (mkF m 25 #[.val (.ref x0), .val (.int x1), .val (.int x2), .val (.int x3)] [(.int (0 : Int32))]))
        exact own_end X0 Bd.notSynchronized (v := some (.int (nar .boolean (0 : Int32)))) (fun h => by rw [Bd.returns] at h; cases h) (Q := QP (some (.int (F5 x1 x2 x3 f))) h0) ⟨by unfold F5; simp only [if_neg hc2_49, if_pos hc9_50, if_neg hc17_52]; try rfl, rfl, e0⟩ (fun fs hr => retN X0 hx (t := .boolean) Bd.returns (by simp) (hb hby d5_25) hr) (by decide) (by decide)
    · refine own_go (fun _ k => XS.icmpYes X0.here hx rfl (pc0 := 9) (pc' := 20) rfl (hb hby d5_9) rfl ((flt hc9_50).2.1) (by decide) (by decide) k) ?_
      show own_G p.tables e below _ (s₁.setTop (mkF m 20 #[.val (.ref x0), .val (.int x1), .val (.int x2), .val (.int x3)] []))
      refine own_go (fun _ k => XS.iconst X0.here hx rfl (hb hby d5_20) k) ?_
      show own_G p.tables e below _ (s₁.setTop (mkF m 21 #[.val (.ref x0), .val (.int x1), .val (.int x2), .val (.int x3)] [(.int (1 : Int32))]))
      refine own_go (fun _ k => XS.goto X0.here hx rfl (pc0 := 21) (pc' := 25) rfl (hb hby d5_21) (by decide) (by decide) k) ?_
      show own_G p.tables e below _ (s₁.setTop (mkF m 25 #[.val (.ref x0), .val (.int x1), .val (.int x2), .val (.int x3)] [(.int (1 : Int32))]))
      exact own_end X0 Bd.notSynchronized (v := some (.int (nar .boolean (1 : Int32)))) (fun h => by rw [Bd.returns] at h; cases h) (Q := QP (some (.int (F5 x1 x2 x3 f))) h0) ⟨by unfold F5; simp only [if_neg hc2_49, if_neg hc9_50]; try rfl, rfl, e0⟩ (fun fs hr => retN X0 hx (t := .boolean) Bd.returns (by simp) (hb hby d5_25) hr) (by decide) (by decide)
def F6  (of_ ln_ : Int32) (f : Nat → Int32) : Int32 :=
  if of_ < (of_ + ln_) then
    if (f (of_).toNatClampNeg) = (32 : Int32) then
      if (of_ + (1 : Int32)) < (of_ + ln_) then
        if (f ((of_ + (1 : Int32))).toNatClampNeg) = (32 : Int32) then
          if ((of_ + (1 : Int32)) + (1 : Int32)) < (of_ + ln_) then
            if (f (((of_ + (1 : Int32)) + (1 : Int32))).toNatClampNeg) = (32 : Int32) then
              if (((of_ + (1 : Int32)) + (1 : Int32)) + (1 : Int32)) < (of_ + ln_) then
                if (f ((((of_ + (1 : Int32)) + (1 : Int32)) + (1 : Int32))).toNatClampNeg) = (32 : Int32) then
                  if ((((of_ + (1 : Int32)) + (1 : Int32)) + (1 : Int32)) + (1 : Int32)) < (of_ + ln_) then
                    if (f (((((of_ + (1 : Int32)) + (1 : Int32)) + (1 : Int32)) + (1 : Int32))).toNatClampNeg) = (32 : Int32) then
                      (nar .boolean (1 : Int32))
                    else
                      (nar .boolean (0 : Int32))
                  else
                    (nar .boolean (1 : Int32))
                else
                  (nar .boolean (0 : Int32))
              else
                (nar .boolean (1 : Int32))
            else
              (nar .boolean (0 : Int32))
          else
            (nar .boolean (1 : Int32))
        else
          (nar .boolean (0 : Int32))
      else
        (nar .boolean (1 : Int32))
    else
      (nar .boolean (0 : Int32))
  else
    (nar .boolean (1 : Int32))
theorem d6_0 : decode prog_147_method_6_code 0 = .ok (.aload_n 0, 1) := by decide +kernel
theorem d6_1 : decode prog_147_method_6_code 1 = .ok (.getfield 13, 3) := by decide +kernel
theorem d6_4 : decode prog_147_method_6_code 4 = .ok (.istore_n 2, 1) := by decide +kernel
theorem d6_5 : decode prog_147_method_6_code 5 = .ok (.iload_n 2, 1) := by decide +kernel
theorem d6_6 : decode prog_147_method_6_code 6 = .ok (.aload_n 0, 1) := by decide +kernel
theorem d6_7 : decode prog_147_method_6_code 7 = .ok (.getfield 13, 3) := by decide +kernel
theorem d6_10 : decode prog_147_method_6_code 10 = .ok (.aload_n 0, 1) := by decide +kernel
theorem d6_11 : decode prog_147_method_6_code 11 = .ok (.getfield 17, 3) := by decide +kernel
theorem d6_14 : decode prog_147_method_6_code 14 = .ok (.iadd, 1) := by decide +kernel
theorem d6_15 : decode prog_147_method_6_code 15 = .ok (.if_icmp .ge 19, 3) := by decide +kernel
theorem d6_18 : decode prog_147_method_6_code 18 = .ok (.aload_n 1, 1) := by decide +kernel
theorem d6_19 : decode prog_147_method_6_code 19 = .ok (.iload_n 2, 1) := by decide +kernel
theorem d6_20 : decode prog_147_method_6_code 20 = .ok (.caload, 1) := by decide +kernel
theorem d6_21 : decode prog_147_method_6_code 21 = .ok (.bipush 32, 2) := by decide +kernel
theorem d6_23 : decode prog_147_method_6_code 23 = .ok (.if_icmp .eq 5, 3) := by decide +kernel
theorem d6_26 : decode prog_147_method_6_code 26 = .ok (.iconst 0, 1) := by decide +kernel
theorem d6_27 : decode prog_147_method_6_code 27 = .ok (.ireturn, 1) := by decide +kernel
theorem d6_28 : decode prog_147_method_6_code 28 = .ok (.iinc 2 1, 3) := by decide +kernel
theorem d6_31 : decode prog_147_method_6_code 31 = .ok (.goto (-26), 3) := by decide +kernel
theorem d6_34 : decode prog_147_method_6_code 34 = .ok (.iconst 1, 1) := by decide +kernel
theorem d6_35 : decode prog_147_method_6_code 35 = .ok (.ireturn, 1) := by decide +kernel
theorem ef_6_RR (m : MethodId) (x0 : Addr) (x1 : Addr) : entryFrame m #[(.ref x0), (.ref x1)] 3 = mkF m 0 #[.val (.ref x0), .val (.ref x1), .unset] [] := by
  first | (simp [entryFrame, mkF, argsToLocals, Value.category]; done) | rfl
set_option maxRecDepth 65536 in
set_option maxHeartbeats 40000000 in
theorem rm6 (l : Launch) (Z : State) (a0 : Array Value) (hw : ∀ d ∈ tables_1, d.before a0 Z = true) (ws : List Jvm.Cond) (x0 : Addr) (x1 : Addr) (k : ClassId) (of_ ln_ : Int32) (f : Nat → Int32) (h0 : Heap) (Fo : Fld Z h0 x0 "com/example/davka/davka/layout/Field" "offset" "I" (.int of_)) (Fl : Fld Z h0 x0 "com/example/davka/davka/layout/Field" "length" "I" (.int ln_)) (V : Arv Z h0 x1 k .char (5 : Int32) [.int (f 0), .int (f 1), .int (f 2), .int (f 3), .int (f 4)] (.int (0 : Int32))) (hf : ¬ of_ < 0) (ht : ¬ (5 : Int32) < (of_ + ln_)) :
    MetFree l (⟨"com/example/davka/davka/layout/Field", "isBlankIn", "([C)Z"⟩ : MethodName) (head1 (Jvm.Cond.code (⟨"com/example/davka/davka/layout/Field", "isBlankIn", "([C)Z"⟩ : MethodName) prog_147_method_6_code 3 (some .boolean) :: ws) ({ frames := 0, cells := 0, slots := 0, locals := 0 } : Room)) (fun a U => a = #[(.ref x0), (.ref x1)] ∧ Z.Warmed39 U.vm ∧ U.heap = h0) (fun _ _ _ _ _ => True) (fun _ U o U' => ∃ v L, o = .returned v ∧ QP (some (.int (F6  of_ ln_ f))) h0 v U'.heap L ∧ FrameEnd U o U' L ({ frames := 0, cells := 0, slots := 0, locals := 0 } : Room).cells ({ frames := 0, cells := 0, slots := 0, locals := 0 } : Room).slots) := by
  refine MetFree.of_bodySF (plainFor_of_name own_pn2) hisR ?_
  intro p e s m args below meth c s₁ Bd hml0 hP hK
  obtain ⟨rfl, hZ, hh⟩ := hP
  have hx := Bd.exec
  have hby := Bd.bytes
  have hml : c.maxLocals = 3 := hml0
  have hown : s.vm.findClass "com/example/davka/davka/layout/Field" = some m.cls := findClass_of_methodNamed Bd.named
  have hnm := (name_of_methodNamed Bd.named Bd.method).1
  have X0 : Stand p l e ({ frames := 0, cells := 0, slots := 0, locals := 0 } : Room) s m #[(.ref x0), (.ref x1)] below meth c s₁ [] 0 0 := Stand.of_body Bd
  have e0 : s₁.heap = h0 := by rw [← hh, Bd.state]; rfl
  show own_G p.tables e below (fun o U' => ∃ v L, o = .returned v ∧ QP (some (.int (F6  of_ ln_ f))) h0 v U'.heap L ∧ FrameEnd s o U' L ({ frames := 0, cells := 0, slots := 0, locals := 0 } : Room).cells ({ frames := 0, cells := 0, slots := 0, locals := 0 } : Room).slots) (s₁.setTop (entryFrame m #[(.ref x0), (.ref x1)] 3))
  refine own_go (fun _ k => castTop (ef_6_RR m x0 x1) k) ?_
  show own_G p.tables e below _ (s₁.setTop (mkF m 0 #[.val (.ref x0), .val (.ref x1), .unset] []))
  refine own_go (fun _ k => XS.aloadN X0.here hx rfl (hb hby d6_0) rfl rfl k) ?_
  show own_G p.tables e below _ (s₁.setTop (mkF m 1 #[.val (.ref x0), .val (.ref x1), .unset] [(.ref x0)]))
  obtain ⟨T53, X53, e53, st53⟩ := getF X0 hx hZ hown (host := "") (Or.inl (hw _ (List.mem_of_getElem? (i := 34) rfl))) Via.refl e0 Fo (g := (mkF m 1 #[.val (.ref x0), .val (.ref x1), .unset] [(.ref x0)])) rfl rfl (hb hby d6_1)
  refine own_go st53 ?_
  show own_G p.tables e below _ (T53.setTop (mkF m 4 #[.val (.ref x0), .val (.ref x1), .unset] [(.int of_)]))
  refine own_go (fun _ k => XS.istoreN X53.here hx rfl (hb hby d6_4) rfl (l' := #[.val (.ref x0), .val (.ref x1), .val (.int of_)]) rfl k) ?_
  show own_G p.tables e below _ (T53.setTop (mkF m 5 #[.val (.ref x0), .val (.ref x1), .val (.int of_)] []))
  refine own_go (fun _ k => XS.iloadN X53.here hx rfl (hb hby d6_5) rfl k) ?_
  show own_G p.tables e below _ (T53.setTop (mkF m 6 #[.val (.ref x0), .val (.ref x1), .val (.int of_)] [(.int of_)]))
  refine own_go (fun _ k => XS.aloadN X53.here hx rfl (hb hby d6_6) rfl rfl k) ?_
  show own_G p.tables e below _ (T53.setTop (mkF m 7 #[.val (.ref x0), .val (.ref x1), .val (.int of_)] [(.ref x0), (.int of_)]))
  obtain ⟨T54, X54, e54, st54⟩ := getF X53 hx hZ hown (host := "") (Or.inl (hw _ (List.mem_of_getElem? (i := 34) rfl))) Via.refl e53 Fo (g := (mkF m 7 #[.val (.ref x0), .val (.ref x1), .val (.int of_)] [(.ref x0), (.int of_)])) rfl rfl (hb hby d6_7)
  refine own_go st54 ?_
  show own_G p.tables e below _ (T54.setTop (mkF m 10 #[.val (.ref x0), .val (.ref x1), .val (.int of_)] [(.int of_), (.int of_)]))
  refine own_go (fun _ k => XS.aloadN X54.here hx rfl (hb hby d6_10) rfl rfl k) ?_
  show own_G p.tables e below _ (T54.setTop (mkF m 11 #[.val (.ref x0), .val (.ref x1), .val (.int of_)] [(.ref x0), (.int of_), (.int of_)]))
  obtain ⟨T55, X55, e55, st55⟩ := getF X54 hx hZ hown (host := "") (Or.inl (hw _ (List.mem_of_getElem? (i := 36) rfl))) Via.refl e54 Fl (g := (mkF m 11 #[.val (.ref x0), .val (.ref x1), .val (.int of_)] [(.ref x0), (.int of_), (.int of_)])) rfl rfl (hb hby d6_11)
  refine own_go st55 ?_
  show own_G p.tables e below _ (T55.setTop (mkF m 14 #[.val (.ref x0), .val (.ref x1), .val (.int of_)] [(.int ln_), (.int of_), (.int of_)]))
  refine own_go (fun _ k => XS.iadd X55.here hx rfl (hb hby d6_14) rfl k) ?_
  show own_G p.tables e below _ (T55.setTop (mkF m 15 #[.val (.ref x0), .val (.ref x1), .val (.int of_)] [(.int (of_ + ln_)), (.int of_)]))
  by_cases hc15_56 : of_ < (of_ + ln_)
  · refine own_go (fun _ k => XS.icmpNo X55.here hx rfl (hb hby d6_15) rfl ((tlt hc15_56).2.1) k) ?_
    show own_G p.tables e below _ (T55.setTop (mkF m 18 #[.val (.ref x0), .val (.ref x1), .val (.int of_)] []))
    refine own_go (fun _ k => XS.aloadN X55.here hx rfl (hb hby d6_18) rfl rfl k) ?_
    show own_G p.tables e below _ (T55.setTop (mkF m 19 #[.val (.ref x0), .val (.ref x1), .val (.int of_)] [(.ref x1)]))
    refine own_go (fun _ k => XS.iloadN X55.here hx rfl (hb hby d6_19) rfl k) ?_
    show own_G p.tables e below _ (T55.setTop (mkF m 20 #[.val (.ref x0), .val (.ref x1), .val (.int of_)] [(.int of_), (.ref x1)]))
    obtain ⟨cl57, Ar57, hin57, hat57⟩ := own_rd V hf (own_hi hc15_56 ht)
    refine own_go (fun _ k => X55.caload hx (j := of_) (v := (.int (f (of_).toNatClampNeg))) (by rw [e55]; exact Ar57.1) (State.isArrayOf_alike hZ.alike Ar57.2.1) Ar57.2.2 hin57 hat57 (g := (mkF m 20 #[.val (.ref x0), .val (.ref x1), .val (.int of_)] [(.int of_), (.ref x1)])) rfl rfl (hb hby d6_20) _ k) ?_
    show own_G p.tables e below _ (T55.setTop (mkF m 21 #[.val (.ref x0), .val (.ref x1), .val (.int of_)] [(.int (f (of_).toNatClampNeg))]))
    refine own_go (fun _ k => XS.bipush X55.here hx rfl (hb hby d6_21) k) ?_
    show own_G p.tables e below _ (T55.setTop (mkF m 23 #[.val (.ref x0), .val (.ref x1), .val (.int of_)] [(.int (32 : Int32)), (.int (f (of_).toNatClampNeg))]))
    by_cases hc23_58 : (f (of_).toNatClampNeg) = (32 : Int32)
    · refine own_go (fun _ k => XS.icmpYes X55.here hx rfl (pc0 := 23) (pc' := 28) rfl (hb hby d6_23) rfl ((teq hc23_58).1) (by decide) (by decide) k) ?_
      show own_G p.tables e below _ (T55.setTop (mkF m 28 #[.val (.ref x0), .val (.ref x1), .val (.int of_)] []))
      refine own_go (fun _ k => XS.iinc X55.here hx rfl (hb hby d6_28) rfl (l' := #[.val (.ref x0), .val (.ref x1), .val (.int (of_ + (1 : Int32)))]) rfl k) ?_
      show own_G p.tables e below _ (T55.setTop (mkF m 31 #[.val (.ref x0), .val (.ref x1), .val (.int (of_ + (1 : Int32)))] []))
      refine own_go (fun _ k => XS.goto X55.here hx rfl (pc0 := 31) (pc' := 5) rfl (hb hby d6_31) (by decide) (by decide) k) ?_
      show own_G p.tables e below _ (T55.setTop (mkF m 5 #[.val (.ref x0), .val (.ref x1), .val (.int (of_ + (1 : Int32)))] []))
      refine own_go (fun _ k => XS.iloadN X55.here hx rfl (hb hby d6_5) rfl k) ?_
      show own_G p.tables e below _ (T55.setTop (mkF m 6 #[.val (.ref x0), .val (.ref x1), .val (.int (of_ + (1 : Int32)))] [(.int (of_ + (1 : Int32)))]))
      refine own_go (fun _ k => XS.aloadN X55.here hx rfl (hb hby d6_6) rfl rfl k) ?_
      show own_G p.tables e below _ (T55.setTop (mkF m 7 #[.val (.ref x0), .val (.ref x1), .val (.int (of_ + (1 : Int32)))] [(.ref x0), (.int (of_ + (1 : Int32)))]))
      obtain ⟨T59, X59, e59, st59⟩ := getF X55 hx hZ hown (host := "") (Or.inl (hw _ (List.mem_of_getElem? (i := 34) rfl))) Via.refl e55 Fo (g := (mkF m 7 #[.val (.ref x0), .val (.ref x1), .val (.int (of_ + (1 : Int32)))] [(.ref x0), (.int (of_ + (1 : Int32)))])) rfl rfl (hb hby d6_7)
      refine own_go st59 ?_
      show own_G p.tables e below _ (T59.setTop (mkF m 10 #[.val (.ref x0), .val (.ref x1), .val (.int (of_ + (1 : Int32)))] [(.int of_), (.int (of_ + (1 : Int32)))]))
      refine own_go (fun _ k => XS.aloadN X59.here hx rfl (hb hby d6_10) rfl rfl k) ?_
      show own_G p.tables e below _ (T59.setTop (mkF m 11 #[.val (.ref x0), .val (.ref x1), .val (.int (of_ + (1 : Int32)))] [(.ref x0), (.int of_), (.int (of_ + (1 : Int32)))]))
      obtain ⟨T60, X60, e60, st60⟩ := getF X59 hx hZ hown (host := "") (Or.inl (hw _ (List.mem_of_getElem? (i := 36) rfl))) Via.refl e59 Fl (g := (mkF m 11 #[.val (.ref x0), .val (.ref x1), .val (.int (of_ + (1 : Int32)))] [(.ref x0), (.int of_), (.int (of_ + (1 : Int32)))])) rfl rfl (hb hby d6_11)
      refine own_go st60 ?_
      show own_G p.tables e below _ (T60.setTop (mkF m 14 #[.val (.ref x0), .val (.ref x1), .val (.int (of_ + (1 : Int32)))] [(.int ln_), (.int of_), (.int (of_ + (1 : Int32)))]))
      refine own_go (fun _ k => XS.iadd X60.here hx rfl (hb hby d6_14) rfl k) ?_
      show own_G p.tables e below _ (T60.setTop (mkF m 15 #[.val (.ref x0), .val (.ref x1), .val (.int (of_ + (1 : Int32)))] [(.int (of_ + ln_)), (.int (of_ + (1 : Int32)))]))
      by_cases hc15_61 : (of_ + (1 : Int32)) < (of_ + ln_)
      · refine own_go (fun _ k => XS.icmpNo X60.here hx rfl (hb hby d6_15) rfl ((tlt hc15_61).2.1) k) ?_
        show own_G p.tables e below _ (T60.setTop (mkF m 18 #[.val (.ref x0), .val (.ref x1), .val (.int (of_ + (1 : Int32)))] []))
        refine own_go (fun _ k => XS.aloadN X60.here hx rfl (hb hby d6_18) rfl rfl k) ?_
        show own_G p.tables e below _ (T60.setTop (mkF m 19 #[.val (.ref x0), .val (.ref x1), .val (.int (of_ + (1 : Int32)))] [(.ref x1)]))
        refine own_go (fun _ k => XS.iloadN X60.here hx rfl (hb hby d6_19) rfl k) ?_
        show own_G p.tables e below _ (T60.setTop (mkF m 20 #[.val (.ref x0), .val (.ref x1), .val (.int (of_ + (1 : Int32)))] [(.int (of_ + (1 : Int32))), (.ref x1)]))
        obtain ⟨cl62, Ar62, hin62, hat62⟩ := own_rd V (own_inc hf hc15_56 ht) (own_hi hc15_61 ht)
        refine own_go (fun _ k => X60.caload hx (j := (of_ + (1 : Int32))) (v := (.int (f ((of_ + (1 : Int32))).toNatClampNeg))) (by rw [e60]; exact Ar62.1) (State.isArrayOf_alike hZ.alike Ar62.2.1) Ar62.2.2 hin62 hat62 (g := (mkF m 20 #[.val (.ref x0), .val (.ref x1), .val (.int (of_ + (1 : Int32)))] [(.int (of_ + (1 : Int32))), (.ref x1)])) rfl rfl (hb hby d6_20) _ k) ?_
        show own_G p.tables e below _ (T60.setTop (mkF m 21 #[.val (.ref x0), .val (.ref x1), .val (.int (of_ + (1 : Int32)))] [(.int (f ((of_ + (1 : Int32))).toNatClampNeg))]))
        refine own_go (fun _ k => XS.bipush X60.here hx rfl (hb hby d6_21) k) ?_
        show own_G p.tables e below _ (T60.setTop (mkF m 23 #[.val (.ref x0), .val (.ref x1), .val (.int (of_ + (1 : Int32)))] [(.int (32 : Int32)), (.int (f ((of_ + (1 : Int32))).toNatClampNeg))]))
        by_cases hc23_63 : (f ((of_ + (1 : Int32))).toNatClampNeg) = (32 : Int32)
        · refine own_go (fun _ k => XS.icmpYes X60.here hx rfl (pc0 := 23) (pc' := 28) rfl (hb hby d6_23) rfl ((teq hc23_63).1) (by decide) (by decide) k) ?_
          show own_G p.tables e below _ (T60.setTop (mkF m 28 #[.val (.ref x0), .val (.ref x1), .val (.int (of_ + (1 : Int32)))] []))
          refine own_go (fun _ k => XS.iinc X60.here hx rfl (hb hby d6_28) rfl (l' := #[.val (.ref x0), .val (.ref x1), .val (.int ((of_ + (1 : Int32)) + (1 : Int32)))]) rfl k) ?_
          show own_G p.tables e below _ (T60.setTop (mkF m 31 #[.val (.ref x0), .val (.ref x1), .val (.int ((of_ + (1 : Int32)) + (1 : Int32)))] []))
          refine own_go (fun _ k => XS.goto X60.here hx rfl (pc0 := 31) (pc' := 5) rfl (hb hby d6_31) (by decide) (by decide) k) ?_
          show own_G p.tables e below _ (T60.setTop (mkF m 5 #[.val (.ref x0), .val (.ref x1), .val (.int ((of_ + (1 : Int32)) + (1 : Int32)))] []))
          refine own_go (fun _ k => XS.iloadN X60.here hx rfl (hb hby d6_5) rfl k) ?_
          show own_G p.tables e below _ (T60.setTop (mkF m 6 #[.val (.ref x0), .val (.ref x1), .val (.int ((of_ + (1 : Int32)) + (1 : Int32)))] [(.int ((of_ + (1 : Int32)) + (1 : Int32)))]))
          refine own_go (fun _ k => XS.aloadN X60.here hx rfl (hb hby d6_6) rfl rfl k) ?_
          show own_G p.tables e below _ (T60.setTop (mkF m 7 #[.val (.ref x0), .val (.ref x1), .val (.int ((of_ + (1 : Int32)) + (1 : Int32)))] [(.ref x0), (.int ((of_ + (1 : Int32)) + (1 : Int32)))]))
          obtain ⟨T64, X64, e64, st64⟩ := getF X60 hx hZ hown (host := "") (Or.inl (hw _ (List.mem_of_getElem? (i := 34) rfl))) Via.refl e60 Fo (g := (mkF m 7 #[.val (.ref x0), .val (.ref x1), .val (.int ((of_ + (1 : Int32)) + (1 : Int32)))] [(.ref x0), (.int ((of_ + (1 : Int32)) + (1 : Int32)))])) rfl rfl (hb hby d6_7)
          refine own_go st64 ?_
          show own_G p.tables e below _ (T64.setTop (mkF m 10 #[.val (.ref x0), .val (.ref x1), .val (.int ((of_ + (1 : Int32)) + (1 : Int32)))] [(.int of_), (.int ((of_ + (1 : Int32)) + (1 : Int32)))]))
          refine own_go (fun _ k => XS.aloadN X64.here hx rfl (hb hby d6_10) rfl rfl k) ?_
          show own_G p.tables e below _ (T64.setTop (mkF m 11 #[.val (.ref x0), .val (.ref x1), .val (.int ((of_ + (1 : Int32)) + (1 : Int32)))] [(.ref x0), (.int of_), (.int ((of_ + (1 : Int32)) + (1 : Int32)))]))
          obtain ⟨T65, X65, e65, st65⟩ := getF X64 hx hZ hown (host := "") (Or.inl (hw _ (List.mem_of_getElem? (i := 36) rfl))) Via.refl e64 Fl (g := (mkF m 11 #[.val (.ref x0), .val (.ref x1), .val (.int ((of_ + (1 : Int32)) + (1 : Int32)))] [(.ref x0), (.int of_), (.int ((of_ + (1 : Int32)) + (1 : Int32)))])) rfl rfl (hb hby d6_11)
          refine own_go st65 ?_
          show own_G p.tables e below _ (T65.setTop (mkF m 14 #[.val (.ref x0), .val (.ref x1), .val (.int ((of_ + (1 : Int32)) + (1 : Int32)))] [(.int ln_), (.int of_), (.int ((of_ + (1 : Int32)) + (1 : Int32)))]))
          refine own_go (fun _ k => XS.iadd X65.here hx rfl (hb hby d6_14) rfl k) ?_
          show own_G p.tables e below _ (T65.setTop (mkF m 15 #[.val (.ref x0), .val (.ref x1), .val (.int ((of_ + (1 : Int32)) + (1 : Int32)))] [(.int (of_ + ln_)), (.int ((of_ + (1 : Int32)) + (1 : Int32)))]))
          by_cases hc15_66 : ((of_ + (1 : Int32)) + (1 : Int32)) < (of_ + ln_)
          · refine own_go (fun _ k => XS.icmpNo X65.here hx rfl (hb hby d6_15) rfl ((tlt hc15_66).2.1) k) ?_
            show own_G p.tables e below _ (T65.setTop (mkF m 18 #[.val (.ref x0), .val (.ref x1), .val (.int ((of_ + (1 : Int32)) + (1 : Int32)))] []))
            refine own_go (fun _ k => XS.aloadN X65.here hx rfl (hb hby d6_18) rfl rfl k) ?_
            show own_G p.tables e below _ (T65.setTop (mkF m 19 #[.val (.ref x0), .val (.ref x1), .val (.int ((of_ + (1 : Int32)) + (1 : Int32)))] [(.ref x1)]))
            refine own_go (fun _ k => XS.iloadN X65.here hx rfl (hb hby d6_19) rfl k) ?_
            show own_G p.tables e below _ (T65.setTop (mkF m 20 #[.val (.ref x0), .val (.ref x1), .val (.int ((of_ + (1 : Int32)) + (1 : Int32)))] [(.int ((of_ + (1 : Int32)) + (1 : Int32))), (.ref x1)]))
            obtain ⟨cl67, Ar67, hin67, hat67⟩ := own_rd V (own_inc (own_inc hf hc15_56 ht) hc15_61 ht) (own_hi hc15_66 ht)
            refine own_go (fun _ k => X65.caload hx (j := ((of_ + (1 : Int32)) + (1 : Int32))) (v := (.int (f (((of_ + (1 : Int32)) + (1 : Int32))).toNatClampNeg))) (by rw [e65]; exact Ar67.1) (State.isArrayOf_alike hZ.alike Ar67.2.1) Ar67.2.2 hin67 hat67 (g := (mkF m 20 #[.val (.ref x0), .val (.ref x1), .val (.int ((of_ + (1 : Int32)) + (1 : Int32)))] [(.int ((of_ + (1 : Int32)) + (1 : Int32))), (.ref x1)])) rfl rfl (hb hby d6_20) _ k) ?_
            show own_G p.tables e below _ (T65.setTop (mkF m 21 #[.val (.ref x0), .val (.ref x1), .val (.int ((of_ + (1 : Int32)) + (1 : Int32)))] [(.int (f (((of_ + (1 : Int32)) + (1 : Int32))).toNatClampNeg))]))
            refine own_go (fun _ k => XS.bipush X65.here hx rfl (hb hby d6_21) k) ?_
            show own_G p.tables e below _ (T65.setTop (mkF m 23 #[.val (.ref x0), .val (.ref x1), .val (.int ((of_ + (1 : Int32)) + (1 : Int32)))] [(.int (32 : Int32)), (.int (f (((of_ + (1 : Int32)) + (1 : Int32))).toNatClampNeg))]))
            by_cases hc23_68 : (f (((of_ + (1 : Int32)) + (1 : Int32))).toNatClampNeg) = (32 : Int32)
            · refine own_go (fun _ k => XS.icmpYes X65.here hx rfl (pc0 := 23) (pc' := 28) rfl (hb hby d6_23) rfl ((teq hc23_68).1) (by decide) (by decide) k) ?_
              show own_G p.tables e below _ (T65.setTop (mkF m 28 #[.val (.ref x0), .val (.ref x1), .val (.int ((of_ + (1 : Int32)) + (1 : Int32)))] []))
              refine own_go (fun _ k => XS.iinc X65.here hx rfl (hb hby d6_28) rfl (l' := #[.val (.ref x0), .val (.ref x1), .val (.int (((of_ + (1 : Int32)) + (1 : Int32)) + (1 : Int32)))]) rfl k) ?_
              show own_G p.tables e below _ (T65.setTop (mkF m 31 #[.val (.ref x0), .val (.ref x1), .val (.int (((of_ + (1 : Int32)) + (1 : Int32)) + (1 : Int32)))] []))
              refine own_go (fun _ k => XS.goto X65.here hx rfl (pc0 := 31) (pc' := 5) rfl (hb hby d6_31) (by decide) (by decide) k) ?_
              show own_G p.tables e below _ (T65.setTop (mkF m 5 #[.val (.ref x0), .val (.ref x1), .val (.int (((of_ + (1 : Int32)) + (1 : Int32)) + (1 : Int32)))] []))
              refine own_go (fun _ k => XS.iloadN X65.here hx rfl (hb hby d6_5) rfl k) ?_
              show own_G p.tables e below _ (T65.setTop (mkF m 6 #[.val (.ref x0), .val (.ref x1), .val (.int (((of_ + (1 : Int32)) + (1 : Int32)) + (1 : Int32)))] [(.int (((of_ + (1 : Int32)) + (1 : Int32)) + (1 : Int32)))]))
              refine own_go (fun _ k => XS.aloadN X65.here hx rfl (hb hby d6_6) rfl rfl k) ?_
              show own_G p.tables e below _ (T65.setTop (mkF m 7 #[.val (.ref x0), .val (.ref x1), .val (.int (((of_ + (1 : Int32)) + (1 : Int32)) + (1 : Int32)))] [(.ref x0), (.int (((of_ + (1 : Int32)) + (1 : Int32)) + (1 : Int32)))]))
              obtain ⟨T69, X69, e69, st69⟩ := getF X65 hx hZ hown (host := "") (Or.inl (hw _ (List.mem_of_getElem? (i := 34) rfl))) Via.refl e65 Fo (g := (mkF m 7 #[.val (.ref x0), .val (.ref x1), .val (.int (((of_ + (1 : Int32)) + (1 : Int32)) + (1 : Int32)))] [(.ref x0), (.int (((of_ + (1 : Int32)) + (1 : Int32)) + (1 : Int32)))])) rfl rfl (hb hby d6_7)
              refine own_go st69 ?_
              show own_G p.tables e below _ (T69.setTop (mkF m 10 #[.val (.ref x0), .val (.ref x1), .val (.int (((of_ + (1 : Int32)) + (1 : Int32)) + (1 : Int32)))] [(.int of_), (.int (((of_ + (1 : Int32)) + (1 : Int32)) + (1 : Int32)))]))
              refine own_go (fun _ k => XS.aloadN X69.here hx rfl (hb hby d6_10) rfl rfl k) ?_
              show own_G p.tables e below _ (T69.setTop (mkF m 11 #[.val (.ref x0), .val (.ref x1), .val (.int (((of_ + (1 : Int32)) + (1 : Int32)) + (1 : Int32)))] [(.ref x0), (.int of_), (.int (((of_ + (1 : Int32)) + (1 : Int32)) + (1 : Int32)))]))
              obtain ⟨T70, X70, e70, st70⟩ := getF X69 hx hZ hown (host := "") (Or.inl (hw _ (List.mem_of_getElem? (i := 36) rfl))) Via.refl e69 Fl (g := (mkF m 11 #[.val (.ref x0), .val (.ref x1), .val (.int (((of_ + (1 : Int32)) + (1 : Int32)) + (1 : Int32)))] [(.ref x0), (.int of_), (.int (((of_ + (1 : Int32)) + (1 : Int32)) + (1 : Int32)))])) rfl rfl (hb hby d6_11)
              refine own_go st70 ?_
              show own_G p.tables e below _ (T70.setTop (mkF m 14 #[.val (.ref x0), .val (.ref x1), .val (.int (((of_ + (1 : Int32)) + (1 : Int32)) + (1 : Int32)))] [(.int ln_), (.int of_), (.int (((of_ + (1 : Int32)) + (1 : Int32)) + (1 : Int32)))]))
              refine own_go (fun _ k => XS.iadd X70.here hx rfl (hb hby d6_14) rfl k) ?_
              show own_G p.tables e below _ (T70.setTop (mkF m 15 #[.val (.ref x0), .val (.ref x1), .val (.int (((of_ + (1 : Int32)) + (1 : Int32)) + (1 : Int32)))] [(.int (of_ + ln_)), (.int (((of_ + (1 : Int32)) + (1 : Int32)) + (1 : Int32)))]))
              by_cases hc15_71 : (((of_ + (1 : Int32)) + (1 : Int32)) + (1 : Int32)) < (of_ + ln_)
              · refine own_go (fun _ k => XS.icmpNo X70.here hx rfl (hb hby d6_15) rfl ((tlt hc15_71).2.1) k) ?_
                show own_G p.tables e below _ (T70.setTop (mkF m 18 #[.val (.ref x0), .val (.ref x1), .val (.int (((of_ + (1 : Int32)) + (1 : Int32)) + (1 : Int32)))] []))
                refine own_go (fun _ k => XS.aloadN X70.here hx rfl (hb hby d6_18) rfl rfl k) ?_
                show own_G p.tables e below _ (T70.setTop (mkF m 19 #[.val (.ref x0), .val (.ref x1), .val (.int (((of_ + (1 : Int32)) + (1 : Int32)) + (1 : Int32)))] [(.ref x1)]))
                refine own_go (fun _ k => XS.iloadN X70.here hx rfl (hb hby d6_19) rfl k) ?_
                show own_G p.tables e below _ (T70.setTop (mkF m 20 #[.val (.ref x0), .val (.ref x1), .val (.int (((of_ + (1 : Int32)) + (1 : Int32)) + (1 : Int32)))] [(.int (((of_ + (1 : Int32)) + (1 : Int32)) + (1 : Int32))), (.ref x1)]))
                obtain ⟨cl72, Ar72, hin72, hat72⟩ := own_rd V (own_inc (own_inc (own_inc hf hc15_56 ht) hc15_61 ht) hc15_66 ht) (own_hi hc15_71 ht)
                refine own_go (fun _ k => X70.caload hx (j := (((of_ + (1 : Int32)) + (1 : Int32)) + (1 : Int32))) (v := (.int (f ((((of_ + (1 : Int32)) + (1 : Int32)) + (1 : Int32))).toNatClampNeg))) (by rw [e70]; exact Ar72.1) (State.isArrayOf_alike hZ.alike Ar72.2.1) Ar72.2.2 hin72 hat72 (g := (mkF m 20 #[.val (.ref x0), .val (.ref x1), .val (.int (((of_ + (1 : Int32)) + (1 : Int32)) + (1 : Int32)))] [(.int (((of_ + (1 : Int32)) + (1 : Int32)) + (1 : Int32))), (.ref x1)])) rfl rfl (hb hby d6_20) _ k) ?_
                show own_G p.tables e below _ (T70.setTop (mkF m 21 #[.val (.ref x0), .val (.ref x1), .val (.int (((of_ + (1 : Int32)) + (1 : Int32)) + (1 : Int32)))] [(.int (f ((((of_ + (1 : Int32)) + (1 : Int32)) + (1 : Int32))).toNatClampNeg))]))
                refine own_go (fun _ k => XS.bipush X70.here hx rfl (hb hby d6_21) k) ?_
                show own_G p.tables e below _ (T70.setTop (mkF m 23 #[.val (.ref x0), .val (.ref x1), .val (.int (((of_ + (1 : Int32)) + (1 : Int32)) + (1 : Int32)))] [(.int (32 : Int32)), (.int (f ((((of_ + (1 : Int32)) + (1 : Int32)) + (1 : Int32))).toNatClampNeg))]))
                by_cases hc23_73 : (f ((((of_ + (1 : Int32)) + (1 : Int32)) + (1 : Int32))).toNatClampNeg) = (32 : Int32)
                · refine own_go (fun _ k => XS.icmpYes X70.here hx rfl (pc0 := 23) (pc' := 28) rfl (hb hby d6_23) rfl ((teq hc23_73).1) (by decide) (by decide) k) ?_
                  show own_G p.tables e below _ (T70.setTop (mkF m 28 #[.val (.ref x0), .val (.ref x1), .val (.int (((of_ + (1 : Int32)) + (1 : Int32)) + (1 : Int32)))] []))
                  refine own_go (fun _ k => XS.iinc X70.here hx rfl (hb hby d6_28) rfl (l' := #[.val (.ref x0), .val (.ref x1), .val (.int ((((of_ + (1 : Int32)) + (1 : Int32)) + (1 : Int32)) + (1 : Int32)))]) rfl k) ?_
                  show own_G p.tables e below _ (T70.setTop (mkF m 31 #[.val (.ref x0), .val (.ref x1), .val (.int ((((of_ + (1 : Int32)) + (1 : Int32)) + (1 : Int32)) + (1 : Int32)))] []))
                  refine own_go (fun _ k => XS.goto X70.here hx rfl (pc0 := 31) (pc' := 5) rfl (hb hby d6_31) (by decide) (by decide) k) ?_
                  show own_G p.tables e below _ (T70.setTop (mkF m 5 #[.val (.ref x0), .val (.ref x1), .val (.int ((((of_ + (1 : Int32)) + (1 : Int32)) + (1 : Int32)) + (1 : Int32)))] []))
                  refine own_go (fun _ k => XS.iloadN X70.here hx rfl (hb hby d6_5) rfl k) ?_
                  show own_G p.tables e below _ (T70.setTop (mkF m 6 #[.val (.ref x0), .val (.ref x1), .val (.int ((((of_ + (1 : Int32)) + (1 : Int32)) + (1 : Int32)) + (1 : Int32)))] [(.int ((((of_ + (1 : Int32)) + (1 : Int32)) + (1 : Int32)) + (1 : Int32)))]))
                  refine own_go (fun _ k => XS.aloadN X70.here hx rfl (hb hby d6_6) rfl rfl k) ?_
                  show own_G p.tables e below _ (T70.setTop (mkF m 7 #[.val (.ref x0), .val (.ref x1), .val (.int ((((of_ + (1 : Int32)) + (1 : Int32)) + (1 : Int32)) + (1 : Int32)))] [(.ref x0), (.int ((((of_ + (1 : Int32)) + (1 : Int32)) + (1 : Int32)) + (1 : Int32)))]))
                  obtain ⟨T74, X74, e74, st74⟩ := getF X70 hx hZ hown (host := "") (Or.inl (hw _ (List.mem_of_getElem? (i := 34) rfl))) Via.refl e70 Fo (g := (mkF m 7 #[.val (.ref x0), .val (.ref x1), .val (.int ((((of_ + (1 : Int32)) + (1 : Int32)) + (1 : Int32)) + (1 : Int32)))] [(.ref x0), (.int ((((of_ + (1 : Int32)) + (1 : Int32)) + (1 : Int32)) + (1 : Int32)))])) rfl rfl (hb hby d6_7)
                  refine own_go st74 ?_
                  show own_G p.tables e below _ (T74.setTop (mkF m 10 #[.val (.ref x0), .val (.ref x1), .val (.int ((((of_ + (1 : Int32)) + (1 : Int32)) + (1 : Int32)) + (1 : Int32)))] [(.int of_), (.int ((((of_ + (1 : Int32)) + (1 : Int32)) + (1 : Int32)) + (1 : Int32)))]))
                  refine own_go (fun _ k => XS.aloadN X74.here hx rfl (hb hby d6_10) rfl rfl k) ?_
                  show own_G p.tables e below _ (T74.setTop (mkF m 11 #[.val (.ref x0), .val (.ref x1), .val (.int ((((of_ + (1 : Int32)) + (1 : Int32)) + (1 : Int32)) + (1 : Int32)))] [(.ref x0), (.int of_), (.int ((((of_ + (1 : Int32)) + (1 : Int32)) + (1 : Int32)) + (1 : Int32)))]))
                  obtain ⟨T75, X75, e75, st75⟩ := getF X74 hx hZ hown (host := "") (Or.inl (hw _ (List.mem_of_getElem? (i := 36) rfl))) Via.refl e74 Fl (g := (mkF m 11 #[.val (.ref x0), .val (.ref x1), .val (.int ((((of_ + (1 : Int32)) + (1 : Int32)) + (1 : Int32)) + (1 : Int32)))] [(.ref x0), (.int of_), (.int ((((of_ + (1 : Int32)) + (1 : Int32)) + (1 : Int32)) + (1 : Int32)))])) rfl rfl (hb hby d6_11)
                  refine own_go st75 ?_
                  show own_G p.tables e below _ (T75.setTop (mkF m 14 #[.val (.ref x0), .val (.ref x1), .val (.int ((((of_ + (1 : Int32)) + (1 : Int32)) + (1 : Int32)) + (1 : Int32)))] [(.int ln_), (.int of_), (.int ((((of_ + (1 : Int32)) + (1 : Int32)) + (1 : Int32)) + (1 : Int32)))]))
                  refine own_go (fun _ k => XS.iadd X75.here hx rfl (hb hby d6_14) rfl k) ?_
                  show own_G p.tables e below _ (T75.setTop (mkF m 15 #[.val (.ref x0), .val (.ref x1), .val (.int ((((of_ + (1 : Int32)) + (1 : Int32)) + (1 : Int32)) + (1 : Int32)))] [(.int (of_ + ln_)), (.int ((((of_ + (1 : Int32)) + (1 : Int32)) + (1 : Int32)) + (1 : Int32)))]))
                  by_cases hc15_76 : ((((of_ + (1 : Int32)) + (1 : Int32)) + (1 : Int32)) + (1 : Int32)) < (of_ + ln_)
                  · refine own_go (fun _ k => XS.icmpNo X75.here hx rfl (hb hby d6_15) rfl ((tlt hc15_76).2.1) k) ?_
                    show own_G p.tables e below _ (T75.setTop (mkF m 18 #[.val (.ref x0), .val (.ref x1), .val (.int ((((of_ + (1 : Int32)) + (1 : Int32)) + (1 : Int32)) + (1 : Int32)))] []))
                    refine own_go (fun _ k => XS.aloadN X75.here hx rfl (hb hby d6_18) rfl rfl k) ?_
                    show own_G p.tables e below _ (T75.setTop (mkF m 19 #[.val (.ref x0), .val (.ref x1), .val (.int ((((of_ + (1 : Int32)) + (1 : Int32)) + (1 : Int32)) + (1 : Int32)))] [(.ref x1)]))
                    refine own_go (fun _ k => XS.iloadN X75.here hx rfl (hb hby d6_19) rfl k) ?_
                    show own_G p.tables e below _ (T75.setTop (mkF m 20 #[.val (.ref x0), .val (.ref x1), .val (.int ((((of_ + (1 : Int32)) + (1 : Int32)) + (1 : Int32)) + (1 : Int32)))] [(.int ((((of_ + (1 : Int32)) + (1 : Int32)) + (1 : Int32)) + (1 : Int32))), (.ref x1)]))
                    obtain ⟨cl77, Ar77, hin77, hat77⟩ := own_rd V (own_inc (own_inc (own_inc (own_inc hf hc15_56 ht) hc15_61 ht) hc15_66 ht) hc15_71 ht) (own_hi hc15_76 ht)
                    refine own_go (fun _ k => X75.caload hx (j := ((((of_ + (1 : Int32)) + (1 : Int32)) + (1 : Int32)) + (1 : Int32))) (v := (.int (f (((((of_ + (1 : Int32)) + (1 : Int32)) + (1 : Int32)) + (1 : Int32))).toNatClampNeg))) (by rw [e75]; exact Ar77.1) (State.isArrayOf_alike hZ.alike Ar77.2.1) Ar77.2.2 hin77 hat77 (g := (mkF m 20 #[.val (.ref x0), .val (.ref x1), .val (.int ((((of_ + (1 : Int32)) + (1 : Int32)) + (1 : Int32)) + (1 : Int32)))] [(.int ((((of_ + (1 : Int32)) + (1 : Int32)) + (1 : Int32)) + (1 : Int32))), (.ref x1)])) rfl rfl (hb hby d6_20) _ k) ?_
                    show own_G p.tables e below _ (T75.setTop (mkF m 21 #[.val (.ref x0), .val (.ref x1), .val (.int ((((of_ + (1 : Int32)) + (1 : Int32)) + (1 : Int32)) + (1 : Int32)))] [(.int (f (((((of_ + (1 : Int32)) + (1 : Int32)) + (1 : Int32)) + (1 : Int32))).toNatClampNeg))]))
                    refine own_go (fun _ k => XS.bipush X75.here hx rfl (hb hby d6_21) k) ?_
                    show own_G p.tables e below _ (T75.setTop (mkF m 23 #[.val (.ref x0), .val (.ref x1), .val (.int ((((of_ + (1 : Int32)) + (1 : Int32)) + (1 : Int32)) + (1 : Int32)))] [(.int (32 : Int32)), (.int (f (((((of_ + (1 : Int32)) + (1 : Int32)) + (1 : Int32)) + (1 : Int32))).toNatClampNeg))]))
                    by_cases hc23_78 : (f (((((of_ + (1 : Int32)) + (1 : Int32)) + (1 : Int32)) + (1 : Int32))).toNatClampNeg) = (32 : Int32)
                    · refine own_go (fun _ k => XS.icmpYes X75.here hx rfl (pc0 := 23) (pc' := 28) rfl (hb hby d6_23) rfl ((teq hc23_78).1) (by decide) (by decide) k) ?_
                      show own_G p.tables e below _ (T75.setTop (mkF m 28 #[.val (.ref x0), .val (.ref x1), .val (.int ((((of_ + (1 : Int32)) + (1 : Int32)) + (1 : Int32)) + (1 : Int32)))] []))
                      refine own_go (fun _ k => XS.iinc X75.here hx rfl (hb hby d6_28) rfl (l' := #[.val (.ref x0), .val (.ref x1), .val (.int (((((of_ + (1 : Int32)) + (1 : Int32)) + (1 : Int32)) + (1 : Int32)) + (1 : Int32)))]) rfl k) ?_
                      show own_G p.tables e below _ (T75.setTop (mkF m 31 #[.val (.ref x0), .val (.ref x1), .val (.int (((((of_ + (1 : Int32)) + (1 : Int32)) + (1 : Int32)) + (1 : Int32)) + (1 : Int32)))] []))
                      refine own_go (fun _ k => XS.goto X75.here hx rfl (pc0 := 31) (pc' := 5) rfl (hb hby d6_31) (by decide) (by decide) k) ?_
                      show own_G p.tables e below _ (T75.setTop (mkF m 5 #[.val (.ref x0), .val (.ref x1), .val (.int (((((of_ + (1 : Int32)) + (1 : Int32)) + (1 : Int32)) + (1 : Int32)) + (1 : Int32)))] []))
                      refine own_go (fun _ k => XS.iloadN X75.here hx rfl (hb hby d6_5) rfl k) ?_
                      show own_G p.tables e below _ (T75.setTop (mkF m 6 #[.val (.ref x0), .val (.ref x1), .val (.int (((((of_ + (1 : Int32)) + (1 : Int32)) + (1 : Int32)) + (1 : Int32)) + (1 : Int32)))] [(.int (((((of_ + (1 : Int32)) + (1 : Int32)) + (1 : Int32)) + (1 : Int32)) + (1 : Int32)))]))
                      refine own_go (fun _ k => XS.aloadN X75.here hx rfl (hb hby d6_6) rfl rfl k) ?_
                      show own_G p.tables e below _ (T75.setTop (mkF m 7 #[.val (.ref x0), .val (.ref x1), .val (.int (((((of_ + (1 : Int32)) + (1 : Int32)) + (1 : Int32)) + (1 : Int32)) + (1 : Int32)))] [(.ref x0), (.int (((((of_ + (1 : Int32)) + (1 : Int32)) + (1 : Int32)) + (1 : Int32)) + (1 : Int32)))]))
                      obtain ⟨T79, X79, e79, st79⟩ := getF X75 hx hZ hown (host := "") (Or.inl (hw _ (List.mem_of_getElem? (i := 34) rfl))) Via.refl e75 Fo (g := (mkF m 7 #[.val (.ref x0), .val (.ref x1), .val (.int (((((of_ + (1 : Int32)) + (1 : Int32)) + (1 : Int32)) + (1 : Int32)) + (1 : Int32)))] [(.ref x0), (.int (((((of_ + (1 : Int32)) + (1 : Int32)) + (1 : Int32)) + (1 : Int32)) + (1 : Int32)))])) rfl rfl (hb hby d6_7)
                      refine own_go st79 ?_
                      show own_G p.tables e below _ (T79.setTop (mkF m 10 #[.val (.ref x0), .val (.ref x1), .val (.int (((((of_ + (1 : Int32)) + (1 : Int32)) + (1 : Int32)) + (1 : Int32)) + (1 : Int32)))] [(.int of_), (.int (((((of_ + (1 : Int32)) + (1 : Int32)) + (1 : Int32)) + (1 : Int32)) + (1 : Int32)))]))
                      refine own_go (fun _ k => XS.aloadN X79.here hx rfl (hb hby d6_10) rfl rfl k) ?_
                      show own_G p.tables e below _ (T79.setTop (mkF m 11 #[.val (.ref x0), .val (.ref x1), .val (.int (((((of_ + (1 : Int32)) + (1 : Int32)) + (1 : Int32)) + (1 : Int32)) + (1 : Int32)))] [(.ref x0), (.int of_), (.int (((((of_ + (1 : Int32)) + (1 : Int32)) + (1 : Int32)) + (1 : Int32)) + (1 : Int32)))]))
                      obtain ⟨T80, X80, e80, st80⟩ := getF X79 hx hZ hown (host := "") (Or.inl (hw _ (List.mem_of_getElem? (i := 36) rfl))) Via.refl e79 Fl (g := (mkF m 11 #[.val (.ref x0), .val (.ref x1), .val (.int (((((of_ + (1 : Int32)) + (1 : Int32)) + (1 : Int32)) + (1 : Int32)) + (1 : Int32)))] [(.ref x0), (.int of_), (.int (((((of_ + (1 : Int32)) + (1 : Int32)) + (1 : Int32)) + (1 : Int32)) + (1 : Int32)))])) rfl rfl (hb hby d6_11)
                      refine own_go st80 ?_
                      show own_G p.tables e below _ (T80.setTop (mkF m 14 #[.val (.ref x0), .val (.ref x1), .val (.int (((((of_ + (1 : Int32)) + (1 : Int32)) + (1 : Int32)) + (1 : Int32)) + (1 : Int32)))] [(.int ln_), (.int of_), (.int (((((of_ + (1 : Int32)) + (1 : Int32)) + (1 : Int32)) + (1 : Int32)) + (1 : Int32)))]))
                      refine own_go (fun _ k => XS.iadd X80.here hx rfl (hb hby d6_14) rfl k) ?_
                      show own_G p.tables e below _ (T80.setTop (mkF m 15 #[.val (.ref x0), .val (.ref x1), .val (.int (((((of_ + (1 : Int32)) + (1 : Int32)) + (1 : Int32)) + (1 : Int32)) + (1 : Int32)))] [(.int (of_ + ln_)), (.int (((((of_ + (1 : Int32)) + (1 : Int32)) + (1 : Int32)) + (1 : Int32)) + (1 : Int32)))]))
                      refine own_go (fun _ k => XS.icmpYes X80.here hx rfl (pc0 := 15) (pc' := 34) rfl (hb hby d6_15) rfl ((flt (own_last hf ht hc15_56 hc15_76)).2.1) (by decide) (by decide) k) ?_
                      show own_G p.tables e below _ (T80.setTop (mkF m 34 #[.val (.ref x0), .val (.ref x1), .val (.int (((((of_ + (1 : Int32)) + (1 : Int32)) + (1 : Int32)) + (1 : Int32)) + (1 : Int32)))] []))
                      refine own_go (fun _ k => XS.iconst X80.here hx rfl (hb hby d6_34) k) ?_
                      show own_G p.tables e below _ (T80.setTop (mkF m 35 #[.val (.ref x0), .val (.ref x1), .val (.int (((((of_ + (1 : Int32)) + (1 : Int32)) + (1 : Int32)) + (1 : Int32)) + (1 : Int32)))] [(.int (1 : Int32))]))
                      exact own_end X80 Bd.notSynchronized (v := some (.int (nar .boolean (1 : Int32)))) (fun h => by rw [Bd.returns] at h; cases h) (Q := QP (some (.int (F6  of_ ln_ f))) h0) ⟨by unfold F6; simp only [if_pos hc15_56, if_pos hc23_58, if_pos hc15_61, if_pos hc23_63, if_pos hc15_66, if_pos hc23_68, if_pos hc15_71, if_pos hc23_73, if_pos hc15_76, if_pos hc23_78]; try rfl, rfl, e80⟩ (fun fs hr => retN X80 hx (t := .boolean) Bd.returns (by simp) (hb hby d6_35) hr) (by decide) (by decide)
                    · refine own_go (fun _ k => XS.icmpNo X75.here hx rfl (hb hby d6_23) rfl ((feq hc23_78).1) k) ?_
                      show own_G p.tables e below _ (T75.setTop (mkF m 26 #[.val (.ref x0), .val (.ref x1), .val (.int ((((of_ + (1 : Int32)) + (1 : Int32)) + (1 : Int32)) + (1 : Int32)))] []))
                      refine own_go (fun _ k => XS.iconst X75.here hx rfl (hb hby d6_26) k) ?_
                      show own_G p.tables e below _ (T75.setTop (mkF m 27 #[.val (.ref x0), .val (.ref x1), .val (.int ((((of_ + (1 : Int32)) + (1 : Int32)) + (1 : Int32)) + (1 : Int32)))] [(.int (0 : Int32))]))
                      exact own_end X75 Bd.notSynchronized (v := some (.int (nar .boolean (0 : Int32)))) (fun h => by rw [Bd.returns] at h; cases h) (Q := QP (some (.int (F6  of_ ln_ f))) h0) ⟨by unfold F6; simp only [if_pos hc15_56, if_pos hc23_58, if_pos hc15_61, if_pos hc23_63, if_pos hc15_66, if_pos hc23_68, if_pos hc15_71, if_pos hc23_73, if_pos hc15_76, if_neg hc23_78]; try rfl, rfl, e75⟩ (fun fs hr => retN X75 hx (t := .boolean) Bd.returns (by simp) (hb hby d6_27) hr) (by decide) (by decide)
                  · refine own_go (fun _ k => XS.icmpYes X75.here hx rfl (pc0 := 15) (pc' := 34) rfl (hb hby d6_15) rfl ((flt hc15_76).2.1) (by decide) (by decide) k) ?_
                    show own_G p.tables e below _ (T75.setTop (mkF m 34 #[.val (.ref x0), .val (.ref x1), .val (.int ((((of_ + (1 : Int32)) + (1 : Int32)) + (1 : Int32)) + (1 : Int32)))] []))
                    refine own_go (fun _ k => XS.iconst X75.here hx rfl (hb hby d6_34) k) ?_
                    show own_G p.tables e below _ (T75.setTop (mkF m 35 #[.val (.ref x0), .val (.ref x1), .val (.int ((((of_ + (1 : Int32)) + (1 : Int32)) + (1 : Int32)) + (1 : Int32)))] [(.int (1 : Int32))]))
                    exact own_end X75 Bd.notSynchronized (v := some (.int (nar .boolean (1 : Int32)))) (fun h => by rw [Bd.returns] at h; cases h) (Q := QP (some (.int (F6  of_ ln_ f))) h0) ⟨by unfold F6; simp only [if_pos hc15_56, if_pos hc23_58, if_pos hc15_61, if_pos hc23_63, if_pos hc15_66, if_pos hc23_68, if_pos hc15_71, if_pos hc23_73, if_neg hc15_76]; try rfl, rfl, e75⟩ (fun fs hr => retN X75 hx (t := .boolean) Bd.returns (by simp) (hb hby d6_35) hr) (by decide) (by decide)
                · refine own_go (fun _ k => XS.icmpNo X70.here hx rfl (hb hby d6_23) rfl ((feq hc23_73).1) k) ?_
                  show own_G p.tables e below _ (T70.setTop (mkF m 26 #[.val (.ref x0), .val (.ref x1), .val (.int (((of_ + (1 : Int32)) + (1 : Int32)) + (1 : Int32)))] []))
                  refine own_go (fun _ k => XS.iconst X70.here hx rfl (hb hby d6_26) k) ?_
                  show own_G p.tables e below _ (T70.setTop (mkF m 27 #[.val (.ref x0), .val (.ref x1), .val (.int (((of_ + (1 : Int32)) + (1 : Int32)) + (1 : Int32)))] [(.int (0 : Int32))]))
                  exact own_end X70 Bd.notSynchronized (v := some (.int (nar .boolean (0 : Int32)))) (fun h => by rw [Bd.returns] at h; cases h) (Q := QP (some (.int (F6  of_ ln_ f))) h0) ⟨by unfold F6; simp only [if_pos hc15_56, if_pos hc23_58, if_pos hc15_61, if_pos hc23_63, if_pos hc15_66, if_pos hc23_68, if_pos hc15_71, if_neg hc23_73]; try rfl, rfl, e70⟩ (fun fs hr => retN X70 hx (t := .boolean) Bd.returns (by simp) (hb hby d6_27) hr) (by decide) (by decide)
              · refine own_go (fun _ k => XS.icmpYes X70.here hx rfl (pc0 := 15) (pc' := 34) rfl (hb hby d6_15) rfl ((flt hc15_71).2.1) (by decide) (by decide) k) ?_
                show own_G p.tables e below _ (T70.setTop (mkF m 34 #[.val (.ref x0), .val (.ref x1), .val (.int (((of_ + (1 : Int32)) + (1 : Int32)) + (1 : Int32)))] []))
                refine own_go (fun _ k => XS.iconst X70.here hx rfl (hb hby d6_34) k) ?_
                show own_G p.tables e below _ (T70.setTop (mkF m 35 #[.val (.ref x0), .val (.ref x1), .val (.int (((of_ + (1 : Int32)) + (1 : Int32)) + (1 : Int32)))] [(.int (1 : Int32))]))
                exact own_end X70 Bd.notSynchronized (v := some (.int (nar .boolean (1 : Int32)))) (fun h => by rw [Bd.returns] at h; cases h) (Q := QP (some (.int (F6  of_ ln_ f))) h0) ⟨by unfold F6; simp only [if_pos hc15_56, if_pos hc23_58, if_pos hc15_61, if_pos hc23_63, if_pos hc15_66, if_pos hc23_68, if_neg hc15_71]; try rfl, rfl, e70⟩ (fun fs hr => retN X70 hx (t := .boolean) Bd.returns (by simp) (hb hby d6_35) hr) (by decide) (by decide)
            · refine own_go (fun _ k => XS.icmpNo X65.here hx rfl (hb hby d6_23) rfl ((feq hc23_68).1) k) ?_
              show own_G p.tables e below _ (T65.setTop (mkF m 26 #[.val (.ref x0), .val (.ref x1), .val (.int ((of_ + (1 : Int32)) + (1 : Int32)))] []))
              refine own_go (fun _ k => XS.iconst X65.here hx rfl (hb hby d6_26) k) ?_
              show own_G p.tables e below _ (T65.setTop (mkF m 27 #[.val (.ref x0), .val (.ref x1), .val (.int ((of_ + (1 : Int32)) + (1 : Int32)))] [(.int (0 : Int32))]))
              exact own_end X65 Bd.notSynchronized (v := some (.int (nar .boolean (0 : Int32)))) (fun h => by rw [Bd.returns] at h; cases h) (Q := QP (some (.int (F6  of_ ln_ f))) h0) ⟨by unfold F6; simp only [if_pos hc15_56, if_pos hc23_58, if_pos hc15_61, if_pos hc23_63, if_pos hc15_66, if_neg hc23_68]; try rfl, rfl, e65⟩ (fun fs hr => retN X65 hx (t := .boolean) Bd.returns (by simp) (hb hby d6_27) hr) (by decide) (by decide)
          · refine own_go (fun _ k => XS.icmpYes X65.here hx rfl (pc0 := 15) (pc' := 34) rfl (hb hby d6_15) rfl ((flt hc15_66).2.1) (by decide) (by decide) k) ?_
            show own_G p.tables e below _ (T65.setTop (mkF m 34 #[.val (.ref x0), .val (.ref x1), .val (.int ((of_ + (1 : Int32)) + (1 : Int32)))] []))
            refine own_go (fun _ k => XS.iconst X65.here hx rfl (hb hby d6_34) k) ?_
            show own_G p.tables e below _ (T65.setTop (mkF m 35 #[.val (.ref x0), .val (.ref x1), .val (.int ((of_ + (1 : Int32)) + (1 : Int32)))] [(.int (1 : Int32))]))
            exact own_end X65 Bd.notSynchronized (v := some (.int (nar .boolean (1 : Int32)))) (fun h => by rw [Bd.returns] at h; cases h) (Q := QP (some (.int (F6  of_ ln_ f))) h0) ⟨by unfold F6; simp only [if_pos hc15_56, if_pos hc23_58, if_pos hc15_61, if_pos hc23_63, if_neg hc15_66]; try rfl, rfl, e65⟩ (fun fs hr => retN X65 hx (t := .boolean) Bd.returns (by simp) (hb hby d6_35) hr) (by decide) (by decide)
        · refine own_go (fun _ k => XS.icmpNo X60.here hx rfl (hb hby d6_23) rfl ((feq hc23_63).1) k) ?_
          show own_G p.tables e below _ (T60.setTop (mkF m 26 #[.val (.ref x0), .val (.ref x1), .val (.int (of_ + (1 : Int32)))] []))
          refine own_go (fun _ k => XS.iconst X60.here hx rfl (hb hby d6_26) k) ?_
          show own_G p.tables e below _ (T60.setTop (mkF m 27 #[.val (.ref x0), .val (.ref x1), .val (.int (of_ + (1 : Int32)))] [(.int (0 : Int32))]))
          exact own_end X60 Bd.notSynchronized (v := some (.int (nar .boolean (0 : Int32)))) (fun h => by rw [Bd.returns] at h; cases h) (Q := QP (some (.int (F6  of_ ln_ f))) h0) ⟨by unfold F6; simp only [if_pos hc15_56, if_pos hc23_58, if_pos hc15_61, if_neg hc23_63]; try rfl, rfl, e60⟩ (fun fs hr => retN X60 hx (t := .boolean) Bd.returns (by simp) (hb hby d6_27) hr) (by decide) (by decide)
      · refine own_go (fun _ k => XS.icmpYes X60.here hx rfl (pc0 := 15) (pc' := 34) rfl (hb hby d6_15) rfl ((flt hc15_61).2.1) (by decide) (by decide) k) ?_
        show own_G p.tables e below _ (T60.setTop (mkF m 34 #[.val (.ref x0), .val (.ref x1), .val (.int (of_ + (1 : Int32)))] []))
        refine own_go (fun _ k => XS.iconst X60.here hx rfl (hb hby d6_34) k) ?_
        show own_G p.tables e below _ (T60.setTop (mkF m 35 #[.val (.ref x0), .val (.ref x1), .val (.int (of_ + (1 : Int32)))] [(.int (1 : Int32))]))
        exact own_end X60 Bd.notSynchronized (v := some (.int (nar .boolean (1 : Int32)))) (fun h => by rw [Bd.returns] at h; cases h) (Q := QP (some (.int (F6  of_ ln_ f))) h0) ⟨by unfold F6; simp only [if_pos hc15_56, if_pos hc23_58, if_neg hc15_61]; try rfl, rfl, e60⟩ (fun fs hr => retN X60 hx (t := .boolean) Bd.returns (by simp) (hb hby d6_35) hr) (by decide) (by decide)
    · refine own_go (fun _ k => XS.icmpNo X55.here hx rfl (hb hby d6_23) rfl ((feq hc23_58).1) k) ?_
      show own_G p.tables e below _ (T55.setTop (mkF m 26 #[.val (.ref x0), .val (.ref x1), .val (.int of_)] []))
      refine own_go (fun _ k => XS.iconst X55.here hx rfl (hb hby d6_26) k) ?_
      show own_G p.tables e below _ (T55.setTop (mkF m 27 #[.val (.ref x0), .val (.ref x1), .val (.int of_)] [(.int (0 : Int32))]))
      exact own_end X55 Bd.notSynchronized (v := some (.int (nar .boolean (0 : Int32)))) (fun h => by rw [Bd.returns] at h; cases h) (Q := QP (some (.int (F6  of_ ln_ f))) h0) ⟨by unfold F6; simp only [if_pos hc15_56, if_neg hc23_58]; try rfl, rfl, e55⟩ (fun fs hr => retN X55 hx (t := .boolean) Bd.returns (by simp) (hb hby d6_27) hr) (by decide) (by decide)
  · refine own_go (fun _ k => XS.icmpYes X55.here hx rfl (pc0 := 15) (pc' := 34) rfl (hb hby d6_15) rfl ((flt hc15_56).2.1) (by decide) (by decide) k) ?_
    show own_G p.tables e below _ (T55.setTop (mkF m 34 #[.val (.ref x0), .val (.ref x1), .val (.int of_)] []))
    refine own_go (fun _ k => XS.iconst X55.here hx rfl (hb hby d6_34) k) ?_
    show own_G p.tables e below _ (T55.setTop (mkF m 35 #[.val (.ref x0), .val (.ref x1), .val (.int of_)] [(.int (1 : Int32))]))
    exact own_end X55 Bd.notSynchronized (v := some (.int (nar .boolean (1 : Int32)))) (fun h => by rw [Bd.returns] at h; cases h) (Q := QP (some (.int (F6  of_ ln_ f))) h0) ⟨by unfold F6; simp only [if_neg hc15_56]; try rfl, rfl, e55⟩ (fun fs hr => retN X55 hx (t := .boolean) Bd.returns (by simp) (hb hby d6_35) hr) (by decide) (by decide)
def own_cs (c : Int64) (j : Nat) : Int32 := match j with
  | 0 => nar .char (F1 c (0 : Int32))
  | 1 => nar .char (F1 c (9 : Int32))
  | 2 => nar .char (F1 c (18 : Int32))
  | 3 => nar .char (F1 c (27 : Int32))
  | _ => nar .char (F1 c (36 : Int32))
theorem own_pd1 : parseMethodDescriptor "(JI)C" = some ⟨[.long, .int], some .char⟩ := by decide +kernel
theorem own_pd2 : parseMethodDescriptor "(Ljava/lang/String;IILcom/example/davka/davka/layout/FieldKind;Z)V" = some ⟨[(.object "java/lang/String"), .int, .int, (.object "com/example/davka/davka/layout/FieldKind"), .boolean], none⟩ := by decide +kernel
theorem own_pd3 : parseMethodDescriptor "([CIII)Z" = some ⟨[(.array .char), .int, .int, .int], some .boolean⟩ := by decide +kernel
theorem own_pd4 : parseMethodDescriptor "([C)Z" = some ⟨[(.array .char)], some .boolean⟩ := by decide +kernel
def F0 (x0 : Int32) (x1 : Int32) (x2 : Int64) (x3 : Int32) : Int32 :=
  if (x3 &&& (1 : Int32)) = (0 : Int32) then
    if (F5 (0 : Int32) (own_off x0) (own_len x0 x1) (own_cs x2)) = (0 : Int32) then
      if (F6  (own_off x0) (own_len x0 x1) (own_cs x2)) = (0 : Int32) then
        (nar .boolean (1 : Int32))
      else
        (nar .boolean (0 : Int32))
    else
      if (F5 (1 : Int32) (own_off x0) (own_len x0 x1) (own_cs x2)) = (0 : Int32) then
        if (F6  (own_off x0) (own_len x0 x1) (own_cs x2)) = (0 : Int32) then
          (nar .boolean (1 : Int32))
        else
          (nar .boolean (0 : Int32))
      else
        if (F5 (2 : Int32) (own_off x0) (own_len x0 x1) (own_cs x2)) = (0 : Int32) then
          if (F6  (own_off x0) (own_len x0 x1) (own_cs x2)) = (0 : Int32) then
            (nar .boolean (1 : Int32))
          else
            (nar .boolean (0 : Int32))
        else
          if (F5 (3 : Int32) (own_off x0) (own_len x0 x1) (own_cs x2)) = (0 : Int32) then
            if (F6  (own_off x0) (own_len x0 x1) (own_cs x2)) = (0 : Int32) then
              (nar .boolean (1 : Int32))
            else
              (nar .boolean (0 : Int32))
          else
            if (F5 (4 : Int32) (own_off x0) (own_len x0 x1) (own_cs x2)) = (0 : Int32) then
              if (F6  (own_off x0) (own_len x0 x1) (own_cs x2)) = (0 : Int32) then
                (nar .boolean (1 : Int32))
              else
                (nar .boolean (0 : Int32))
            else
              if (F6  (own_off x0) (own_len x0 x1) (own_cs x2)) = (1 : Int32) then
                (nar .boolean (1 : Int32))
              else
                (nar .boolean (0 : Int32))
  else
    if (F5 (0 : Int32) (own_off x0) (own_len x0 x1) (own_cs x2)) = (0 : Int32) then
      if (F6  (own_off x0) (own_len x0 x1) (own_cs x2)) = (0 : Int32) then
        (nar .boolean (1 : Int32))
      else
        (nar .boolean (0 : Int32))
    else
      if (F5 (1 : Int32) (own_off x0) (own_len x0 x1) (own_cs x2)) = (0 : Int32) then
        if (F6  (own_off x0) (own_len x0 x1) (own_cs x2)) = (0 : Int32) then
          (nar .boolean (1 : Int32))
        else
          (nar .boolean (0 : Int32))
      else
        if (F5 (2 : Int32) (own_off x0) (own_len x0 x1) (own_cs x2)) = (0 : Int32) then
          if (F6  (own_off x0) (own_len x0 x1) (own_cs x2)) = (0 : Int32) then
            (nar .boolean (1 : Int32))
          else
            (nar .boolean (0 : Int32))
        else
          if (F5 (3 : Int32) (own_off x0) (own_len x0 x1) (own_cs x2)) = (0 : Int32) then
            if (F6  (own_off x0) (own_len x0 x1) (own_cs x2)) = (0 : Int32) then
              (nar .boolean (1 : Int32))
            else
              (nar .boolean (0 : Int32))
          else
            if (F5 (4 : Int32) (own_off x0) (own_len x0 x1) (own_cs x2)) = (0 : Int32) then
              if (F6  (own_off x0) (own_len x0 x1) (own_cs x2)) = (0 : Int32) then
                (nar .boolean (1 : Int32))
              else
                (nar .boolean (0 : Int32))
            else
              if (F6  (own_off x0) (own_len x0 x1) (own_cs x2)) = (1 : Int32) then
                (nar .boolean (1 : Int32))
              else
                (nar .boolean (0 : Int32))
theorem ef_0_IIJI (m : MethodId) (x0 : Int32) (x1 : Int32) (x2 : Int64) (x3 : Int32) : entryFrame m #[(.int x0), (.int x1), (.long x2), (.int x3)] maxLocals = mkF m 0 #[.val (.int x0), .val (.int x1), .val (.long x2), .second, .val (.int x3), .unset, .unset, .unset, .unset, .unset] [] := by
  first | (simp [entryFrame, mkF, argsToLocals, Value.category, maxLocals]; done) | rfl
set_option maxRecDepth 65536 in
set_option maxHeartbeats 40000000 in
theorem rm0 (l : Launch) (Z : State) (a0 : Array Value) (hw : ∀ d ∈ tables_1, d.before a0 Z = true) (ws : List Jvm.Cond) (x0 : Int32) (x1 : Int32) (x2 : Int64) (x3 : Int32) (kz : Addr) (h0 : Heap) (n0 : Nat) (Z0 : n0 ≤ h0.size) (St : Sta Z h0 "com/example/davka/davka/layout/FieldKind" "TEXT" "Lcom/example/davka/davka/layout/FieldKind;" (.ref kz)) :
    MetFree l x (head1 (Jvm.Cond.code x code maxLocals ret :: ws) room_1) (fun a U => a = #[(.int x0), (.int x1), (.long x2), (.int x3)] ∧ Z.Warmed39 U.vm ∧ U.heap = h0) (fun _ _ _ _ _ => True) (fun _ U o U' => ∃ v L, o = .returned v ∧ QL (some (.int (F0 x0 x1 x2 x3))) n0 v U'.heap L ∧ ReturnedEndW U o U' L 16 1152) := by
  refine MetFree.of_bodySF (plainFor_of_name own_pn0) hisR ?_
  intro p e s m args below meth c s₁ Bd hml0 hP hK
  obtain ⟨rfl, hZ, hh⟩ := hP
  have hx := Bd.exec
  have hby := Bd.bytes
  have hml : c.maxLocals = 10 := hml0
  have hown : s.vm.findClass "com/example/davka/davka/layout/FieldIsBlankInPinLaw" = some m.cls := findClass_of_methodNamed Bd.named
  have hnm := (name_of_methodNamed Bd.named Bd.method).1
  have X0 : Stand p l e room_1 s m #[(.int x0), (.int x1), (.long x2), (.int x3)] below meth c s₁ [] 0 0 := Stand.of_body Bd
  have e0 : s₁.heap = h0 := by rw [← hh, Bd.state]; rfl
  show own_G p.tables e below (fun o U' => ∃ v L, o = .returned v ∧ QL (some (.int (F0 x0 x1 x2 x3))) n0 v U'.heap L ∧ ReturnedEndW s o U' L 16 1152) (s₁.setTop (entryFrame m #[(.int x0), (.int x1), (.long x2), (.int x3)] maxLocals))
  refine own_go (fun _ k => castTop (ef_0_IIJI m x0 x1 x2 x3) k) ?_
  have N0 := Fr.nil n0
  have hS : s.Since s.vm h0.size := (State.WarmedH.refl s).since _
  have hk : h0.size ≤ h0.size := Nat.le_refl _
  have own_sA : ∀ a ∈ Bundle.stringAtoms, a.before a0 Z = true := own_strA hw
  have hoff := own_off_nn x0
  have hto := own_to_le x0 x1
  show own_G p.tables e below _ (s₁.setTop (mkF m 0 #[.val (.int x0), .val (.int x1), .val (.long x2), .second, .val (.int x3), .unset, .unset, .unset, .unset, .unset] []))
  refine own_go (fun _ k => XS.iloadN X0.here hx rfl (hb hby at_0) rfl k) ?_
  show own_G p.tables e below _ (s₁.setTop (mkF m 1 #[.val (.int x0), .val (.int x1), .val (.long x2), .second, .val (.int x3), .unset, .unset, .unset, .unset, .unset] [(.int x0)]))
  refine own_go (fun _ k => X0.ldcInt hx hown (mvT hZ (hw _ (List.mem_of_getElem? (i := 0) rfl))) (g := (mkF m 1 #[.val (.int x0), .val (.int x1), .val (.long x2), .second, .val (.int x3), .unset, .unset, .unset, .unset, .unset] [(.int x0)])) rfl (hb hby at_1) _ k) ?_
  show own_G p.tables e below _ (s₁.setTop (mkF m 3 #[.val (.int x0), .val (.int x1), .val (.long x2), .second, .val (.int x3), .unset, .unset, .unset, .unset, .unset] [(.int (2147483647 : Int32)), (.int x0)]))
  refine own_go (fun _ k => XS.iand X0.here hx rfl (hb hby at_3) rfl k) ?_
  show own_G p.tables e below _ (s₁.setTop (mkF m 4 #[.val (.int x0), .val (.int x1), .val (.long x2), .second, .val (.int x3), .unset, .unset, .unset, .unset, .unset] [(.int (x0 &&& (2147483647 : Int32)))]))
  refine own_go (fun _ k => XS.bipush X0.here hx rfl (hb hby at_4) k) ?_
  show own_G p.tables e below _ (s₁.setTop (mkF m 6 #[.val (.int x0), .val (.int x1), .val (.long x2), .second, .val (.int x3), .unset, .unset, .unset, .unset, .unset] [(.int (6 : Int32)), (.int (x0 &&& (2147483647 : Int32)))]))
  refine own_go (fun _ k => iremM X0 hx rfl (hb hby at_6) rfl (by decide) k) ?_
  show own_G p.tables e below _ (s₁.setTop (mkF m 7 #[.val (.int x0), .val (.int x1), .val (.long x2), .second, .val (.int x3), .unset, .unset, .unset, .unset, .unset] [(.int ((x0 &&& (2147483647 : Int32)) % (6 : Int32)))]))
  refine own_go (fun _ k => XS.istore X0.here hx rfl (hb hby at_7) rfl (l' := #[.val (.int x0), .val (.int x1), .val (.long x2), .second, .val (.int x3), .val (.int (own_off x0)), .unset, .unset, .unset, .unset]) rfl k) ?_
  show own_G p.tables e below _ (s₁.setTop (mkF m 9 #[.val (.int x0), .val (.int x1), .val (.long x2), .second, .val (.int x3), .val (.int (own_off x0)), .unset, .unset, .unset, .unset] []))
  refine own_go (fun _ k => XS.iloadN X0.here hx rfl (hb hby at_9) rfl k) ?_
  show own_G p.tables e below _ (s₁.setTop (mkF m 10 #[.val (.int x0), .val (.int x1), .val (.long x2), .second, .val (.int x3), .val (.int (own_off x0)), .unset, .unset, .unset, .unset] [(.int x1)]))
  refine own_go (fun _ k => X0.ldcInt hx hown (mvT hZ (hw _ (List.mem_of_getElem? (i := 0) rfl))) (g := (mkF m 10 #[.val (.int x0), .val (.int x1), .val (.long x2), .second, .val (.int x3), .val (.int (own_off x0)), .unset, .unset, .unset, .unset] [(.int x1)])) rfl (hb hby at_10) _ k) ?_
  show own_G p.tables e below _ (s₁.setTop (mkF m 12 #[.val (.int x0), .val (.int x1), .val (.long x2), .second, .val (.int x3), .val (.int (own_off x0)), .unset, .unset, .unset, .unset] [(.int (2147483647 : Int32)), (.int x1)]))
  refine own_go (fun _ k => XS.iand X0.here hx rfl (hb hby at_12) rfl k) ?_
  show own_G p.tables e below _ (s₁.setTop (mkF m 13 #[.val (.int x0), .val (.int x1), .val (.long x2), .second, .val (.int x3), .val (.int (own_off x0)), .unset, .unset, .unset, .unset] [(.int (x1 &&& (2147483647 : Int32)))]))
  refine own_go (fun _ k => XS.bipush X0.here hx rfl (hb hby at_13) k) ?_
  show own_G p.tables e below _ (s₁.setTop (mkF m 15 #[.val (.int x0), .val (.int x1), .val (.long x2), .second, .val (.int x3), .val (.int (own_off x0)), .unset, .unset, .unset, .unset] [(.int (6 : Int32)), (.int (x1 &&& (2147483647 : Int32)))]))
  refine own_go (fun _ k => XS.iload X0.here hx rfl (hb hby at_15) rfl k) ?_
  show own_G p.tables e below _ (s₁.setTop (mkF m 17 #[.val (.int x0), .val (.int x1), .val (.long x2), .second, .val (.int x3), .val (.int (own_off x0)), .unset, .unset, .unset, .unset] [(.int (own_off x0)), (.int (6 : Int32)), (.int (x1 &&& (2147483647 : Int32)))]))
  refine own_go (fun _ k => XS.isub X0.here hx rfl (hb hby at_17) rfl k) ?_
  show own_G p.tables e below _ (s₁.setTop (mkF m 18 #[.val (.int x0), .val (.int x1), .val (.long x2), .second, .val (.int x3), .val (.int (own_off x0)), .unset, .unset, .unset, .unset] [(.int ((6 : Int32) - (own_off x0))), (.int (x1 &&& (2147483647 : Int32)))]))
  refine own_go (fun _ k => iremM X0 hx rfl (hb hby at_18) rfl (own_nz x0) k) ?_
  show own_G p.tables e below _ (s₁.setTop (mkF m 19 #[.val (.int x0), .val (.int x1), .val (.long x2), .second, .val (.int x3), .val (.int (own_off x0)), .unset, .unset, .unset, .unset] [(.int ((x1 &&& (2147483647 : Int32)) % ((6 : Int32) - (own_off x0))))]))
  refine own_go (fun _ k => XS.istore X0.here hx rfl (hb hby at_19) rfl (l' := #[.val (.int x0), .val (.int x1), .val (.long x2), .second, .val (.int x3), .val (.int (own_off x0)), .val (.int (own_len x0 x1)), .unset, .unset, .unset]) rfl k) ?_
  show own_G p.tables e below _ (s₁.setTop (mkF m 21 #[.val (.int x0), .val (.int x1), .val (.long x2), .second, .val (.int x3), .val (.int (own_off x0)), .val (.int (own_len x0 x1)), .unset, .unset, .unset] []))
  refine own_go (fun _ k => XS.iconst X0.here hx rfl (hb hby at_21) k) ?_
  show own_G p.tables e below _ (s₁.setTop (mkF m 22 #[.val (.int x0), .val (.int x1), .val (.long x2), .second, .val (.int x3), .val (.int (own_off x0)), .val (.int (own_len x0 x1)), .unset, .unset, .unset] [(.int (5 : Int32))]))
  obtain ⟨T81, h81, k81, X81, e81, E81, A81, st81⟩ := newP X0 hx hZ (hw _ (List.mem_of_getElem? (i := 1) rfl)) e0 (g := (mkF m 22 #[.val (.int x0), .val (.int x1), .val (.long x2), .second, .val (.int x3), .val (.int (own_off x0)), .val (.int (own_len x0 x1)), .unset, .unset, .unset] [(.int (5 : Int32))])) rfl (hb hby at_22) rfl (by decide) (cap := 5) (by decide) (by decide) (by decide) (by decide)
  obtain ⟨b81, g81⟩ : ∃ z, z = h0.size := ⟨_, rfl⟩
  rw [← g81] at A81 st81
  have ge_82 : n0 ≤ b81 := Nat.le_trans Z0 (Nat.le_of_eq g81.symm)
  have S_83 := St.ext E81
  have Z_84 : n0 ≤ h81.size := Nat.le_trans Z0 E81.1
  have hk_85 := Nat.le_trans hk E81.1
  have V81 : Arv Z h81 b81 k81 .char (5 : Int32) [(.int (0 : Int32)), (.int (0 : Int32)), (.int (0 : Int32)), (.int (0 : Int32)), (.int (0 : Int32))] (.int (0 : Int32)) := (Arv.new A81 (by decide)).pad (pad_rep [] (.int (0 : Int32)) 5)
  refine own_go st81 ?_
  show own_G p.tables e below _ (T81.setTop (mkF m 24 #[.val (.int x0), .val (.int x1), .val (.long x2), .second, .val (.int x3), .val (.int (own_off x0)), .val (.int (own_len x0 x1)), .unset, .unset, .unset] [(.ref b81)]))
  refine own_go (fun _ k => XS.astore X81.here hx rfl (hb hby at_24) rfl rfl (l' := #[.val (.int x0), .val (.int x1), .val (.long x2), .second, .val (.int x3), .val (.int (own_off x0)), .val (.int (own_len x0 x1)), .val (.ref b81), .unset, .unset]) rfl k) ?_
  show own_G p.tables e below _ (T81.setTop (mkF m 26 #[.val (.int x0), .val (.int x1), .val (.long x2), .second, .val (.int x3), .val (.int (own_off x0)), .val (.int (own_len x0 x1)), .val (.ref b81), .unset, .unset] []))
  refine own_go (fun _ k => XS.aload X81.here hx rfl (hb hby at_26) rfl rfl k) ?_
  show own_G p.tables e below _ (T81.setTop (mkF m 28 #[.val (.int x0), .val (.int x1), .val (.long x2), .second, .val (.int x3), .val (.int (own_off x0)), .val (.int (own_len x0 x1)), .val (.ref b81), .unset, .unset] [(.ref b81)]))
  refine own_go (fun _ k => XS.iconst X81.here hx rfl (hb hby at_28) k) ?_
  show own_G p.tables e below _ (T81.setTop (mkF m 29 #[.val (.int x0), .val (.int x1), .val (.long x2), .second, .val (.int x3), .val (.int (own_off x0)), .val (.int (own_len x0 x1)), .val (.ref b81), .unset, .unset] [(.int (0 : Int32)), (.ref b81)]))
  refine own_go (fun _ k => XS.lloadN X81.here hx rfl (hb hby at_29) rfl k) ?_
  show own_G p.tables e below _ (T81.setTop (mkF m 30 #[.val (.int x0), .val (.int x1), .val (.long x2), .second, .val (.int x3), .val (.int (own_off x0)), .val (.int (own_len x0 x1)), .val (.ref b81), .unset, .unset] [(.long x2), (.int (0 : Int32)), (.ref b81)]))
  refine own_go (fun _ k => XS.iconst X81.here hx rfl (hb hby at_30) k) ?_
  show own_G p.tables e below _ (T81.setTop (mkF m 31 #[.val (.int x0), .val (.int x1), .val (.long x2), .second, .val (.int x3), .val (.int (own_off x0)), .val (.int (own_len x0 x1)), .val (.ref b81), .unset, .unset] [(.int (0 : Int32)), (.long x2), (.int (0 : Int32)), (.ref b81)]))
  obtain ⟨T86, X86, e86, st86⟩ := own_callP X81 hx hZ (y := (⟨"com/example/davka/davka/layout/FieldIsBlankInPinLaw", "ch", "(JI)C"⟩ : MethodName)) hown (hw _ (List.mem_of_getElem? (i := 2) rfl)) (hw _ (List.mem_of_getElem? (i := 3) rfl)) (hw _ (List.mem_of_getElem? (i := 4) rfl)) (hw _ (List.mem_of_getElem? (i := 5) rfl)) (by decide) (W := 2) (rm1 l Z a0 hw [] x2 (0 : Int32)  h81 ) (by decide) (by decide) rfl rfl e81 (g := (mkF m 31 #[.val (.int x0), .val (.int x1), .val (.long x2), .second, .val (.int x3), .val (.int (own_off x0)), .val (.int (own_len x0 x1)), .val (.ref b81), .unset, .unset] [(.int (0 : Int32)), (.long x2), (.int (0 : Int32)), (.ref b81)])) rfl (by rw [hml]; rfl) (argsL := [(.long x2), (.int (0 : Int32))]) (rest := [(.int (0 : Int32)), (.ref b81)]) (lenOf own_pd1 rfl) rfl rfl (by show 2 * 0 + _ ≤ _; exact Nat.le_of_eq rfl) (hb hby at_31) (by decide) (by decide)
  refine own_go st86 ?_
  show own_G p.tables e below _ (T86.setTop (mkF m 34 #[.val (.int x0), .val (.int x1), .val (.long x2), .second, .val (.int x3), .val (.int (own_off x0)), .val (.int (own_len x0 x1)), .val (.ref b81), .unset, .unset] [(.int (F1 x2 (0 : Int32))), (.int (0 : Int32)), (.ref b81)]))
  obtain ⟨cl87, Ar87, q87, S87, N87, H87, G87⟩ := id V81
  obtain ⟨T87, h87, X87, e87, W87, st87⟩ := stC X86 hx hZ e86 Ar87 (j := (0 : Int32)) (inb_of S87 ⟨by decide, by decide⟩) (g := (mkF m 34 #[.val (.int x0), .val (.int x1), .val (.long x2), .second, .val (.int x3), .val (.int (own_off x0)), .val (.int (own_len x0 x1)), .val (.ref b81), .unset, .unset] [(.int (F1 x2 (0 : Int32))), (.int (0 : Int32)), (.ref b81)])) rfl rfl (hb hby at_34)
  have S_88 := S_83.wr W87
  have V87 : Arv Z h87 b81 k81 .char (5 : Int32) [(.int (nar .char (F1 x2 (0 : Int32)))), (.int (0 : Int32)), (.int (0 : Int32)), (.int (0 : Int32)), (.int (0 : Int32))] (.int (0 : Int32)) := Arv.set Ar87 q87 S87 N87 H87 G87 (fits_nar_char _) W87 0 rfl (Nat.le_of_ble_eq_true rfl)
  have Z_89 : n0 ≤ h87.size := Nat.le_trans Z_84 (Nat.le_of_eq W87.size.symm)
  have hk_90 := Nat.le_trans hk_85 (Nat.le_of_eq W87.size.symm)
  have N_87 := Fr.snoc X87 N0 ge_82
  refine own_go st87 ?_
  show own_G p.tables e below _ (T87.setTop (mkF m 35 #[.val (.int x0), .val (.int x1), .val (.long x2), .second, .val (.int x3), .val (.int (own_off x0)), .val (.int (own_len x0 x1)), .val (.ref b81), .unset, .unset] []))
  refine own_go (fun _ k => XS.aload X87.here hx rfl (hb hby at_35) rfl rfl k) ?_
  show own_G p.tables e below _ (T87.setTop (mkF m 37 #[.val (.int x0), .val (.int x1), .val (.long x2), .second, .val (.int x3), .val (.int (own_off x0)), .val (.int (own_len x0 x1)), .val (.ref b81), .unset, .unset] [(.ref b81)]))
  refine own_go (fun _ k => XS.iconst X87.here hx rfl (hb hby at_37) k) ?_
  show own_G p.tables e below _ (T87.setTop (mkF m 38 #[.val (.int x0), .val (.int x1), .val (.long x2), .second, .val (.int x3), .val (.int (own_off x0)), .val (.int (own_len x0 x1)), .val (.ref b81), .unset, .unset] [(.int (1 : Int32)), (.ref b81)]))
  refine own_go (fun _ k => XS.lloadN X87.here hx rfl (hb hby at_38) rfl k) ?_
  show own_G p.tables e below _ (T87.setTop (mkF m 39 #[.val (.int x0), .val (.int x1), .val (.long x2), .second, .val (.int x3), .val (.int (own_off x0)), .val (.int (own_len x0 x1)), .val (.ref b81), .unset, .unset] [(.long x2), (.int (1 : Int32)), (.ref b81)]))
  refine own_go (fun _ k => XS.bipush X87.here hx rfl (hb hby at_39) k) ?_
  show own_G p.tables e below _ (T87.setTop (mkF m 41 #[.val (.int x0), .val (.int x1), .val (.long x2), .second, .val (.int x3), .val (.int (own_off x0)), .val (.int (own_len x0 x1)), .val (.ref b81), .unset, .unset] [(.int (9 : Int32)), (.long x2), (.int (1 : Int32)), (.ref b81)]))
  obtain ⟨T91, X91, e91, st91⟩ := own_callP X87 hx hZ (y := (⟨"com/example/davka/davka/layout/FieldIsBlankInPinLaw", "ch", "(JI)C"⟩ : MethodName)) hown (hw _ (List.mem_of_getElem? (i := 2) rfl)) (hw _ (List.mem_of_getElem? (i := 3) rfl)) (hw _ (List.mem_of_getElem? (i := 4) rfl)) (hw _ (List.mem_of_getElem? (i := 5) rfl)) (by decide) (W := 2) (rm1 l Z a0 hw [] x2 (9 : Int32)  h87 ) (by decide) (by decide) rfl rfl e87 (g := (mkF m 41 #[.val (.int x0), .val (.int x1), .val (.long x2), .second, .val (.int x3), .val (.int (own_off x0)), .val (.int (own_len x0 x1)), .val (.ref b81), .unset, .unset] [(.int (9 : Int32)), (.long x2), (.int (1 : Int32)), (.ref b81)])) rfl (by rw [hml]; rfl) (argsL := [(.long x2), (.int (9 : Int32))]) (rest := [(.int (1 : Int32)), (.ref b81)]) (lenOf own_pd1 rfl) rfl rfl (by show 2 * 0 + _ ≤ _; exact Nat.le_of_eq rfl) (hb hby at_41) (by decide) (by decide)
  refine own_go st91 ?_
  show own_G p.tables e below _ (T91.setTop (mkF m 44 #[.val (.int x0), .val (.int x1), .val (.long x2), .second, .val (.int x3), .val (.int (own_off x0)), .val (.int (own_len x0 x1)), .val (.ref b81), .unset, .unset] [(.int (F1 x2 (9 : Int32))), (.int (1 : Int32)), (.ref b81)]))
  obtain ⟨cl92, Ar92, q92, S92, N92, H92, G92⟩ := id V87
  obtain ⟨T92, h92, X92, e92, W92, st92⟩ := stC X91 hx hZ e91 Ar92 (j := (1 : Int32)) (inb_of S92 ⟨by decide, by decide⟩) (g := (mkF m 44 #[.val (.int x0), .val (.int x1), .val (.long x2), .second, .val (.int x3), .val (.int (own_off x0)), .val (.int (own_len x0 x1)), .val (.ref b81), .unset, .unset] [(.int (F1 x2 (9 : Int32))), (.int (1 : Int32)), (.ref b81)])) rfl rfl (hb hby at_44)
  have S_93 := S_88.wr W92
  have V92 : Arv Z h92 b81 k81 .char (5 : Int32) [(.int (nar .char (F1 x2 (0 : Int32)))), (.int (nar .char (F1 x2 (9 : Int32)))), (.int (0 : Int32)), (.int (0 : Int32)), (.int (0 : Int32))] (.int (0 : Int32)) := Arv.set Ar92 q92 S92 N92 H92 G92 (fits_nar_char _) W92 1 rfl (Nat.le_of_ble_eq_true rfl)
  have Z_94 : n0 ≤ h92.size := Nat.le_trans Z_89 (Nat.le_of_eq W92.size.symm)
  have hk_95 := Nat.le_trans hk_90 (Nat.le_of_eq W92.size.symm)
  have N_92 := Fr.snoc X92 N_87 ge_82
  refine own_go st92 ?_
  show own_G p.tables e below _ (T92.setTop (mkF m 45 #[.val (.int x0), .val (.int x1), .val (.long x2), .second, .val (.int x3), .val (.int (own_off x0)), .val (.int (own_len x0 x1)), .val (.ref b81), .unset, .unset] []))
  refine own_go (fun _ k => XS.aload X92.here hx rfl (hb hby at_45) rfl rfl k) ?_
  show own_G p.tables e below _ (T92.setTop (mkF m 47 #[.val (.int x0), .val (.int x1), .val (.long x2), .second, .val (.int x3), .val (.int (own_off x0)), .val (.int (own_len x0 x1)), .val (.ref b81), .unset, .unset] [(.ref b81)]))
  refine own_go (fun _ k => XS.iconst X92.here hx rfl (hb hby at_47) k) ?_
  show own_G p.tables e below _ (T92.setTop (mkF m 48 #[.val (.int x0), .val (.int x1), .val (.long x2), .second, .val (.int x3), .val (.int (own_off x0)), .val (.int (own_len x0 x1)), .val (.ref b81), .unset, .unset] [(.int (2 : Int32)), (.ref b81)]))
  refine own_go (fun _ k => XS.lloadN X92.here hx rfl (hb hby at_48) rfl k) ?_
  show own_G p.tables e below _ (T92.setTop (mkF m 49 #[.val (.int x0), .val (.int x1), .val (.long x2), .second, .val (.int x3), .val (.int (own_off x0)), .val (.int (own_len x0 x1)), .val (.ref b81), .unset, .unset] [(.long x2), (.int (2 : Int32)), (.ref b81)]))
  refine own_go (fun _ k => XS.bipush X92.here hx rfl (hb hby at_49) k) ?_
  show own_G p.tables e below _ (T92.setTop (mkF m 51 #[.val (.int x0), .val (.int x1), .val (.long x2), .second, .val (.int x3), .val (.int (own_off x0)), .val (.int (own_len x0 x1)), .val (.ref b81), .unset, .unset] [(.int (18 : Int32)), (.long x2), (.int (2 : Int32)), (.ref b81)]))
  obtain ⟨T96, X96, e96, st96⟩ := own_callP X92 hx hZ (y := (⟨"com/example/davka/davka/layout/FieldIsBlankInPinLaw", "ch", "(JI)C"⟩ : MethodName)) hown (hw _ (List.mem_of_getElem? (i := 2) rfl)) (hw _ (List.mem_of_getElem? (i := 3) rfl)) (hw _ (List.mem_of_getElem? (i := 4) rfl)) (hw _ (List.mem_of_getElem? (i := 5) rfl)) (by decide) (W := 2) (rm1 l Z a0 hw [] x2 (18 : Int32)  h92 ) (by decide) (by decide) rfl rfl e92 (g := (mkF m 51 #[.val (.int x0), .val (.int x1), .val (.long x2), .second, .val (.int x3), .val (.int (own_off x0)), .val (.int (own_len x0 x1)), .val (.ref b81), .unset, .unset] [(.int (18 : Int32)), (.long x2), (.int (2 : Int32)), (.ref b81)])) rfl (by rw [hml]; rfl) (argsL := [(.long x2), (.int (18 : Int32))]) (rest := [(.int (2 : Int32)), (.ref b81)]) (lenOf own_pd1 rfl) rfl rfl (by show 2 * 0 + _ ≤ _; exact Nat.le_of_eq rfl) (hb hby at_51) (by decide) (by decide)
  refine own_go st96 ?_
  show own_G p.tables e below _ (T96.setTop (mkF m 54 #[.val (.int x0), .val (.int x1), .val (.long x2), .second, .val (.int x3), .val (.int (own_off x0)), .val (.int (own_len x0 x1)), .val (.ref b81), .unset, .unset] [(.int (F1 x2 (18 : Int32))), (.int (2 : Int32)), (.ref b81)]))
  obtain ⟨cl97, Ar97, q97, S97, N97, H97, G97⟩ := id V92
  obtain ⟨T97, h97, X97, e97, W97, st97⟩ := stC X96 hx hZ e96 Ar97 (j := (2 : Int32)) (inb_of S97 ⟨by decide, by decide⟩) (g := (mkF m 54 #[.val (.int x0), .val (.int x1), .val (.long x2), .second, .val (.int x3), .val (.int (own_off x0)), .val (.int (own_len x0 x1)), .val (.ref b81), .unset, .unset] [(.int (F1 x2 (18 : Int32))), (.int (2 : Int32)), (.ref b81)])) rfl rfl (hb hby at_54)
  have S_98 := S_93.wr W97
  have V97 : Arv Z h97 b81 k81 .char (5 : Int32) [(.int (nar .char (F1 x2 (0 : Int32)))), (.int (nar .char (F1 x2 (9 : Int32)))), (.int (nar .char (F1 x2 (18 : Int32)))), (.int (0 : Int32)), (.int (0 : Int32))] (.int (0 : Int32)) := Arv.set Ar97 q97 S97 N97 H97 G97 (fits_nar_char _) W97 2 rfl (Nat.le_of_ble_eq_true rfl)
  have Z_99 : n0 ≤ h97.size := Nat.le_trans Z_94 (Nat.le_of_eq W97.size.symm)
  have hk_100 := Nat.le_trans hk_95 (Nat.le_of_eq W97.size.symm)
  have N_97 := Fr.snoc X97 N_92 ge_82
  refine own_go st97 ?_
  show own_G p.tables e below _ (T97.setTop (mkF m 55 #[.val (.int x0), .val (.int x1), .val (.long x2), .second, .val (.int x3), .val (.int (own_off x0)), .val (.int (own_len x0 x1)), .val (.ref b81), .unset, .unset] []))
  refine own_go (fun _ k => XS.aload X97.here hx rfl (hb hby at_55) rfl rfl k) ?_
  show own_G p.tables e below _ (T97.setTop (mkF m 57 #[.val (.int x0), .val (.int x1), .val (.long x2), .second, .val (.int x3), .val (.int (own_off x0)), .val (.int (own_len x0 x1)), .val (.ref b81), .unset, .unset] [(.ref b81)]))
  refine own_go (fun _ k => XS.iconst X97.here hx rfl (hb hby at_57) k) ?_
  show own_G p.tables e below _ (T97.setTop (mkF m 58 #[.val (.int x0), .val (.int x1), .val (.long x2), .second, .val (.int x3), .val (.int (own_off x0)), .val (.int (own_len x0 x1)), .val (.ref b81), .unset, .unset] [(.int (3 : Int32)), (.ref b81)]))
  refine own_go (fun _ k => XS.lloadN X97.here hx rfl (hb hby at_58) rfl k) ?_
  show own_G p.tables e below _ (T97.setTop (mkF m 59 #[.val (.int x0), .val (.int x1), .val (.long x2), .second, .val (.int x3), .val (.int (own_off x0)), .val (.int (own_len x0 x1)), .val (.ref b81), .unset, .unset] [(.long x2), (.int (3 : Int32)), (.ref b81)]))
  refine own_go (fun _ k => XS.bipush X97.here hx rfl (hb hby at_59) k) ?_
  show own_G p.tables e below _ (T97.setTop (mkF m 61 #[.val (.int x0), .val (.int x1), .val (.long x2), .second, .val (.int x3), .val (.int (own_off x0)), .val (.int (own_len x0 x1)), .val (.ref b81), .unset, .unset] [(.int (27 : Int32)), (.long x2), (.int (3 : Int32)), (.ref b81)]))
  obtain ⟨T101, X101, e101, st101⟩ := own_callP X97 hx hZ (y := (⟨"com/example/davka/davka/layout/FieldIsBlankInPinLaw", "ch", "(JI)C"⟩ : MethodName)) hown (hw _ (List.mem_of_getElem? (i := 2) rfl)) (hw _ (List.mem_of_getElem? (i := 3) rfl)) (hw _ (List.mem_of_getElem? (i := 4) rfl)) (hw _ (List.mem_of_getElem? (i := 5) rfl)) (by decide) (W := 2) (rm1 l Z a0 hw [] x2 (27 : Int32)  h97 ) (by decide) (by decide) rfl rfl e97 (g := (mkF m 61 #[.val (.int x0), .val (.int x1), .val (.long x2), .second, .val (.int x3), .val (.int (own_off x0)), .val (.int (own_len x0 x1)), .val (.ref b81), .unset, .unset] [(.int (27 : Int32)), (.long x2), (.int (3 : Int32)), (.ref b81)])) rfl (by rw [hml]; rfl) (argsL := [(.long x2), (.int (27 : Int32))]) (rest := [(.int (3 : Int32)), (.ref b81)]) (lenOf own_pd1 rfl) rfl rfl (by show 2 * 0 + _ ≤ _; exact Nat.le_of_eq rfl) (hb hby at_61) (by decide) (by decide)
  refine own_go st101 ?_
  show own_G p.tables e below _ (T101.setTop (mkF m 64 #[.val (.int x0), .val (.int x1), .val (.long x2), .second, .val (.int x3), .val (.int (own_off x0)), .val (.int (own_len x0 x1)), .val (.ref b81), .unset, .unset] [(.int (F1 x2 (27 : Int32))), (.int (3 : Int32)), (.ref b81)]))
  obtain ⟨cl102, Ar102, q102, S102, N102, H102, G102⟩ := id V97
  obtain ⟨T102, h102, X102, e102, W102, st102⟩ := stC X101 hx hZ e101 Ar102 (j := (3 : Int32)) (inb_of S102 ⟨by decide, by decide⟩) (g := (mkF m 64 #[.val (.int x0), .val (.int x1), .val (.long x2), .second, .val (.int x3), .val (.int (own_off x0)), .val (.int (own_len x0 x1)), .val (.ref b81), .unset, .unset] [(.int (F1 x2 (27 : Int32))), (.int (3 : Int32)), (.ref b81)])) rfl rfl (hb hby at_64)
  have S_103 := S_98.wr W102
  have V102 : Arv Z h102 b81 k81 .char (5 : Int32) [(.int (nar .char (F1 x2 (0 : Int32)))), (.int (nar .char (F1 x2 (9 : Int32)))), (.int (nar .char (F1 x2 (18 : Int32)))), (.int (nar .char (F1 x2 (27 : Int32)))), (.int (0 : Int32))] (.int (0 : Int32)) := Arv.set Ar102 q102 S102 N102 H102 G102 (fits_nar_char _) W102 3 rfl (Nat.le_of_ble_eq_true rfl)
  have Z_104 : n0 ≤ h102.size := Nat.le_trans Z_99 (Nat.le_of_eq W102.size.symm)
  have hk_105 := Nat.le_trans hk_100 (Nat.le_of_eq W102.size.symm)
  have N_102 := Fr.snoc X102 N_97 ge_82
  refine own_go st102 ?_
  show own_G p.tables e below _ (T102.setTop (mkF m 65 #[.val (.int x0), .val (.int x1), .val (.long x2), .second, .val (.int x3), .val (.int (own_off x0)), .val (.int (own_len x0 x1)), .val (.ref b81), .unset, .unset] []))
  refine own_go (fun _ k => XS.aload X102.here hx rfl (hb hby at_65) rfl rfl k) ?_
  show own_G p.tables e below _ (T102.setTop (mkF m 67 #[.val (.int x0), .val (.int x1), .val (.long x2), .second, .val (.int x3), .val (.int (own_off x0)), .val (.int (own_len x0 x1)), .val (.ref b81), .unset, .unset] [(.ref b81)]))
  refine own_go (fun _ k => XS.iconst X102.here hx rfl (hb hby at_67) k) ?_
  show own_G p.tables e below _ (T102.setTop (mkF m 68 #[.val (.int x0), .val (.int x1), .val (.long x2), .second, .val (.int x3), .val (.int (own_off x0)), .val (.int (own_len x0 x1)), .val (.ref b81), .unset, .unset] [(.int (4 : Int32)), (.ref b81)]))
  refine own_go (fun _ k => XS.lloadN X102.here hx rfl (hb hby at_68) rfl k) ?_
  show own_G p.tables e below _ (T102.setTop (mkF m 69 #[.val (.int x0), .val (.int x1), .val (.long x2), .second, .val (.int x3), .val (.int (own_off x0)), .val (.int (own_len x0 x1)), .val (.ref b81), .unset, .unset] [(.long x2), (.int (4 : Int32)), (.ref b81)]))
  refine own_go (fun _ k => XS.bipush X102.here hx rfl (hb hby at_69) k) ?_
  show own_G p.tables e below _ (T102.setTop (mkF m 71 #[.val (.int x0), .val (.int x1), .val (.long x2), .second, .val (.int x3), .val (.int (own_off x0)), .val (.int (own_len x0 x1)), .val (.ref b81), .unset, .unset] [(.int (36 : Int32)), (.long x2), (.int (4 : Int32)), (.ref b81)]))
  obtain ⟨T106, X106, e106, st106⟩ := own_callP X102 hx hZ (y := (⟨"com/example/davka/davka/layout/FieldIsBlankInPinLaw", "ch", "(JI)C"⟩ : MethodName)) hown (hw _ (List.mem_of_getElem? (i := 2) rfl)) (hw _ (List.mem_of_getElem? (i := 3) rfl)) (hw _ (List.mem_of_getElem? (i := 4) rfl)) (hw _ (List.mem_of_getElem? (i := 5) rfl)) (by decide) (W := 2) (rm1 l Z a0 hw [] x2 (36 : Int32)  h102 ) (by decide) (by decide) rfl rfl e102 (g := (mkF m 71 #[.val (.int x0), .val (.int x1), .val (.long x2), .second, .val (.int x3), .val (.int (own_off x0)), .val (.int (own_len x0 x1)), .val (.ref b81), .unset, .unset] [(.int (36 : Int32)), (.long x2), (.int (4 : Int32)), (.ref b81)])) rfl (by rw [hml]; rfl) (argsL := [(.long x2), (.int (36 : Int32))]) (rest := [(.int (4 : Int32)), (.ref b81)]) (lenOf own_pd1 rfl) rfl rfl (by show 2 * 0 + _ ≤ _; exact Nat.le_of_eq rfl) (hb hby at_71) (by decide) (by decide)
  refine own_go st106 ?_
  show own_G p.tables e below _ (T106.setTop (mkF m 74 #[.val (.int x0), .val (.int x1), .val (.long x2), .second, .val (.int x3), .val (.int (own_off x0)), .val (.int (own_len x0 x1)), .val (.ref b81), .unset, .unset] [(.int (F1 x2 (36 : Int32))), (.int (4 : Int32)), (.ref b81)]))
  obtain ⟨cl107, Ar107, q107, S107, N107, H107, G107⟩ := id V102
  obtain ⟨T107, h107, X107, e107, W107, st107⟩ := stC X106 hx hZ e106 Ar107 (j := (4 : Int32)) (inb_of S107 ⟨by decide, by decide⟩) (g := (mkF m 74 #[.val (.int x0), .val (.int x1), .val (.long x2), .second, .val (.int x3), .val (.int (own_off x0)), .val (.int (own_len x0 x1)), .val (.ref b81), .unset, .unset] [(.int (F1 x2 (36 : Int32))), (.int (4 : Int32)), (.ref b81)])) rfl rfl (hb hby at_74)
  have S_108 := S_103.wr W107
  have V107 : Arv Z h107 b81 k81 .char (5 : Int32) [(.int (nar .char (F1 x2 (0 : Int32)))), (.int (nar .char (F1 x2 (9 : Int32)))), (.int (nar .char (F1 x2 (18 : Int32)))), (.int (nar .char (F1 x2 (27 : Int32)))), (.int (nar .char (F1 x2 (36 : Int32))))] (.int (0 : Int32)) := Arv.set Ar107 q107 S107 N107 H107 G107 (fits_nar_char _) W107 4 rfl (Nat.le_of_ble_eq_true rfl)
  have Z_109 : n0 ≤ h107.size := Nat.le_trans Z_104 (Nat.le_of_eq W107.size.symm)
  have hk_110 := Nat.le_trans hk_105 (Nat.le_of_eq W107.size.symm)
  have N_107 := Fr.snoc X107 N_102 ge_82
  refine own_go st107 ?_
  show own_G p.tables e below _ (T107.setTop (mkF m 75 #[.val (.int x0), .val (.int x1), .val (.long x2), .second, .val (.int x3), .val (.int (own_off x0)), .val (.int (own_len x0 x1)), .val (.ref b81), .unset, .unset] []))
  obtain ⟨T111, h111, X111, e111, E111, A111, D111, -, st111⟩ := newO X107 hx hZ hown (hw _ (List.mem_of_getElem? (i := 7) rfl)) (hw _ (List.mem_of_getElem? (i := 8) rfl)) (hw _ (List.mem_of_getElem? (i := 9) rfl)) e107 (g := (mkF m 75 #[.val (.int x0), .val (.int x1), .val (.long x2), .second, .val (.int x3), .val (.int (own_off x0)), .val (.int (own_len x0 x1)), .val (.ref b81), .unset, .unset] [])) rfl (hb hby at_75) (by decide) (by decide)
  obtain ⟨b111, g111⟩ : ∃ z, z = h107.size := ⟨_, rfl⟩
  rw [← g111] at A111 D111 st111
  have ne_112 : b81 ≠ b111 := Nat.ne_of_lt (Nat.lt_of_lt_of_le V107.lt (Nat.le_of_eq g111.symm))
  have ge_113 : n0 ≤ b111 := Nat.le_trans Z_109 (Nat.le_of_eq g111.symm)
  have S_114 := S_108.ext E111
  have V_115 := V107.ext E111
  have Z_116 : n0 ≤ h111.size := Nat.le_trans Z_109 E111.1
  have hk_117 := Nat.le_trans hk_110 E111.1
  have F_118 : Fld Z h111 b111 "com/example/davka/davka/layout/Field" "name" "Ljava/lang/String;" .null := D111 (Or.inr (hw _ (List.mem_of_getElem? (i := 33) rfl))) (ty := (.object "java/lang/String")) (by decide)
  have F_119 : Fld Z h111 b111 "com/example/davka/davka/layout/Field" "offset" "I" (.int (0 : Int32)) := D111 (Or.inr (hw _ (List.mem_of_getElem? (i := 35) rfl))) (ty := .int) (by decide)
  have F_120 : Fld Z h111 b111 "com/example/davka/davka/layout/Field" "length" "I" (.int (0 : Int32)) := D111 (Or.inr (hw _ (List.mem_of_getElem? (i := 37) rfl))) (ty := .int) (by decide)
  have F_121 : Fld Z h111 b111 "com/example/davka/davka/layout/Field" "kind" "Lcom/example/davka/davka/layout/FieldKind;" .null := D111 (Or.inr (hw _ (List.mem_of_getElem? (i := 39) rfl))) (ty := (.object "com/example/davka/davka/layout/FieldKind")) (by decide)
  have F_122 : Fld Z h111 b111 "com/example/davka/davka/layout/Field" "optional" "Z" (.int (0 : Int32)) := D111 (Or.inr (hw _ (List.mem_of_getElem? (i := 41) rfl))) (ty := .boolean) (by decide)
  refine own_go st111 ?_
  show own_G p.tables e below _ (T111.setTop (mkF m 78 #[.val (.int x0), .val (.int x1), .val (.long x2), .second, .val (.int x3), .val (.int (own_off x0)), .val (.int (own_len x0 x1)), .val (.ref b81), .unset, .unset] [(.ref b111)]))
  refine own_go (fun _ k => XS.dup X111.here hx rfl (hb hby at_78) rfl rfl k) ?_
  show own_G p.tables e below _ (T111.setTop (mkF m 79 #[.val (.int x0), .val (.int x1), .val (.long x2), .second, .val (.int x3), .val (.int (own_off x0)), .val (.int (own_len x0 x1)), .val (.ref b81), .unset, .unset] [(.ref b111), (.ref b111)]))
  obtain ⟨b123, T123, h123, k123, X123, e123, E123, hS, hk123, hZ, hown, st123⟩ := ldcS (s := s) (vm0 := s.vm) X111 hx hZ hown (hw _ (List.mem_of_getElem? (i := 10) rfl)) own_sA e111 hS hk_117 (g := (mkF m 79 #[.val (.int x0), .val (.int x1), .val (.long x2), .second, .val (.int x3), .val (.int (own_off x0)), .val (.int (own_len x0 x1)), .val (.ref b81), .unset, .unset] [(.ref b111), (.ref b111)])) rfl (hb hby at_79) (n := 4) (by decide) (by decide) (by decide) (by decide)
  have S_124 := S_114.ext E123
  have V_125 := V_115.ext E123
  have X_126 := A111.ext E123
  have F_127 := F_118.ext E123
  have F_128 := F_119.ext E123
  have F_129 := F_120.ext E123
  have F_130 := F_121.ext E123
  have F_131 := F_122.ext E123
  have Z_132 : n0 ≤ h123.size := Nat.le_trans Z_116 E123.1
  have hk_133 := Nat.le_trans hk_117 E123.1
  refine own_go st123 ?_
  show own_G p.tables e below _ (T123.setTop (mkF m 81 #[.val (.int x0), .val (.int x1), .val (.long x2), .second, .val (.int x3), .val (.int (own_off x0)), .val (.int (own_len x0 x1)), .val (.ref b81), .unset, .unset] [(.ref b123), (.ref b111), (.ref b111)]))
  refine own_go (fun _ k => XS.iload X123.here hx rfl (hb hby at_81) rfl k) ?_
  show own_G p.tables e below _ (T123.setTop (mkF m 83 #[.val (.int x0), .val (.int x1), .val (.long x2), .second, .val (.int x3), .val (.int (own_off x0)), .val (.int (own_len x0 x1)), .val (.ref b81), .unset, .unset] [(.int (own_off x0)), (.ref b123), (.ref b111), (.ref b111)]))
  refine own_go (fun _ k => XS.iload X123.here hx rfl (hb hby at_83) rfl k) ?_
  show own_G p.tables e below _ (T123.setTop (mkF m 85 #[.val (.int x0), .val (.int x1), .val (.long x2), .second, .val (.int x3), .val (.int (own_off x0)), .val (.int (own_len x0 x1)), .val (.ref b81), .unset, .unset] [(.int (own_len x0 x1)), (.int (own_off x0)), (.ref b123), (.ref b111), (.ref b111)]))
  obtain ⟨T134, X134, e134, st134⟩ := getS2 X123 hx hZ hown (host := "") (Or.inl (hw _ (List.mem_of_getElem? (i := 18) rfl))) Via.refl e123 S_124 (g := (mkF m 85 #[.val (.int x0), .val (.int x1), .val (.long x2), .second, .val (.int x3), .val (.int (own_off x0)), .val (.int (own_len x0 x1)), .val (.ref b81), .unset, .unset] [(.int (own_len x0 x1)), (.int (own_off x0)), (.ref b123), (.ref b111), (.ref b111)])) rfl (hb hby at_85)
  refine own_go st134 ?_
  show own_G p.tables e below _ (T134.setTop (mkF m 88 #[.val (.int x0), .val (.int x1), .val (.long x2), .second, .val (.int x3), .val (.int (own_off x0)), .val (.int (own_len x0 x1)), .val (.ref b81), .unset, .unset] [(.ref kz), (.int (own_len x0 x1)), (.int (own_off x0)), (.ref b123), (.ref b111), (.ref b111)]))
  refine own_go (fun _ k => XS.iload X134.here hx rfl (hb hby at_88) rfl k) ?_
  show own_G p.tables e below _ (T134.setTop (mkF m 90 #[.val (.int x0), .val (.int x1), .val (.long x2), .second, .val (.int x3), .val (.int (own_off x0)), .val (.int (own_len x0 x1)), .val (.ref b81), .unset, .unset] [(.int x3), (.ref kz), (.int (own_len x0 x1)), (.int (own_off x0)), (.ref b123), (.ref b111), (.ref b111)]))
  refine own_go (fun _ k => XS.iconst X134.here hx rfl (hb hby at_90) k) ?_
  show own_G p.tables e below _ (T134.setTop (mkF m 91 #[.val (.int x0), .val (.int x1), .val (.long x2), .second, .val (.int x3), .val (.int (own_off x0)), .val (.int (own_len x0 x1)), .val (.ref b81), .unset, .unset] [(.int (1 : Int32)), (.int x3), (.ref kz), (.int (own_len x0 x1)), (.int (own_off x0)), (.ref b123), (.ref b111), (.ref b111)]))
  refine own_go (fun _ k => XS.iand X134.here hx rfl (hb hby at_91) rfl k) ?_
  show own_G p.tables e below _ (T134.setTop (mkF m 92 #[.val (.int x0), .val (.int x1), .val (.long x2), .second, .val (.int x3), .val (.int (own_off x0)), .val (.int (own_len x0 x1)), .val (.ref b81), .unset, .unset] [(.int (x3 &&& (1 : Int32))), (.ref kz), (.int (own_len x0 x1)), (.int (own_off x0)), (.ref b123), (.ref b111), (.ref b111)]))
  by_cases hc92_135 : (x3 &&& (1 : Int32)) = (0 : Int32)
  · refine own_go (fun _ k => XS.ifYes X134.here hx rfl (pc0 := 92) (pc' := 99) rfl (hb hby at_92) rfl (((if0 _ _).trans (teq hc92_135).1)) (by decide) (by decide) k) ?_
    show own_G p.tables e below _ (T134.setTop (mkF m 99 #[.val (.int x0), .val (.int x1), .val (.long x2), .second, .val (.int x3), .val (.int (own_off x0)), .val (.int (own_len x0 x1)), .val (.ref b81), .unset, .unset] [(.ref kz), (.int (own_len x0 x1)), (.int (own_off x0)), (.ref b123), (.ref b111), (.ref b111)]))
    refine own_go (fun _ k => XS.iconst X134.here hx rfl (hb hby at_99) k) ?_
    show own_G p.tables e below _ (T134.setTop (mkF m 100 #[.val (.int x0), .val (.int x1), .val (.long x2), .second, .val (.int x3), .val (.int (own_off x0)), .val (.int (own_len x0 x1)), .val (.ref b81), .unset, .unset] [(.int (0 : Int32)), (.ref kz), (.int (own_len x0 x1)), (.int (own_off x0)), (.ref b123), (.ref b111), (.ref b111)]))
    obtain ⟨_, _, ⟨T136, L136, k136, n136⟩, -, X136, ⟨Lc136, hQ136, l136, y136, z136⟩, st136⟩ := X134.specialBack hx (y := (⟨"com/example/davka/davka/layout/Field", "<init>", "(Ljava/lang/String;IILcom/example/davka/davka/layout/FieldKind;Z)V"⟩ : MethodName)) rfl hown (mvT hZ (hw _ (List.mem_of_getElem? (i := 21) rfl))) (mvT hZ (hw _ (List.mem_of_getElem? (i := 22) rfl))) (mvT hZ (hw _ (List.mem_of_getElem? (i := 23) rfl))) (by decide) (backOf (W := 1) (rm2 l Z a0 hw [] b111 b123 (own_off x0) (own_len x0 x1) kz (0 : Int32)  h123 n0 Z_132 X_126 ge_113 F_127 F_128 F_129 F_130 F_131) hZ (hw _ (List.mem_of_getElem? (i := 23) rfl)) (hw _ (List.mem_of_getElem? (i := 9) rfl)) (by decide) (by decide)) (g := (mkF m 100 #[.val (.int x0), .val (.int x1), .val (.long x2), .second, .val (.int x3), .val (.int (own_off x0)), .val (.int (own_len x0 x1)), .val (.ref b81), .unset, .unset] [(.int (0 : Int32)), (.ref kz), (.int (own_len x0 x1)), (.int (own_off x0)), (.ref b123), (.ref b111), (.ref b111)])) rfl (by rw [hml]; rfl) (Steps.refl _) (a := b111) (argsL := [(.ref b123), (.int (own_off x0)), (.int (own_len x0 x1)), (.ref kz), (.int (0 : Int32))]) (rest := [(.ref b111)]) (lenOf own_pd2 rfl) rfl (by show 2 * 0 + _ ≤ _; exact Nat.le_of_eq rfl) (hb hby at_100) (fun _ _ => ⟨rfl, e134, (by decide : 4 + 0 ≤ _), (by decide : 18 + 0 ≤ _)⟩)
    dsimp only [Pt.U, Pt.locs, Pt.cells, Pt.slots] at X136 l136 y136 z136 st136 hQ136
    subst l136 y136 z136
    obtain ⟨rfl, Nq136, K136, G_137, G_138, G_139⟩ := hQ136
    have V_140 := V_125.keep K136 (ninS ne_112 nin0)
    have X_141 := X_126.keep K136
    have Z_142 : n0 ≤ T136.heap.size := Nat.le_trans Z_132 K136.1
    have hk_143 := Nat.le_trans hk123 K136.1
    have N_136 := Fr.app N_107 Nq136
    refine own_go (fun _ k => st136.trans k) ?_
    show own_G p.tables e below _ (T136.setTop (mkF m 103 #[.val (.int x0), .val (.int x1), .val (.long x2), .second, .val (.int x3), .val (.int (own_off x0)), .val (.int (own_len x0 x1)), .val (.ref b81), .unset, .unset] [(.ref b111)]))
    refine own_go (fun _ k => XS.astore X136.here hx rfl (hb hby at_103) rfl rfl (l' := #[.val (.int x0), .val (.int x1), .val (.long x2), .second, .val (.int x3), .val (.int (own_off x0)), .val (.int (own_len x0 x1)), .val (.ref b81), .val (.ref b111), .unset]) rfl k) ?_
    show own_G p.tables e below _ (T136.setTop (mkF m 105 #[.val (.int x0), .val (.int x1), .val (.long x2), .second, .val (.int x3), .val (.int (own_off x0)), .val (.int (own_len x0 x1)), .val (.ref b81), .val (.ref b111), .unset] []))
    refine own_go (fun _ k => XS.aload X136.here hx rfl (hb hby at_105) rfl rfl k) ?_
    show own_G p.tables e below _ (T136.setTop (mkF m 107 #[.val (.int x0), .val (.int x1), .val (.long x2), .second, .val (.int x3), .val (.int (own_off x0)), .val (.int (own_len x0 x1)), .val (.ref b81), .val (.ref b111), .unset] [(.ref b81)]))
    refine own_go (fun _ k => XS.iconst X136.here hx rfl (hb hby at_107) k) ?_
    show own_G p.tables e below _ (T136.setTop (mkF m 108 #[.val (.int x0), .val (.int x1), .val (.long x2), .second, .val (.int x3), .val (.int (own_off x0)), .val (.int (own_len x0 x1)), .val (.ref b81), .val (.ref b111), .unset] [(.int (0 : Int32)), (.ref b81)]))
    refine own_go (fun _ k => XS.iload X136.here hx rfl (hb hby at_108) rfl k) ?_
    show own_G p.tables e below _ (T136.setTop (mkF m 110 #[.val (.int x0), .val (.int x1), .val (.long x2), .second, .val (.int x3), .val (.int (own_off x0)), .val (.int (own_len x0 x1)), .val (.ref b81), .val (.ref b111), .unset] [(.int (own_off x0)), (.int (0 : Int32)), (.ref b81)]))
    refine own_go (fun _ k => XS.iload X136.here hx rfl (hb hby at_110) rfl k) ?_
    show own_G p.tables e below _ (T136.setTop (mkF m 112 #[.val (.int x0), .val (.int x1), .val (.long x2), .second, .val (.int x3), .val (.int (own_off x0)), .val (.int (own_len x0 x1)), .val (.ref b81), .val (.ref b111), .unset] [(.int (own_len x0 x1)), (.int (own_off x0)), (.int (0 : Int32)), (.ref b81)]))
    obtain ⟨T144, X144, e144, st144⟩ := own_callP X136 hx hZ (y := (⟨"com/example/davka/davka/layout/FieldIsBlankInPinLaw", "ok", "([CIII)Z"⟩ : MethodName)) hown (hw _ (List.mem_of_getElem? (i := 42) rfl)) (hw _ (List.mem_of_getElem? (i := 43) rfl)) (hw _ (List.mem_of_getElem? (i := 4) rfl)) (hw _ (List.mem_of_getElem? (i := 44) rfl)) (by decide) (W := 0) (rm5 l Z a0 hw [] b81 (0 : Int32) (own_off x0) (own_len x0 x1) k81 (own_cs x2) T136.heap V_140 hoff hto) (by decide) (by decide) rfl rfl rfl (g := (mkF m 112 #[.val (.int x0), .val (.int x1), .val (.long x2), .second, .val (.int x3), .val (.int (own_off x0)), .val (.int (own_len x0 x1)), .val (.ref b81), .val (.ref b111), .unset] [(.int (own_len x0 x1)), (.int (own_off x0)), (.int (0 : Int32)), (.ref b81)])) rfl (by rw [hml]; rfl) (argsL := [(.ref b81), (.int (0 : Int32)), (.int (own_off x0)), (.int (own_len x0 x1))]) (rest := []) (lenOf own_pd3 rfl) rfl rfl (by show 2 * 0 + _ ≤ _; exact Nat.le_of_eq rfl) (hb hby at_112) (by decide) (by decide)
    refine own_go st144 ?_
    show own_G p.tables e below _ (T144.setTop (mkF m 115 #[.val (.int x0), .val (.int x1), .val (.long x2), .second, .val (.int x3), .val (.int (own_off x0)), .val (.int (own_len x0 x1)), .val (.ref b81), .val (.ref b111), .unset] [(.int (F5 (0 : Int32) (own_off x0) (own_len x0 x1) (own_cs x2)))]))
    by_cases hc115_145 : (F5 (0 : Int32) (own_off x0) (own_len x0 x1) (own_cs x2)) = (0 : Int32)
    · refine own_go (fun _ k => XS.ifYes X144.here hx rfl (pc0 := 115) (pc' := 174) rfl (hb hby at_115) rfl (((if0 _ _).trans (teq hc115_145).1)) (by decide) (by decide) k) ?_
      show own_G p.tables e below _ (T144.setTop (mkF m 174 #[.val (.int x0), .val (.int x1), .val (.long x2), .second, .val (.int x3), .val (.int (own_off x0)), .val (.int (own_len x0 x1)), .val (.ref b81), .val (.ref b111), .unset] []))
      refine own_go (fun _ k => XS.iconst X144.here hx rfl (hb hby at_174) k) ?_
      show own_G p.tables e below _ (T144.setTop (mkF m 175 #[.val (.int x0), .val (.int x1), .val (.long x2), .second, .val (.int x3), .val (.int (own_off x0)), .val (.int (own_len x0 x1)), .val (.ref b81), .val (.ref b111), .unset] [(.int (0 : Int32))]))
      refine own_go (fun _ k => XS.istore X144.here hx rfl (hb hby at_175) rfl (l' := #[.val (.int x0), .val (.int x1), .val (.long x2), .second, .val (.int x3), .val (.int (own_off x0)), .val (.int (own_len x0 x1)), .val (.ref b81), .val (.ref b111), .val (.int (0 : Int32))]) rfl k) ?_
      show own_G p.tables e below _ (T144.setTop (mkF m 177 #[.val (.int x0), .val (.int x1), .val (.long x2), .second, .val (.int x3), .val (.int (own_off x0)), .val (.int (own_len x0 x1)), .val (.ref b81), .val (.ref b111), .val (.int (0 : Int32))] []))
      refine own_go (fun _ k => XS.aload X144.here hx rfl (hb hby at_177) rfl rfl k) ?_
      show own_G p.tables e below _ (T144.setTop (mkF m 179 #[.val (.int x0), .val (.int x1), .val (.long x2), .second, .val (.int x3), .val (.int (own_off x0)), .val (.int (own_len x0 x1)), .val (.ref b81), .val (.ref b111), .val (.int (0 : Int32))] [(.ref b111)]))
      refine own_go (fun _ k => XS.aload X144.here hx rfl (hb hby at_179) rfl rfl k) ?_
      show own_G p.tables e below _ (T144.setTop (mkF m 181 #[.val (.int x0), .val (.int x1), .val (.long x2), .second, .val (.int x3), .val (.int (own_off x0)), .val (.int (own_len x0 x1)), .val (.ref b81), .val (.ref b111), .val (.int (0 : Int32))] [(.ref b81), (.ref b111)]))
      obtain ⟨T146, X146, e146, st146⟩ := own_callV X144 hx hZ (y := (⟨"com/example/davka/davka/layout/Field", "isBlankIn", "([C)Z"⟩ : MethodName)) hown (hw _ (List.mem_of_getElem? (i := 45) rfl)) (hw _ (List.mem_of_getElem? (i := 46) rfl)) (hw _ (List.mem_of_getElem? (i := 48) rfl)) (hw _ (List.mem_of_getElem? (i := 47) rfl)) (hw _ (List.mem_of_getElem? (i := 9) rfl)) (hw _ (List.mem_of_getElem? (i := 49) rfl)) (by decide) (W := 0) (rm6 l Z a0 hw [] b111 b81 k81 (own_off x0) (own_len x0 x1) (own_cs x2) T136.heap G_138 G_139 V_140 hoff hto) (by decide) (by decide) rfl rfl e144 G_137 (g := (mkF m 181 #[.val (.int x0), .val (.int x1), .val (.long x2), .second, .val (.int x3), .val (.int (own_off x0)), .val (.int (own_len x0 x1)), .val (.ref b81), .val (.ref b111), .val (.int (0 : Int32))] [(.ref b81), (.ref b111)])) rfl (by rw [hml]; rfl) (argsL := [(.ref b81)]) (rest := []) (lenOf own_pd4 rfl) rfl rfl (by show 2 * 0 + _ ≤ _; exact Nat.le_of_eq rfl) (hb hby at_181) (by decide) (by decide)
      refine own_go st146 ?_
      show own_G p.tables e below _ (T146.setTop (mkF m 184 #[.val (.int x0), .val (.int x1), .val (.long x2), .second, .val (.int x3), .val (.int (own_off x0)), .val (.int (own_len x0 x1)), .val (.ref b81), .val (.ref b111), .val (.int (0 : Int32))] [(.int (F6  (own_off x0) (own_len x0 x1) (own_cs x2)))]))
      refine own_go (fun _ k => XS.iload X146.here hx rfl (hb hby at_184) rfl k) ?_
      show own_G p.tables e below _ (T146.setTop (mkF m 186 #[.val (.int x0), .val (.int x1), .val (.long x2), .second, .val (.int x3), .val (.int (own_off x0)), .val (.int (own_len x0 x1)), .val (.ref b81), .val (.ref b111), .val (.int (0 : Int32))] [(.int (0 : Int32)), (.int (F6  (own_off x0) (own_len x0 x1) (own_cs x2)))]))
      by_cases hc186_147 : (F6  (own_off x0) (own_len x0 x1) (own_cs x2)) = (0 : Int32)
      · refine own_go (fun _ k => XS.icmpNo X146.here hx rfl (hb hby at_186) rfl ((teq hc186_147).2) k) ?_
        show own_G p.tables e below _ (T146.setTop (mkF m 189 #[.val (.int x0), .val (.int x1), .val (.long x2), .second, .val (.int x3), .val (.int (own_off x0)), .val (.int (own_len x0 x1)), .val (.ref b81), .val (.ref b111), .val (.int (0 : Int32))] []))
        refine own_go (fun _ k => XS.iconst X146.here hx rfl (hb hby at_189) k) ?_
        show own_G p.tables e below _ (T146.setTop (mkF m 190 #[.val (.int x0), .val (.int x1), .val (.long x2), .second, .val (.int x3), .val (.int (own_off x0)), .val (.int (own_len x0 x1)), .val (.ref b81), .val (.ref b111), .val (.int (0 : Int32))] [(.int (1 : Int32))]))
        refine own_go (fun _ k => XS.goto X146.here hx rfl (pc0 := 190) (pc' := 194) rfl (hb hby at_190) (by decide) (by decide) k) ?_
        show own_G p.tables e below _ (T146.setTop (mkF m 194 #[.val (.int x0), .val (.int x1), .val (.long x2), .second, .val (.int x3), .val (.int (own_off x0)), .val (.int (own_len x0 x1)), .val (.ref b81), .val (.ref b111), .val (.int (0 : Int32))] [(.int (1 : Int32))]))
        exact own_endW X146 Bd.notSynchronized hS (by rw [e146]; exact hk_143) (v := some (.int (nar .boolean (1 : Int32)))) (fun h => by rw [Bd.returns] at h; cases h) (Q := QL (some (.int (F0 x0 x1 x2 x3))) n0) ⟨by unfold F0; simp only [if_pos hc92_135, if_pos hc115_145, if_pos hc186_147]; try rfl, N_136⟩ (fun fs hr => retN X146 hx (t := .boolean) Bd.returns (by simp) (hb hby at_194) hr) (by decide) (by decide)
      · refine own_go (fun _ k => XS.icmpYes X146.here hx rfl (pc0 := 186) (pc' := 193) rfl (hb hby at_186) rfl ((feq hc186_147).2) (by decide) (by decide) k) ?_
        show own_G p.tables e below _ (T146.setTop (mkF m 193 #[.val (.int x0), .val (.int x1), .val (.long x2), .second, .val (.int x3), .val (.int (own_off x0)), .val (.int (own_len x0 x1)), .val (.ref b81), .val (.ref b111), .val (.int (0 : Int32))] []))
        refine own_go (fun _ k => XS.iconst X146.here hx rfl (hb hby at_193) k) ?_
        show own_G p.tables e below _ (T146.setTop (mkF m 194 #[.val (.int x0), .val (.int x1), .val (.long x2), .second, .val (.int x3), .val (.int (own_off x0)), .val (.int (own_len x0 x1)), .val (.ref b81), .val (.ref b111), .val (.int (0 : Int32))] [(.int (0 : Int32))]))
        exact own_endW X146 Bd.notSynchronized hS (by rw [e146]; exact hk_143) (v := some (.int (nar .boolean (0 : Int32)))) (fun h => by rw [Bd.returns] at h; cases h) (Q := QL (some (.int (F0 x0 x1 x2 x3))) n0) ⟨by unfold F0; simp only [if_pos hc92_135, if_pos hc115_145, if_neg hc186_147]; try rfl, N_136⟩ (fun fs hr => retN X146 hx (t := .boolean) Bd.returns (by simp) (hb hby at_194) hr) (by decide) (by decide)
    · refine own_go (fun _ k => XS.ifNo X144.here hx rfl (hb hby at_115) rfl (((if0 _ _).trans (feq hc115_145).1)) k) ?_
      show own_G p.tables e below _ (T144.setTop (mkF m 118 #[.val (.int x0), .val (.int x1), .val (.long x2), .second, .val (.int x3), .val (.int (own_off x0)), .val (.int (own_len x0 x1)), .val (.ref b81), .val (.ref b111), .unset] []))
      refine own_go (fun _ k => XS.aload X144.here hx rfl (hb hby at_118) rfl rfl k) ?_
      show own_G p.tables e below _ (T144.setTop (mkF m 120 #[.val (.int x0), .val (.int x1), .val (.long x2), .second, .val (.int x3), .val (.int (own_off x0)), .val (.int (own_len x0 x1)), .val (.ref b81), .val (.ref b111), .unset] [(.ref b81)]))
      refine own_go (fun _ k => XS.iconst X144.here hx rfl (hb hby at_120) k) ?_
      show own_G p.tables e below _ (T144.setTop (mkF m 121 #[.val (.int x0), .val (.int x1), .val (.long x2), .second, .val (.int x3), .val (.int (own_off x0)), .val (.int (own_len x0 x1)), .val (.ref b81), .val (.ref b111), .unset] [(.int (1 : Int32)), (.ref b81)]))
      refine own_go (fun _ k => XS.iload X144.here hx rfl (hb hby at_121) rfl k) ?_
      show own_G p.tables e below _ (T144.setTop (mkF m 123 #[.val (.int x0), .val (.int x1), .val (.long x2), .second, .val (.int x3), .val (.int (own_off x0)), .val (.int (own_len x0 x1)), .val (.ref b81), .val (.ref b111), .unset] [(.int (own_off x0)), (.int (1 : Int32)), (.ref b81)]))
      refine own_go (fun _ k => XS.iload X144.here hx rfl (hb hby at_123) rfl k) ?_
      show own_G p.tables e below _ (T144.setTop (mkF m 125 #[.val (.int x0), .val (.int x1), .val (.long x2), .second, .val (.int x3), .val (.int (own_off x0)), .val (.int (own_len x0 x1)), .val (.ref b81), .val (.ref b111), .unset] [(.int (own_len x0 x1)), (.int (own_off x0)), (.int (1 : Int32)), (.ref b81)]))
      obtain ⟨T148, X148, e148, st148⟩ := own_callP X144 hx hZ (y := (⟨"com/example/davka/davka/layout/FieldIsBlankInPinLaw", "ok", "([CIII)Z"⟩ : MethodName)) hown (hw _ (List.mem_of_getElem? (i := 42) rfl)) (hw _ (List.mem_of_getElem? (i := 43) rfl)) (hw _ (List.mem_of_getElem? (i := 4) rfl)) (hw _ (List.mem_of_getElem? (i := 44) rfl)) (by decide) (W := 0) (rm5 l Z a0 hw [] b81 (1 : Int32) (own_off x0) (own_len x0 x1) k81 (own_cs x2) T136.heap V_140 hoff hto) (by decide) (by decide) rfl rfl e144 (g := (mkF m 125 #[.val (.int x0), .val (.int x1), .val (.long x2), .second, .val (.int x3), .val (.int (own_off x0)), .val (.int (own_len x0 x1)), .val (.ref b81), .val (.ref b111), .unset] [(.int (own_len x0 x1)), (.int (own_off x0)), (.int (1 : Int32)), (.ref b81)])) rfl (by rw [hml]; rfl) (argsL := [(.ref b81), (.int (1 : Int32)), (.int (own_off x0)), (.int (own_len x0 x1))]) (rest := []) (lenOf own_pd3 rfl) rfl rfl (by show 2 * 0 + _ ≤ _; exact Nat.le_of_eq rfl) (hb hby at_125) (by decide) (by decide)
      refine own_go st148 ?_
      show own_G p.tables e below _ (T148.setTop (mkF m 128 #[.val (.int x0), .val (.int x1), .val (.long x2), .second, .val (.int x3), .val (.int (own_off x0)), .val (.int (own_len x0 x1)), .val (.ref b81), .val (.ref b111), .unset] [(.int (F5 (1 : Int32) (own_off x0) (own_len x0 x1) (own_cs x2)))]))
      by_cases hc128_149 : (F5 (1 : Int32) (own_off x0) (own_len x0 x1) (own_cs x2)) = (0 : Int32)
      · refine own_go (fun _ k => XS.ifYes X148.here hx rfl (pc0 := 128) (pc' := 174) rfl (hb hby at_128) rfl (((if0 _ _).trans (teq hc128_149).1)) (by decide) (by decide) k) ?_
        show own_G p.tables e below _ (T148.setTop (mkF m 174 #[.val (.int x0), .val (.int x1), .val (.long x2), .second, .val (.int x3), .val (.int (own_off x0)), .val (.int (own_len x0 x1)), .val (.ref b81), .val (.ref b111), .unset] []))
        refine own_go (fun _ k => XS.iconst X148.here hx rfl (hb hby at_174) k) ?_
        show own_G p.tables e below _ (T148.setTop (mkF m 175 #[.val (.int x0), .val (.int x1), .val (.long x2), .second, .val (.int x3), .val (.int (own_off x0)), .val (.int (own_len x0 x1)), .val (.ref b81), .val (.ref b111), .unset] [(.int (0 : Int32))]))
        refine own_go (fun _ k => XS.istore X148.here hx rfl (hb hby at_175) rfl (l' := #[.val (.int x0), .val (.int x1), .val (.long x2), .second, .val (.int x3), .val (.int (own_off x0)), .val (.int (own_len x0 x1)), .val (.ref b81), .val (.ref b111), .val (.int (0 : Int32))]) rfl k) ?_
        show own_G p.tables e below _ (T148.setTop (mkF m 177 #[.val (.int x0), .val (.int x1), .val (.long x2), .second, .val (.int x3), .val (.int (own_off x0)), .val (.int (own_len x0 x1)), .val (.ref b81), .val (.ref b111), .val (.int (0 : Int32))] []))
        refine own_go (fun _ k => XS.aload X148.here hx rfl (hb hby at_177) rfl rfl k) ?_
        show own_G p.tables e below _ (T148.setTop (mkF m 179 #[.val (.int x0), .val (.int x1), .val (.long x2), .second, .val (.int x3), .val (.int (own_off x0)), .val (.int (own_len x0 x1)), .val (.ref b81), .val (.ref b111), .val (.int (0 : Int32))] [(.ref b111)]))
        refine own_go (fun _ k => XS.aload X148.here hx rfl (hb hby at_179) rfl rfl k) ?_
        show own_G p.tables e below _ (T148.setTop (mkF m 181 #[.val (.int x0), .val (.int x1), .val (.long x2), .second, .val (.int x3), .val (.int (own_off x0)), .val (.int (own_len x0 x1)), .val (.ref b81), .val (.ref b111), .val (.int (0 : Int32))] [(.ref b81), (.ref b111)]))
        obtain ⟨T150, X150, e150, st150⟩ := own_callV X148 hx hZ (y := (⟨"com/example/davka/davka/layout/Field", "isBlankIn", "([C)Z"⟩ : MethodName)) hown (hw _ (List.mem_of_getElem? (i := 45) rfl)) (hw _ (List.mem_of_getElem? (i := 46) rfl)) (hw _ (List.mem_of_getElem? (i := 48) rfl)) (hw _ (List.mem_of_getElem? (i := 47) rfl)) (hw _ (List.mem_of_getElem? (i := 9) rfl)) (hw _ (List.mem_of_getElem? (i := 49) rfl)) (by decide) (W := 0) (rm6 l Z a0 hw [] b111 b81 k81 (own_off x0) (own_len x0 x1) (own_cs x2) T136.heap G_138 G_139 V_140 hoff hto) (by decide) (by decide) rfl rfl e148 G_137 (g := (mkF m 181 #[.val (.int x0), .val (.int x1), .val (.long x2), .second, .val (.int x3), .val (.int (own_off x0)), .val (.int (own_len x0 x1)), .val (.ref b81), .val (.ref b111), .val (.int (0 : Int32))] [(.ref b81), (.ref b111)])) rfl (by rw [hml]; rfl) (argsL := [(.ref b81)]) (rest := []) (lenOf own_pd4 rfl) rfl rfl (by show 2 * 0 + _ ≤ _; exact Nat.le_of_eq rfl) (hb hby at_181) (by decide) (by decide)
        refine own_go st150 ?_
        show own_G p.tables e below _ (T150.setTop (mkF m 184 #[.val (.int x0), .val (.int x1), .val (.long x2), .second, .val (.int x3), .val (.int (own_off x0)), .val (.int (own_len x0 x1)), .val (.ref b81), .val (.ref b111), .val (.int (0 : Int32))] [(.int (F6  (own_off x0) (own_len x0 x1) (own_cs x2)))]))
        refine own_go (fun _ k => XS.iload X150.here hx rfl (hb hby at_184) rfl k) ?_
        show own_G p.tables e below _ (T150.setTop (mkF m 186 #[.val (.int x0), .val (.int x1), .val (.long x2), .second, .val (.int x3), .val (.int (own_off x0)), .val (.int (own_len x0 x1)), .val (.ref b81), .val (.ref b111), .val (.int (0 : Int32))] [(.int (0 : Int32)), (.int (F6  (own_off x0) (own_len x0 x1) (own_cs x2)))]))
        by_cases hc186_151 : (F6  (own_off x0) (own_len x0 x1) (own_cs x2)) = (0 : Int32)
        · refine own_go (fun _ k => XS.icmpNo X150.here hx rfl (hb hby at_186) rfl ((teq hc186_151).2) k) ?_
          show own_G p.tables e below _ (T150.setTop (mkF m 189 #[.val (.int x0), .val (.int x1), .val (.long x2), .second, .val (.int x3), .val (.int (own_off x0)), .val (.int (own_len x0 x1)), .val (.ref b81), .val (.ref b111), .val (.int (0 : Int32))] []))
          refine own_go (fun _ k => XS.iconst X150.here hx rfl (hb hby at_189) k) ?_
          show own_G p.tables e below _ (T150.setTop (mkF m 190 #[.val (.int x0), .val (.int x1), .val (.long x2), .second, .val (.int x3), .val (.int (own_off x0)), .val (.int (own_len x0 x1)), .val (.ref b81), .val (.ref b111), .val (.int (0 : Int32))] [(.int (1 : Int32))]))
          refine own_go (fun _ k => XS.goto X150.here hx rfl (pc0 := 190) (pc' := 194) rfl (hb hby at_190) (by decide) (by decide) k) ?_
          show own_G p.tables e below _ (T150.setTop (mkF m 194 #[.val (.int x0), .val (.int x1), .val (.long x2), .second, .val (.int x3), .val (.int (own_off x0)), .val (.int (own_len x0 x1)), .val (.ref b81), .val (.ref b111), .val (.int (0 : Int32))] [(.int (1 : Int32))]))
          exact own_endW X150 Bd.notSynchronized hS (by rw [e150]; exact hk_143) (v := some (.int (nar .boolean (1 : Int32)))) (fun h => by rw [Bd.returns] at h; cases h) (Q := QL (some (.int (F0 x0 x1 x2 x3))) n0) ⟨by unfold F0; simp only [if_pos hc92_135, if_neg hc115_145, if_pos hc128_149, if_pos hc186_151]; try rfl, N_136⟩ (fun fs hr => retN X150 hx (t := .boolean) Bd.returns (by simp) (hb hby at_194) hr) (by decide) (by decide)
        · refine own_go (fun _ k => XS.icmpYes X150.here hx rfl (pc0 := 186) (pc' := 193) rfl (hb hby at_186) rfl ((feq hc186_151).2) (by decide) (by decide) k) ?_
          show own_G p.tables e below _ (T150.setTop (mkF m 193 #[.val (.int x0), .val (.int x1), .val (.long x2), .second, .val (.int x3), .val (.int (own_off x0)), .val (.int (own_len x0 x1)), .val (.ref b81), .val (.ref b111), .val (.int (0 : Int32))] []))
          refine own_go (fun _ k => XS.iconst X150.here hx rfl (hb hby at_193) k) ?_
          show own_G p.tables e below _ (T150.setTop (mkF m 194 #[.val (.int x0), .val (.int x1), .val (.long x2), .second, .val (.int x3), .val (.int (own_off x0)), .val (.int (own_len x0 x1)), .val (.ref b81), .val (.ref b111), .val (.int (0 : Int32))] [(.int (0 : Int32))]))
          exact own_endW X150 Bd.notSynchronized hS (by rw [e150]; exact hk_143) (v := some (.int (nar .boolean (0 : Int32)))) (fun h => by rw [Bd.returns] at h; cases h) (Q := QL (some (.int (F0 x0 x1 x2 x3))) n0) ⟨by unfold F0; simp only [if_pos hc92_135, if_neg hc115_145, if_pos hc128_149, if_neg hc186_151]; try rfl, N_136⟩ (fun fs hr => retN X150 hx (t := .boolean) Bd.returns (by simp) (hb hby at_194) hr) (by decide) (by decide)
      · refine own_go (fun _ k => XS.ifNo X148.here hx rfl (hb hby at_128) rfl (((if0 _ _).trans (feq hc128_149).1)) k) ?_
        show own_G p.tables e below _ (T148.setTop (mkF m 131 #[.val (.int x0), .val (.int x1), .val (.long x2), .second, .val (.int x3), .val (.int (own_off x0)), .val (.int (own_len x0 x1)), .val (.ref b81), .val (.ref b111), .unset] []))
        refine own_go (fun _ k => XS.aload X148.here hx rfl (hb hby at_131) rfl rfl k) ?_
        show own_G p.tables e below _ (T148.setTop (mkF m 133 #[.val (.int x0), .val (.int x1), .val (.long x2), .second, .val (.int x3), .val (.int (own_off x0)), .val (.int (own_len x0 x1)), .val (.ref b81), .val (.ref b111), .unset] [(.ref b81)]))
        refine own_go (fun _ k => XS.iconst X148.here hx rfl (hb hby at_133) k) ?_
        show own_G p.tables e below _ (T148.setTop (mkF m 134 #[.val (.int x0), .val (.int x1), .val (.long x2), .second, .val (.int x3), .val (.int (own_off x0)), .val (.int (own_len x0 x1)), .val (.ref b81), .val (.ref b111), .unset] [(.int (2 : Int32)), (.ref b81)]))
        refine own_go (fun _ k => XS.iload X148.here hx rfl (hb hby at_134) rfl k) ?_
        show own_G p.tables e below _ (T148.setTop (mkF m 136 #[.val (.int x0), .val (.int x1), .val (.long x2), .second, .val (.int x3), .val (.int (own_off x0)), .val (.int (own_len x0 x1)), .val (.ref b81), .val (.ref b111), .unset] [(.int (own_off x0)), (.int (2 : Int32)), (.ref b81)]))
        refine own_go (fun _ k => XS.iload X148.here hx rfl (hb hby at_136) rfl k) ?_
        show own_G p.tables e below _ (T148.setTop (mkF m 138 #[.val (.int x0), .val (.int x1), .val (.long x2), .second, .val (.int x3), .val (.int (own_off x0)), .val (.int (own_len x0 x1)), .val (.ref b81), .val (.ref b111), .unset] [(.int (own_len x0 x1)), (.int (own_off x0)), (.int (2 : Int32)), (.ref b81)]))
        obtain ⟨T152, X152, e152, st152⟩ := own_callP X148 hx hZ (y := (⟨"com/example/davka/davka/layout/FieldIsBlankInPinLaw", "ok", "([CIII)Z"⟩ : MethodName)) hown (hw _ (List.mem_of_getElem? (i := 42) rfl)) (hw _ (List.mem_of_getElem? (i := 43) rfl)) (hw _ (List.mem_of_getElem? (i := 4) rfl)) (hw _ (List.mem_of_getElem? (i := 44) rfl)) (by decide) (W := 0) (rm5 l Z a0 hw [] b81 (2 : Int32) (own_off x0) (own_len x0 x1) k81 (own_cs x2) T136.heap V_140 hoff hto) (by decide) (by decide) rfl rfl e148 (g := (mkF m 138 #[.val (.int x0), .val (.int x1), .val (.long x2), .second, .val (.int x3), .val (.int (own_off x0)), .val (.int (own_len x0 x1)), .val (.ref b81), .val (.ref b111), .unset] [(.int (own_len x0 x1)), (.int (own_off x0)), (.int (2 : Int32)), (.ref b81)])) rfl (by rw [hml]; rfl) (argsL := [(.ref b81), (.int (2 : Int32)), (.int (own_off x0)), (.int (own_len x0 x1))]) (rest := []) (lenOf own_pd3 rfl) rfl rfl (by show 2 * 0 + _ ≤ _; exact Nat.le_of_eq rfl) (hb hby at_138) (by decide) (by decide)
        refine own_go st152 ?_
        show own_G p.tables e below _ (T152.setTop (mkF m 141 #[.val (.int x0), .val (.int x1), .val (.long x2), .second, .val (.int x3), .val (.int (own_off x0)), .val (.int (own_len x0 x1)), .val (.ref b81), .val (.ref b111), .unset] [(.int (F5 (2 : Int32) (own_off x0) (own_len x0 x1) (own_cs x2)))]))
        by_cases hc141_153 : (F5 (2 : Int32) (own_off x0) (own_len x0 x1) (own_cs x2)) = (0 : Int32)
        · refine own_go (fun _ k => XS.ifYes X152.here hx rfl (pc0 := 141) (pc' := 174) rfl (hb hby at_141) rfl (((if0 _ _).trans (teq hc141_153).1)) (by decide) (by decide) k) ?_
          show own_G p.tables e below _ (T152.setTop (mkF m 174 #[.val (.int x0), .val (.int x1), .val (.long x2), .second, .val (.int x3), .val (.int (own_off x0)), .val (.int (own_len x0 x1)), .val (.ref b81), .val (.ref b111), .unset] []))
          refine own_go (fun _ k => XS.iconst X152.here hx rfl (hb hby at_174) k) ?_
          show own_G p.tables e below _ (T152.setTop (mkF m 175 #[.val (.int x0), .val (.int x1), .val (.long x2), .second, .val (.int x3), .val (.int (own_off x0)), .val (.int (own_len x0 x1)), .val (.ref b81), .val (.ref b111), .unset] [(.int (0 : Int32))]))
          refine own_go (fun _ k => XS.istore X152.here hx rfl (hb hby at_175) rfl (l' := #[.val (.int x0), .val (.int x1), .val (.long x2), .second, .val (.int x3), .val (.int (own_off x0)), .val (.int (own_len x0 x1)), .val (.ref b81), .val (.ref b111), .val (.int (0 : Int32))]) rfl k) ?_
          show own_G p.tables e below _ (T152.setTop (mkF m 177 #[.val (.int x0), .val (.int x1), .val (.long x2), .second, .val (.int x3), .val (.int (own_off x0)), .val (.int (own_len x0 x1)), .val (.ref b81), .val (.ref b111), .val (.int (0 : Int32))] []))
          refine own_go (fun _ k => XS.aload X152.here hx rfl (hb hby at_177) rfl rfl k) ?_
          show own_G p.tables e below _ (T152.setTop (mkF m 179 #[.val (.int x0), .val (.int x1), .val (.long x2), .second, .val (.int x3), .val (.int (own_off x0)), .val (.int (own_len x0 x1)), .val (.ref b81), .val (.ref b111), .val (.int (0 : Int32))] [(.ref b111)]))
          refine own_go (fun _ k => XS.aload X152.here hx rfl (hb hby at_179) rfl rfl k) ?_
          show own_G p.tables e below _ (T152.setTop (mkF m 181 #[.val (.int x0), .val (.int x1), .val (.long x2), .second, .val (.int x3), .val (.int (own_off x0)), .val (.int (own_len x0 x1)), .val (.ref b81), .val (.ref b111), .val (.int (0 : Int32))] [(.ref b81), (.ref b111)]))
          obtain ⟨T154, X154, e154, st154⟩ := own_callV X152 hx hZ (y := (⟨"com/example/davka/davka/layout/Field", "isBlankIn", "([C)Z"⟩ : MethodName)) hown (hw _ (List.mem_of_getElem? (i := 45) rfl)) (hw _ (List.mem_of_getElem? (i := 46) rfl)) (hw _ (List.mem_of_getElem? (i := 48) rfl)) (hw _ (List.mem_of_getElem? (i := 47) rfl)) (hw _ (List.mem_of_getElem? (i := 9) rfl)) (hw _ (List.mem_of_getElem? (i := 49) rfl)) (by decide) (W := 0) (rm6 l Z a0 hw [] b111 b81 k81 (own_off x0) (own_len x0 x1) (own_cs x2) T136.heap G_138 G_139 V_140 hoff hto) (by decide) (by decide) rfl rfl e152 G_137 (g := (mkF m 181 #[.val (.int x0), .val (.int x1), .val (.long x2), .second, .val (.int x3), .val (.int (own_off x0)), .val (.int (own_len x0 x1)), .val (.ref b81), .val (.ref b111), .val (.int (0 : Int32))] [(.ref b81), (.ref b111)])) rfl (by rw [hml]; rfl) (argsL := [(.ref b81)]) (rest := []) (lenOf own_pd4 rfl) rfl rfl (by show 2 * 0 + _ ≤ _; exact Nat.le_of_eq rfl) (hb hby at_181) (by decide) (by decide)
          refine own_go st154 ?_
          show own_G p.tables e below _ (T154.setTop (mkF m 184 #[.val (.int x0), .val (.int x1), .val (.long x2), .second, .val (.int x3), .val (.int (own_off x0)), .val (.int (own_len x0 x1)), .val (.ref b81), .val (.ref b111), .val (.int (0 : Int32))] [(.int (F6  (own_off x0) (own_len x0 x1) (own_cs x2)))]))
          refine own_go (fun _ k => XS.iload X154.here hx rfl (hb hby at_184) rfl k) ?_
          show own_G p.tables e below _ (T154.setTop (mkF m 186 #[.val (.int x0), .val (.int x1), .val (.long x2), .second, .val (.int x3), .val (.int (own_off x0)), .val (.int (own_len x0 x1)), .val (.ref b81), .val (.ref b111), .val (.int (0 : Int32))] [(.int (0 : Int32)), (.int (F6  (own_off x0) (own_len x0 x1) (own_cs x2)))]))
          by_cases hc186_155 : (F6  (own_off x0) (own_len x0 x1) (own_cs x2)) = (0 : Int32)
          · refine own_go (fun _ k => XS.icmpNo X154.here hx rfl (hb hby at_186) rfl ((teq hc186_155).2) k) ?_
            show own_G p.tables e below _ (T154.setTop (mkF m 189 #[.val (.int x0), .val (.int x1), .val (.long x2), .second, .val (.int x3), .val (.int (own_off x0)), .val (.int (own_len x0 x1)), .val (.ref b81), .val (.ref b111), .val (.int (0 : Int32))] []))
            refine own_go (fun _ k => XS.iconst X154.here hx rfl (hb hby at_189) k) ?_
            show own_G p.tables e below _ (T154.setTop (mkF m 190 #[.val (.int x0), .val (.int x1), .val (.long x2), .second, .val (.int x3), .val (.int (own_off x0)), .val (.int (own_len x0 x1)), .val (.ref b81), .val (.ref b111), .val (.int (0 : Int32))] [(.int (1 : Int32))]))
            refine own_go (fun _ k => XS.goto X154.here hx rfl (pc0 := 190) (pc' := 194) rfl (hb hby at_190) (by decide) (by decide) k) ?_
            show own_G p.tables e below _ (T154.setTop (mkF m 194 #[.val (.int x0), .val (.int x1), .val (.long x2), .second, .val (.int x3), .val (.int (own_off x0)), .val (.int (own_len x0 x1)), .val (.ref b81), .val (.ref b111), .val (.int (0 : Int32))] [(.int (1 : Int32))]))
            exact own_endW X154 Bd.notSynchronized hS (by rw [e154]; exact hk_143) (v := some (.int (nar .boolean (1 : Int32)))) (fun h => by rw [Bd.returns] at h; cases h) (Q := QL (some (.int (F0 x0 x1 x2 x3))) n0) ⟨by unfold F0; simp only [if_pos hc92_135, if_neg hc115_145, if_neg hc128_149, if_pos hc141_153, if_pos hc186_155]; try rfl, N_136⟩ (fun fs hr => retN X154 hx (t := .boolean) Bd.returns (by simp) (hb hby at_194) hr) (by decide) (by decide)
          · refine own_go (fun _ k => XS.icmpYes X154.here hx rfl (pc0 := 186) (pc' := 193) rfl (hb hby at_186) rfl ((feq hc186_155).2) (by decide) (by decide) k) ?_
            show own_G p.tables e below _ (T154.setTop (mkF m 193 #[.val (.int x0), .val (.int x1), .val (.long x2), .second, .val (.int x3), .val (.int (own_off x0)), .val (.int (own_len x0 x1)), .val (.ref b81), .val (.ref b111), .val (.int (0 : Int32))] []))
            refine own_go (fun _ k => XS.iconst X154.here hx rfl (hb hby at_193) k) ?_
            show own_G p.tables e below _ (T154.setTop (mkF m 194 #[.val (.int x0), .val (.int x1), .val (.long x2), .second, .val (.int x3), .val (.int (own_off x0)), .val (.int (own_len x0 x1)), .val (.ref b81), .val (.ref b111), .val (.int (0 : Int32))] [(.int (0 : Int32))]))
            exact own_endW X154 Bd.notSynchronized hS (by rw [e154]; exact hk_143) (v := some (.int (nar .boolean (0 : Int32)))) (fun h => by rw [Bd.returns] at h; cases h) (Q := QL (some (.int (F0 x0 x1 x2 x3))) n0) ⟨by unfold F0; simp only [if_pos hc92_135, if_neg hc115_145, if_neg hc128_149, if_pos hc141_153, if_neg hc186_155]; try rfl, N_136⟩ (fun fs hr => retN X154 hx (t := .boolean) Bd.returns (by simp) (hb hby at_194) hr) (by decide) (by decide)
        · refine own_go (fun _ k => XS.ifNo X152.here hx rfl (hb hby at_141) rfl (((if0 _ _).trans (feq hc141_153).1)) k) ?_
          show own_G p.tables e below _ (T152.setTop (mkF m 144 #[.val (.int x0), .val (.int x1), .val (.long x2), .second, .val (.int x3), .val (.int (own_off x0)), .val (.int (own_len x0 x1)), .val (.ref b81), .val (.ref b111), .unset] []))
          refine own_go (fun _ k => XS.aload X152.here hx rfl (hb hby at_144) rfl rfl k) ?_
          show own_G p.tables e below _ (T152.setTop (mkF m 146 #[.val (.int x0), .val (.int x1), .val (.long x2), .second, .val (.int x3), .val (.int (own_off x0)), .val (.int (own_len x0 x1)), .val (.ref b81), .val (.ref b111), .unset] [(.ref b81)]))
          refine own_go (fun _ k => XS.iconst X152.here hx rfl (hb hby at_146) k) ?_
          show own_G p.tables e below _ (T152.setTop (mkF m 147 #[.val (.int x0), .val (.int x1), .val (.long x2), .second, .val (.int x3), .val (.int (own_off x0)), .val (.int (own_len x0 x1)), .val (.ref b81), .val (.ref b111), .unset] [(.int (3 : Int32)), (.ref b81)]))
          refine own_go (fun _ k => XS.iload X152.here hx rfl (hb hby at_147) rfl k) ?_
          show own_G p.tables e below _ (T152.setTop (mkF m 149 #[.val (.int x0), .val (.int x1), .val (.long x2), .second, .val (.int x3), .val (.int (own_off x0)), .val (.int (own_len x0 x1)), .val (.ref b81), .val (.ref b111), .unset] [(.int (own_off x0)), (.int (3 : Int32)), (.ref b81)]))
          refine own_go (fun _ k => XS.iload X152.here hx rfl (hb hby at_149) rfl k) ?_
          show own_G p.tables e below _ (T152.setTop (mkF m 151 #[.val (.int x0), .val (.int x1), .val (.long x2), .second, .val (.int x3), .val (.int (own_off x0)), .val (.int (own_len x0 x1)), .val (.ref b81), .val (.ref b111), .unset] [(.int (own_len x0 x1)), (.int (own_off x0)), (.int (3 : Int32)), (.ref b81)]))
          obtain ⟨T156, X156, e156, st156⟩ := own_callP X152 hx hZ (y := (⟨"com/example/davka/davka/layout/FieldIsBlankInPinLaw", "ok", "([CIII)Z"⟩ : MethodName)) hown (hw _ (List.mem_of_getElem? (i := 42) rfl)) (hw _ (List.mem_of_getElem? (i := 43) rfl)) (hw _ (List.mem_of_getElem? (i := 4) rfl)) (hw _ (List.mem_of_getElem? (i := 44) rfl)) (by decide) (W := 0) (rm5 l Z a0 hw [] b81 (3 : Int32) (own_off x0) (own_len x0 x1) k81 (own_cs x2) T136.heap V_140 hoff hto) (by decide) (by decide) rfl rfl e152 (g := (mkF m 151 #[.val (.int x0), .val (.int x1), .val (.long x2), .second, .val (.int x3), .val (.int (own_off x0)), .val (.int (own_len x0 x1)), .val (.ref b81), .val (.ref b111), .unset] [(.int (own_len x0 x1)), (.int (own_off x0)), (.int (3 : Int32)), (.ref b81)])) rfl (by rw [hml]; rfl) (argsL := [(.ref b81), (.int (3 : Int32)), (.int (own_off x0)), (.int (own_len x0 x1))]) (rest := []) (lenOf own_pd3 rfl) rfl rfl (by show 2 * 0 + _ ≤ _; exact Nat.le_of_eq rfl) (hb hby at_151) (by decide) (by decide)
          refine own_go st156 ?_
          show own_G p.tables e below _ (T156.setTop (mkF m 154 #[.val (.int x0), .val (.int x1), .val (.long x2), .second, .val (.int x3), .val (.int (own_off x0)), .val (.int (own_len x0 x1)), .val (.ref b81), .val (.ref b111), .unset] [(.int (F5 (3 : Int32) (own_off x0) (own_len x0 x1) (own_cs x2)))]))
          by_cases hc154_157 : (F5 (3 : Int32) (own_off x0) (own_len x0 x1) (own_cs x2)) = (0 : Int32)
          · refine own_go (fun _ k => XS.ifYes X156.here hx rfl (pc0 := 154) (pc' := 174) rfl (hb hby at_154) rfl (((if0 _ _).trans (teq hc154_157).1)) (by decide) (by decide) k) ?_
            show own_G p.tables e below _ (T156.setTop (mkF m 174 #[.val (.int x0), .val (.int x1), .val (.long x2), .second, .val (.int x3), .val (.int (own_off x0)), .val (.int (own_len x0 x1)), .val (.ref b81), .val (.ref b111), .unset] []))
            refine own_go (fun _ k => XS.iconst X156.here hx rfl (hb hby at_174) k) ?_
            show own_G p.tables e below _ (T156.setTop (mkF m 175 #[.val (.int x0), .val (.int x1), .val (.long x2), .second, .val (.int x3), .val (.int (own_off x0)), .val (.int (own_len x0 x1)), .val (.ref b81), .val (.ref b111), .unset] [(.int (0 : Int32))]))
            refine own_go (fun _ k => XS.istore X156.here hx rfl (hb hby at_175) rfl (l' := #[.val (.int x0), .val (.int x1), .val (.long x2), .second, .val (.int x3), .val (.int (own_off x0)), .val (.int (own_len x0 x1)), .val (.ref b81), .val (.ref b111), .val (.int (0 : Int32))]) rfl k) ?_
            show own_G p.tables e below _ (T156.setTop (mkF m 177 #[.val (.int x0), .val (.int x1), .val (.long x2), .second, .val (.int x3), .val (.int (own_off x0)), .val (.int (own_len x0 x1)), .val (.ref b81), .val (.ref b111), .val (.int (0 : Int32))] []))
            refine own_go (fun _ k => XS.aload X156.here hx rfl (hb hby at_177) rfl rfl k) ?_
            show own_G p.tables e below _ (T156.setTop (mkF m 179 #[.val (.int x0), .val (.int x1), .val (.long x2), .second, .val (.int x3), .val (.int (own_off x0)), .val (.int (own_len x0 x1)), .val (.ref b81), .val (.ref b111), .val (.int (0 : Int32))] [(.ref b111)]))
            refine own_go (fun _ k => XS.aload X156.here hx rfl (hb hby at_179) rfl rfl k) ?_
            show own_G p.tables e below _ (T156.setTop (mkF m 181 #[.val (.int x0), .val (.int x1), .val (.long x2), .second, .val (.int x3), .val (.int (own_off x0)), .val (.int (own_len x0 x1)), .val (.ref b81), .val (.ref b111), .val (.int (0 : Int32))] [(.ref b81), (.ref b111)]))
            obtain ⟨T158, X158, e158, st158⟩ := own_callV X156 hx hZ (y := (⟨"com/example/davka/davka/layout/Field", "isBlankIn", "([C)Z"⟩ : MethodName)) hown (hw _ (List.mem_of_getElem? (i := 45) rfl)) (hw _ (List.mem_of_getElem? (i := 46) rfl)) (hw _ (List.mem_of_getElem? (i := 48) rfl)) (hw _ (List.mem_of_getElem? (i := 47) rfl)) (hw _ (List.mem_of_getElem? (i := 9) rfl)) (hw _ (List.mem_of_getElem? (i := 49) rfl)) (by decide) (W := 0) (rm6 l Z a0 hw [] b111 b81 k81 (own_off x0) (own_len x0 x1) (own_cs x2) T136.heap G_138 G_139 V_140 hoff hto) (by decide) (by decide) rfl rfl e156 G_137 (g := (mkF m 181 #[.val (.int x0), .val (.int x1), .val (.long x2), .second, .val (.int x3), .val (.int (own_off x0)), .val (.int (own_len x0 x1)), .val (.ref b81), .val (.ref b111), .val (.int (0 : Int32))] [(.ref b81), (.ref b111)])) rfl (by rw [hml]; rfl) (argsL := [(.ref b81)]) (rest := []) (lenOf own_pd4 rfl) rfl rfl (by show 2 * 0 + _ ≤ _; exact Nat.le_of_eq rfl) (hb hby at_181) (by decide) (by decide)
            refine own_go st158 ?_
            show own_G p.tables e below _ (T158.setTop (mkF m 184 #[.val (.int x0), .val (.int x1), .val (.long x2), .second, .val (.int x3), .val (.int (own_off x0)), .val (.int (own_len x0 x1)), .val (.ref b81), .val (.ref b111), .val (.int (0 : Int32))] [(.int (F6  (own_off x0) (own_len x0 x1) (own_cs x2)))]))
            refine own_go (fun _ k => XS.iload X158.here hx rfl (hb hby at_184) rfl k) ?_
            show own_G p.tables e below _ (T158.setTop (mkF m 186 #[.val (.int x0), .val (.int x1), .val (.long x2), .second, .val (.int x3), .val (.int (own_off x0)), .val (.int (own_len x0 x1)), .val (.ref b81), .val (.ref b111), .val (.int (0 : Int32))] [(.int (0 : Int32)), (.int (F6  (own_off x0) (own_len x0 x1) (own_cs x2)))]))
            by_cases hc186_159 : (F6  (own_off x0) (own_len x0 x1) (own_cs x2)) = (0 : Int32)
            · refine own_go (fun _ k => XS.icmpNo X158.here hx rfl (hb hby at_186) rfl ((teq hc186_159).2) k) ?_
              show own_G p.tables e below _ (T158.setTop (mkF m 189 #[.val (.int x0), .val (.int x1), .val (.long x2), .second, .val (.int x3), .val (.int (own_off x0)), .val (.int (own_len x0 x1)), .val (.ref b81), .val (.ref b111), .val (.int (0 : Int32))] []))
              refine own_go (fun _ k => XS.iconst X158.here hx rfl (hb hby at_189) k) ?_
              show own_G p.tables e below _ (T158.setTop (mkF m 190 #[.val (.int x0), .val (.int x1), .val (.long x2), .second, .val (.int x3), .val (.int (own_off x0)), .val (.int (own_len x0 x1)), .val (.ref b81), .val (.ref b111), .val (.int (0 : Int32))] [(.int (1 : Int32))]))
              refine own_go (fun _ k => XS.goto X158.here hx rfl (pc0 := 190) (pc' := 194) rfl (hb hby at_190) (by decide) (by decide) k) ?_
              show own_G p.tables e below _ (T158.setTop (mkF m 194 #[.val (.int x0), .val (.int x1), .val (.long x2), .second, .val (.int x3), .val (.int (own_off x0)), .val (.int (own_len x0 x1)), .val (.ref b81), .val (.ref b111), .val (.int (0 : Int32))] [(.int (1 : Int32))]))
              exact own_endW X158 Bd.notSynchronized hS (by rw [e158]; exact hk_143) (v := some (.int (nar .boolean (1 : Int32)))) (fun h => by rw [Bd.returns] at h; cases h) (Q := QL (some (.int (F0 x0 x1 x2 x3))) n0) ⟨by unfold F0; simp only [if_pos hc92_135, if_neg hc115_145, if_neg hc128_149, if_neg hc141_153, if_pos hc154_157, if_pos hc186_159]; try rfl, N_136⟩ (fun fs hr => retN X158 hx (t := .boolean) Bd.returns (by simp) (hb hby at_194) hr) (by decide) (by decide)
            · refine own_go (fun _ k => XS.icmpYes X158.here hx rfl (pc0 := 186) (pc' := 193) rfl (hb hby at_186) rfl ((feq hc186_159).2) (by decide) (by decide) k) ?_
              show own_G p.tables e below _ (T158.setTop (mkF m 193 #[.val (.int x0), .val (.int x1), .val (.long x2), .second, .val (.int x3), .val (.int (own_off x0)), .val (.int (own_len x0 x1)), .val (.ref b81), .val (.ref b111), .val (.int (0 : Int32))] []))
              refine own_go (fun _ k => XS.iconst X158.here hx rfl (hb hby at_193) k) ?_
              show own_G p.tables e below _ (T158.setTop (mkF m 194 #[.val (.int x0), .val (.int x1), .val (.long x2), .second, .val (.int x3), .val (.int (own_off x0)), .val (.int (own_len x0 x1)), .val (.ref b81), .val (.ref b111), .val (.int (0 : Int32))] [(.int (0 : Int32))]))
              exact own_endW X158 Bd.notSynchronized hS (by rw [e158]; exact hk_143) (v := some (.int (nar .boolean (0 : Int32)))) (fun h => by rw [Bd.returns] at h; cases h) (Q := QL (some (.int (F0 x0 x1 x2 x3))) n0) ⟨by unfold F0; simp only [if_pos hc92_135, if_neg hc115_145, if_neg hc128_149, if_neg hc141_153, if_pos hc154_157, if_neg hc186_159]; try rfl, N_136⟩ (fun fs hr => retN X158 hx (t := .boolean) Bd.returns (by simp) (hb hby at_194) hr) (by decide) (by decide)
          · refine own_go (fun _ k => XS.ifNo X156.here hx rfl (hb hby at_154) rfl (((if0 _ _).trans (feq hc154_157).1)) k) ?_
            show own_G p.tables e below _ (T156.setTop (mkF m 157 #[.val (.int x0), .val (.int x1), .val (.long x2), .second, .val (.int x3), .val (.int (own_off x0)), .val (.int (own_len x0 x1)), .val (.ref b81), .val (.ref b111), .unset] []))
            refine own_go (fun _ k => XS.aload X156.here hx rfl (hb hby at_157) rfl rfl k) ?_
            show own_G p.tables e below _ (T156.setTop (mkF m 159 #[.val (.int x0), .val (.int x1), .val (.long x2), .second, .val (.int x3), .val (.int (own_off x0)), .val (.int (own_len x0 x1)), .val (.ref b81), .val (.ref b111), .unset] [(.ref b81)]))
            refine own_go (fun _ k => XS.iconst X156.here hx rfl (hb hby at_159) k) ?_
            show own_G p.tables e below _ (T156.setTop (mkF m 160 #[.val (.int x0), .val (.int x1), .val (.long x2), .second, .val (.int x3), .val (.int (own_off x0)), .val (.int (own_len x0 x1)), .val (.ref b81), .val (.ref b111), .unset] [(.int (4 : Int32)), (.ref b81)]))
            refine own_go (fun _ k => XS.iload X156.here hx rfl (hb hby at_160) rfl k) ?_
            show own_G p.tables e below _ (T156.setTop (mkF m 162 #[.val (.int x0), .val (.int x1), .val (.long x2), .second, .val (.int x3), .val (.int (own_off x0)), .val (.int (own_len x0 x1)), .val (.ref b81), .val (.ref b111), .unset] [(.int (own_off x0)), (.int (4 : Int32)), (.ref b81)]))
            refine own_go (fun _ k => XS.iload X156.here hx rfl (hb hby at_162) rfl k) ?_
            show own_G p.tables e below _ (T156.setTop (mkF m 164 #[.val (.int x0), .val (.int x1), .val (.long x2), .second, .val (.int x3), .val (.int (own_off x0)), .val (.int (own_len x0 x1)), .val (.ref b81), .val (.ref b111), .unset] [(.int (own_len x0 x1)), (.int (own_off x0)), (.int (4 : Int32)), (.ref b81)]))
            obtain ⟨T160, X160, e160, st160⟩ := own_callP X156 hx hZ (y := (⟨"com/example/davka/davka/layout/FieldIsBlankInPinLaw", "ok", "([CIII)Z"⟩ : MethodName)) hown (hw _ (List.mem_of_getElem? (i := 42) rfl)) (hw _ (List.mem_of_getElem? (i := 43) rfl)) (hw _ (List.mem_of_getElem? (i := 4) rfl)) (hw _ (List.mem_of_getElem? (i := 44) rfl)) (by decide) (W := 0) (rm5 l Z a0 hw [] b81 (4 : Int32) (own_off x0) (own_len x0 x1) k81 (own_cs x2) T136.heap V_140 hoff hto) (by decide) (by decide) rfl rfl e156 (g := (mkF m 164 #[.val (.int x0), .val (.int x1), .val (.long x2), .second, .val (.int x3), .val (.int (own_off x0)), .val (.int (own_len x0 x1)), .val (.ref b81), .val (.ref b111), .unset] [(.int (own_len x0 x1)), (.int (own_off x0)), (.int (4 : Int32)), (.ref b81)])) rfl (by rw [hml]; rfl) (argsL := [(.ref b81), (.int (4 : Int32)), (.int (own_off x0)), (.int (own_len x0 x1))]) (rest := []) (lenOf own_pd3 rfl) rfl rfl (by show 2 * 0 + _ ≤ _; exact Nat.le_of_eq rfl) (hb hby at_164) (by decide) (by decide)
            refine own_go st160 ?_
            show own_G p.tables e below _ (T160.setTop (mkF m 167 #[.val (.int x0), .val (.int x1), .val (.long x2), .second, .val (.int x3), .val (.int (own_off x0)), .val (.int (own_len x0 x1)), .val (.ref b81), .val (.ref b111), .unset] [(.int (F5 (4 : Int32) (own_off x0) (own_len x0 x1) (own_cs x2)))]))
            by_cases hc167_161 : (F5 (4 : Int32) (own_off x0) (own_len x0 x1) (own_cs x2)) = (0 : Int32)
            · refine own_go (fun _ k => XS.ifYes X160.here hx rfl (pc0 := 167) (pc' := 174) rfl (hb hby at_167) rfl (((if0 _ _).trans (teq hc167_161).1)) (by decide) (by decide) k) ?_
              show own_G p.tables e below _ (T160.setTop (mkF m 174 #[.val (.int x0), .val (.int x1), .val (.long x2), .second, .val (.int x3), .val (.int (own_off x0)), .val (.int (own_len x0 x1)), .val (.ref b81), .val (.ref b111), .unset] []))
              refine own_go (fun _ k => XS.iconst X160.here hx rfl (hb hby at_174) k) ?_
              show own_G p.tables e below _ (T160.setTop (mkF m 175 #[.val (.int x0), .val (.int x1), .val (.long x2), .second, .val (.int x3), .val (.int (own_off x0)), .val (.int (own_len x0 x1)), .val (.ref b81), .val (.ref b111), .unset] [(.int (0 : Int32))]))
              refine own_go (fun _ k => XS.istore X160.here hx rfl (hb hby at_175) rfl (l' := #[.val (.int x0), .val (.int x1), .val (.long x2), .second, .val (.int x3), .val (.int (own_off x0)), .val (.int (own_len x0 x1)), .val (.ref b81), .val (.ref b111), .val (.int (0 : Int32))]) rfl k) ?_
              show own_G p.tables e below _ (T160.setTop (mkF m 177 #[.val (.int x0), .val (.int x1), .val (.long x2), .second, .val (.int x3), .val (.int (own_off x0)), .val (.int (own_len x0 x1)), .val (.ref b81), .val (.ref b111), .val (.int (0 : Int32))] []))
              refine own_go (fun _ k => XS.aload X160.here hx rfl (hb hby at_177) rfl rfl k) ?_
              show own_G p.tables e below _ (T160.setTop (mkF m 179 #[.val (.int x0), .val (.int x1), .val (.long x2), .second, .val (.int x3), .val (.int (own_off x0)), .val (.int (own_len x0 x1)), .val (.ref b81), .val (.ref b111), .val (.int (0 : Int32))] [(.ref b111)]))
              refine own_go (fun _ k => XS.aload X160.here hx rfl (hb hby at_179) rfl rfl k) ?_
              show own_G p.tables e below _ (T160.setTop (mkF m 181 #[.val (.int x0), .val (.int x1), .val (.long x2), .second, .val (.int x3), .val (.int (own_off x0)), .val (.int (own_len x0 x1)), .val (.ref b81), .val (.ref b111), .val (.int (0 : Int32))] [(.ref b81), (.ref b111)]))
              obtain ⟨T162, X162, e162, st162⟩ := own_callV X160 hx hZ (y := (⟨"com/example/davka/davka/layout/Field", "isBlankIn", "([C)Z"⟩ : MethodName)) hown (hw _ (List.mem_of_getElem? (i := 45) rfl)) (hw _ (List.mem_of_getElem? (i := 46) rfl)) (hw _ (List.mem_of_getElem? (i := 48) rfl)) (hw _ (List.mem_of_getElem? (i := 47) rfl)) (hw _ (List.mem_of_getElem? (i := 9) rfl)) (hw _ (List.mem_of_getElem? (i := 49) rfl)) (by decide) (W := 0) (rm6 l Z a0 hw [] b111 b81 k81 (own_off x0) (own_len x0 x1) (own_cs x2) T136.heap G_138 G_139 V_140 hoff hto) (by decide) (by decide) rfl rfl e160 G_137 (g := (mkF m 181 #[.val (.int x0), .val (.int x1), .val (.long x2), .second, .val (.int x3), .val (.int (own_off x0)), .val (.int (own_len x0 x1)), .val (.ref b81), .val (.ref b111), .val (.int (0 : Int32))] [(.ref b81), (.ref b111)])) rfl (by rw [hml]; rfl) (argsL := [(.ref b81)]) (rest := []) (lenOf own_pd4 rfl) rfl rfl (by show 2 * 0 + _ ≤ _; exact Nat.le_of_eq rfl) (hb hby at_181) (by decide) (by decide)
              refine own_go st162 ?_
              show own_G p.tables e below _ (T162.setTop (mkF m 184 #[.val (.int x0), .val (.int x1), .val (.long x2), .second, .val (.int x3), .val (.int (own_off x0)), .val (.int (own_len x0 x1)), .val (.ref b81), .val (.ref b111), .val (.int (0 : Int32))] [(.int (F6  (own_off x0) (own_len x0 x1) (own_cs x2)))]))
              refine own_go (fun _ k => XS.iload X162.here hx rfl (hb hby at_184) rfl k) ?_
              show own_G p.tables e below _ (T162.setTop (mkF m 186 #[.val (.int x0), .val (.int x1), .val (.long x2), .second, .val (.int x3), .val (.int (own_off x0)), .val (.int (own_len x0 x1)), .val (.ref b81), .val (.ref b111), .val (.int (0 : Int32))] [(.int (0 : Int32)), (.int (F6  (own_off x0) (own_len x0 x1) (own_cs x2)))]))
              by_cases hc186_163 : (F6  (own_off x0) (own_len x0 x1) (own_cs x2)) = (0 : Int32)
              · refine own_go (fun _ k => XS.icmpNo X162.here hx rfl (hb hby at_186) rfl ((teq hc186_163).2) k) ?_
                show own_G p.tables e below _ (T162.setTop (mkF m 189 #[.val (.int x0), .val (.int x1), .val (.long x2), .second, .val (.int x3), .val (.int (own_off x0)), .val (.int (own_len x0 x1)), .val (.ref b81), .val (.ref b111), .val (.int (0 : Int32))] []))
                refine own_go (fun _ k => XS.iconst X162.here hx rfl (hb hby at_189) k) ?_
                show own_G p.tables e below _ (T162.setTop (mkF m 190 #[.val (.int x0), .val (.int x1), .val (.long x2), .second, .val (.int x3), .val (.int (own_off x0)), .val (.int (own_len x0 x1)), .val (.ref b81), .val (.ref b111), .val (.int (0 : Int32))] [(.int (1 : Int32))]))
                refine own_go (fun _ k => XS.goto X162.here hx rfl (pc0 := 190) (pc' := 194) rfl (hb hby at_190) (by decide) (by decide) k) ?_
                show own_G p.tables e below _ (T162.setTop (mkF m 194 #[.val (.int x0), .val (.int x1), .val (.long x2), .second, .val (.int x3), .val (.int (own_off x0)), .val (.int (own_len x0 x1)), .val (.ref b81), .val (.ref b111), .val (.int (0 : Int32))] [(.int (1 : Int32))]))
                exact own_endW X162 Bd.notSynchronized hS (by rw [e162]; exact hk_143) (v := some (.int (nar .boolean (1 : Int32)))) (fun h => by rw [Bd.returns] at h; cases h) (Q := QL (some (.int (F0 x0 x1 x2 x3))) n0) ⟨by unfold F0; simp only [if_pos hc92_135, if_neg hc115_145, if_neg hc128_149, if_neg hc141_153, if_neg hc154_157, if_pos hc167_161, if_pos hc186_163]; try rfl, N_136⟩ (fun fs hr => retN X162 hx (t := .boolean) Bd.returns (by simp) (hb hby at_194) hr) (by decide) (by decide)
              · refine own_go (fun _ k => XS.icmpYes X162.here hx rfl (pc0 := 186) (pc' := 193) rfl (hb hby at_186) rfl ((feq hc186_163).2) (by decide) (by decide) k) ?_
                show own_G p.tables e below _ (T162.setTop (mkF m 193 #[.val (.int x0), .val (.int x1), .val (.long x2), .second, .val (.int x3), .val (.int (own_off x0)), .val (.int (own_len x0 x1)), .val (.ref b81), .val (.ref b111), .val (.int (0 : Int32))] []))
                refine own_go (fun _ k => XS.iconst X162.here hx rfl (hb hby at_193) k) ?_
                show own_G p.tables e below _ (T162.setTop (mkF m 194 #[.val (.int x0), .val (.int x1), .val (.long x2), .second, .val (.int x3), .val (.int (own_off x0)), .val (.int (own_len x0 x1)), .val (.ref b81), .val (.ref b111), .val (.int (0 : Int32))] [(.int (0 : Int32))]))
                exact own_endW X162 Bd.notSynchronized hS (by rw [e162]; exact hk_143) (v := some (.int (nar .boolean (0 : Int32)))) (fun h => by rw [Bd.returns] at h; cases h) (Q := QL (some (.int (F0 x0 x1 x2 x3))) n0) ⟨by unfold F0; simp only [if_pos hc92_135, if_neg hc115_145, if_neg hc128_149, if_neg hc141_153, if_neg hc154_157, if_pos hc167_161, if_neg hc186_163]; try rfl, N_136⟩ (fun fs hr => retN X162 hx (t := .boolean) Bd.returns (by simp) (hb hby at_194) hr) (by decide) (by decide)
            · refine own_go (fun _ k => XS.ifNo X160.here hx rfl (hb hby at_167) rfl (((if0 _ _).trans (feq hc167_161).1)) k) ?_
              show own_G p.tables e below _ (T160.setTop (mkF m 170 #[.val (.int x0), .val (.int x1), .val (.long x2), .second, .val (.int x3), .val (.int (own_off x0)), .val (.int (own_len x0 x1)), .val (.ref b81), .val (.ref b111), .unset] []))
              refine own_go (fun _ k => XS.iconst X160.here hx rfl (hb hby at_170) k) ?_
              show own_G p.tables e below _ (T160.setTop (mkF m 171 #[.val (.int x0), .val (.int x1), .val (.long x2), .second, .val (.int x3), .val (.int (own_off x0)), .val (.int (own_len x0 x1)), .val (.ref b81), .val (.ref b111), .unset] [(.int (1 : Int32))]))
              refine own_go (fun _ k => XS.goto X160.here hx rfl (pc0 := 171) (pc' := 175) rfl (hb hby at_171) (by decide) (by decide) k) ?_
              show own_G p.tables e below _ (T160.setTop (mkF m 175 #[.val (.int x0), .val (.int x1), .val (.long x2), .second, .val (.int x3), .val (.int (own_off x0)), .val (.int (own_len x0 x1)), .val (.ref b81), .val (.ref b111), .unset] [(.int (1 : Int32))]))
              refine own_go (fun _ k => XS.istore X160.here hx rfl (hb hby at_175) rfl (l' := #[.val (.int x0), .val (.int x1), .val (.long x2), .second, .val (.int x3), .val (.int (own_off x0)), .val (.int (own_len x0 x1)), .val (.ref b81), .val (.ref b111), .val (.int (1 : Int32))]) rfl k) ?_
              show own_G p.tables e below _ (T160.setTop (mkF m 177 #[.val (.int x0), .val (.int x1), .val (.long x2), .second, .val (.int x3), .val (.int (own_off x0)), .val (.int (own_len x0 x1)), .val (.ref b81), .val (.ref b111), .val (.int (1 : Int32))] []))
              refine own_go (fun _ k => XS.aload X160.here hx rfl (hb hby at_177) rfl rfl k) ?_
              show own_G p.tables e below _ (T160.setTop (mkF m 179 #[.val (.int x0), .val (.int x1), .val (.long x2), .second, .val (.int x3), .val (.int (own_off x0)), .val (.int (own_len x0 x1)), .val (.ref b81), .val (.ref b111), .val (.int (1 : Int32))] [(.ref b111)]))
              refine own_go (fun _ k => XS.aload X160.here hx rfl (hb hby at_179) rfl rfl k) ?_
              show own_G p.tables e below _ (T160.setTop (mkF m 181 #[.val (.int x0), .val (.int x1), .val (.long x2), .second, .val (.int x3), .val (.int (own_off x0)), .val (.int (own_len x0 x1)), .val (.ref b81), .val (.ref b111), .val (.int (1 : Int32))] [(.ref b81), (.ref b111)]))
              obtain ⟨T164, X164, e164, st164⟩ := own_callV X160 hx hZ (y := (⟨"com/example/davka/davka/layout/Field", "isBlankIn", "([C)Z"⟩ : MethodName)) hown (hw _ (List.mem_of_getElem? (i := 45) rfl)) (hw _ (List.mem_of_getElem? (i := 46) rfl)) (hw _ (List.mem_of_getElem? (i := 48) rfl)) (hw _ (List.mem_of_getElem? (i := 47) rfl)) (hw _ (List.mem_of_getElem? (i := 9) rfl)) (hw _ (List.mem_of_getElem? (i := 49) rfl)) (by decide) (W := 0) (rm6 l Z a0 hw [] b111 b81 k81 (own_off x0) (own_len x0 x1) (own_cs x2) T136.heap G_138 G_139 V_140 hoff hto) (by decide) (by decide) rfl rfl e160 G_137 (g := (mkF m 181 #[.val (.int x0), .val (.int x1), .val (.long x2), .second, .val (.int x3), .val (.int (own_off x0)), .val (.int (own_len x0 x1)), .val (.ref b81), .val (.ref b111), .val (.int (1 : Int32))] [(.ref b81), (.ref b111)])) rfl (by rw [hml]; rfl) (argsL := [(.ref b81)]) (rest := []) (lenOf own_pd4 rfl) rfl rfl (by show 2 * 0 + _ ≤ _; exact Nat.le_of_eq rfl) (hb hby at_181) (by decide) (by decide)
              refine own_go st164 ?_
              show own_G p.tables e below _ (T164.setTop (mkF m 184 #[.val (.int x0), .val (.int x1), .val (.long x2), .second, .val (.int x3), .val (.int (own_off x0)), .val (.int (own_len x0 x1)), .val (.ref b81), .val (.ref b111), .val (.int (1 : Int32))] [(.int (F6  (own_off x0) (own_len x0 x1) (own_cs x2)))]))
              refine own_go (fun _ k => XS.iload X164.here hx rfl (hb hby at_184) rfl k) ?_
              show own_G p.tables e below _ (T164.setTop (mkF m 186 #[.val (.int x0), .val (.int x1), .val (.long x2), .second, .val (.int x3), .val (.int (own_off x0)), .val (.int (own_len x0 x1)), .val (.ref b81), .val (.ref b111), .val (.int (1 : Int32))] [(.int (1 : Int32)), (.int (F6  (own_off x0) (own_len x0 x1) (own_cs x2)))]))
              by_cases hc186_165 : (F6  (own_off x0) (own_len x0 x1) (own_cs x2)) = (1 : Int32)
              · refine own_go (fun _ k => XS.icmpNo X164.here hx rfl (hb hby at_186) rfl ((teq hc186_165).2) k) ?_
                show own_G p.tables e below _ (T164.setTop (mkF m 189 #[.val (.int x0), .val (.int x1), .val (.long x2), .second, .val (.int x3), .val (.int (own_off x0)), .val (.int (own_len x0 x1)), .val (.ref b81), .val (.ref b111), .val (.int (1 : Int32))] []))
                refine own_go (fun _ k => XS.iconst X164.here hx rfl (hb hby at_189) k) ?_
                show own_G p.tables e below _ (T164.setTop (mkF m 190 #[.val (.int x0), .val (.int x1), .val (.long x2), .second, .val (.int x3), .val (.int (own_off x0)), .val (.int (own_len x0 x1)), .val (.ref b81), .val (.ref b111), .val (.int (1 : Int32))] [(.int (1 : Int32))]))
                refine own_go (fun _ k => XS.goto X164.here hx rfl (pc0 := 190) (pc' := 194) rfl (hb hby at_190) (by decide) (by decide) k) ?_
                show own_G p.tables e below _ (T164.setTop (mkF m 194 #[.val (.int x0), .val (.int x1), .val (.long x2), .second, .val (.int x3), .val (.int (own_off x0)), .val (.int (own_len x0 x1)), .val (.ref b81), .val (.ref b111), .val (.int (1 : Int32))] [(.int (1 : Int32))]))
                exact own_endW X164 Bd.notSynchronized hS (by rw [e164]; exact hk_143) (v := some (.int (nar .boolean (1 : Int32)))) (fun h => by rw [Bd.returns] at h; cases h) (Q := QL (some (.int (F0 x0 x1 x2 x3))) n0) ⟨by unfold F0; simp only [if_pos hc92_135, if_neg hc115_145, if_neg hc128_149, if_neg hc141_153, if_neg hc154_157, if_neg hc167_161, if_pos hc186_165]; try rfl, N_136⟩ (fun fs hr => retN X164 hx (t := .boolean) Bd.returns (by simp) (hb hby at_194) hr) (by decide) (by decide)
              · refine own_go (fun _ k => XS.icmpYes X164.here hx rfl (pc0 := 186) (pc' := 193) rfl (hb hby at_186) rfl ((feq hc186_165).2) (by decide) (by decide) k) ?_
                show own_G p.tables e below _ (T164.setTop (mkF m 193 #[.val (.int x0), .val (.int x1), .val (.long x2), .second, .val (.int x3), .val (.int (own_off x0)), .val (.int (own_len x0 x1)), .val (.ref b81), .val (.ref b111), .val (.int (1 : Int32))] []))
                refine own_go (fun _ k => XS.iconst X164.here hx rfl (hb hby at_193) k) ?_
                show own_G p.tables e below _ (T164.setTop (mkF m 194 #[.val (.int x0), .val (.int x1), .val (.long x2), .second, .val (.int x3), .val (.int (own_off x0)), .val (.int (own_len x0 x1)), .val (.ref b81), .val (.ref b111), .val (.int (1 : Int32))] [(.int (0 : Int32))]))
                exact own_endW X164 Bd.notSynchronized hS (by rw [e164]; exact hk_143) (v := some (.int (nar .boolean (0 : Int32)))) (fun h => by rw [Bd.returns] at h; cases h) (Q := QL (some (.int (F0 x0 x1 x2 x3))) n0) ⟨by unfold F0; simp only [if_pos hc92_135, if_neg hc115_145, if_neg hc128_149, if_neg hc141_153, if_neg hc154_157, if_neg hc167_161, if_neg hc186_165]; try rfl, N_136⟩ (fun fs hr => retN X164 hx (t := .boolean) Bd.returns (by simp) (hb hby at_194) hr) (by decide) (by decide)
  · refine own_go (fun _ k => XS.ifNo X134.here hx rfl (hb hby at_92) rfl (((if0 _ _).trans (feq hc92_135).1)) k) ?_
    show own_G p.tables e below _ (T134.setTop (mkF m 95 #[.val (.int x0), .val (.int x1), .val (.long x2), .second, .val (.int x3), .val (.int (own_off x0)), .val (.int (own_len x0 x1)), .val (.ref b81), .unset, .unset] [(.ref kz), (.int (own_len x0 x1)), (.int (own_off x0)), (.ref b123), (.ref b111), (.ref b111)]))
    refine own_go (fun _ k => XS.iconst X134.here hx rfl (hb hby at_95) k) ?_
    show own_G p.tables e below _ (T134.setTop (mkF m 96 #[.val (.int x0), .val (.int x1), .val (.long x2), .second, .val (.int x3), .val (.int (own_off x0)), .val (.int (own_len x0 x1)), .val (.ref b81), .unset, .unset] [(.int (1 : Int32)), (.ref kz), (.int (own_len x0 x1)), (.int (own_off x0)), (.ref b123), (.ref b111), (.ref b111)]))
    refine own_go (fun _ k => XS.goto X134.here hx rfl (pc0 := 96) (pc' := 100) rfl (hb hby at_96) (by decide) (by decide) k) ?_
    show own_G p.tables e below _ (T134.setTop (mkF m 100 #[.val (.int x0), .val (.int x1), .val (.long x2), .second, .val (.int x3), .val (.int (own_off x0)), .val (.int (own_len x0 x1)), .val (.ref b81), .unset, .unset] [(.int (1 : Int32)), (.ref kz), (.int (own_len x0 x1)), (.int (own_off x0)), (.ref b123), (.ref b111), (.ref b111)]))
    obtain ⟨_, _, ⟨T166, L166, k166, n166⟩, -, X166, ⟨Lc166, hQ166, l166, y166, z166⟩, st166⟩ := X134.specialBack hx (y := (⟨"com/example/davka/davka/layout/Field", "<init>", "(Ljava/lang/String;IILcom/example/davka/davka/layout/FieldKind;Z)V"⟩ : MethodName)) rfl hown (mvT hZ (hw _ (List.mem_of_getElem? (i := 21) rfl))) (mvT hZ (hw _ (List.mem_of_getElem? (i := 22) rfl))) (mvT hZ (hw _ (List.mem_of_getElem? (i := 23) rfl))) (by decide) (backOf (W := 1) (rm2 l Z a0 hw [] b111 b123 (own_off x0) (own_len x0 x1) kz (1 : Int32)  h123 n0 Z_132 X_126 ge_113 F_127 F_128 F_129 F_130 F_131) hZ (hw _ (List.mem_of_getElem? (i := 23) rfl)) (hw _ (List.mem_of_getElem? (i := 9) rfl)) (by decide) (by decide)) (g := (mkF m 100 #[.val (.int x0), .val (.int x1), .val (.long x2), .second, .val (.int x3), .val (.int (own_off x0)), .val (.int (own_len x0 x1)), .val (.ref b81), .unset, .unset] [(.int (1 : Int32)), (.ref kz), (.int (own_len x0 x1)), (.int (own_off x0)), (.ref b123), (.ref b111), (.ref b111)])) rfl (by rw [hml]; rfl) (Steps.refl _) (a := b111) (argsL := [(.ref b123), (.int (own_off x0)), (.int (own_len x0 x1)), (.ref kz), (.int (1 : Int32))]) (rest := [(.ref b111)]) (lenOf own_pd2 rfl) rfl (by show 2 * 0 + _ ≤ _; exact Nat.le_of_eq rfl) (hb hby at_100) (fun _ _ => ⟨rfl, e134, (by decide : 4 + 0 ≤ _), (by decide : 18 + 0 ≤ _)⟩)
    dsimp only [Pt.U, Pt.locs, Pt.cells, Pt.slots] at X166 l166 y166 z166 st166 hQ166
    subst l166 y166 z166
    obtain ⟨rfl, Nq166, K166, G_167, G_168, G_169⟩ := hQ166
    have V_170 := V_125.keep K166 (ninS ne_112 nin0)
    have X_171 := X_126.keep K166
    have Z_172 : n0 ≤ T166.heap.size := Nat.le_trans Z_132 K166.1
    have hk_173 := Nat.le_trans hk123 K166.1
    have N_166 := Fr.app N_107 Nq166
    refine own_go (fun _ k => st166.trans k) ?_
    show own_G p.tables e below _ (T166.setTop (mkF m 103 #[.val (.int x0), .val (.int x1), .val (.long x2), .second, .val (.int x3), .val (.int (own_off x0)), .val (.int (own_len x0 x1)), .val (.ref b81), .unset, .unset] [(.ref b111)]))
    refine own_go (fun _ k => XS.astore X166.here hx rfl (hb hby at_103) rfl rfl (l' := #[.val (.int x0), .val (.int x1), .val (.long x2), .second, .val (.int x3), .val (.int (own_off x0)), .val (.int (own_len x0 x1)), .val (.ref b81), .val (.ref b111), .unset]) rfl k) ?_
    show own_G p.tables e below _ (T166.setTop (mkF m 105 #[.val (.int x0), .val (.int x1), .val (.long x2), .second, .val (.int x3), .val (.int (own_off x0)), .val (.int (own_len x0 x1)), .val (.ref b81), .val (.ref b111), .unset] []))
    refine own_go (fun _ k => XS.aload X166.here hx rfl (hb hby at_105) rfl rfl k) ?_
    show own_G p.tables e below _ (T166.setTop (mkF m 107 #[.val (.int x0), .val (.int x1), .val (.long x2), .second, .val (.int x3), .val (.int (own_off x0)), .val (.int (own_len x0 x1)), .val (.ref b81), .val (.ref b111), .unset] [(.ref b81)]))
    refine own_go (fun _ k => XS.iconst X166.here hx rfl (hb hby at_107) k) ?_
    show own_G p.tables e below _ (T166.setTop (mkF m 108 #[.val (.int x0), .val (.int x1), .val (.long x2), .second, .val (.int x3), .val (.int (own_off x0)), .val (.int (own_len x0 x1)), .val (.ref b81), .val (.ref b111), .unset] [(.int (0 : Int32)), (.ref b81)]))
    refine own_go (fun _ k => XS.iload X166.here hx rfl (hb hby at_108) rfl k) ?_
    show own_G p.tables e below _ (T166.setTop (mkF m 110 #[.val (.int x0), .val (.int x1), .val (.long x2), .second, .val (.int x3), .val (.int (own_off x0)), .val (.int (own_len x0 x1)), .val (.ref b81), .val (.ref b111), .unset] [(.int (own_off x0)), (.int (0 : Int32)), (.ref b81)]))
    refine own_go (fun _ k => XS.iload X166.here hx rfl (hb hby at_110) rfl k) ?_
    show own_G p.tables e below _ (T166.setTop (mkF m 112 #[.val (.int x0), .val (.int x1), .val (.long x2), .second, .val (.int x3), .val (.int (own_off x0)), .val (.int (own_len x0 x1)), .val (.ref b81), .val (.ref b111), .unset] [(.int (own_len x0 x1)), (.int (own_off x0)), (.int (0 : Int32)), (.ref b81)]))
    obtain ⟨T174, X174, e174, st174⟩ := own_callP X166 hx hZ (y := (⟨"com/example/davka/davka/layout/FieldIsBlankInPinLaw", "ok", "([CIII)Z"⟩ : MethodName)) hown (hw _ (List.mem_of_getElem? (i := 42) rfl)) (hw _ (List.mem_of_getElem? (i := 43) rfl)) (hw _ (List.mem_of_getElem? (i := 4) rfl)) (hw _ (List.mem_of_getElem? (i := 44) rfl)) (by decide) (W := 0) (rm5 l Z a0 hw [] b81 (0 : Int32) (own_off x0) (own_len x0 x1) k81 (own_cs x2) T166.heap V_170 hoff hto) (by decide) (by decide) rfl rfl rfl (g := (mkF m 112 #[.val (.int x0), .val (.int x1), .val (.long x2), .second, .val (.int x3), .val (.int (own_off x0)), .val (.int (own_len x0 x1)), .val (.ref b81), .val (.ref b111), .unset] [(.int (own_len x0 x1)), (.int (own_off x0)), (.int (0 : Int32)), (.ref b81)])) rfl (by rw [hml]; rfl) (argsL := [(.ref b81), (.int (0 : Int32)), (.int (own_off x0)), (.int (own_len x0 x1))]) (rest := []) (lenOf own_pd3 rfl) rfl rfl (by show 2 * 0 + _ ≤ _; exact Nat.le_of_eq rfl) (hb hby at_112) (by decide) (by decide)
    refine own_go st174 ?_
    show own_G p.tables e below _ (T174.setTop (mkF m 115 #[.val (.int x0), .val (.int x1), .val (.long x2), .second, .val (.int x3), .val (.int (own_off x0)), .val (.int (own_len x0 x1)), .val (.ref b81), .val (.ref b111), .unset] [(.int (F5 (0 : Int32) (own_off x0) (own_len x0 x1) (own_cs x2)))]))
    by_cases hc115_175 : (F5 (0 : Int32) (own_off x0) (own_len x0 x1) (own_cs x2)) = (0 : Int32)
    · refine own_go (fun _ k => XS.ifYes X174.here hx rfl (pc0 := 115) (pc' := 174) rfl (hb hby at_115) rfl (((if0 _ _).trans (teq hc115_175).1)) (by decide) (by decide) k) ?_
      show own_G p.tables e below _ (T174.setTop (mkF m 174 #[.val (.int x0), .val (.int x1), .val (.long x2), .second, .val (.int x3), .val (.int (own_off x0)), .val (.int (own_len x0 x1)), .val (.ref b81), .val (.ref b111), .unset] []))
      refine own_go (fun _ k => XS.iconst X174.here hx rfl (hb hby at_174) k) ?_
      show own_G p.tables e below _ (T174.setTop (mkF m 175 #[.val (.int x0), .val (.int x1), .val (.long x2), .second, .val (.int x3), .val (.int (own_off x0)), .val (.int (own_len x0 x1)), .val (.ref b81), .val (.ref b111), .unset] [(.int (0 : Int32))]))
      refine own_go (fun _ k => XS.istore X174.here hx rfl (hb hby at_175) rfl (l' := #[.val (.int x0), .val (.int x1), .val (.long x2), .second, .val (.int x3), .val (.int (own_off x0)), .val (.int (own_len x0 x1)), .val (.ref b81), .val (.ref b111), .val (.int (0 : Int32))]) rfl k) ?_
      show own_G p.tables e below _ (T174.setTop (mkF m 177 #[.val (.int x0), .val (.int x1), .val (.long x2), .second, .val (.int x3), .val (.int (own_off x0)), .val (.int (own_len x0 x1)), .val (.ref b81), .val (.ref b111), .val (.int (0 : Int32))] []))
      refine own_go (fun _ k => XS.aload X174.here hx rfl (hb hby at_177) rfl rfl k) ?_
      show own_G p.tables e below _ (T174.setTop (mkF m 179 #[.val (.int x0), .val (.int x1), .val (.long x2), .second, .val (.int x3), .val (.int (own_off x0)), .val (.int (own_len x0 x1)), .val (.ref b81), .val (.ref b111), .val (.int (0 : Int32))] [(.ref b111)]))
      refine own_go (fun _ k => XS.aload X174.here hx rfl (hb hby at_179) rfl rfl k) ?_
      show own_G p.tables e below _ (T174.setTop (mkF m 181 #[.val (.int x0), .val (.int x1), .val (.long x2), .second, .val (.int x3), .val (.int (own_off x0)), .val (.int (own_len x0 x1)), .val (.ref b81), .val (.ref b111), .val (.int (0 : Int32))] [(.ref b81), (.ref b111)]))
      obtain ⟨T176, X176, e176, st176⟩ := own_callV X174 hx hZ (y := (⟨"com/example/davka/davka/layout/Field", "isBlankIn", "([C)Z"⟩ : MethodName)) hown (hw _ (List.mem_of_getElem? (i := 45) rfl)) (hw _ (List.mem_of_getElem? (i := 46) rfl)) (hw _ (List.mem_of_getElem? (i := 48) rfl)) (hw _ (List.mem_of_getElem? (i := 47) rfl)) (hw _ (List.mem_of_getElem? (i := 9) rfl)) (hw _ (List.mem_of_getElem? (i := 49) rfl)) (by decide) (W := 0) (rm6 l Z a0 hw [] b111 b81 k81 (own_off x0) (own_len x0 x1) (own_cs x2) T166.heap G_168 G_169 V_170 hoff hto) (by decide) (by decide) rfl rfl e174 G_167 (g := (mkF m 181 #[.val (.int x0), .val (.int x1), .val (.long x2), .second, .val (.int x3), .val (.int (own_off x0)), .val (.int (own_len x0 x1)), .val (.ref b81), .val (.ref b111), .val (.int (0 : Int32))] [(.ref b81), (.ref b111)])) rfl (by rw [hml]; rfl) (argsL := [(.ref b81)]) (rest := []) (lenOf own_pd4 rfl) rfl rfl (by show 2 * 0 + _ ≤ _; exact Nat.le_of_eq rfl) (hb hby at_181) (by decide) (by decide)
      refine own_go st176 ?_
      show own_G p.tables e below _ (T176.setTop (mkF m 184 #[.val (.int x0), .val (.int x1), .val (.long x2), .second, .val (.int x3), .val (.int (own_off x0)), .val (.int (own_len x0 x1)), .val (.ref b81), .val (.ref b111), .val (.int (0 : Int32))] [(.int (F6  (own_off x0) (own_len x0 x1) (own_cs x2)))]))
      refine own_go (fun _ k => XS.iload X176.here hx rfl (hb hby at_184) rfl k) ?_
      show own_G p.tables e below _ (T176.setTop (mkF m 186 #[.val (.int x0), .val (.int x1), .val (.long x2), .second, .val (.int x3), .val (.int (own_off x0)), .val (.int (own_len x0 x1)), .val (.ref b81), .val (.ref b111), .val (.int (0 : Int32))] [(.int (0 : Int32)), (.int (F6  (own_off x0) (own_len x0 x1) (own_cs x2)))]))
      by_cases hc186_177 : (F6  (own_off x0) (own_len x0 x1) (own_cs x2)) = (0 : Int32)
      · refine own_go (fun _ k => XS.icmpNo X176.here hx rfl (hb hby at_186) rfl ((teq hc186_177).2) k) ?_
        show own_G p.tables e below _ (T176.setTop (mkF m 189 #[.val (.int x0), .val (.int x1), .val (.long x2), .second, .val (.int x3), .val (.int (own_off x0)), .val (.int (own_len x0 x1)), .val (.ref b81), .val (.ref b111), .val (.int (0 : Int32))] []))
        refine own_go (fun _ k => XS.iconst X176.here hx rfl (hb hby at_189) k) ?_
        show own_G p.tables e below _ (T176.setTop (mkF m 190 #[.val (.int x0), .val (.int x1), .val (.long x2), .second, .val (.int x3), .val (.int (own_off x0)), .val (.int (own_len x0 x1)), .val (.ref b81), .val (.ref b111), .val (.int (0 : Int32))] [(.int (1 : Int32))]))
        refine own_go (fun _ k => XS.goto X176.here hx rfl (pc0 := 190) (pc' := 194) rfl (hb hby at_190) (by decide) (by decide) k) ?_
        show own_G p.tables e below _ (T176.setTop (mkF m 194 #[.val (.int x0), .val (.int x1), .val (.long x2), .second, .val (.int x3), .val (.int (own_off x0)), .val (.int (own_len x0 x1)), .val (.ref b81), .val (.ref b111), .val (.int (0 : Int32))] [(.int (1 : Int32))]))
        exact own_endW X176 Bd.notSynchronized hS (by rw [e176]; exact hk_173) (v := some (.int (nar .boolean (1 : Int32)))) (fun h => by rw [Bd.returns] at h; cases h) (Q := QL (some (.int (F0 x0 x1 x2 x3))) n0) ⟨by unfold F0; simp only [if_neg hc92_135, if_pos hc115_175, if_pos hc186_177]; try rfl, N_166⟩ (fun fs hr => retN X176 hx (t := .boolean) Bd.returns (by simp) (hb hby at_194) hr) (by decide) (by decide)
      · refine own_go (fun _ k => XS.icmpYes X176.here hx rfl (pc0 := 186) (pc' := 193) rfl (hb hby at_186) rfl ((feq hc186_177).2) (by decide) (by decide) k) ?_
        show own_G p.tables e below _ (T176.setTop (mkF m 193 #[.val (.int x0), .val (.int x1), .val (.long x2), .second, .val (.int x3), .val (.int (own_off x0)), .val (.int (own_len x0 x1)), .val (.ref b81), .val (.ref b111), .val (.int (0 : Int32))] []))
        refine own_go (fun _ k => XS.iconst X176.here hx rfl (hb hby at_193) k) ?_
        show own_G p.tables e below _ (T176.setTop (mkF m 194 #[.val (.int x0), .val (.int x1), .val (.long x2), .second, .val (.int x3), .val (.int (own_off x0)), .val (.int (own_len x0 x1)), .val (.ref b81), .val (.ref b111), .val (.int (0 : Int32))] [(.int (0 : Int32))]))
        exact own_endW X176 Bd.notSynchronized hS (by rw [e176]; exact hk_173) (v := some (.int (nar .boolean (0 : Int32)))) (fun h => by rw [Bd.returns] at h; cases h) (Q := QL (some (.int (F0 x0 x1 x2 x3))) n0) ⟨by unfold F0; simp only [if_neg hc92_135, if_pos hc115_175, if_neg hc186_177]; try rfl, N_166⟩ (fun fs hr => retN X176 hx (t := .boolean) Bd.returns (by simp) (hb hby at_194) hr) (by decide) (by decide)
    · refine own_go (fun _ k => XS.ifNo X174.here hx rfl (hb hby at_115) rfl (((if0 _ _).trans (feq hc115_175).1)) k) ?_
      show own_G p.tables e below _ (T174.setTop (mkF m 118 #[.val (.int x0), .val (.int x1), .val (.long x2), .second, .val (.int x3), .val (.int (own_off x0)), .val (.int (own_len x0 x1)), .val (.ref b81), .val (.ref b111), .unset] []))
      refine own_go (fun _ k => XS.aload X174.here hx rfl (hb hby at_118) rfl rfl k) ?_
      show own_G p.tables e below _ (T174.setTop (mkF m 120 #[.val (.int x0), .val (.int x1), .val (.long x2), .second, .val (.int x3), .val (.int (own_off x0)), .val (.int (own_len x0 x1)), .val (.ref b81), .val (.ref b111), .unset] [(.ref b81)]))
      refine own_go (fun _ k => XS.iconst X174.here hx rfl (hb hby at_120) k) ?_
      show own_G p.tables e below _ (T174.setTop (mkF m 121 #[.val (.int x0), .val (.int x1), .val (.long x2), .second, .val (.int x3), .val (.int (own_off x0)), .val (.int (own_len x0 x1)), .val (.ref b81), .val (.ref b111), .unset] [(.int (1 : Int32)), (.ref b81)]))
      refine own_go (fun _ k => XS.iload X174.here hx rfl (hb hby at_121) rfl k) ?_
      show own_G p.tables e below _ (T174.setTop (mkF m 123 #[.val (.int x0), .val (.int x1), .val (.long x2), .second, .val (.int x3), .val (.int (own_off x0)), .val (.int (own_len x0 x1)), .val (.ref b81), .val (.ref b111), .unset] [(.int (own_off x0)), (.int (1 : Int32)), (.ref b81)]))
      refine own_go (fun _ k => XS.iload X174.here hx rfl (hb hby at_123) rfl k) ?_
      show own_G p.tables e below _ (T174.setTop (mkF m 125 #[.val (.int x0), .val (.int x1), .val (.long x2), .second, .val (.int x3), .val (.int (own_off x0)), .val (.int (own_len x0 x1)), .val (.ref b81), .val (.ref b111), .unset] [(.int (own_len x0 x1)), (.int (own_off x0)), (.int (1 : Int32)), (.ref b81)]))
      obtain ⟨T178, X178, e178, st178⟩ := own_callP X174 hx hZ (y := (⟨"com/example/davka/davka/layout/FieldIsBlankInPinLaw", "ok", "([CIII)Z"⟩ : MethodName)) hown (hw _ (List.mem_of_getElem? (i := 42) rfl)) (hw _ (List.mem_of_getElem? (i := 43) rfl)) (hw _ (List.mem_of_getElem? (i := 4) rfl)) (hw _ (List.mem_of_getElem? (i := 44) rfl)) (by decide) (W := 0) (rm5 l Z a0 hw [] b81 (1 : Int32) (own_off x0) (own_len x0 x1) k81 (own_cs x2) T166.heap V_170 hoff hto) (by decide) (by decide) rfl rfl e174 (g := (mkF m 125 #[.val (.int x0), .val (.int x1), .val (.long x2), .second, .val (.int x3), .val (.int (own_off x0)), .val (.int (own_len x0 x1)), .val (.ref b81), .val (.ref b111), .unset] [(.int (own_len x0 x1)), (.int (own_off x0)), (.int (1 : Int32)), (.ref b81)])) rfl (by rw [hml]; rfl) (argsL := [(.ref b81), (.int (1 : Int32)), (.int (own_off x0)), (.int (own_len x0 x1))]) (rest := []) (lenOf own_pd3 rfl) rfl rfl (by show 2 * 0 + _ ≤ _; exact Nat.le_of_eq rfl) (hb hby at_125) (by decide) (by decide)
      refine own_go st178 ?_
      show own_G p.tables e below _ (T178.setTop (mkF m 128 #[.val (.int x0), .val (.int x1), .val (.long x2), .second, .val (.int x3), .val (.int (own_off x0)), .val (.int (own_len x0 x1)), .val (.ref b81), .val (.ref b111), .unset] [(.int (F5 (1 : Int32) (own_off x0) (own_len x0 x1) (own_cs x2)))]))
      by_cases hc128_179 : (F5 (1 : Int32) (own_off x0) (own_len x0 x1) (own_cs x2)) = (0 : Int32)
      · refine own_go (fun _ k => XS.ifYes X178.here hx rfl (pc0 := 128) (pc' := 174) rfl (hb hby at_128) rfl (((if0 _ _).trans (teq hc128_179).1)) (by decide) (by decide) k) ?_
        show own_G p.tables e below _ (T178.setTop (mkF m 174 #[.val (.int x0), .val (.int x1), .val (.long x2), .second, .val (.int x3), .val (.int (own_off x0)), .val (.int (own_len x0 x1)), .val (.ref b81), .val (.ref b111), .unset] []))
        refine own_go (fun _ k => XS.iconst X178.here hx rfl (hb hby at_174) k) ?_
        show own_G p.tables e below _ (T178.setTop (mkF m 175 #[.val (.int x0), .val (.int x1), .val (.long x2), .second, .val (.int x3), .val (.int (own_off x0)), .val (.int (own_len x0 x1)), .val (.ref b81), .val (.ref b111), .unset] [(.int (0 : Int32))]))
        refine own_go (fun _ k => XS.istore X178.here hx rfl (hb hby at_175) rfl (l' := #[.val (.int x0), .val (.int x1), .val (.long x2), .second, .val (.int x3), .val (.int (own_off x0)), .val (.int (own_len x0 x1)), .val (.ref b81), .val (.ref b111), .val (.int (0 : Int32))]) rfl k) ?_
        show own_G p.tables e below _ (T178.setTop (mkF m 177 #[.val (.int x0), .val (.int x1), .val (.long x2), .second, .val (.int x3), .val (.int (own_off x0)), .val (.int (own_len x0 x1)), .val (.ref b81), .val (.ref b111), .val (.int (0 : Int32))] []))
        refine own_go (fun _ k => XS.aload X178.here hx rfl (hb hby at_177) rfl rfl k) ?_
        show own_G p.tables e below _ (T178.setTop (mkF m 179 #[.val (.int x0), .val (.int x1), .val (.long x2), .second, .val (.int x3), .val (.int (own_off x0)), .val (.int (own_len x0 x1)), .val (.ref b81), .val (.ref b111), .val (.int (0 : Int32))] [(.ref b111)]))
        refine own_go (fun _ k => XS.aload X178.here hx rfl (hb hby at_179) rfl rfl k) ?_
        show own_G p.tables e below _ (T178.setTop (mkF m 181 #[.val (.int x0), .val (.int x1), .val (.long x2), .second, .val (.int x3), .val (.int (own_off x0)), .val (.int (own_len x0 x1)), .val (.ref b81), .val (.ref b111), .val (.int (0 : Int32))] [(.ref b81), (.ref b111)]))
        obtain ⟨T180, X180, e180, st180⟩ := own_callV X178 hx hZ (y := (⟨"com/example/davka/davka/layout/Field", "isBlankIn", "([C)Z"⟩ : MethodName)) hown (hw _ (List.mem_of_getElem? (i := 45) rfl)) (hw _ (List.mem_of_getElem? (i := 46) rfl)) (hw _ (List.mem_of_getElem? (i := 48) rfl)) (hw _ (List.mem_of_getElem? (i := 47) rfl)) (hw _ (List.mem_of_getElem? (i := 9) rfl)) (hw _ (List.mem_of_getElem? (i := 49) rfl)) (by decide) (W := 0) (rm6 l Z a0 hw [] b111 b81 k81 (own_off x0) (own_len x0 x1) (own_cs x2) T166.heap G_168 G_169 V_170 hoff hto) (by decide) (by decide) rfl rfl e178 G_167 (g := (mkF m 181 #[.val (.int x0), .val (.int x1), .val (.long x2), .second, .val (.int x3), .val (.int (own_off x0)), .val (.int (own_len x0 x1)), .val (.ref b81), .val (.ref b111), .val (.int (0 : Int32))] [(.ref b81), (.ref b111)])) rfl (by rw [hml]; rfl) (argsL := [(.ref b81)]) (rest := []) (lenOf own_pd4 rfl) rfl rfl (by show 2 * 0 + _ ≤ _; exact Nat.le_of_eq rfl) (hb hby at_181) (by decide) (by decide)
        refine own_go st180 ?_
        show own_G p.tables e below _ (T180.setTop (mkF m 184 #[.val (.int x0), .val (.int x1), .val (.long x2), .second, .val (.int x3), .val (.int (own_off x0)), .val (.int (own_len x0 x1)), .val (.ref b81), .val (.ref b111), .val (.int (0 : Int32))] [(.int (F6  (own_off x0) (own_len x0 x1) (own_cs x2)))]))
        refine own_go (fun _ k => XS.iload X180.here hx rfl (hb hby at_184) rfl k) ?_
        show own_G p.tables e below _ (T180.setTop (mkF m 186 #[.val (.int x0), .val (.int x1), .val (.long x2), .second, .val (.int x3), .val (.int (own_off x0)), .val (.int (own_len x0 x1)), .val (.ref b81), .val (.ref b111), .val (.int (0 : Int32))] [(.int (0 : Int32)), (.int (F6  (own_off x0) (own_len x0 x1) (own_cs x2)))]))
        by_cases hc186_181 : (F6  (own_off x0) (own_len x0 x1) (own_cs x2)) = (0 : Int32)
        · refine own_go (fun _ k => XS.icmpNo X180.here hx rfl (hb hby at_186) rfl ((teq hc186_181).2) k) ?_
          show own_G p.tables e below _ (T180.setTop (mkF m 189 #[.val (.int x0), .val (.int x1), .val (.long x2), .second, .val (.int x3), .val (.int (own_off x0)), .val (.int (own_len x0 x1)), .val (.ref b81), .val (.ref b111), .val (.int (0 : Int32))] []))
          refine own_go (fun _ k => XS.iconst X180.here hx rfl (hb hby at_189) k) ?_
          show own_G p.tables e below _ (T180.setTop (mkF m 190 #[.val (.int x0), .val (.int x1), .val (.long x2), .second, .val (.int x3), .val (.int (own_off x0)), .val (.int (own_len x0 x1)), .val (.ref b81), .val (.ref b111), .val (.int (0 : Int32))] [(.int (1 : Int32))]))
          refine own_go (fun _ k => XS.goto X180.here hx rfl (pc0 := 190) (pc' := 194) rfl (hb hby at_190) (by decide) (by decide) k) ?_
          show own_G p.tables e below _ (T180.setTop (mkF m 194 #[.val (.int x0), .val (.int x1), .val (.long x2), .second, .val (.int x3), .val (.int (own_off x0)), .val (.int (own_len x0 x1)), .val (.ref b81), .val (.ref b111), .val (.int (0 : Int32))] [(.int (1 : Int32))]))
          exact own_endW X180 Bd.notSynchronized hS (by rw [e180]; exact hk_173) (v := some (.int (nar .boolean (1 : Int32)))) (fun h => by rw [Bd.returns] at h; cases h) (Q := QL (some (.int (F0 x0 x1 x2 x3))) n0) ⟨by unfold F0; simp only [if_neg hc92_135, if_neg hc115_175, if_pos hc128_179, if_pos hc186_181]; try rfl, N_166⟩ (fun fs hr => retN X180 hx (t := .boolean) Bd.returns (by simp) (hb hby at_194) hr) (by decide) (by decide)
        · refine own_go (fun _ k => XS.icmpYes X180.here hx rfl (pc0 := 186) (pc' := 193) rfl (hb hby at_186) rfl ((feq hc186_181).2) (by decide) (by decide) k) ?_
          show own_G p.tables e below _ (T180.setTop (mkF m 193 #[.val (.int x0), .val (.int x1), .val (.long x2), .second, .val (.int x3), .val (.int (own_off x0)), .val (.int (own_len x0 x1)), .val (.ref b81), .val (.ref b111), .val (.int (0 : Int32))] []))
          refine own_go (fun _ k => XS.iconst X180.here hx rfl (hb hby at_193) k) ?_
          show own_G p.tables e below _ (T180.setTop (mkF m 194 #[.val (.int x0), .val (.int x1), .val (.long x2), .second, .val (.int x3), .val (.int (own_off x0)), .val (.int (own_len x0 x1)), .val (.ref b81), .val (.ref b111), .val (.int (0 : Int32))] [(.int (0 : Int32))]))
          exact own_endW X180 Bd.notSynchronized hS (by rw [e180]; exact hk_173) (v := some (.int (nar .boolean (0 : Int32)))) (fun h => by rw [Bd.returns] at h; cases h) (Q := QL (some (.int (F0 x0 x1 x2 x3))) n0) ⟨by unfold F0; simp only [if_neg hc92_135, if_neg hc115_175, if_pos hc128_179, if_neg hc186_181]; try rfl, N_166⟩ (fun fs hr => retN X180 hx (t := .boolean) Bd.returns (by simp) (hb hby at_194) hr) (by decide) (by decide)
      · refine own_go (fun _ k => XS.ifNo X178.here hx rfl (hb hby at_128) rfl (((if0 _ _).trans (feq hc128_179).1)) k) ?_
        show own_G p.tables e below _ (T178.setTop (mkF m 131 #[.val (.int x0), .val (.int x1), .val (.long x2), .second, .val (.int x3), .val (.int (own_off x0)), .val (.int (own_len x0 x1)), .val (.ref b81), .val (.ref b111), .unset] []))
        refine own_go (fun _ k => XS.aload X178.here hx rfl (hb hby at_131) rfl rfl k) ?_
        show own_G p.tables e below _ (T178.setTop (mkF m 133 #[.val (.int x0), .val (.int x1), .val (.long x2), .second, .val (.int x3), .val (.int (own_off x0)), .val (.int (own_len x0 x1)), .val (.ref b81), .val (.ref b111), .unset] [(.ref b81)]))
        refine own_go (fun _ k => XS.iconst X178.here hx rfl (hb hby at_133) k) ?_
        show own_G p.tables e below _ (T178.setTop (mkF m 134 #[.val (.int x0), .val (.int x1), .val (.long x2), .second, .val (.int x3), .val (.int (own_off x0)), .val (.int (own_len x0 x1)), .val (.ref b81), .val (.ref b111), .unset] [(.int (2 : Int32)), (.ref b81)]))
        refine own_go (fun _ k => XS.iload X178.here hx rfl (hb hby at_134) rfl k) ?_
        show own_G p.tables e below _ (T178.setTop (mkF m 136 #[.val (.int x0), .val (.int x1), .val (.long x2), .second, .val (.int x3), .val (.int (own_off x0)), .val (.int (own_len x0 x1)), .val (.ref b81), .val (.ref b111), .unset] [(.int (own_off x0)), (.int (2 : Int32)), (.ref b81)]))
        refine own_go (fun _ k => XS.iload X178.here hx rfl (hb hby at_136) rfl k) ?_
        show own_G p.tables e below _ (T178.setTop (mkF m 138 #[.val (.int x0), .val (.int x1), .val (.long x2), .second, .val (.int x3), .val (.int (own_off x0)), .val (.int (own_len x0 x1)), .val (.ref b81), .val (.ref b111), .unset] [(.int (own_len x0 x1)), (.int (own_off x0)), (.int (2 : Int32)), (.ref b81)]))
        obtain ⟨T182, X182, e182, st182⟩ := own_callP X178 hx hZ (y := (⟨"com/example/davka/davka/layout/FieldIsBlankInPinLaw", "ok", "([CIII)Z"⟩ : MethodName)) hown (hw _ (List.mem_of_getElem? (i := 42) rfl)) (hw _ (List.mem_of_getElem? (i := 43) rfl)) (hw _ (List.mem_of_getElem? (i := 4) rfl)) (hw _ (List.mem_of_getElem? (i := 44) rfl)) (by decide) (W := 0) (rm5 l Z a0 hw [] b81 (2 : Int32) (own_off x0) (own_len x0 x1) k81 (own_cs x2) T166.heap V_170 hoff hto) (by decide) (by decide) rfl rfl e178 (g := (mkF m 138 #[.val (.int x0), .val (.int x1), .val (.long x2), .second, .val (.int x3), .val (.int (own_off x0)), .val (.int (own_len x0 x1)), .val (.ref b81), .val (.ref b111), .unset] [(.int (own_len x0 x1)), (.int (own_off x0)), (.int (2 : Int32)), (.ref b81)])) rfl (by rw [hml]; rfl) (argsL := [(.ref b81), (.int (2 : Int32)), (.int (own_off x0)), (.int (own_len x0 x1))]) (rest := []) (lenOf own_pd3 rfl) rfl rfl (by show 2 * 0 + _ ≤ _; exact Nat.le_of_eq rfl) (hb hby at_138) (by decide) (by decide)
        refine own_go st182 ?_
        show own_G p.tables e below _ (T182.setTop (mkF m 141 #[.val (.int x0), .val (.int x1), .val (.long x2), .second, .val (.int x3), .val (.int (own_off x0)), .val (.int (own_len x0 x1)), .val (.ref b81), .val (.ref b111), .unset] [(.int (F5 (2 : Int32) (own_off x0) (own_len x0 x1) (own_cs x2)))]))
        by_cases hc141_183 : (F5 (2 : Int32) (own_off x0) (own_len x0 x1) (own_cs x2)) = (0 : Int32)
        · refine own_go (fun _ k => XS.ifYes X182.here hx rfl (pc0 := 141) (pc' := 174) rfl (hb hby at_141) rfl (((if0 _ _).trans (teq hc141_183).1)) (by decide) (by decide) k) ?_
          show own_G p.tables e below _ (T182.setTop (mkF m 174 #[.val (.int x0), .val (.int x1), .val (.long x2), .second, .val (.int x3), .val (.int (own_off x0)), .val (.int (own_len x0 x1)), .val (.ref b81), .val (.ref b111), .unset] []))
          refine own_go (fun _ k => XS.iconst X182.here hx rfl (hb hby at_174) k) ?_
          show own_G p.tables e below _ (T182.setTop (mkF m 175 #[.val (.int x0), .val (.int x1), .val (.long x2), .second, .val (.int x3), .val (.int (own_off x0)), .val (.int (own_len x0 x1)), .val (.ref b81), .val (.ref b111), .unset] [(.int (0 : Int32))]))
          refine own_go (fun _ k => XS.istore X182.here hx rfl (hb hby at_175) rfl (l' := #[.val (.int x0), .val (.int x1), .val (.long x2), .second, .val (.int x3), .val (.int (own_off x0)), .val (.int (own_len x0 x1)), .val (.ref b81), .val (.ref b111), .val (.int (0 : Int32))]) rfl k) ?_
          show own_G p.tables e below _ (T182.setTop (mkF m 177 #[.val (.int x0), .val (.int x1), .val (.long x2), .second, .val (.int x3), .val (.int (own_off x0)), .val (.int (own_len x0 x1)), .val (.ref b81), .val (.ref b111), .val (.int (0 : Int32))] []))
          refine own_go (fun _ k => XS.aload X182.here hx rfl (hb hby at_177) rfl rfl k) ?_
          show own_G p.tables e below _ (T182.setTop (mkF m 179 #[.val (.int x0), .val (.int x1), .val (.long x2), .second, .val (.int x3), .val (.int (own_off x0)), .val (.int (own_len x0 x1)), .val (.ref b81), .val (.ref b111), .val (.int (0 : Int32))] [(.ref b111)]))
          refine own_go (fun _ k => XS.aload X182.here hx rfl (hb hby at_179) rfl rfl k) ?_
          show own_G p.tables e below _ (T182.setTop (mkF m 181 #[.val (.int x0), .val (.int x1), .val (.long x2), .second, .val (.int x3), .val (.int (own_off x0)), .val (.int (own_len x0 x1)), .val (.ref b81), .val (.ref b111), .val (.int (0 : Int32))] [(.ref b81), (.ref b111)]))
          obtain ⟨T184, X184, e184, st184⟩ := own_callV X182 hx hZ (y := (⟨"com/example/davka/davka/layout/Field", "isBlankIn", "([C)Z"⟩ : MethodName)) hown (hw _ (List.mem_of_getElem? (i := 45) rfl)) (hw _ (List.mem_of_getElem? (i := 46) rfl)) (hw _ (List.mem_of_getElem? (i := 48) rfl)) (hw _ (List.mem_of_getElem? (i := 47) rfl)) (hw _ (List.mem_of_getElem? (i := 9) rfl)) (hw _ (List.mem_of_getElem? (i := 49) rfl)) (by decide) (W := 0) (rm6 l Z a0 hw [] b111 b81 k81 (own_off x0) (own_len x0 x1) (own_cs x2) T166.heap G_168 G_169 V_170 hoff hto) (by decide) (by decide) rfl rfl e182 G_167 (g := (mkF m 181 #[.val (.int x0), .val (.int x1), .val (.long x2), .second, .val (.int x3), .val (.int (own_off x0)), .val (.int (own_len x0 x1)), .val (.ref b81), .val (.ref b111), .val (.int (0 : Int32))] [(.ref b81), (.ref b111)])) rfl (by rw [hml]; rfl) (argsL := [(.ref b81)]) (rest := []) (lenOf own_pd4 rfl) rfl rfl (by show 2 * 0 + _ ≤ _; exact Nat.le_of_eq rfl) (hb hby at_181) (by decide) (by decide)
          refine own_go st184 ?_
          show own_G p.tables e below _ (T184.setTop (mkF m 184 #[.val (.int x0), .val (.int x1), .val (.long x2), .second, .val (.int x3), .val (.int (own_off x0)), .val (.int (own_len x0 x1)), .val (.ref b81), .val (.ref b111), .val (.int (0 : Int32))] [(.int (F6  (own_off x0) (own_len x0 x1) (own_cs x2)))]))
          refine own_go (fun _ k => XS.iload X184.here hx rfl (hb hby at_184) rfl k) ?_
          show own_G p.tables e below _ (T184.setTop (mkF m 186 #[.val (.int x0), .val (.int x1), .val (.long x2), .second, .val (.int x3), .val (.int (own_off x0)), .val (.int (own_len x0 x1)), .val (.ref b81), .val (.ref b111), .val (.int (0 : Int32))] [(.int (0 : Int32)), (.int (F6  (own_off x0) (own_len x0 x1) (own_cs x2)))]))
          by_cases hc186_185 : (F6  (own_off x0) (own_len x0 x1) (own_cs x2)) = (0 : Int32)
          · refine own_go (fun _ k => XS.icmpNo X184.here hx rfl (hb hby at_186) rfl ((teq hc186_185).2) k) ?_
            show own_G p.tables e below _ (T184.setTop (mkF m 189 #[.val (.int x0), .val (.int x1), .val (.long x2), .second, .val (.int x3), .val (.int (own_off x0)), .val (.int (own_len x0 x1)), .val (.ref b81), .val (.ref b111), .val (.int (0 : Int32))] []))
            refine own_go (fun _ k => XS.iconst X184.here hx rfl (hb hby at_189) k) ?_
            show own_G p.tables e below _ (T184.setTop (mkF m 190 #[.val (.int x0), .val (.int x1), .val (.long x2), .second, .val (.int x3), .val (.int (own_off x0)), .val (.int (own_len x0 x1)), .val (.ref b81), .val (.ref b111), .val (.int (0 : Int32))] [(.int (1 : Int32))]))
            refine own_go (fun _ k => XS.goto X184.here hx rfl (pc0 := 190) (pc' := 194) rfl (hb hby at_190) (by decide) (by decide) k) ?_
            show own_G p.tables e below _ (T184.setTop (mkF m 194 #[.val (.int x0), .val (.int x1), .val (.long x2), .second, .val (.int x3), .val (.int (own_off x0)), .val (.int (own_len x0 x1)), .val (.ref b81), .val (.ref b111), .val (.int (0 : Int32))] [(.int (1 : Int32))]))
            exact own_endW X184 Bd.notSynchronized hS (by rw [e184]; exact hk_173) (v := some (.int (nar .boolean (1 : Int32)))) (fun h => by rw [Bd.returns] at h; cases h) (Q := QL (some (.int (F0 x0 x1 x2 x3))) n0) ⟨by unfold F0; simp only [if_neg hc92_135, if_neg hc115_175, if_neg hc128_179, if_pos hc141_183, if_pos hc186_185]; try rfl, N_166⟩ (fun fs hr => retN X184 hx (t := .boolean) Bd.returns (by simp) (hb hby at_194) hr) (by decide) (by decide)
          · refine own_go (fun _ k => XS.icmpYes X184.here hx rfl (pc0 := 186) (pc' := 193) rfl (hb hby at_186) rfl ((feq hc186_185).2) (by decide) (by decide) k) ?_
            show own_G p.tables e below _ (T184.setTop (mkF m 193 #[.val (.int x0), .val (.int x1), .val (.long x2), .second, .val (.int x3), .val (.int (own_off x0)), .val (.int (own_len x0 x1)), .val (.ref b81), .val (.ref b111), .val (.int (0 : Int32))] []))
            refine own_go (fun _ k => XS.iconst X184.here hx rfl (hb hby at_193) k) ?_
            show own_G p.tables e below _ (T184.setTop (mkF m 194 #[.val (.int x0), .val (.int x1), .val (.long x2), .second, .val (.int x3), .val (.int (own_off x0)), .val (.int (own_len x0 x1)), .val (.ref b81), .val (.ref b111), .val (.int (0 : Int32))] [(.int (0 : Int32))]))
            exact own_endW X184 Bd.notSynchronized hS (by rw [e184]; exact hk_173) (v := some (.int (nar .boolean (0 : Int32)))) (fun h => by rw [Bd.returns] at h; cases h) (Q := QL (some (.int (F0 x0 x1 x2 x3))) n0) ⟨by unfold F0; simp only [if_neg hc92_135, if_neg hc115_175, if_neg hc128_179, if_pos hc141_183, if_neg hc186_185]; try rfl, N_166⟩ (fun fs hr => retN X184 hx (t := .boolean) Bd.returns (by simp) (hb hby at_194) hr) (by decide) (by decide)
        · refine own_go (fun _ k => XS.ifNo X182.here hx rfl (hb hby at_141) rfl (((if0 _ _).trans (feq hc141_183).1)) k) ?_
          show own_G p.tables e below _ (T182.setTop (mkF m 144 #[.val (.int x0), .val (.int x1), .val (.long x2), .second, .val (.int x3), .val (.int (own_off x0)), .val (.int (own_len x0 x1)), .val (.ref b81), .val (.ref b111), .unset] []))
          refine own_go (fun _ k => XS.aload X182.here hx rfl (hb hby at_144) rfl rfl k) ?_
          show own_G p.tables e below _ (T182.setTop (mkF m 146 #[.val (.int x0), .val (.int x1), .val (.long x2), .second, .val (.int x3), .val (.int (own_off x0)), .val (.int (own_len x0 x1)), .val (.ref b81), .val (.ref b111), .unset] [(.ref b81)]))
          refine own_go (fun _ k => XS.iconst X182.here hx rfl (hb hby at_146) k) ?_
          show own_G p.tables e below _ (T182.setTop (mkF m 147 #[.val (.int x0), .val (.int x1), .val (.long x2), .second, .val (.int x3), .val (.int (own_off x0)), .val (.int (own_len x0 x1)), .val (.ref b81), .val (.ref b111), .unset] [(.int (3 : Int32)), (.ref b81)]))
          refine own_go (fun _ k => XS.iload X182.here hx rfl (hb hby at_147) rfl k) ?_
          show own_G p.tables e below _ (T182.setTop (mkF m 149 #[.val (.int x0), .val (.int x1), .val (.long x2), .second, .val (.int x3), .val (.int (own_off x0)), .val (.int (own_len x0 x1)), .val (.ref b81), .val (.ref b111), .unset] [(.int (own_off x0)), (.int (3 : Int32)), (.ref b81)]))
          refine own_go (fun _ k => XS.iload X182.here hx rfl (hb hby at_149) rfl k) ?_
          show own_G p.tables e below _ (T182.setTop (mkF m 151 #[.val (.int x0), .val (.int x1), .val (.long x2), .second, .val (.int x3), .val (.int (own_off x0)), .val (.int (own_len x0 x1)), .val (.ref b81), .val (.ref b111), .unset] [(.int (own_len x0 x1)), (.int (own_off x0)), (.int (3 : Int32)), (.ref b81)]))
          obtain ⟨T186, X186, e186, st186⟩ := own_callP X182 hx hZ (y := (⟨"com/example/davka/davka/layout/FieldIsBlankInPinLaw", "ok", "([CIII)Z"⟩ : MethodName)) hown (hw _ (List.mem_of_getElem? (i := 42) rfl)) (hw _ (List.mem_of_getElem? (i := 43) rfl)) (hw _ (List.mem_of_getElem? (i := 4) rfl)) (hw _ (List.mem_of_getElem? (i := 44) rfl)) (by decide) (W := 0) (rm5 l Z a0 hw [] b81 (3 : Int32) (own_off x0) (own_len x0 x1) k81 (own_cs x2) T166.heap V_170 hoff hto) (by decide) (by decide) rfl rfl e182 (g := (mkF m 151 #[.val (.int x0), .val (.int x1), .val (.long x2), .second, .val (.int x3), .val (.int (own_off x0)), .val (.int (own_len x0 x1)), .val (.ref b81), .val (.ref b111), .unset] [(.int (own_len x0 x1)), (.int (own_off x0)), (.int (3 : Int32)), (.ref b81)])) rfl (by rw [hml]; rfl) (argsL := [(.ref b81), (.int (3 : Int32)), (.int (own_off x0)), (.int (own_len x0 x1))]) (rest := []) (lenOf own_pd3 rfl) rfl rfl (by show 2 * 0 + _ ≤ _; exact Nat.le_of_eq rfl) (hb hby at_151) (by decide) (by decide)
          refine own_go st186 ?_
          show own_G p.tables e below _ (T186.setTop (mkF m 154 #[.val (.int x0), .val (.int x1), .val (.long x2), .second, .val (.int x3), .val (.int (own_off x0)), .val (.int (own_len x0 x1)), .val (.ref b81), .val (.ref b111), .unset] [(.int (F5 (3 : Int32) (own_off x0) (own_len x0 x1) (own_cs x2)))]))
          by_cases hc154_187 : (F5 (3 : Int32) (own_off x0) (own_len x0 x1) (own_cs x2)) = (0 : Int32)
          · refine own_go (fun _ k => XS.ifYes X186.here hx rfl (pc0 := 154) (pc' := 174) rfl (hb hby at_154) rfl (((if0 _ _).trans (teq hc154_187).1)) (by decide) (by decide) k) ?_
            show own_G p.tables e below _ (T186.setTop (mkF m 174 #[.val (.int x0), .val (.int x1), .val (.long x2), .second, .val (.int x3), .val (.int (own_off x0)), .val (.int (own_len x0 x1)), .val (.ref b81), .val (.ref b111), .unset] []))
            refine own_go (fun _ k => XS.iconst X186.here hx rfl (hb hby at_174) k) ?_
            show own_G p.tables e below _ (T186.setTop (mkF m 175 #[.val (.int x0), .val (.int x1), .val (.long x2), .second, .val (.int x3), .val (.int (own_off x0)), .val (.int (own_len x0 x1)), .val (.ref b81), .val (.ref b111), .unset] [(.int (0 : Int32))]))
            refine own_go (fun _ k => XS.istore X186.here hx rfl (hb hby at_175) rfl (l' := #[.val (.int x0), .val (.int x1), .val (.long x2), .second, .val (.int x3), .val (.int (own_off x0)), .val (.int (own_len x0 x1)), .val (.ref b81), .val (.ref b111), .val (.int (0 : Int32))]) rfl k) ?_
            show own_G p.tables e below _ (T186.setTop (mkF m 177 #[.val (.int x0), .val (.int x1), .val (.long x2), .second, .val (.int x3), .val (.int (own_off x0)), .val (.int (own_len x0 x1)), .val (.ref b81), .val (.ref b111), .val (.int (0 : Int32))] []))
            refine own_go (fun _ k => XS.aload X186.here hx rfl (hb hby at_177) rfl rfl k) ?_
            show own_G p.tables e below _ (T186.setTop (mkF m 179 #[.val (.int x0), .val (.int x1), .val (.long x2), .second, .val (.int x3), .val (.int (own_off x0)), .val (.int (own_len x0 x1)), .val (.ref b81), .val (.ref b111), .val (.int (0 : Int32))] [(.ref b111)]))
            refine own_go (fun _ k => XS.aload X186.here hx rfl (hb hby at_179) rfl rfl k) ?_
            show own_G p.tables e below _ (T186.setTop (mkF m 181 #[.val (.int x0), .val (.int x1), .val (.long x2), .second, .val (.int x3), .val (.int (own_off x0)), .val (.int (own_len x0 x1)), .val (.ref b81), .val (.ref b111), .val (.int (0 : Int32))] [(.ref b81), (.ref b111)]))
            obtain ⟨T188, X188, e188, st188⟩ := own_callV X186 hx hZ (y := (⟨"com/example/davka/davka/layout/Field", "isBlankIn", "([C)Z"⟩ : MethodName)) hown (hw _ (List.mem_of_getElem? (i := 45) rfl)) (hw _ (List.mem_of_getElem? (i := 46) rfl)) (hw _ (List.mem_of_getElem? (i := 48) rfl)) (hw _ (List.mem_of_getElem? (i := 47) rfl)) (hw _ (List.mem_of_getElem? (i := 9) rfl)) (hw _ (List.mem_of_getElem? (i := 49) rfl)) (by decide) (W := 0) (rm6 l Z a0 hw [] b111 b81 k81 (own_off x0) (own_len x0 x1) (own_cs x2) T166.heap G_168 G_169 V_170 hoff hto) (by decide) (by decide) rfl rfl e186 G_167 (g := (mkF m 181 #[.val (.int x0), .val (.int x1), .val (.long x2), .second, .val (.int x3), .val (.int (own_off x0)), .val (.int (own_len x0 x1)), .val (.ref b81), .val (.ref b111), .val (.int (0 : Int32))] [(.ref b81), (.ref b111)])) rfl (by rw [hml]; rfl) (argsL := [(.ref b81)]) (rest := []) (lenOf own_pd4 rfl) rfl rfl (by show 2 * 0 + _ ≤ _; exact Nat.le_of_eq rfl) (hb hby at_181) (by decide) (by decide)
            refine own_go st188 ?_
            show own_G p.tables e below _ (T188.setTop (mkF m 184 #[.val (.int x0), .val (.int x1), .val (.long x2), .second, .val (.int x3), .val (.int (own_off x0)), .val (.int (own_len x0 x1)), .val (.ref b81), .val (.ref b111), .val (.int (0 : Int32))] [(.int (F6  (own_off x0) (own_len x0 x1) (own_cs x2)))]))
            refine own_go (fun _ k => XS.iload X188.here hx rfl (hb hby at_184) rfl k) ?_
            show own_G p.tables e below _ (T188.setTop (mkF m 186 #[.val (.int x0), .val (.int x1), .val (.long x2), .second, .val (.int x3), .val (.int (own_off x0)), .val (.int (own_len x0 x1)), .val (.ref b81), .val (.ref b111), .val (.int (0 : Int32))] [(.int (0 : Int32)), (.int (F6  (own_off x0) (own_len x0 x1) (own_cs x2)))]))
            by_cases hc186_189 : (F6  (own_off x0) (own_len x0 x1) (own_cs x2)) = (0 : Int32)
            · refine own_go (fun _ k => XS.icmpNo X188.here hx rfl (hb hby at_186) rfl ((teq hc186_189).2) k) ?_
              show own_G p.tables e below _ (T188.setTop (mkF m 189 #[.val (.int x0), .val (.int x1), .val (.long x2), .second, .val (.int x3), .val (.int (own_off x0)), .val (.int (own_len x0 x1)), .val (.ref b81), .val (.ref b111), .val (.int (0 : Int32))] []))
              refine own_go (fun _ k => XS.iconst X188.here hx rfl (hb hby at_189) k) ?_
              show own_G p.tables e below _ (T188.setTop (mkF m 190 #[.val (.int x0), .val (.int x1), .val (.long x2), .second, .val (.int x3), .val (.int (own_off x0)), .val (.int (own_len x0 x1)), .val (.ref b81), .val (.ref b111), .val (.int (0 : Int32))] [(.int (1 : Int32))]))
              refine own_go (fun _ k => XS.goto X188.here hx rfl (pc0 := 190) (pc' := 194) rfl (hb hby at_190) (by decide) (by decide) k) ?_
              show own_G p.tables e below _ (T188.setTop (mkF m 194 #[.val (.int x0), .val (.int x1), .val (.long x2), .second, .val (.int x3), .val (.int (own_off x0)), .val (.int (own_len x0 x1)), .val (.ref b81), .val (.ref b111), .val (.int (0 : Int32))] [(.int (1 : Int32))]))
              exact own_endW X188 Bd.notSynchronized hS (by rw [e188]; exact hk_173) (v := some (.int (nar .boolean (1 : Int32)))) (fun h => by rw [Bd.returns] at h; cases h) (Q := QL (some (.int (F0 x0 x1 x2 x3))) n0) ⟨by unfold F0; simp only [if_neg hc92_135, if_neg hc115_175, if_neg hc128_179, if_neg hc141_183, if_pos hc154_187, if_pos hc186_189]; try rfl, N_166⟩ (fun fs hr => retN X188 hx (t := .boolean) Bd.returns (by simp) (hb hby at_194) hr) (by decide) (by decide)
            · refine own_go (fun _ k => XS.icmpYes X188.here hx rfl (pc0 := 186) (pc' := 193) rfl (hb hby at_186) rfl ((feq hc186_189).2) (by decide) (by decide) k) ?_
              show own_G p.tables e below _ (T188.setTop (mkF m 193 #[.val (.int x0), .val (.int x1), .val (.long x2), .second, .val (.int x3), .val (.int (own_off x0)), .val (.int (own_len x0 x1)), .val (.ref b81), .val (.ref b111), .val (.int (0 : Int32))] []))
              refine own_go (fun _ k => XS.iconst X188.here hx rfl (hb hby at_193) k) ?_
              show own_G p.tables e below _ (T188.setTop (mkF m 194 #[.val (.int x0), .val (.int x1), .val (.long x2), .second, .val (.int x3), .val (.int (own_off x0)), .val (.int (own_len x0 x1)), .val (.ref b81), .val (.ref b111), .val (.int (0 : Int32))] [(.int (0 : Int32))]))
              exact own_endW X188 Bd.notSynchronized hS (by rw [e188]; exact hk_173) (v := some (.int (nar .boolean (0 : Int32)))) (fun h => by rw [Bd.returns] at h; cases h) (Q := QL (some (.int (F0 x0 x1 x2 x3))) n0) ⟨by unfold F0; simp only [if_neg hc92_135, if_neg hc115_175, if_neg hc128_179, if_neg hc141_183, if_pos hc154_187, if_neg hc186_189]; try rfl, N_166⟩ (fun fs hr => retN X188 hx (t := .boolean) Bd.returns (by simp) (hb hby at_194) hr) (by decide) (by decide)
          · refine own_go (fun _ k => XS.ifNo X186.here hx rfl (hb hby at_154) rfl (((if0 _ _).trans (feq hc154_187).1)) k) ?_
            show own_G p.tables e below _ (T186.setTop (mkF m 157 #[.val (.int x0), .val (.int x1), .val (.long x2), .second, .val (.int x3), .val (.int (own_off x0)), .val (.int (own_len x0 x1)), .val (.ref b81), .val (.ref b111), .unset] []))
            refine own_go (fun _ k => XS.aload X186.here hx rfl (hb hby at_157) rfl rfl k) ?_
            show own_G p.tables e below _ (T186.setTop (mkF m 159 #[.val (.int x0), .val (.int x1), .val (.long x2), .second, .val (.int x3), .val (.int (own_off x0)), .val (.int (own_len x0 x1)), .val (.ref b81), .val (.ref b111), .unset] [(.ref b81)]))
            refine own_go (fun _ k => XS.iconst X186.here hx rfl (hb hby at_159) k) ?_
            show own_G p.tables e below _ (T186.setTop (mkF m 160 #[.val (.int x0), .val (.int x1), .val (.long x2), .second, .val (.int x3), .val (.int (own_off x0)), .val (.int (own_len x0 x1)), .val (.ref b81), .val (.ref b111), .unset] [(.int (4 : Int32)), (.ref b81)]))
            refine own_go (fun _ k => XS.iload X186.here hx rfl (hb hby at_160) rfl k) ?_
            show own_G p.tables e below _ (T186.setTop (mkF m 162 #[.val (.int x0), .val (.int x1), .val (.long x2), .second, .val (.int x3), .val (.int (own_off x0)), .val (.int (own_len x0 x1)), .val (.ref b81), .val (.ref b111), .unset] [(.int (own_off x0)), (.int (4 : Int32)), (.ref b81)]))
            refine own_go (fun _ k => XS.iload X186.here hx rfl (hb hby at_162) rfl k) ?_
            show own_G p.tables e below _ (T186.setTop (mkF m 164 #[.val (.int x0), .val (.int x1), .val (.long x2), .second, .val (.int x3), .val (.int (own_off x0)), .val (.int (own_len x0 x1)), .val (.ref b81), .val (.ref b111), .unset] [(.int (own_len x0 x1)), (.int (own_off x0)), (.int (4 : Int32)), (.ref b81)]))
            obtain ⟨T190, X190, e190, st190⟩ := own_callP X186 hx hZ (y := (⟨"com/example/davka/davka/layout/FieldIsBlankInPinLaw", "ok", "([CIII)Z"⟩ : MethodName)) hown (hw _ (List.mem_of_getElem? (i := 42) rfl)) (hw _ (List.mem_of_getElem? (i := 43) rfl)) (hw _ (List.mem_of_getElem? (i := 4) rfl)) (hw _ (List.mem_of_getElem? (i := 44) rfl)) (by decide) (W := 0) (rm5 l Z a0 hw [] b81 (4 : Int32) (own_off x0) (own_len x0 x1) k81 (own_cs x2) T166.heap V_170 hoff hto) (by decide) (by decide) rfl rfl e186 (g := (mkF m 164 #[.val (.int x0), .val (.int x1), .val (.long x2), .second, .val (.int x3), .val (.int (own_off x0)), .val (.int (own_len x0 x1)), .val (.ref b81), .val (.ref b111), .unset] [(.int (own_len x0 x1)), (.int (own_off x0)), (.int (4 : Int32)), (.ref b81)])) rfl (by rw [hml]; rfl) (argsL := [(.ref b81), (.int (4 : Int32)), (.int (own_off x0)), (.int (own_len x0 x1))]) (rest := []) (lenOf own_pd3 rfl) rfl rfl (by show 2 * 0 + _ ≤ _; exact Nat.le_of_eq rfl) (hb hby at_164) (by decide) (by decide)
            refine own_go st190 ?_
            show own_G p.tables e below _ (T190.setTop (mkF m 167 #[.val (.int x0), .val (.int x1), .val (.long x2), .second, .val (.int x3), .val (.int (own_off x0)), .val (.int (own_len x0 x1)), .val (.ref b81), .val (.ref b111), .unset] [(.int (F5 (4 : Int32) (own_off x0) (own_len x0 x1) (own_cs x2)))]))
            by_cases hc167_191 : (F5 (4 : Int32) (own_off x0) (own_len x0 x1) (own_cs x2)) = (0 : Int32)
            · refine own_go (fun _ k => XS.ifYes X190.here hx rfl (pc0 := 167) (pc' := 174) rfl (hb hby at_167) rfl (((if0 _ _).trans (teq hc167_191).1)) (by decide) (by decide) k) ?_
              show own_G p.tables e below _ (T190.setTop (mkF m 174 #[.val (.int x0), .val (.int x1), .val (.long x2), .second, .val (.int x3), .val (.int (own_off x0)), .val (.int (own_len x0 x1)), .val (.ref b81), .val (.ref b111), .unset] []))
              refine own_go (fun _ k => XS.iconst X190.here hx rfl (hb hby at_174) k) ?_
              show own_G p.tables e below _ (T190.setTop (mkF m 175 #[.val (.int x0), .val (.int x1), .val (.long x2), .second, .val (.int x3), .val (.int (own_off x0)), .val (.int (own_len x0 x1)), .val (.ref b81), .val (.ref b111), .unset] [(.int (0 : Int32))]))
              refine own_go (fun _ k => XS.istore X190.here hx rfl (hb hby at_175) rfl (l' := #[.val (.int x0), .val (.int x1), .val (.long x2), .second, .val (.int x3), .val (.int (own_off x0)), .val (.int (own_len x0 x1)), .val (.ref b81), .val (.ref b111), .val (.int (0 : Int32))]) rfl k) ?_
              show own_G p.tables e below _ (T190.setTop (mkF m 177 #[.val (.int x0), .val (.int x1), .val (.long x2), .second, .val (.int x3), .val (.int (own_off x0)), .val (.int (own_len x0 x1)), .val (.ref b81), .val (.ref b111), .val (.int (0 : Int32))] []))
              refine own_go (fun _ k => XS.aload X190.here hx rfl (hb hby at_177) rfl rfl k) ?_
              show own_G p.tables e below _ (T190.setTop (mkF m 179 #[.val (.int x0), .val (.int x1), .val (.long x2), .second, .val (.int x3), .val (.int (own_off x0)), .val (.int (own_len x0 x1)), .val (.ref b81), .val (.ref b111), .val (.int (0 : Int32))] [(.ref b111)]))
              refine own_go (fun _ k => XS.aload X190.here hx rfl (hb hby at_179) rfl rfl k) ?_
              show own_G p.tables e below _ (T190.setTop (mkF m 181 #[.val (.int x0), .val (.int x1), .val (.long x2), .second, .val (.int x3), .val (.int (own_off x0)), .val (.int (own_len x0 x1)), .val (.ref b81), .val (.ref b111), .val (.int (0 : Int32))] [(.ref b81), (.ref b111)]))
              obtain ⟨T192, X192, e192, st192⟩ := own_callV X190 hx hZ (y := (⟨"com/example/davka/davka/layout/Field", "isBlankIn", "([C)Z"⟩ : MethodName)) hown (hw _ (List.mem_of_getElem? (i := 45) rfl)) (hw _ (List.mem_of_getElem? (i := 46) rfl)) (hw _ (List.mem_of_getElem? (i := 48) rfl)) (hw _ (List.mem_of_getElem? (i := 47) rfl)) (hw _ (List.mem_of_getElem? (i := 9) rfl)) (hw _ (List.mem_of_getElem? (i := 49) rfl)) (by decide) (W := 0) (rm6 l Z a0 hw [] b111 b81 k81 (own_off x0) (own_len x0 x1) (own_cs x2) T166.heap G_168 G_169 V_170 hoff hto) (by decide) (by decide) rfl rfl e190 G_167 (g := (mkF m 181 #[.val (.int x0), .val (.int x1), .val (.long x2), .second, .val (.int x3), .val (.int (own_off x0)), .val (.int (own_len x0 x1)), .val (.ref b81), .val (.ref b111), .val (.int (0 : Int32))] [(.ref b81), (.ref b111)])) rfl (by rw [hml]; rfl) (argsL := [(.ref b81)]) (rest := []) (lenOf own_pd4 rfl) rfl rfl (by show 2 * 0 + _ ≤ _; exact Nat.le_of_eq rfl) (hb hby at_181) (by decide) (by decide)
              refine own_go st192 ?_
              show own_G p.tables e below _ (T192.setTop (mkF m 184 #[.val (.int x0), .val (.int x1), .val (.long x2), .second, .val (.int x3), .val (.int (own_off x0)), .val (.int (own_len x0 x1)), .val (.ref b81), .val (.ref b111), .val (.int (0 : Int32))] [(.int (F6  (own_off x0) (own_len x0 x1) (own_cs x2)))]))
              refine own_go (fun _ k => XS.iload X192.here hx rfl (hb hby at_184) rfl k) ?_
              show own_G p.tables e below _ (T192.setTop (mkF m 186 #[.val (.int x0), .val (.int x1), .val (.long x2), .second, .val (.int x3), .val (.int (own_off x0)), .val (.int (own_len x0 x1)), .val (.ref b81), .val (.ref b111), .val (.int (0 : Int32))] [(.int (0 : Int32)), (.int (F6  (own_off x0) (own_len x0 x1) (own_cs x2)))]))
              by_cases hc186_193 : (F6  (own_off x0) (own_len x0 x1) (own_cs x2)) = (0 : Int32)
              · refine own_go (fun _ k => XS.icmpNo X192.here hx rfl (hb hby at_186) rfl ((teq hc186_193).2) k) ?_
                show own_G p.tables e below _ (T192.setTop (mkF m 189 #[.val (.int x0), .val (.int x1), .val (.long x2), .second, .val (.int x3), .val (.int (own_off x0)), .val (.int (own_len x0 x1)), .val (.ref b81), .val (.ref b111), .val (.int (0 : Int32))] []))
                refine own_go (fun _ k => XS.iconst X192.here hx rfl (hb hby at_189) k) ?_
                show own_G p.tables e below _ (T192.setTop (mkF m 190 #[.val (.int x0), .val (.int x1), .val (.long x2), .second, .val (.int x3), .val (.int (own_off x0)), .val (.int (own_len x0 x1)), .val (.ref b81), .val (.ref b111), .val (.int (0 : Int32))] [(.int (1 : Int32))]))
                refine own_go (fun _ k => XS.goto X192.here hx rfl (pc0 := 190) (pc' := 194) rfl (hb hby at_190) (by decide) (by decide) k) ?_
                show own_G p.tables e below _ (T192.setTop (mkF m 194 #[.val (.int x0), .val (.int x1), .val (.long x2), .second, .val (.int x3), .val (.int (own_off x0)), .val (.int (own_len x0 x1)), .val (.ref b81), .val (.ref b111), .val (.int (0 : Int32))] [(.int (1 : Int32))]))
                exact own_endW X192 Bd.notSynchronized hS (by rw [e192]; exact hk_173) (v := some (.int (nar .boolean (1 : Int32)))) (fun h => by rw [Bd.returns] at h; cases h) (Q := QL (some (.int (F0 x0 x1 x2 x3))) n0) ⟨by unfold F0; simp only [if_neg hc92_135, if_neg hc115_175, if_neg hc128_179, if_neg hc141_183, if_neg hc154_187, if_pos hc167_191, if_pos hc186_193]; try rfl, N_166⟩ (fun fs hr => retN X192 hx (t := .boolean) Bd.returns (by simp) (hb hby at_194) hr) (by decide) (by decide)
              · refine own_go (fun _ k => XS.icmpYes X192.here hx rfl (pc0 := 186) (pc' := 193) rfl (hb hby at_186) rfl ((feq hc186_193).2) (by decide) (by decide) k) ?_
                show own_G p.tables e below _ (T192.setTop (mkF m 193 #[.val (.int x0), .val (.int x1), .val (.long x2), .second, .val (.int x3), .val (.int (own_off x0)), .val (.int (own_len x0 x1)), .val (.ref b81), .val (.ref b111), .val (.int (0 : Int32))] []))
                refine own_go (fun _ k => XS.iconst X192.here hx rfl (hb hby at_193) k) ?_
                show own_G p.tables e below _ (T192.setTop (mkF m 194 #[.val (.int x0), .val (.int x1), .val (.long x2), .second, .val (.int x3), .val (.int (own_off x0)), .val (.int (own_len x0 x1)), .val (.ref b81), .val (.ref b111), .val (.int (0 : Int32))] [(.int (0 : Int32))]))
                exact own_endW X192 Bd.notSynchronized hS (by rw [e192]; exact hk_173) (v := some (.int (nar .boolean (0 : Int32)))) (fun h => by rw [Bd.returns] at h; cases h) (Q := QL (some (.int (F0 x0 x1 x2 x3))) n0) ⟨by unfold F0; simp only [if_neg hc92_135, if_neg hc115_175, if_neg hc128_179, if_neg hc141_183, if_neg hc154_187, if_pos hc167_191, if_neg hc186_193]; try rfl, N_166⟩ (fun fs hr => retN X192 hx (t := .boolean) Bd.returns (by simp) (hb hby at_194) hr) (by decide) (by decide)
            · refine own_go (fun _ k => XS.ifNo X190.here hx rfl (hb hby at_167) rfl (((if0 _ _).trans (feq hc167_191).1)) k) ?_
              show own_G p.tables e below _ (T190.setTop (mkF m 170 #[.val (.int x0), .val (.int x1), .val (.long x2), .second, .val (.int x3), .val (.int (own_off x0)), .val (.int (own_len x0 x1)), .val (.ref b81), .val (.ref b111), .unset] []))
              refine own_go (fun _ k => XS.iconst X190.here hx rfl (hb hby at_170) k) ?_
              show own_G p.tables e below _ (T190.setTop (mkF m 171 #[.val (.int x0), .val (.int x1), .val (.long x2), .second, .val (.int x3), .val (.int (own_off x0)), .val (.int (own_len x0 x1)), .val (.ref b81), .val (.ref b111), .unset] [(.int (1 : Int32))]))
              refine own_go (fun _ k => XS.goto X190.here hx rfl (pc0 := 171) (pc' := 175) rfl (hb hby at_171) (by decide) (by decide) k) ?_
              show own_G p.tables e below _ (T190.setTop (mkF m 175 #[.val (.int x0), .val (.int x1), .val (.long x2), .second, .val (.int x3), .val (.int (own_off x0)), .val (.int (own_len x0 x1)), .val (.ref b81), .val (.ref b111), .unset] [(.int (1 : Int32))]))
              refine own_go (fun _ k => XS.istore X190.here hx rfl (hb hby at_175) rfl (l' := #[.val (.int x0), .val (.int x1), .val (.long x2), .second, .val (.int x3), .val (.int (own_off x0)), .val (.int (own_len x0 x1)), .val (.ref b81), .val (.ref b111), .val (.int (1 : Int32))]) rfl k) ?_
              show own_G p.tables e below _ (T190.setTop (mkF m 177 #[.val (.int x0), .val (.int x1), .val (.long x2), .second, .val (.int x3), .val (.int (own_off x0)), .val (.int (own_len x0 x1)), .val (.ref b81), .val (.ref b111), .val (.int (1 : Int32))] []))
              refine own_go (fun _ k => XS.aload X190.here hx rfl (hb hby at_177) rfl rfl k) ?_
              show own_G p.tables e below _ (T190.setTop (mkF m 179 #[.val (.int x0), .val (.int x1), .val (.long x2), .second, .val (.int x3), .val (.int (own_off x0)), .val (.int (own_len x0 x1)), .val (.ref b81), .val (.ref b111), .val (.int (1 : Int32))] [(.ref b111)]))
              refine own_go (fun _ k => XS.aload X190.here hx rfl (hb hby at_179) rfl rfl k) ?_
              show own_G p.tables e below _ (T190.setTop (mkF m 181 #[.val (.int x0), .val (.int x1), .val (.long x2), .second, .val (.int x3), .val (.int (own_off x0)), .val (.int (own_len x0 x1)), .val (.ref b81), .val (.ref b111), .val (.int (1 : Int32))] [(.ref b81), (.ref b111)]))
              obtain ⟨T194, X194, e194, st194⟩ := own_callV X190 hx hZ (y := (⟨"com/example/davka/davka/layout/Field", "isBlankIn", "([C)Z"⟩ : MethodName)) hown (hw _ (List.mem_of_getElem? (i := 45) rfl)) (hw _ (List.mem_of_getElem? (i := 46) rfl)) (hw _ (List.mem_of_getElem? (i := 48) rfl)) (hw _ (List.mem_of_getElem? (i := 47) rfl)) (hw _ (List.mem_of_getElem? (i := 9) rfl)) (hw _ (List.mem_of_getElem? (i := 49) rfl)) (by decide) (W := 0) (rm6 l Z a0 hw [] b111 b81 k81 (own_off x0) (own_len x0 x1) (own_cs x2) T166.heap G_168 G_169 V_170 hoff hto) (by decide) (by decide) rfl rfl e190 G_167 (g := (mkF m 181 #[.val (.int x0), .val (.int x1), .val (.long x2), .second, .val (.int x3), .val (.int (own_off x0)), .val (.int (own_len x0 x1)), .val (.ref b81), .val (.ref b111), .val (.int (1 : Int32))] [(.ref b81), (.ref b111)])) rfl (by rw [hml]; rfl) (argsL := [(.ref b81)]) (rest := []) (lenOf own_pd4 rfl) rfl rfl (by show 2 * 0 + _ ≤ _; exact Nat.le_of_eq rfl) (hb hby at_181) (by decide) (by decide)
              refine own_go st194 ?_
              show own_G p.tables e below _ (T194.setTop (mkF m 184 #[.val (.int x0), .val (.int x1), .val (.long x2), .second, .val (.int x3), .val (.int (own_off x0)), .val (.int (own_len x0 x1)), .val (.ref b81), .val (.ref b111), .val (.int (1 : Int32))] [(.int (F6  (own_off x0) (own_len x0 x1) (own_cs x2)))]))
              refine own_go (fun _ k => XS.iload X194.here hx rfl (hb hby at_184) rfl k) ?_
              show own_G p.tables e below _ (T194.setTop (mkF m 186 #[.val (.int x0), .val (.int x1), .val (.long x2), .second, .val (.int x3), .val (.int (own_off x0)), .val (.int (own_len x0 x1)), .val (.ref b81), .val (.ref b111), .val (.int (1 : Int32))] [(.int (1 : Int32)), (.int (F6  (own_off x0) (own_len x0 x1) (own_cs x2)))]))
              by_cases hc186_195 : (F6  (own_off x0) (own_len x0 x1) (own_cs x2)) = (1 : Int32)
              · refine own_go (fun _ k => XS.icmpNo X194.here hx rfl (hb hby at_186) rfl ((teq hc186_195).2) k) ?_
                show own_G p.tables e below _ (T194.setTop (mkF m 189 #[.val (.int x0), .val (.int x1), .val (.long x2), .second, .val (.int x3), .val (.int (own_off x0)), .val (.int (own_len x0 x1)), .val (.ref b81), .val (.ref b111), .val (.int (1 : Int32))] []))
                refine own_go (fun _ k => XS.iconst X194.here hx rfl (hb hby at_189) k) ?_
                show own_G p.tables e below _ (T194.setTop (mkF m 190 #[.val (.int x0), .val (.int x1), .val (.long x2), .second, .val (.int x3), .val (.int (own_off x0)), .val (.int (own_len x0 x1)), .val (.ref b81), .val (.ref b111), .val (.int (1 : Int32))] [(.int (1 : Int32))]))
                refine own_go (fun _ k => XS.goto X194.here hx rfl (pc0 := 190) (pc' := 194) rfl (hb hby at_190) (by decide) (by decide) k) ?_
                show own_G p.tables e below _ (T194.setTop (mkF m 194 #[.val (.int x0), .val (.int x1), .val (.long x2), .second, .val (.int x3), .val (.int (own_off x0)), .val (.int (own_len x0 x1)), .val (.ref b81), .val (.ref b111), .val (.int (1 : Int32))] [(.int (1 : Int32))]))
                exact own_endW X194 Bd.notSynchronized hS (by rw [e194]; exact hk_173) (v := some (.int (nar .boolean (1 : Int32)))) (fun h => by rw [Bd.returns] at h; cases h) (Q := QL (some (.int (F0 x0 x1 x2 x3))) n0) ⟨by unfold F0; simp only [if_neg hc92_135, if_neg hc115_175, if_neg hc128_179, if_neg hc141_183, if_neg hc154_187, if_neg hc167_191, if_pos hc186_195]; try rfl, N_166⟩ (fun fs hr => retN X194 hx (t := .boolean) Bd.returns (by simp) (hb hby at_194) hr) (by decide) (by decide)
              · refine own_go (fun _ k => XS.icmpYes X194.here hx rfl (pc0 := 186) (pc' := 193) rfl (hb hby at_186) rfl ((feq hc186_195).2) (by decide) (by decide) k) ?_
                show own_G p.tables e below _ (T194.setTop (mkF m 193 #[.val (.int x0), .val (.int x1), .val (.long x2), .second, .val (.int x3), .val (.int (own_off x0)), .val (.int (own_len x0 x1)), .val (.ref b81), .val (.ref b111), .val (.int (1 : Int32))] []))
                refine own_go (fun _ k => XS.iconst X194.here hx rfl (hb hby at_193) k) ?_
                show own_G p.tables e below _ (T194.setTop (mkF m 194 #[.val (.int x0), .val (.int x1), .val (.long x2), .second, .val (.int x3), .val (.int (own_off x0)), .val (.int (own_len x0 x1)), .val (.ref b81), .val (.ref b111), .val (.int (1 : Int32))] [(.int (0 : Int32))]))
                exact own_endW X194 Bd.notSynchronized hS (by rw [e194]; exact hk_173) (v := some (.int (nar .boolean (0 : Int32)))) (fun h => by rw [Bd.returns] at h; cases h) (Q := QL (some (.int (F0 x0 x1 x2 x3))) n0) ⟨by unfold F0; simp only [if_neg hc92_135, if_neg hc115_175, if_neg hc128_179, if_neg hc141_183, if_neg hc154_187, if_neg hc167_191, if_neg hc186_195]; try rfl, N_166⟩ (fun fs hr => retN X194 hx (t := .boolean) Bd.returns (by simp) (hb hby at_194) hr) (by decide) (by decide)
def own_G0 (g : Nat → Int32) (u v : Int32) : Int32 :=
  (if (F5 (0 : Int32) u v g) = (0 : Int32) then (if (F6 u v g) = (0 : Int32) then 1 else 0) else (if (F5 (1 : Int32) u v g) = (0 : Int32) then (if (F6 u v g) = (0 : Int32) then 1 else 0) else (if (F5 (2 : Int32) u v g) = (0 : Int32) then (if (F6 u v g) = (0 : Int32) then 1 else 0) else (if (F5 (3 : Int32) u v g) = (0 : Int32) then (if (F6 u v g) = (0 : Int32) then 1 else 0) else (if (F5 (4 : Int32) u v g) = (0 : Int32) then (if (F6 u v g) = (0 : Int32) then 1 else 0) else (if (F6 u v g) = (1 : Int32) then 1 else 0))))))
theorem own_c00 (g : Nat → Int32) : own_G0 g (0 : Int32) (0 : Int32) = 1 := by
  have b0 : F5 (0 : Int32) (0 : Int32) (0 : Int32) g = 1 := rfl
  have b1 : F5 (1 : Int32) (0 : Int32) (0 : Int32) g = 1 := rfl
  have b2 : F5 (2 : Int32) (0 : Int32) (0 : Int32) g = 1 := rfl
  have b3 : F5 (3 : Int32) (0 : Int32) (0 : Int32) g = 1 := rfl
  have b4 : F5 (4 : Int32) (0 : Int32) (0 : Int32) g = 1 := rfl
  have m : F6 (0 : Int32) (0 : Int32) g = 1 := rfl
  unfold own_G0
  rw [b0, b1, b2, b3, b4, m]
  rfl
theorem own_c01 (g : Nat → Int32) : own_G0 g (0 : Int32) (1 : Int32) = 1 := by
  have b0 : F5 (0 : Int32) (0 : Int32) (1 : Int32) g = (if g 0 = 32 then 1 else 0) := rfl
  have b1 : F5 (1 : Int32) (0 : Int32) (1 : Int32) g = 1 := rfl
  have b2 : F5 (2 : Int32) (0 : Int32) (1 : Int32) g = 1 := rfl
  have b3 : F5 (3 : Int32) (0 : Int32) (1 : Int32) g = 1 := rfl
  have b4 : F5 (4 : Int32) (0 : Int32) (1 : Int32) g = 1 := rfl
  have m : F6 (0 : Int32) (1 : Int32) g = (if g 0 = 32 then 1 else 0) := rfl
  unfold own_G0
  rw [b0, b1, b2, b3, b4, m]
  generalize g 0 = y0
  by_cases h0 : y0 = 32
  · simp [h0]
  · simp [h0]
theorem own_c02 (g : Nat → Int32) : own_G0 g (0 : Int32) (2 : Int32) = 1 := by
  have b0 : F5 (0 : Int32) (0 : Int32) (2 : Int32) g = (if g 0 = 32 then 1 else 0) := rfl
  have b1 : F5 (1 : Int32) (0 : Int32) (2 : Int32) g = (if g 1 = 32 then 1 else 0) := rfl
  have b2 : F5 (2 : Int32) (0 : Int32) (2 : Int32) g = 1 := rfl
  have b3 : F5 (3 : Int32) (0 : Int32) (2 : Int32) g = 1 := rfl
  have b4 : F5 (4 : Int32) (0 : Int32) (2 : Int32) g = 1 := rfl
  have m : F6 (0 : Int32) (2 : Int32) g = (if g 0 = 32 then (if g 1 = 32 then 1 else 0) else 0) := rfl
  unfold own_G0
  rw [b0, b1, b2, b3, b4, m]
  generalize g 0 = y0
  generalize g 1 = y1
  by_cases h0 : y0 = 32
  · by_cases h1 : y1 = 32
    · simp [h0, h1]
    · simp [h0, h1]
  · simp [h0]
theorem own_c03 (g : Nat → Int32) : own_G0 g (0 : Int32) (3 : Int32) = 1 := by
  have b0 : F5 (0 : Int32) (0 : Int32) (3 : Int32) g = (if g 0 = 32 then 1 else 0) := rfl
  have b1 : F5 (1 : Int32) (0 : Int32) (3 : Int32) g = (if g 1 = 32 then 1 else 0) := rfl
  have b2 : F5 (2 : Int32) (0 : Int32) (3 : Int32) g = (if g 2 = 32 then 1 else 0) := rfl
  have b3 : F5 (3 : Int32) (0 : Int32) (3 : Int32) g = 1 := rfl
  have b4 : F5 (4 : Int32) (0 : Int32) (3 : Int32) g = 1 := rfl
  have m : F6 (0 : Int32) (3 : Int32) g = (if g 0 = 32 then (if g 1 = 32 then (if g 2 = 32 then 1 else 0) else 0) else 0) := rfl
  unfold own_G0
  rw [b0, b1, b2, b3, b4, m]
  generalize g 0 = y0
  generalize g 1 = y1
  generalize g 2 = y2
  by_cases h0 : y0 = 32
  · by_cases h1 : y1 = 32
    · by_cases h2 : y2 = 32
      · simp [h0, h1, h2]
      · simp [h0, h1, h2]
    · simp [h0, h1]
  · simp [h0]
theorem own_c04 (g : Nat → Int32) : own_G0 g (0 : Int32) (4 : Int32) = 1 := by
  have b0 : F5 (0 : Int32) (0 : Int32) (4 : Int32) g = (if g 0 = 32 then 1 else 0) := rfl
  have b1 : F5 (1 : Int32) (0 : Int32) (4 : Int32) g = (if g 1 = 32 then 1 else 0) := rfl
  have b2 : F5 (2 : Int32) (0 : Int32) (4 : Int32) g = (if g 2 = 32 then 1 else 0) := rfl
  have b3 : F5 (3 : Int32) (0 : Int32) (4 : Int32) g = (if g 3 = 32 then 1 else 0) := rfl
  have b4 : F5 (4 : Int32) (0 : Int32) (4 : Int32) g = 1 := rfl
  have m : F6 (0 : Int32) (4 : Int32) g = (if g 0 = 32 then (if g 1 = 32 then (if g 2 = 32 then (if g 3 = 32 then 1 else 0) else 0) else 0) else 0) := rfl
  unfold own_G0
  rw [b0, b1, b2, b3, b4, m]
  generalize g 0 = y0
  generalize g 1 = y1
  generalize g 2 = y2
  generalize g 3 = y3
  by_cases h0 : y0 = 32
  · by_cases h1 : y1 = 32
    · by_cases h2 : y2 = 32
      · by_cases h3 : y3 = 32
        · simp [h0, h1, h2, h3]
        · simp [h0, h1, h2, h3]
      · simp [h0, h1, h2]
    · simp [h0, h1]
  · simp [h0]
theorem own_c05 (g : Nat → Int32) : own_G0 g (0 : Int32) (5 : Int32) = 1 := by
  have b0 : F5 (0 : Int32) (0 : Int32) (5 : Int32) g = (if g 0 = 32 then 1 else 0) := rfl
  have b1 : F5 (1 : Int32) (0 : Int32) (5 : Int32) g = (if g 1 = 32 then 1 else 0) := rfl
  have b2 : F5 (2 : Int32) (0 : Int32) (5 : Int32) g = (if g 2 = 32 then 1 else 0) := rfl
  have b3 : F5 (3 : Int32) (0 : Int32) (5 : Int32) g = (if g 3 = 32 then 1 else 0) := rfl
  have b4 : F5 (4 : Int32) (0 : Int32) (5 : Int32) g = (if g 4 = 32 then 1 else 0) := rfl
  have m : F6 (0 : Int32) (5 : Int32) g = (if g 0 = 32 then (if g 1 = 32 then (if g 2 = 32 then (if g 3 = 32 then (if g 4 = 32 then 1 else 0) else 0) else 0) else 0) else 0) := rfl
  unfold own_G0
  rw [b0, b1, b2, b3, b4, m]
  generalize g 0 = y0
  generalize g 1 = y1
  generalize g 2 = y2
  generalize g 3 = y3
  generalize g 4 = y4
  by_cases h0 : y0 = 32
  · by_cases h1 : y1 = 32
    · by_cases h2 : y2 = 32
      · by_cases h3 : y3 = 32
        · by_cases h4 : y4 = 32
          · simp [h0, h1, h2, h3, h4]
          · simp [h0, h1, h2, h3, h4]
        · simp [h0, h1, h2, h3]
      · simp [h0, h1, h2]
    · simp [h0, h1]
  · simp [h0]
theorem own_c10 (g : Nat → Int32) : own_G0 g (1 : Int32) (0 : Int32) = 1 := by
  have b0 : F5 (0 : Int32) (1 : Int32) (0 : Int32) g = 1 := rfl
  have b1 : F5 (1 : Int32) (1 : Int32) (0 : Int32) g = 1 := rfl
  have b2 : F5 (2 : Int32) (1 : Int32) (0 : Int32) g = 1 := rfl
  have b3 : F5 (3 : Int32) (1 : Int32) (0 : Int32) g = 1 := rfl
  have b4 : F5 (4 : Int32) (1 : Int32) (0 : Int32) g = 1 := rfl
  have m : F6 (1 : Int32) (0 : Int32) g = 1 := rfl
  unfold own_G0
  rw [b0, b1, b2, b3, b4, m]
  rfl
theorem own_c11 (g : Nat → Int32) : own_G0 g (1 : Int32) (1 : Int32) = 1 := by
  have b0 : F5 (0 : Int32) (1 : Int32) (1 : Int32) g = 1 := rfl
  have b1 : F5 (1 : Int32) (1 : Int32) (1 : Int32) g = (if g 1 = 32 then 1 else 0) := rfl
  have b2 : F5 (2 : Int32) (1 : Int32) (1 : Int32) g = 1 := rfl
  have b3 : F5 (3 : Int32) (1 : Int32) (1 : Int32) g = 1 := rfl
  have b4 : F5 (4 : Int32) (1 : Int32) (1 : Int32) g = 1 := rfl
  have m : F6 (1 : Int32) (1 : Int32) g = (if g 1 = 32 then 1 else 0) := rfl
  unfold own_G0
  rw [b0, b1, b2, b3, b4, m]
  generalize g 1 = y1
  by_cases h1 : y1 = 32
  · simp [h1]
  · simp [h1]
theorem own_c12 (g : Nat → Int32) : own_G0 g (1 : Int32) (2 : Int32) = 1 := by
  have b0 : F5 (0 : Int32) (1 : Int32) (2 : Int32) g = 1 := rfl
  have b1 : F5 (1 : Int32) (1 : Int32) (2 : Int32) g = (if g 1 = 32 then 1 else 0) := rfl
  have b2 : F5 (2 : Int32) (1 : Int32) (2 : Int32) g = (if g 2 = 32 then 1 else 0) := rfl
  have b3 : F5 (3 : Int32) (1 : Int32) (2 : Int32) g = 1 := rfl
  have b4 : F5 (4 : Int32) (1 : Int32) (2 : Int32) g = 1 := rfl
  have m : F6 (1 : Int32) (2 : Int32) g = (if g 1 = 32 then (if g 2 = 32 then 1 else 0) else 0) := rfl
  unfold own_G0
  rw [b0, b1, b2, b3, b4, m]
  generalize g 1 = y1
  generalize g 2 = y2
  by_cases h1 : y1 = 32
  · by_cases h2 : y2 = 32
    · simp [h1, h2]
    · simp [h1, h2]
  · simp [h1]
theorem own_c13 (g : Nat → Int32) : own_G0 g (1 : Int32) (3 : Int32) = 1 := by
  have b0 : F5 (0 : Int32) (1 : Int32) (3 : Int32) g = 1 := rfl
  have b1 : F5 (1 : Int32) (1 : Int32) (3 : Int32) g = (if g 1 = 32 then 1 else 0) := rfl
  have b2 : F5 (2 : Int32) (1 : Int32) (3 : Int32) g = (if g 2 = 32 then 1 else 0) := rfl
  have b3 : F5 (3 : Int32) (1 : Int32) (3 : Int32) g = (if g 3 = 32 then 1 else 0) := rfl
  have b4 : F5 (4 : Int32) (1 : Int32) (3 : Int32) g = 1 := rfl
  have m : F6 (1 : Int32) (3 : Int32) g = (if g 1 = 32 then (if g 2 = 32 then (if g 3 = 32 then 1 else 0) else 0) else 0) := rfl
  unfold own_G0
  rw [b0, b1, b2, b3, b4, m]
  generalize g 1 = y1
  generalize g 2 = y2
  generalize g 3 = y3
  by_cases h1 : y1 = 32
  · by_cases h2 : y2 = 32
    · by_cases h3 : y3 = 32
      · simp [h1, h2, h3]
      · simp [h1, h2, h3]
    · simp [h1, h2]
  · simp [h1]
theorem own_c14 (g : Nat → Int32) : own_G0 g (1 : Int32) (4 : Int32) = 1 := by
  have b0 : F5 (0 : Int32) (1 : Int32) (4 : Int32) g = 1 := rfl
  have b1 : F5 (1 : Int32) (1 : Int32) (4 : Int32) g = (if g 1 = 32 then 1 else 0) := rfl
  have b2 : F5 (2 : Int32) (1 : Int32) (4 : Int32) g = (if g 2 = 32 then 1 else 0) := rfl
  have b3 : F5 (3 : Int32) (1 : Int32) (4 : Int32) g = (if g 3 = 32 then 1 else 0) := rfl
  have b4 : F5 (4 : Int32) (1 : Int32) (4 : Int32) g = (if g 4 = 32 then 1 else 0) := rfl
  have m : F6 (1 : Int32) (4 : Int32) g = (if g 1 = 32 then (if g 2 = 32 then (if g 3 = 32 then (if g 4 = 32 then 1 else 0) else 0) else 0) else 0) := rfl
  unfold own_G0
  rw [b0, b1, b2, b3, b4, m]
  generalize g 1 = y1
  generalize g 2 = y2
  generalize g 3 = y3
  generalize g 4 = y4
  by_cases h1 : y1 = 32
  · by_cases h2 : y2 = 32
    · by_cases h3 : y3 = 32
      · by_cases h4 : y4 = 32
        · simp [h1, h2, h3, h4]
        · simp [h1, h2, h3, h4]
      · simp [h1, h2, h3]
    · simp [h1, h2]
  · simp [h1]
theorem own_c20 (g : Nat → Int32) : own_G0 g (2 : Int32) (0 : Int32) = 1 := by
  have b0 : F5 (0 : Int32) (2 : Int32) (0 : Int32) g = 1 := rfl
  have b1 : F5 (1 : Int32) (2 : Int32) (0 : Int32) g = 1 := rfl
  have b2 : F5 (2 : Int32) (2 : Int32) (0 : Int32) g = 1 := rfl
  have b3 : F5 (3 : Int32) (2 : Int32) (0 : Int32) g = 1 := rfl
  have b4 : F5 (4 : Int32) (2 : Int32) (0 : Int32) g = 1 := rfl
  have m : F6 (2 : Int32) (0 : Int32) g = 1 := rfl
  unfold own_G0
  rw [b0, b1, b2, b3, b4, m]
  rfl
theorem own_c21 (g : Nat → Int32) : own_G0 g (2 : Int32) (1 : Int32) = 1 := by
  have b0 : F5 (0 : Int32) (2 : Int32) (1 : Int32) g = 1 := rfl
  have b1 : F5 (1 : Int32) (2 : Int32) (1 : Int32) g = 1 := rfl
  have b2 : F5 (2 : Int32) (2 : Int32) (1 : Int32) g = (if g 2 = 32 then 1 else 0) := rfl
  have b3 : F5 (3 : Int32) (2 : Int32) (1 : Int32) g = 1 := rfl
  have b4 : F5 (4 : Int32) (2 : Int32) (1 : Int32) g = 1 := rfl
  have m : F6 (2 : Int32) (1 : Int32) g = (if g 2 = 32 then 1 else 0) := rfl
  unfold own_G0
  rw [b0, b1, b2, b3, b4, m]
  generalize g 2 = y2
  by_cases h2 : y2 = 32
  · simp [h2]
  · simp [h2]
theorem own_c22 (g : Nat → Int32) : own_G0 g (2 : Int32) (2 : Int32) = 1 := by
  have b0 : F5 (0 : Int32) (2 : Int32) (2 : Int32) g = 1 := rfl
  have b1 : F5 (1 : Int32) (2 : Int32) (2 : Int32) g = 1 := rfl
  have b2 : F5 (2 : Int32) (2 : Int32) (2 : Int32) g = (if g 2 = 32 then 1 else 0) := rfl
  have b3 : F5 (3 : Int32) (2 : Int32) (2 : Int32) g = (if g 3 = 32 then 1 else 0) := rfl
  have b4 : F5 (4 : Int32) (2 : Int32) (2 : Int32) g = 1 := rfl
  have m : F6 (2 : Int32) (2 : Int32) g = (if g 2 = 32 then (if g 3 = 32 then 1 else 0) else 0) := rfl
  unfold own_G0
  rw [b0, b1, b2, b3, b4, m]
  generalize g 2 = y2
  generalize g 3 = y3
  by_cases h2 : y2 = 32
  · by_cases h3 : y3 = 32
    · simp [h2, h3]
    · simp [h2, h3]
  · simp [h2]
theorem own_c23 (g : Nat → Int32) : own_G0 g (2 : Int32) (3 : Int32) = 1 := by
  have b0 : F5 (0 : Int32) (2 : Int32) (3 : Int32) g = 1 := rfl
  have b1 : F5 (1 : Int32) (2 : Int32) (3 : Int32) g = 1 := rfl
  have b2 : F5 (2 : Int32) (2 : Int32) (3 : Int32) g = (if g 2 = 32 then 1 else 0) := rfl
  have b3 : F5 (3 : Int32) (2 : Int32) (3 : Int32) g = (if g 3 = 32 then 1 else 0) := rfl
  have b4 : F5 (4 : Int32) (2 : Int32) (3 : Int32) g = (if g 4 = 32 then 1 else 0) := rfl
  have m : F6 (2 : Int32) (3 : Int32) g = (if g 2 = 32 then (if g 3 = 32 then (if g 4 = 32 then 1 else 0) else 0) else 0) := rfl
  unfold own_G0
  rw [b0, b1, b2, b3, b4, m]
  generalize g 2 = y2
  generalize g 3 = y3
  generalize g 4 = y4
  by_cases h2 : y2 = 32
  · by_cases h3 : y3 = 32
    · by_cases h4 : y4 = 32
      · simp [h2, h3, h4]
      · simp [h2, h3, h4]
    · simp [h2, h3]
  · simp [h2]
theorem own_c30 (g : Nat → Int32) : own_G0 g (3 : Int32) (0 : Int32) = 1 := by
  have b0 : F5 (0 : Int32) (3 : Int32) (0 : Int32) g = 1 := rfl
  have b1 : F5 (1 : Int32) (3 : Int32) (0 : Int32) g = 1 := rfl
  have b2 : F5 (2 : Int32) (3 : Int32) (0 : Int32) g = 1 := rfl
  have b3 : F5 (3 : Int32) (3 : Int32) (0 : Int32) g = 1 := rfl
  have b4 : F5 (4 : Int32) (3 : Int32) (0 : Int32) g = 1 := rfl
  have m : F6 (3 : Int32) (0 : Int32) g = 1 := rfl
  unfold own_G0
  rw [b0, b1, b2, b3, b4, m]
  rfl
theorem own_c31 (g : Nat → Int32) : own_G0 g (3 : Int32) (1 : Int32) = 1 := by
  have b0 : F5 (0 : Int32) (3 : Int32) (1 : Int32) g = 1 := rfl
  have b1 : F5 (1 : Int32) (3 : Int32) (1 : Int32) g = 1 := rfl
  have b2 : F5 (2 : Int32) (3 : Int32) (1 : Int32) g = 1 := rfl
  have b3 : F5 (3 : Int32) (3 : Int32) (1 : Int32) g = (if g 3 = 32 then 1 else 0) := rfl
  have b4 : F5 (4 : Int32) (3 : Int32) (1 : Int32) g = 1 := rfl
  have m : F6 (3 : Int32) (1 : Int32) g = (if g 3 = 32 then 1 else 0) := rfl
  unfold own_G0
  rw [b0, b1, b2, b3, b4, m]
  generalize g 3 = y3
  by_cases h3 : y3 = 32
  · simp [h3]
  · simp [h3]
theorem own_c32 (g : Nat → Int32) : own_G0 g (3 : Int32) (2 : Int32) = 1 := by
  have b0 : F5 (0 : Int32) (3 : Int32) (2 : Int32) g = 1 := rfl
  have b1 : F5 (1 : Int32) (3 : Int32) (2 : Int32) g = 1 := rfl
  have b2 : F5 (2 : Int32) (3 : Int32) (2 : Int32) g = 1 := rfl
  have b3 : F5 (3 : Int32) (3 : Int32) (2 : Int32) g = (if g 3 = 32 then 1 else 0) := rfl
  have b4 : F5 (4 : Int32) (3 : Int32) (2 : Int32) g = (if g 4 = 32 then 1 else 0) := rfl
  have m : F6 (3 : Int32) (2 : Int32) g = (if g 3 = 32 then (if g 4 = 32 then 1 else 0) else 0) := rfl
  unfold own_G0
  rw [b0, b1, b2, b3, b4, m]
  generalize g 3 = y3
  generalize g 4 = y4
  by_cases h3 : y3 = 32
  · by_cases h4 : y4 = 32
    · simp [h3, h4]
    · simp [h3, h4]
  · simp [h3]
theorem own_c40 (g : Nat → Int32) : own_G0 g (4 : Int32) (0 : Int32) = 1 := by
  have b0 : F5 (0 : Int32) (4 : Int32) (0 : Int32) g = 1 := rfl
  have b1 : F5 (1 : Int32) (4 : Int32) (0 : Int32) g = 1 := rfl
  have b2 : F5 (2 : Int32) (4 : Int32) (0 : Int32) g = 1 := rfl
  have b3 : F5 (3 : Int32) (4 : Int32) (0 : Int32) g = 1 := rfl
  have b4 : F5 (4 : Int32) (4 : Int32) (0 : Int32) g = 1 := rfl
  have m : F6 (4 : Int32) (0 : Int32) g = 1 := rfl
  unfold own_G0
  rw [b0, b1, b2, b3, b4, m]
  rfl
theorem own_c41 (g : Nat → Int32) : own_G0 g (4 : Int32) (1 : Int32) = 1 := by
  have b0 : F5 (0 : Int32) (4 : Int32) (1 : Int32) g = 1 := rfl
  have b1 : F5 (1 : Int32) (4 : Int32) (1 : Int32) g = 1 := rfl
  have b2 : F5 (2 : Int32) (4 : Int32) (1 : Int32) g = 1 := rfl
  have b3 : F5 (3 : Int32) (4 : Int32) (1 : Int32) g = 1 := rfl
  have b4 : F5 (4 : Int32) (4 : Int32) (1 : Int32) g = (if g 4 = 32 then 1 else 0) := rfl
  have m : F6 (4 : Int32) (1 : Int32) g = (if g 4 = 32 then 1 else 0) := rfl
  unfold own_G0
  rw [b0, b1, b2, b3, b4, m]
  generalize g 4 = y4
  by_cases h4 : y4 = 32
  · simp [h4]
  · simp [h4]
theorem own_c50 (g : Nat → Int32) : own_G0 g (5 : Int32) (0 : Int32) = 1 := by
  have b0 : F5 (0 : Int32) (5 : Int32) (0 : Int32) g = 1 := rfl
  have b1 : F5 (1 : Int32) (5 : Int32) (0 : Int32) g = 1 := rfl
  have b2 : F5 (2 : Int32) (5 : Int32) (0 : Int32) g = 1 := rfl
  have b3 : F5 (3 : Int32) (5 : Int32) (0 : Int32) g = 1 := rfl
  have b4 : F5 (4 : Int32) (5 : Int32) (0 : Int32) g = 1 := rfl
  have m : F6 (5 : Int32) (0 : Int32) g = 1 := rfl
  unfold own_G0
  rw [b0, b1, b2, b3, b4, m]
  rfl
theorem own_law (a b : Int32) (c : Int64) (d : Int32) : F0 a b c d = 1 := by
  have hf := own_off_b a
  have hl := own_len_b a b
  have e : F0 a b c d = own_G0 (own_cs c) (own_off a) (own_len a b) := by
    unfold F0
    by_cases h : (d &&& (1 : Int32)) = (0 : Int32)
    · rw [if_pos h]; rfl
    · rw [if_neg h]; rfl
  rw [e]
  generalize own_cs c = g
  generalize own_len a b = v at hl
  generalize own_off a = u at hf hl
  have eu : u.toInt = 0 ∨ u.toInt = 1 ∨ u.toInt = 2 ∨ u.toInt = 3 ∨ u.toInt = 4 ∨ u.toInt = 5 := by omega
  have ev : v.toInt = 0 ∨ v.toInt = 1 ∨ v.toInt = 2 ∨ v.toInt = 3 ∨ v.toInt = 4 ∨ v.toInt = 5 := by omega
  have lit : ∀ {z : Int32} (n : Nat), n < 6 → z.toInt = n → z = Int32.ofNat n := fun n r q => own_ext q (by omega)
  rcases eu with q | q | q | q | q | q
  · obtain rfl := lit 0 (by decide) q
    rcases ev with z | z | z | z | z | z
    · obtain rfl := lit 0 (by decide) z
      exact own_c00 g
    · obtain rfl := lit 1 (by decide) z
      exact own_c01 g
    · obtain rfl := lit 2 (by decide) z
      exact own_c02 g
    · obtain rfl := lit 3 (by decide) z
      exact own_c03 g
    · obtain rfl := lit 4 (by decide) z
      exact own_c04 g
    · obtain rfl := lit 5 (by decide) z
      exact own_c05 g
  · obtain rfl := lit 1 (by decide) q
    rcases ev with z | z | z | z | z | z
    · obtain rfl := lit 0 (by decide) z
      exact own_c10 g
    · obtain rfl := lit 1 (by decide) z
      exact own_c11 g
    · obtain rfl := lit 2 (by decide) z
      exact own_c12 g
    · obtain rfl := lit 3 (by decide) z
      exact own_c13 g
    · obtain rfl := lit 4 (by decide) z
      exact own_c14 g
    · exfalso; omega
  · obtain rfl := lit 2 (by decide) q
    rcases ev with z | z | z | z | z | z
    · obtain rfl := lit 0 (by decide) z
      exact own_c20 g
    · obtain rfl := lit 1 (by decide) z
      exact own_c21 g
    · obtain rfl := lit 2 (by decide) z
      exact own_c22 g
    · obtain rfl := lit 3 (by decide) z
      exact own_c23 g
    · exfalso; omega
    · exfalso; omega
  · obtain rfl := lit 3 (by decide) q
    rcases ev with z | z | z | z | z | z
    · obtain rfl := lit 0 (by decide) z
      exact own_c30 g
    · obtain rfl := lit 1 (by decide) z
      exact own_c31 g
    · obtain rfl := lit 2 (by decide) z
      exact own_c32 g
    · exfalso; omega
    · exfalso; omega
    · exfalso; omega
  · obtain rfl := lit 4 (by decide) q
    rcases ev with z | z | z | z | z | z
    · obtain rfl := lit 0 (by decide) z
      exact own_c40 g
    · obtain rfl := lit 1 (by decide) z
      exact own_c41 g
    · exfalso; omega
    · exfalso; omega
    · exfalso; omega
    · exfalso; omega
  · obtain rfl := lit 5 (by decide) q
    rcases ev with z | z | z | z | z | z
    · obtain rfl := lit 0 (by decide) z
      exact own_c50 g
    · exfalso; omega
    · exfalso; omega
    · exfalso; omega
    · exfalso; omega
    · exfalso; omega
set_option maxRecDepth 65536 in
set_option maxHeartbeats 40000000 in
theorem comes_1 {Post : Tables → Env → Array Value → State → Outcome → State → Prop} (hpost : ∀ tb e args s v u, (limb_1_1.after args s (.returned v) u = true ∧ limb_1_2.after args s (.returned v) u = true ∧ True) → ReturnedEndW s (.returned v) u (Jvm.fieldLocs frame_1_writes args s ++ Jvm.arrayLocs frame_1_arrays args s ++ Jvm.staticLocs frame_1_statics s) 16 1152 → Post tb e args s (.returned v) u) :
    ArmFor flags0 classFile x code maxLocals ret World_1 tables_1 room_1 Calls_1 rest_1 Pre_1 Post := by
  intro l hfl _ _ p e ha hc hk s m args below hf hA hF happ hP
  obtain ⟨hcalls, hrest, hpre⟩ := hP
  obtain ⟨-, -, -, hnamed, -, -, -, hat⟩ := (Spec.applies_iff hf).mp happ
  obtain ⟨hg, hn⟩ := and_e (Cond.before_iff.mp (show (Jvm.Cond.and given_1 narrow_1).before args s = true from hpre))
  obtain ⟨hcnt, hq0⟩ := and_e hg
  obtain ⟨ha0, hq1⟩ := and_e hq0
  obtain ⟨ha1, hq2⟩ := and_e hq1
  obtain ⟨ha2, hq3⟩ := and_e hq2
  have ha3 := hq3
  obtain ⟨w0, w1, w2, w3, rfl⟩ : ∃ w0 w1 w2 w3 : Value, args = #[w0, w1, w2, w3] := by
    have hs : args.size = 4 := by simpa [Cond.value, given_1] using hcnt
    obtain ⟨L⟩ := args
    match L, hs with
    | [w0, w1, w2, w3], _ => exact ⟨w0, w1, w2, w3, rfl⟩
  have hw := fun d (hd : d ∈ tables_1) => atoms_spec (ws := Jvm.Cond.code x code maxLocals ret :: tables_1) hat d (List.mem_cons_of_mem _ hd)
  have hfit : Fit s := fun {y c} hc i hi => by
    obtain ⟨ha, rfl⟩ := Array.getElem?_eq_some_iff.mp hc
    have q := List.all_eq_true.mp ((Array.all_eq_true_iff_forall_mem.mp hF) _ (Array.getElem_mem ha)) i (List.mem_range.mpr hi)
    simpa [Array.getElem?_eq_getElem hi] using q
  obtain ⟨i0, ei0⟩ := is_v ha0
  obtain rfl : w0 = (.int i0) := Option.some.inj ei0
  obtain ⟨i1, ei1⟩ := is_v ha1
  obtain rfl : w1 = (.int i1) := Option.some.inj ei1
  obtain ⟨i2, ei2⟩ := isL_v ha2
  obtain rfl : w2 = (.long i2) := Option.some.inj ei2
  obtain ⟨i3, ei3⟩ := is_v ha3
  obtain rfl : w3 = (.int i3) := Option.some.inj ei3
  obtain ⟨kz, ekz⟩ := exa_v hn
  have St : Sta s s.heap "com/example/davka/davka/layout/FieldKind" "TEXT" "Lcom/example/davka/davka/layout/FieldKind;" (.ref kz) := Sta.start ekz (Or.inr ⟨(hw _ (List.mem_of_getElem? (i := 19) rfl)), (hw _ (List.mem_of_getElem? (i := 20) rfl))⟩)
  obtain ⟨n, o, h1, h2, h3, _, L, rfl, ⟨rfl, N⟩, hq⟩ := rm0 l s _ hw tables_1 i0 i1 i2 i3 kz s.heap s.heap.size (Nat.le_refl _) St p e ha hc hk s m _ below hf ((Spec.applies_iff_loose hf).mp happ).1 ⟨rfl, State.Warmed39.refl s, rfl⟩ trivial
  refine ⟨n, _, h1, h2, h3, hpost _ _ _ _ _ _ ⟨Cond.after_iff.mpr rfl, Cond.after_iff.mpr (eq_i res_at (Term.int_eval (1)) (by rw [own_law])), trivial⟩ ⟨hq.1, hq.2.1, hq.2.2.1, (hq.2.2.2.sift fun y hy => Or.inr (N y hy)).mono (by decide) (by decide)⟩⟩
theorem main_1_1 : Claimed_1_1 := comes_1 fun _ _ _ _ _ _ h hF => ⟨h.1, hF⟩
theorem main_1_2 : Claimed_1_2 := comes_1 fun _ _ _ _ _ _ h hF => ⟨h.2.1, hF⟩
end Jvm.Pilot.@@N@@
namespace Jvm.Pilot.@@N@@
open Jvm Jvm.ClassFile Sem Op Lib Jvm.Free Jvm.Stand Jvm.Pilot.@@N@@.Jvm.D
/-! MADE BY PROGRAM (witnessworld.py) out of the Statement's table words and the real class files: 19 classes; the members and pool entries that the words name. The judged class is class 1, her method 3. -/
namespace start1
open Jvm.ClassFile
def u (s : String) : CpInfo := .utf8 (stringToUtf16 s)
/-- a pool by its gaps: so many unusable entries, then the entry; so many at the end -/
def gap : Nat → List CpInfo → List CpInfo
  | 0, r => r
  | n + 1, r => .unusable :: gap n r
def poolList (es : List (Nat × CpInfo)) (last : Nat) : List CpInfo := es.foldr (fun e r => gap e.1 (e.2 :: r)) (gap last [])
def pool (es : List (Nat × CpInfo)) (last : Nat) : Array CpInfo := ⟨poolList es last⟩
def fileOf (pool : Array CpInfo) (this : Nat) (attrs : Array Attribute := #[]) (ms : Array MethodInfo := #[]) (fl : Nat := 33) (sup : Nat := 0) (ifs : Array Nat := #[]) (fds : Array FieldInfo := #[]) : ClassFile where
  minorVersion := 0
  majorVersion := 65
  constantPool := pool
  accessFlags := fl
  thisClass := this
  superClass := sup
  interfaces := ifs
  fields := fds
  methods := ms
  attributes := attrs
def plain (name : String) (sup : Option ClassId) : Class where
  name := name
  kind := .ordinary
  loader := none
  accessFlags := 33
  super := sup
  interfaces := #[]
  cf := none
  fields := #[]
  methods := #[]
  instanceTypes := #[]
  staticTypes := #[]
  resolved := #[]
  callSites := []
  init := .initialized
  statics := none
  mirror := none

def pool0 : Array CpInfo := pool [(5, u "<init>"), (0, u "()V"), (1, .class_ 10), (1, u "java/lang/Object")] 113

def k0c0 : Code := { maxStack := 0, maxLocals := 1, code := object_method_1_code, exceptionTable := #[], attributes := #[] }
def k0m0 : Method := { name := "<init>", desc := "()V", sig := { parameters := [], returnType := none }, accessFlags := 1, code := some k0c0 }
/-- java/lang/Object -/
def k0 : Class := { plain "java/lang/Object" none with
  accessFlags := 33
  interfaces := #[]
  cf := some (fileOf pool0 8 #[] #[{ accessFlags := 1, nameIndex := 5, descriptorIndex := 6, attributes := #[] }] 33 0 #[] #[])
  fields := #[]
  methods := #[k0m0]
  instanceTypes := #[]
  staticTypes := #[]
  resolved := Array.replicate 124 none
  statics := none }

def pool1 : Array CpInfo := pool [(2, .class_ 4), (1, u "java/lang/Object"), (0, u "<init>"), (0, u "()V"), (0, .long 511), (1, .integer 2147483647), (0, .methodref 11 12), (0, .class_ 13), (0, .nameAndType 14 15), (0, u "com/example/davka/davka/layout/FieldIsBlankInPinLaw"), (0, u "ch"), (0, u "(JI)C"), (0, .class_ 17), (0, u "com/example/davka/davka/layout/Field"), (0, .string 19), (0, u "f"), (0, .fieldref 21 22), (0, .class_ 23), (0, .nameAndType 24 25), (0, u "com/example/davka/davka/layout/FieldKind"), (0, u "TEXT"), (0, u "Lcom/example/davka/davka/layout/FieldKind;"), (0, .methodref 16 27), (0, .nameAndType 5 28), (0, u "(Ljava/lang/String;IILcom/example/davka/davka/layout/FieldKind;Z)V"), (0, .methodref 11 30), (0, .nameAndType 31 32), (0, u "ok"), (0, u "([CIII)Z"), (0, .methodref 16 34), (0, .nameAndType 35 36), (0, u "isBlankIn"), (0, u "([C)Z"), (3, u "law"), (0, u "(IIJI)Z")] 6

def k1m0 : Method := { name := "<init>", desc := "()V", sig := { parameters := [], returnType := none }, accessFlags := 2, code := none }
def k1c1 : Code := { maxStack := 4, maxLocals := 4, code := method_2_code, exceptionTable := #[], attributes := #[] }
def k1m1 : Method := { name := "ch", desc := "(JI)C", sig := { parameters := [.long, .int], returnType := some .char }, accessFlags := 10, code := some k1c1 }
def k1c2 : Code := { maxStack := 3, maxLocals := 4, code := method_3_code, exceptionTable := #[], attributes := #[] }
def k1m2 : Method := { name := "ok", desc := "([CIII)Z", sig := { parameters := [(.array .char), .int, .int, .int], returnType := some .boolean }, accessFlags := 10, code := some k1c2 }
def k1c3 : Code := { maxStack := 8, maxLocals := 10, code := code, exceptionTable := #[], attributes := #[] }
def k1m3 : Method := { name := "law", desc := "(IIJI)Z", sig := { parameters := [.int, .int, .long, .int], returnType := some .boolean }, accessFlags := 9, code := some k1c3 }
/-- com/example/davka/davka/layout/FieldIsBlankInPinLaw -/
def k1 : Class := { plain "com/example/davka/davka/layout/FieldIsBlankInPinLaw" (some 0) with
  accessFlags := 49
  interfaces := #[]
  cf := some (fileOf pool1 11 #[] #[{ accessFlags := 2, nameIndex := 5, descriptorIndex := 6, attributes := #[] }, { accessFlags := 10, nameIndex := 14, descriptorIndex := 15, attributes := #[] }, { accessFlags := 10, nameIndex := 31, descriptorIndex := 32, attributes := #[] }, { accessFlags := 9, nameIndex := 40, descriptorIndex := 41, attributes := #[] }] 49 2 #[] #[])
  fields := #[]
  methods := #[k1m0, k1m1, k1m2, k1m3]
  instanceTypes := #[]
  staticTypes := #[]
  resolved := Array.replicate 48 none
  statics := none }

def pool2 : Array CpInfo := pool [(1, .methodref 2 3), (0, .class_ 4), (0, .nameAndType 5 6), (0, u "java/lang/Object"), (0, u "<init>"), (0, u "()V"), (0, .class_ 8), (0, u "java/lang/Record")] 13

def k2c0 : Code := { maxStack := 1, maxLocals := 1, code := jdk_30_method_1_code, exceptionTable := #[], attributes := #[] }
def k2m0 : Method := { name := "<init>", desc := "()V", sig := { parameters := [], returnType := none }, accessFlags := 4, code := some k2c0 }
/-- java/lang/Record -/
def k2 : Class := { plain "java/lang/Record" (some 0) with
  accessFlags := 1057
  interfaces := #[]
  cf := some (fileOf pool2 7 #[] #[{ accessFlags := 4, nameIndex := 5, descriptorIndex := 6, attributes := #[] }] 1057 2 #[] #[])
  fields := #[]
  methods := #[k2m0]
  instanceTypes := #[]
  staticTypes := #[]
  resolved := Array.replicate 22 none
  statics := none }

def pool3 : Array CpInfo := pool [(1, .methodref 2 3), (0, .class_ 4), (0, .nameAndType 5 6), (0, u "java/lang/Record"), (0, u "<init>"), (0, u "()V"), (0, .fieldref 8 9), (0, .class_ 10), (0, .nameAndType 11 12), (0, u "com/example/davka/davka/layout/Field"), (0, u "name"), (0, u "Ljava/lang/String;"), (0, .fieldref 8 14), (0, .nameAndType 15 16), (0, u "offset"), (0, u "I"), (0, .fieldref 8 18), (0, .nameAndType 19 16), (0, u "length"), (0, .fieldref 8 21), (0, .nameAndType 22 23), (0, u "kind"), (0, u "Lcom/example/davka/davka/layout/FieldKind;"), (0, .fieldref 8 25), (0, .nameAndType 26 27), (0, u "optional"), (0, u "Z"), (57, u "(Ljava/lang/String;IILcom/example/davka/davka/layout/FieldKind;Z)V"), (7, u "isBlankIn"), (0, u "([C)Z")] 40

def k3c0 : Code := { maxStack := 2, maxLocals := 6, code := prog_147_method_1_code, exceptionTable := #[], attributes := #[] }
def k3m0 : Method := { name := "<init>", desc := "(Ljava/lang/String;IILcom/example/davka/davka/layout/FieldKind;Z)V", sig := { parameters := [(.object "java/lang/String"), .int, .int, (.object "com/example/davka/davka/layout/FieldKind"), .boolean], returnType := none }, accessFlags := 1, code := some k3c0 }
def k3c1 : Code := { maxStack := 3, maxLocals := 3, code := prog_147_method_6_code, exceptionTable := #[], attributes := #[] }
def k3m1 : Method := { name := "isBlankIn", desc := "([C)Z", sig := { parameters := [(.array .char)], returnType := some .boolean }, accessFlags := 1, code := some k3c1 }
/-- com/example/davka/davka/layout/Field -/
def k3 : Class := { plain "com/example/davka/davka/layout/Field" (some 2) with
  accessFlags := 49
  interfaces := #[]
  cf := some (fileOf pool3 8 #[] #[{ accessFlags := 1, nameIndex := 5, descriptorIndex := 85, attributes := #[] }, { accessFlags := 1, nameIndex := 93, descriptorIndex := 94, attributes := #[] }] 49 2 #[] #[{ accessFlags := 18, nameIndex := 11, descriptorIndex := 12, attributes := #[] }, { accessFlags := 18, nameIndex := 15, descriptorIndex := 16, attributes := #[] }, { accessFlags := 18, nameIndex := 19, descriptorIndex := 16, attributes := #[] }, { accessFlags := 18, nameIndex := 22, descriptorIndex := 23, attributes := #[] }, { accessFlags := 18, nameIndex := 26, descriptorIndex := 27, attributes := #[] }])
  fields := #[{ name := "name", type := (.object "java/lang/String"), accessFlags := 18, slot := 0, constantValue := 0 }, { name := "offset", type := .int, accessFlags := 18, slot := 1, constantValue := 0 }, { name := "length", type := .int, accessFlags := 18, slot := 2, constantValue := 0 }, { name := "kind", type := (.object "com/example/davka/davka/layout/FieldKind"), accessFlags := 18, slot := 3, constantValue := 0 }, { name := "optional", type := .boolean, accessFlags := 18, slot := 4, constantValue := 0 }]
  methods := #[k3m0, k3m1]
  instanceTypes := #[(.object "java/lang/String"), .int, .int, (.object "com/example/davka/davka/layout/FieldKind"), .boolean]
  staticTypes := #[]
  resolved := Array.replicate 135 none
  statics := none }

def pool4 : Array CpInfo := pool [(1, .class_ 2), (0, u "java/io/Serializable"), (0, .class_ 4), (0, u "java/lang/Object")] 2

/-- java/io/Serializable -/
def k4 : Class := { plain "java/io/Serializable" (some 0) with
  accessFlags := 1537
  interfaces := #[]
  cf := some (fileOf pool4 1 #[] #[] 1537 3 #[] #[])
  fields := #[]
  methods := #[]
  instanceTypes := #[]
  staticTypes := #[]
  resolved := Array.replicate 7 none
  statics := none }

def pool5 : Array CpInfo := pool [(1, .class_ 2), (0, u "java/lang/Comparable"), (0, .class_ 4), (0, u "java/lang/Object")] 7

/-- java/lang/Comparable -/
def k5 : Class := { plain "java/lang/Comparable" (some 0) with
  accessFlags := 1537
  interfaces := #[]
  cf := some (fileOf pool5 1 #[] #[] 1537 3 #[] #[])
  fields := #[]
  methods := #[]
  instanceTypes := #[]
  staticTypes := #[]
  resolved := Array.replicate 12 none
  statics := none }

def pool6 : Array CpInfo := pool [(2, .class_ 4), (1, u "java/lang/CharSequence"), (42, .class_ 48), (0, u "java/lang/CharSequence$1CodePointIterator"), (10, .class_ 60), (0, u "java/lang/CharSequence$1CharIterator"), (5, .class_ 67), (0, u "java/lang/Object")] 63

/-- java/lang/CharSequence -/
def k6 : Class := { plain "java/lang/CharSequence" (some 0) with
  accessFlags := 1537
  interfaces := #[]
  cf := some (fileOf pool6 2 #[.nestMembers #[47, 59]] #[] 1537 66 #[] #[])
  fields := #[]
  methods := #[]
  instanceTypes := #[]
  staticTypes := #[]
  resolved := Array.replicate 131 none
  statics := none }

def pool7 : Array CpInfo := pool [(1, .class_ 2), (0, u "java/lang/constant/Constable"), (0, .class_ 4), (0, u "java/lang/Object")] 6

/-- java/lang/constant/Constable -/
def k7 : Class := { plain "java/lang/constant/Constable" (some 0) with
  accessFlags := 1537
  interfaces := #[]
  cf := some (fileOf pool7 1 #[] #[] 1537 3 #[] #[])
  fields := #[]
  methods := #[]
  instanceTypes := #[]
  staticTypes := #[]
  resolved := Array.replicate 11 none
  statics := none }

def pool8 : Array CpInfo := pool [(1, .class_ 2), (0, u "java/lang/constant/ConstantDesc"), (0, .class_ 4), (0, u "java/lang/Object")] 32

/-- java/lang/constant/ConstantDesc -/
def k8 : Class := { plain "java/lang/constant/ConstantDesc" (some 0) with
  accessFlags := 1537
  interfaces := #[]
  cf := some (fileOf pool8 1 #[] #[] 1537 3 #[] #[])
  fields := #[]
  methods := #[]
  instanceTypes := #[]
  staticTypes := #[]
  resolved := Array.replicate 37 none
  statics := none }

def pool9 : Array CpInfo := pool [(2, .class_ 4), (1, u "java/lang/Object"), (0, u "<init>"), (0, u "()V"), (3, .class_ 12), (1, u "java/lang/String"), (0, u "value"), (0, u "[B"), (2, u "coder"), (0, u "B"), (2, u "hash"), (0, u "I"), (2, u "hashIsZero"), (0, u "Z"), (13, u "COMPACT_STRINGS"), (534, .class_ 576), (0, u "java/lang/CharSequence"), (22, u "CASE_INSENSITIVE_ORDER"), (0, u "Ljava/util/Comparator;"), (500, u "serialPersistentFields"), (0, u "[Ljava/io/ObjectStreamField;"), (0, .class_ 1104), (0, u "java/lang/String$CaseInsensitiveComparator"), (1, .class_ 1107), (0, u "java/io/Serializable"), (0, .class_ 1109), (0, u "java/lang/Comparable"), (0, .class_ 1111), (0, u "java/lang/constant/Constable"), (0, .class_ 1113), (0, u "java/lang/constant/ConstantDesc"), (2, u "serialVersionUID"), (0, u "J"), (3, u "REPL"), (0, u "C"), (2, u "LATIN1"), (1, u "UTF16")] 323

def k9m0 : Method := { name := "<init>", desc := "()V", sig := { parameters := [], returnType := none }, accessFlags := 1, code := none }
/-- java/lang/String -/
def k9 : Class := { plain "java/lang/String" (some 0) with
  accessFlags := 49
  interfaces := #[4, 5, 6, 7, 8]
  cf := some (fileOf pool9 10 #[.nestMembers #[1103]] #[{ accessFlags := 1, nameIndex := 5, descriptorIndex := 6, attributes := #[] }] 49 2 #[1106, 1108, 575, 1110, 1112] #[{ accessFlags := 18, nameIndex := 13, descriptorIndex := 14, attributes := #[] }, { accessFlags := 18, nameIndex := 17, descriptorIndex := 18, attributes := #[] }, { accessFlags := 2, nameIndex := 21, descriptorIndex := 22, attributes := #[] }, { accessFlags := 2, nameIndex := 25, descriptorIndex := 26, attributes := #[] }, { accessFlags := 26, nameIndex := 1116, descriptorIndex := 1117, attributes := #[] }, { accessFlags := 24, nameIndex := 40, descriptorIndex := 26, attributes := #[] }, { accessFlags := 26, nameIndex := 1101, descriptorIndex := 1102, attributes := #[] }, { accessFlags := 26, nameIndex := 1121, descriptorIndex := 1122, attributes := #[] }, { accessFlags := 25, nameIndex := 599, descriptorIndex := 600, attributes := #[] }, { accessFlags := 24, nameIndex := 1125, descriptorIndex := 18, attributes := #[] }, { accessFlags := 24, nameIndex := 1127, descriptorIndex := 18, attributes := #[] }])
  fields := #[{ name := "value", type := (.array .byte), accessFlags := 18, slot := 0, constantValue := 0 }, { name := "coder", type := .byte, accessFlags := 18, slot := 1, constantValue := 0 }, { name := "hash", type := .int, accessFlags := 2, slot := 2, constantValue := 0 }, { name := "hashIsZero", type := .boolean, accessFlags := 2, slot := 3, constantValue := 0 }, { name := "serialVersionUID", type := .long, accessFlags := 26, slot := 0, constantValue := 0 }, { name := "COMPACT_STRINGS", type := .boolean, accessFlags := 24, slot := 1, constantValue := 0 }, { name := "serialPersistentFields", type := (.array (.object "java/io/ObjectStreamField")), accessFlags := 26, slot := 2, constantValue := 0 }, { name := "REPL", type := .char, accessFlags := 26, slot := 3, constantValue := 0 }, { name := "CASE_INSENSITIVE_ORDER", type := (.object "java/util/Comparator"), accessFlags := 25, slot := 4, constantValue := 0 }, { name := "LATIN1", type := .byte, accessFlags := 24, slot := 5, constantValue := 0 }, { name := "UTF16", type := .byte, accessFlags := 24, slot := 6, constantValue := 0 }]
  methods := #[k9m0]
  instanceTypes := #[(.array .byte), .byte, .int, .boolean]
  staticTypes := #[.long, .boolean, (.array (.object "java/io/ObjectStreamField")), .char, (.object "java/util/Comparator"), .byte, .byte]
  resolved := Array.replicate 1451 none
  statics := none }

def pool10 : Array CpInfo := pool [(2, .class_ 4), (1, u "java/lang/Enum"), (0, u "name"), (0, u "Ljava/lang/String;"), (2, u "ordinal"), (0, u "I"), (1, .class_ 14), (1, u "java/lang/Object"), (4, u "hash"), (86, .class_ 108), (1, u "java/lang/Enum$EnumDesc"), (2, .class_ 112), (0, u "java/lang/constant/Constable"), (0, .class_ 114), (0, u "java/lang/Comparable"), (0, .class_ 116), (0, u "java/io/Serializable")] 87

/-- java/lang/Enum -/
def k10 : Class := { plain "java/lang/Enum" (some 0) with
  accessFlags := 1057
  interfaces := #[7, 5, 4]
  cf := some (fileOf pool10 2 #[.nestMembers #[106]] #[] 1057 12 #[111, 113, 115] #[{ accessFlags := 18, nameIndex := 5, descriptorIndex := 6, attributes := #[] }, { accessFlags := 18, nameIndex := 9, descriptorIndex := 10, attributes := #[] }, { accessFlags := 2, nameIndex := 19, descriptorIndex := 10, attributes := #[] }])
  fields := #[{ name := "name", type := (.object "java/lang/String"), accessFlags := 18, slot := 0, constantValue := 0 }, { name := "ordinal", type := .int, accessFlags := 18, slot := 1, constantValue := 0 }, { name := "hash", type := .int, accessFlags := 2, slot := 2, constantValue := 0 }]
  methods := #[]
  instanceTypes := #[(.object "java/lang/String"), .int, .int]
  staticTypes := #[]
  resolved := Array.replicate 204 none
  statics := none }

def pool11 : Array CpInfo := pool [(1, .class_ 2), (0, u "com/example/davka/davka/layout/FieldKind"), (2, u "TEXT"), (0, u "Lcom/example/davka/davka/layout/FieldKind;"), (2, u "DIGITS"), (2, u "AMOUNT"), (2, u "DATE8"), (2, u "DATE6"), (2, u "DATE6_DMY"), (2, u "SIGN"), (2, u "SIGN_OR_ZERO"), (2, u "ACCOUNT"), (2, u "FILLER"), (2, u "END"), (2, u "$VALUES"), (0, u "[Lcom/example/davka/davka/layout/FieldKind;"), (6, .class_ 49), (1, u "java/lang/Enum"), (17, u "code"), (0, u "Ljava/lang/String;"), (2, u "dateForm"), (2, u "firstYear"), (0, u "I"), (14, u "years"), (2, u "signs"), (0, u "Ljava/util/List;"), (47, u "MONTH_DAYS"), (0, u "[I"), (202, u "C"), (10, u "ACCOUNT_PREFIX_DIGITS"), (2, u "ACCOUNT_NUMBER_DIGITS"), (1, u "ACCOUNT_DIGITS"), (1, u "LEAST_NUMBER_DIGITS"), (1, u "PREFIX_END"), (1, u "PLUS"), (0, u "MINUS"), (0, u "NO_LINE_END"), (0, u "BLANK_MANDATORY"), (0, u "NOT_AN_ACCOUNT"), (0, u "NO_FIXED_ACCOUNT")] 55

/-- com/example/davka/davka/layout/FieldKind -/
def k11 : Class := { plain "com/example/davka/davka/layout/FieldKind" (some 10) with
  accessFlags := 16433
  interfaces := #[]
  cf := some (fileOf pool11 1 #[] #[] 16433 47 #[] #[{ accessFlags := 16409, nameIndex := 5, descriptorIndex := 6, attributes := #[] }, { accessFlags := 16409, nameIndex := 9, descriptorIndex := 6, attributes := #[] }, { accessFlags := 16409, nameIndex := 12, descriptorIndex := 6, attributes := #[] }, { accessFlags := 16409, nameIndex := 15, descriptorIndex := 6, attributes := #[] }, { accessFlags := 16409, nameIndex := 18, descriptorIndex := 6, attributes := #[] }, { accessFlags := 16409, nameIndex := 21, descriptorIndex := 6, attributes := #[] }, { accessFlags := 16409, nameIndex := 24, descriptorIndex := 6, attributes := #[] }, { accessFlags := 16409, nameIndex := 27, descriptorIndex := 6, attributes := #[] }, { accessFlags := 16409, nameIndex := 30, descriptorIndex := 6, attributes := #[] }, { accessFlags := 16409, nameIndex := 33, descriptorIndex := 6, attributes := #[] }, { accessFlags := 16409, nameIndex := 36, descriptorIndex := 6, attributes := #[] }, { accessFlags := 25, nameIndex := 357, descriptorIndex := 75, attributes := #[] }, { accessFlags := 25, nameIndex := 360, descriptorIndex := 75, attributes := #[] }, { accessFlags := 25, nameIndex := 362, descriptorIndex := 75, attributes := #[] }, { accessFlags := 26, nameIndex := 364, descriptorIndex := 75, attributes := #[] }, { accessFlags := 26, nameIndex := 366, descriptorIndex := 346, attributes := #[] }, { accessFlags := 26, nameIndex := 368, descriptorIndex := 68, attributes := #[] }, { accessFlags := 26, nameIndex := 369, descriptorIndex := 68, attributes := #[] }, { accessFlags := 26, nameIndex := 370, descriptorIndex := 68, attributes := #[] }, { accessFlags := 26, nameIndex := 371, descriptorIndex := 68, attributes := #[] }, { accessFlags := 26, nameIndex := 372, descriptorIndex := 68, attributes := #[] }, { accessFlags := 26, nameIndex := 373, descriptorIndex := 68, attributes := #[] }, { accessFlags := 26, nameIndex := 142, descriptorIndex := 143, attributes := #[] }, { accessFlags := 18, nameIndex := 67, descriptorIndex := 68, attributes := #[] }, { accessFlags := 18, nameIndex := 71, descriptorIndex := 68, attributes := #[] }, { accessFlags := 18, nameIndex := 74, descriptorIndex := 75, attributes := #[] }, { accessFlags := 18, nameIndex := 90, descriptorIndex := 75, attributes := #[] }, { accessFlags := 18, nameIndex := 93, descriptorIndex := 94, attributes := #[] }, { accessFlags := 4122, nameIndex := 39, descriptorIndex := 40, attributes := #[] }])
  fields := #[{ name := "TEXT", type := (.object "com/example/davka/davka/layout/FieldKind"), accessFlags := 16409, slot := 0, constantValue := 0 }, { name := "DIGITS", type := (.object "com/example/davka/davka/layout/FieldKind"), accessFlags := 16409, slot := 1, constantValue := 0 }, { name := "AMOUNT", type := (.object "com/example/davka/davka/layout/FieldKind"), accessFlags := 16409, slot := 2, constantValue := 0 }, { name := "DATE8", type := (.object "com/example/davka/davka/layout/FieldKind"), accessFlags := 16409, slot := 3, constantValue := 0 }, { name := "DATE6", type := (.object "com/example/davka/davka/layout/FieldKind"), accessFlags := 16409, slot := 4, constantValue := 0 }, { name := "DATE6_DMY", type := (.object "com/example/davka/davka/layout/FieldKind"), accessFlags := 16409, slot := 5, constantValue := 0 }, { name := "SIGN", type := (.object "com/example/davka/davka/layout/FieldKind"), accessFlags := 16409, slot := 6, constantValue := 0 }, { name := "SIGN_OR_ZERO", type := (.object "com/example/davka/davka/layout/FieldKind"), accessFlags := 16409, slot := 7, constantValue := 0 }, { name := "ACCOUNT", type := (.object "com/example/davka/davka/layout/FieldKind"), accessFlags := 16409, slot := 8, constantValue := 0 }, { name := "FILLER", type := (.object "com/example/davka/davka/layout/FieldKind"), accessFlags := 16409, slot := 9, constantValue := 0 }, { name := "END", type := (.object "com/example/davka/davka/layout/FieldKind"), accessFlags := 16409, slot := 10, constantValue := 0 }, { name := "ACCOUNT_PREFIX_DIGITS", type := .int, accessFlags := 25, slot := 11, constantValue := 0 }, { name := "ACCOUNT_NUMBER_DIGITS", type := .int, accessFlags := 25, slot := 12, constantValue := 0 }, { name := "ACCOUNT_DIGITS", type := .int, accessFlags := 25, slot := 13, constantValue := 0 }, { name := "LEAST_NUMBER_DIGITS", type := .int, accessFlags := 26, slot := 14, constantValue := 0 }, { name := "PREFIX_END", type := .char, accessFlags := 26, slot := 15, constantValue := 0 }, { name := "PLUS", type := (.object "java/lang/String"), accessFlags := 26, slot := 16, constantValue := 0 }, { name := "MINUS", type := (.object "java/lang/String"), accessFlags := 26, slot := 17, constantValue := 0 }, { name := "NO_LINE_END", type := (.object "java/lang/String"), accessFlags := 26, slot := 18, constantValue := 0 }, { name := "BLANK_MANDATORY", type := (.object "java/lang/String"), accessFlags := 26, slot := 19, constantValue := 0 }, { name := "NOT_AN_ACCOUNT", type := (.object "java/lang/String"), accessFlags := 26, slot := 20, constantValue := 0 }, { name := "NO_FIXED_ACCOUNT", type := (.object "java/lang/String"), accessFlags := 26, slot := 21, constantValue := 0 }, { name := "MONTH_DAYS", type := (.array .int), accessFlags := 26, slot := 22, constantValue := 0 }, { name := "code", type := (.object "java/lang/String"), accessFlags := 18, slot := 3, constantValue := 0 }, { name := "dateForm", type := (.object "java/lang/String"), accessFlags := 18, slot := 4, constantValue := 0 }, { name := "firstYear", type := .int, accessFlags := 18, slot := 5, constantValue := 0 }, { name := "years", type := .int, accessFlags := 18, slot := 6, constantValue := 0 }, { name := "signs", type := (.object "java/util/List"), accessFlags := 18, slot := 7, constantValue := 0 }, { name := "$VALUES", type := (.array (.object "com/example/davka/davka/layout/FieldKind")), accessFlags := 4122, slot := 23, constantValue := 0 }]
  methods := #[]
  instanceTypes := #[(.object "java/lang/String"), .int, .int, (.object "java/lang/String"), (.object "java/lang/String"), .int, .int, (.object "java/util/List")]
  staticTypes := #[(.object "com/example/davka/davka/layout/FieldKind"), (.object "com/example/davka/davka/layout/FieldKind"), (.object "com/example/davka/davka/layout/FieldKind"), (.object "com/example/davka/davka/layout/FieldKind"), (.object "com/example/davka/davka/layout/FieldKind"), (.object "com/example/davka/davka/layout/FieldKind"), (.object "com/example/davka/davka/layout/FieldKind"), (.object "com/example/davka/davka/layout/FieldKind"), (.object "com/example/davka/davka/layout/FieldKind"), (.object "com/example/davka/davka/layout/FieldKind"), (.object "com/example/davka/davka/layout/FieldKind"), .int, .int, .int, .int, .char, (.object "java/lang/String"), (.object "java/lang/String"), (.object "java/lang/String"), (.object "java/lang/String"), (.object "java/lang/String"), (.object "java/lang/String"), (.array .int), (.array (.object "com/example/davka/davka/layout/FieldKind"))]
  resolved := Array.replicate 429 none
  statics := some 0 }

def pool12 : Array CpInfo := pool [(1, u "java/lang/Cloneable"), (0, .class_ 1), (0, u "java/lang/Object"), (0, .class_ 3)] 3

/-- java/lang/Cloneable -/
def k12 : Class := { plain "java/lang/Cloneable" (some 0) with
  accessFlags := 1537
  interfaces := #[]
  cf := some (fileOf pool12 2 #[] #[] 1537 4 #[] #[])
  fields := #[]
  methods := #[]
  instanceTypes := #[]
  staticTypes := #[]
  resolved := Array.replicate 8 none
  statics := none }

/-- the primitive byte -/
def k13 : Class := { plain "byte" none with kind := .primitive 'B', accessFlags := 0x411 }
/-- [B -/
def k14 : Class := { plain "[B" (some 0) with kind := .array 13 .byte, interfaces := #[12, 4], accessFlags := 1041 }

/-- the primitive char -/
def k15 : Class := { plain "char" none with kind := .primitive 'C', accessFlags := 0x411 }
/-- [C -/
def k16 : Class := { plain "[C" (some 0) with kind := .array 15 .char, interfaces := #[12, 4], accessFlags := 1041 }

/-- the primitive int -/
def k17 : Class := { plain "int" none with kind := .primitive 'I', accessFlags := 0x411 }
/-- [I -/
def k18 : Class := { plain "[I" (some 0) with kind := .array 17 .int, interfaces := #[12, 4], accessFlags := 1041 }

def heap : Heap := #[{ cls := 11, slots := #[.ref 1, .null, .null, .null, .null, .null, .null, .null, .null, .null, .null, .int 0, .int 0, .int 0, .int 0, .int 0, .null, .null, .null, .null, .null, .null, .null, .null], vm := .statics 11 },
  { cls := 11, slots := #[.null, .int 0, .int 0, .null, .null, .int 0, .int 0, .null], vm := .none }]
def classes : Array Class := #[k0, k1, k2, k3, k4, k5, k6, k7, k8, k9, k10, k11, k12, k13, k14, k15, k16, k17, k18]
def interned : List (Array UInt16 × Addr) := []
def slotsUsed : Nat := 32
def theMethod : MethodId := ⟨1, 3⟩
def args0 : Array Value := #[.int 5, .int 3, .long 7, .int 2]
def aboutOver (below : List Frame) : State where
  vm := { classes := classes, interned := interned.toArray }
  heap := heap
  slotsUsed := slotsUsed
  threads := #[{ frames := .invoking theMethod args0 :: below }]
def below0 : List Frame := [.native { method := ⟨0, 0⟩, args := #[] }]
def about1 : State := aboutOver below0
def p0 : Program := .bare "" "" ""
def e0 : Env := launch0.env 0 0 0
theorem w_frames : about1.frames = Frame.invoking theMethod args0 :: below0 := rfl
set_option maxRecDepth 65536 in
theorem w_args : argsFit about1.vm theMethod args0 = true := by decide +kernel
set_option maxRecDepth 65536 in
theorem w_heap : heapFits about1 = true := by decide +kernel
set_option maxRecDepth 65536 in
theorem w_runnable : about1.curStatus? = some .runnable := by decide +kernel
set_option maxRecDepth 65536 in
theorem w_alone : about1.alone = true := by decide +kernel
set_option maxRecDepth 65536 in
theorem w_named : about1.methodNamed? x = some theMethod := by decide +kernel
set_option maxRecDepth 65536 in
theorem w_hears : about1.hears theMethod below0 = true := by decide +kernel
set_option maxRecDepth 65536 in
theorem w_ripe : about1.ripe theMethod args0 below0 = true := by decide +kernel
theorem w_running : about1.status = .running := rfl
set_option maxRecDepth 65536 in
theorem w_room : about1.hasRoom e0.platform room_1 = true :=
  launch0.hasRoom_least _ room_1 (by decide +kernel) (by decide +kernel) (by decide +kernel) (by decide +kernel) (by decide +kernel) (by decide +kernel)
theorem allAtoms_all (ts : List Jvm.Cond) (a : Array Jvm.Value) (st : Jvm.State) : (allAtoms ts).before a st = ts.all (fun c => c.before a st) := by
  induction ts with
  | nil => rfl
  | cons c t ih =>
    show (Jvm.Cond.and c (allAtoms t)).before a st = _
    rw [Jvm.Cond.before_and, ih, List.all_cons]
def words1 : List Jvm.Cond := Jvm.Cond.code x code maxLocals ret :: tables_1
/-- a 'code' word, met by the world's own term for the bytes: nothing is compared byte by byte -/
theorem code_word {y : MethodName} {bytes : ByteArray} {mx : Nat} {rt : Option FieldType} {a : Array Value} {s : State} {m : MethodId} {meth : Method} {c : Code} (h1 : s.methodNamed? y = some m) (h2 : s.vm.method? m = some meth) (h3 : meth.code = some c) (h4 : c.code = bytes)
    (h5 : (c.maxLocals == mx && c.exceptionTable.isEmpty && decide (c.maxStack ≤ mostOperands) && decide (meth.sig.returnType = rt) && !meth.locks && decide (parseMethodDescriptor y.desc = some meth.sig)) = true) : (Jvm.Cond.code y bytes mx rt).before a s = true := by
  simp only [Bool.and_eq_true, beq_iff_eq, Bool.not_eq_true', decide_eq_true_eq] at h5
  obtain ⟨⟨⟨⟨⟨g1, g2⟩, g3⟩, g4⟩, g5⟩, g6⟩ := h5
  simp [Cond.before, Cond.holds, Cond.value, h1, h2, h3, h4, g1, g2, g3, g4, g5, g6]
def isCode : Jvm.Cond → Bool
  | .code _ _ _ _ => true
  | _ => false
theorem all_split {L : List Jvm.Cond} {P : Jvm.Cond → Bool} (h1 : L.all (fun c => isCode c || P c) = true) (h2 : ∀ c ∈ L.filter isCode, P c = true) : L.all P = true := by
  refine List.all_eq_true.mpr fun c hc => ?_
  have h := List.all_eq_true.mp h1 c hc
  rcases Bool.eq_false_or_eq_true (isCode c) with hi | hi
  · exact h2 c (List.mem_filter.mpr ⟨hc, hi⟩)
  · simpa [hi] using h
set_option maxRecDepth 65536 in
theorem w_c0 : (Jvm.Cond.code x code maxLocals ret).before args0 about1 = true := code_word (m := ⟨1, 3⟩) (meth := k1m3) (c := k1c3) (by decide +kernel) rfl rfl rfl (by decide +kernel)
set_option maxRecDepth 65536 in
theorem w_c1 : (Jvm.Cond.code ({ cls := "com/example/davka/davka/layout/FieldIsBlankInPinLaw", name := "ch", desc := "(JI)C" } : Jvm.MethodName) method_2_code (4 : Nat) (Option.some Jvm.ClassFile.FieldType.char)).before args0 about1 = true := code_word (m := ⟨1, 1⟩) (meth := k1m1) (c := k1c1) (by decide +kernel) rfl rfl rfl (by decide +kernel)
set_option maxRecDepth 65536 in
theorem w_c2 : (Jvm.Cond.code ({ cls := "com/example/davka/davka/layout/Field", name := "<init>", desc := "(Ljava/lang/String;IILcom/example/davka/davka/layout/FieldKind;Z)V" } : Jvm.MethodName) prog_147_method_1_code (6 : Nat) (Option.none : Option Jvm.ClassFile.FieldType)).before args0 about1 = true := code_word (m := ⟨3, 0⟩) (meth := k3m0) (c := k3c0) (by decide +kernel) rfl rfl rfl (by decide +kernel)
set_option maxRecDepth 65536 in
theorem w_c3 : (Jvm.Cond.code ({ cls := "java/lang/Record", name := "<init>", desc := "()V" } : Jvm.MethodName) jdk_30_method_1_code (1 : Nat) (Option.none : Option Jvm.ClassFile.FieldType)).before args0 about1 = true := code_word (m := ⟨2, 0⟩) (meth := k2m0) (c := k2c0) (by decide +kernel) rfl rfl rfl (by decide +kernel)
set_option maxRecDepth 65536 in
theorem w_c4 : (Jvm.Cond.code ({ cls := "java/lang/Object", name := "<init>", desc := "()V" } : Jvm.MethodName) object_method_1_code (1 : Nat) (Option.none : Option Jvm.ClassFile.FieldType)).before args0 about1 = true := code_word (m := ⟨0, 0⟩) (meth := k0m0) (c := k0c0) (by decide +kernel) rfl rfl rfl (by decide +kernel)
set_option maxRecDepth 65536 in
theorem w_c5 : (Jvm.Cond.code ({ cls := "com/example/davka/davka/layout/FieldIsBlankInPinLaw", name := "ok", desc := "([CIII)Z" } : Jvm.MethodName) method_3_code (4 : Nat) (Option.some Jvm.ClassFile.FieldType.boolean)).before args0 about1 = true := code_word (m := ⟨1, 2⟩) (meth := k1m2) (c := k1c2) (by decide +kernel) rfl rfl rfl (by decide +kernel)
set_option maxRecDepth 65536 in
theorem w_c6 : (Jvm.Cond.code ({ cls := "com/example/davka/davka/layout/Field", name := "isBlankIn", desc := "([C)Z" } : Jvm.MethodName) prog_147_method_6_code (3 : Nat) (Option.some Jvm.ClassFile.FieldType.boolean)).before args0 about1 = true := code_word (m := ⟨3, 1⟩) (meth := k3m1) (c := k3c1) (by decide +kernel) rfl rfl rfl (by decide +kernel)
def codes1 : List Jvm.Cond := [Jvm.Cond.code x code maxLocals ret, Jvm.Cond.code ({ cls := "com/example/davka/davka/layout/FieldIsBlankInPinLaw", name := "ch", desc := "(JI)C" } : Jvm.MethodName) method_2_code (4 : Nat) (Option.some Jvm.ClassFile.FieldType.char), Jvm.Cond.code ({ cls := "com/example/davka/davka/layout/Field", name := "<init>", desc := "(Ljava/lang/String;IILcom/example/davka/davka/layout/FieldKind;Z)V" } : Jvm.MethodName) prog_147_method_1_code (6 : Nat) (Option.none : Option Jvm.ClassFile.FieldType), Jvm.Cond.code ({ cls := "java/lang/Record", name := "<init>", desc := "()V" } : Jvm.MethodName) jdk_30_method_1_code (1 : Nat) (Option.none : Option Jvm.ClassFile.FieldType), Jvm.Cond.code ({ cls := "java/lang/Object", name := "<init>", desc := "()V" } : Jvm.MethodName) object_method_1_code (1 : Nat) (Option.none : Option Jvm.ClassFile.FieldType), Jvm.Cond.code ({ cls := "com/example/davka/davka/layout/FieldIsBlankInPinLaw", name := "ok", desc := "([CIII)Z" } : Jvm.MethodName) method_3_code (4 : Nat) (Option.some Jvm.ClassFile.FieldType.boolean), Jvm.Cond.code ({ cls := "com/example/davka/davka/layout/Field", name := "isBlankIn", desc := "([C)Z" } : Jvm.MethodName) prog_147_method_6_code (3 : Nat) (Option.some Jvm.ClassFile.FieldType.boolean)]
set_option maxRecDepth 65536 in
theorem codes_eq : words1.filter isCode = codes1 := rfl
theorem w_codes : ∀ c ∈ words1.filter isCode, c.before args0 about1 = true := by
  rw [codes_eq]
  intro c hc
  simp only [codes1, List.mem_cons, List.not_mem_nil, or_false] at hc
  rcases hc with rfl | rfl | rfl | rfl | rfl | rfl | rfl
  · exact w_c0
  · exact w_c1
  · exact w_c2
  · exact w_c3
  · exact w_c4
  · exact w_c5
  · exact w_c6
set_option maxRecDepth 65536 in
theorem w_t1 : (words1.take 24).all (fun c => isCode c || c.before args0 about1) = true := by decide +kernel
set_option maxRecDepth 65536 in
theorem w_t2 : ((words1.drop 24).take 24).all (fun c => isCode c || c.before args0 about1) = true := by decide +kernel
set_option maxRecDepth 65536 in
theorem w_t3 : ((words1.drop 24).drop 24).all (fun c => isCode c || c.before args0 about1) = true := by decide +kernel
theorem w_tables : (allAtoms (Jvm.Cond.code x code maxLocals ret :: tables_1)).before args0 about1 = true := by
  rw [allAtoms_all]
  show words1.all (fun c => c.before args0 about1) = true
  refine all_split ?_ w_codes
  rw [← List.take_append_drop 24 words1, List.all_append, w_t1, ← List.take_append_drop 24 (words1.drop 24), List.all_append, w_t2, w_t3]
  rfl
set_option maxRecDepth 65536 in
theorem w_case : (Jvm.Cond.and given_1 narrow_1).before args0 about1 = true := by decide +kernel
theorem w_applies : (headSpec (Jvm.Cond.code x code maxLocals ret :: tables_1) room_1).applies x e0.platform about1 = true :=
  (Spec.applies_iff w_frames).mpr ⟨w_running, w_runnable, w_alone, w_named, w_hears, w_ripe, w_room, w_tables⟩
theorem atStart : AtStart classFile x code maxLocals ret World_1 tables_1 room_1 Calls_1 rest_1 Pre_1 launch0 p0 e0 about1 theMethod args0 below0 :=
  ⟨lists_1, trivial, launch0.admits_env _ _ _, launch0.least_env, fairChoices_fair.cas, fairChoices_fair.clock, w_frames, w_args, w_heap, w_applies, trivial, trivial, w_case⟩
end start1
theorem witness_1 : WitnessClaimed_1 := ⟨start1.p0, start1.e0, start1.about1, start1.theMethod, start1.args0, start1.below0, start1.atStart⟩
end Jvm.Pilot.@@N@@
