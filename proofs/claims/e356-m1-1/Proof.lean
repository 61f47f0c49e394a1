import JvmDerived
import JvmDerived.Pilot.@@N@@Statement
import JvmDerived.Pilot.@@N@@Code
set_option linter.unusedVariables false
set_option linter.unusedSimpArgs false
@@BLOCK:NumsL.lean.txt@@
@@BLOCK:Masks.lean.txt@@
namespace Jvm.RoadKit
open Sem ClassFile Op Lib Jvm.Stand Jvm.Free Jvm.LawKit
section New
variable {p : Program} {l : Launch} {e : Env} {R : Room} {s : State} {m : MethodId} {args : Array Value} {below : List Frame} {meth : Method} {c : Code} {T : State} {locs : List Loc} {cells slots : Nat}
theorem retI (X : Stand p l e R s m args below meth c T locs cells slots) (hx : p.tables.exec = Jvm.exec) {pc : Nat} {Ls : Array Slot} {z : Int32} {rest : List Value} (hret : meth.sig.returnType = some .int) (hd : decode c.code pc = .ok (.ireturn, 1)) {fs : List Frame}
    (hl : ∀ (f : JFrame) (acts : List Action), f.method = m → f.locked = none → f.entered = [] → (doReturn e (T.setTop f) acts (some (.int z))).1 = T.setFrames fs) : Steps p.tables e below (T.setTop (mkF m pc Ls (.int z :: rest))) (T.setFrames fs) := by
  have hm' : T.vm.method? m = some meth := X.method'
  have hn : narrow .int (.int z) = .int z := rfl
  show Steps p.tables e below (T.setTop { method := m, pc := pc, locals := Ls, stack := _ :: rest, locked := none }) _
  jvm_step X.here [X.here.top, hx, hd, hm', hret, hn]
  first | (intro acts; rw [hl _ acts rfl rfl rfl]) | rw [hl _ _ rfl rfl rfl]
  exact Steps.refl _
theorem own_retA (X : Stand p l e R s m args below meth c T locs cells slots) (hx : p.tables.exec = Jvm.exec) {pc : Nat} {Ls : Array Slot} {z : Value} {t : FieldType} {rest : List Value} (hret : meth.sig.returnType = some t) (ht : t.isReference = true) (hz : z.isRef = true) (hd : decode c.code pc = .ok (.areturn, 1)) {fs : List Frame}
    (hl : ∀ (f : JFrame) (acts : List Action), f.method = m → f.locked = none → f.entered = [] → (doReturn e (T.setTop f) acts (some z)).1 = T.setFrames fs) : Steps p.tables e below (T.setTop (mkF m pc Ls (z :: rest))) (T.setFrames fs) := by
  have hm' : T.vm.method? m = some meth := X.method'
  show Steps p.tables e below (T.setTop { method := m, pc := pc, locals := Ls, stack := z :: rest, locked := none }) _
  rcases ref_cases hz with rfl | ⟨a, rfl⟩ <;>
  · jvm_step X.here [X.here.top, hx, hd, hm', hret, ht, Value.isRef]
    first | (intro acts; rw [hl _ acts rfl rfl rfl]) | rw [hl _ _ rfl rfl rfl]
    exact Steps.refl _
end New
end Jvm.RoadKit
namespace Jvm.Pilot.@@N@@
open Jvm Jvm.ClassFile Sem Op Lib Jvm.Free Jvm.Stand Jvm.LawKit Jvm.RoadKit Bundle Jvm.Pilot.@@N@@.Jvm.D
section OwnKit
variable {p : Program} {l : Launch} {e : Env} {R : Room} {s : State} {m : MethodId} {args : Array Value} {below : List Frame} {meth : Method} {c : Code} {T : State} {locs : List Loc} {cells slots : Nat} {Z : State} {a0 : Array Value} {h : Heap}
/-- from the state S the run comes to an end of which Post holds -/
def own_G (tb : Tables) (e : Env) (below : List Frame) (Post : Outcome → State → Prop) (S : State) : Prop := ∃ s₂ o, Steps tb e below S s₂ ∧ s₂.status = .running ∧ Ended s₂ below o ∧ Post o s₂
theorem own_go {tb : Tables} {Post : Outcome → State → Prop} {S S' : State} (k : ∀ t, Steps tb e below S' t → Steps tb e below S t) (h : own_G tb e below Post S') : own_G tb e below Post S := by
  obtain ⟨a, b, st, d⟩ := h
  exact ⟨a, b, k _ st, d⟩
theorem own_join {tb : Tables} {Post : Outcome → State → Prop} {S S' : State} (k : own_G tb e below Post S' → own_G tb e below Post S) (h : own_G tb e below Post S') : own_G tb e below Post S := k h
theorem own_refc {v : Value} (h : v.isRef = true) : v = .null ∨ ∃ a, v = .ref a := by cases v <;> simp [Value.isRef] at h ⊢
theorem own_cat {v : Value} (h : v.isRef = true) : v.category = 1 := by rcases own_refc h with rfl | ⟨a, rfl⟩ <;> rfl
theorem own_end (X : Stand p l e R s m args below meth c T locs cells slots) (hlocks : meth.locks = false) {v : Option Value} (hv : meth.sig.returnType = none → v = none) {S : State} {Q : Option Value → Heap → List Loc → Prop} {rc rs : Nat} (hQ : Q v T.heap locs)
    (st : ∀ fs, (∀ (f : JFrame) (acts : List Action), f.method = m → f.locked = none → f.entered = [] → (doReturn e (T.setTop f) acts v).1 = T.setFrames fs) → Steps p.tables e below S (T.setFrames fs)) (hc : cells ≤ rc) (hs : slots ≤ rs) :
    own_G p.tables e below (fun o U' => ∃ v L, o = .returned v ∧ Q v U'.heap L ∧ FrameEnd s o U' L rc rs) S := by
  obtain ⟨fs, hr, hrun, hended, hW, hsame⟩ := X.leave (v := v) hv hlocks
  exact ⟨_, _, st fs hr, hrun, hended, _, _, rfl, hQ, ⟨_, rfl⟩, hW, hsame.mono hc hs⟩
theorem own_endW {vm₁ : Vm} (X : Stand p l e R (s.setVm vm₁) m args below meth c T locs cells slots) (hlocks : meth.locks = false) {n : Nat} (hS : s.Since vm₁ n) (hn : n ≤ T.heap.size) {v : Option Value} (hv : meth.sig.returnType = none → v = none) {S : State} {Q : Option Value → Heap → List Loc → Prop} {rc rs : Nat} (hQ : Q v T.heap locs)
    (st : ∀ fs, (∀ (f : JFrame) (acts : List Action), f.method = m → f.locked = none → f.entered = [] → (doReturn e (T.setTop f) acts v).1 = T.setFrames fs) → Steps p.tables e below S (T.setFrames fs)) (hc : cells ≤ rc) (hs : slots ≤ rs) :
    own_G p.tables e below (fun o U' => ∃ v L, o = .returned v ∧ Q v U'.heap L ∧ ReturnedEndW s o U' L rc rs) S := by
  obtain ⟨fs, hr, hrun, hended, h1, h2, h3, h4⟩ := X.leaveW hS hn (v := v) hv hlocks
  exact ⟨_, _, st fs hr, hrun, hended, _, _, rfl, hQ, h1, h2, h3, h4.mono hc hs⟩
theorem own_fit {v : Value} {C : String} (h : v.isRef = true) : fits (.object C) v = true := by rcases own_refc h with rfl | ⟨a, rfl⟩ <;> rfl
/-- a pure body's answer: it returns r, writes nothing, makes nothing -/
def QP (r : Option Value) (h0 : Heap) (v : Option Value) (h : Heap) (L : List Loc) : Prop := v = r ∧ L = [] ∧ h = h0
/-- the law's answer: it returns r, writes nothing old -/
def QL (r : Option Value) (n0 : Nat) (v : Option Value) (h : Heap) (L : List Loc) : Prop := v = r ∧ Fr n0 L
theorem own_staKeep {h' : Heap} {C n d : String} {v : Value} {ws : List Addr} (F : Sta Z h C n d v) (K : Keep h h' ws) (q : ∀ x ∈ ws, ∃ cell : Cell, h[x]? = some cell ∧ cell.vm.isStatics = false) : Sta Z h' C n d v := by
  obtain ⟨cf, i, k, f, st, cell, h1, h2, h3, h4, h5, h6, h7⟩ := F
  refine ⟨cf, i, k, f, st, cell, h1, h2, h3, h4, K.2.1 st cell h5 (fun z => ?_), h6, h7⟩
  obtain ⟨c', e1, e2⟩ := q st z
  cases e1.symm.trans h5
  rw [e2] at h6; cases h6
theorem own_mvSame {ref owner name desc : String} (hZ : Z.Warmed39 s.vm) (hmh : ref ≠ "java/lang/invoke/MethodHandle" ∧ ref ≠ "java/lang/invoke/VarHandle") (w : (Jvm.Cond.sameMethod ref owner name desc).before a0 Z = true) : (Jvm.Cond.sameMethod ref owner name desc).before args s = true := by
  have h1 : (Jvm.Cond.sameMethod ref owner name desc).before a0 (Z.setVm s.vm) = true := Cond.sameMethod_setVm hZ.alike hmh w
  exact h1
theorem own_callP (X : Stand p l e R s m args below meth c T locs cells slots) (hx : p.tables.exec = Jvm.exec) (hZ : Z.Warmed39 s.vm) {own : String} {index : Nat} {y : MethodName} {bytes : ByteArray} {maxL : Nat} {ret : Option FieldType} {rm : Room} {r : Option Value} {as' : Array Value}
    (hown : s.vm.findClass own = some m.cls) (w1 : (Jvm.Cond.methodLink own index y).before a0 Z = true) (w2 : (Jvm.Cond.static y).before a0 Z = true) (w3 : (Jvm.Cond.initialized y.cls).before a0 Z = true) (w4 : (Jvm.Cond.code y bytes maxL ret).before a0 Z = true)
    (hy : y.cls ≠ "java/lang/invoke/MethodHandle" ∧ y.cls ≠ "java/lang/invoke/VarHandle") {W : Nat}
    (hM : MetFree l y (head1 [Jvm.Cond.code y bytes maxL ret] rm) (fun a U => a = as' ∧ Z.Warmed39 U.vm ∧ U.heap = h) (fun _ _ _ _ _ => True) (fun _ U o U' => ∃ v L, o = .returned v ∧ QP r h v U'.heap L ∧ FrameEnd U o U' L rm.cells rm.slots))
    (hf : rm.frames + 1 ≤ R.frames) (hl : W + (maxL + 11) + rm.locals ≤ R.locals) (hc : rm.cells = 0) (hs0 : rm.slots = 0) (eT : T.heap = h)
    {g : JFrame} (hg : g.method = m) (hsize : g.locals.size = c.maxLocals) {argsL rest : List Value} (hlen : ∀ sig, parseMethodDescriptor y.desc = some sig → argsL.length = sig.parameters.length) (hstack : g.stack = argsL.reverse ++ rest) (ha : argsL.toArray = as')
    (hW : 2 * g.monitorRoom + (rest.map fun v => v.category).sum ≤ W) (hd : decode c.code g.pc = .ok (.invokestatic index, 3)) (hcr : cells ≤ R.cells) (hsr : slots ≤ R.slots) :
    ∃ T', Stand p l e R s m args below meth c T' locs cells slots ∧ T'.heap = h ∧ ∀ target, Steps p.tables e below (T'.setTop { g with pc := g.pc + 3, stack := r.toList ++ rest }) target → Steps p.tables e below (T.setTop g) target := by
  obtain ⟨_, _, ⟨T1, L1, k1, n1⟩, -, X1, ⟨Lc, hQ, l1, y1, z1⟩, st⟩ := Jvm.LawKit.callS X hx hown (mvT hZ w1) (mvT hZ w2) (mvT hZ w3) (mvT hZ w4) hy (backOf (W := W) hM hZ w4 w3 hf hl) hg hsize hlen hstack hW hd (fun _ _ => ⟨ha, eT, by rw [hc]; exact hcr, by rw [hs0]; exact hsr⟩)
  dsimp only [Pt.U, Pt.locs, Pt.cells, Pt.slots] at X1 l1 y1 z1 st hQ
  obtain ⟨rfl, rfl, e1⟩ := hQ
  rw [List.append_nil] at l1
  rw [hc] at y1
  rw [hs0] at z1
  subst l1 y1 z1
  exact ⟨T1, X1, e1, st⟩
theorem own_callV (X : Stand p l e R s m args below meth c T locs cells slots) (hx : p.tables.exec = Jvm.exec) (hZ : Z.Warmed39 s.vm) {own C : String} {index : Nat} {y : MethodName} {bytes : ByteArray} {maxL : Nat} {ret : Option FieldType} {rm : Room} {r : Option Value} {as' : Array Value} {a : Addr}
    (hown : s.vm.findClass own = some m.cls) (w1 : (Jvm.Cond.methodLink own index y).before a0 Z = true) (w2 : (Jvm.Cond.declares y).before a0 Z = true) (w3 : (Jvm.Cond.selects C y y).before a0 Z = true) (w4 : (Jvm.Cond.instanceMethod y).before a0 Z = true) (w5 : (Jvm.Cond.initialized y.cls).before a0 Z = true) (w6 : (Jvm.Cond.code y bytes maxL ret).before a0 Z = true)
    (hy : y.cls ≠ "java/lang/invoke/MethodHandle" ∧ y.cls ≠ "java/lang/invoke/VarHandle") {W : Nat}
    (hM : MetFree l y (head1 [Jvm.Cond.code y bytes maxL ret] rm) (fun a U => a = as' ∧ Z.Warmed39 U.vm ∧ U.heap = h) (fun _ _ _ _ _ => True) (fun _ U o U' => ∃ v L, o = .returned v ∧ QP r h v U'.heap L ∧ FrameEnd U o U' L rm.cells rm.slots))
    (hf : rm.frames + 1 ≤ R.frames) (hl : W + (maxL + 11) + rm.locals ≤ R.locals) (hc : rm.cells = 0) (hs0 : rm.slots = 0) (eT : T.heap = h) (Ex : Exa Z h a C)
    {g : JFrame} (hg : g.method = m) (hsize : g.locals.size = c.maxLocals) {argsL rest : List Value} (hlen : ∀ sig, parseMethodDescriptor y.desc = some sig → argsL.length = sig.parameters.length) (hstack : g.stack = argsL.reverse ++ .ref a :: rest) (ha : (.ref a :: argsL).toArray = as')
    (hW : 2 * g.monitorRoom + (rest.map fun v => v.category).sum ≤ W) (hd : decode c.code g.pc = .ok (.invokevirtual index, 3)) (hcr : cells ≤ R.cells) (hsr : slots ≤ R.slots) :
    ∃ T', Stand p l e R s m args below meth c T' locs cells slots ∧ T'.heap = h ∧ ∀ target, Steps p.tables e below (T'.setTop { g with pc := g.pc + 3, stack := r.toList ++ rest }) target → Steps p.tables e below (T.setTop g) target := by
  obtain ⟨cq, kq, qa, qb, qc⟩ := isOf hZ eT Ex
  obtain ⟨_, _, ⟨T1, L1, k1, n1⟩, -, X1, ⟨Lc, hQ, l1, y1, z1⟩, st⟩ := X.virtualBack hx hown (mvT hZ w1) (mvT hZ w2) (notFace_of_selects (args := #[]) (mvT hZ w3)) (mvT hZ w3) (mvT hZ w4) hy (backOf (W := W) hM hZ w6 w5 hf hl) qa qc hg hsize (Steps.refl _) hlen hstack hW hd (fun _ _ => ⟨ha, eT, by rw [hc]; exact hcr, by rw [hs0]; exact hsr⟩)
  dsimp only [Pt.U, Pt.locs, Pt.cells, Pt.slots] at X1 l1 y1 z1 st hQ
  obtain ⟨rfl, rfl, e1⟩ := hQ
  rw [List.append_nil] at l1
  rw [hc] at y1
  rw [hs0] at z1
  subst l1 y1 z1
  exact ⟨T1, X1, e1, fun target k => st.trans k⟩
theorem own_callI (X : Stand p l e R s m args below meth c T locs cells slots) (hx : p.tables.exec = Jvm.exec) (hZ : Z.Warmed39 s.vm) {own : String} {index : Nat} {y : MethodName} (hy1 : y.name = "<init>") {bytes : ByteArray} {maxL : Nat} {rm : Room} {as' : Array Value} {a : Addr}
    (hown : s.vm.findClass own = some m.cls) (w1 : (Jvm.Cond.methodLink own index y).before a0 Z = true) (w4 : (Jvm.Cond.instanceMethod y).before a0 Z = true) (w5 : (Jvm.Cond.initialized y.cls).before a0 Z = true) (w6 : (Jvm.Cond.code y bytes maxL none).before a0 Z = true)
    (hy : y.cls ≠ "java/lang/invoke/MethodHandle" ∧ y.cls ≠ "java/lang/invoke/VarHandle") {W : Nat}
    (hM : MetFree l y (head1 [Jvm.Cond.code y bytes maxL none] rm) (fun a U => a = as' ∧ Z.Warmed39 U.vm ∧ U.heap = h) (fun _ _ _ _ _ => True) (fun _ U o U' => ∃ v L, o = .returned v ∧ QP none h v U'.heap L ∧ FrameEnd U o U' L rm.cells rm.slots))
    (hf : rm.frames + 1 ≤ R.frames) (hl : W + (maxL + 11) + rm.locals ≤ R.locals) (hc : rm.cells = 0) (hs0 : rm.slots = 0) (eT : T.heap = h)
    {g : JFrame} (hg : g.method = m) (hsize : g.locals.size = c.maxLocals) {argsL rest : List Value} (hlen : ∀ sig, parseMethodDescriptor y.desc = some sig → argsL.length = sig.parameters.length) (hstack : g.stack = argsL.reverse ++ .ref a :: rest) (ha : (.ref a :: argsL).toArray = as')
    (hW : 2 * g.monitorRoom + (rest.map fun v => v.category).sum ≤ W) (hd : decode c.code g.pc = .ok (.invokespecial index, 3)) (hcr : cells ≤ R.cells) (hsr : slots ≤ R.slots) :
    ∃ T', Stand p l e R s m args below meth c T' locs cells slots ∧ T'.heap = h ∧ ∀ target, Steps p.tables e below (T'.setTop { g with pc := g.pc + 3, stack := rest }) target → Steps p.tables e below (T.setTop g) target := by
  obtain ⟨_, _, ⟨T1, L1, k1, n1⟩, -, X1, ⟨Lc, hQ, l1, y1, z1⟩, st⟩ := X.specialBack hx hy1 hown (mvT hZ w1) (mvT hZ w4) (mvT hZ w6) hy (backOf (W := W) hM hZ w6 w5 hf hl) hg hsize (Steps.refl _) hlen hstack hW hd (fun _ _ => ⟨ha, eT, by rw [hc]; exact hcr, by rw [hs0]; exact hsr⟩)
  dsimp only [Pt.U, Pt.locs, Pt.cells, Pt.slots] at X1 l1 y1 z1 st hQ
  obtain ⟨rfl, rfl, e1⟩ := hQ
  rw [List.append_nil] at l1
  rw [hc] at y1
  rw [hs0] at z1
  subst l1 y1 z1
  exact ⟨T1, X1, e1, fun target k => st.trans k⟩
theorem own_l1 {x y : Int64} (h : x < y) : lcmpW x y < 0 := by rw [lcW]; exact (lc_lt x y).mpr h
theorem own_l2 {x y : Int64} (h : ¬ x < y) : ¬ lcmpW x y < 0 := by rw [lcW]; exact fun q => h ((lc_lt x y).mp q)
theorem own_g1 {x y : Int64} (h : y < x) : 0 < lcmpW x y := by rw [lcW]; exact (lc_gt x y).mpr h
theorem own_g2 {x y : Int64} (h : ¬ y < x) : ¬ 0 < lcmpW x y := by rw [lcW]; exact fun q => h ((lc_gt x y).mp q)
theorem own_e1 {x y : Int64} (h : x = y) : lcmpW x y = 0 := by rw [lcW]; exact (lc_eq x y).mpr h
theorem own_e2 {x y : Int64} (h : ¬ x = y) : ¬ lcmpW x y = 0 := by rw [lcW]; exact fun q => h ((lc_eq x y).mp q)
end OwnKit
theorem own_mod (x m : Int32) (hm : 0 < m.toInt) : 0 ≤ ((x &&& (2147483647 : Int32)) % m).toInt ∧ ((x &&& (2147483647 : Int32)) % m).toInt < m.toInt := by
  have e := Jvm.Kit.i32_mask x 2147483647 (k := 31) (by decide) (by decide)
  have h0 : 0 ≤ (x &&& (2147483647 : Int32)).toInt := by omega
  rw [Jvm.Kit.i32_rem_nonneg h0]
  exact ⟨Int.emod_nonneg _ (by omega), Int.emod_lt_of_pos _ hm⟩
theorem own_ext {x : Int32} {n : Nat} (h : x.toInt = n) (hn : n < 2 ^ 31) : x = Int32.ofNat n := Int32.toInt_inj.mp (by rw [h, Int32.toInt_ofNat_of_lt hn])

theorem own_rd {Z : State} {h : Heap} {a : Addr} {k : ClassId} {f : Nat → Int32} {d : Value} (V : Arv Z h a k .char (4 : Int32) [.int (f 0), .int (f 1), .int (f 2), .int (f 3)] d) {j : Int32} (h0 : ¬ j < 0) (h4 : j < 4) :
    ∃ cl, Arr Z h a cl .char ∧ ¬ (j < 0 ∨ cl.slots.size ≤ j.toNatClampNeg) ∧ cl.slots[j.toNatClampNeg]? = some (.int (f j.toNatClampNeg)) := by
  obtain ⟨cl, A, -, S, -, H, -⟩ := V
  have hin := inb_of S ⟨h0, h4⟩
  refine ⟨cl, A, hin, ?_⟩
  have hj : j.toNatClampNeg < 4 := by
    have e4 : (4 : Int32).toInt = 4 := rfl
    have e0 : (0 : Int32).toInt = 0 := rfl
    rw [Int32.lt_iff_toInt_lt] at h0 h4
    simp only [Int32.toNatClampNeg]; omega
  rw [H _ (Nat.lt_of_not_le fun y => hin (Or.inr y))]
  generalize j.toNatClampNeg = n at hj
  match n, hj with
  | 0, _ => rfl
  | 1, _ => rfl
  | 2, _ => rfl
  | 3, _ => rfl
theorem own_hi {j b : Int32} (h : j < b) (ht : ¬ (4 : Int32) < b) : j < 4 := by
  rw [Int32.lt_iff_toInt_lt] at *; omega
theorem own_inc1 {a : Int32} (h0 : ¬ a < 0) (h : a < 4) : (a + 1).toInt = a.toInt + 1 := by
  have e4 : (4 : Int32).toInt = 4 := rfl
  have e0 : (0 : Int32).toInt = 0 := rfl
  have e1 : (1 : Int32).toInt = 1 := rfl
  rw [Int32.lt_iff_toInt_lt] at h0 h
  rw [Int32.toInt_add, e1, Int.bmod_eq_of_le] <;> omega
theorem own_inc {a b : Int32} (hf : ¬ a < 0) (h : a < b) (ht : ¬ (4 : Int32) < b) : ¬ (a + 1) < 0 := by
  have h4 := own_hi h ht
  have e := own_inc1 hf h4
  have e0 : (0 : Int32).toInt = 0 := rfl
  rw [Int32.lt_iff_toInt_lt] at *; omega
theorem own_last {a b : Int32} (hf : ¬ a < 0) (ht : ¬ (4 : Int32) < b) (h : a < b) (h3 : (((a + 1) + 1) + 1) < b) : ¬ ((((a + 1) + 1) + 1) + 1) < b := by
  have e4 : (4 : Int32).toInt = 4 := rfl
  have e0 : (0 : Int32).toInt = 0 := rfl
  have a4 := own_hi h ht
  have q3 := own_hi h3 ht
  have e1 := own_inc1 hf a4
  rw [Int32.lt_iff_toInt_lt] at hf ht h h3 a4 q3
  have f1 : (a + 1).toInt ≤ 4 := by omega
  have g2 : (a + 1 + 1).toInt = a.toInt + 2 := by
    rw [Int32.toInt_add, e1, show (1 : Int32).toInt = 1 from rfl, Int.bmod_eq_of_le] <;> omega
  have g3 : (a + 1 + 1 + 1).toInt = a.toInt + 3 := by
    rw [Int32.toInt_add, g2, show (1 : Int32).toInt = 1 from rfl, Int.bmod_eq_of_le] <;> omega
  have g4 : (a + 1 + 1 + 1 + 1).toInt = a.toInt + 4 := by
    rw [Int32.toInt_add, g3, show (1 : Int32).toInt = 1 from rfl, Int.bmod_eq_of_le] <;> omega
  rw [Int32.lt_iff_toInt_lt]; omega
def own_from (e : Int32) : Int32 := (e &&& (2147483647 : Int32)) % (5 : Int32)
def own_len (e f : Int32) : Int32 := ((f.toUInt32 >>> ((1 : Int32) &&& 31).toUInt32).toInt32) % ((5 : Int32) - own_from e)
def own_to (e f : Int32) : Int32 := own_from e + own_len e f
theorem own_from_b (e : Int32) : 0 ≤ (own_from e).toInt ∧ (own_from e).toInt < 5 := own_mod e 5 (by decide)
theorem own_five (e : Int32) : ((5 : Int32) - own_from e).toInt = 5 - (own_from e).toInt := by
  have h := own_from_b e
  rw [Jvm.Kit.i32_sub (by rw [show (5 : Int32).toInt = 5 from rfl]; omega) (by rw [show (5 : Int32).toInt = 5 from rfl]; omega)]; rfl
theorem own_from_nn (e : Int32) : ¬ own_from e < 0 := by
  have h := own_from_b e
  rw [Int32.lt_iff_toInt_lt, show (0 : Int32).toInt = 0 from rfl]; omega
theorem own_nz (e : Int32) : (5 : Int32) - own_from e ≠ 0 := fun q => by
  have h := own_from_b e
  have h5 := own_five e
  rw [q, show (0 : Int32).toInt = 0 from rfl] at h5; omega
theorem own_len_b (e f : Int32) : 0 ≤ (own_len e f).toInt ∧ (own_len e f).toInt < 5 - (own_from e).toInt := by
  have h := own_from_b e
  have h5 := own_five e
  have h0 : 0 ≤ (f.toUInt32 >>> ((1 : Int32) &&& 31).toUInt32).toInt32 := Jvm.Kit.i32_iushr_nonneg f (k := 1) (by decide) (by decide) (by decide)
  rw [Jvm.Kit.i32_nonneg] at h0
  unfold own_len
  rw [Jvm.Kit.i32_rem_nonneg h0, h5]
  exact ⟨Int.emod_nonneg _ (by omega), Int.emod_lt_of_pos _ (by omega)⟩
theorem own_to_e (e f : Int32) : (own_to e f).toInt = (own_from e).toInt + (own_len e f).toInt := by
  have h := own_from_b e
  have h2 := own_len_b e f
  exact Jvm.Kit.i32_add (by omega) (by omega)
theorem own_to_le (e f : Int32) : ¬ (4 : Int32) < own_to e f := by
  have h := own_from_b e
  have h2 := own_len_b e f
  rw [Int32.lt_iff_toInt_lt, own_to_e, show (4 : Int32).toInt = 4 from rfl]; omega

def F1 (x0 : Int32) : Int32 :=
  if (x0 &&& (1 : Int32)) = (0 : Int32) then
    (nar .char (((65 : Int32) + (((x0.toUInt32 >>> ((1 : Int32) &&& 31).toUInt32).toInt32) % (26 : Int32))).toUInt32.toUInt16.toUInt32.toInt32))
  else
    (nar .char (((x0.toUInt32 >>> ((16 : Int32) &&& 31).toUInt32).toInt32).toUInt32.toUInt16.toUInt32.toInt32))
theorem d1_0 : decode method_2_code 0 = .ok (.iload_n 0, 1) := by decide +kernel
theorem d1_1 : decode method_2_code 1 = .ok (.iconst 1, 1) := by decide +kernel
theorem d1_2 : decode method_2_code 2 = .ok (.iand, 1) := by decide +kernel
theorem d1_3 : decode method_2_code 3 = .ok (.ifCond .ne 14, 3) := by decide +kernel
theorem d1_6 : decode method_2_code 6 = .ok (.bipush 65, 2) := by decide +kernel
theorem d1_8 : decode method_2_code 8 = .ok (.iload_n 0, 1) := by decide +kernel
theorem d1_9 : decode method_2_code 9 = .ok (.iconst 1, 1) := by decide +kernel
theorem d1_10 : decode method_2_code 10 = .ok (.iushr, 1) := by decide +kernel
theorem d1_11 : decode method_2_code 11 = .ok (.bipush 26, 2) := by decide +kernel
theorem d1_13 : decode method_2_code 13 = .ok (.irem, 1) := by decide +kernel
theorem d1_14 : decode method_2_code 14 = .ok (.iadd, 1) := by decide +kernel
theorem d1_15 : decode method_2_code 15 = .ok (.i2c, 1) := by decide +kernel
theorem d1_16 : decode method_2_code 16 = .ok (.ireturn, 1) := by decide +kernel
theorem d1_17 : decode method_2_code 17 = .ok (.iload_n 0, 1) := by decide +kernel
theorem d1_18 : decode method_2_code 18 = .ok (.bipush 16, 2) := by decide +kernel
theorem d1_20 : decode method_2_code 20 = .ok (.iushr, 1) := by decide +kernel
theorem d1_21 : decode method_2_code 21 = .ok (.i2c, 1) := by decide +kernel
theorem d1_22 : decode method_2_code 22 = .ok (.ireturn, 1) := by decide +kernel
theorem own_pn0 : plainName "com/example/davka/davka/checks/LetterCodesNumberPinLaw" = true := by first | (simp [plainName, overriddenIn]; done) | decide +kernel
theorem ef_1_I (m : MethodId) (x0 : Int32) : entryFrame m #[(.int x0)] 1 = mkF m 0 #[.val (.int x0)] [] := by
  first | (simp [entryFrame, mkF, argsToLocals, Value.category]; done) | rfl
set_option maxRecDepth 65536 in
set_option maxHeartbeats 40000000 in
theorem rm1 (l : Launch) (Z : State) (a0 : Array Value) (hw : ∀ d ∈ tables_1, d.before a0 Z = true) (ws : List Jvm.Cond) (x0 : Int32)  (h0 : Heap)  :
    MetFree l (⟨"com/example/davka/davka/checks/LetterCodesNumberPinLaw", "ch", "(I)C"⟩ : MethodName) (head1 (Jvm.Cond.code (⟨"com/example/davka/davka/checks/LetterCodesNumberPinLaw", "ch", "(I)C"⟩ : MethodName) method_2_code 1 (some .char) :: ws) ({ frames := 0, cells := 0, slots := 0, locals := 0 } : Room)) (fun a U => a = #[(.int x0)] ∧ Z.Warmed39 U.vm ∧ U.heap = h0) (fun _ _ _ _ _ => True) (fun _ U o U' => ∃ v L, o = .returned v ∧ QP (some (.int (F1 x0))) h0 v U'.heap L ∧ FrameEnd U o U' L ({ frames := 0, cells := 0, slots := 0, locals := 0 } : Room).cells ({ frames := 0, cells := 0, slots := 0, locals := 0 } : Room).slots) := by
  refine MetFree.of_bodySF (plainFor_of_name own_pn0) hisR ?_
  intro p e s m args below meth c s₁ Bd hml0 hP hK
  obtain ⟨rfl, hZ, hh⟩ := hP
  have hx := Bd.exec
  have hby := Bd.bytes
  have hml : c.maxLocals = 1 := hml0
  have hown : s.vm.findClass "com/example/davka/davka/checks/LetterCodesNumberPinLaw" = some m.cls := findClass_of_methodNamed Bd.named
  have hnm := (name_of_methodNamed Bd.named Bd.method).1
  have X0 : Stand p l e ({ frames := 0, cells := 0, slots := 0, locals := 0 } : Room) s m #[(.int x0)] below meth c s₁ [] 0 0 := Stand.of_body Bd
  have e0 : s₁.heap = h0 := by rw [← hh, Bd.state]; rfl
  show own_G p.tables e below (fun o U' => ∃ v L, o = .returned v ∧ QP (some (.int (F1 x0))) h0 v U'.heap L ∧ FrameEnd s o U' L ({ frames := 0, cells := 0, slots := 0, locals := 0 } : Room).cells ({ frames := 0, cells := 0, slots := 0, locals := 0 } : Room).slots) (s₁.setTop (entryFrame m #[(.int x0)] 1))
  refine own_go (fun _ k => castTop (ef_1_I m x0) k) ?_
  show own_G p.tables e below _ (s₁.setTop (mkF m 0 #[.val (.int x0)] []))
  refine own_go (fun _ k => XS.iloadN X0.here hx rfl (hb hby d1_0) rfl k) ?_
  show own_G p.tables e below _ (s₁.setTop (mkF m 1 #[.val (.int x0)] [(.int x0)]))
  refine own_go (fun _ k => XS.iconst X0.here hx rfl (hb hby d1_1) k) ?_
  show own_G p.tables e below _ (s₁.setTop (mkF m 2 #[.val (.int x0)] [(.int (1 : Int32)), (.int x0)]))
  refine own_go (fun _ k => XS.iand X0.here hx rfl (hb hby d1_2) rfl k) ?_
  show own_G p.tables e below _ (s₁.setTop (mkF m 3 #[.val (.int x0)] [(.int (x0 &&& (1 : Int32)))]))
  by_cases hc3_1 : (x0 &&& (1 : Int32)) = (0 : Int32)
  · refine own_go (fun _ k => XS.ifNo X0.here hx rfl (hb hby d1_3) rfl (((if0 _ _).trans (teq hc3_1).2)) k) ?_
    show own_G p.tables e below _ (s₁.setTop (mkF m 6 #[.val (.int x0)] []))
    refine own_go (fun _ k => XS.bipush X0.here hx rfl (hb hby d1_6) k) ?_
    show own_G p.tables e below _ (s₁.setTop (mkF m 8 #[.val (.int x0)] [(.int (65 : Int32))]))
    refine own_go (fun _ k => XS.iloadN X0.here hx rfl (hb hby d1_8) rfl k) ?_
    show own_G p.tables e below _ (s₁.setTop (mkF m 9 #[.val (.int x0)] [(.int x0), (.int (65 : Int32))]))
    refine own_go (fun _ k => XS.iconst X0.here hx rfl (hb hby d1_9) k) ?_
    show own_G p.tables e below _ (s₁.setTop (mkF m 10 #[.val (.int x0)] [(.int (1 : Int32)), (.int x0), (.int (65 : Int32))]))
    refine own_go (fun _ k => XS.iushr X0.here hx rfl (hb hby d1_10) rfl k) ?_
    show own_G p.tables e below _ (s₁.setTop (mkF m 11 #[.val (.int x0)] [(.int ((x0.toUInt32 >>> ((1 : Int32) &&& 31).toUInt32).toInt32)), (.int (65 : Int32))]))
    refine own_go (fun _ k => XS.bipush X0.here hx rfl (hb hby d1_11) k) ?_
    show own_G p.tables e below _ (s₁.setTop (mkF m 13 #[.val (.int x0)] [(.int (26 : Int32)), (.int ((x0.toUInt32 >>> ((1 : Int32) &&& 31).toUInt32).toInt32)), (.int (65 : Int32))]))
    refine own_go (fun _ k => iremM X0 hx rfl (hb hby d1_13) rfl (by decide) k) ?_
    show own_G p.tables e below _ (s₁.setTop (mkF m 14 #[.val (.int x0)] [(.int (((x0.toUInt32 >>> ((1 : Int32) &&& 31).toUInt32).toInt32) % (26 : Int32))), (.int (65 : Int32))]))
    refine own_go (fun _ k => XS.iadd X0.here hx rfl (hb hby d1_14) rfl k) ?_
    show own_G p.tables e below _ (s₁.setTop (mkF m 15 #[.val (.int x0)] [(.int ((65 : Int32) + (((x0.toUInt32 >>> ((1 : Int32) &&& 31).toUInt32).toInt32) % (26 : Int32))))]))
    refine own_go (fun _ k => XS.i2c X0.here hx rfl (hb hby d1_15) rfl k) ?_
    show own_G p.tables e below _ (s₁.setTop (mkF m 16 #[.val (.int x0)] [(.int (((65 : Int32) + (((x0.toUInt32 >>> ((1 : Int32) &&& 31).toUInt32).toInt32) % (26 : Int32))).toUInt32.toUInt16.toUInt32.toInt32))]))
    exact own_end X0 Bd.notSynchronized (v := some (.int (nar .char (((65 : Int32) + (((x0.toUInt32 >>> ((1 : Int32) &&& 31).toUInt32).toInt32) % (26 : Int32))).toUInt32.toUInt16.toUInt32.toInt32)))) (fun h => by rw [Bd.returns] at h; cases h) (Q := QP (some (.int (F1 x0))) h0) ⟨by unfold F1; simp only [if_pos hc3_1]; try rfl, rfl, e0⟩ (fun fs hr => retN X0 hx (t := .char) Bd.returns (by simp) (hb hby d1_16) hr) (by decide) (by decide)
  · refine own_go (fun _ k => XS.ifYes X0.here hx rfl (pc0 := 3) (pc' := 17) rfl (hb hby d1_3) rfl (((if0 _ _).trans (feq hc3_1).2)) (by decide) (by decide) k) ?_
    show own_G p.tables e below _ (s₁.setTop (mkF m 17 #[.val (.int x0)] []))
    refine own_go (fun _ k => XS.iloadN X0.here hx rfl (hb hby d1_17) rfl k) ?_
    show own_G p.tables e below _ (s₁.setTop (mkF m 18 #[.val (.int x0)] [(.int x0)]))
    refine own_go (fun _ k => XS.bipush X0.here hx rfl (hb hby d1_18) k) ?_
    show own_G p.tables e below _ (s₁.setTop (mkF m 20 #[.val (.int x0)] [(.int (16 : Int32)), (.int x0)]))
    refine own_go (fun _ k => XS.iushr X0.here hx rfl (hb hby d1_20) rfl k) ?_
    show own_G p.tables e below _ (s₁.setTop (mkF m 21 #[.val (.int x0)] [(.int ((x0.toUInt32 >>> ((16 : Int32) &&& 31).toUInt32).toInt32))]))
    refine own_go (fun _ k => XS.i2c X0.here hx rfl (hb hby d1_21) rfl k) ?_
    show own_G p.tables e below _ (s₁.setTop (mkF m 22 #[.val (.int x0)] [(.int (((x0.toUInt32 >>> ((16 : Int32) &&& 31).toUInt32).toInt32).toUInt32.toUInt16.toUInt32.toInt32))]))
    exact own_end X0 Bd.notSynchronized (v := some (.int (nar .char (((x0.toUInt32 >>> ((16 : Int32) &&& 31).toUInt32).toInt32).toUInt32.toUInt16.toUInt32.toInt32)))) (fun h => by rw [Bd.returns] at h; cases h) (Q := QP (some (.int (F1 x0))) h0) ⟨by unfold F1; simp only [if_neg hc3_1]; try rfl, rfl, e0⟩ (fun fs hr => retN X0 hx (t := .char) Bd.returns (by simp) (hb hby d1_22) hr) (by decide) (by decide)
def F3 (x0 : Int32) (x1 : Int32) (x2 : Int32) : Int32 :=
  if x0 < x1 then
    (nar .boolean (0 : Int32))
  else
    if x0 < x2 then
      (nar .boolean (1 : Int32))
    else
      (nar .boolean (0 : Int32))
theorem d3_0 : decode method_4_code 0 = .ok (.iload_n 1, 1) := by decide +kernel
theorem d3_1 : decode method_4_code 1 = .ok (.iload_n 0, 1) := by decide +kernel
theorem d3_2 : decode method_4_code 2 = .ok (.if_icmp .gt 12, 3) := by decide +kernel
theorem d3_5 : decode method_4_code 5 = .ok (.iload_n 0, 1) := by decide +kernel
theorem d3_6 : decode method_4_code 6 = .ok (.iload_n 2, 1) := by decide +kernel
theorem d3_7 : decode method_4_code 7 = .ok (.if_icmp .ge 7, 3) := by decide +kernel
theorem d3_10 : decode method_4_code 10 = .ok (.iconst 1, 1) := by decide +kernel
theorem d3_11 : decode method_4_code 11 = .ok (.goto 4, 3) := by decide +kernel
theorem d3_14 : decode method_4_code 14 = .ok (.iconst 0, 1) := by decide +kernel
theorem d3_15 : decode method_4_code 15 = .ok (.ireturn, 1) := by decide +kernel
theorem ef_3_III (m : MethodId) (x0 : Int32) (x1 : Int32) (x2 : Int32) : entryFrame m #[(.int x0), (.int x1), (.int x2)] 3 = mkF m 0 #[.val (.int x0), .val (.int x1), .val (.int x2)] [] := by
  first | (simp [entryFrame, mkF, argsToLocals, Value.category]; done) | rfl
set_option maxRecDepth 65536 in
set_option maxHeartbeats 40000000 in
theorem rm3 (l : Launch) (Z : State) (a0 : Array Value) (hw : ∀ d ∈ tables_1, d.before a0 Z = true) (ws : List Jvm.Cond) (x0 : Int32) (x1 : Int32) (x2 : Int32)  (h0 : Heap)  :
    MetFree l (⟨"com/example/davka/davka/checks/LetterCodesNumberPinLaw", "inSlice", "(III)Z"⟩ : MethodName) (head1 (Jvm.Cond.code (⟨"com/example/davka/davka/checks/LetterCodesNumberPinLaw", "inSlice", "(III)Z"⟩ : MethodName) method_4_code 3 (some .boolean) :: ws) ({ frames := 0, cells := 0, slots := 0, locals := 0 } : Room)) (fun a U => a = #[(.int x0), (.int x1), (.int x2)] ∧ Z.Warmed39 U.vm ∧ U.heap = h0) (fun _ _ _ _ _ => True) (fun _ U o U' => ∃ v L, o = .returned v ∧ QP (some (.int (F3 x0 x1 x2))) h0 v U'.heap L ∧ FrameEnd U o U' L ({ frames := 0, cells := 0, slots := 0, locals := 0 } : Room).cells ({ frames := 0, cells := 0, slots := 0, locals := 0 } : Room).slots) := by
  refine MetFree.of_bodySF (plainFor_of_name own_pn0) hisR ?_
  intro p e s m args below meth c s₁ Bd hml0 hP hK
  obtain ⟨rfl, hZ, hh⟩ := hP
  have hx := Bd.exec
  have hby := Bd.bytes
  have hml : c.maxLocals = 3 := hml0
  have hown : s.vm.findClass "com/example/davka/davka/checks/LetterCodesNumberPinLaw" = some m.cls := findClass_of_methodNamed Bd.named
  have hnm := (name_of_methodNamed Bd.named Bd.method).1
  have X0 : Stand p l e ({ frames := 0, cells := 0, slots := 0, locals := 0 } : Room) s m #[(.int x0), (.int x1), (.int x2)] below meth c s₁ [] 0 0 := Stand.of_body Bd
  have e0 : s₁.heap = h0 := by rw [← hh, Bd.state]; rfl
  show own_G p.tables e below (fun o U' => ∃ v L, o = .returned v ∧ QP (some (.int (F3 x0 x1 x2))) h0 v U'.heap L ∧ FrameEnd s o U' L ({ frames := 0, cells := 0, slots := 0, locals := 0 } : Room).cells ({ frames := 0, cells := 0, slots := 0, locals := 0 } : Room).slots) (s₁.setTop (entryFrame m #[(.int x0), (.int x1), (.int x2)] 3))
  refine own_go (fun _ k => castTop (ef_3_III m x0 x1 x2) k) ?_
  show own_G p.tables e below _ (s₁.setTop (mkF m 0 #[.val (.int x0), .val (.int x1), .val (.int x2)] []))
  refine own_go (fun _ k => XS.iloadN X0.here hx rfl (hb hby d3_0) rfl k) ?_
  show own_G p.tables e below _ (s₁.setTop (mkF m 1 #[.val (.int x0), .val (.int x1), .val (.int x2)] [(.int x1)]))
  refine own_go (fun _ k => XS.iloadN X0.here hx rfl (hb hby d3_1) rfl k) ?_
  show own_G p.tables e below _ (s₁.setTop (mkF m 2 #[.val (.int x0), .val (.int x1), .val (.int x2)] [(.int x0), (.int x1)]))
  by_cases hc2_2 : x0 < x1
  · refine own_go (fun _ k => XS.icmpYes X0.here hx rfl (pc0 := 2) (pc' := 14) rfl (hb hby d3_2) rfl ((tlt hc2_2).2.2.1) (by decide) (by decide) k) ?_
    show own_G p.tables e below _ (s₁.setTop (mkF m 14 #[.val (.int x0), .val (.int x1), .val (.int x2)] []))
    refine own_go (fun _ k => XS.iconst X0.here hx rfl (hb hby d3_14) k) ?_
    show own_G p.tables e below _ (s₁.setTop (mkF m 15 #[.val (.int x0), .val (.int x1), .val (.int x2)] [(.int (0 : Int32))]))
    exact own_end X0 Bd.notSynchronized (v := some (.int (nar .boolean (0 : Int32)))) (fun h => by rw [Bd.returns] at h; cases h) (Q := QP (some (.int (F3 x0 x1 x2))) h0) ⟨by unfold F3; simp only [if_pos hc2_2]; try rfl, rfl, e0⟩ (fun fs hr => retN X0 hx (t := .boolean) Bd.returns (by simp) (hb hby d3_15) hr) (by decide) (by decide)
  · refine own_go (fun _ k => XS.icmpNo X0.here hx rfl (hb hby d3_2) rfl ((flt hc2_2).2.2.1) k) ?_
    show own_G p.tables e below _ (s₁.setTop (mkF m 5 #[.val (.int x0), .val (.int x1), .val (.int x2)] []))
    refine own_go (fun _ k => XS.iloadN X0.here hx rfl (hb hby d3_5) rfl k) ?_
    show own_G p.tables e below _ (s₁.setTop (mkF m 6 #[.val (.int x0), .val (.int x1), .val (.int x2)] [(.int x0)]))
    refine own_go (fun _ k => XS.iloadN X0.here hx rfl (hb hby d3_6) rfl k) ?_
    show own_G p.tables e below _ (s₁.setTop (mkF m 7 #[.val (.int x0), .val (.int x1), .val (.int x2)] [(.int x2), (.int x0)]))
    by_cases hc7_3 : x0 < x2
    · refine own_go (fun _ k => XS.icmpNo X0.here hx rfl (hb hby d3_7) rfl ((tlt hc7_3).2.1) k) ?_
      show own_G p.tables e below _ (s₁.setTop (mkF m 10 #[.val (.int x0), .val (.int x1), .val (.int x2)] []))
      refine own_go (fun _ k => XS.iconst X0.here hx rfl (hb hby d3_10) k) ?_
      show own_G p.tables e below _ (s₁.setTop (mkF m 11 #[.val (.int x0), .val (.int x1), .val (.int x2)] [(.int (1 : Int32))]))
      refine own_go (fun _ k => XS.goto X0.here hx rfl (pc0 := 11) (pc' := 15) rfl (hb hby d3_11) (by decide) (by decide) k) ?_
      show own_G p.tables e below _ (s₁.setTop (mkF m 15 #[.val (.int x0), .val (.int x1), .val (.int x2)] [(.int (1 : Int32))]))
      exact own_end X0 Bd.notSynchronized (v := some (.int (nar .boolean (1 : Int32)))) (fun h => by rw [Bd.returns] at h; cases h) (Q := QP (some (.int (F3 x0 x1 x2))) h0) ⟨by unfold F3; simp only [if_neg hc2_2, if_pos hc7_3]; try rfl, rfl, e0⟩ (fun fs hr => retN X0 hx (t := .boolean) Bd.returns (by simp) (hb hby d3_15) hr) (by decide) (by decide)
    · refine own_go (fun _ k => XS.icmpYes X0.here hx rfl (pc0 := 7) (pc' := 14) rfl (hb hby d3_7) rfl ((flt hc7_3).2.1) (by decide) (by decide) k) ?_
      show own_G p.tables e below _ (s₁.setTop (mkF m 14 #[.val (.int x0), .val (.int x1), .val (.int x2)] []))
      refine own_go (fun _ k => XS.iconst X0.here hx rfl (hb hby d3_14) k) ?_
      show own_G p.tables e below _ (s₁.setTop (mkF m 15 #[.val (.int x0), .val (.int x1), .val (.int x2)] [(.int (0 : Int32))]))
      exact own_end X0 Bd.notSynchronized (v := some (.int (nar .boolean (0 : Int32)))) (fun h => by rw [Bd.returns] at h; cases h) (Q := QP (some (.int (F3 x0 x1 x2))) h0) ⟨by unfold F3; simp only [if_neg hc2_2, if_neg hc7_3]; try rfl, rfl, e0⟩ (fun fs hr => retN X0 hx (t := .boolean) Bd.returns (by simp) (hb hby d3_15) hr) (by decide) (by decide)
def F4 (x0 : Int32) : Int32 :=
  if x0 < (65 : Int32) then
    (nar .boolean (0 : Int32))
  else
    if (90 : Int32) < x0 then
      (nar .boolean (0 : Int32))
    else
      (nar .boolean (1 : Int32))
theorem d4_0 : decode method_3_code 0 = .ok (.iload_n 0, 1) := by decide +kernel
theorem d4_1 : decode method_3_code 1 = .ok (.bipush 65, 2) := by decide +kernel
theorem d4_3 : decode method_3_code 3 = .ok (.if_icmp .lt 13, 3) := by decide +kernel
theorem d4_6 : decode method_3_code 6 = .ok (.iload_n 0, 1) := by decide +kernel
theorem d4_7 : decode method_3_code 7 = .ok (.bipush 90, 2) := by decide +kernel
theorem d4_9 : decode method_3_code 9 = .ok (.if_icmp .gt 7, 3) := by decide +kernel
theorem d4_12 : decode method_3_code 12 = .ok (.iconst 1, 1) := by decide +kernel
theorem d4_13 : decode method_3_code 13 = .ok (.goto 4, 3) := by decide +kernel
theorem d4_16 : decode method_3_code 16 = .ok (.iconst 0, 1) := by decide +kernel
theorem d4_17 : decode method_3_code 17 = .ok (.ireturn, 1) := by decide +kernel
theorem ef_4_I (m : MethodId) (x0 : Int32) : entryFrame m #[(.int x0)] 1 = mkF m 0 #[.val (.int x0)] [] := by
  first | (simp [entryFrame, mkF, argsToLocals, Value.category]; done) | rfl
set_option maxRecDepth 65536 in
set_option maxHeartbeats 40000000 in
theorem rm4 (l : Launch) (Z : State) (a0 : Array Value) (hw : ∀ d ∈ tables_1, d.before a0 Z = true) (ws : List Jvm.Cond) (x0 : Int32)  (h0 : Heap)  :
    MetFree l (⟨"com/example/davka/davka/checks/LetterCodesNumberPinLaw", "isCap", "(C)Z"⟩ : MethodName) (head1 (Jvm.Cond.code (⟨"com/example/davka/davka/checks/LetterCodesNumberPinLaw", "isCap", "(C)Z"⟩ : MethodName) method_3_code 1 (some .boolean) :: ws) ({ frames := 0, cells := 0, slots := 0, locals := 0 } : Room)) (fun a U => a = #[(.int x0)] ∧ Z.Warmed39 U.vm ∧ U.heap = h0) (fun _ _ _ _ _ => True) (fun _ U o U' => ∃ v L, o = .returned v ∧ QP (some (.int (F4 x0))) h0 v U'.heap L ∧ FrameEnd U o U' L ({ frames := 0, cells := 0, slots := 0, locals := 0 } : Room).cells ({ frames := 0, cells := 0, slots := 0, locals := 0 } : Room).slots) := by
  refine MetFree.of_bodySF (plainFor_of_name own_pn0) hisR ?_
  intro p e s m args below meth c s₁ Bd hml0 hP hK
  obtain ⟨rfl, hZ, hh⟩ := hP
  have hx := Bd.exec
  have hby := Bd.bytes
  have hml : c.maxLocals = 1 := hml0
  have hown : s.vm.findClass "com/example/davka/davka/checks/LetterCodesNumberPinLaw" = some m.cls := findClass_of_methodNamed Bd.named
  have hnm := (name_of_methodNamed Bd.named Bd.method).1
  have X0 : Stand p l e ({ frames := 0, cells := 0, slots := 0, locals := 0 } : Room) s m #[(.int x0)] below meth c s₁ [] 0 0 := Stand.of_body Bd
  have e0 : s₁.heap = h0 := by rw [← hh, Bd.state]; rfl
  show own_G p.tables e below (fun o U' => ∃ v L, o = .returned v ∧ QP (some (.int (F4 x0))) h0 v U'.heap L ∧ FrameEnd s o U' L ({ frames := 0, cells := 0, slots := 0, locals := 0 } : Room).cells ({ frames := 0, cells := 0, slots := 0, locals := 0 } : Room).slots) (s₁.setTop (entryFrame m #[(.int x0)] 1))
  refine own_go (fun _ k => castTop (ef_4_I m x0) k) ?_
  show own_G p.tables e below _ (s₁.setTop (mkF m 0 #[.val (.int x0)] []))
  refine own_go (fun _ k => XS.iloadN X0.here hx rfl (hb hby d4_0) rfl k) ?_
  show own_G p.tables e below _ (s₁.setTop (mkF m 1 #[.val (.int x0)] [(.int x0)]))
  refine own_go (fun _ k => XS.bipush X0.here hx rfl (hb hby d4_1) k) ?_
  show own_G p.tables e below _ (s₁.setTop (mkF m 3 #[.val (.int x0)] [(.int (65 : Int32)), (.int x0)]))
  by_cases hc3_4 : x0 < (65 : Int32)
  · refine own_go (fun _ k => XS.icmpYes X0.here hx rfl (pc0 := 3) (pc' := 16) rfl (hb hby d4_3) rfl ((tlt hc3_4).1) (by decide) (by decide) k) ?_
    show own_G p.tables e below _ (s₁.setTop (mkF m 16 #[.val (.int x0)] []))
    refine own_go (fun _ k => XS.iconst X0.here hx rfl (hb hby d4_16) k) ?_
    show own_G p.tables e below _ (s₁.setTop (mkF m 17 #[.val (.int x0)] [(.int (0 : Int32))]))
    exact own_end X0 Bd.notSynchronized (v := some (.int (nar .boolean (0 : Int32)))) (fun h => by rw [Bd.returns] at h; cases h) (Q := QP (some (.int (F4 x0))) h0) ⟨by unfold F4; simp only [if_pos hc3_4]; try rfl, rfl, e0⟩ (fun fs hr => retN X0 hx (t := .boolean) Bd.returns (by simp) (hb hby d4_17) hr) (by decide) (by decide)
  · refine own_go (fun _ k => XS.icmpNo X0.here hx rfl (hb hby d4_3) rfl ((flt hc3_4).1) k) ?_
    show own_G p.tables e below _ (s₁.setTop (mkF m 6 #[.val (.int x0)] []))
    refine own_go (fun _ k => XS.iloadN X0.here hx rfl (hb hby d4_6) rfl k) ?_
    show own_G p.tables e below _ (s₁.setTop (mkF m 7 #[.val (.int x0)] [(.int x0)]))
    refine own_go (fun _ k => XS.bipush X0.here hx rfl (hb hby d4_7) k) ?_
    show own_G p.tables e below _ (s₁.setTop (mkF m 9 #[.val (.int x0)] [(.int (90 : Int32)), (.int x0)]))
    by_cases hc9_5 : (90 : Int32) < x0
    · refine own_go (fun _ k => XS.icmpYes X0.here hx rfl (pc0 := 9) (pc' := 16) rfl (hb hby d4_9) rfl ((tlt hc9_5).2.2.1) (by decide) (by decide) k) ?_
      show own_G p.tables e below _ (s₁.setTop (mkF m 16 #[.val (.int x0)] []))
      refine own_go (fun _ k => XS.iconst X0.here hx rfl (hb hby d4_16) k) ?_
      show own_G p.tables e below _ (s₁.setTop (mkF m 17 #[.val (.int x0)] [(.int (0 : Int32))]))
      exact own_end X0 Bd.notSynchronized (v := some (.int (nar .boolean (0 : Int32)))) (fun h => by rw [Bd.returns] at h; cases h) (Q := QP (some (.int (F4 x0))) h0) ⟨by unfold F4; simp only [if_neg hc3_4, if_pos hc9_5]; try rfl, rfl, e0⟩ (fun fs hr => retN X0 hx (t := .boolean) Bd.returns (by simp) (hb hby d4_17) hr) (by decide) (by decide)
    · refine own_go (fun _ k => XS.icmpNo X0.here hx rfl (hb hby d4_9) rfl ((flt hc9_5).2.2.1) k) ?_
      show own_G p.tables e below _ (s₁.setTop (mkF m 12 #[.val (.int x0)] []))
      refine own_go (fun _ k => XS.iconst X0.here hx rfl (hb hby d4_12) k) ?_
      show own_G p.tables e below _ (s₁.setTop (mkF m 13 #[.val (.int x0)] [(.int (1 : Int32))]))
      refine own_go (fun _ k => XS.goto X0.here hx rfl (pc0 := 13) (pc' := 17) rfl (hb hby d4_13) (by decide) (by decide) k) ?_
      show own_G p.tables e below _ (s₁.setTop (mkF m 17 #[.val (.int x0)] [(.int (1 : Int32))]))
      exact own_end X0 Bd.notSynchronized (v := some (.int (nar .boolean (1 : Int32)))) (fun h => by rw [Bd.returns] at h; cases h) (Q := QP (some (.int (F4 x0))) h0) ⟨by unfold F4; simp only [if_neg hc3_4, if_neg hc9_5]; try rfl, rfl, e0⟩ (fun fs hr => retN X0 hx (t := .boolean) Bd.returns (by simp) (hb hby d4_17) hr) (by decide) (by decide)
def F6 (x0 : Int32) (x1 : Int32) : Int32 :=
  if ((x1 - (1 : Int32)) - x0) = (0 : Int32) then
    (1 : Int32)
  else
    if ((x1 - (1 : Int32)) - x0) = (1 : Int32) then
      (26 : Int32)
    else
      if ((x1 - (1 : Int32)) - x0) = (2 : Int32) then
        (676 : Int32)
      else
        (17576 : Int32)
theorem d6_0 : decode method_5_code 0 = .ok (.iload_n 1, 1) := by decide +kernel
theorem d6_1 : decode method_5_code 1 = .ok (.iconst 1, 1) := by decide +kernel
theorem d6_2 : decode method_5_code 2 = .ok (.isub, 1) := by decide +kernel
theorem d6_3 : decode method_5_code 3 = .ok (.iload_n 0, 1) := by decide +kernel
theorem d6_4 : decode method_5_code 4 = .ok (.isub, 1) := by decide +kernel
theorem d6_5 : decode method_5_code 5 = .ok (.istore_n 2, 1) := by decide +kernel
theorem d6_6 : decode method_5_code 6 = .ok (.iload_n 2, 1) := by decide +kernel
theorem d6_7 : decode method_5_code 7 = .ok (.ifCond .ne 5, 3) := by decide +kernel
theorem d6_10 : decode method_5_code 10 = .ok (.iconst 1, 1) := by decide +kernel
theorem d6_11 : decode method_5_code 11 = .ok (.ireturn, 1) := by decide +kernel
theorem d6_12 : decode method_5_code 12 = .ok (.iload_n 2, 1) := by decide +kernel
theorem d6_13 : decode method_5_code 13 = .ok (.iconst 1, 1) := by decide +kernel
theorem d6_14 : decode method_5_code 14 = .ok (.if_icmp .ne 6, 3) := by decide +kernel
theorem d6_17 : decode method_5_code 17 = .ok (.bipush 26, 2) := by decide +kernel
theorem d6_19 : decode method_5_code 19 = .ok (.ireturn, 1) := by decide +kernel
theorem d6_20 : decode method_5_code 20 = .ok (.iload_n 2, 1) := by decide +kernel
theorem d6_21 : decode method_5_code 21 = .ok (.iconst 2, 1) := by decide +kernel
theorem d6_22 : decode method_5_code 22 = .ok (.if_icmp .ne 7, 3) := by decide +kernel
theorem d6_25 : decode method_5_code 25 = .ok (.sipush 676, 3) := by decide +kernel
theorem d6_28 : decode method_5_code 28 = .ok (.ireturn, 1) := by decide +kernel
theorem d6_29 : decode method_5_code 29 = .ok (.sipush 17576, 3) := by decide +kernel
theorem d6_32 : decode method_5_code 32 = .ok (.ireturn, 1) := by decide +kernel
theorem ef_6_II (m : MethodId) (x0 : Int32) (x1 : Int32) : entryFrame m #[(.int x0), (.int x1)] 3 = mkF m 0 #[.val (.int x0), .val (.int x1), .unset] [] := by
  first | (simp [entryFrame, mkF, argsToLocals, Value.category]; done) | rfl
set_option maxRecDepth 65536 in
set_option maxHeartbeats 40000000 in
theorem rm6 (l : Launch) (Z : State) (a0 : Array Value) (hw : ∀ d ∈ tables_1, d.before a0 Z = true) (ws : List Jvm.Cond) (x0 : Int32) (x1 : Int32)  (h0 : Heap)  :
    MetFree l (⟨"com/example/davka/davka/checks/LetterCodesNumberPinLaw", "weight", "(II)I"⟩ : MethodName) (head1 (Jvm.Cond.code (⟨"com/example/davka/davka/checks/LetterCodesNumberPinLaw", "weight", "(II)I"⟩ : MethodName) method_5_code 3 (some .int) :: ws) ({ frames := 0, cells := 0, slots := 0, locals := 0 } : Room)) (fun a U => a = #[(.int x0), (.int x1)] ∧ Z.Warmed39 U.vm ∧ U.heap = h0) (fun _ _ _ _ _ => True) (fun _ U o U' => ∃ v L, o = .returned v ∧ QP (some (.int (F6 x0 x1))) h0 v U'.heap L ∧ FrameEnd U o U' L ({ frames := 0, cells := 0, slots := 0, locals := 0 } : Room).cells ({ frames := 0, cells := 0, slots := 0, locals := 0 } : Room).slots) := by
  refine MetFree.of_bodySF (plainFor_of_name own_pn0) hisR ?_
  intro p e s m args below meth c s₁ Bd hml0 hP hK
  obtain ⟨rfl, hZ, hh⟩ := hP
  have hx := Bd.exec
  have hby := Bd.bytes
  have hml : c.maxLocals = 3 := hml0
  have hown : s.vm.findClass "com/example/davka/davka/checks/LetterCodesNumberPinLaw" = some m.cls := findClass_of_methodNamed Bd.named
  have hnm := (name_of_methodNamed Bd.named Bd.method).1
  have X0 : Stand p l e ({ frames := 0, cells := 0, slots := 0, locals := 0 } : Room) s m #[(.int x0), (.int x1)] below meth c s₁ [] 0 0 := Stand.of_body Bd
  have e0 : s₁.heap = h0 := by rw [← hh, Bd.state]; rfl
  show own_G p.tables e below (fun o U' => ∃ v L, o = .returned v ∧ QP (some (.int (F6 x0 x1))) h0 v U'.heap L ∧ FrameEnd s o U' L ({ frames := 0, cells := 0, slots := 0, locals := 0 } : Room).cells ({ frames := 0, cells := 0, slots := 0, locals := 0 } : Room).slots) (s₁.setTop (entryFrame m #[(.int x0), (.int x1)] 3))
  refine own_go (fun _ k => castTop (ef_6_II m x0 x1) k) ?_
  show own_G p.tables e below _ (s₁.setTop (mkF m 0 #[.val (.int x0), .val (.int x1), .unset] []))
  refine own_go (fun _ k => XS.iloadN X0.here hx rfl (hb hby d6_0) rfl k) ?_
  show own_G p.tables e below _ (s₁.setTop (mkF m 1 #[.val (.int x0), .val (.int x1), .unset] [(.int x1)]))
  refine own_go (fun _ k => XS.iconst X0.here hx rfl (hb hby d6_1) k) ?_
  show own_G p.tables e below _ (s₁.setTop (mkF m 2 #[.val (.int x0), .val (.int x1), .unset] [(.int (1 : Int32)), (.int x1)]))
  refine own_go (fun _ k => XS.isub X0.here hx rfl (hb hby d6_2) rfl k) ?_
  show own_G p.tables e below _ (s₁.setTop (mkF m 3 #[.val (.int x0), .val (.int x1), .unset] [(.int (x1 - (1 : Int32)))]))
  refine own_go (fun _ k => XS.iloadN X0.here hx rfl (hb hby d6_3) rfl k) ?_
  show own_G p.tables e below _ (s₁.setTop (mkF m 4 #[.val (.int x0), .val (.int x1), .unset] [(.int x0), (.int (x1 - (1 : Int32)))]))
  refine own_go (fun _ k => XS.isub X0.here hx rfl (hb hby d6_4) rfl k) ?_
  show own_G p.tables e below _ (s₁.setTop (mkF m 5 #[.val (.int x0), .val (.int x1), .unset] [(.int ((x1 - (1 : Int32)) - x0))]))
  refine own_go (fun _ k => XS.istoreN X0.here hx rfl (hb hby d6_5) rfl (l' := #[.val (.int x0), .val (.int x1), .val (.int ((x1 - (1 : Int32)) - x0))]) rfl k) ?_
  show own_G p.tables e below _ (s₁.setTop (mkF m 6 #[.val (.int x0), .val (.int x1), .val (.int ((x1 - (1 : Int32)) - x0))] []))
  refine own_go (fun _ k => XS.iloadN X0.here hx rfl (hb hby d6_6) rfl k) ?_
  show own_G p.tables e below _ (s₁.setTop (mkF m 7 #[.val (.int x0), .val (.int x1), .val (.int ((x1 - (1 : Int32)) - x0))] [(.int ((x1 - (1 : Int32)) - x0))]))
  by_cases hc7_6 : ((x1 - (1 : Int32)) - x0) = (0 : Int32)
  · refine own_go (fun _ k => XS.ifNo X0.here hx rfl (hb hby d6_7) rfl (((if0 _ _).trans (teq hc7_6).2)) k) ?_
    show own_G p.tables e below _ (s₁.setTop (mkF m 10 #[.val (.int x0), .val (.int x1), .val (.int ((x1 - (1 : Int32)) - x0))] []))
    refine own_go (fun _ k => XS.iconst X0.here hx rfl (hb hby d6_10) k) ?_
    show own_G p.tables e below _ (s₁.setTop (mkF m 11 #[.val (.int x0), .val (.int x1), .val (.int ((x1 - (1 : Int32)) - x0))] [(.int (1 : Int32))]))
    exact own_end X0 Bd.notSynchronized (v := some (.int (1 : Int32))) (fun h => by rw [Bd.returns] at h; cases h) (Q := QP (some (.int (F6 x0 x1))) h0) ⟨by unfold F6; simp only [if_pos hc7_6]; try rfl, rfl, e0⟩ (fun fs hr => retI X0 hx Bd.returns (hb hby d6_11) hr) (by decide) (by decide)
  · refine own_go (fun _ k => XS.ifYes X0.here hx rfl (pc0 := 7) (pc' := 12) rfl (hb hby d6_7) rfl (((if0 _ _).trans (feq hc7_6).2)) (by decide) (by decide) k) ?_
    show own_G p.tables e below _ (s₁.setTop (mkF m 12 #[.val (.int x0), .val (.int x1), .val (.int ((x1 - (1 : Int32)) - x0))] []))
    refine own_go (fun _ k => XS.iloadN X0.here hx rfl (hb hby d6_12) rfl k) ?_
    show own_G p.tables e below _ (s₁.setTop (mkF m 13 #[.val (.int x0), .val (.int x1), .val (.int ((x1 - (1 : Int32)) - x0))] [(.int ((x1 - (1 : Int32)) - x0))]))
    refine own_go (fun _ k => XS.iconst X0.here hx rfl (hb hby d6_13) k) ?_
    show own_G p.tables e below _ (s₁.setTop (mkF m 14 #[.val (.int x0), .val (.int x1), .val (.int ((x1 - (1 : Int32)) - x0))] [(.int (1 : Int32)), (.int ((x1 - (1 : Int32)) - x0))]))
    by_cases hc14_7 : ((x1 - (1 : Int32)) - x0) = (1 : Int32)
    · refine own_go (fun _ k => XS.icmpNo X0.here hx rfl (hb hby d6_14) rfl ((teq hc14_7).2) k) ?_
      show own_G p.tables e below _ (s₁.setTop (mkF m 17 #[.val (.int x0), .val (.int x1), .val (.int ((x1 - (1 : Int32)) - x0))] []))
      refine own_go (fun _ k => XS.bipush X0.here hx rfl (hb hby d6_17) k) ?_
      show own_G p.tables e below _ (s₁.setTop (mkF m 19 #[.val (.int x0), .val (.int x1), .val (.int ((x1 - (1 : Int32)) - x0))] [(.int (26 : Int32))]))
      exact own_end X0 Bd.notSynchronized (v := some (.int (26 : Int32))) (fun h => by rw [Bd.returns] at h; cases h) (Q := QP (some (.int (F6 x0 x1))) h0) ⟨by unfold F6; simp only [if_neg hc7_6, if_pos hc14_7]; try rfl, rfl, e0⟩ (fun fs hr => retI X0 hx Bd.returns (hb hby d6_19) hr) (by decide) (by decide)
    · refine own_go (fun _ k => XS.icmpYes X0.here hx rfl (pc0 := 14) (pc' := 20) rfl (hb hby d6_14) rfl ((feq hc14_7).2) (by decide) (by decide) k) ?_
      show own_G p.tables e below _ (s₁.setTop (mkF m 20 #[.val (.int x0), .val (.int x1), .val (.int ((x1 - (1 : Int32)) - x0))] []))
      refine own_go (fun _ k => XS.iloadN X0.here hx rfl (hb hby d6_20) rfl k) ?_
      show own_G p.tables e below _ (s₁.setTop (mkF m 21 #[.val (.int x0), .val (.int x1), .val (.int ((x1 - (1 : Int32)) - x0))] [(.int ((x1 - (1 : Int32)) - x0))]))
      refine own_go (fun _ k => XS.iconst X0.here hx rfl (hb hby d6_21) k) ?_
      show own_G p.tables e below _ (s₁.setTop (mkF m 22 #[.val (.int x0), .val (.int x1), .val (.int ((x1 - (1 : Int32)) - x0))] [(.int (2 : Int32)), (.int ((x1 - (1 : Int32)) - x0))]))
      by_cases hc22_8 : ((x1 - (1 : Int32)) - x0) = (2 : Int32)
      · refine own_go (fun _ k => XS.icmpNo X0.here hx rfl (hb hby d6_22) rfl ((teq hc22_8).2) k) ?_
        show own_G p.tables e below _ (s₁.setTop (mkF m 25 #[.val (.int x0), .val (.int x1), .val (.int ((x1 - (1 : Int32)) - x0))] []))
        refine own_go (fun _ k => XS.sipush X0.here hx rfl (hb hby d6_25) k) ?_
        show own_G p.tables e below _ (s₁.setTop (mkF m 28 #[.val (.int x0), .val (.int x1), .val (.int ((x1 - (1 : Int32)) - x0))] [(.int (676 : Int32))]))
        exact own_end X0 Bd.notSynchronized (v := some (.int (676 : Int32))) (fun h => by rw [Bd.returns] at h; cases h) (Q := QP (some (.int (F6 x0 x1))) h0) ⟨by unfold F6; simp only [if_neg hc7_6, if_neg hc14_7, if_pos hc22_8]; try rfl, rfl, e0⟩ (fun fs hr => retI X0 hx Bd.returns (hb hby d6_28) hr) (by decide) (by decide)
      · refine own_go (fun _ k => XS.icmpYes X0.here hx rfl (pc0 := 22) (pc' := 29) rfl (hb hby d6_22) rfl ((feq hc22_8).2) (by decide) (by decide) k) ?_
        show own_G p.tables e below _ (s₁.setTop (mkF m 29 #[.val (.int x0), .val (.int x1), .val (.int ((x1 - (1 : Int32)) - x0))] []))
        refine own_go (fun _ k => XS.sipush X0.here hx rfl (hb hby d6_29) k) ?_
        show own_G p.tables e below _ (s₁.setTop (mkF m 32 #[.val (.int x0), .val (.int x1), .val (.int ((x1 - (1 : Int32)) - x0))] [(.int (17576 : Int32))]))
        exact own_end X0 Bd.notSynchronized (v := some (.int (17576 : Int32))) (fun h => by rw [Bd.returns] at h; cases h) (Q := QP (some (.int (F6 x0 x1))) h0) ⟨by unfold F6; simp only [if_neg hc7_6, if_neg hc14_7, if_neg hc22_8]; try rfl, rfl, e0⟩ (fun fs hr => retI X0 hx Bd.returns (hb hby d6_32) hr) (by decide) (by decide)
theorem own_in1 {i a b : Int32} (h : ¬ a < 0) (q : ¬ F3 i a b = 0) : ¬ i < 0 := by
  unfold F3 at q
  split at q
  · exact absurd rfl q
  · split at q
    · rename_i u v; rw [Int32.lt_iff_toInt_lt] at *; omega
    · exact absurd rfl q
theorem own_in2 {i a b : Int32} (h : ¬ (4 : Int32) < b) (q : ¬ F3 i a b = 0) : i < 4 := by
  unfold F3 at q
  split at q
  · exact absurd rfl q
  · split at q
    · rename_i u v; rw [Int32.lt_iff_toInt_lt] at *; omega
    · exact absurd rfl q
theorem own_pd0 : parseMethodDescriptor "(III)Z" = some ⟨[.int, .int, .int], some .boolean⟩ := by decide +kernel
theorem own_pd1 : parseMethodDescriptor "(C)Z" = some ⟨[.char], some .boolean⟩ := by decide +kernel
def F2 (x1 : Int32) (x2 : Int32) (x3 : Int32) (f : Nat → Int32) : Int32 :=
  if (F3 x1 x2 x3) = (0 : Int32) then
    (nar .boolean (0 : Int32))
  else
    if (F4 (f (x1).toNatClampNeg)) = (0 : Int32) then
      (nar .boolean (1 : Int32))
    else
      (nar .boolean (0 : Int32))
theorem d2_0 : decode method_7_code 0 = .ok (.iload_n 1, 1) := by decide +kernel
theorem d2_1 : decode method_7_code 1 = .ok (.iload_n 2, 1) := by decide +kernel
theorem d2_2 : decode method_7_code 2 = .ok (.iload_n 3, 1) := by decide +kernel
theorem d2_3 : decode method_7_code 3 = .ok (.invokestatic 7, 3) := by decide +kernel
theorem d2_6 : decode method_7_code 6 = .ok (.ifCond .eq 16, 3) := by decide +kernel
theorem d2_9 : decode method_7_code 9 = .ok (.aload_n 0, 1) := by decide +kernel
theorem d2_10 : decode method_7_code 10 = .ok (.iload_n 1, 1) := by decide +kernel
theorem d2_11 : decode method_7_code 11 = .ok (.caload, 1) := by decide +kernel
theorem d2_12 : decode method_7_code 12 = .ok (.invokestatic 17, 3) := by decide +kernel
theorem d2_15 : decode method_7_code 15 = .ok (.ifCond .ne 7, 3) := by decide +kernel
theorem d2_18 : decode method_7_code 18 = .ok (.iconst 1, 1) := by decide +kernel
theorem d2_19 : decode method_7_code 19 = .ok (.goto 4, 3) := by decide +kernel
theorem d2_22 : decode method_7_code 22 = .ok (.iconst 0, 1) := by decide +kernel
theorem d2_23 : decode method_7_code 23 = .ok (.ireturn, 1) := by decide +kernel
theorem ef_2_RIII (m : MethodId) (x0 : Addr) (x1 : Int32) (x2 : Int32) (x3 : Int32) : entryFrame m #[(.ref x0), (.int x1), (.int x2), (.int x3)] 4 = mkF m 0 #[.val (.ref x0), .val (.int x1), .val (.int x2), .val (.int x3)] [] := by
  first | (simp [entryFrame, mkF, argsToLocals, Value.category]; done) | rfl
set_option maxRecDepth 65536 in
set_option maxHeartbeats 40000000 in
theorem rm2 (l : Launch) (Z : State) (a0 : Array Value) (hw : ∀ d ∈ tables_1, d.before a0 Z = true) (ws : List Jvm.Cond) (x0 : Addr) (x1 : Int32) (x2 : Int32) (x3 : Int32) (k : ClassId) (f : Nat → Int32) (h0 : Heap) (V : Arv Z h0 x0 k .char (4 : Int32) [.int (f 0), .int (f 1), .int (f 2), .int (f 3)] (.int (0 : Int32))) (hf : ¬ x2 < 0) (ht : ¬ (4 : Int32) < x3) :
    MetFree l (⟨"com/example/davka/davka/checks/LetterCodesNumberPinLaw", "badAt", "([CIII)Z"⟩ : MethodName) (head1 (Jvm.Cond.code (⟨"com/example/davka/davka/checks/LetterCodesNumberPinLaw", "badAt", "([CIII)Z"⟩ : MethodName) method_7_code 4 (some .boolean) :: ws) ({ frames := 1, cells := 0, slots := 0, locals := 14 } : Room)) (fun a U => a = #[(.ref x0), (.int x1), (.int x2), (.int x3)] ∧ Z.Warmed39 U.vm ∧ U.heap = h0) (fun _ _ _ _ _ => True) (fun _ U o U' => ∃ v L, o = .returned v ∧ QP (some (.int (F2 x1 x2 x3 f))) h0 v U'.heap L ∧ FrameEnd U o U' L ({ frames := 1, cells := 0, slots := 0, locals := 14 } : Room).cells ({ frames := 1, cells := 0, slots := 0, locals := 14 } : Room).slots) := by
  refine MetFree.of_bodySF (plainFor_of_name own_pn0) hisR ?_
  intro p e s m args below meth c s₁ Bd hml0 hP hK
  obtain ⟨rfl, hZ, hh⟩ := hP
  have hx := Bd.exec
  have hby := Bd.bytes
  have hml : c.maxLocals = 4 := hml0
  have hown : s.vm.findClass "com/example/davka/davka/checks/LetterCodesNumberPinLaw" = some m.cls := findClass_of_methodNamed Bd.named
  have hnm := (name_of_methodNamed Bd.named Bd.method).1
  have X0 : Stand p l e ({ frames := 1, cells := 0, slots := 0, locals := 14 } : Room) s m #[(.ref x0), (.int x1), (.int x2), (.int x3)] below meth c s₁ [] 0 0 := Stand.of_body Bd
  have e0 : s₁.heap = h0 := by rw [← hh, Bd.state]; rfl
  show own_G p.tables e below (fun o U' => ∃ v L, o = .returned v ∧ QP (some (.int (F2 x1 x2 x3 f))) h0 v U'.heap L ∧ FrameEnd s o U' L ({ frames := 1, cells := 0, slots := 0, locals := 14 } : Room).cells ({ frames := 1, cells := 0, slots := 0, locals := 14 } : Room).slots) (s₁.setTop (entryFrame m #[(.ref x0), (.int x1), (.int x2), (.int x3)] 4))
  refine own_go (fun _ k => castTop (ef_2_RIII m x0 x1 x2 x3) k) ?_
  show own_G p.tables e below _ (s₁.setTop (mkF m 0 #[.val (.ref x0), .val (.int x1), .val (.int x2), .val (.int x3)] []))
  refine own_go (fun _ k => XS.iloadN X0.here hx rfl (hb hby d2_0) rfl k) ?_
  show own_G p.tables e below _ (s₁.setTop (mkF m 1 #[.val (.ref x0), .val (.int x1), .val (.int x2), .val (.int x3)] [(.int x1)]))
  refine own_go (fun _ k => XS.iloadN X0.here hx rfl (hb hby d2_1) rfl k) ?_
  show own_G p.tables e below _ (s₁.setTop (mkF m 2 #[.val (.ref x0), .val (.int x1), .val (.int x2), .val (.int x3)] [(.int x2), (.int x1)]))
  refine own_go (fun _ k => XS.iloadN X0.here hx rfl (hb hby d2_2) rfl k) ?_
  show own_G p.tables e below _ (s₁.setTop (mkF m 3 #[.val (.ref x0), .val (.int x1), .val (.int x2), .val (.int x3)] [(.int x3), (.int x2), (.int x1)]))
  obtain ⟨T9, X9, e9, st9⟩ := own_callP X0 hx hZ (y := (⟨"com/example/davka/davka/checks/LetterCodesNumberPinLaw", "inSlice", "(III)Z"⟩ : MethodName)) hown (hw _ (List.mem_of_getElem? (i := 9) rfl)) (hw _ (List.mem_of_getElem? (i := 10) rfl)) (hw _ (List.mem_of_getElem? (i := 3) rfl)) (hw _ (List.mem_of_getElem? (i := 11) rfl)) (by decide) (W := 0) (rm3 l Z a0 hw [] x1 x2 x3  h0 ) (by decide) (by decide) rfl rfl e0 (g := (mkF m 3 #[.val (.ref x0), .val (.int x1), .val (.int x2), .val (.int x3)] [(.int x3), (.int x2), (.int x1)])) rfl (by rw [hml]; rfl) (argsL := [(.int x1), (.int x2), (.int x3)]) (rest := []) (lenOf own_pd0 rfl) rfl rfl (by show 2 * 0 + _ ≤ _; exact Nat.le_of_eq rfl) (hb hby d2_3) (by decide) (by decide)
  refine own_go st9 ?_
  show own_G p.tables e below _ (T9.setTop (mkF m 6 #[.val (.ref x0), .val (.int x1), .val (.int x2), .val (.int x3)] [(.int (F3 x1 x2 x3))]))
  by_cases hc6_10 : (F3 x1 x2 x3) = (0 : Int32)
  · refine own_go (fun _ k => XS.ifYes X9.here hx rfl (pc0 := 6) (pc' := 22) rfl (hb hby d2_6) rfl (((if0 _ _).trans (teq hc6_10).1)) (by decide) (by decide) k) ?_
    show own_G p.tables e below _ (T9.setTop (mkF m 22 #[.val (.ref x0), .val (.int x1), .val (.int x2), .val (.int x3)] []))
    refine own_go (fun _ k => XS.iconst X9.here hx rfl (hb hby d2_22) k) ?_
    show own_G p.tables e below _ (T9.setTop (mkF m 23 #[.val (.ref x0), .val (.int x1), .val (.int x2), .val (.int x3)] [(.int (0 : Int32))]))
    exact own_end X9 Bd.notSynchronized (v := some (.int (nar .boolean (0 : Int32)))) (fun h => by rw [Bd.returns] at h; cases h) (Q := QP (some (.int (F2 x1 x2 x3 f))) h0) ⟨by unfold F2; simp only [if_pos hc6_10]; try rfl, rfl, e9⟩ (fun fs hr => retN X9 hx (t := .boolean) Bd.returns (by simp) (hb hby d2_23) hr) (by decide) (by decide)
  · refine own_go (fun _ k => XS.ifNo X9.here hx rfl (hb hby d2_6) rfl (((if0 _ _).trans (feq hc6_10).1)) k) ?_
    show own_G p.tables e below _ (T9.setTop (mkF m 9 #[.val (.ref x0), .val (.int x1), .val (.int x2), .val (.int x3)] []))
    refine own_go (fun _ k => XS.aloadN X9.here hx rfl (hb hby d2_9) rfl rfl k) ?_
    show own_G p.tables e below _ (T9.setTop (mkF m 10 #[.val (.ref x0), .val (.int x1), .val (.int x2), .val (.int x3)] [(.ref x0)]))
    refine own_go (fun _ k => XS.iloadN X9.here hx rfl (hb hby d2_10) rfl k) ?_
    show own_G p.tables e below _ (T9.setTop (mkF m 11 #[.val (.ref x0), .val (.int x1), .val (.int x2), .val (.int x3)] [(.int x1), (.ref x0)]))
    obtain ⟨cl11, Ar11, hin11, hat11⟩ := own_rd V (own_in1 hf hc6_10) (own_in2 ht hc6_10)
    refine own_go (fun _ k => X9.caload hx (j := x1) (v := (.int (f (x1).toNatClampNeg))) (by rw [e9]; exact Ar11.1) (State.isArrayOf_alike hZ.alike Ar11.2.1) Ar11.2.2 hin11 hat11 (g := (mkF m 11 #[.val (.ref x0), .val (.int x1), .val (.int x2), .val (.int x3)] [(.int x1), (.ref x0)])) rfl rfl (hb hby d2_11) _ k) ?_
    show own_G p.tables e below _ (T9.setTop (mkF m 12 #[.val (.ref x0), .val (.int x1), .val (.int x2), .val (.int x3)] [(.int (f (x1).toNatClampNeg))]))
    obtain ⟨T12, X12, e12, st12⟩ := own_callP X9 hx hZ (y := (⟨"com/example/davka/davka/checks/LetterCodesNumberPinLaw", "isCap", "(C)Z"⟩ : MethodName)) hown (hw _ (List.mem_of_getElem? (i := 12) rfl)) (hw _ (List.mem_of_getElem? (i := 13) rfl)) (hw _ (List.mem_of_getElem? (i := 3) rfl)) (hw _ (List.mem_of_getElem? (i := 14) rfl)) (by decide) (W := 0) (rm4 l Z a0 hw [] (f (x1).toNatClampNeg)  h0 ) (by decide) (by decide) rfl rfl e9 (g := (mkF m 12 #[.val (.ref x0), .val (.int x1), .val (.int x2), .val (.int x3)] [(.int (f (x1).toNatClampNeg))])) rfl (by rw [hml]; rfl) (argsL := [(.int (f (x1).toNatClampNeg))]) (rest := []) (lenOf own_pd1 rfl) rfl rfl (by show 2 * 0 + _ ≤ _; exact Nat.le_of_eq rfl) (hb hby d2_12) (by decide) (by decide)
    refine own_go st12 ?_
    show own_G p.tables e below _ (T12.setTop (mkF m 15 #[.val (.ref x0), .val (.int x1), .val (.int x2), .val (.int x3)] [(.int (F4 (f (x1).toNatClampNeg)))]))
    by_cases hc15_13 : (F4 (f (x1).toNatClampNeg)) = (0 : Int32)
    · refine own_go (fun _ k => XS.ifNo X12.here hx rfl (hb hby d2_15) rfl (((if0 _ _).trans (teq hc15_13).2)) k) ?_
      show own_G p.tables e below _ (T12.setTop (mkF m 18 #[.val (.ref x0), .val (.int x1), .val (.int x2), .val (.int x3)] []))
      refine own_go (fun _ k => XS.iconst X12.here hx rfl (hb hby d2_18) k) ?_
      show own_G p.tables e below _ (T12.setTop (mkF m 19 #[.val (.ref x0), .val (.int x1), .val (.int x2), .val (.int x3)] [(.int (1 : Int32))]))
      refine own_go (fun _ k => XS.goto X12.here hx rfl (pc0 := 19) (pc' := 23) rfl (hb hby d2_19) (by decide) (by decide) k) ?_
      show own_G p.tables e below _ (T12.setTop (mkF m 23 #[.val (.ref x0), .val (.int x1), .val (.int x2), .val (.int x3)] [(.int (1 : Int32))]))
      exact own_end X12 Bd.notSynchronized (v := some (.int (nar .boolean (1 : Int32)))) (fun h => by rw [Bd.returns] at h; cases h) (Q := QP (some (.int (F2 x1 x2 x3 f))) h0) ⟨by unfold F2; simp only [if_neg hc6_10, if_pos hc15_13]; try rfl, rfl, e12⟩ (fun fs hr => retN X12 hx (t := .boolean) Bd.returns (by simp) (hb hby d2_23) hr) (by decide) (by decide)
    · refine own_go (fun _ k => XS.ifYes X12.here hx rfl (pc0 := 15) (pc' := 22) rfl (hb hby d2_15) rfl (((if0 _ _).trans (feq hc15_13).2)) (by decide) (by decide) k) ?_
      show own_G p.tables e below _ (T12.setTop (mkF m 22 #[.val (.ref x0), .val (.int x1), .val (.int x2), .val (.int x3)] []))
      refine own_go (fun _ k => XS.iconst X12.here hx rfl (hb hby d2_22) k) ?_
      show own_G p.tables e below _ (T12.setTop (mkF m 23 #[.val (.ref x0), .val (.int x1), .val (.int x2), .val (.int x3)] [(.int (0 : Int32))]))
      exact own_end X12 Bd.notSynchronized (v := some (.int (nar .boolean (0 : Int32)))) (fun h => by rw [Bd.returns] at h; cases h) (Q := QP (some (.int (F2 x1 x2 x3 f))) h0) ⟨by unfold F2; simp only [if_neg hc6_10, if_neg hc15_13]; try rfl, rfl, e12⟩ (fun fs hr => retN X12 hx (t := .boolean) Bd.returns (by simp) (hb hby d2_23) hr) (by decide) (by decide)
theorem own_pd2 : parseMethodDescriptor "(II)I" = some ⟨[.int, .int], some .int⟩ := by decide +kernel
def F5 (x1 : Int32) (x2 : Int32) (x3 : Int32) (f : Nat → Int32) : Int32 :=
  if (F3 x1 x2 x3) = (0 : Int32) then
    (0 : Int32)
  else
    (((f (x1).toNatClampNeg) - (65 : Int32)) * (F6 x1 x3))
theorem d5_0 : decode method_6_code 0 = .ok (.iload_n 1, 1) := by decide +kernel
theorem d5_1 : decode method_6_code 1 = .ok (.iload_n 2, 1) := by decide +kernel
theorem d5_2 : decode method_6_code 2 = .ok (.iload_n 3, 1) := by decide +kernel
theorem d5_3 : decode method_6_code 3 = .ok (.invokestatic 7, 3) := by decide +kernel
theorem d5_6 : decode method_6_code 6 = .ok (.ifCond .ne 5, 3) := by decide +kernel
theorem d5_9 : decode method_6_code 9 = .ok (.iconst 0, 1) := by decide +kernel
theorem d5_10 : decode method_6_code 10 = .ok (.ireturn, 1) := by decide +kernel
theorem d5_11 : decode method_6_code 11 = .ok (.aload_n 0, 1) := by decide +kernel
theorem d5_12 : decode method_6_code 12 = .ok (.iload_n 1, 1) := by decide +kernel
theorem d5_13 : decode method_6_code 13 = .ok (.caload, 1) := by decide +kernel
theorem d5_14 : decode method_6_code 14 = .ok (.bipush 65, 2) := by decide +kernel
theorem d5_16 : decode method_6_code 16 = .ok (.isub, 1) := by decide +kernel
theorem d5_17 : decode method_6_code 17 = .ok (.iload_n 1, 1) := by decide +kernel
theorem d5_18 : decode method_6_code 18 = .ok (.iload_n 3, 1) := by decide +kernel
theorem d5_19 : decode method_6_code 19 = .ok (.invokestatic 13, 3) := by decide +kernel
theorem d5_22 : decode method_6_code 22 = .ok (.imul, 1) := by decide +kernel
theorem d5_23 : decode method_6_code 23 = .ok (.ireturn, 1) := by decide +kernel
theorem ef_5_RIII (m : MethodId) (x0 : Addr) (x1 : Int32) (x2 : Int32) (x3 : Int32) : entryFrame m #[(.ref x0), (.int x1), (.int x2), (.int x3)] 4 = mkF m 0 #[.val (.ref x0), .val (.int x1), .val (.int x2), .val (.int x3)] [] := by
  first | (simp [entryFrame, mkF, argsToLocals, Value.category]; done) | rfl
set_option maxRecDepth 65536 in
set_option maxHeartbeats 40000000 in
theorem rm5 (l : Launch) (Z : State) (a0 : Array Value) (hw : ∀ d ∈ tables_1, d.before a0 Z = true) (ws : List Jvm.Cond) (x0 : Addr) (x1 : Int32) (x2 : Int32) (x3 : Int32) (k : ClassId) (f : Nat → Int32) (h0 : Heap) (V : Arv Z h0 x0 k .char (4 : Int32) [.int (f 0), .int (f 1), .int (f 2), .int (f 3)] (.int (0 : Int32))) (hf : ¬ x2 < 0) (ht : ¬ (4 : Int32) < x3) :
    MetFree l (⟨"com/example/davka/davka/checks/LetterCodesNumberPinLaw", "term", "([CIII)I"⟩ : MethodName) (head1 (Jvm.Cond.code (⟨"com/example/davka/davka/checks/LetterCodesNumberPinLaw", "term", "([CIII)I"⟩ : MethodName) method_6_code 4 (some .int) :: ws) ({ frames := 1, cells := 0, slots := 0, locals := 15 } : Room)) (fun a U => a = #[(.ref x0), (.int x1), (.int x2), (.int x3)] ∧ Z.Warmed39 U.vm ∧ U.heap = h0) (fun _ _ _ _ _ => True) (fun _ U o U' => ∃ v L, o = .returned v ∧ QP (some (.int (F5 x1 x2 x3 f))) h0 v U'.heap L ∧ FrameEnd U o U' L ({ frames := 1, cells := 0, slots := 0, locals := 15 } : Room).cells ({ frames := 1, cells := 0, slots := 0, locals := 15 } : Room).slots) := by
  refine MetFree.of_bodySF (plainFor_of_name own_pn0) hisR ?_
  intro p e s m args below meth c s₁ Bd hml0 hP hK
  obtain ⟨rfl, hZ, hh⟩ := hP
  have hx := Bd.exec
  have hby := Bd.bytes
  have hml : c.maxLocals = 4 := hml0
  have hown : s.vm.findClass "com/example/davka/davka/checks/LetterCodesNumberPinLaw" = some m.cls := findClass_of_methodNamed Bd.named
  have hnm := (name_of_methodNamed Bd.named Bd.method).1
  have X0 : Stand p l e ({ frames := 1, cells := 0, slots := 0, locals := 15 } : Room) s m #[(.ref x0), (.int x1), (.int x2), (.int x3)] below meth c s₁ [] 0 0 := Stand.of_body Bd
  have e0 : s₁.heap = h0 := by rw [← hh, Bd.state]; rfl
  show own_G p.tables e below (fun o U' => ∃ v L, o = .returned v ∧ QP (some (.int (F5 x1 x2 x3 f))) h0 v U'.heap L ∧ FrameEnd s o U' L ({ frames := 1, cells := 0, slots := 0, locals := 15 } : Room).cells ({ frames := 1, cells := 0, slots := 0, locals := 15 } : Room).slots) (s₁.setTop (entryFrame m #[(.ref x0), (.int x1), (.int x2), (.int x3)] 4))
  refine own_go (fun _ k => castTop (ef_5_RIII m x0 x1 x2 x3) k) ?_
  show own_G p.tables e below _ (s₁.setTop (mkF m 0 #[.val (.ref x0), .val (.int x1), .val (.int x2), .val (.int x3)] []))
  refine own_go (fun _ k => XS.iloadN X0.here hx rfl (hb hby d5_0) rfl k) ?_
  show own_G p.tables e below _ (s₁.setTop (mkF m 1 #[.val (.ref x0), .val (.int x1), .val (.int x2), .val (.int x3)] [(.int x1)]))
  refine own_go (fun _ k => XS.iloadN X0.here hx rfl (hb hby d5_1) rfl k) ?_
  show own_G p.tables e below _ (s₁.setTop (mkF m 2 #[.val (.ref x0), .val (.int x1), .val (.int x2), .val (.int x3)] [(.int x2), (.int x1)]))
  refine own_go (fun _ k => XS.iloadN X0.here hx rfl (hb hby d5_2) rfl k) ?_
  show own_G p.tables e below _ (s₁.setTop (mkF m 3 #[.val (.ref x0), .val (.int x1), .val (.int x2), .val (.int x3)] [(.int x3), (.int x2), (.int x1)]))
  obtain ⟨T14, X14, e14, st14⟩ := own_callP X0 hx hZ (y := (⟨"com/example/davka/davka/checks/LetterCodesNumberPinLaw", "inSlice", "(III)Z"⟩ : MethodName)) hown (hw _ (List.mem_of_getElem? (i := 9) rfl)) (hw _ (List.mem_of_getElem? (i := 10) rfl)) (hw _ (List.mem_of_getElem? (i := 3) rfl)) (hw _ (List.mem_of_getElem? (i := 11) rfl)) (by decide) (W := 0) (rm3 l Z a0 hw [] x1 x2 x3  h0 ) (by decide) (by decide) rfl rfl e0 (g := (mkF m 3 #[.val (.ref x0), .val (.int x1), .val (.int x2), .val (.int x3)] [(.int x3), (.int x2), (.int x1)])) rfl (by rw [hml]; rfl) (argsL := [(.int x1), (.int x2), (.int x3)]) (rest := []) (lenOf own_pd0 rfl) rfl rfl (by show 2 * 0 + _ ≤ _; exact Nat.le_of_eq rfl) (hb hby d5_3) (by decide) (by decide)
  refine own_go st14 ?_
  show own_G p.tables e below _ (T14.setTop (mkF m 6 #[.val (.ref x0), .val (.int x1), .val (.int x2), .val (.int x3)] [(.int (F3 x1 x2 x3))]))
  by_cases hc6_15 : (F3 x1 x2 x3) = (0 : Int32)
  · refine own_go (fun _ k => XS.ifNo X14.here hx rfl (hb hby d5_6) rfl (((if0 _ _).trans (teq hc6_15).2)) k) ?_
    show own_G p.tables e below _ (T14.setTop (mkF m 9 #[.val (.ref x0), .val (.int x1), .val (.int x2), .val (.int x3)] []))
    refine own_go (fun _ k => XS.iconst X14.here hx rfl (hb hby d5_9) k) ?_
    show own_G p.tables e below _ (T14.setTop (mkF m 10 #[.val (.ref x0), .val (.int x1), .val (.int x2), .val (.int x3)] [(.int (0 : Int32))]))
    exact own_end X14 Bd.notSynchronized (v := some (.int (0 : Int32))) (fun h => by rw [Bd.returns] at h; cases h) (Q := QP (some (.int (F5 x1 x2 x3 f))) h0) ⟨by unfold F5; simp only [if_pos hc6_15]; try rfl, rfl, e14⟩ (fun fs hr => retI X14 hx Bd.returns (hb hby d5_10) hr) (by decide) (by decide)
  · refine own_go (fun _ k => XS.ifYes X14.here hx rfl (pc0 := 6) (pc' := 11) rfl (hb hby d5_6) rfl (((if0 _ _).trans (feq hc6_15).2)) (by decide) (by decide) k) ?_
    show own_G p.tables e below _ (T14.setTop (mkF m 11 #[.val (.ref x0), .val (.int x1), .val (.int x2), .val (.int x3)] []))
    refine own_go (fun _ k => XS.aloadN X14.here hx rfl (hb hby d5_11) rfl rfl k) ?_
    show own_G p.tables e below _ (T14.setTop (mkF m 12 #[.val (.ref x0), .val (.int x1), .val (.int x2), .val (.int x3)] [(.ref x0)]))
    refine own_go (fun _ k => XS.iloadN X14.here hx rfl (hb hby d5_12) rfl k) ?_
    show own_G p.tables e below _ (T14.setTop (mkF m 13 #[.val (.ref x0), .val (.int x1), .val (.int x2), .val (.int x3)] [(.int x1), (.ref x0)]))
    obtain ⟨cl16, Ar16, hin16, hat16⟩ := own_rd V (own_in1 hf hc6_15) (own_in2 ht hc6_15)
    refine own_go (fun _ k => X14.caload hx (j := x1) (v := (.int (f (x1).toNatClampNeg))) (by rw [e14]; exact Ar16.1) (State.isArrayOf_alike hZ.alike Ar16.2.1) Ar16.2.2 hin16 hat16 (g := (mkF m 13 #[.val (.ref x0), .val (.int x1), .val (.int x2), .val (.int x3)] [(.int x1), (.ref x0)])) rfl rfl (hb hby d5_13) _ k) ?_
    show own_G p.tables e below _ (T14.setTop (mkF m 14 #[.val (.ref x0), .val (.int x1), .val (.int x2), .val (.int x3)] [(.int (f (x1).toNatClampNeg))]))
    refine own_go (fun _ k => XS.bipush X14.here hx rfl (hb hby d5_14) k) ?_
    show own_G p.tables e below _ (T14.setTop (mkF m 16 #[.val (.ref x0), .val (.int x1), .val (.int x2), .val (.int x3)] [(.int (65 : Int32)), (.int (f (x1).toNatClampNeg))]))
    refine own_go (fun _ k => XS.isub X14.here hx rfl (hb hby d5_16) rfl k) ?_
    show own_G p.tables e below _ (T14.setTop (mkF m 17 #[.val (.ref x0), .val (.int x1), .val (.int x2), .val (.int x3)] [(.int ((f (x1).toNatClampNeg) - (65 : Int32)))]))
    refine own_go (fun _ k => XS.iloadN X14.here hx rfl (hb hby d5_17) rfl k) ?_
    show own_G p.tables e below _ (T14.setTop (mkF m 18 #[.val (.ref x0), .val (.int x1), .val (.int x2), .val (.int x3)] [(.int x1), (.int ((f (x1).toNatClampNeg) - (65 : Int32)))]))
    refine own_go (fun _ k => XS.iloadN X14.here hx rfl (hb hby d5_18) rfl k) ?_
    show own_G p.tables e below _ (T14.setTop (mkF m 19 #[.val (.ref x0), .val (.int x1), .val (.int x2), .val (.int x3)] [(.int x3), (.int x1), (.int ((f (x1).toNatClampNeg) - (65 : Int32)))]))
    obtain ⟨T17, X17, e17, st17⟩ := own_callP X14 hx hZ (y := (⟨"com/example/davka/davka/checks/LetterCodesNumberPinLaw", "weight", "(II)I"⟩ : MethodName)) hown (hw _ (List.mem_of_getElem? (i := 18) rfl)) (hw _ (List.mem_of_getElem? (i := 19) rfl)) (hw _ (List.mem_of_getElem? (i := 3) rfl)) (hw _ (List.mem_of_getElem? (i := 20) rfl)) (by decide) (W := 1) (rm6 l Z a0 hw [] x1 x3  h0 ) (by decide) (by decide) rfl rfl e14 (g := (mkF m 19 #[.val (.ref x0), .val (.int x1), .val (.int x2), .val (.int x3)] [(.int x3), (.int x1), (.int ((f (x1).toNatClampNeg) - (65 : Int32)))])) rfl (by rw [hml]; rfl) (argsL := [(.int x1), (.int x3)]) (rest := [(.int ((f (x1).toNatClampNeg) - (65 : Int32)))]) (lenOf own_pd2 rfl) rfl rfl (by show 2 * 0 + _ ≤ _; exact Nat.le_of_eq rfl) (hb hby d5_19) (by decide) (by decide)
    refine own_go st17 ?_
    show own_G p.tables e below _ (T17.setTop (mkF m 22 #[.val (.ref x0), .val (.int x1), .val (.int x2), .val (.int x3)] [(.int (F6 x1 x3)), (.int ((f (x1).toNatClampNeg) - (65 : Int32)))]))
    refine own_go (fun _ k => XS.imul X17.here hx rfl (hb hby d5_22) rfl k) ?_
    show own_G p.tables e below _ (T17.setTop (mkF m 23 #[.val (.ref x0), .val (.int x1), .val (.int x2), .val (.int x3)] [(.int (((f (x1).toNatClampNeg) - (65 : Int32)) * (F6 x1 x3)))]))
    exact own_end X17 Bd.notSynchronized (v := some (.int (((f (x1).toNatClampNeg) - (65 : Int32)) * (F6 x1 x3)))) (fun h => by rw [Bd.returns] at h; cases h) (Q := QP (some (.int (F5 x1 x2 x3 f))) h0) ⟨by unfold F5; simp only [if_neg hc6_15]; try rfl, rfl, e17⟩ (fun fs hr => retI X17 hx Bd.returns (hb hby d5_23) hr) (by decide) (by decide)
def F7 (x1 : Int32) (x2 : Int32) (f : Nat → Int32) : Int32 :=
  if x1 < x2 then
    if (f (x1).toNatClampNeg) < (65 : Int32) then
      (-1 : Int32)
    else
      if (90 : Int32) < (f (x1).toNatClampNeg) then
        (-1 : Int32)
      else
        if (x1 + (1 : Int32)) < x2 then
          if (f ((x1 + (1 : Int32))).toNatClampNeg) < (65 : Int32) then
            (-1 : Int32)
          else
            if (90 : Int32) < (f ((x1 + (1 : Int32))).toNatClampNeg) then
              (-1 : Int32)
            else
              if ((x1 + (1 : Int32)) + (1 : Int32)) < x2 then
                if (f (((x1 + (1 : Int32)) + (1 : Int32))).toNatClampNeg) < (65 : Int32) then
                  (-1 : Int32)
                else
                  if (90 : Int32) < (f (((x1 + (1 : Int32)) + (1 : Int32))).toNatClampNeg) then
                    (-1 : Int32)
                  else
                    if (((x1 + (1 : Int32)) + (1 : Int32)) + (1 : Int32)) < x2 then
                      if (f ((((x1 + (1 : Int32)) + (1 : Int32)) + (1 : Int32))).toNatClampNeg) < (65 : Int32) then
                        (-1 : Int32)
                      else
                        if (90 : Int32) < (f ((((x1 + (1 : Int32)) + (1 : Int32)) + (1 : Int32))).toNatClampNeg) then
                          (-1 : Int32)
                        else
                          (((((((((((((0 : Int32) * (26 : Int32)) + (f (x1).toNatClampNeg)) - (65 : Int32)) * (26 : Int32)) + (f ((x1 + (1 : Int32))).toNatClampNeg)) - (65 : Int32)) * (26 : Int32)) + (f (((x1 + (1 : Int32)) + (1 : Int32))).toNatClampNeg)) - (65 : Int32)) * (26 : Int32)) + (f ((((x1 + (1 : Int32)) + (1 : Int32)) + (1 : Int32))).toNatClampNeg)) - (65 : Int32))
                    else
                      ((((((((((0 : Int32) * (26 : Int32)) + (f (x1).toNatClampNeg)) - (65 : Int32)) * (26 : Int32)) + (f ((x1 + (1 : Int32))).toNatClampNeg)) - (65 : Int32)) * (26 : Int32)) + (f (((x1 + (1 : Int32)) + (1 : Int32))).toNatClampNeg)) - (65 : Int32))
              else
                (((((((0 : Int32) * (26 : Int32)) + (f (x1).toNatClampNeg)) - (65 : Int32)) * (26 : Int32)) + (f ((x1 + (1 : Int32))).toNatClampNeg)) - (65 : Int32))
        else
          ((((0 : Int32) * (26 : Int32)) + (f (x1).toNatClampNeg)) - (65 : Int32))
  else
    (0 : Int32)
theorem d7_0 : decode prog_47_method_3_code 0 = .ok (.iconst 0, 1) := by decide +kernel
theorem d7_1 : decode prog_47_method_3_code 1 = .ok (.istore_n 3, 1) := by decide +kernel
theorem d7_2 : decode prog_47_method_3_code 2 = .ok (.iload_n 1, 1) := by decide +kernel
theorem d7_3 : decode prog_47_method_3_code 3 = .ok (.istore 4, 2) := by decide +kernel
theorem d7_5 : decode prog_47_method_3_code 5 = .ok (.iload 4, 2) := by decide +kernel
theorem d7_7 : decode prog_47_method_3_code 7 = .ok (.iload_n 2, 1) := by decide +kernel
theorem d7_8 : decode prog_47_method_3_code 8 = .ok (.if_icmp .ge 42, 3) := by decide +kernel
theorem d7_11 : decode prog_47_method_3_code 11 = .ok (.aload_n 0, 1) := by decide +kernel
theorem d7_12 : decode prog_47_method_3_code 12 = .ok (.iload 4, 2) := by decide +kernel
theorem d7_14 : decode prog_47_method_3_code 14 = .ok (.caload, 1) := by decide +kernel
theorem d7_15 : decode prog_47_method_3_code 15 = .ok (.bipush 65, 2) := by decide +kernel
theorem d7_17 : decode prog_47_method_3_code 17 = .ok (.if_icmp .lt 12, 3) := by decide +kernel
theorem d7_20 : decode prog_47_method_3_code 20 = .ok (.aload_n 0, 1) := by decide +kernel
theorem d7_21 : decode prog_47_method_3_code 21 = .ok (.iload 4, 2) := by decide +kernel
theorem d7_23 : decode prog_47_method_3_code 23 = .ok (.caload, 1) := by decide +kernel
theorem d7_24 : decode prog_47_method_3_code 24 = .ok (.bipush 90, 2) := by decide +kernel
theorem d7_26 : decode prog_47_method_3_code 26 = .ok (.if_icmp .le 5, 3) := by decide +kernel
theorem d7_29 : decode prog_47_method_3_code 29 = .ok (.iconst (-1), 1) := by decide +kernel
theorem d7_30 : decode prog_47_method_3_code 30 = .ok (.ireturn, 1) := by decide +kernel
theorem d7_31 : decode prog_47_method_3_code 31 = .ok (.iload_n 3, 1) := by decide +kernel
theorem d7_32 : decode prog_47_method_3_code 32 = .ok (.bipush 26, 2) := by decide +kernel
theorem d7_34 : decode prog_47_method_3_code 34 = .ok (.imul, 1) := by decide +kernel
theorem d7_35 : decode prog_47_method_3_code 35 = .ok (.aload_n 0, 1) := by decide +kernel
theorem d7_36 : decode prog_47_method_3_code 36 = .ok (.iload 4, 2) := by decide +kernel
theorem d7_38 : decode prog_47_method_3_code 38 = .ok (.caload, 1) := by decide +kernel
theorem d7_39 : decode prog_47_method_3_code 39 = .ok (.iadd, 1) := by decide +kernel
theorem d7_40 : decode prog_47_method_3_code 40 = .ok (.bipush 65, 2) := by decide +kernel
theorem d7_42 : decode prog_47_method_3_code 42 = .ok (.isub, 1) := by decide +kernel
theorem d7_43 : decode prog_47_method_3_code 43 = .ok (.istore_n 3, 1) := by decide +kernel
theorem d7_44 : decode prog_47_method_3_code 44 = .ok (.iinc 4 1, 3) := by decide +kernel
theorem d7_47 : decode prog_47_method_3_code 47 = .ok (.goto (-42), 3) := by decide +kernel
theorem d7_50 : decode prog_47_method_3_code 50 = .ok (.iload_n 3, 1) := by decide +kernel
theorem d7_51 : decode prog_47_method_3_code 51 = .ok (.ireturn, 1) := by decide +kernel
theorem own_pn1 : plainName "com/example/davka/davka/checks/LetterCodes" = true := by first | (simp [plainName, overriddenIn]; done) | decide +kernel
theorem ef_7_RII (m : MethodId) (x0 : Addr) (x1 : Int32) (x2 : Int32) : entryFrame m #[(.ref x0), (.int x1), (.int x2)] 5 = mkF m 0 #[.val (.ref x0), .val (.int x1), .val (.int x2), .unset, .unset] [] := by
  first | (simp [entryFrame, mkF, argsToLocals, Value.category]; done) | rfl
set_option maxRecDepth 65536 in
set_option maxHeartbeats 40000000 in
theorem rm7 (l : Launch) (Z : State) (a0 : Array Value) (hw : ∀ d ∈ tables_1, d.before a0 Z = true) (ws : List Jvm.Cond) (x0 : Addr) (x1 : Int32) (x2 : Int32) (k : ClassId) (f : Nat → Int32) (h0 : Heap) (V : Arv Z h0 x0 k .char (4 : Int32) [.int (f 0), .int (f 1), .int (f 2), .int (f 3)] (.int (0 : Int32))) (hf : ¬ x1 < 0) (ht : ¬ (4 : Int32) < x2) :
    MetFree l (⟨"com/example/davka/davka/checks/LetterCodes", "number", "([CII)I"⟩ : MethodName) (head1 (Jvm.Cond.code (⟨"com/example/davka/davka/checks/LetterCodes", "number", "([CII)I"⟩ : MethodName) prog_47_method_3_code 5 (some .int) :: ws) ({ frames := 0, cells := 0, slots := 0, locals := 0 } : Room)) (fun a U => a = #[(.ref x0), (.int x1), (.int x2)] ∧ Z.Warmed39 U.vm ∧ U.heap = h0) (fun _ _ _ _ _ => True) (fun _ U o U' => ∃ v L, o = .returned v ∧ QP (some (.int (F7 x1 x2 f))) h0 v U'.heap L ∧ FrameEnd U o U' L ({ frames := 0, cells := 0, slots := 0, locals := 0 } : Room).cells ({ frames := 0, cells := 0, slots := 0, locals := 0 } : Room).slots) := by
  refine MetFree.of_bodySF (plainFor_of_name own_pn1) hisR ?_
  intro p e s m args below meth c s₁ Bd hml0 hP hK
  obtain ⟨rfl, hZ, hh⟩ := hP
  have hx := Bd.exec
  have hby := Bd.bytes
  have hml : c.maxLocals = 5 := hml0
  have hown : s.vm.findClass "com/example/davka/davka/checks/LetterCodes" = some m.cls := findClass_of_methodNamed Bd.named
  have hnm := (name_of_methodNamed Bd.named Bd.method).1
  have X0 : Stand p l e ({ frames := 0, cells := 0, slots := 0, locals := 0 } : Room) s m #[(.ref x0), (.int x1), (.int x2)] below meth c s₁ [] 0 0 := Stand.of_body Bd
  have e0 : s₁.heap = h0 := by rw [← hh, Bd.state]; rfl
  show own_G p.tables e below (fun o U' => ∃ v L, o = .returned v ∧ QP (some (.int (F7 x1 x2 f))) h0 v U'.heap L ∧ FrameEnd s o U' L ({ frames := 0, cells := 0, slots := 0, locals := 0 } : Room).cells ({ frames := 0, cells := 0, slots := 0, locals := 0 } : Room).slots) (s₁.setTop (entryFrame m #[(.ref x0), (.int x1), (.int x2)] 5))
  refine own_go (fun _ k => castTop (ef_7_RII m x0 x1 x2) k) ?_
  show own_G p.tables e below _ (s₁.setTop (mkF m 0 #[.val (.ref x0), .val (.int x1), .val (.int x2), .unset, .unset] []))
  refine own_go (fun _ k => XS.iconst X0.here hx rfl (hb hby d7_0) k) ?_
  show own_G p.tables e below _ (s₁.setTop (mkF m 1 #[.val (.ref x0), .val (.int x1), .val (.int x2), .unset, .unset] [(.int (0 : Int32))]))
  refine own_go (fun _ k => XS.istoreN X0.here hx rfl (hb hby d7_1) rfl (l' := #[.val (.ref x0), .val (.int x1), .val (.int x2), .val (.int (0 : Int32)), .unset]) rfl k) ?_
  show own_G p.tables e below _ (s₁.setTop (mkF m 2 #[.val (.ref x0), .val (.int x1), .val (.int x2), .val (.int (0 : Int32)), .unset] []))
  refine own_go (fun _ k => XS.iloadN X0.here hx rfl (hb hby d7_2) rfl k) ?_
  show own_G p.tables e below _ (s₁.setTop (mkF m 3 #[.val (.ref x0), .val (.int x1), .val (.int x2), .val (.int (0 : Int32)), .unset] [(.int x1)]))
  refine own_go (fun _ k => XS.istore X0.here hx rfl (hb hby d7_3) rfl (l' := #[.val (.ref x0), .val (.int x1), .val (.int x2), .val (.int (0 : Int32)), .val (.int x1)]) rfl k) ?_
  show own_G p.tables e below _ (s₁.setTop (mkF m 5 #[.val (.ref x0), .val (.int x1), .val (.int x2), .val (.int (0 : Int32)), .val (.int x1)] []))
  refine own_go (fun _ k => XS.iload X0.here hx rfl (hb hby d7_5) rfl k) ?_
  show own_G p.tables e below _ (s₁.setTop (mkF m 7 #[.val (.ref x0), .val (.int x1), .val (.int x2), .val (.int (0 : Int32)), .val (.int x1)] [(.int x1)]))
  refine own_go (fun _ k => XS.iloadN X0.here hx rfl (hb hby d7_7) rfl k) ?_
  show own_G p.tables e below _ (s₁.setTop (mkF m 8 #[.val (.ref x0), .val (.int x1), .val (.int x2), .val (.int (0 : Int32)), .val (.int x1)] [(.int x2), (.int x1)]))
  by_cases hc8_18 : x1 < x2
  · refine own_go (fun _ k => XS.icmpNo X0.here hx rfl (hb hby d7_8) rfl ((tlt hc8_18).2.1) k) ?_
    show own_G p.tables e below _ (s₁.setTop (mkF m 11 #[.val (.ref x0), .val (.int x1), .val (.int x2), .val (.int (0 : Int32)), .val (.int x1)] []))
    refine own_go (fun _ k => XS.aloadN X0.here hx rfl (hb hby d7_11) rfl rfl k) ?_
    show own_G p.tables e below _ (s₁.setTop (mkF m 12 #[.val (.ref x0), .val (.int x1), .val (.int x2), .val (.int (0 : Int32)), .val (.int x1)] [(.ref x0)]))
    refine own_go (fun _ k => XS.iload X0.here hx rfl (hb hby d7_12) rfl k) ?_
    show own_G p.tables e below _ (s₁.setTop (mkF m 14 #[.val (.ref x0), .val (.int x1), .val (.int x2), .val (.int (0 : Int32)), .val (.int x1)] [(.int x1), (.ref x0)]))
    obtain ⟨cl19, Ar19, hin19, hat19⟩ := own_rd V hf (own_hi hc8_18 ht)
    refine own_go (fun _ k => X0.caload hx (j := x1) (v := (.int (f (x1).toNatClampNeg))) (by rw [e0]; exact Ar19.1) (State.isArrayOf_alike hZ.alike Ar19.2.1) Ar19.2.2 hin19 hat19 (g := (mkF m 14 #[.val (.ref x0), .val (.int x1), .val (.int x2), .val (.int (0 : Int32)), .val (.int x1)] [(.int x1), (.ref x0)])) rfl rfl (hb hby d7_14) _ k) ?_
    show own_G p.tables e below _ (s₁.setTop (mkF m 15 #[.val (.ref x0), .val (.int x1), .val (.int x2), .val (.int (0 : Int32)), .val (.int x1)] [(.int (f (x1).toNatClampNeg))]))
    refine own_go (fun _ k => XS.bipush X0.here hx rfl (hb hby d7_15) k) ?_
    show own_G p.tables e below _ (s₁.setTop (mkF m 17 #[.val (.ref x0), .val (.int x1), .val (.int x2), .val (.int (0 : Int32)), .val (.int x1)] [(.int (65 : Int32)), (.int (f (x1).toNatClampNeg))]))
    by_cases hc17_20 : (f (x1).toNatClampNeg) < (65 : Int32)
    · refine own_go (fun _ k => XS.icmpYes X0.here hx rfl (pc0 := 17) (pc' := 29) rfl (hb hby d7_17) rfl ((tlt hc17_20).1) (by decide) (by decide) k) ?_
      show own_G p.tables e below _ (s₁.setTop (mkF m 29 #[.val (.ref x0), .val (.int x1), .val (.int x2), .val (.int (0 : Int32)), .val (.int x1)] []))
      refine own_go (fun _ k => XS.iconst X0.here hx rfl (hb hby d7_29) k) ?_
      show own_G p.tables e below _ (s₁.setTop (mkF m 30 #[.val (.ref x0), .val (.int x1), .val (.int x2), .val (.int (0 : Int32)), .val (.int x1)] [(.int (-1 : Int32))]))
      exact own_end X0 Bd.notSynchronized (v := some (.int (-1 : Int32))) (fun h => by rw [Bd.returns] at h; cases h) (Q := QP (some (.int (F7 x1 x2 f))) h0) ⟨by unfold F7; simp only [if_pos hc8_18, if_pos hc17_20]; try rfl, rfl, e0⟩ (fun fs hr => retI X0 hx Bd.returns (hb hby d7_30) hr) (by decide) (by decide)
    · refine own_go (fun _ k => XS.icmpNo X0.here hx rfl (hb hby d7_17) rfl ((flt hc17_20).1) k) ?_
      show own_G p.tables e below _ (s₁.setTop (mkF m 20 #[.val (.ref x0), .val (.int x1), .val (.int x2), .val (.int (0 : Int32)), .val (.int x1)] []))
      refine own_go (fun _ k => XS.aloadN X0.here hx rfl (hb hby d7_20) rfl rfl k) ?_
      show own_G p.tables e below _ (s₁.setTop (mkF m 21 #[.val (.ref x0), .val (.int x1), .val (.int x2), .val (.int (0 : Int32)), .val (.int x1)] [(.ref x0)]))
      refine own_go (fun _ k => XS.iload X0.here hx rfl (hb hby d7_21) rfl k) ?_
      show own_G p.tables e below _ (s₁.setTop (mkF m 23 #[.val (.ref x0), .val (.int x1), .val (.int x2), .val (.int (0 : Int32)), .val (.int x1)] [(.int x1), (.ref x0)]))
      obtain ⟨cl21, Ar21, hin21, hat21⟩ := own_rd V hf (own_hi hc8_18 ht)
      refine own_go (fun _ k => X0.caload hx (j := x1) (v := (.int (f (x1).toNatClampNeg))) (by rw [e0]; exact Ar21.1) (State.isArrayOf_alike hZ.alike Ar21.2.1) Ar21.2.2 hin21 hat21 (g := (mkF m 23 #[.val (.ref x0), .val (.int x1), .val (.int x2), .val (.int (0 : Int32)), .val (.int x1)] [(.int x1), (.ref x0)])) rfl rfl (hb hby d7_23) _ k) ?_
      show own_G p.tables e below _ (s₁.setTop (mkF m 24 #[.val (.ref x0), .val (.int x1), .val (.int x2), .val (.int (0 : Int32)), .val (.int x1)] [(.int (f (x1).toNatClampNeg))]))
      refine own_go (fun _ k => XS.bipush X0.here hx rfl (hb hby d7_24) k) ?_
      show own_G p.tables e below _ (s₁.setTop (mkF m 26 #[.val (.ref x0), .val (.int x1), .val (.int x2), .val (.int (0 : Int32)), .val (.int x1)] [(.int (90 : Int32)), (.int (f (x1).toNatClampNeg))]))
      by_cases hc26_22 : (90 : Int32) < (f (x1).toNatClampNeg)
      · refine own_go (fun _ k => XS.icmpNo X0.here hx rfl (hb hby d7_26) rfl ((tlt hc26_22).2.2.2) k) ?_
        show own_G p.tables e below _ (s₁.setTop (mkF m 29 #[.val (.ref x0), .val (.int x1), .val (.int x2), .val (.int (0 : Int32)), .val (.int x1)] []))
        refine own_go (fun _ k => XS.iconst X0.here hx rfl (hb hby d7_29) k) ?_
        show own_G p.tables e below _ (s₁.setTop (mkF m 30 #[.val (.ref x0), .val (.int x1), .val (.int x2), .val (.int (0 : Int32)), .val (.int x1)] [(.int (-1 : Int32))]))
        exact own_end X0 Bd.notSynchronized (v := some (.int (-1 : Int32))) (fun h => by rw [Bd.returns] at h; cases h) (Q := QP (some (.int (F7 x1 x2 f))) h0) ⟨by unfold F7; simp only [if_pos hc8_18, if_neg hc17_20, if_pos hc26_22]; try rfl, rfl, e0⟩ (fun fs hr => retI X0 hx Bd.returns (hb hby d7_30) hr) (by decide) (by decide)
      · refine own_go (fun _ k => XS.icmpYes X0.here hx rfl (pc0 := 26) (pc' := 31) rfl (hb hby d7_26) rfl ((flt hc26_22).2.2.2) (by decide) (by decide) k) ?_
        show own_G p.tables e below _ (s₁.setTop (mkF m 31 #[.val (.ref x0), .val (.int x1), .val (.int x2), .val (.int (0 : Int32)), .val (.int x1)] []))
        refine own_go (fun _ k => XS.iloadN X0.here hx rfl (hb hby d7_31) rfl k) ?_
        show own_G p.tables e below _ (s₁.setTop (mkF m 32 #[.val (.ref x0), .val (.int x1), .val (.int x2), .val (.int (0 : Int32)), .val (.int x1)] [(.int (0 : Int32))]))
        refine own_go (fun _ k => XS.bipush X0.here hx rfl (hb hby d7_32) k) ?_
        show own_G p.tables e below _ (s₁.setTop (mkF m 34 #[.val (.ref x0), .val (.int x1), .val (.int x2), .val (.int (0 : Int32)), .val (.int x1)] [(.int (26 : Int32)), (.int (0 : Int32))]))
        refine own_go (fun _ k => XS.imul X0.here hx rfl (hb hby d7_34) rfl k) ?_
        show own_G p.tables e below _ (s₁.setTop (mkF m 35 #[.val (.ref x0), .val (.int x1), .val (.int x2), .val (.int (0 : Int32)), .val (.int x1)] [(.int ((0 : Int32) * (26 : Int32)))]))
        refine own_go (fun _ k => XS.aloadN X0.here hx rfl (hb hby d7_35) rfl rfl k) ?_
        show own_G p.tables e below _ (s₁.setTop (mkF m 36 #[.val (.ref x0), .val (.int x1), .val (.int x2), .val (.int (0 : Int32)), .val (.int x1)] [(.ref x0), (.int ((0 : Int32) * (26 : Int32)))]))
        refine own_go (fun _ k => XS.iload X0.here hx rfl (hb hby d7_36) rfl k) ?_
        show own_G p.tables e below _ (s₁.setTop (mkF m 38 #[.val (.ref x0), .val (.int x1), .val (.int x2), .val (.int (0 : Int32)), .val (.int x1)] [(.int x1), (.ref x0), (.int ((0 : Int32) * (26 : Int32)))]))
        obtain ⟨cl23, Ar23, hin23, hat23⟩ := own_rd V hf (own_hi hc8_18 ht)
        refine own_go (fun _ k => X0.caload hx (j := x1) (v := (.int (f (x1).toNatClampNeg))) (by rw [e0]; exact Ar23.1) (State.isArrayOf_alike hZ.alike Ar23.2.1) Ar23.2.2 hin23 hat23 (g := (mkF m 38 #[.val (.ref x0), .val (.int x1), .val (.int x2), .val (.int (0 : Int32)), .val (.int x1)] [(.int x1), (.ref x0), (.int ((0 : Int32) * (26 : Int32)))])) rfl rfl (hb hby d7_38) _ k) ?_
        show own_G p.tables e below _ (s₁.setTop (mkF m 39 #[.val (.ref x0), .val (.int x1), .val (.int x2), .val (.int (0 : Int32)), .val (.int x1)] [(.int (f (x1).toNatClampNeg)), (.int ((0 : Int32) * (26 : Int32)))]))
        refine own_go (fun _ k => XS.iadd X0.here hx rfl (hb hby d7_39) rfl k) ?_
        show own_G p.tables e below _ (s₁.setTop (mkF m 40 #[.val (.ref x0), .val (.int x1), .val (.int x2), .val (.int (0 : Int32)), .val (.int x1)] [(.int (((0 : Int32) * (26 : Int32)) + (f (x1).toNatClampNeg)))]))
        refine own_go (fun _ k => XS.bipush X0.here hx rfl (hb hby d7_40) k) ?_
        show own_G p.tables e below _ (s₁.setTop (mkF m 42 #[.val (.ref x0), .val (.int x1), .val (.int x2), .val (.int (0 : Int32)), .val (.int x1)] [(.int (65 : Int32)), (.int (((0 : Int32) * (26 : Int32)) + (f (x1).toNatClampNeg)))]))
        refine own_go (fun _ k => XS.isub X0.here hx rfl (hb hby d7_42) rfl k) ?_
        show own_G p.tables e below _ (s₁.setTop (mkF m 43 #[.val (.ref x0), .val (.int x1), .val (.int x2), .val (.int (0 : Int32)), .val (.int x1)] [(.int ((((0 : Int32) * (26 : Int32)) + (f (x1).toNatClampNeg)) - (65 : Int32)))]))
        refine own_go (fun _ k => XS.istoreN X0.here hx rfl (hb hby d7_43) rfl (l' := #[.val (.ref x0), .val (.int x1), .val (.int x2), .val (.int ((((0 : Int32) * (26 : Int32)) + (f (x1).toNatClampNeg)) - (65 : Int32))), .val (.int x1)]) rfl k) ?_
        show own_G p.tables e below _ (s₁.setTop (mkF m 44 #[.val (.ref x0), .val (.int x1), .val (.int x2), .val (.int ((((0 : Int32) * (26 : Int32)) + (f (x1).toNatClampNeg)) - (65 : Int32))), .val (.int x1)] []))
        refine own_go (fun _ k => XS.iinc X0.here hx rfl (hb hby d7_44) rfl (l' := #[.val (.ref x0), .val (.int x1), .val (.int x2), .val (.int ((((0 : Int32) * (26 : Int32)) + (f (x1).toNatClampNeg)) - (65 : Int32))), .val (.int (x1 + (1 : Int32)))]) rfl k) ?_
        show own_G p.tables e below _ (s₁.setTop (mkF m 47 #[.val (.ref x0), .val (.int x1), .val (.int x2), .val (.int ((((0 : Int32) * (26 : Int32)) + (f (x1).toNatClampNeg)) - (65 : Int32))), .val (.int (x1 + (1 : Int32)))] []))
        refine own_go (fun _ k => XS.goto X0.here hx rfl (pc0 := 47) (pc' := 5) rfl (hb hby d7_47) (by decide) (by decide) k) ?_
        show own_G p.tables e below _ (s₁.setTop (mkF m 5 #[.val (.ref x0), .val (.int x1), .val (.int x2), .val (.int ((((0 : Int32) * (26 : Int32)) + (f (x1).toNatClampNeg)) - (65 : Int32))), .val (.int (x1 + (1 : Int32)))] []))
        refine own_go (fun _ k => XS.iload X0.here hx rfl (hb hby d7_5) rfl k) ?_
        show own_G p.tables e below _ (s₁.setTop (mkF m 7 #[.val (.ref x0), .val (.int x1), .val (.int x2), .val (.int ((((0 : Int32) * (26 : Int32)) + (f (x1).toNatClampNeg)) - (65 : Int32))), .val (.int (x1 + (1 : Int32)))] [(.int (x1 + (1 : Int32)))]))
        refine own_go (fun _ k => XS.iloadN X0.here hx rfl (hb hby d7_7) rfl k) ?_
        show own_G p.tables e below _ (s₁.setTop (mkF m 8 #[.val (.ref x0), .val (.int x1), .val (.int x2), .val (.int ((((0 : Int32) * (26 : Int32)) + (f (x1).toNatClampNeg)) - (65 : Int32))), .val (.int (x1 + (1 : Int32)))] [(.int x2), (.int (x1 + (1 : Int32)))]))
        by_cases hc8_24 : (x1 + (1 : Int32)) < x2
        · refine own_go (fun _ k => XS.icmpNo X0.here hx rfl (hb hby d7_8) rfl ((tlt hc8_24).2.1) k) ?_
          show own_G p.tables e below _ (s₁.setTop (mkF m 11 #[.val (.ref x0), .val (.int x1), .val (.int x2), .val (.int ((((0 : Int32) * (26 : Int32)) + (f (x1).toNatClampNeg)) - (65 : Int32))), .val (.int (x1 + (1 : Int32)))] []))
          refine own_go (fun _ k => XS.aloadN X0.here hx rfl (hb hby d7_11) rfl rfl k) ?_
          show own_G p.tables e below _ (s₁.setTop (mkF m 12 #[.val (.ref x0), .val (.int x1), .val (.int x2), .val (.int ((((0 : Int32) * (26 : Int32)) + (f (x1).toNatClampNeg)) - (65 : Int32))), .val (.int (x1 + (1 : Int32)))] [(.ref x0)]))
          refine own_go (fun _ k => XS.iload X0.here hx rfl (hb hby d7_12) rfl k) ?_
          show own_G p.tables e below _ (s₁.setTop (mkF m 14 #[.val (.ref x0), .val (.int x1), .val (.int x2), .val (.int ((((0 : Int32) * (26 : Int32)) + (f (x1).toNatClampNeg)) - (65 : Int32))), .val (.int (x1 + (1 : Int32)))] [(.int (x1 + (1 : Int32))), (.ref x0)]))
          obtain ⟨cl25, Ar25, hin25, hat25⟩ := own_rd V (own_inc hf hc8_18 ht) (own_hi hc8_24 ht)
          refine own_go (fun _ k => X0.caload hx (j := (x1 + (1 : Int32))) (v := (.int (f ((x1 + (1 : Int32))).toNatClampNeg))) (by rw [e0]; exact Ar25.1) (State.isArrayOf_alike hZ.alike Ar25.2.1) Ar25.2.2 hin25 hat25 (g := (mkF m 14 #[.val (.ref x0), .val (.int x1), .val (.int x2), .val (.int ((((0 : Int32) * (26 : Int32)) + (f (x1).toNatClampNeg)) - (65 : Int32))), .val (.int (x1 + (1 : Int32)))] [(.int (x1 + (1 : Int32))), (.ref x0)])) rfl rfl (hb hby d7_14) _ k) ?_
          show own_G p.tables e below _ (s₁.setTop (mkF m 15 #[.val (.ref x0), .val (.int x1), .val (.int x2), .val (.int ((((0 : Int32) * (26 : Int32)) + (f (x1).toNatClampNeg)) - (65 : Int32))), .val (.int (x1 + (1 : Int32)))] [(.int (f ((x1 + (1 : Int32))).toNatClampNeg))]))
          refine own_go (fun _ k => XS.bipush X0.here hx rfl (hb hby d7_15) k) ?_
          show own_G p.tables e below _ (s₁.setTop (mkF m 17 #[.val (.ref x0), .val (.int x1), .val (.int x2), .val (.int ((((0 : Int32) * (26 : Int32)) + (f (x1).toNatClampNeg)) - (65 : Int32))), .val (.int (x1 + (1 : Int32)))] [(.int (65 : Int32)), (.int (f ((x1 + (1 : Int32))).toNatClampNeg))]))
          by_cases hc17_26 : (f ((x1 + (1 : Int32))).toNatClampNeg) < (65 : Int32)
          · refine own_go (fun _ k => XS.icmpYes X0.here hx rfl (pc0 := 17) (pc' := 29) rfl (hb hby d7_17) rfl ((tlt hc17_26).1) (by decide) (by decide) k) ?_
            show own_G p.tables e below _ (s₁.setTop (mkF m 29 #[.val (.ref x0), .val (.int x1), .val (.int x2), .val (.int ((((0 : Int32) * (26 : Int32)) + (f (x1).toNatClampNeg)) - (65 : Int32))), .val (.int (x1 + (1 : Int32)))] []))
            refine own_go (fun _ k => XS.iconst X0.here hx rfl (hb hby d7_29) k) ?_
            show own_G p.tables e below _ (s₁.setTop (mkF m 30 #[.val (.ref x0), .val (.int x1), .val (.int x2), .val (.int ((((0 : Int32) * (26 : Int32)) + (f (x1).toNatClampNeg)) - (65 : Int32))), .val (.int (x1 + (1 : Int32)))] [(.int (-1 : Int32))]))
            exact own_end X0 Bd.notSynchronized (v := some (.int (-1 : Int32))) (fun h => by rw [Bd.returns] at h; cases h) (Q := QP (some (.int (F7 x1 x2 f))) h0) ⟨by unfold F7; simp only [if_pos hc8_18, if_neg hc17_20, if_neg hc26_22, if_pos hc8_24, if_pos hc17_26]; try rfl, rfl, e0⟩ (fun fs hr => retI X0 hx Bd.returns (hb hby d7_30) hr) (by decide) (by decide)
          · refine own_go (fun _ k => XS.icmpNo X0.here hx rfl (hb hby d7_17) rfl ((flt hc17_26).1) k) ?_
            show own_G p.tables e below _ (s₁.setTop (mkF m 20 #[.val (.ref x0), .val (.int x1), .val (.int x2), .val (.int ((((0 : Int32) * (26 : Int32)) + (f (x1).toNatClampNeg)) - (65 : Int32))), .val (.int (x1 + (1 : Int32)))] []))
            refine own_go (fun _ k => XS.aloadN X0.here hx rfl (hb hby d7_20) rfl rfl k) ?_
            show own_G p.tables e below _ (s₁.setTop (mkF m 21 #[.val (.ref x0), .val (.int x1), .val (.int x2), .val (.int ((((0 : Int32) * (26 : Int32)) + (f (x1).toNatClampNeg)) - (65 : Int32))), .val (.int (x1 + (1 : Int32)))] [(.ref x0)]))
            refine own_go (fun _ k => XS.iload X0.here hx rfl (hb hby d7_21) rfl k) ?_
            show own_G p.tables e below _ (s₁.setTop (mkF m 23 #[.val (.ref x0), .val (.int x1), .val (.int x2), .val (.int ((((0 : Int32) * (26 : Int32)) + (f (x1).toNatClampNeg)) - (65 : Int32))), .val (.int (x1 + (1 : Int32)))] [(.int (x1 + (1 : Int32))), (.ref x0)]))
            obtain ⟨cl27, Ar27, hin27, hat27⟩ := own_rd V (own_inc hf hc8_18 ht) (own_hi hc8_24 ht)
            refine own_go (fun _ k => X0.caload hx (j := (x1 + (1 : Int32))) (v := (.int (f ((x1 + (1 : Int32))).toNatClampNeg))) (by rw [e0]; exact Ar27.1) (State.isArrayOf_alike hZ.alike Ar27.2.1) Ar27.2.2 hin27 hat27 (g := (mkF m 23 #[.val (.ref x0), .val (.int x1), .val (.int x2), .val (.int ((((0 : Int32) * (26 : Int32)) + (f (x1).toNatClampNeg)) - (65 : Int32))), .val (.int (x1 + (1 : Int32)))] [(.int (x1 + (1 : Int32))), (.ref x0)])) rfl rfl (hb hby d7_23) _ k) ?_
            show own_G p.tables e below _ (s₁.setTop (mkF m 24 #[.val (.ref x0), .val (.int x1), .val (.int x2), .val (.int ((((0 : Int32) * (26 : Int32)) + (f (x1).toNatClampNeg)) - (65 : Int32))), .val (.int (x1 + (1 : Int32)))] [(.int (f ((x1 + (1 : Int32))).toNatClampNeg))]))
            refine own_go (fun _ k => XS.bipush X0.here hx rfl (hb hby d7_24) k) ?_
            show own_G p.tables e below _ (s₁.setTop (mkF m 26 #[.val (.ref x0), .val (.int x1), .val (.int x2), .val (.int ((((0 : Int32) * (26 : Int32)) + (f (x1).toNatClampNeg)) - (65 : Int32))), .val (.int (x1 + (1 : Int32)))] [(.int (90 : Int32)), (.int (f ((x1 + (1 : Int32))).toNatClampNeg))]))
            by_cases hc26_28 : (90 : Int32) < (f ((x1 + (1 : Int32))).toNatClampNeg)
            · refine own_go (fun _ k => XS.icmpNo X0.here hx rfl (hb hby d7_26) rfl ((tlt hc26_28).2.2.2) k) ?_
              show own_G p.tables e below _ (s₁.setTop (mkF m 29 #[.val (.ref x0), .val (.int x1), .val (.int x2), .val (.int ((((0 : Int32) * (26 : Int32)) + (f (x1).toNatClampNeg)) - (65 : Int32))), .val (.int (x1 + (1 : Int32)))] []))
              refine own_go (fun _ k => XS.iconst X0.here hx rfl (hb hby d7_29) k) ?_
              show own_G p.tables e below _ (s₁.setTop (mkF m 30 #[.val (.ref x0), .val (.int x1), .val (.int x2), .val (.int ((((0 : Int32) * (26 : Int32)) + (f (x1).toNatClampNeg)) - (65 : Int32))), .val (.int (x1 + (1 : Int32)))] [(.int (-1 : Int32))]))
              exact own_end X0 Bd.notSynchronized (v := some (.int (-1 : Int32))) (fun h => by rw [Bd.returns] at h; cases h) (Q := QP (some (.int (F7 x1 x2 f))) h0) ⟨by unfold F7; simp only [if_pos hc8_18, if_neg hc17_20, if_neg hc26_22, if_pos hc8_24, if_neg hc17_26, if_pos hc26_28]; try rfl, rfl, e0⟩ (fun fs hr => retI X0 hx Bd.returns (hb hby d7_30) hr) (by decide) (by decide)
            · refine own_go (fun _ k => XS.icmpYes X0.here hx rfl (pc0 := 26) (pc' := 31) rfl (hb hby d7_26) rfl ((flt hc26_28).2.2.2) (by decide) (by decide) k) ?_
              show own_G p.tables e below _ (s₁.setTop (mkF m 31 #[.val (.ref x0), .val (.int x1), .val (.int x2), .val (.int ((((0 : Int32) * (26 : Int32)) + (f (x1).toNatClampNeg)) - (65 : Int32))), .val (.int (x1 + (1 : Int32)))] []))
              refine own_go (fun _ k => XS.iloadN X0.here hx rfl (hb hby d7_31) rfl k) ?_
              show own_G p.tables e below _ (s₁.setTop (mkF m 32 #[.val (.ref x0), .val (.int x1), .val (.int x2), .val (.int ((((0 : Int32) * (26 : Int32)) + (f (x1).toNatClampNeg)) - (65 : Int32))), .val (.int (x1 + (1 : Int32)))] [(.int ((((0 : Int32) * (26 : Int32)) + (f (x1).toNatClampNeg)) - (65 : Int32)))]))
              refine own_go (fun _ k => XS.bipush X0.here hx rfl (hb hby d7_32) k) ?_
              show own_G p.tables e below _ (s₁.setTop (mkF m 34 #[.val (.ref x0), .val (.int x1), .val (.int x2), .val (.int ((((0 : Int32) * (26 : Int32)) + (f (x1).toNatClampNeg)) - (65 : Int32))), .val (.int (x1 + (1 : Int32)))] [(.int (26 : Int32)), (.int ((((0 : Int32) * (26 : Int32)) + (f (x1).toNatClampNeg)) - (65 : Int32)))]))
              refine own_go (fun _ k => XS.imul X0.here hx rfl (hb hby d7_34) rfl k) ?_
              show own_G p.tables e below _ (s₁.setTop (mkF m 35 #[.val (.ref x0), .val (.int x1), .val (.int x2), .val (.int ((((0 : Int32) * (26 : Int32)) + (f (x1).toNatClampNeg)) - (65 : Int32))), .val (.int (x1 + (1 : Int32)))] [(.int (((((0 : Int32) * (26 : Int32)) + (f (x1).toNatClampNeg)) - (65 : Int32)) * (26 : Int32)))]))
              refine own_go (fun _ k => XS.aloadN X0.here hx rfl (hb hby d7_35) rfl rfl k) ?_
              show own_G p.tables e below _ (s₁.setTop (mkF m 36 #[.val (.ref x0), .val (.int x1), .val (.int x2), .val (.int ((((0 : Int32) * (26 : Int32)) + (f (x1).toNatClampNeg)) - (65 : Int32))), .val (.int (x1 + (1 : Int32)))] [(.ref x0), (.int (((((0 : Int32) * (26 : Int32)) + (f (x1).toNatClampNeg)) - (65 : Int32)) * (26 : Int32)))]))
              refine own_go (fun _ k => XS.iload X0.here hx rfl (hb hby d7_36) rfl k) ?_
              show own_G p.tables e below _ (s₁.setTop (mkF m 38 #[.val (.ref x0), .val (.int x1), .val (.int x2), .val (.int ((((0 : Int32) * (26 : Int32)) + (f (x1).toNatClampNeg)) - (65 : Int32))), .val (.int (x1 + (1 : Int32)))] [(.int (x1 + (1 : Int32))), (.ref x0), (.int (((((0 : Int32) * (26 : Int32)) + (f (x1).toNatClampNeg)) - (65 : Int32)) * (26 : Int32)))]))
              obtain ⟨cl29, Ar29, hin29, hat29⟩ := own_rd V (own_inc hf hc8_18 ht) (own_hi hc8_24 ht)
              refine own_go (fun _ k => X0.caload hx (j := (x1 + (1 : Int32))) (v := (.int (f ((x1 + (1 : Int32))).toNatClampNeg))) (by rw [e0]; exact Ar29.1) (State.isArrayOf_alike hZ.alike Ar29.2.1) Ar29.2.2 hin29 hat29 (g := (mkF m 38 #[.val (.ref x0), .val (.int x1), .val (.int x2), .val (.int ((((0 : Int32) * (26 : Int32)) + (f (x1).toNatClampNeg)) - (65 : Int32))), .val (.int (x1 + (1 : Int32)))] [(.int (x1 + (1 : Int32))), (.ref x0), (.int (((((0 : Int32) * (26 : Int32)) + (f (x1).toNatClampNeg)) - (65 : Int32)) * (26 : Int32)))])) rfl rfl (hb hby d7_38) _ k) ?_
              show own_G p.tables e below _ (s₁.setTop (mkF m 39 #[.val (.ref x0), .val (.int x1), .val (.int x2), .val (.int ((((0 : Int32) * (26 : Int32)) + (f (x1).toNatClampNeg)) - (65 : Int32))), .val (.int (x1 + (1 : Int32)))] [(.int (f ((x1 + (1 : Int32))).toNatClampNeg)), (.int (((((0 : Int32) * (26 : Int32)) + (f (x1).toNatClampNeg)) - (65 : Int32)) * (26 : Int32)))]))
              refine own_go (fun _ k => XS.iadd X0.here hx rfl (hb hby d7_39) rfl k) ?_
              show own_G p.tables e below _ (s₁.setTop (mkF m 40 #[.val (.ref x0), .val (.int x1), .val (.int x2), .val (.int ((((0 : Int32) * (26 : Int32)) + (f (x1).toNatClampNeg)) - (65 : Int32))), .val (.int (x1 + (1 : Int32)))] [(.int ((((((0 : Int32) * (26 : Int32)) + (f (x1).toNatClampNeg)) - (65 : Int32)) * (26 : Int32)) + (f ((x1 + (1 : Int32))).toNatClampNeg)))]))
              refine own_go (fun _ k => XS.bipush X0.here hx rfl (hb hby d7_40) k) ?_
              show own_G p.tables e below _ (s₁.setTop (mkF m 42 #[.val (.ref x0), .val (.int x1), .val (.int x2), .val (.int ((((0 : Int32) * (26 : Int32)) + (f (x1).toNatClampNeg)) - (65 : Int32))), .val (.int (x1 + (1 : Int32)))] [(.int (65 : Int32)), (.int ((((((0 : Int32) * (26 : Int32)) + (f (x1).toNatClampNeg)) - (65 : Int32)) * (26 : Int32)) + (f ((x1 + (1 : Int32))).toNatClampNeg)))]))
              refine own_go (fun _ k => XS.isub X0.here hx rfl (hb hby d7_42) rfl k) ?_
              show own_G p.tables e below _ (s₁.setTop (mkF m 43 #[.val (.ref x0), .val (.int x1), .val (.int x2), .val (.int ((((0 : Int32) * (26 : Int32)) + (f (x1).toNatClampNeg)) - (65 : Int32))), .val (.int (x1 + (1 : Int32)))] [(.int (((((((0 : Int32) * (26 : Int32)) + (f (x1).toNatClampNeg)) - (65 : Int32)) * (26 : Int32)) + (f ((x1 + (1 : Int32))).toNatClampNeg)) - (65 : Int32)))]))
              refine own_go (fun _ k => XS.istoreN X0.here hx rfl (hb hby d7_43) rfl (l' := #[.val (.ref x0), .val (.int x1), .val (.int x2), .val (.int (((((((0 : Int32) * (26 : Int32)) + (f (x1).toNatClampNeg)) - (65 : Int32)) * (26 : Int32)) + (f ((x1 + (1 : Int32))).toNatClampNeg)) - (65 : Int32))), .val (.int (x1 + (1 : Int32)))]) rfl k) ?_
              show own_G p.tables e below _ (s₁.setTop (mkF m 44 #[.val (.ref x0), .val (.int x1), .val (.int x2), .val (.int (((((((0 : Int32) * (26 : Int32)) + (f (x1).toNatClampNeg)) - (65 : Int32)) * (26 : Int32)) + (f ((x1 + (1 : Int32))).toNatClampNeg)) - (65 : Int32))), .val (.int (x1 + (1 : Int32)))] []))
              refine own_go (fun _ k => XS.iinc X0.here hx rfl (hb hby d7_44) rfl (l' := #[.val (.ref x0), .val (.int x1), .val (.int x2), .val (.int (((((((0 : Int32) * (26 : Int32)) + (f (x1).toNatClampNeg)) - (65 : Int32)) * (26 : Int32)) + (f ((x1 + (1 : Int32))).toNatClampNeg)) - (65 : Int32))), .val (.int ((x1 + (1 : Int32)) + (1 : Int32)))]) rfl k) ?_
              show own_G p.tables e below _ (s₁.setTop (mkF m 47 #[.val (.ref x0), .val (.int x1), .val (.int x2), .val (.int (((((((0 : Int32) * (26 : Int32)) + (f (x1).toNatClampNeg)) - (65 : Int32)) * (26 : Int32)) + (f ((x1 + (1 : Int32))).toNatClampNeg)) - (65 : Int32))), .val (.int ((x1 + (1 : Int32)) + (1 : Int32)))] []))
              refine own_go (fun _ k => XS.goto X0.here hx rfl (pc0 := 47) (pc' := 5) rfl (hb hby d7_47) (by decide) (by decide) k) ?_
              show own_G p.tables e below _ (s₁.setTop (mkF m 5 #[.val (.ref x0), .val (.int x1), .val (.int x2), .val (.int (((((((0 : Int32) * (26 : Int32)) + (f (x1).toNatClampNeg)) - (65 : Int32)) * (26 : Int32)) + (f ((x1 + (1 : Int32))).toNatClampNeg)) - (65 : Int32))), .val (.int ((x1 + (1 : Int32)) + (1 : Int32)))] []))
              refine own_go (fun _ k => XS.iload X0.here hx rfl (hb hby d7_5) rfl k) ?_
              show own_G p.tables e below _ (s₁.setTop (mkF m 7 #[.val (.ref x0), .val (.int x1), .val (.int x2), .val (.int (((((((0 : Int32) * (26 : Int32)) + (f (x1).toNatClampNeg)) - (65 : Int32)) * (26 : Int32)) + (f ((x1 + (1 : Int32))).toNatClampNeg)) - (65 : Int32))), .val (.int ((x1 + (1 : Int32)) + (1 : Int32)))] [(.int ((x1 + (1 : Int32)) + (1 : Int32)))]))
              refine own_go (fun _ k => XS.iloadN X0.here hx rfl (hb hby d7_7) rfl k) ?_
              show own_G p.tables e below _ (s₁.setTop (mkF m 8 #[.val (.ref x0), .val (.int x1), .val (.int x2), .val (.int (((((((0 : Int32) * (26 : Int32)) + (f (x1).toNatClampNeg)) - (65 : Int32)) * (26 : Int32)) + (f ((x1 + (1 : Int32))).toNatClampNeg)) - (65 : Int32))), .val (.int ((x1 + (1 : Int32)) + (1 : Int32)))] [(.int x2), (.int ((x1 + (1 : Int32)) + (1 : Int32)))]))
              by_cases hc8_30 : ((x1 + (1 : Int32)) + (1 : Int32)) < x2
              · refine own_go (fun _ k => XS.icmpNo X0.here hx rfl (hb hby d7_8) rfl ((tlt hc8_30).2.1) k) ?_
                show own_G p.tables e below _ (s₁.setTop (mkF m 11 #[.val (.ref x0), .val (.int x1), .val (.int x2), .val (.int (((((((0 : Int32) * (26 : Int32)) + (f (x1).toNatClampNeg)) - (65 : Int32)) * (26 : Int32)) + (f ((x1 + (1 : Int32))).toNatClampNeg)) - (65 : Int32))), .val (.int ((x1 + (1 : Int32)) + (1 : Int32)))] []))
                refine own_go (fun _ k => XS.aloadN X0.here hx rfl (hb hby d7_11) rfl rfl k) ?_
                show own_G p.tables e below _ (s₁.setTop (mkF m 12 #[.val (.ref x0), .val (.int x1), .val (.int x2), .val (.int (((((((0 : Int32) * (26 : Int32)) + (f (x1).toNatClampNeg)) - (65 : Int32)) * (26 : Int32)) + (f ((x1 + (1 : Int32))).toNatClampNeg)) - (65 : Int32))), .val (.int ((x1 + (1 : Int32)) + (1 : Int32)))] [(.ref x0)]))
                refine own_go (fun _ k => XS.iload X0.here hx rfl (hb hby d7_12) rfl k) ?_
                show own_G p.tables e below _ (s₁.setTop (mkF m 14 #[.val (.ref x0), .val (.int x1), .val (.int x2), .val (.int (((((((0 : Int32) * (26 : Int32)) + (f (x1).toNatClampNeg)) - (65 : Int32)) * (26 : Int32)) + (f ((x1 + (1 : Int32))).toNatClampNeg)) - (65 : Int32))), .val (.int ((x1 + (1 : Int32)) + (1 : Int32)))] [(.int ((x1 + (1 : Int32)) + (1 : Int32))), (.ref x0)]))
                obtain ⟨cl31, Ar31, hin31, hat31⟩ := own_rd V (own_inc (own_inc hf hc8_18 ht) hc8_24 ht) (own_hi hc8_30 ht)
                refine own_go (fun _ k => X0.caload hx (j := ((x1 + (1 : Int32)) + (1 : Int32))) (v := (.int (f (((x1 + (1 : Int32)) + (1 : Int32))).toNatClampNeg))) (by rw [e0]; exact Ar31.1) (State.isArrayOf_alike hZ.alike Ar31.2.1) Ar31.2.2 hin31 hat31 (g := (mkF m 14 #[.val (.ref x0), .val (.int x1), .val (.int x2), .val (.int (((((((0 : Int32) * (26 : Int32)) + (f (x1).toNatClampNeg)) - (65 : Int32)) * (26 : Int32)) + (f ((x1 + (1 : Int32))).toNatClampNeg)) - (65 : Int32))), .val (.int ((x1 + (1 : Int32)) + (1 : Int32)))] [(.int ((x1 + (1 : Int32)) + (1 : Int32))), (.ref x0)])) rfl rfl (hb hby d7_14) _ k) ?_
                show own_G p.tables e below _ (s₁.setTop (mkF m 15 #[.val (.ref x0), .val (.int x1), .val (.int x2), .val (.int (((((((0 : Int32) * (26 : Int32)) + (f (x1).toNatClampNeg)) - (65 : Int32)) * (26 : Int32)) + (f ((x1 + (1 : Int32))).toNatClampNeg)) - (65 : Int32))), .val (.int ((x1 + (1 : Int32)) + (1 : Int32)))] [(.int (f (((x1 + (1 : Int32)) + (1 : Int32))).toNatClampNeg))]))
                refine own_go (fun _ k => XS.bipush X0.here hx rfl (hb hby d7_15) k) ?_
                show own_G p.tables e below _ (s₁.setTop (mkF m 17 #[.val (.ref x0), .val (.int x1), .val (.int x2), .val (.int (((((((0 : Int32) * (26 : Int32)) + (f (x1).toNatClampNeg)) - (65 : Int32)) * (26 : Int32)) + (f ((x1 + (1 : Int32))).toNatClampNeg)) - (65 : Int32))), .val (.int ((x1 + (1 : Int32)) + (1 : Int32)))] [(.int (65 : Int32)), (.int (f (((x1 + (1 : Int32)) + (1 : Int32))).toNatClampNeg))]))
                by_cases hc17_32 : (f (((x1 + (1 : Int32)) + (1 : Int32))).toNatClampNeg) < (65 : Int32)
                · refine own_go (fun _ k => XS.icmpYes X0.here hx rfl (pc0 := 17) (pc' := 29) rfl (hb hby d7_17) rfl ((tlt hc17_32).1) (by decide) (by decide) k) ?_
                  show own_G p.tables e below _ (s₁.setTop (mkF m 29 #[.val (.ref x0), .val (.int x1), .val (.int x2), .val (.int (((((((0 : Int32) * (26 : Int32)) + (f (x1).toNatClampNeg)) - (65 : Int32)) * (26 : Int32)) + (f ((x1 + (1 : Int32))).toNatClampNeg)) - (65 : Int32))), .val (.int ((x1 + (1 : Int32)) + (1 : Int32)))] []))
                  refine own_go (fun _ k => XS.iconst X0.here hx rfl (hb hby d7_29) k) ?_
                  show own_G p.tables e below _ (s₁.setTop (mkF m 30 #[.val (.ref x0), .val (.int x1), .val (.int x2), .val (.int (((((((0 : Int32) * (26 : Int32)) + (f (x1).toNatClampNeg)) - (65 : Int32)) * (26 : Int32)) + (f ((x1 + (1 : Int32))).toNatClampNeg)) - (65 : Int32))), .val (.int ((x1 + (1 : Int32)) + (1 : Int32)))] [(.int (-1 : Int32))]))
                  exact own_end X0 Bd.notSynchronized (v := some (.int (-1 : Int32))) (fun h => by rw [Bd.returns] at h; cases h) (Q := QP (some (.int (F7 x1 x2 f))) h0) ⟨by unfold F7; simp only [if_pos hc8_18, if_neg hc17_20, if_neg hc26_22, if_pos hc8_24, if_neg hc17_26, if_neg hc26_28, if_pos hc8_30, if_pos hc17_32]; try rfl, rfl, e0⟩ (fun fs hr => retI X0 hx Bd.returns (hb hby d7_30) hr) (by decide) (by decide)
                · refine own_go (fun _ k => XS.icmpNo X0.here hx rfl (hb hby d7_17) rfl ((flt hc17_32).1) k) ?_
                  show own_G p.tables e below _ (s₁.setTop (mkF m 20 #[.val (.ref x0), .val (.int x1), .val (.int x2), .val (.int (((((((0 : Int32) * (26 : Int32)) + (f (x1).toNatClampNeg)) - (65 : Int32)) * (26 : Int32)) + (f ((x1 + (1 : Int32))).toNatClampNeg)) - (65 : Int32))), .val (.int ((x1 + (1 : Int32)) + (1 : Int32)))] []))
                  refine own_go (fun _ k => XS.aloadN X0.here hx rfl (hb hby d7_20) rfl rfl k) ?_
                  show own_G p.tables e below _ (s₁.setTop (mkF m 21 #[.val (.ref x0), .val (.int x1), .val (.int x2), .val (.int (((((((0 : Int32) * (26 : Int32)) + (f (x1).toNatClampNeg)) - (65 : Int32)) * (26 : Int32)) + (f ((x1 + (1 : Int32))).toNatClampNeg)) - (65 : Int32))), .val (.int ((x1 + (1 : Int32)) + (1 : Int32)))] [(.ref x0)]))
                  refine own_go (fun _ k => XS.iload X0.here hx rfl (hb hby d7_21) rfl k) ?_
                  show own_G p.tables e below _ (s₁.setTop (mkF m 23 #[.val (.ref x0), .val (.int x1), .val (.int x2), .val (.int (((((((0 : Int32) * (26 : Int32)) + (f (x1).toNatClampNeg)) - (65 : Int32)) * (26 : Int32)) + (f ((x1 + (1 : Int32))).toNatClampNeg)) - (65 : Int32))), .val (.int ((x1 + (1 : Int32)) + (1 : Int32)))] [(.int ((x1 + (1 : Int32)) + (1 : Int32))), (.ref x0)]))
                  obtain ⟨cl33, Ar33, hin33, hat33⟩ := own_rd V (own_inc (own_inc hf hc8_18 ht) hc8_24 ht) (own_hi hc8_30 ht)
                  refine own_go (fun _ k => X0.caload hx (j := ((x1 + (1 : Int32)) + (1 : Int32))) (v := (.int (f (((x1 + (1 : Int32)) + (1 : Int32))).toNatClampNeg))) (by rw [e0]; exact Ar33.1) (State.isArrayOf_alike hZ.alike Ar33.2.1) Ar33.2.2 hin33 hat33 (g := (mkF m 23 #[.val (.ref x0), .val (.int x1), .val (.int x2), .val (.int (((((((0 : Int32) * (26 : Int32)) + (f (x1).toNatClampNeg)) - (65 : Int32)) * (26 : Int32)) + (f ((x1 + (1 : Int32))).toNatClampNeg)) - (65 : Int32))), .val (.int ((x1 + (1 : Int32)) + (1 : Int32)))] [(.int ((x1 + (1 : Int32)) + (1 : Int32))), (.ref x0)])) rfl rfl (hb hby d7_23) _ k) ?_
                  show own_G p.tables e below _ (s₁.setTop (mkF m 24 #[.val (.ref x0), .val (.int x1), .val (.int x2), .val (.int (((((((0 : Int32) * (26 : Int32)) + (f (x1).toNatClampNeg)) - (65 : Int32)) * (26 : Int32)) + (f ((x1 + (1 : Int32))).toNatClampNeg)) - (65 : Int32))), .val (.int ((x1 + (1 : Int32)) + (1 : Int32)))] [(.int (f (((x1 + (1 : Int32)) + (1 : Int32))).toNatClampNeg))]))
                  refine own_go (fun _ k => XS.bipush X0.here hx rfl (hb hby d7_24) k) ?_
                  show own_G p.tables e below _ (s₁.setTop (mkF m 26 #[.val (.ref x0), .val (.int x1), .val (.int x2), .val (.int (((((((0 : Int32) * (26 : Int32)) + (f (x1).toNatClampNeg)) - (65 : Int32)) * (26 : Int32)) + (f ((x1 + (1 : Int32))).toNatClampNeg)) - (65 : Int32))), .val (.int ((x1 + (1 : Int32)) + (1 : Int32)))] [(.int (90 : Int32)), (.int (f (((x1 + (1 : Int32)) + (1 : Int32))).toNatClampNeg))]))
                  by_cases hc26_34 : (90 : Int32) < (f (((x1 + (1 : Int32)) + (1 : Int32))).toNatClampNeg)
                  · refine own_go (fun _ k => XS.icmpNo X0.here hx rfl (hb hby d7_26) rfl ((tlt hc26_34).2.2.2) k) ?_
                    show own_G p.tables e below _ (s₁.setTop (mkF m 29 #[.val (.ref x0), .val (.int x1), .val (.int x2), .val (.int (((((((0 : Int32) * (26 : Int32)) + (f (x1).toNatClampNeg)) - (65 : Int32)) * (26 : Int32)) + (f ((x1 + (1 : Int32))).toNatClampNeg)) - (65 : Int32))), .val (.int ((x1 + (1 : Int32)) + (1 : Int32)))] []))
                    refine own_go (fun _ k => XS.iconst X0.here hx rfl (hb hby d7_29) k) ?_
                    show own_G p.tables e below _ (s₁.setTop (mkF m 30 #[.val (.ref x0), .val (.int x1), .val (.int x2), .val (.int (((((((0 : Int32) * (26 : Int32)) + (f (x1).toNatClampNeg)) - (65 : Int32)) * (26 : Int32)) + (f ((x1 + (1 : Int32))).toNatClampNeg)) - (65 : Int32))), .val (.int ((x1 + (1 : Int32)) + (1 : Int32)))] [(.int (-1 : Int32))]))
                    exact own_end X0 Bd.notSynchronized (v := some (.int (-1 : Int32))) (fun h => by rw [Bd.returns] at h; cases h) (Q := QP (some (.int (F7 x1 x2 f))) h0) ⟨by unfold F7; simp only [if_pos hc8_18, if_neg hc17_20, if_neg hc26_22, if_pos hc8_24, if_neg hc17_26, if_neg hc26_28, if_pos hc8_30, if_neg hc17_32, if_pos hc26_34]; try rfl, rfl, e0⟩ (fun fs hr => retI X0 hx Bd.returns (hb hby d7_30) hr) (by decide) (by decide)
                  · refine own_go (fun _ k => XS.icmpYes X0.here hx rfl (pc0 := 26) (pc' := 31) rfl (hb hby d7_26) rfl ((flt hc26_34).2.2.2) (by decide) (by decide) k) ?_
                    show own_G p.tables e below _ (s₁.setTop (mkF m 31 #[.val (.ref x0), .val (.int x1), .val (.int x2), .val (.int (((((((0 : Int32) * (26 : Int32)) + (f (x1).toNatClampNeg)) - (65 : Int32)) * (26 : Int32)) + (f ((x1 + (1 : Int32))).toNatClampNeg)) - (65 : Int32))), .val (.int ((x1 + (1 : Int32)) + (1 : Int32)))] []))
                    refine own_go (fun _ k => XS.iloadN X0.here hx rfl (hb hby d7_31) rfl k) ?_
                    show own_G p.tables e below _ (s₁.setTop (mkF m 32 #[.val (.ref x0), .val (.int x1), .val (.int x2), .val (.int (((((((0 : Int32) * (26 : Int32)) + (f (x1).toNatClampNeg)) - (65 : Int32)) * (26 : Int32)) + (f ((x1 + (1 : Int32))).toNatClampNeg)) - (65 : Int32))), .val (.int ((x1 + (1 : Int32)) + (1 : Int32)))] [(.int (((((((0 : Int32) * (26 : Int32)) + (f (x1).toNatClampNeg)) - (65 : Int32)) * (26 : Int32)) + (f ((x1 + (1 : Int32))).toNatClampNeg)) - (65 : Int32)))]))
                    refine own_go (fun _ k => XS.bipush X0.here hx rfl (hb hby d7_32) k) ?_
                    show own_G p.tables e below _ (s₁.setTop (mkF m 34 #[.val (.ref x0), .val (.int x1), .val (.int x2), .val (.int (((((((0 : Int32) * (26 : Int32)) + (f (x1).toNatClampNeg)) - (65 : Int32)) * (26 : Int32)) + (f ((x1 + (1 : Int32))).toNatClampNeg)) - (65 : Int32))), .val (.int ((x1 + (1 : Int32)) + (1 : Int32)))] [(.int (26 : Int32)), (.int (((((((0 : Int32) * (26 : Int32)) + (f (x1).toNatClampNeg)) - (65 : Int32)) * (26 : Int32)) + (f ((x1 + (1 : Int32))).toNatClampNeg)) - (65 : Int32)))]))
                    refine own_go (fun _ k => XS.imul X0.here hx rfl (hb hby d7_34) rfl k) ?_
                    show own_G p.tables e below _ (s₁.setTop (mkF m 35 #[.val (.ref x0), .val (.int x1), .val (.int x2), .val (.int (((((((0 : Int32) * (26 : Int32)) + (f (x1).toNatClampNeg)) - (65 : Int32)) * (26 : Int32)) + (f ((x1 + (1 : Int32))).toNatClampNeg)) - (65 : Int32))), .val (.int ((x1 + (1 : Int32)) + (1 : Int32)))] [(.int ((((((((0 : Int32) * (26 : Int32)) + (f (x1).toNatClampNeg)) - (65 : Int32)) * (26 : Int32)) + (f ((x1 + (1 : Int32))).toNatClampNeg)) - (65 : Int32)) * (26 : Int32)))]))
                    refine own_go (fun _ k => XS.aloadN X0.here hx rfl (hb hby d7_35) rfl rfl k) ?_
                    show own_G p.tables e below _ (s₁.setTop (mkF m 36 #[.val (.ref x0), .val (.int x1), .val (.int x2), .val (.int (((((((0 : Int32) * (26 : Int32)) + (f (x1).toNatClampNeg)) - (65 : Int32)) * (26 : Int32)) + (f ((x1 + (1 : Int32))).toNatClampNeg)) - (65 : Int32))), .val (.int ((x1 + (1 : Int32)) + (1 : Int32)))] [(.ref x0), (.int ((((((((0 : Int32) * (26 : Int32)) + (f (x1).toNatClampNeg)) - (65 : Int32)) * (26 : Int32)) + (f ((x1 + (1 : Int32))).toNatClampNeg)) - (65 : Int32)) * (26 : Int32)))]))
                    refine own_go (fun _ k => XS.iload X0.here hx rfl (hb hby d7_36) rfl k) ?_
                    show own_G p.tables e below _ (s₁.setTop (mkF m 38 #[.val (.ref x0), .val (.int x1), .val (.int x2), .val (.int (((((((0 : Int32) * (26 : Int32)) + (f (x1).toNatClampNeg)) - (65 : Int32)) * (26 : Int32)) + (f ((x1 + (1 : Int32))).toNatClampNeg)) - (65 : Int32))), .val (.int ((x1 + (1 : Int32)) + (1 : Int32)))] [(.int ((x1 + (1 : Int32)) + (1 : Int32))), (.ref x0), (.int ((((((((0 : Int32) * (26 : Int32)) + (f (x1).toNatClampNeg)) - (65 : Int32)) * (26 : Int32)) + (f ((x1 + (1 : Int32))).toNatClampNeg)) - (65 : Int32)) * (26 : Int32)))]))
                    obtain ⟨cl35, Ar35, hin35, hat35⟩ := own_rd V (own_inc (own_inc hf hc8_18 ht) hc8_24 ht) (own_hi hc8_30 ht)
                    refine own_go (fun _ k => X0.caload hx (j := ((x1 + (1 : Int32)) + (1 : Int32))) (v := (.int (f (((x1 + (1 : Int32)) + (1 : Int32))).toNatClampNeg))) (by rw [e0]; exact Ar35.1) (State.isArrayOf_alike hZ.alike Ar35.2.1) Ar35.2.2 hin35 hat35 (g := (mkF m 38 #[.val (.ref x0), .val (.int x1), .val (.int x2), .val (.int (((((((0 : Int32) * (26 : Int32)) + (f (x1).toNatClampNeg)) - (65 : Int32)) * (26 : Int32)) + (f ((x1 + (1 : Int32))).toNatClampNeg)) - (65 : Int32))), .val (.int ((x1 + (1 : Int32)) + (1 : Int32)))] [(.int ((x1 + (1 : Int32)) + (1 : Int32))), (.ref x0), (.int ((((((((0 : Int32) * (26 : Int32)) + (f (x1).toNatClampNeg)) - (65 : Int32)) * (26 : Int32)) + (f ((x1 + (1 : Int32))).toNatClampNeg)) - (65 : Int32)) * (26 : Int32)))])) rfl rfl (hb hby d7_38) _ k) ?_
                    show own_G p.tables e below _ (s₁.setTop (mkF m 39 #[.val (.ref x0), .val (.int x1), .val (.int x2), .val (.int (((((((0 : Int32) * (26 : Int32)) + (f (x1).toNatClampNeg)) - (65 : Int32)) * (26 : Int32)) + (f ((x1 + (1 : Int32))).toNatClampNeg)) - (65 : Int32))), .val (.int ((x1 + (1 : Int32)) + (1 : Int32)))] [(.int (f (((x1 + (1 : Int32)) + (1 : Int32))).toNatClampNeg)), (.int ((((((((0 : Int32) * (26 : Int32)) + (f (x1).toNatClampNeg)) - (65 : Int32)) * (26 : Int32)) + (f ((x1 + (1 : Int32))).toNatClampNeg)) - (65 : Int32)) * (26 : Int32)))]))
                    refine own_go (fun _ k => XS.iadd X0.here hx rfl (hb hby d7_39) rfl k) ?_
                    show own_G p.tables e below _ (s₁.setTop (mkF m 40 #[.val (.ref x0), .val (.int x1), .val (.int x2), .val (.int (((((((0 : Int32) * (26 : Int32)) + (f (x1).toNatClampNeg)) - (65 : Int32)) * (26 : Int32)) + (f ((x1 + (1 : Int32))).toNatClampNeg)) - (65 : Int32))), .val (.int ((x1 + (1 : Int32)) + (1 : Int32)))] [(.int (((((((((0 : Int32) * (26 : Int32)) + (f (x1).toNatClampNeg)) - (65 : Int32)) * (26 : Int32)) + (f ((x1 + (1 : Int32))).toNatClampNeg)) - (65 : Int32)) * (26 : Int32)) + (f (((x1 + (1 : Int32)) + (1 : Int32))).toNatClampNeg)))]))
                    refine own_go (fun _ k => XS.bipush X0.here hx rfl (hb hby d7_40) k) ?_
                    show own_G p.tables e below _ (s₁.setTop (mkF m 42 #[.val (.ref x0), .val (.int x1), .val (.int x2), .val (.int (((((((0 : Int32) * (26 : Int32)) + (f (x1).toNatClampNeg)) - (65 : Int32)) * (26 : Int32)) + (f ((x1 + (1 : Int32))).toNatClampNeg)) - (65 : Int32))), .val (.int ((x1 + (1 : Int32)) + (1 : Int32)))] [(.int (65 : Int32)), (.int (((((((((0 : Int32) * (26 : Int32)) + (f (x1).toNatClampNeg)) - (65 : Int32)) * (26 : Int32)) + (f ((x1 + (1 : Int32))).toNatClampNeg)) - (65 : Int32)) * (26 : Int32)) + (f (((x1 + (1 : Int32)) + (1 : Int32))).toNatClampNeg)))]))
                    refine own_go (fun _ k => XS.isub X0.here hx rfl (hb hby d7_42) rfl k) ?_
                    show own_G p.tables e below _ (s₁.setTop (mkF m 43 #[.val (.ref x0), .val (.int x1), .val (.int x2), .val (.int (((((((0 : Int32) * (26 : Int32)) + (f (x1).toNatClampNeg)) - (65 : Int32)) * (26 : Int32)) + (f ((x1 + (1 : Int32))).toNatClampNeg)) - (65 : Int32))), .val (.int ((x1 + (1 : Int32)) + (1 : Int32)))] [(.int ((((((((((0 : Int32) * (26 : Int32)) + (f (x1).toNatClampNeg)) - (65 : Int32)) * (26 : Int32)) + (f ((x1 + (1 : Int32))).toNatClampNeg)) - (65 : Int32)) * (26 : Int32)) + (f (((x1 + (1 : Int32)) + (1 : Int32))).toNatClampNeg)) - (65 : Int32)))]))
                    refine own_go (fun _ k => XS.istoreN X0.here hx rfl (hb hby d7_43) rfl (l' := #[.val (.ref x0), .val (.int x1), .val (.int x2), .val (.int ((((((((((0 : Int32) * (26 : Int32)) + (f (x1).toNatClampNeg)) - (65 : Int32)) * (26 : Int32)) + (f ((x1 + (1 : Int32))).toNatClampNeg)) - (65 : Int32)) * (26 : Int32)) + (f (((x1 + (1 : Int32)) + (1 : Int32))).toNatClampNeg)) - (65 : Int32))), .val (.int ((x1 + (1 : Int32)) + (1 : Int32)))]) rfl k) ?_
                    show own_G p.tables e below _ (s₁.setTop (mkF m 44 #[.val (.ref x0), .val (.int x1), .val (.int x2), .val (.int ((((((((((0 : Int32) * (26 : Int32)) + (f (x1).toNatClampNeg)) - (65 : Int32)) * (26 : Int32)) + (f ((x1 + (1 : Int32))).toNatClampNeg)) - (65 : Int32)) * (26 : Int32)) + (f (((x1 + (1 : Int32)) + (1 : Int32))).toNatClampNeg)) - (65 : Int32))), .val (.int ((x1 + (1 : Int32)) + (1 : Int32)))] []))
                    refine own_go (fun _ k => XS.iinc X0.here hx rfl (hb hby d7_44) rfl (l' := #[.val (.ref x0), .val (.int x1), .val (.int x2), .val (.int ((((((((((0 : Int32) * (26 : Int32)) + (f (x1).toNatClampNeg)) - (65 : Int32)) * (26 : Int32)) + (f ((x1 + (1 : Int32))).toNatClampNeg)) - (65 : Int32)) * (26 : Int32)) + (f (((x1 + (1 : Int32)) + (1 : Int32))).toNatClampNeg)) - (65 : Int32))), .val (.int (((x1 + (1 : Int32)) + (1 : Int32)) + (1 : Int32)))]) rfl k) ?_
                    show own_G p.tables e below _ (s₁.setTop (mkF m 47 #[.val (.ref x0), .val (.int x1), .val (.int x2), .val (.int ((((((((((0 : Int32) * (26 : Int32)) + (f (x1).toNatClampNeg)) - (65 : Int32)) * (26 : Int32)) + (f ((x1 + (1 : Int32))).toNatClampNeg)) - (65 : Int32)) * (26 : Int32)) + (f (((x1 + (1 : Int32)) + (1 : Int32))).toNatClampNeg)) - (65 : Int32))), .val (.int (((x1 + (1 : Int32)) + (1 : Int32)) + (1 : Int32)))] []))
                    refine own_go (fun _ k => XS.goto X0.here hx rfl (pc0 := 47) (pc' := 5) rfl (hb hby d7_47) (by decide) (by decide) k) ?_
                    show own_G p.tables e below _ (s₁.setTop (mkF m 5 #[.val (.ref x0), .val (.int x1), .val (.int x2), .val (.int ((((((((((0 : Int32) * (26 : Int32)) + (f (x1).toNatClampNeg)) - (65 : Int32)) * (26 : Int32)) + (f ((x1 + (1 : Int32))).toNatClampNeg)) - (65 : Int32)) * (26 : Int32)) + (f (((x1 + (1 : Int32)) + (1 : Int32))).toNatClampNeg)) - (65 : Int32))), .val (.int (((x1 + (1 : Int32)) + (1 : Int32)) + (1 : Int32)))] []))
                    refine own_go (fun _ k => XS.iload X0.here hx rfl (hb hby d7_5) rfl k) ?_
                    show own_G p.tables e below _ (s₁.setTop (mkF m 7 #[.val (.ref x0), .val (.int x1), .val (.int x2), .val (.int ((((((((((0 : Int32) * (26 : Int32)) + (f (x1).toNatClampNeg)) - (65 : Int32)) * (26 : Int32)) + (f ((x1 + (1 : Int32))).toNatClampNeg)) - (65 : Int32)) * (26 : Int32)) + (f (((x1 + (1 : Int32)) + (1 : Int32))).toNatClampNeg)) - (65 : Int32))), .val (.int (((x1 + (1 : Int32)) + (1 : Int32)) + (1 : Int32)))] [(.int (((x1 + (1 : Int32)) + (1 : Int32)) + (1 : Int32)))]))
                    refine own_go (fun _ k => XS.iloadN X0.here hx rfl (hb hby d7_7) rfl k) ?_
                    show own_G p.tables e below _ (s₁.setTop (mkF m 8 #[.val (.ref x0), .val (.int x1), .val (.int x2), .val (.int ((((((((((0 : Int32) * (26 : Int32)) + (f (x1).toNatClampNeg)) - (65 : Int32)) * (26 : Int32)) + (f ((x1 + (1 : Int32))).toNatClampNeg)) - (65 : Int32)) * (26 : Int32)) + (f (((x1 + (1 : Int32)) + (1 : Int32))).toNatClampNeg)) - (65 : Int32))), .val (.int (((x1 + (1 : Int32)) + (1 : Int32)) + (1 : Int32)))] [(.int x2), (.int (((x1 + (1 : Int32)) + (1 : Int32)) + (1 : Int32)))]))
                    by_cases hc8_36 : (((x1 + (1 : Int32)) + (1 : Int32)) + (1 : Int32)) < x2
                    · refine own_go (fun _ k => XS.icmpNo X0.here hx rfl (hb hby d7_8) rfl ((tlt hc8_36).2.1) k) ?_
                      show own_G p.tables e below _ (s₁.setTop (mkF m 11 #[.val (.ref x0), .val (.int x1), .val (.int x2), .val (.int ((((((((((0 : Int32) * (26 : Int32)) + (f (x1).toNatClampNeg)) - (65 : Int32)) * (26 : Int32)) + (f ((x1 + (1 : Int32))).toNatClampNeg)) - (65 : Int32)) * (26 : Int32)) + (f (((x1 + (1 : Int32)) + (1 : Int32))).toNatClampNeg)) - (65 : Int32))), .val (.int (((x1 + (1 : Int32)) + (1 : Int32)) + (1 : Int32)))] []))
                      refine own_go (fun _ k => XS.aloadN X0.here hx rfl (hb hby d7_11) rfl rfl k) ?_
                      show own_G p.tables e below _ (s₁.setTop (mkF m 12 #[.val (.ref x0), .val (.int x1), .val (.int x2), .val (.int ((((((((((0 : Int32) * (26 : Int32)) + (f (x1).toNatClampNeg)) - (65 : Int32)) * (26 : Int32)) + (f ((x1 + (1 : Int32))).toNatClampNeg)) - (65 : Int32)) * (26 : Int32)) + (f (((x1 + (1 : Int32)) + (1 : Int32))).toNatClampNeg)) - (65 : Int32))), .val (.int (((x1 + (1 : Int32)) + (1 : Int32)) + (1 : Int32)))] [(.ref x0)]))
                      refine own_go (fun _ k => XS.iload X0.here hx rfl (hb hby d7_12) rfl k) ?_
                      show own_G p.tables e below _ (s₁.setTop (mkF m 14 #[.val (.ref x0), .val (.int x1), .val (.int x2), .val (.int ((((((((((0 : Int32) * (26 : Int32)) + (f (x1).toNatClampNeg)) - (65 : Int32)) * (26 : Int32)) + (f ((x1 + (1 : Int32))).toNatClampNeg)) - (65 : Int32)) * (26 : Int32)) + (f (((x1 + (1 : Int32)) + (1 : Int32))).toNatClampNeg)) - (65 : Int32))), .val (.int (((x1 + (1 : Int32)) + (1 : Int32)) + (1 : Int32)))] [(.int (((x1 + (1 : Int32)) + (1 : Int32)) + (1 : Int32))), (.ref x0)]))
                      obtain ⟨cl37, Ar37, hin37, hat37⟩ := own_rd V (own_inc (own_inc (own_inc hf hc8_18 ht) hc8_24 ht) hc8_30 ht) (own_hi hc8_36 ht)
                      refine own_go (fun _ k => X0.caload hx (j := (((x1 + (1 : Int32)) + (1 : Int32)) + (1 : Int32))) (v := (.int (f ((((x1 + (1 : Int32)) + (1 : Int32)) + (1 : Int32))).toNatClampNeg))) (by rw [e0]; exact Ar37.1) (State.isArrayOf_alike hZ.alike Ar37.2.1) Ar37.2.2 hin37 hat37 (g := (mkF m 14 #[.val (.ref x0), .val (.int x1), .val (.int x2), .val (.int ((((((((((0 : Int32) * (26 : Int32)) + (f (x1).toNatClampNeg)) - (65 : Int32)) * (26 : Int32)) + (f ((x1 + (1 : Int32))).toNatClampNeg)) - (65 : Int32)) * (26 : Int32)) + (f (((x1 + (1 : Int32)) + (1 : Int32))).toNatClampNeg)) - (65 : Int32))), .val (.int (((x1 + (1 : Int32)) + (1 : Int32)) + (1 : Int32)))] [(.int (((x1 + (1 : Int32)) + (1 : Int32)) + (1 : Int32))), (.ref x0)])) rfl rfl (hb hby d7_14) _ k) ?_
                      show own_G p.tables e below _ (s₁.setTop (mkF m 15 #[.val (.ref x0), .val (.int x1), .val (.int x2), .val (.int ((((((((((0 : Int32) * (26 : Int32)) + (f (x1).toNatClampNeg)) - (65 : Int32)) * (26 : Int32)) + (f ((x1 + (1 : Int32))).toNatClampNeg)) - (65 : Int32)) * (26 : Int32)) + (f (((x1 + (1 : Int32)) + (1 : Int32))).toNatClampNeg)) - (65 : Int32))), .val (.int (((x1 + (1 : Int32)) + (1 : Int32)) + (1 : Int32)))] [(.int (f ((((x1 + (1 : Int32)) + (1 : Int32)) + (1 : Int32))).toNatClampNeg))]))
                      refine own_go (fun _ k => XS.bipush X0.here hx rfl (hb hby d7_15) k) ?_
                      show own_G p.tables e below _ (s₁.setTop (mkF m 17 #[.val (.ref x0), .val (.int x1), .val (.int x2), .val (.int ((((((((((0 : Int32) * (26 : Int32)) + (f (x1).toNatClampNeg)) - (65 : Int32)) * (26 : Int32)) + (f ((x1 + (1 : Int32))).toNatClampNeg)) - (65 : Int32)) * (26 : Int32)) + (f (((x1 + (1 : Int32)) + (1 : Int32))).toNatClampNeg)) - (65 : Int32))), .val (.int (((x1 + (1 : Int32)) + (1 : Int32)) + (1 : Int32)))] [(.int (65 : Int32)), (.int (f ((((x1 + (1 : Int32)) + (1 : Int32)) + (1 : Int32))).toNatClampNeg))]))
                      by_cases hc17_38 : (f ((((x1 + (1 : Int32)) + (1 : Int32)) + (1 : Int32))).toNatClampNeg) < (65 : Int32)
                      · refine own_go (fun _ k => XS.icmpYes X0.here hx rfl (pc0 := 17) (pc' := 29) rfl (hb hby d7_17) rfl ((tlt hc17_38).1) (by decide) (by decide) k) ?_
                        show own_G p.tables e below _ (s₁.setTop (mkF m 29 #[.val (.ref x0), .val (.int x1), .val (.int x2), .val (.int ((((((((((0 : Int32) * (26 : Int32)) + (f (x1).toNatClampNeg)) - (65 : Int32)) * (26 : Int32)) + (f ((x1 + (1 : Int32))).toNatClampNeg)) - (65 : Int32)) * (26 : Int32)) + (f (((x1 + (1 : Int32)) + (1 : Int32))).toNatClampNeg)) - (65 : Int32))), .val (.int (((x1 + (1 : Int32)) + (1 : Int32)) + (1 : Int32)))] []))
                        refine own_go (fun _ k => XS.iconst X0.here hx rfl (hb hby d7_29) k) ?_
                        show own_G p.tables e below _ (s₁.setTop (mkF m 30 #[.val (.ref x0), .val (.int x1), .val (.int x2), .val (.int ((((((((((0 : Int32) * (26 : Int32)) + (f (x1).toNatClampNeg)) - (65 : Int32)) * (26 : Int32)) + (f ((x1 + (1 : Int32))).toNatClampNeg)) - (65 : Int32)) * (26 : Int32)) + (f (((x1 + (1 : Int32)) + (1 : Int32))).toNatClampNeg)) - (65 : Int32))), .val (.int (((x1 + (1 : Int32)) + (1 : Int32)) + (1 : Int32)))] [(.int (-1 : Int32))]))
                        exact own_end X0 Bd.notSynchronized (v := some (.int (-1 : Int32))) (fun h => by rw [Bd.returns] at h; cases h) (Q := QP (some (.int (F7 x1 x2 f))) h0) ⟨by unfold F7; simp only [if_pos hc8_18, if_neg hc17_20, if_neg hc26_22, if_pos hc8_24, if_neg hc17_26, if_neg hc26_28, if_pos hc8_30, if_neg hc17_32, if_neg hc26_34, if_pos hc8_36, if_pos hc17_38]; try rfl, rfl, e0⟩ (fun fs hr => retI X0 hx Bd.returns (hb hby d7_30) hr) (by decide) (by decide)
                      · refine own_go (fun _ k => XS.icmpNo X0.here hx rfl (hb hby d7_17) rfl ((flt hc17_38).1) k) ?_
                        show own_G p.tables e below _ (s₁.setTop (mkF m 20 #[.val (.ref x0), .val (.int x1), .val (.int x2), .val (.int ((((((((((0 : Int32) * (26 : Int32)) + (f (x1).toNatClampNeg)) - (65 : Int32)) * (26 : Int32)) + (f ((x1 + (1 : Int32))).toNatClampNeg)) - (65 : Int32)) * (26 : Int32)) + (f (((x1 + (1 : Int32)) + (1 : Int32))).toNatClampNeg)) - (65 : Int32))), .val (.int (((x1 + (1 : Int32)) + (1 : Int32)) + (1 : Int32)))] []))
                        refine own_go (fun _ k => XS.aloadN X0.here hx rfl (hb hby d7_20) rfl rfl k) ?_
                        show own_G p.tables e below _ (s₁.setTop (mkF m 21 #[.val (.ref x0), .val (.int x1), .val (.int x2), .val (.int ((((((((((0 : Int32) * (26 : Int32)) + (f (x1).toNatClampNeg)) - (65 : Int32)) * (26 : Int32)) + (f ((x1 + (1 : Int32))).toNatClampNeg)) - (65 : Int32)) * (26 : Int32)) + (f (((x1 + (1 : Int32)) + (1 : Int32))).toNatClampNeg)) - (65 : Int32))), .val (.int (((x1 + (1 : Int32)) + (1 : Int32)) + (1 : Int32)))] [(.ref x0)]))
                        refine own_go (fun _ k => XS.iload X0.here hx rfl (hb hby d7_21) rfl k) ?_
                        show own_G p.tables e below _ (s₁.setTop (mkF m 23 #[.val (.ref x0), .val (.int x1), .val (.int x2), .val (.int ((((((((((0 : Int32) * (26 : Int32)) + (f (x1).toNatClampNeg)) - (65 : Int32)) * (26 : Int32)) + (f ((x1 + (1 : Int32))).toNatClampNeg)) - (65 : Int32)) * (26 : Int32)) + (f (((x1 + (1 : Int32)) + (1 : Int32))).toNatClampNeg)) - (65 : Int32))), .val (.int (((x1 + (1 : Int32)) + (1 : Int32)) + (1 : Int32)))] [(.int (((x1 + (1 : Int32)) + (1 : Int32)) + (1 : Int32))), (.ref x0)]))
                        obtain ⟨cl39, Ar39, hin39, hat39⟩ := own_rd V (own_inc (own_inc (own_inc hf hc8_18 ht) hc8_24 ht) hc8_30 ht) (own_hi hc8_36 ht)
                        refine own_go (fun _ k => X0.caload hx (j := (((x1 + (1 : Int32)) + (1 : Int32)) + (1 : Int32))) (v := (.int (f ((((x1 + (1 : Int32)) + (1 : Int32)) + (1 : Int32))).toNatClampNeg))) (by rw [e0]; exact Ar39.1) (State.isArrayOf_alike hZ.alike Ar39.2.1) Ar39.2.2 hin39 hat39 (g := (mkF m 23 #[.val (.ref x0), .val (.int x1), .val (.int x2), .val (.int ((((((((((0 : Int32) * (26 : Int32)) + (f (x1).toNatClampNeg)) - (65 : Int32)) * (26 : Int32)) + (f ((x1 + (1 : Int32))).toNatClampNeg)) - (65 : Int32)) * (26 : Int32)) + (f (((x1 + (1 : Int32)) + (1 : Int32))).toNatClampNeg)) - (65 : Int32))), .val (.int (((x1 + (1 : Int32)) + (1 : Int32)) + (1 : Int32)))] [(.int (((x1 + (1 : Int32)) + (1 : Int32)) + (1 : Int32))), (.ref x0)])) rfl rfl (hb hby d7_23) _ k) ?_
                        show own_G p.tables e below _ (s₁.setTop (mkF m 24 #[.val (.ref x0), .val (.int x1), .val (.int x2), .val (.int ((((((((((0 : Int32) * (26 : Int32)) + (f (x1).toNatClampNeg)) - (65 : Int32)) * (26 : Int32)) + (f ((x1 + (1 : Int32))).toNatClampNeg)) - (65 : Int32)) * (26 : Int32)) + (f (((x1 + (1 : Int32)) + (1 : Int32))).toNatClampNeg)) - (65 : Int32))), .val (.int (((x1 + (1 : Int32)) + (1 : Int32)) + (1 : Int32)))] [(.int (f ((((x1 + (1 : Int32)) + (1 : Int32)) + (1 : Int32))).toNatClampNeg))]))
                        refine own_go (fun _ k => XS.bipush X0.here hx rfl (hb hby d7_24) k) ?_
                        show own_G p.tables e below _ (s₁.setTop (mkF m 26 #[.val (.ref x0), .val (.int x1), .val (.int x2), .val (.int ((((((((((0 : Int32) * (26 : Int32)) + (f (x1).toNatClampNeg)) - (65 : Int32)) * (26 : Int32)) + (f ((x1 + (1 : Int32))).toNatClampNeg)) - (65 : Int32)) * (26 : Int32)) + (f (((x1 + (1 : Int32)) + (1 : Int32))).toNatClampNeg)) - (65 : Int32))), .val (.int (((x1 + (1 : Int32)) + (1 : Int32)) + (1 : Int32)))] [(.int (90 : Int32)), (.int (f ((((x1 + (1 : Int32)) + (1 : Int32)) + (1 : Int32))).toNatClampNeg))]))
                        by_cases hc26_40 : (90 : Int32) < (f ((((x1 + (1 : Int32)) + (1 : Int32)) + (1 : Int32))).toNatClampNeg)
                        · refine own_go (fun _ k => XS.icmpNo X0.here hx rfl (hb hby d7_26) rfl ((tlt hc26_40).2.2.2) k) ?_
                          show own_G p.tables e below _ (s₁.setTop (mkF m 29 #[.val (.ref x0), .val (.int x1), .val (.int x2), .val (.int ((((((((((0 : Int32) * (26 : Int32)) + (f (x1).toNatClampNeg)) - (65 : Int32)) * (26 : Int32)) + (f ((x1 + (1 : Int32))).toNatClampNeg)) - (65 : Int32)) * (26 : Int32)) + (f (((x1 + (1 : Int32)) + (1 : Int32))).toNatClampNeg)) - (65 : Int32))), .val (.int (((x1 + (1 : Int32)) + (1 : Int32)) + (1 : Int32)))] []))
                          refine own_go (fun _ k => XS.iconst X0.here hx rfl (hb hby d7_29) k) ?_
                          show own_G p.tables e below _ (s₁.setTop (mkF m 30 #[.val (.ref x0), .val (.int x1), .val (.int x2), .val (.int ((((((((((0 : Int32) * (26 : Int32)) + (f (x1).toNatClampNeg)) - (65 : Int32)) * (26 : Int32)) + (f ((x1 + (1 : Int32))).toNatClampNeg)) - (65 : Int32)) * (26 : Int32)) + (f (((x1 + (1 : Int32)) + (1 : Int32))).toNatClampNeg)) - (65 : Int32))), .val (.int (((x1 + (1 : Int32)) + (1 : Int32)) + (1 : Int32)))] [(.int (-1 : Int32))]))
                          exact own_end X0 Bd.notSynchronized (v := some (.int (-1 : Int32))) (fun h => by rw [Bd.returns] at h; cases h) (Q := QP (some (.int (F7 x1 x2 f))) h0) ⟨by unfold F7; simp only [if_pos hc8_18, if_neg hc17_20, if_neg hc26_22, if_pos hc8_24, if_neg hc17_26, if_neg hc26_28, if_pos hc8_30, if_neg hc17_32, if_neg hc26_34, if_pos hc8_36, if_neg hc17_38, if_pos hc26_40]; try rfl, rfl, e0⟩ (fun fs hr => retI X0 hx Bd.returns (hb hby d7_30) hr) (by decide) (by decide)
                        · refine own_go (fun _ k => XS.icmpYes X0.here hx rfl (pc0 := 26) (pc' := 31) rfl (hb hby d7_26) rfl ((flt hc26_40).2.2.2) (by decide) (by decide) k) ?_
                          show own_G p.tables e below _ (s₁.setTop (mkF m 31 #[.val (.ref x0), .val (.int x1), .val (.int x2), .val (.int ((((((((((0 : Int32) * (26 : Int32)) + (f (x1).toNatClampNeg)) - (65 : Int32)) * (26 : Int32)) + (f ((x1 + (1 : Int32))).toNatClampNeg)) - (65 : Int32)) * (26 : Int32)) + (f (((x1 + (1 : Int32)) + (1 : Int32))).toNatClampNeg)) - (65 : Int32))), .val (.int (((x1 + (1 : Int32)) + (1 : Int32)) + (1 : Int32)))] []))
                          refine own_go (fun _ k => XS.iloadN X0.here hx rfl (hb hby d7_31) rfl k) ?_
                          show own_G p.tables e below _ (s₁.setTop (mkF m 32 #[.val (.ref x0), .val (.int x1), .val (.int x2), .val (.int ((((((((((0 : Int32) * (26 : Int32)) + (f (x1).toNatClampNeg)) - (65 : Int32)) * (26 : Int32)) + (f ((x1 + (1 : Int32))).toNatClampNeg)) - (65 : Int32)) * (26 : Int32)) + (f (((x1 + (1 : Int32)) + (1 : Int32))).toNatClampNeg)) - (65 : Int32))), .val (.int (((x1 + (1 : Int32)) + (1 : Int32)) + (1 : Int32)))] [(.int ((((((((((0 : Int32) * (26 : Int32)) + (f (x1).toNatClampNeg)) - (65 : Int32)) * (26 : Int32)) + (f ((x1 + (1 : Int32))).toNatClampNeg)) - (65 : Int32)) * (26 : Int32)) + (f (((x1 + (1 : Int32)) + (1 : Int32))).toNatClampNeg)) - (65 : Int32)))]))
                          refine own_go (fun _ k => XS.bipush X0.here hx rfl (hb hby d7_32) k) ?_
                          show own_G p.tables e below _ (s₁.setTop (mkF m 34 #[.val (.ref x0), .val (.int x1), .val (.int x2), .val (.int ((((((((((0 : Int32) * (26 : Int32)) + (f (x1).toNatClampNeg)) - (65 : Int32)) * (26 : Int32)) + (f ((x1 + (1 : Int32))).toNatClampNeg)) - (65 : Int32)) * (26 : Int32)) + (f (((x1 + (1 : Int32)) + (1 : Int32))).toNatClampNeg)) - (65 : Int32))), .val (.int (((x1 + (1 : Int32)) + (1 : Int32)) + (1 : Int32)))] [(.int (26 : Int32)), (.int ((((((((((0 : Int32) * (26 : Int32)) + (f (x1).toNatClampNeg)) - (65 : Int32)) * (26 : Int32)) + (f ((x1 + (1 : Int32))).toNatClampNeg)) - (65 : Int32)) * (26 : Int32)) + (f (((x1 + (1 : Int32)) + (1 : Int32))).toNatClampNeg)) - (65 : Int32)))]))
                          refine own_go (fun _ k => XS.imul X0.here hx rfl (hb hby d7_34) rfl k) ?_
                          show own_G p.tables e below _ (s₁.setTop (mkF m 35 #[.val (.ref x0), .val (.int x1), .val (.int x2), .val (.int ((((((((((0 : Int32) * (26 : Int32)) + (f (x1).toNatClampNeg)) - (65 : Int32)) * (26 : Int32)) + (f ((x1 + (1 : Int32))).toNatClampNeg)) - (65 : Int32)) * (26 : Int32)) + (f (((x1 + (1 : Int32)) + (1 : Int32))).toNatClampNeg)) - (65 : Int32))), .val (.int (((x1 + (1 : Int32)) + (1 : Int32)) + (1 : Int32)))] [(.int (((((((((((0 : Int32) * (26 : Int32)) + (f (x1).toNatClampNeg)) - (65 : Int32)) * (26 : Int32)) + (f ((x1 + (1 : Int32))).toNatClampNeg)) - (65 : Int32)) * (26 : Int32)) + (f (((x1 + (1 : Int32)) + (1 : Int32))).toNatClampNeg)) - (65 : Int32)) * (26 : Int32)))]))
                          refine own_go (fun _ k => XS.aloadN X0.here hx rfl (hb hby d7_35) rfl rfl k) ?_
                          show own_G p.tables e below _ (s₁.setTop (mkF m 36 #[.val (.ref x0), .val (.int x1), .val (.int x2), .val (.int ((((((((((0 : Int32) * (26 : Int32)) + (f (x1).toNatClampNeg)) - (65 : Int32)) * (26 : Int32)) + (f ((x1 + (1 : Int32))).toNatClampNeg)) - (65 : Int32)) * (26 : Int32)) + (f (((x1 + (1 : Int32)) + (1 : Int32))).toNatClampNeg)) - (65 : Int32))), .val (.int (((x1 + (1 : Int32)) + (1 : Int32)) + (1 : Int32)))] [(.ref x0), (.int (((((((((((0 : Int32) * (26 : Int32)) + (f (x1).toNatClampNeg)) - (65 : Int32)) * (26 : Int32)) + (f ((x1 + (1 : Int32))).toNatClampNeg)) - (65 : Int32)) * (26 : Int32)) + (f (((x1 + (1 : Int32)) + (1 : Int32))).toNatClampNeg)) - (65 : Int32)) * (26 : Int32)))]))
                          refine own_go (fun _ k => XS.iload X0.here hx rfl (hb hby d7_36) rfl k) ?_
                          show own_G p.tables e below _ (s₁.setTop (mkF m 38 #[.val (.ref x0), .val (.int x1), .val (.int x2), .val (.int ((((((((((0 : Int32) * (26 : Int32)) + (f (x1).toNatClampNeg)) - (65 : Int32)) * (26 : Int32)) + (f ((x1 + (1 : Int32))).toNatClampNeg)) - (65 : Int32)) * (26 : Int32)) + (f (((x1 + (1 : Int32)) + (1 : Int32))).toNatClampNeg)) - (65 : Int32))), .val (.int (((x1 + (1 : Int32)) + (1 : Int32)) + (1 : Int32)))] [(.int (((x1 + (1 : Int32)) + (1 : Int32)) + (1 : Int32))), (.ref x0), (.int (((((((((((0 : Int32) * (26 : Int32)) + (f (x1).toNatClampNeg)) - (65 : Int32)) * (26 : Int32)) + (f ((x1 + (1 : Int32))).toNatClampNeg)) - (65 : Int32)) * (26 : Int32)) + (f (((x1 + (1 : Int32)) + (1 : Int32))).toNatClampNeg)) - (65 : Int32)) * (26 : Int32)))]))
                          obtain ⟨cl41, Ar41, hin41, hat41⟩ := own_rd V (own_inc (own_inc (own_inc hf hc8_18 ht) hc8_24 ht) hc8_30 ht) (own_hi hc8_36 ht)
                          refine own_go (fun _ k => X0.caload hx (j := (((x1 + (1 : Int32)) + (1 : Int32)) + (1 : Int32))) (v := (.int (f ((((x1 + (1 : Int32)) + (1 : Int32)) + (1 : Int32))).toNatClampNeg))) (by rw [e0]; exact Ar41.1) (State.isArrayOf_alike hZ.alike Ar41.2.1) Ar41.2.2 hin41 hat41 (g := (mkF m 38 #[.val (.ref x0), .val (.int x1), .val (.int x2), .val (.int ((((((((((0 : Int32) * (26 : Int32)) + (f (x1).toNatClampNeg)) - (65 : Int32)) * (26 : Int32)) + (f ((x1 + (1 : Int32))).toNatClampNeg)) - (65 : Int32)) * (26 : Int32)) + (f (((x1 + (1 : Int32)) + (1 : Int32))).toNatClampNeg)) - (65 : Int32))), .val (.int (((x1 + (1 : Int32)) + (1 : Int32)) + (1 : Int32)))] [(.int (((x1 + (1 : Int32)) + (1 : Int32)) + (1 : Int32))), (.ref x0), (.int (((((((((((0 : Int32) * (26 : Int32)) + (f (x1).toNatClampNeg)) - (65 : Int32)) * (26 : Int32)) + (f ((x1 + (1 : Int32))).toNatClampNeg)) - (65 : Int32)) * (26 : Int32)) + (f (((x1 + (1 : Int32)) + (1 : Int32))).toNatClampNeg)) - (65 : Int32)) * (26 : Int32)))])) rfl rfl (hb hby d7_38) _ k) ?_
                          show own_G p.tables e below _ (s₁.setTop (mkF m 39 #[.val (.ref x0), .val (.int x1), .val (.int x2), .val (.int ((((((((((0 : Int32) * (26 : Int32)) + (f (x1).toNatClampNeg)) - (65 : Int32)) * (26 : Int32)) + (f ((x1 + (1 : Int32))).toNatClampNeg)) - (65 : Int32)) * (26 : Int32)) + (f (((x1 + (1 : Int32)) + (1 : Int32))).toNatClampNeg)) - (65 : Int32))), .val (.int (((x1 + (1 : Int32)) + (1 : Int32)) + (1 : Int32)))] [(.int (f ((((x1 + (1 : Int32)) + (1 : Int32)) + (1 : Int32))).toNatClampNeg)), (.int (((((((((((0 : Int32) * (26 : Int32)) + (f (x1).toNatClampNeg)) - (65 : Int32)) * (26 : Int32)) + (f ((x1 + (1 : Int32))).toNatClampNeg)) - (65 : Int32)) * (26 : Int32)) + (f (((x1 + (1 : Int32)) + (1 : Int32))).toNatClampNeg)) - (65 : Int32)) * (26 : Int32)))]))
                          refine own_go (fun _ k => XS.iadd X0.here hx rfl (hb hby d7_39) rfl k) ?_
                          show own_G p.tables e below _ (s₁.setTop (mkF m 40 #[.val (.ref x0), .val (.int x1), .val (.int x2), .val (.int ((((((((((0 : Int32) * (26 : Int32)) + (f (x1).toNatClampNeg)) - (65 : Int32)) * (26 : Int32)) + (f ((x1 + (1 : Int32))).toNatClampNeg)) - (65 : Int32)) * (26 : Int32)) + (f (((x1 + (1 : Int32)) + (1 : Int32))).toNatClampNeg)) - (65 : Int32))), .val (.int (((x1 + (1 : Int32)) + (1 : Int32)) + (1 : Int32)))] [(.int ((((((((((((0 : Int32) * (26 : Int32)) + (f (x1).toNatClampNeg)) - (65 : Int32)) * (26 : Int32)) + (f ((x1 + (1 : Int32))).toNatClampNeg)) - (65 : Int32)) * (26 : Int32)) + (f (((x1 + (1 : Int32)) + (1 : Int32))).toNatClampNeg)) - (65 : Int32)) * (26 : Int32)) + (f ((((x1 + (1 : Int32)) + (1 : Int32)) + (1 : Int32))).toNatClampNeg)))]))
                          refine own_go (fun _ k => XS.bipush X0.here hx rfl (hb hby d7_40) k) ?_
                          show own_G p.tables e below _ (s₁.setTop (mkF m 42 #[.val (.ref x0), .val (.int x1), .val (.int x2), .val (.int ((((((((((0 : Int32) * (26 : Int32)) + (f (x1).toNatClampNeg)) - (65 : Int32)) * (26 : Int32)) + (f ((x1 + (1 : Int32))).toNatClampNeg)) - (65 : Int32)) * (26 : Int32)) + (f (((x1 + (1 : Int32)) + (1 : Int32))).toNatClampNeg)) - (65 : Int32))), .val (.int (((x1 + (1 : Int32)) + (1 : Int32)) + (1 : Int32)))] [(.int (65 : Int32)), (.int ((((((((((((0 : Int32) * (26 : Int32)) + (f (x1).toNatClampNeg)) - (65 : Int32)) * (26 : Int32)) + (f ((x1 + (1 : Int32))).toNatClampNeg)) - (65 : Int32)) * (26 : Int32)) + (f (((x1 + (1 : Int32)) + (1 : Int32))).toNatClampNeg)) - (65 : Int32)) * (26 : Int32)) + (f ((((x1 + (1 : Int32)) + (1 : Int32)) + (1 : Int32))).toNatClampNeg)))]))
                          refine own_go (fun _ k => XS.isub X0.here hx rfl (hb hby d7_42) rfl k) ?_
                          show own_G p.tables e below _ (s₁.setTop (mkF m 43 #[.val (.ref x0), .val (.int x1), .val (.int x2), .val (.int ((((((((((0 : Int32) * (26 : Int32)) + (f (x1).toNatClampNeg)) - (65 : Int32)) * (26 : Int32)) + (f ((x1 + (1 : Int32))).toNatClampNeg)) - (65 : Int32)) * (26 : Int32)) + (f (((x1 + (1 : Int32)) + (1 : Int32))).toNatClampNeg)) - (65 : Int32))), .val (.int (((x1 + (1 : Int32)) + (1 : Int32)) + (1 : Int32)))] [(.int (((((((((((((0 : Int32) * (26 : Int32)) + (f (x1).toNatClampNeg)) - (65 : Int32)) * (26 : Int32)) + (f ((x1 + (1 : Int32))).toNatClampNeg)) - (65 : Int32)) * (26 : Int32)) + (f (((x1 + (1 : Int32)) + (1 : Int32))).toNatClampNeg)) - (65 : Int32)) * (26 : Int32)) + (f ((((x1 + (1 : Int32)) + (1 : Int32)) + (1 : Int32))).toNatClampNeg)) - (65 : Int32)))]))
                          refine own_go (fun _ k => XS.istoreN X0.here hx rfl (hb hby d7_43) rfl (l' := #[.val (.ref x0), .val (.int x1), .val (.int x2), .val (.int (((((((((((((0 : Int32) * (26 : Int32)) + (f (x1).toNatClampNeg)) - (65 : Int32)) * (26 : Int32)) + (f ((x1 + (1 : Int32))).toNatClampNeg)) - (65 : Int32)) * (26 : Int32)) + (f (((x1 + (1 : Int32)) + (1 : Int32))).toNatClampNeg)) - (65 : Int32)) * (26 : Int32)) + (f ((((x1 + (1 : Int32)) + (1 : Int32)) + (1 : Int32))).toNatClampNeg)) - (65 : Int32))), .val (.int (((x1 + (1 : Int32)) + (1 : Int32)) + (1 : Int32)))]) rfl k) ?_
                          show own_G p.tables e below _ (s₁.setTop (mkF m 44 #[.val (.ref x0), .val (.int x1), .val (.int x2), .val (.int (((((((((((((0 : Int32) * (26 : Int32)) + (f (x1).toNatClampNeg)) - (65 : Int32)) * (26 : Int32)) + (f ((x1 + (1 : Int32))).toNatClampNeg)) - (65 : Int32)) * (26 : Int32)) + (f (((x1 + (1 : Int32)) + (1 : Int32))).toNatClampNeg)) - (65 : Int32)) * (26 : Int32)) + (f ((((x1 + (1 : Int32)) + (1 : Int32)) + (1 : Int32))).toNatClampNeg)) - (65 : Int32))), .val (.int (((x1 + (1 : Int32)) + (1 : Int32)) + (1 : Int32)))] []))
                          refine own_go (fun _ k => XS.iinc X0.here hx rfl (hb hby d7_44) rfl (l' := #[.val (.ref x0), .val (.int x1), .val (.int x2), .val (.int (((((((((((((0 : Int32) * (26 : Int32)) + (f (x1).toNatClampNeg)) - (65 : Int32)) * (26 : Int32)) + (f ((x1 + (1 : Int32))).toNatClampNeg)) - (65 : Int32)) * (26 : Int32)) + (f (((x1 + (1 : Int32)) + (1 : Int32))).toNatClampNeg)) - (65 : Int32)) * (26 : Int32)) + (f ((((x1 + (1 : Int32)) + (1 : Int32)) + (1 : Int32))).toNatClampNeg)) - (65 : Int32))), .val (.int ((((x1 + (1 : Int32)) + (1 : Int32)) + (1 : Int32)) + (1 : Int32)))]) rfl k) ?_
                          show own_G p.tables e below _ (s₁.setTop (mkF m 47 #[.val (.ref x0), .val (.int x1), .val (.int x2), .val (.int (((((((((((((0 : Int32) * (26 : Int32)) + (f (x1).toNatClampNeg)) - (65 : Int32)) * (26 : Int32)) + (f ((x1 + (1 : Int32))).toNatClampNeg)) - (65 : Int32)) * (26 : Int32)) + (f (((x1 + (1 : Int32)) + (1 : Int32))).toNatClampNeg)) - (65 : Int32)) * (26 : Int32)) + (f ((((x1 + (1 : Int32)) + (1 : Int32)) + (1 : Int32))).toNatClampNeg)) - (65 : Int32))), .val (.int ((((x1 + (1 : Int32)) + (1 : Int32)) + (1 : Int32)) + (1 : Int32)))] []))
                          refine own_go (fun _ k => XS.goto X0.here hx rfl (pc0 := 47) (pc' := 5) rfl (hb hby d7_47) (by decide) (by decide) k) ?_
                          show own_G p.tables e below _ (s₁.setTop (mkF m 5 #[.val (.ref x0), .val (.int x1), .val (.int x2), .val (.int (((((((((((((0 : Int32) * (26 : Int32)) + (f (x1).toNatClampNeg)) - (65 : Int32)) * (26 : Int32)) + (f ((x1 + (1 : Int32))).toNatClampNeg)) - (65 : Int32)) * (26 : Int32)) + (f (((x1 + (1 : Int32)) + (1 : Int32))).toNatClampNeg)) - (65 : Int32)) * (26 : Int32)) + (f ((((x1 + (1 : Int32)) + (1 : Int32)) + (1 : Int32))).toNatClampNeg)) - (65 : Int32))), .val (.int ((((x1 + (1 : Int32)) + (1 : Int32)) + (1 : Int32)) + (1 : Int32)))] []))
                          refine own_go (fun _ k => XS.iload X0.here hx rfl (hb hby d7_5) rfl k) ?_
                          show own_G p.tables e below _ (s₁.setTop (mkF m 7 #[.val (.ref x0), .val (.int x1), .val (.int x2), .val (.int (((((((((((((0 : Int32) * (26 : Int32)) + (f (x1).toNatClampNeg)) - (65 : Int32)) * (26 : Int32)) + (f ((x1 + (1 : Int32))).toNatClampNeg)) - (65 : Int32)) * (26 : Int32)) + (f (((x1 + (1 : Int32)) + (1 : Int32))).toNatClampNeg)) - (65 : Int32)) * (26 : Int32)) + (f ((((x1 + (1 : Int32)) + (1 : Int32)) + (1 : Int32))).toNatClampNeg)) - (65 : Int32))), .val (.int ((((x1 + (1 : Int32)) + (1 : Int32)) + (1 : Int32)) + (1 : Int32)))] [(.int ((((x1 + (1 : Int32)) + (1 : Int32)) + (1 : Int32)) + (1 : Int32)))]))
                          refine own_go (fun _ k => XS.iloadN X0.here hx rfl (hb hby d7_7) rfl k) ?_
                          show own_G p.tables e below _ (s₁.setTop (mkF m 8 #[.val (.ref x0), .val (.int x1), .val (.int x2), .val (.int (((((((((((((0 : Int32) * (26 : Int32)) + (f (x1).toNatClampNeg)) - (65 : Int32)) * (26 : Int32)) + (f ((x1 + (1 : Int32))).toNatClampNeg)) - (65 : Int32)) * (26 : Int32)) + (f (((x1 + (1 : Int32)) + (1 : Int32))).toNatClampNeg)) - (65 : Int32)) * (26 : Int32)) + (f ((((x1 + (1 : Int32)) + (1 : Int32)) + (1 : Int32))).toNatClampNeg)) - (65 : Int32))), .val (.int ((((x1 + (1 : Int32)) + (1 : Int32)) + (1 : Int32)) + (1 : Int32)))] [(.int x2), (.int ((((x1 + (1 : Int32)) + (1 : Int32)) + (1 : Int32)) + (1 : Int32)))]))
                          refine own_go (fun _ k => XS.icmpYes X0.here hx rfl (pc0 := 8) (pc' := 50) rfl (hb hby d7_8) rfl ((flt (own_last hf ht hc8_18 hc8_36)).2.1) (by decide) (by decide) k) ?_
                          show own_G p.tables e below _ (s₁.setTop (mkF m 50 #[.val (.ref x0), .val (.int x1), .val (.int x2), .val (.int (((((((((((((0 : Int32) * (26 : Int32)) + (f (x1).toNatClampNeg)) - (65 : Int32)) * (26 : Int32)) + (f ((x1 + (1 : Int32))).toNatClampNeg)) - (65 : Int32)) * (26 : Int32)) + (f (((x1 + (1 : Int32)) + (1 : Int32))).toNatClampNeg)) - (65 : Int32)) * (26 : Int32)) + (f ((((x1 + (1 : Int32)) + (1 : Int32)) + (1 : Int32))).toNatClampNeg)) - (65 : Int32))), .val (.int ((((x1 + (1 : Int32)) + (1 : Int32)) + (1 : Int32)) + (1 : Int32)))] []))
                          refine own_go (fun _ k => XS.iloadN X0.here hx rfl (hb hby d7_50) rfl k) ?_
                          show own_G p.tables e below _ (s₁.setTop (mkF m 51 #[.val (.ref x0), .val (.int x1), .val (.int x2), .val (.int (((((((((((((0 : Int32) * (26 : Int32)) + (f (x1).toNatClampNeg)) - (65 : Int32)) * (26 : Int32)) + (f ((x1 + (1 : Int32))).toNatClampNeg)) - (65 : Int32)) * (26 : Int32)) + (f (((x1 + (1 : Int32)) + (1 : Int32))).toNatClampNeg)) - (65 : Int32)) * (26 : Int32)) + (f ((((x1 + (1 : Int32)) + (1 : Int32)) + (1 : Int32))).toNatClampNeg)) - (65 : Int32))), .val (.int ((((x1 + (1 : Int32)) + (1 : Int32)) + (1 : Int32)) + (1 : Int32)))] [(.int (((((((((((((0 : Int32) * (26 : Int32)) + (f (x1).toNatClampNeg)) - (65 : Int32)) * (26 : Int32)) + (f ((x1 + (1 : Int32))).toNatClampNeg)) - (65 : Int32)) * (26 : Int32)) + (f (((x1 + (1 : Int32)) + (1 : Int32))).toNatClampNeg)) - (65 : Int32)) * (26 : Int32)) + (f ((((x1 + (1 : Int32)) + (1 : Int32)) + (1 : Int32))).toNatClampNeg)) - (65 : Int32)))]))
                          exact own_end X0 Bd.notSynchronized (v := some (.int (((((((((((((0 : Int32) * (26 : Int32)) + (f (x1).toNatClampNeg)) - (65 : Int32)) * (26 : Int32)) + (f ((x1 + (1 : Int32))).toNatClampNeg)) - (65 : Int32)) * (26 : Int32)) + (f (((x1 + (1 : Int32)) + (1 : Int32))).toNatClampNeg)) - (65 : Int32)) * (26 : Int32)) + (f ((((x1 + (1 : Int32)) + (1 : Int32)) + (1 : Int32))).toNatClampNeg)) - (65 : Int32)))) (fun h => by rw [Bd.returns] at h; cases h) (Q := QP (some (.int (F7 x1 x2 f))) h0) ⟨by unfold F7; simp only [if_pos hc8_18, if_neg hc17_20, if_neg hc26_22, if_pos hc8_24, if_neg hc17_26, if_neg hc26_28, if_pos hc8_30, if_neg hc17_32, if_neg hc26_34, if_pos hc8_36, if_neg hc17_38, if_neg hc26_40]; try rfl, rfl, e0⟩ (fun fs hr => retI X0 hx Bd.returns (hb hby d7_51) hr) (by decide) (by decide)
                    · refine own_go (fun _ k => XS.icmpYes X0.here hx rfl (pc0 := 8) (pc' := 50) rfl (hb hby d7_8) rfl ((flt hc8_36).2.1) (by decide) (by decide) k) ?_
                      show own_G p.tables e below _ (s₁.setTop (mkF m 50 #[.val (.ref x0), .val (.int x1), .val (.int x2), .val (.int ((((((((((0 : Int32) * (26 : Int32)) + (f (x1).toNatClampNeg)) - (65 : Int32)) * (26 : Int32)) + (f ((x1 + (1 : Int32))).toNatClampNeg)) - (65 : Int32)) * (26 : Int32)) + (f (((x1 + (1 : Int32)) + (1 : Int32))).toNatClampNeg)) - (65 : Int32))), .val (.int (((x1 + (1 : Int32)) + (1 : Int32)) + (1 : Int32)))] []))
                      refine own_go (fun _ k => XS.iloadN X0.here hx rfl (hb hby d7_50) rfl k) ?_
                      show own_G p.tables e below _ (s₁.setTop (mkF m 51 #[.val (.ref x0), .val (.int x1), .val (.int x2), .val (.int ((((((((((0 : Int32) * (26 : Int32)) + (f (x1).toNatClampNeg)) - (65 : Int32)) * (26 : Int32)) + (f ((x1 + (1 : Int32))).toNatClampNeg)) - (65 : Int32)) * (26 : Int32)) + (f (((x1 + (1 : Int32)) + (1 : Int32))).toNatClampNeg)) - (65 : Int32))), .val (.int (((x1 + (1 : Int32)) + (1 : Int32)) + (1 : Int32)))] [(.int ((((((((((0 : Int32) * (26 : Int32)) + (f (x1).toNatClampNeg)) - (65 : Int32)) * (26 : Int32)) + (f ((x1 + (1 : Int32))).toNatClampNeg)) - (65 : Int32)) * (26 : Int32)) + (f (((x1 + (1 : Int32)) + (1 : Int32))).toNatClampNeg)) - (65 : Int32)))]))
                      exact own_end X0 Bd.notSynchronized (v := some (.int ((((((((((0 : Int32) * (26 : Int32)) + (f (x1).toNatClampNeg)) - (65 : Int32)) * (26 : Int32)) + (f ((x1 + (1 : Int32))).toNatClampNeg)) - (65 : Int32)) * (26 : Int32)) + (f (((x1 + (1 : Int32)) + (1 : Int32))).toNatClampNeg)) - (65 : Int32)))) (fun h => by rw [Bd.returns] at h; cases h) (Q := QP (some (.int (F7 x1 x2 f))) h0) ⟨by unfold F7; simp only [if_pos hc8_18, if_neg hc17_20, if_neg hc26_22, if_pos hc8_24, if_neg hc17_26, if_neg hc26_28, if_pos hc8_30, if_neg hc17_32, if_neg hc26_34, if_neg hc8_36]; try rfl, rfl, e0⟩ (fun fs hr => retI X0 hx Bd.returns (hb hby d7_51) hr) (by decide) (by decide)
              · refine own_go (fun _ k => XS.icmpYes X0.here hx rfl (pc0 := 8) (pc' := 50) rfl (hb hby d7_8) rfl ((flt hc8_30).2.1) (by decide) (by decide) k) ?_
                show own_G p.tables e below _ (s₁.setTop (mkF m 50 #[.val (.ref x0), .val (.int x1), .val (.int x2), .val (.int (((((((0 : Int32) * (26 : Int32)) + (f (x1).toNatClampNeg)) - (65 : Int32)) * (26 : Int32)) + (f ((x1 + (1 : Int32))).toNatClampNeg)) - (65 : Int32))), .val (.int ((x1 + (1 : Int32)) + (1 : Int32)))] []))
                refine own_go (fun _ k => XS.iloadN X0.here hx rfl (hb hby d7_50) rfl k) ?_
                show own_G p.tables e below _ (s₁.setTop (mkF m 51 #[.val (.ref x0), .val (.int x1), .val (.int x2), .val (.int (((((((0 : Int32) * (26 : Int32)) + (f (x1).toNatClampNeg)) - (65 : Int32)) * (26 : Int32)) + (f ((x1 + (1 : Int32))).toNatClampNeg)) - (65 : Int32))), .val (.int ((x1 + (1 : Int32)) + (1 : Int32)))] [(.int (((((((0 : Int32) * (26 : Int32)) + (f (x1).toNatClampNeg)) - (65 : Int32)) * (26 : Int32)) + (f ((x1 + (1 : Int32))).toNatClampNeg)) - (65 : Int32)))]))
                exact own_end X0 Bd.notSynchronized (v := some (.int (((((((0 : Int32) * (26 : Int32)) + (f (x1).toNatClampNeg)) - (65 : Int32)) * (26 : Int32)) + (f ((x1 + (1 : Int32))).toNatClampNeg)) - (65 : Int32)))) (fun h => by rw [Bd.returns] at h; cases h) (Q := QP (some (.int (F7 x1 x2 f))) h0) ⟨by unfold F7; simp only [if_pos hc8_18, if_neg hc17_20, if_neg hc26_22, if_pos hc8_24, if_neg hc17_26, if_neg hc26_28, if_neg hc8_30]; try rfl, rfl, e0⟩ (fun fs hr => retI X0 hx Bd.returns (hb hby d7_51) hr) (by decide) (by decide)
        · refine own_go (fun _ k => XS.icmpYes X0.here hx rfl (pc0 := 8) (pc' := 50) rfl (hb hby d7_8) rfl ((flt hc8_24).2.1) (by decide) (by decide) k) ?_
          show own_G p.tables e below _ (s₁.setTop (mkF m 50 #[.val (.ref x0), .val (.int x1), .val (.int x2), .val (.int ((((0 : Int32) * (26 : Int32)) + (f (x1).toNatClampNeg)) - (65 : Int32))), .val (.int (x1 + (1 : Int32)))] []))
          refine own_go (fun _ k => XS.iloadN X0.here hx rfl (hb hby d7_50) rfl k) ?_
          show own_G p.tables e below _ (s₁.setTop (mkF m 51 #[.val (.ref x0), .val (.int x1), .val (.int x2), .val (.int ((((0 : Int32) * (26 : Int32)) + (f (x1).toNatClampNeg)) - (65 : Int32))), .val (.int (x1 + (1 : Int32)))] [(.int ((((0 : Int32) * (26 : Int32)) + (f (x1).toNatClampNeg)) - (65 : Int32)))]))
          exact own_end X0 Bd.notSynchronized (v := some (.int ((((0 : Int32) * (26 : Int32)) + (f (x1).toNatClampNeg)) - (65 : Int32)))) (fun h => by rw [Bd.returns] at h; cases h) (Q := QP (some (.int (F7 x1 x2 f))) h0) ⟨by unfold F7; simp only [if_pos hc8_18, if_neg hc17_20, if_neg hc26_22, if_neg hc8_24]; try rfl, rfl, e0⟩ (fun fs hr => retI X0 hx Bd.returns (hb hby d7_51) hr) (by decide) (by decide)
  · refine own_go (fun _ k => XS.icmpYes X0.here hx rfl (pc0 := 8) (pc' := 50) rfl (hb hby d7_8) rfl ((flt hc8_18).2.1) (by decide) (by decide) k) ?_
    show own_G p.tables e below _ (s₁.setTop (mkF m 50 #[.val (.ref x0), .val (.int x1), .val (.int x2), .val (.int (0 : Int32)), .val (.int x1)] []))
    refine own_go (fun _ k => XS.iloadN X0.here hx rfl (hb hby d7_50) rfl k) ?_
    show own_G p.tables e below _ (s₁.setTop (mkF m 51 #[.val (.ref x0), .val (.int x1), .val (.int x2), .val (.int (0 : Int32)), .val (.int x1)] [(.int (0 : Int32))]))
    exact own_end X0 Bd.notSynchronized (v := some (.int (0 : Int32))) (fun h => by rw [Bd.returns] at h; cases h) (Q := QP (some (.int (F7 x1 x2 f))) h0) ⟨by unfold F7; simp only [if_neg hc8_18]; try rfl, rfl, e0⟩ (fun fs hr => retI X0 hx Bd.returns (hb hby d7_51) hr) (by decide) (by decide)
def own_cs (a b c d : Int32) (j : Nat) : Int32 := match j with
  | 0 => nar .char (F1 a)
  | 1 => nar .char (F1 b)
  | 2 => nar .char (F1 c)
  | _ => nar .char (F1 d)
theorem own_pd3 : parseMethodDescriptor "(I)C" = some ⟨[.int], some .char⟩ := by decide +kernel
theorem own_pd4 : parseMethodDescriptor "([CIII)Z" = some ⟨[(.array .char), .int, .int, .int], some .boolean⟩ := by decide +kernel
theorem own_pd5 : parseMethodDescriptor "([CIII)I" = some ⟨[(.array .char), .int, .int, .int], some .int⟩ := by decide +kernel
theorem own_pd6 : parseMethodDescriptor "([CII)I" = some ⟨[(.array .char), .int, .int], some .int⟩ := by decide +kernel
def F0 (x0 : Int32) (x1 : Int32) (x2 : Int32) (x3 : Int32) (x4 : Int32) (x5 : Int32) : Int32 :=
  if (F2 (0 : Int32) (own_from x4) (own_to x4 x5) (own_cs x0 x1 x2 x3)) = (0 : Int32) then
    if (F2 (1 : Int32) (own_from x4) (own_to x4 x5) (own_cs x0 x1 x2 x3)) = (0 : Int32) then
      if (F2 (2 : Int32) (own_from x4) (own_to x4 x5) (own_cs x0 x1 x2 x3)) = (0 : Int32) then
        if (F2 (3 : Int32) (own_from x4) (own_to x4 x5) (own_cs x0 x1 x2 x3)) = (0 : Int32) then
          if (F7 (own_from x4) (own_to x4 x5) (own_cs x0 x1 x2 x3)) = ((((F5 (0 : Int32) (own_from x4) (own_to x4 x5) (own_cs x0 x1 x2 x3)) + (F5 (1 : Int32) (own_from x4) (own_to x4 x5) (own_cs x0 x1 x2 x3))) + (F5 (2 : Int32) (own_from x4) (own_to x4 x5) (own_cs x0 x1 x2 x3))) + (F5 (3 : Int32) (own_from x4) (own_to x4 x5) (own_cs x0 x1 x2 x3))) then
            (nar .boolean (1 : Int32))
          else
            (nar .boolean (0 : Int32))
        else
          if (F7 (own_from x4) (own_to x4 x5) (own_cs x0 x1 x2 x3)) = (-1 : Int32) then
            (nar .boolean (1 : Int32))
          else
            (nar .boolean (0 : Int32))
      else
        if (F7 (own_from x4) (own_to x4 x5) (own_cs x0 x1 x2 x3)) = (-1 : Int32) then
          (nar .boolean (1 : Int32))
        else
          (nar .boolean (0 : Int32))
    else
      if (F7 (own_from x4) (own_to x4 x5) (own_cs x0 x1 x2 x3)) = (-1 : Int32) then
        (nar .boolean (1 : Int32))
      else
        (nar .boolean (0 : Int32))
  else
    if (F7 (own_from x4) (own_to x4 x5) (own_cs x0 x1 x2 x3)) = (-1 : Int32) then
      (nar .boolean (1 : Int32))
    else
      (nar .boolean (0 : Int32))
theorem ef_0_IIIIII (m : MethodId) (x0 : Int32) (x1 : Int32) (x2 : Int32) (x3 : Int32) (x4 : Int32) (x5 : Int32) : entryFrame m #[(.int x0), (.int x1), (.int x2), (.int x3), (.int x4), (.int x5)] maxLocals = mkF m 0 #[.val (.int x0), .val (.int x1), .val (.int x2), .val (.int x3), .val (.int x4), .val (.int x5), .unset, .unset, .unset, .unset, .unset, .unset, .unset] [] := by
  first | (simp [entryFrame, mkF, argsToLocals, Value.category, maxLocals]; done) | rfl
set_option maxRecDepth 65536 in
set_option maxHeartbeats 40000000 in
theorem rm0 (l : Launch) (Z : State) (a0 : Array Value) (hw : ∀ d ∈ tables_1, d.before a0 Z = true) (ws : List Jvm.Cond) (x0 : Int32) (x1 : Int32) (x2 : Int32) (x3 : Int32) (x4 : Int32) (x5 : Int32)  (h0 : Heap) (n0 : Nat) (Z0 : n0 ≤ h0.size)  :
    MetFree l x (head1 (Jvm.Cond.code x code maxLocals ret :: ws) room_1) (fun a U => a = #[(.int x0), (.int x1), (.int x2), (.int x3), (.int x4), (.int x5)] ∧ Z.Warmed39 U.vm ∧ U.heap = h0) (fun _ _ _ _ _ => True) (fun _ U o U' => ∃ v L, o = .returned v ∧ QL (some (.int (F0 x0 x1 x2 x3 x4 x5))) n0 v U'.heap L ∧ FrameEnd U o U' L 16 128) := by
  refine MetFree.of_bodySF (plainFor_of_name own_pn0) hisR ?_
  intro p e s m args below meth c s₁ Bd hml0 hP hK
  obtain ⟨rfl, hZ, hh⟩ := hP
  have hx := Bd.exec
  have hby := Bd.bytes
  have hml : c.maxLocals = 13 := hml0
  have hown : s.vm.findClass "com/example/davka/davka/checks/LetterCodesNumberPinLaw" = some m.cls := findClass_of_methodNamed Bd.named
  have hnm := (name_of_methodNamed Bd.named Bd.method).1
  have X0 : Stand p l e room_1 s m #[(.int x0), (.int x1), (.int x2), (.int x3), (.int x4), (.int x5)] below meth c s₁ [] 0 0 := Stand.of_body Bd
  have e0 : s₁.heap = h0 := by rw [← hh, Bd.state]; rfl
  show own_G p.tables e below (fun o U' => ∃ v L, o = .returned v ∧ QL (some (.int (F0 x0 x1 x2 x3 x4 x5))) n0 v U'.heap L ∧ FrameEnd s o U' L 16 128) (s₁.setTop (entryFrame m #[(.int x0), (.int x1), (.int x2), (.int x3), (.int x4), (.int x5)] maxLocals))
  refine own_go (fun _ k => castTop (ef_0_IIIIII m x0 x1 x2 x3 x4 x5) k) ?_
  have N0 := Fr.nil n0
  have hfrom := own_from_nn x4
  have hto := own_to_le x4 x5
  show own_G p.tables e below _ (s₁.setTop (mkF m 0 #[.val (.int x0), .val (.int x1), .val (.int x2), .val (.int x3), .val (.int x4), .val (.int x5), .unset, .unset, .unset, .unset, .unset, .unset, .unset] []))
  refine own_go (fun _ k => XS.iconst X0.here hx rfl (hb hby at_0) k) ?_
  show own_G p.tables e below _ (s₁.setTop (mkF m 1 #[.val (.int x0), .val (.int x1), .val (.int x2), .val (.int x3), .val (.int x4), .val (.int x5), .unset, .unset, .unset, .unset, .unset, .unset, .unset] [(.int (4 : Int32))]))
  obtain ⟨T42, h42, k42, X42, e42, E42, A42, st42⟩ := newP X0 hx hZ (hw _ (List.mem_of_getElem? (i := 0) rfl)) e0 (g := (mkF m 1 #[.val (.int x0), .val (.int x1), .val (.int x2), .val (.int x3), .val (.int x4), .val (.int x5), .unset, .unset, .unset, .unset, .unset, .unset, .unset] [(.int (4 : Int32))])) rfl (hb hby at_1) rfl (by decide) (cap := 4) (by decide) (by decide) (by decide) (by decide)
  obtain ⟨b42, g42⟩ : ∃ z, z = h0.size := ⟨_, rfl⟩
  rw [← g42] at A42 st42
  have ge_43 : n0 ≤ b42 := Nat.le_trans Z0 (Nat.le_of_eq g42.symm)
  have Z_44 : n0 ≤ h42.size := Nat.le_trans Z0 E42.1
  have V42 : Arv Z h42 b42 k42 .char (4 : Int32) [(.int (0 : Int32)), (.int (0 : Int32)), (.int (0 : Int32)), (.int (0 : Int32))] (.int (0 : Int32)) := (Arv.new A42 (by decide)).pad (pad_rep [] (.int (0 : Int32)) 4)
  refine own_go st42 ?_
  show own_G p.tables e below _ (T42.setTop (mkF m 3 #[.val (.int x0), .val (.int x1), .val (.int x2), .val (.int x3), .val (.int x4), .val (.int x5), .unset, .unset, .unset, .unset, .unset, .unset, .unset] [(.ref b42)]))
  refine own_go (fun _ k => XS.astore X42.here hx rfl (hb hby at_3) rfl rfl (l' := #[.val (.int x0), .val (.int x1), .val (.int x2), .val (.int x3), .val (.int x4), .val (.int x5), .val (.ref b42), .unset, .unset, .unset, .unset, .unset, .unset]) rfl k) ?_
  show own_G p.tables e below _ (T42.setTop (mkF m 5 #[.val (.int x0), .val (.int x1), .val (.int x2), .val (.int x3), .val (.int x4), .val (.int x5), .val (.ref b42), .unset, .unset, .unset, .unset, .unset, .unset] []))
  refine own_go (fun _ k => XS.aload X42.here hx rfl (hb hby at_5) rfl rfl k) ?_
  show own_G p.tables e below _ (T42.setTop (mkF m 7 #[.val (.int x0), .val (.int x1), .val (.int x2), .val (.int x3), .val (.int x4), .val (.int x5), .val (.ref b42), .unset, .unset, .unset, .unset, .unset, .unset] [(.ref b42)]))
  refine own_go (fun _ k => XS.iconst X42.here hx rfl (hb hby at_7) k) ?_
  show own_G p.tables e below _ (T42.setTop (mkF m 8 #[.val (.int x0), .val (.int x1), .val (.int x2), .val (.int x3), .val (.int x4), .val (.int x5), .val (.ref b42), .unset, .unset, .unset, .unset, .unset, .unset] [(.int (0 : Int32)), (.ref b42)]))
  refine own_go (fun _ k => XS.iloadN X42.here hx rfl (hb hby at_8) rfl k) ?_
  show own_G p.tables e below _ (T42.setTop (mkF m 9 #[.val (.int x0), .val (.int x1), .val (.int x2), .val (.int x3), .val (.int x4), .val (.int x5), .val (.ref b42), .unset, .unset, .unset, .unset, .unset, .unset] [(.int x0), (.int (0 : Int32)), (.ref b42)]))
  obtain ⟨T45, X45, e45, st45⟩ := own_callP X42 hx hZ (y := (⟨"com/example/davka/davka/checks/LetterCodesNumberPinLaw", "ch", "(I)C"⟩ : MethodName)) hown (hw _ (List.mem_of_getElem? (i := 1) rfl)) (hw _ (List.mem_of_getElem? (i := 2) rfl)) (hw _ (List.mem_of_getElem? (i := 3) rfl)) (hw _ (List.mem_of_getElem? (i := 4) rfl)) (by decide) (W := 2) (rm1 l Z a0 hw [] x0  h42 ) (by decide) (by decide) rfl rfl e42 (g := (mkF m 9 #[.val (.int x0), .val (.int x1), .val (.int x2), .val (.int x3), .val (.int x4), .val (.int x5), .val (.ref b42), .unset, .unset, .unset, .unset, .unset, .unset] [(.int x0), (.int (0 : Int32)), (.ref b42)])) rfl (by rw [hml]; rfl) (argsL := [(.int x0)]) (rest := [(.int (0 : Int32)), (.ref b42)]) (lenOf own_pd3 rfl) rfl rfl (by show 2 * 0 + _ ≤ _; exact Nat.le_of_eq rfl) (hb hby at_9) (by decide) (by decide)
  refine own_go st45 ?_
  show own_G p.tables e below _ (T45.setTop (mkF m 12 #[.val (.int x0), .val (.int x1), .val (.int x2), .val (.int x3), .val (.int x4), .val (.int x5), .val (.ref b42), .unset, .unset, .unset, .unset, .unset, .unset] [(.int (F1 x0)), (.int (0 : Int32)), (.ref b42)]))
  obtain ⟨cl46, Ar46, q46, S46, N46, H46, G46⟩ := V42
  obtain ⟨T46, h46, X46, e46, W46, st46⟩ := stC X45 hx hZ e45 Ar46 (j := (0 : Int32)) (inb_of S46 ⟨by decide, by decide⟩) (g := (mkF m 12 #[.val (.int x0), .val (.int x1), .val (.int x2), .val (.int x3), .val (.int x4), .val (.int x5), .val (.ref b42), .unset, .unset, .unset, .unset, .unset, .unset] [(.int (F1 x0)), (.int (0 : Int32)), (.ref b42)])) rfl rfl (hb hby at_12)
  have V46 : Arv Z h46 b42 k42 .char (4 : Int32) [(.int (nar .char (F1 x0))), (.int (0 : Int32)), (.int (0 : Int32)), (.int (0 : Int32))] (.int (0 : Int32)) := Arv.set Ar46 q46 S46 N46 H46 G46 (fits_nar_char _) W46 0 rfl (Nat.le_of_ble_eq_true rfl)
  have Z_47 : n0 ≤ h46.size := Nat.le_trans Z_44 (Nat.le_of_eq W46.size.symm)
  have N_46 := Fr.snoc X46 N0 ge_43
  refine own_go st46 ?_
  show own_G p.tables e below _ (T46.setTop (mkF m 13 #[.val (.int x0), .val (.int x1), .val (.int x2), .val (.int x3), .val (.int x4), .val (.int x5), .val (.ref b42), .unset, .unset, .unset, .unset, .unset, .unset] []))
  refine own_go (fun _ k => XS.aload X46.here hx rfl (hb hby at_13) rfl rfl k) ?_
  show own_G p.tables e below _ (T46.setTop (mkF m 15 #[.val (.int x0), .val (.int x1), .val (.int x2), .val (.int x3), .val (.int x4), .val (.int x5), .val (.ref b42), .unset, .unset, .unset, .unset, .unset, .unset] [(.ref b42)]))
  refine own_go (fun _ k => XS.iconst X46.here hx rfl (hb hby at_15) k) ?_
  show own_G p.tables e below _ (T46.setTop (mkF m 16 #[.val (.int x0), .val (.int x1), .val (.int x2), .val (.int x3), .val (.int x4), .val (.int x5), .val (.ref b42), .unset, .unset, .unset, .unset, .unset, .unset] [(.int (1 : Int32)), (.ref b42)]))
  refine own_go (fun _ k => XS.iloadN X46.here hx rfl (hb hby at_16) rfl k) ?_
  show own_G p.tables e below _ (T46.setTop (mkF m 17 #[.val (.int x0), .val (.int x1), .val (.int x2), .val (.int x3), .val (.int x4), .val (.int x5), .val (.ref b42), .unset, .unset, .unset, .unset, .unset, .unset] [(.int x1), (.int (1 : Int32)), (.ref b42)]))
  obtain ⟨T48, X48, e48, st48⟩ := own_callP X46 hx hZ (y := (⟨"com/example/davka/davka/checks/LetterCodesNumberPinLaw", "ch", "(I)C"⟩ : MethodName)) hown (hw _ (List.mem_of_getElem? (i := 1) rfl)) (hw _ (List.mem_of_getElem? (i := 2) rfl)) (hw _ (List.mem_of_getElem? (i := 3) rfl)) (hw _ (List.mem_of_getElem? (i := 4) rfl)) (by decide) (W := 2) (rm1 l Z a0 hw [] x1  h46 ) (by decide) (by decide) rfl rfl e46 (g := (mkF m 17 #[.val (.int x0), .val (.int x1), .val (.int x2), .val (.int x3), .val (.int x4), .val (.int x5), .val (.ref b42), .unset, .unset, .unset, .unset, .unset, .unset] [(.int x1), (.int (1 : Int32)), (.ref b42)])) rfl (by rw [hml]; rfl) (argsL := [(.int x1)]) (rest := [(.int (1 : Int32)), (.ref b42)]) (lenOf own_pd3 rfl) rfl rfl (by show 2 * 0 + _ ≤ _; exact Nat.le_of_eq rfl) (hb hby at_17) (by decide) (by decide)
  refine own_go st48 ?_
  show own_G p.tables e below _ (T48.setTop (mkF m 20 #[.val (.int x0), .val (.int x1), .val (.int x2), .val (.int x3), .val (.int x4), .val (.int x5), .val (.ref b42), .unset, .unset, .unset, .unset, .unset, .unset] [(.int (F1 x1)), (.int (1 : Int32)), (.ref b42)]))
  obtain ⟨cl49, Ar49, q49, S49, N49, H49, G49⟩ := V46
  obtain ⟨T49, h49, X49, e49, W49, st49⟩ := stC X48 hx hZ e48 Ar49 (j := (1 : Int32)) (inb_of S49 ⟨by decide, by decide⟩) (g := (mkF m 20 #[.val (.int x0), .val (.int x1), .val (.int x2), .val (.int x3), .val (.int x4), .val (.int x5), .val (.ref b42), .unset, .unset, .unset, .unset, .unset, .unset] [(.int (F1 x1)), (.int (1 : Int32)), (.ref b42)])) rfl rfl (hb hby at_20)
  have V49 : Arv Z h49 b42 k42 .char (4 : Int32) [(.int (nar .char (F1 x0))), (.int (nar .char (F1 x1))), (.int (0 : Int32)), (.int (0 : Int32))] (.int (0 : Int32)) := Arv.set Ar49 q49 S49 N49 H49 G49 (fits_nar_char _) W49 1 rfl (Nat.le_of_ble_eq_true rfl)
  have Z_50 : n0 ≤ h49.size := Nat.le_trans Z_47 (Nat.le_of_eq W49.size.symm)
  have N_49 := Fr.snoc X49 N_46 ge_43
  refine own_go st49 ?_
  show own_G p.tables e below _ (T49.setTop (mkF m 21 #[.val (.int x0), .val (.int x1), .val (.int x2), .val (.int x3), .val (.int x4), .val (.int x5), .val (.ref b42), .unset, .unset, .unset, .unset, .unset, .unset] []))
  refine own_go (fun _ k => XS.aload X49.here hx rfl (hb hby at_21) rfl rfl k) ?_
  show own_G p.tables e below _ (T49.setTop (mkF m 23 #[.val (.int x0), .val (.int x1), .val (.int x2), .val (.int x3), .val (.int x4), .val (.int x5), .val (.ref b42), .unset, .unset, .unset, .unset, .unset, .unset] [(.ref b42)]))
  refine own_go (fun _ k => XS.iconst X49.here hx rfl (hb hby at_23) k) ?_
  show own_G p.tables e below _ (T49.setTop (mkF m 24 #[.val (.int x0), .val (.int x1), .val (.int x2), .val (.int x3), .val (.int x4), .val (.int x5), .val (.ref b42), .unset, .unset, .unset, .unset, .unset, .unset] [(.int (2 : Int32)), (.ref b42)]))
  refine own_go (fun _ k => XS.iloadN X49.here hx rfl (hb hby at_24) rfl k) ?_
  show own_G p.tables e below _ (T49.setTop (mkF m 25 #[.val (.int x0), .val (.int x1), .val (.int x2), .val (.int x3), .val (.int x4), .val (.int x5), .val (.ref b42), .unset, .unset, .unset, .unset, .unset, .unset] [(.int x2), (.int (2 : Int32)), (.ref b42)]))
  obtain ⟨T51, X51, e51, st51⟩ := own_callP X49 hx hZ (y := (⟨"com/example/davka/davka/checks/LetterCodesNumberPinLaw", "ch", "(I)C"⟩ : MethodName)) hown (hw _ (List.mem_of_getElem? (i := 1) rfl)) (hw _ (List.mem_of_getElem? (i := 2) rfl)) (hw _ (List.mem_of_getElem? (i := 3) rfl)) (hw _ (List.mem_of_getElem? (i := 4) rfl)) (by decide) (W := 2) (rm1 l Z a0 hw [] x2  h49 ) (by decide) (by decide) rfl rfl e49 (g := (mkF m 25 #[.val (.int x0), .val (.int x1), .val (.int x2), .val (.int x3), .val (.int x4), .val (.int x5), .val (.ref b42), .unset, .unset, .unset, .unset, .unset, .unset] [(.int x2), (.int (2 : Int32)), (.ref b42)])) rfl (by rw [hml]; rfl) (argsL := [(.int x2)]) (rest := [(.int (2 : Int32)), (.ref b42)]) (lenOf own_pd3 rfl) rfl rfl (by show 2 * 0 + _ ≤ _; exact Nat.le_of_eq rfl) (hb hby at_25) (by decide) (by decide)
  refine own_go st51 ?_
  show own_G p.tables e below _ (T51.setTop (mkF m 28 #[.val (.int x0), .val (.int x1), .val (.int x2), .val (.int x3), .val (.int x4), .val (.int x5), .val (.ref b42), .unset, .unset, .unset, .unset, .unset, .unset] [(.int (F1 x2)), (.int (2 : Int32)), (.ref b42)]))
  obtain ⟨cl52, Ar52, q52, S52, N52, H52, G52⟩ := V49
  obtain ⟨T52, h52, X52, e52, W52, st52⟩ := stC X51 hx hZ e51 Ar52 (j := (2 : Int32)) (inb_of S52 ⟨by decide, by decide⟩) (g := (mkF m 28 #[.val (.int x0), .val (.int x1), .val (.int x2), .val (.int x3), .val (.int x4), .val (.int x5), .val (.ref b42), .unset, .unset, .unset, .unset, .unset, .unset] [(.int (F1 x2)), (.int (2 : Int32)), (.ref b42)])) rfl rfl (hb hby at_28)
  have V52 : Arv Z h52 b42 k42 .char (4 : Int32) [(.int (nar .char (F1 x0))), (.int (nar .char (F1 x1))), (.int (nar .char (F1 x2))), (.int (0 : Int32))] (.int (0 : Int32)) := Arv.set Ar52 q52 S52 N52 H52 G52 (fits_nar_char _) W52 2 rfl (Nat.le_of_ble_eq_true rfl)
  have Z_53 : n0 ≤ h52.size := Nat.le_trans Z_50 (Nat.le_of_eq W52.size.symm)
  have N_52 := Fr.snoc X52 N_49 ge_43
  refine own_go st52 ?_
  show own_G p.tables e below _ (T52.setTop (mkF m 29 #[.val (.int x0), .val (.int x1), .val (.int x2), .val (.int x3), .val (.int x4), .val (.int x5), .val (.ref b42), .unset, .unset, .unset, .unset, .unset, .unset] []))
  refine own_go (fun _ k => XS.aload X52.here hx rfl (hb hby at_29) rfl rfl k) ?_
  show own_G p.tables e below _ (T52.setTop (mkF m 31 #[.val (.int x0), .val (.int x1), .val (.int x2), .val (.int x3), .val (.int x4), .val (.int x5), .val (.ref b42), .unset, .unset, .unset, .unset, .unset, .unset] [(.ref b42)]))
  refine own_go (fun _ k => XS.iconst X52.here hx rfl (hb hby at_31) k) ?_
  show own_G p.tables e below _ (T52.setTop (mkF m 32 #[.val (.int x0), .val (.int x1), .val (.int x2), .val (.int x3), .val (.int x4), .val (.int x5), .val (.ref b42), .unset, .unset, .unset, .unset, .unset, .unset] [(.int (3 : Int32)), (.ref b42)]))
  refine own_go (fun _ k => XS.iloadN X52.here hx rfl (hb hby at_32) rfl k) ?_
  show own_G p.tables e below _ (T52.setTop (mkF m 33 #[.val (.int x0), .val (.int x1), .val (.int x2), .val (.int x3), .val (.int x4), .val (.int x5), .val (.ref b42), .unset, .unset, .unset, .unset, .unset, .unset] [(.int x3), (.int (3 : Int32)), (.ref b42)]))
  obtain ⟨T54, X54, e54, st54⟩ := own_callP X52 hx hZ (y := (⟨"com/example/davka/davka/checks/LetterCodesNumberPinLaw", "ch", "(I)C"⟩ : MethodName)) hown (hw _ (List.mem_of_getElem? (i := 1) rfl)) (hw _ (List.mem_of_getElem? (i := 2) rfl)) (hw _ (List.mem_of_getElem? (i := 3) rfl)) (hw _ (List.mem_of_getElem? (i := 4) rfl)) (by decide) (W := 2) (rm1 l Z a0 hw [] x3  h52 ) (by decide) (by decide) rfl rfl e52 (g := (mkF m 33 #[.val (.int x0), .val (.int x1), .val (.int x2), .val (.int x3), .val (.int x4), .val (.int x5), .val (.ref b42), .unset, .unset, .unset, .unset, .unset, .unset] [(.int x3), (.int (3 : Int32)), (.ref b42)])) rfl (by rw [hml]; rfl) (argsL := [(.int x3)]) (rest := [(.int (3 : Int32)), (.ref b42)]) (lenOf own_pd3 rfl) rfl rfl (by show 2 * 0 + _ ≤ _; exact Nat.le_of_eq rfl) (hb hby at_33) (by decide) (by decide)
  refine own_go st54 ?_
  show own_G p.tables e below _ (T54.setTop (mkF m 36 #[.val (.int x0), .val (.int x1), .val (.int x2), .val (.int x3), .val (.int x4), .val (.int x5), .val (.ref b42), .unset, .unset, .unset, .unset, .unset, .unset] [(.int (F1 x3)), (.int (3 : Int32)), (.ref b42)]))
  obtain ⟨cl55, Ar55, q55, S55, N55, H55, G55⟩ := V52
  obtain ⟨T55, h55, X55, e55, W55, st55⟩ := stC X54 hx hZ e54 Ar55 (j := (3 : Int32)) (inb_of S55 ⟨by decide, by decide⟩) (g := (mkF m 36 #[.val (.int x0), .val (.int x1), .val (.int x2), .val (.int x3), .val (.int x4), .val (.int x5), .val (.ref b42), .unset, .unset, .unset, .unset, .unset, .unset] [(.int (F1 x3)), (.int (3 : Int32)), (.ref b42)])) rfl rfl (hb hby at_36)
  have V55 : Arv Z h55 b42 k42 .char (4 : Int32) [(.int (nar .char (F1 x0))), (.int (nar .char (F1 x1))), (.int (nar .char (F1 x2))), (.int (nar .char (F1 x3)))] (.int (0 : Int32)) := Arv.set Ar55 q55 S55 N55 H55 G55 (fits_nar_char _) W55 3 rfl (Nat.le_of_ble_eq_true rfl)
  have Z_56 : n0 ≤ h55.size := Nat.le_trans Z_53 (Nat.le_of_eq W55.size.symm)
  have N_55 := Fr.snoc X55 N_52 ge_43
  refine own_go st55 ?_
  show own_G p.tables e below _ (T55.setTop (mkF m 37 #[.val (.int x0), .val (.int x1), .val (.int x2), .val (.int x3), .val (.int x4), .val (.int x5), .val (.ref b42), .unset, .unset, .unset, .unset, .unset, .unset] []))
  refine own_go (fun _ k => XS.iload X55.here hx rfl (hb hby at_37) rfl k) ?_
  show own_G p.tables e below _ (T55.setTop (mkF m 39 #[.val (.int x0), .val (.int x1), .val (.int x2), .val (.int x3), .val (.int x4), .val (.int x5), .val (.ref b42), .unset, .unset, .unset, .unset, .unset, .unset] [(.int x4)]))
  refine own_go (fun _ k => X55.ldcInt hx hown (mvT hZ (hw _ (List.mem_of_getElem? (i := 5) rfl))) (g := (mkF m 39 #[.val (.int x0), .val (.int x1), .val (.int x2), .val (.int x3), .val (.int x4), .val (.int x5), .val (.ref b42), .unset, .unset, .unset, .unset, .unset, .unset] [(.int x4)])) rfl (hb hby at_39) _ k) ?_
  show own_G p.tables e below _ (T55.setTop (mkF m 41 #[.val (.int x0), .val (.int x1), .val (.int x2), .val (.int x3), .val (.int x4), .val (.int x5), .val (.ref b42), .unset, .unset, .unset, .unset, .unset, .unset] [(.int (2147483647 : Int32)), (.int x4)]))
  refine own_go (fun _ k => XS.iand X55.here hx rfl (hb hby at_41) rfl k) ?_
  show own_G p.tables e below _ (T55.setTop (mkF m 42 #[.val (.int x0), .val (.int x1), .val (.int x2), .val (.int x3), .val (.int x4), .val (.int x5), .val (.ref b42), .unset, .unset, .unset, .unset, .unset, .unset] [(.int (x4 &&& (2147483647 : Int32)))]))
  refine own_go (fun _ k => XS.iconst X55.here hx rfl (hb hby at_42) k) ?_
  show own_G p.tables e below _ (T55.setTop (mkF m 43 #[.val (.int x0), .val (.int x1), .val (.int x2), .val (.int x3), .val (.int x4), .val (.int x5), .val (.ref b42), .unset, .unset, .unset, .unset, .unset, .unset] [(.int (5 : Int32)), (.int (x4 &&& (2147483647 : Int32)))]))
  refine own_go (fun _ k => iremM X55 hx rfl (hb hby at_43) rfl (by decide) k) ?_
  show own_G p.tables e below _ (T55.setTop (mkF m 44 #[.val (.int x0), .val (.int x1), .val (.int x2), .val (.int x3), .val (.int x4), .val (.int x5), .val (.ref b42), .unset, .unset, .unset, .unset, .unset, .unset] [(.int ((x4 &&& (2147483647 : Int32)) % (5 : Int32)))]))
  refine own_go (fun _ k => XS.istore X55.here hx rfl (hb hby at_44) rfl (l' := #[.val (.int x0), .val (.int x1), .val (.int x2), .val (.int x3), .val (.int x4), .val (.int x5), .val (.ref b42), .val (.int (own_from x4)), .unset, .unset, .unset, .unset, .unset]) rfl k) ?_
  show own_G p.tables e below _ (T55.setTop (mkF m 46 #[.val (.int x0), .val (.int x1), .val (.int x2), .val (.int x3), .val (.int x4), .val (.int x5), .val (.ref b42), .val (.int (own_from x4)), .unset, .unset, .unset, .unset, .unset] []))
  refine own_go (fun _ k => XS.iload X55.here hx rfl (hb hby at_46) rfl k) ?_
  show own_G p.tables e below _ (T55.setTop (mkF m 48 #[.val (.int x0), .val (.int x1), .val (.int x2), .val (.int x3), .val (.int x4), .val (.int x5), .val (.ref b42), .val (.int (own_from x4)), .unset, .unset, .unset, .unset, .unset] [(.int x5)]))
  refine own_go (fun _ k => XS.iconst X55.here hx rfl (hb hby at_48) k) ?_
  show own_G p.tables e below _ (T55.setTop (mkF m 49 #[.val (.int x0), .val (.int x1), .val (.int x2), .val (.int x3), .val (.int x4), .val (.int x5), .val (.ref b42), .val (.int (own_from x4)), .unset, .unset, .unset, .unset, .unset] [(.int (1 : Int32)), (.int x5)]))
  refine own_go (fun _ k => XS.iushr X55.here hx rfl (hb hby at_49) rfl k) ?_
  show own_G p.tables e below _ (T55.setTop (mkF m 50 #[.val (.int x0), .val (.int x1), .val (.int x2), .val (.int x3), .val (.int x4), .val (.int x5), .val (.ref b42), .val (.int (own_from x4)), .unset, .unset, .unset, .unset, .unset] [(.int ((x5.toUInt32 >>> ((1 : Int32) &&& 31).toUInt32).toInt32))]))
  refine own_go (fun _ k => XS.iconst X55.here hx rfl (hb hby at_50) k) ?_
  show own_G p.tables e below _ (T55.setTop (mkF m 51 #[.val (.int x0), .val (.int x1), .val (.int x2), .val (.int x3), .val (.int x4), .val (.int x5), .val (.ref b42), .val (.int (own_from x4)), .unset, .unset, .unset, .unset, .unset] [(.int (5 : Int32)), (.int ((x5.toUInt32 >>> ((1 : Int32) &&& 31).toUInt32).toInt32))]))
  refine own_go (fun _ k => XS.iload X55.here hx rfl (hb hby at_51) rfl k) ?_
  show own_G p.tables e below _ (T55.setTop (mkF m 53 #[.val (.int x0), .val (.int x1), .val (.int x2), .val (.int x3), .val (.int x4), .val (.int x5), .val (.ref b42), .val (.int (own_from x4)), .unset, .unset, .unset, .unset, .unset] [(.int (own_from x4)), (.int (5 : Int32)), (.int ((x5.toUInt32 >>> ((1 : Int32) &&& 31).toUInt32).toInt32))]))
  refine own_go (fun _ k => XS.isub X55.here hx rfl (hb hby at_53) rfl k) ?_
  show own_G p.tables e below _ (T55.setTop (mkF m 54 #[.val (.int x0), .val (.int x1), .val (.int x2), .val (.int x3), .val (.int x4), .val (.int x5), .val (.ref b42), .val (.int (own_from x4)), .unset, .unset, .unset, .unset, .unset] [(.int ((5 : Int32) - (own_from x4))), (.int ((x5.toUInt32 >>> ((1 : Int32) &&& 31).toUInt32).toInt32))]))
  refine own_go (fun _ k => iremM X55 hx rfl (hb hby at_54) rfl (own_nz x4) k) ?_
  show own_G p.tables e below _ (T55.setTop (mkF m 55 #[.val (.int x0), .val (.int x1), .val (.int x2), .val (.int x3), .val (.int x4), .val (.int x5), .val (.ref b42), .val (.int (own_from x4)), .unset, .unset, .unset, .unset, .unset] [(.int (((x5.toUInt32 >>> ((1 : Int32) &&& 31).toUInt32).toInt32) % ((5 : Int32) - (own_from x4))))]))
  refine own_go (fun _ k => XS.istore X55.here hx rfl (hb hby at_55) rfl (l' := #[.val (.int x0), .val (.int x1), .val (.int x2), .val (.int x3), .val (.int x4), .val (.int x5), .val (.ref b42), .val (.int (own_from x4)), .val (.int (own_len x4 x5)), .unset, .unset, .unset, .unset]) rfl k) ?_
  show own_G p.tables e below _ (T55.setTop (mkF m 57 #[.val (.int x0), .val (.int x1), .val (.int x2), .val (.int x3), .val (.int x4), .val (.int x5), .val (.ref b42), .val (.int (own_from x4)), .val (.int (own_len x4 x5)), .unset, .unset, .unset, .unset] []))
  refine own_go (fun _ k => XS.iload X55.here hx rfl (hb hby at_57) rfl k) ?_
  show own_G p.tables e below _ (T55.setTop (mkF m 59 #[.val (.int x0), .val (.int x1), .val (.int x2), .val (.int x3), .val (.int x4), .val (.int x5), .val (.ref b42), .val (.int (own_from x4)), .val (.int (own_len x4 x5)), .unset, .unset, .unset, .unset] [(.int (own_from x4))]))
  refine own_go (fun _ k => XS.iload X55.here hx rfl (hb hby at_59) rfl k) ?_
  show own_G p.tables e below _ (T55.setTop (mkF m 61 #[.val (.int x0), .val (.int x1), .val (.int x2), .val (.int x3), .val (.int x4), .val (.int x5), .val (.ref b42), .val (.int (own_from x4)), .val (.int (own_len x4 x5)), .unset, .unset, .unset, .unset] [(.int (own_len x4 x5)), (.int (own_from x4))]))
  refine own_go (fun _ k => XS.iadd X55.here hx rfl (hb hby at_61) rfl k) ?_
  show own_G p.tables e below _ (T55.setTop (mkF m 62 #[.val (.int x0), .val (.int x1), .val (.int x2), .val (.int x3), .val (.int x4), .val (.int x5), .val (.ref b42), .val (.int (own_from x4)), .val (.int (own_len x4 x5)), .unset, .unset, .unset, .unset] [(.int ((own_from x4) + (own_len x4 x5)))]))
  refine own_go (fun _ k => XS.istore X55.here hx rfl (hb hby at_62) rfl (l' := #[.val (.int x0), .val (.int x1), .val (.int x2), .val (.int x3), .val (.int x4), .val (.int x5), .val (.ref b42), .val (.int (own_from x4)), .val (.int (own_len x4 x5)), .val (.int (own_to x4 x5)), .unset, .unset, .unset]) rfl k) ?_
  show own_G p.tables e below _ (T55.setTop (mkF m 64 #[.val (.int x0), .val (.int x1), .val (.int x2), .val (.int x3), .val (.int x4), .val (.int x5), .val (.ref b42), .val (.int (own_from x4)), .val (.int (own_len x4 x5)), .val (.int (own_to x4 x5)), .unset, .unset, .unset] []))
  refine own_go (fun _ k => XS.aload X55.here hx rfl (hb hby at_64) rfl rfl k) ?_
  show own_G p.tables e below _ (T55.setTop (mkF m 66 #[.val (.int x0), .val (.int x1), .val (.int x2), .val (.int x3), .val (.int x4), .val (.int x5), .val (.ref b42), .val (.int (own_from x4)), .val (.int (own_len x4 x5)), .val (.int (own_to x4 x5)), .unset, .unset, .unset] [(.ref b42)]))
  refine own_go (fun _ k => XS.iconst X55.here hx rfl (hb hby at_66) k) ?_
  show own_G p.tables e below _ (T55.setTop (mkF m 67 #[.val (.int x0), .val (.int x1), .val (.int x2), .val (.int x3), .val (.int x4), .val (.int x5), .val (.ref b42), .val (.int (own_from x4)), .val (.int (own_len x4 x5)), .val (.int (own_to x4 x5)), .unset, .unset, .unset] [(.int (0 : Int32)), (.ref b42)]))
  refine own_go (fun _ k => XS.iload X55.here hx rfl (hb hby at_67) rfl k) ?_
  show own_G p.tables e below _ (T55.setTop (mkF m 69 #[.val (.int x0), .val (.int x1), .val (.int x2), .val (.int x3), .val (.int x4), .val (.int x5), .val (.ref b42), .val (.int (own_from x4)), .val (.int (own_len x4 x5)), .val (.int (own_to x4 x5)), .unset, .unset, .unset] [(.int (own_from x4)), (.int (0 : Int32)), (.ref b42)]))
  refine own_go (fun _ k => XS.iload X55.here hx rfl (hb hby at_69) rfl k) ?_
  show own_G p.tables e below _ (T55.setTop (mkF m 71 #[.val (.int x0), .val (.int x1), .val (.int x2), .val (.int x3), .val (.int x4), .val (.int x5), .val (.ref b42), .val (.int (own_from x4)), .val (.int (own_len x4 x5)), .val (.int (own_to x4 x5)), .unset, .unset, .unset] [(.int (own_to x4 x5)), (.int (own_from x4)), (.int (0 : Int32)), (.ref b42)]))
  obtain ⟨T57, X57, e57, st57⟩ := own_callP X55 hx hZ (y := (⟨"com/example/davka/davka/checks/LetterCodesNumberPinLaw", "badAt", "([CIII)Z"⟩ : MethodName)) hown (hw _ (List.mem_of_getElem? (i := 6) rfl)) (hw _ (List.mem_of_getElem? (i := 7) rfl)) (hw _ (List.mem_of_getElem? (i := 3) rfl)) (hw _ (List.mem_of_getElem? (i := 8) rfl)) (by decide) (W := 0) (rm2 l Z a0 hw [] b42 (0 : Int32) (own_from x4) (own_to x4 x5) k42 (own_cs x0 x1 x2 x3) h55 V55 hfrom hto) (by decide) (by decide) rfl rfl e55 (g := (mkF m 71 #[.val (.int x0), .val (.int x1), .val (.int x2), .val (.int x3), .val (.int x4), .val (.int x5), .val (.ref b42), .val (.int (own_from x4)), .val (.int (own_len x4 x5)), .val (.int (own_to x4 x5)), .unset, .unset, .unset] [(.int (own_to x4 x5)), (.int (own_from x4)), (.int (0 : Int32)), (.ref b42)])) rfl (by rw [hml]; rfl) (argsL := [(.ref b42), (.int (0 : Int32)), (.int (own_from x4)), (.int (own_to x4 x5))]) (rest := []) (lenOf own_pd4 rfl) rfl rfl (by show 2 * 0 + _ ≤ _; exact Nat.le_of_eq rfl) (hb hby at_71) (by decide) (by decide)
  refine own_go st57 ?_
  show own_G p.tables e below _ (T57.setTop (mkF m 74 #[.val (.int x0), .val (.int x1), .val (.int x2), .val (.int x3), .val (.int x4), .val (.int x5), .val (.ref b42), .val (.int (own_from x4)), .val (.int (own_len x4 x5)), .val (.int (own_to x4 x5)), .unset, .unset, .unset] [(.int (F2 (0 : Int32) (own_from x4) (own_to x4 x5) (own_cs x0 x1 x2 x3)))]))
  by_cases hc74_58 : (F2 (0 : Int32) (own_from x4) (own_to x4 x5) (own_cs x0 x1 x2 x3)) = (0 : Int32)
  · refine own_go (fun _ k => XS.ifNo X57.here hx rfl (hb hby at_74) rfl (((if0 _ _).trans (teq hc74_58).2)) k) ?_
    show own_G p.tables e below _ (T57.setTop (mkF m 77 #[.val (.int x0), .val (.int x1), .val (.int x2), .val (.int x3), .val (.int x4), .val (.int x5), .val (.ref b42), .val (.int (own_from x4)), .val (.int (own_len x4 x5)), .val (.int (own_to x4 x5)), .unset, .unset, .unset] []))
    refine own_go (fun _ k => XS.aload X57.here hx rfl (hb hby at_77) rfl rfl k) ?_
    show own_G p.tables e below _ (T57.setTop (mkF m 79 #[.val (.int x0), .val (.int x1), .val (.int x2), .val (.int x3), .val (.int x4), .val (.int x5), .val (.ref b42), .val (.int (own_from x4)), .val (.int (own_len x4 x5)), .val (.int (own_to x4 x5)), .unset, .unset, .unset] [(.ref b42)]))
    refine own_go (fun _ k => XS.iconst X57.here hx rfl (hb hby at_79) k) ?_
    show own_G p.tables e below _ (T57.setTop (mkF m 80 #[.val (.int x0), .val (.int x1), .val (.int x2), .val (.int x3), .val (.int x4), .val (.int x5), .val (.ref b42), .val (.int (own_from x4)), .val (.int (own_len x4 x5)), .val (.int (own_to x4 x5)), .unset, .unset, .unset] [(.int (1 : Int32)), (.ref b42)]))
    refine own_go (fun _ k => XS.iload X57.here hx rfl (hb hby at_80) rfl k) ?_
    show own_G p.tables e below _ (T57.setTop (mkF m 82 #[.val (.int x0), .val (.int x1), .val (.int x2), .val (.int x3), .val (.int x4), .val (.int x5), .val (.ref b42), .val (.int (own_from x4)), .val (.int (own_len x4 x5)), .val (.int (own_to x4 x5)), .unset, .unset, .unset] [(.int (own_from x4)), (.int (1 : Int32)), (.ref b42)]))
    refine own_go (fun _ k => XS.iload X57.here hx rfl (hb hby at_82) rfl k) ?_
    show own_G p.tables e below _ (T57.setTop (mkF m 84 #[.val (.int x0), .val (.int x1), .val (.int x2), .val (.int x3), .val (.int x4), .val (.int x5), .val (.ref b42), .val (.int (own_from x4)), .val (.int (own_len x4 x5)), .val (.int (own_to x4 x5)), .unset, .unset, .unset] [(.int (own_to x4 x5)), (.int (own_from x4)), (.int (1 : Int32)), (.ref b42)]))
    obtain ⟨T59, X59, e59, st59⟩ := own_callP X57 hx hZ (y := (⟨"com/example/davka/davka/checks/LetterCodesNumberPinLaw", "badAt", "([CIII)Z"⟩ : MethodName)) hown (hw _ (List.mem_of_getElem? (i := 6) rfl)) (hw _ (List.mem_of_getElem? (i := 7) rfl)) (hw _ (List.mem_of_getElem? (i := 3) rfl)) (hw _ (List.mem_of_getElem? (i := 8) rfl)) (by decide) (W := 0) (rm2 l Z a0 hw [] b42 (1 : Int32) (own_from x4) (own_to x4 x5) k42 (own_cs x0 x1 x2 x3) h55 V55 hfrom hto) (by decide) (by decide) rfl rfl e57 (g := (mkF m 84 #[.val (.int x0), .val (.int x1), .val (.int x2), .val (.int x3), .val (.int x4), .val (.int x5), .val (.ref b42), .val (.int (own_from x4)), .val (.int (own_len x4 x5)), .val (.int (own_to x4 x5)), .unset, .unset, .unset] [(.int (own_to x4 x5)), (.int (own_from x4)), (.int (1 : Int32)), (.ref b42)])) rfl (by rw [hml]; rfl) (argsL := [(.ref b42), (.int (1 : Int32)), (.int (own_from x4)), (.int (own_to x4 x5))]) (rest := []) (lenOf own_pd4 rfl) rfl rfl (by show 2 * 0 + _ ≤ _; exact Nat.le_of_eq rfl) (hb hby at_84) (by decide) (by decide)
    refine own_go st59 ?_
    show own_G p.tables e below _ (T59.setTop (mkF m 87 #[.val (.int x0), .val (.int x1), .val (.int x2), .val (.int x3), .val (.int x4), .val (.int x5), .val (.ref b42), .val (.int (own_from x4)), .val (.int (own_len x4 x5)), .val (.int (own_to x4 x5)), .unset, .unset, .unset] [(.int (F2 (1 : Int32) (own_from x4) (own_to x4 x5) (own_cs x0 x1 x2 x3)))]))
    by_cases hc87_60 : (F2 (1 : Int32) (own_from x4) (own_to x4 x5) (own_cs x0 x1 x2 x3)) = (0 : Int32)
    · refine own_go (fun _ k => XS.ifNo X59.here hx rfl (hb hby at_87) rfl (((if0 _ _).trans (teq hc87_60).2)) k) ?_
      show own_G p.tables e below _ (T59.setTop (mkF m 90 #[.val (.int x0), .val (.int x1), .val (.int x2), .val (.int x3), .val (.int x4), .val (.int x5), .val (.ref b42), .val (.int (own_from x4)), .val (.int (own_len x4 x5)), .val (.int (own_to x4 x5)), .unset, .unset, .unset] []))
      refine own_go (fun _ k => XS.aload X59.here hx rfl (hb hby at_90) rfl rfl k) ?_
      show own_G p.tables e below _ (T59.setTop (mkF m 92 #[.val (.int x0), .val (.int x1), .val (.int x2), .val (.int x3), .val (.int x4), .val (.int x5), .val (.ref b42), .val (.int (own_from x4)), .val (.int (own_len x4 x5)), .val (.int (own_to x4 x5)), .unset, .unset, .unset] [(.ref b42)]))
      refine own_go (fun _ k => XS.iconst X59.here hx rfl (hb hby at_92) k) ?_
      show own_G p.tables e below _ (T59.setTop (mkF m 93 #[.val (.int x0), .val (.int x1), .val (.int x2), .val (.int x3), .val (.int x4), .val (.int x5), .val (.ref b42), .val (.int (own_from x4)), .val (.int (own_len x4 x5)), .val (.int (own_to x4 x5)), .unset, .unset, .unset] [(.int (2 : Int32)), (.ref b42)]))
      refine own_go (fun _ k => XS.iload X59.here hx rfl (hb hby at_93) rfl k) ?_
      show own_G p.tables e below _ (T59.setTop (mkF m 95 #[.val (.int x0), .val (.int x1), .val (.int x2), .val (.int x3), .val (.int x4), .val (.int x5), .val (.ref b42), .val (.int (own_from x4)), .val (.int (own_len x4 x5)), .val (.int (own_to x4 x5)), .unset, .unset, .unset] [(.int (own_from x4)), (.int (2 : Int32)), (.ref b42)]))
      refine own_go (fun _ k => XS.iload X59.here hx rfl (hb hby at_95) rfl k) ?_
      show own_G p.tables e below _ (T59.setTop (mkF m 97 #[.val (.int x0), .val (.int x1), .val (.int x2), .val (.int x3), .val (.int x4), .val (.int x5), .val (.ref b42), .val (.int (own_from x4)), .val (.int (own_len x4 x5)), .val (.int (own_to x4 x5)), .unset, .unset, .unset] [(.int (own_to x4 x5)), (.int (own_from x4)), (.int (2 : Int32)), (.ref b42)]))
      obtain ⟨T61, X61, e61, st61⟩ := own_callP X59 hx hZ (y := (⟨"com/example/davka/davka/checks/LetterCodesNumberPinLaw", "badAt", "([CIII)Z"⟩ : MethodName)) hown (hw _ (List.mem_of_getElem? (i := 6) rfl)) (hw _ (List.mem_of_getElem? (i := 7) rfl)) (hw _ (List.mem_of_getElem? (i := 3) rfl)) (hw _ (List.mem_of_getElem? (i := 8) rfl)) (by decide) (W := 0) (rm2 l Z a0 hw [] b42 (2 : Int32) (own_from x4) (own_to x4 x5) k42 (own_cs x0 x1 x2 x3) h55 V55 hfrom hto) (by decide) (by decide) rfl rfl e59 (g := (mkF m 97 #[.val (.int x0), .val (.int x1), .val (.int x2), .val (.int x3), .val (.int x4), .val (.int x5), .val (.ref b42), .val (.int (own_from x4)), .val (.int (own_len x4 x5)), .val (.int (own_to x4 x5)), .unset, .unset, .unset] [(.int (own_to x4 x5)), (.int (own_from x4)), (.int (2 : Int32)), (.ref b42)])) rfl (by rw [hml]; rfl) (argsL := [(.ref b42), (.int (2 : Int32)), (.int (own_from x4)), (.int (own_to x4 x5))]) (rest := []) (lenOf own_pd4 rfl) rfl rfl (by show 2 * 0 + _ ≤ _; exact Nat.le_of_eq rfl) (hb hby at_97) (by decide) (by decide)
      refine own_go st61 ?_
      show own_G p.tables e below _ (T61.setTop (mkF m 100 #[.val (.int x0), .val (.int x1), .val (.int x2), .val (.int x3), .val (.int x4), .val (.int x5), .val (.ref b42), .val (.int (own_from x4)), .val (.int (own_len x4 x5)), .val (.int (own_to x4 x5)), .unset, .unset, .unset] [(.int (F2 (2 : Int32) (own_from x4) (own_to x4 x5) (own_cs x0 x1 x2 x3)))]))
      by_cases hc100_62 : (F2 (2 : Int32) (own_from x4) (own_to x4 x5) (own_cs x0 x1 x2 x3)) = (0 : Int32)
      · refine own_go (fun _ k => XS.ifNo X61.here hx rfl (hb hby at_100) rfl (((if0 _ _).trans (teq hc100_62).2)) k) ?_
        show own_G p.tables e below _ (T61.setTop (mkF m 103 #[.val (.int x0), .val (.int x1), .val (.int x2), .val (.int x3), .val (.int x4), .val (.int x5), .val (.ref b42), .val (.int (own_from x4)), .val (.int (own_len x4 x5)), .val (.int (own_to x4 x5)), .unset, .unset, .unset] []))
        refine own_go (fun _ k => XS.aload X61.here hx rfl (hb hby at_103) rfl rfl k) ?_
        show own_G p.tables e below _ (T61.setTop (mkF m 105 #[.val (.int x0), .val (.int x1), .val (.int x2), .val (.int x3), .val (.int x4), .val (.int x5), .val (.ref b42), .val (.int (own_from x4)), .val (.int (own_len x4 x5)), .val (.int (own_to x4 x5)), .unset, .unset, .unset] [(.ref b42)]))
        refine own_go (fun _ k => XS.iconst X61.here hx rfl (hb hby at_105) k) ?_
        show own_G p.tables e below _ (T61.setTop (mkF m 106 #[.val (.int x0), .val (.int x1), .val (.int x2), .val (.int x3), .val (.int x4), .val (.int x5), .val (.ref b42), .val (.int (own_from x4)), .val (.int (own_len x4 x5)), .val (.int (own_to x4 x5)), .unset, .unset, .unset] [(.int (3 : Int32)), (.ref b42)]))
        refine own_go (fun _ k => XS.iload X61.here hx rfl (hb hby at_106) rfl k) ?_
        show own_G p.tables e below _ (T61.setTop (mkF m 108 #[.val (.int x0), .val (.int x1), .val (.int x2), .val (.int x3), .val (.int x4), .val (.int x5), .val (.ref b42), .val (.int (own_from x4)), .val (.int (own_len x4 x5)), .val (.int (own_to x4 x5)), .unset, .unset, .unset] [(.int (own_from x4)), (.int (3 : Int32)), (.ref b42)]))
        refine own_go (fun _ k => XS.iload X61.here hx rfl (hb hby at_108) rfl k) ?_
        show own_G p.tables e below _ (T61.setTop (mkF m 110 #[.val (.int x0), .val (.int x1), .val (.int x2), .val (.int x3), .val (.int x4), .val (.int x5), .val (.ref b42), .val (.int (own_from x4)), .val (.int (own_len x4 x5)), .val (.int (own_to x4 x5)), .unset, .unset, .unset] [(.int (own_to x4 x5)), (.int (own_from x4)), (.int (3 : Int32)), (.ref b42)]))
        obtain ⟨T63, X63, e63, st63⟩ := own_callP X61 hx hZ (y := (⟨"com/example/davka/davka/checks/LetterCodesNumberPinLaw", "badAt", "([CIII)Z"⟩ : MethodName)) hown (hw _ (List.mem_of_getElem? (i := 6) rfl)) (hw _ (List.mem_of_getElem? (i := 7) rfl)) (hw _ (List.mem_of_getElem? (i := 3) rfl)) (hw _ (List.mem_of_getElem? (i := 8) rfl)) (by decide) (W := 0) (rm2 l Z a0 hw [] b42 (3 : Int32) (own_from x4) (own_to x4 x5) k42 (own_cs x0 x1 x2 x3) h55 V55 hfrom hto) (by decide) (by decide) rfl rfl e61 (g := (mkF m 110 #[.val (.int x0), .val (.int x1), .val (.int x2), .val (.int x3), .val (.int x4), .val (.int x5), .val (.ref b42), .val (.int (own_from x4)), .val (.int (own_len x4 x5)), .val (.int (own_to x4 x5)), .unset, .unset, .unset] [(.int (own_to x4 x5)), (.int (own_from x4)), (.int (3 : Int32)), (.ref b42)])) rfl (by rw [hml]; rfl) (argsL := [(.ref b42), (.int (3 : Int32)), (.int (own_from x4)), (.int (own_to x4 x5))]) (rest := []) (lenOf own_pd4 rfl) rfl rfl (by show 2 * 0 + _ ≤ _; exact Nat.le_of_eq rfl) (hb hby at_110) (by decide) (by decide)
        refine own_go st63 ?_
        show own_G p.tables e below _ (T63.setTop (mkF m 113 #[.val (.int x0), .val (.int x1), .val (.int x2), .val (.int x3), .val (.int x4), .val (.int x5), .val (.ref b42), .val (.int (own_from x4)), .val (.int (own_len x4 x5)), .val (.int (own_to x4 x5)), .unset, .unset, .unset] [(.int (F2 (3 : Int32) (own_from x4) (own_to x4 x5) (own_cs x0 x1 x2 x3)))]))
        by_cases hc113_64 : (F2 (3 : Int32) (own_from x4) (own_to x4 x5) (own_cs x0 x1 x2 x3)) = (0 : Int32)
        · refine own_go (fun _ k => XS.ifYes X63.here hx rfl (pc0 := 113) (pc' := 120) rfl (hb hby at_113) rfl (((if0 _ _).trans (teq hc113_64).1)) (by decide) (by decide) k) ?_
          show own_G p.tables e below _ (T63.setTop (mkF m 120 #[.val (.int x0), .val (.int x1), .val (.int x2), .val (.int x3), .val (.int x4), .val (.int x5), .val (.ref b42), .val (.int (own_from x4)), .val (.int (own_len x4 x5)), .val (.int (own_to x4 x5)), .unset, .unset, .unset] []))
          refine own_go (fun _ k => XS.iconst X63.here hx rfl (hb hby at_120) k) ?_
          show own_G p.tables e below _ (T63.setTop (mkF m 121 #[.val (.int x0), .val (.int x1), .val (.int x2), .val (.int x3), .val (.int x4), .val (.int x5), .val (.ref b42), .val (.int (own_from x4)), .val (.int (own_len x4 x5)), .val (.int (own_to x4 x5)), .unset, .unset, .unset] [(.int (0 : Int32))]))
          refine own_go (fun _ k => XS.istore X63.here hx rfl (hb hby at_121) rfl (l' := #[.val (.int x0), .val (.int x1), .val (.int x2), .val (.int x3), .val (.int x4), .val (.int x5), .val (.ref b42), .val (.int (own_from x4)), .val (.int (own_len x4 x5)), .val (.int (own_to x4 x5)), .val (.int (0 : Int32)), .unset, .unset]) rfl k) ?_
          show own_G p.tables e below _ (T63.setTop (mkF m 123 #[.val (.int x0), .val (.int x1), .val (.int x2), .val (.int x3), .val (.int x4), .val (.int x5), .val (.ref b42), .val (.int (own_from x4)), .val (.int (own_len x4 x5)), .val (.int (own_to x4 x5)), .val (.int (0 : Int32)), .unset, .unset] []))
          refine own_go (fun _ k => XS.iload X63.here hx rfl (hb hby at_123) rfl k) ?_
          show own_G p.tables e below _ (T63.setTop (mkF m 125 #[.val (.int x0), .val (.int x1), .val (.int x2), .val (.int x3), .val (.int x4), .val (.int x5), .val (.ref b42), .val (.int (own_from x4)), .val (.int (own_len x4 x5)), .val (.int (own_to x4 x5)), .val (.int (0 : Int32)), .unset, .unset] [(.int (0 : Int32))]))
          refine own_go (fun _ k => XS.ifYes X63.here hx rfl (pc0 := 125) (pc' := 134) rfl (hb hby at_125) rfl (((if0 _ _).trans (teq (by decide : (0 : Int32) = (0 : Int32))).1)) (by decide) (by decide) k) ?_
          show own_G p.tables e below _ (T63.setTop (mkF m 134 #[.val (.int x0), .val (.int x1), .val (.int x2), .val (.int x3), .val (.int x4), .val (.int x5), .val (.ref b42), .val (.int (own_from x4)), .val (.int (own_len x4 x5)), .val (.int (own_to x4 x5)), .val (.int (0 : Int32)), .unset, .unset] []))
          refine own_go (fun _ k => XS.aload X63.here hx rfl (hb hby at_134) rfl rfl k) ?_
          show own_G p.tables e below _ (T63.setTop (mkF m 136 #[.val (.int x0), .val (.int x1), .val (.int x2), .val (.int x3), .val (.int x4), .val (.int x5), .val (.ref b42), .val (.int (own_from x4)), .val (.int (own_len x4 x5)), .val (.int (own_to x4 x5)), .val (.int (0 : Int32)), .unset, .unset] [(.ref b42)]))
          refine own_go (fun _ k => XS.iconst X63.here hx rfl (hb hby at_136) k) ?_
          show own_G p.tables e below _ (T63.setTop (mkF m 137 #[.val (.int x0), .val (.int x1), .val (.int x2), .val (.int x3), .val (.int x4), .val (.int x5), .val (.ref b42), .val (.int (own_from x4)), .val (.int (own_len x4 x5)), .val (.int (own_to x4 x5)), .val (.int (0 : Int32)), .unset, .unset] [(.int (0 : Int32)), (.ref b42)]))
          refine own_go (fun _ k => XS.iload X63.here hx rfl (hb hby at_137) rfl k) ?_
          show own_G p.tables e below _ (T63.setTop (mkF m 139 #[.val (.int x0), .val (.int x1), .val (.int x2), .val (.int x3), .val (.int x4), .val (.int x5), .val (.ref b42), .val (.int (own_from x4)), .val (.int (own_len x4 x5)), .val (.int (own_to x4 x5)), .val (.int (0 : Int32)), .unset, .unset] [(.int (own_from x4)), (.int (0 : Int32)), (.ref b42)]))
          refine own_go (fun _ k => XS.iload X63.here hx rfl (hb hby at_139) rfl k) ?_
          show own_G p.tables e below _ (T63.setTop (mkF m 141 #[.val (.int x0), .val (.int x1), .val (.int x2), .val (.int x3), .val (.int x4), .val (.int x5), .val (.ref b42), .val (.int (own_from x4)), .val (.int (own_len x4 x5)), .val (.int (own_to x4 x5)), .val (.int (0 : Int32)), .unset, .unset] [(.int (own_to x4 x5)), (.int (own_from x4)), (.int (0 : Int32)), (.ref b42)]))
          obtain ⟨T65, X65, e65, st65⟩ := own_callP X63 hx hZ (y := (⟨"com/example/davka/davka/checks/LetterCodesNumberPinLaw", "term", "([CIII)I"⟩ : MethodName)) hown (hw _ (List.mem_of_getElem? (i := 15) rfl)) (hw _ (List.mem_of_getElem? (i := 16) rfl)) (hw _ (List.mem_of_getElem? (i := 3) rfl)) (hw _ (List.mem_of_getElem? (i := 17) rfl)) (by decide) (W := 0) (rm5 l Z a0 hw [] b42 (0 : Int32) (own_from x4) (own_to x4 x5) k42 (own_cs x0 x1 x2 x3) h55 V55 hfrom hto) (by decide) (by decide) rfl rfl e63 (g := (mkF m 141 #[.val (.int x0), .val (.int x1), .val (.int x2), .val (.int x3), .val (.int x4), .val (.int x5), .val (.ref b42), .val (.int (own_from x4)), .val (.int (own_len x4 x5)), .val (.int (own_to x4 x5)), .val (.int (0 : Int32)), .unset, .unset] [(.int (own_to x4 x5)), (.int (own_from x4)), (.int (0 : Int32)), (.ref b42)])) rfl (by rw [hml]; rfl) (argsL := [(.ref b42), (.int (0 : Int32)), (.int (own_from x4)), (.int (own_to x4 x5))]) (rest := []) (lenOf own_pd5 rfl) rfl rfl (by show 2 * 0 + _ ≤ _; exact Nat.le_of_eq rfl) (hb hby at_141) (by decide) (by decide)
          refine own_go st65 ?_
          show own_G p.tables e below _ (T65.setTop (mkF m 144 #[.val (.int x0), .val (.int x1), .val (.int x2), .val (.int x3), .val (.int x4), .val (.int x5), .val (.ref b42), .val (.int (own_from x4)), .val (.int (own_len x4 x5)), .val (.int (own_to x4 x5)), .val (.int (0 : Int32)), .unset, .unset] [(.int (F5 (0 : Int32) (own_from x4) (own_to x4 x5) (own_cs x0 x1 x2 x3)))]))
          refine own_go (fun _ k => XS.aload X65.here hx rfl (hb hby at_144) rfl rfl k) ?_
          show own_G p.tables e below _ (T65.setTop (mkF m 146 #[.val (.int x0), .val (.int x1), .val (.int x2), .val (.int x3), .val (.int x4), .val (.int x5), .val (.ref b42), .val (.int (own_from x4)), .val (.int (own_len x4 x5)), .val (.int (own_to x4 x5)), .val (.int (0 : Int32)), .unset, .unset] [(.ref b42), (.int (F5 (0 : Int32) (own_from x4) (own_to x4 x5) (own_cs x0 x1 x2 x3)))]))
          refine own_go (fun _ k => XS.iconst X65.here hx rfl (hb hby at_146) k) ?_
          show own_G p.tables e below _ (T65.setTop (mkF m 147 #[.val (.int x0), .val (.int x1), .val (.int x2), .val (.int x3), .val (.int x4), .val (.int x5), .val (.ref b42), .val (.int (own_from x4)), .val (.int (own_len x4 x5)), .val (.int (own_to x4 x5)), .val (.int (0 : Int32)), .unset, .unset] [(.int (1 : Int32)), (.ref b42), (.int (F5 (0 : Int32) (own_from x4) (own_to x4 x5) (own_cs x0 x1 x2 x3)))]))
          refine own_go (fun _ k => XS.iload X65.here hx rfl (hb hby at_147) rfl k) ?_
          show own_G p.tables e below _ (T65.setTop (mkF m 149 #[.val (.int x0), .val (.int x1), .val (.int x2), .val (.int x3), .val (.int x4), .val (.int x5), .val (.ref b42), .val (.int (own_from x4)), .val (.int (own_len x4 x5)), .val (.int (own_to x4 x5)), .val (.int (0 : Int32)), .unset, .unset] [(.int (own_from x4)), (.int (1 : Int32)), (.ref b42), (.int (F5 (0 : Int32) (own_from x4) (own_to x4 x5) (own_cs x0 x1 x2 x3)))]))
          refine own_go (fun _ k => XS.iload X65.here hx rfl (hb hby at_149) rfl k) ?_
          show own_G p.tables e below _ (T65.setTop (mkF m 151 #[.val (.int x0), .val (.int x1), .val (.int x2), .val (.int x3), .val (.int x4), .val (.int x5), .val (.ref b42), .val (.int (own_from x4)), .val (.int (own_len x4 x5)), .val (.int (own_to x4 x5)), .val (.int (0 : Int32)), .unset, .unset] [(.int (own_to x4 x5)), (.int (own_from x4)), (.int (1 : Int32)), (.ref b42), (.int (F5 (0 : Int32) (own_from x4) (own_to x4 x5) (own_cs x0 x1 x2 x3)))]))
          obtain ⟨T66, X66, e66, st66⟩ := own_callP X65 hx hZ (y := (⟨"com/example/davka/davka/checks/LetterCodesNumberPinLaw", "term", "([CIII)I"⟩ : MethodName)) hown (hw _ (List.mem_of_getElem? (i := 15) rfl)) (hw _ (List.mem_of_getElem? (i := 16) rfl)) (hw _ (List.mem_of_getElem? (i := 3) rfl)) (hw _ (List.mem_of_getElem? (i := 17) rfl)) (by decide) (W := 1) (rm5 l Z a0 hw [] b42 (1 : Int32) (own_from x4) (own_to x4 x5) k42 (own_cs x0 x1 x2 x3) h55 V55 hfrom hto) (by decide) (by decide) rfl rfl e65 (g := (mkF m 151 #[.val (.int x0), .val (.int x1), .val (.int x2), .val (.int x3), .val (.int x4), .val (.int x5), .val (.ref b42), .val (.int (own_from x4)), .val (.int (own_len x4 x5)), .val (.int (own_to x4 x5)), .val (.int (0 : Int32)), .unset, .unset] [(.int (own_to x4 x5)), (.int (own_from x4)), (.int (1 : Int32)), (.ref b42), (.int (F5 (0 : Int32) (own_from x4) (own_to x4 x5) (own_cs x0 x1 x2 x3)))])) rfl (by rw [hml]; rfl) (argsL := [(.ref b42), (.int (1 : Int32)), (.int (own_from x4)), (.int (own_to x4 x5))]) (rest := [(.int (F5 (0 : Int32) (own_from x4) (own_to x4 x5) (own_cs x0 x1 x2 x3)))]) (lenOf own_pd5 rfl) rfl rfl (by show 2 * 0 + _ ≤ _; exact Nat.le_of_eq rfl) (hb hby at_151) (by decide) (by decide)
          refine own_go st66 ?_
          show own_G p.tables e below _ (T66.setTop (mkF m 154 #[.val (.int x0), .val (.int x1), .val (.int x2), .val (.int x3), .val (.int x4), .val (.int x5), .val (.ref b42), .val (.int (own_from x4)), .val (.int (own_len x4 x5)), .val (.int (own_to x4 x5)), .val (.int (0 : Int32)), .unset, .unset] [(.int (F5 (1 : Int32) (own_from x4) (own_to x4 x5) (own_cs x0 x1 x2 x3))), (.int (F5 (0 : Int32) (own_from x4) (own_to x4 x5) (own_cs x0 x1 x2 x3)))]))
          refine own_go (fun _ k => XS.iadd X66.here hx rfl (hb hby at_154) rfl k) ?_
          show own_G p.tables e below _ (T66.setTop (mkF m 155 #[.val (.int x0), .val (.int x1), .val (.int x2), .val (.int x3), .val (.int x4), .val (.int x5), .val (.ref b42), .val (.int (own_from x4)), .val (.int (own_len x4 x5)), .val (.int (own_to x4 x5)), .val (.int (0 : Int32)), .unset, .unset] [(.int ((F5 (0 : Int32) (own_from x4) (own_to x4 x5) (own_cs x0 x1 x2 x3)) + (F5 (1 : Int32) (own_from x4) (own_to x4 x5) (own_cs x0 x1 x2 x3))))]))
          refine own_go (fun _ k => XS.aload X66.here hx rfl (hb hby at_155) rfl rfl k) ?_
          show own_G p.tables e below _ (T66.setTop (mkF m 157 #[.val (.int x0), .val (.int x1), .val (.int x2), .val (.int x3), .val (.int x4), .val (.int x5), .val (.ref b42), .val (.int (own_from x4)), .val (.int (own_len x4 x5)), .val (.int (own_to x4 x5)), .val (.int (0 : Int32)), .unset, .unset] [(.ref b42), (.int ((F5 (0 : Int32) (own_from x4) (own_to x4 x5) (own_cs x0 x1 x2 x3)) + (F5 (1 : Int32) (own_from x4) (own_to x4 x5) (own_cs x0 x1 x2 x3))))]))
          refine own_go (fun _ k => XS.iconst X66.here hx rfl (hb hby at_157) k) ?_
          show own_G p.tables e below _ (T66.setTop (mkF m 158 #[.val (.int x0), .val (.int x1), .val (.int x2), .val (.int x3), .val (.int x4), .val (.int x5), .val (.ref b42), .val (.int (own_from x4)), .val (.int (own_len x4 x5)), .val (.int (own_to x4 x5)), .val (.int (0 : Int32)), .unset, .unset] [(.int (2 : Int32)), (.ref b42), (.int ((F5 (0 : Int32) (own_from x4) (own_to x4 x5) (own_cs x0 x1 x2 x3)) + (F5 (1 : Int32) (own_from x4) (own_to x4 x5) (own_cs x0 x1 x2 x3))))]))
          refine own_go (fun _ k => XS.iload X66.here hx rfl (hb hby at_158) rfl k) ?_
          show own_G p.tables e below _ (T66.setTop (mkF m 160 #[.val (.int x0), .val (.int x1), .val (.int x2), .val (.int x3), .val (.int x4), .val (.int x5), .val (.ref b42), .val (.int (own_from x4)), .val (.int (own_len x4 x5)), .val (.int (own_to x4 x5)), .val (.int (0 : Int32)), .unset, .unset] [(.int (own_from x4)), (.int (2 : Int32)), (.ref b42), (.int ((F5 (0 : Int32) (own_from x4) (own_to x4 x5) (own_cs x0 x1 x2 x3)) + (F5 (1 : Int32) (own_from x4) (own_to x4 x5) (own_cs x0 x1 x2 x3))))]))
          refine own_go (fun _ k => XS.iload X66.here hx rfl (hb hby at_160) rfl k) ?_
          show own_G p.tables e below _ (T66.setTop (mkF m 162 #[.val (.int x0), .val (.int x1), .val (.int x2), .val (.int x3), .val (.int x4), .val (.int x5), .val (.ref b42), .val (.int (own_from x4)), .val (.int (own_len x4 x5)), .val (.int (own_to x4 x5)), .val (.int (0 : Int32)), .unset, .unset] [(.int (own_to x4 x5)), (.int (own_from x4)), (.int (2 : Int32)), (.ref b42), (.int ((F5 (0 : Int32) (own_from x4) (own_to x4 x5) (own_cs x0 x1 x2 x3)) + (F5 (1 : Int32) (own_from x4) (own_to x4 x5) (own_cs x0 x1 x2 x3))))]))
          obtain ⟨T67, X67, e67, st67⟩ := own_callP X66 hx hZ (y := (⟨"com/example/davka/davka/checks/LetterCodesNumberPinLaw", "term", "([CIII)I"⟩ : MethodName)) hown (hw _ (List.mem_of_getElem? (i := 15) rfl)) (hw _ (List.mem_of_getElem? (i := 16) rfl)) (hw _ (List.mem_of_getElem? (i := 3) rfl)) (hw _ (List.mem_of_getElem? (i := 17) rfl)) (by decide) (W := 1) (rm5 l Z a0 hw [] b42 (2 : Int32) (own_from x4) (own_to x4 x5) k42 (own_cs x0 x1 x2 x3) h55 V55 hfrom hto) (by decide) (by decide) rfl rfl e66 (g := (mkF m 162 #[.val (.int x0), .val (.int x1), .val (.int x2), .val (.int x3), .val (.int x4), .val (.int x5), .val (.ref b42), .val (.int (own_from x4)), .val (.int (own_len x4 x5)), .val (.int (own_to x4 x5)), .val (.int (0 : Int32)), .unset, .unset] [(.int (own_to x4 x5)), (.int (own_from x4)), (.int (2 : Int32)), (.ref b42), (.int ((F5 (0 : Int32) (own_from x4) (own_to x4 x5) (own_cs x0 x1 x2 x3)) + (F5 (1 : Int32) (own_from x4) (own_to x4 x5) (own_cs x0 x1 x2 x3))))])) rfl (by rw [hml]; rfl) (argsL := [(.ref b42), (.int (2 : Int32)), (.int (own_from x4)), (.int (own_to x4 x5))]) (rest := [(.int ((F5 (0 : Int32) (own_from x4) (own_to x4 x5) (own_cs x0 x1 x2 x3)) + (F5 (1 : Int32) (own_from x4) (own_to x4 x5) (own_cs x0 x1 x2 x3))))]) (lenOf own_pd5 rfl) rfl rfl (by show 2 * 0 + _ ≤ _; exact Nat.le_of_eq rfl) (hb hby at_162) (by decide) (by decide)
          refine own_go st67 ?_
          show own_G p.tables e below _ (T67.setTop (mkF m 165 #[.val (.int x0), .val (.int x1), .val (.int x2), .val (.int x3), .val (.int x4), .val (.int x5), .val (.ref b42), .val (.int (own_from x4)), .val (.int (own_len x4 x5)), .val (.int (own_to x4 x5)), .val (.int (0 : Int32)), .unset, .unset] [(.int (F5 (2 : Int32) (own_from x4) (own_to x4 x5) (own_cs x0 x1 x2 x3))), (.int ((F5 (0 : Int32) (own_from x4) (own_to x4 x5) (own_cs x0 x1 x2 x3)) + (F5 (1 : Int32) (own_from x4) (own_to x4 x5) (own_cs x0 x1 x2 x3))))]))
          refine own_go (fun _ k => XS.iadd X67.here hx rfl (hb hby at_165) rfl k) ?_
          show own_G p.tables e below _ (T67.setTop (mkF m 166 #[.val (.int x0), .val (.int x1), .val (.int x2), .val (.int x3), .val (.int x4), .val (.int x5), .val (.ref b42), .val (.int (own_from x4)), .val (.int (own_len x4 x5)), .val (.int (own_to x4 x5)), .val (.int (0 : Int32)), .unset, .unset] [(.int (((F5 (0 : Int32) (own_from x4) (own_to x4 x5) (own_cs x0 x1 x2 x3)) + (F5 (1 : Int32) (own_from x4) (own_to x4 x5) (own_cs x0 x1 x2 x3))) + (F5 (2 : Int32) (own_from x4) (own_to x4 x5) (own_cs x0 x1 x2 x3))))]))
          refine own_go (fun _ k => XS.aload X67.here hx rfl (hb hby at_166) rfl rfl k) ?_
          show own_G p.tables e below _ (T67.setTop (mkF m 168 #[.val (.int x0), .val (.int x1), .val (.int x2), .val (.int x3), .val (.int x4), .val (.int x5), .val (.ref b42), .val (.int (own_from x4)), .val (.int (own_len x4 x5)), .val (.int (own_to x4 x5)), .val (.int (0 : Int32)), .unset, .unset] [(.ref b42), (.int (((F5 (0 : Int32) (own_from x4) (own_to x4 x5) (own_cs x0 x1 x2 x3)) + (F5 (1 : Int32) (own_from x4) (own_to x4 x5) (own_cs x0 x1 x2 x3))) + (F5 (2 : Int32) (own_from x4) (own_to x4 x5) (own_cs x0 x1 x2 x3))))]))
          refine own_go (fun _ k => XS.iconst X67.here hx rfl (hb hby at_168) k) ?_
          show own_G p.tables e below _ (T67.setTop (mkF m 169 #[.val (.int x0), .val (.int x1), .val (.int x2), .val (.int x3), .val (.int x4), .val (.int x5), .val (.ref b42), .val (.int (own_from x4)), .val (.int (own_len x4 x5)), .val (.int (own_to x4 x5)), .val (.int (0 : Int32)), .unset, .unset] [(.int (3 : Int32)), (.ref b42), (.int (((F5 (0 : Int32) (own_from x4) (own_to x4 x5) (own_cs x0 x1 x2 x3)) + (F5 (1 : Int32) (own_from x4) (own_to x4 x5) (own_cs x0 x1 x2 x3))) + (F5 (2 : Int32) (own_from x4) (own_to x4 x5) (own_cs x0 x1 x2 x3))))]))
          refine own_go (fun _ k => XS.iload X67.here hx rfl (hb hby at_169) rfl k) ?_
          show own_G p.tables e below _ (T67.setTop (mkF m 171 #[.val (.int x0), .val (.int x1), .val (.int x2), .val (.int x3), .val (.int x4), .val (.int x5), .val (.ref b42), .val (.int (own_from x4)), .val (.int (own_len x4 x5)), .val (.int (own_to x4 x5)), .val (.int (0 : Int32)), .unset, .unset] [(.int (own_from x4)), (.int (3 : Int32)), (.ref b42), (.int (((F5 (0 : Int32) (own_from x4) (own_to x4 x5) (own_cs x0 x1 x2 x3)) + (F5 (1 : Int32) (own_from x4) (own_to x4 x5) (own_cs x0 x1 x2 x3))) + (F5 (2 : Int32) (own_from x4) (own_to x4 x5) (own_cs x0 x1 x2 x3))))]))
          refine own_go (fun _ k => XS.iload X67.here hx rfl (hb hby at_171) rfl k) ?_
          show own_G p.tables e below _ (T67.setTop (mkF m 173 #[.val (.int x0), .val (.int x1), .val (.int x2), .val (.int x3), .val (.int x4), .val (.int x5), .val (.ref b42), .val (.int (own_from x4)), .val (.int (own_len x4 x5)), .val (.int (own_to x4 x5)), .val (.int (0 : Int32)), .unset, .unset] [(.int (own_to x4 x5)), (.int (own_from x4)), (.int (3 : Int32)), (.ref b42), (.int (((F5 (0 : Int32) (own_from x4) (own_to x4 x5) (own_cs x0 x1 x2 x3)) + (F5 (1 : Int32) (own_from x4) (own_to x4 x5) (own_cs x0 x1 x2 x3))) + (F5 (2 : Int32) (own_from x4) (own_to x4 x5) (own_cs x0 x1 x2 x3))))]))
          obtain ⟨T68, X68, e68, st68⟩ := own_callP X67 hx hZ (y := (⟨"com/example/davka/davka/checks/LetterCodesNumberPinLaw", "term", "([CIII)I"⟩ : MethodName)) hown (hw _ (List.mem_of_getElem? (i := 15) rfl)) (hw _ (List.mem_of_getElem? (i := 16) rfl)) (hw _ (List.mem_of_getElem? (i := 3) rfl)) (hw _ (List.mem_of_getElem? (i := 17) rfl)) (by decide) (W := 1) (rm5 l Z a0 hw [] b42 (3 : Int32) (own_from x4) (own_to x4 x5) k42 (own_cs x0 x1 x2 x3) h55 V55 hfrom hto) (by decide) (by decide) rfl rfl e67 (g := (mkF m 173 #[.val (.int x0), .val (.int x1), .val (.int x2), .val (.int x3), .val (.int x4), .val (.int x5), .val (.ref b42), .val (.int (own_from x4)), .val (.int (own_len x4 x5)), .val (.int (own_to x4 x5)), .val (.int (0 : Int32)), .unset, .unset] [(.int (own_to x4 x5)), (.int (own_from x4)), (.int (3 : Int32)), (.ref b42), (.int (((F5 (0 : Int32) (own_from x4) (own_to x4 x5) (own_cs x0 x1 x2 x3)) + (F5 (1 : Int32) (own_from x4) (own_to x4 x5) (own_cs x0 x1 x2 x3))) + (F5 (2 : Int32) (own_from x4) (own_to x4 x5) (own_cs x0 x1 x2 x3))))])) rfl (by rw [hml]; rfl) (argsL := [(.ref b42), (.int (3 : Int32)), (.int (own_from x4)), (.int (own_to x4 x5))]) (rest := [(.int (((F5 (0 : Int32) (own_from x4) (own_to x4 x5) (own_cs x0 x1 x2 x3)) + (F5 (1 : Int32) (own_from x4) (own_to x4 x5) (own_cs x0 x1 x2 x3))) + (F5 (2 : Int32) (own_from x4) (own_to x4 x5) (own_cs x0 x1 x2 x3))))]) (lenOf own_pd5 rfl) rfl rfl (by show 2 * 0 + _ ≤ _; exact Nat.le_of_eq rfl) (hb hby at_173) (by decide) (by decide)
          refine own_go st68 ?_
          show own_G p.tables e below _ (T68.setTop (mkF m 176 #[.val (.int x0), .val (.int x1), .val (.int x2), .val (.int x3), .val (.int x4), .val (.int x5), .val (.ref b42), .val (.int (own_from x4)), .val (.int (own_len x4 x5)), .val (.int (own_to x4 x5)), .val (.int (0 : Int32)), .unset, .unset] [(.int (F5 (3 : Int32) (own_from x4) (own_to x4 x5) (own_cs x0 x1 x2 x3))), (.int (((F5 (0 : Int32) (own_from x4) (own_to x4 x5) (own_cs x0 x1 x2 x3)) + (F5 (1 : Int32) (own_from x4) (own_to x4 x5) (own_cs x0 x1 x2 x3))) + (F5 (2 : Int32) (own_from x4) (own_to x4 x5) (own_cs x0 x1 x2 x3))))]))
          refine own_go (fun _ k => XS.iadd X68.here hx rfl (hb hby at_176) rfl k) ?_
          show own_G p.tables e below _ (T68.setTop (mkF m 177 #[.val (.int x0), .val (.int x1), .val (.int x2), .val (.int x3), .val (.int x4), .val (.int x5), .val (.ref b42), .val (.int (own_from x4)), .val (.int (own_len x4 x5)), .val (.int (own_to x4 x5)), .val (.int (0 : Int32)), .unset, .unset] [(.int ((((F5 (0 : Int32) (own_from x4) (own_to x4 x5) (own_cs x0 x1 x2 x3)) + (F5 (1 : Int32) (own_from x4) (own_to x4 x5) (own_cs x0 x1 x2 x3))) + (F5 (2 : Int32) (own_from x4) (own_to x4 x5) (own_cs x0 x1 x2 x3))) + (F5 (3 : Int32) (own_from x4) (own_to x4 x5) (own_cs x0 x1 x2 x3))))]))
          refine own_go (fun _ k => XS.istore X68.here hx rfl (hb hby at_177) rfl (l' := #[.val (.int x0), .val (.int x1), .val (.int x2), .val (.int x3), .val (.int x4), .val (.int x5), .val (.ref b42), .val (.int (own_from x4)), .val (.int (own_len x4 x5)), .val (.int (own_to x4 x5)), .val (.int (0 : Int32)), .val (.int ((((F5 (0 : Int32) (own_from x4) (own_to x4 x5) (own_cs x0 x1 x2 x3)) + (F5 (1 : Int32) (own_from x4) (own_to x4 x5) (own_cs x0 x1 x2 x3))) + (F5 (2 : Int32) (own_from x4) (own_to x4 x5) (own_cs x0 x1 x2 x3))) + (F5 (3 : Int32) (own_from x4) (own_to x4 x5) (own_cs x0 x1 x2 x3)))), .unset]) rfl k) ?_
          show own_G p.tables e below _ (T68.setTop (mkF m 179 #[.val (.int x0), .val (.int x1), .val (.int x2), .val (.int x3), .val (.int x4), .val (.int x5), .val (.ref b42), .val (.int (own_from x4)), .val (.int (own_len x4 x5)), .val (.int (own_to x4 x5)), .val (.int (0 : Int32)), .val (.int ((((F5 (0 : Int32) (own_from x4) (own_to x4 x5) (own_cs x0 x1 x2 x3)) + (F5 (1 : Int32) (own_from x4) (own_to x4 x5) (own_cs x0 x1 x2 x3))) + (F5 (2 : Int32) (own_from x4) (own_to x4 x5) (own_cs x0 x1 x2 x3))) + (F5 (3 : Int32) (own_from x4) (own_to x4 x5) (own_cs x0 x1 x2 x3)))), .unset] []))
          refine own_go (fun _ k => XS.aload X68.here hx rfl (hb hby at_179) rfl rfl k) ?_
          show own_G p.tables e below _ (T68.setTop (mkF m 181 #[.val (.int x0), .val (.int x1), .val (.int x2), .val (.int x3), .val (.int x4), .val (.int x5), .val (.ref b42), .val (.int (own_from x4)), .val (.int (own_len x4 x5)), .val (.int (own_to x4 x5)), .val (.int (0 : Int32)), .val (.int ((((F5 (0 : Int32) (own_from x4) (own_to x4 x5) (own_cs x0 x1 x2 x3)) + (F5 (1 : Int32) (own_from x4) (own_to x4 x5) (own_cs x0 x1 x2 x3))) + (F5 (2 : Int32) (own_from x4) (own_to x4 x5) (own_cs x0 x1 x2 x3))) + (F5 (3 : Int32) (own_from x4) (own_to x4 x5) (own_cs x0 x1 x2 x3)))), .unset] [(.ref b42)]))
          refine own_go (fun _ k => XS.iload X68.here hx rfl (hb hby at_181) rfl k) ?_
          show own_G p.tables e below _ (T68.setTop (mkF m 183 #[.val (.int x0), .val (.int x1), .val (.int x2), .val (.int x3), .val (.int x4), .val (.int x5), .val (.ref b42), .val (.int (own_from x4)), .val (.int (own_len x4 x5)), .val (.int (own_to x4 x5)), .val (.int (0 : Int32)), .val (.int ((((F5 (0 : Int32) (own_from x4) (own_to x4 x5) (own_cs x0 x1 x2 x3)) + (F5 (1 : Int32) (own_from x4) (own_to x4 x5) (own_cs x0 x1 x2 x3))) + (F5 (2 : Int32) (own_from x4) (own_to x4 x5) (own_cs x0 x1 x2 x3))) + (F5 (3 : Int32) (own_from x4) (own_to x4 x5) (own_cs x0 x1 x2 x3)))), .unset] [(.int (own_from x4)), (.ref b42)]))
          refine own_go (fun _ k => XS.iload X68.here hx rfl (hb hby at_183) rfl k) ?_
          show own_G p.tables e below _ (T68.setTop (mkF m 185 #[.val (.int x0), .val (.int x1), .val (.int x2), .val (.int x3), .val (.int x4), .val (.int x5), .val (.ref b42), .val (.int (own_from x4)), .val (.int (own_len x4 x5)), .val (.int (own_to x4 x5)), .val (.int (0 : Int32)), .val (.int ((((F5 (0 : Int32) (own_from x4) (own_to x4 x5) (own_cs x0 x1 x2 x3)) + (F5 (1 : Int32) (own_from x4) (own_to x4 x5) (own_cs x0 x1 x2 x3))) + (F5 (2 : Int32) (own_from x4) (own_to x4 x5) (own_cs x0 x1 x2 x3))) + (F5 (3 : Int32) (own_from x4) (own_to x4 x5) (own_cs x0 x1 x2 x3)))), .unset] [(.int (own_to x4 x5)), (.int (own_from x4)), (.ref b42)]))
          obtain ⟨T69, X69, e69, st69⟩ := own_callP X68 hx hZ (y := (⟨"com/example/davka/davka/checks/LetterCodes", "number", "([CII)I"⟩ : MethodName)) hown (hw _ (List.mem_of_getElem? (i := 21) rfl)) (hw _ (List.mem_of_getElem? (i := 22) rfl)) (hw _ (List.mem_of_getElem? (i := 23) rfl)) (hw _ (List.mem_of_getElem? (i := 24) rfl)) (by decide) (W := 0) (rm7 l Z a0 hw [] b42 (own_from x4) (own_to x4 x5) k42 (own_cs x0 x1 x2 x3) h55 V55 hfrom hto) (by decide) (by decide) rfl rfl e68 (g := (mkF m 185 #[.val (.int x0), .val (.int x1), .val (.int x2), .val (.int x3), .val (.int x4), .val (.int x5), .val (.ref b42), .val (.int (own_from x4)), .val (.int (own_len x4 x5)), .val (.int (own_to x4 x5)), .val (.int (0 : Int32)), .val (.int ((((F5 (0 : Int32) (own_from x4) (own_to x4 x5) (own_cs x0 x1 x2 x3)) + (F5 (1 : Int32) (own_from x4) (own_to x4 x5) (own_cs x0 x1 x2 x3))) + (F5 (2 : Int32) (own_from x4) (own_to x4 x5) (own_cs x0 x1 x2 x3))) + (F5 (3 : Int32) (own_from x4) (own_to x4 x5) (own_cs x0 x1 x2 x3)))), .unset] [(.int (own_to x4 x5)), (.int (own_from x4)), (.ref b42)])) rfl (by rw [hml]; rfl) (argsL := [(.ref b42), (.int (own_from x4)), (.int (own_to x4 x5))]) (rest := []) (lenOf own_pd6 rfl) rfl rfl (by show 2 * 0 + _ ≤ _; exact Nat.le_of_eq rfl) (hb hby at_185) (by decide) (by decide)
          refine own_go st69 ?_
          show own_G p.tables e below _ (T69.setTop (mkF m 188 #[.val (.int x0), .val (.int x1), .val (.int x2), .val (.int x3), .val (.int x4), .val (.int x5), .val (.ref b42), .val (.int (own_from x4)), .val (.int (own_len x4 x5)), .val (.int (own_to x4 x5)), .val (.int (0 : Int32)), .val (.int ((((F5 (0 : Int32) (own_from x4) (own_to x4 x5) (own_cs x0 x1 x2 x3)) + (F5 (1 : Int32) (own_from x4) (own_to x4 x5) (own_cs x0 x1 x2 x3))) + (F5 (2 : Int32) (own_from x4) (own_to x4 x5) (own_cs x0 x1 x2 x3))) + (F5 (3 : Int32) (own_from x4) (own_to x4 x5) (own_cs x0 x1 x2 x3)))), .unset] [(.int (F7 (own_from x4) (own_to x4 x5) (own_cs x0 x1 x2 x3)))]))
          refine own_go (fun _ k => XS.istore X69.here hx rfl (hb hby at_188) rfl (l' := #[.val (.int x0), .val (.int x1), .val (.int x2), .val (.int x3), .val (.int x4), .val (.int x5), .val (.ref b42), .val (.int (own_from x4)), .val (.int (own_len x4 x5)), .val (.int (own_to x4 x5)), .val (.int (0 : Int32)), .val (.int ((((F5 (0 : Int32) (own_from x4) (own_to x4 x5) (own_cs x0 x1 x2 x3)) + (F5 (1 : Int32) (own_from x4) (own_to x4 x5) (own_cs x0 x1 x2 x3))) + (F5 (2 : Int32) (own_from x4) (own_to x4 x5) (own_cs x0 x1 x2 x3))) + (F5 (3 : Int32) (own_from x4) (own_to x4 x5) (own_cs x0 x1 x2 x3)))), .val (.int (F7 (own_from x4) (own_to x4 x5) (own_cs x0 x1 x2 x3)))]) rfl k) ?_
          show own_G p.tables e below _ (T69.setTop (mkF m 190 #[.val (.int x0), .val (.int x1), .val (.int x2), .val (.int x3), .val (.int x4), .val (.int x5), .val (.ref b42), .val (.int (own_from x4)), .val (.int (own_len x4 x5)), .val (.int (own_to x4 x5)), .val (.int (0 : Int32)), .val (.int ((((F5 (0 : Int32) (own_from x4) (own_to x4 x5) (own_cs x0 x1 x2 x3)) + (F5 (1 : Int32) (own_from x4) (own_to x4 x5) (own_cs x0 x1 x2 x3))) + (F5 (2 : Int32) (own_from x4) (own_to x4 x5) (own_cs x0 x1 x2 x3))) + (F5 (3 : Int32) (own_from x4) (own_to x4 x5) (own_cs x0 x1 x2 x3)))), .val (.int (F7 (own_from x4) (own_to x4 x5) (own_cs x0 x1 x2 x3)))] []))
          refine own_go (fun _ k => XS.iload X69.here hx rfl (hb hby at_190) rfl k) ?_
          show own_G p.tables e below _ (T69.setTop (mkF m 192 #[.val (.int x0), .val (.int x1), .val (.int x2), .val (.int x3), .val (.int x4), .val (.int x5), .val (.ref b42), .val (.int (own_from x4)), .val (.int (own_len x4 x5)), .val (.int (own_to x4 x5)), .val (.int (0 : Int32)), .val (.int ((((F5 (0 : Int32) (own_from x4) (own_to x4 x5) (own_cs x0 x1 x2 x3)) + (F5 (1 : Int32) (own_from x4) (own_to x4 x5) (own_cs x0 x1 x2 x3))) + (F5 (2 : Int32) (own_from x4) (own_to x4 x5) (own_cs x0 x1 x2 x3))) + (F5 (3 : Int32) (own_from x4) (own_to x4 x5) (own_cs x0 x1 x2 x3)))), .val (.int (F7 (own_from x4) (own_to x4 x5) (own_cs x0 x1 x2 x3)))] [(.int (F7 (own_from x4) (own_to x4 x5) (own_cs x0 x1 x2 x3)))]))
          refine own_go (fun _ k => XS.iload X69.here hx rfl (hb hby at_192) rfl k) ?_
          show own_G p.tables e below _ (T69.setTop (mkF m 194 #[.val (.int x0), .val (.int x1), .val (.int x2), .val (.int x3), .val (.int x4), .val (.int x5), .val (.ref b42), .val (.int (own_from x4)), .val (.int (own_len x4 x5)), .val (.int (own_to x4 x5)), .val (.int (0 : Int32)), .val (.int ((((F5 (0 : Int32) (own_from x4) (own_to x4 x5) (own_cs x0 x1 x2 x3)) + (F5 (1 : Int32) (own_from x4) (own_to x4 x5) (own_cs x0 x1 x2 x3))) + (F5 (2 : Int32) (own_from x4) (own_to x4 x5) (own_cs x0 x1 x2 x3))) + (F5 (3 : Int32) (own_from x4) (own_to x4 x5) (own_cs x0 x1 x2 x3)))), .val (.int (F7 (own_from x4) (own_to x4 x5) (own_cs x0 x1 x2 x3)))] [(.int ((((F5 (0 : Int32) (own_from x4) (own_to x4 x5) (own_cs x0 x1 x2 x3)) + (F5 (1 : Int32) (own_from x4) (own_to x4 x5) (own_cs x0 x1 x2 x3))) + (F5 (2 : Int32) (own_from x4) (own_to x4 x5) (own_cs x0 x1 x2 x3))) + (F5 (3 : Int32) (own_from x4) (own_to x4 x5) (own_cs x0 x1 x2 x3)))), (.int (F7 (own_from x4) (own_to x4 x5) (own_cs x0 x1 x2 x3)))]))
          by_cases hc194_70 : (F7 (own_from x4) (own_to x4 x5) (own_cs x0 x1 x2 x3)) = ((((F5 (0 : Int32) (own_from x4) (own_to x4 x5) (own_cs x0 x1 x2 x3)) + (F5 (1 : Int32) (own_from x4) (own_to x4 x5) (own_cs x0 x1 x2 x3))) + (F5 (2 : Int32) (own_from x4) (own_to x4 x5) (own_cs x0 x1 x2 x3))) + (F5 (3 : Int32) (own_from x4) (own_to x4 x5) (own_cs x0 x1 x2 x3)))
          · refine own_go (fun _ k => XS.icmpNo X69.here hx rfl (hb hby at_194) rfl ((teq hc194_70).2) k) ?_
            show own_G p.tables e below _ (T69.setTop (mkF m 197 #[.val (.int x0), .val (.int x1), .val (.int x2), .val (.int x3), .val (.int x4), .val (.int x5), .val (.ref b42), .val (.int (own_from x4)), .val (.int (own_len x4 x5)), .val (.int (own_to x4 x5)), .val (.int (0 : Int32)), .val (.int ((((F5 (0 : Int32) (own_from x4) (own_to x4 x5) (own_cs x0 x1 x2 x3)) + (F5 (1 : Int32) (own_from x4) (own_to x4 x5) (own_cs x0 x1 x2 x3))) + (F5 (2 : Int32) (own_from x4) (own_to x4 x5) (own_cs x0 x1 x2 x3))) + (F5 (3 : Int32) (own_from x4) (own_to x4 x5) (own_cs x0 x1 x2 x3)))), .val (.int (F7 (own_from x4) (own_to x4 x5) (own_cs x0 x1 x2 x3)))] []))
            refine own_go (fun _ k => XS.iconst X69.here hx rfl (hb hby at_197) k) ?_
            show own_G p.tables e below _ (T69.setTop (mkF m 198 #[.val (.int x0), .val (.int x1), .val (.int x2), .val (.int x3), .val (.int x4), .val (.int x5), .val (.ref b42), .val (.int (own_from x4)), .val (.int (own_len x4 x5)), .val (.int (own_to x4 x5)), .val (.int (0 : Int32)), .val (.int ((((F5 (0 : Int32) (own_from x4) (own_to x4 x5) (own_cs x0 x1 x2 x3)) + (F5 (1 : Int32) (own_from x4) (own_to x4 x5) (own_cs x0 x1 x2 x3))) + (F5 (2 : Int32) (own_from x4) (own_to x4 x5) (own_cs x0 x1 x2 x3))) + (F5 (3 : Int32) (own_from x4) (own_to x4 x5) (own_cs x0 x1 x2 x3)))), .val (.int (F7 (own_from x4) (own_to x4 x5) (own_cs x0 x1 x2 x3)))] [(.int (1 : Int32))]))
            refine own_go (fun _ k => XS.goto X69.here hx rfl (pc0 := 198) (pc' := 202) rfl (hb hby at_198) (by decide) (by decide) k) ?_
            show own_G p.tables e below _ (T69.setTop (mkF m 202 #[.val (.int x0), .val (.int x1), .val (.int x2), .val (.int x3), .val (.int x4), .val (.int x5), .val (.ref b42), .val (.int (own_from x4)), .val (.int (own_len x4 x5)), .val (.int (own_to x4 x5)), .val (.int (0 : Int32)), .val (.int ((((F5 (0 : Int32) (own_from x4) (own_to x4 x5) (own_cs x0 x1 x2 x3)) + (F5 (1 : Int32) (own_from x4) (own_to x4 x5) (own_cs x0 x1 x2 x3))) + (F5 (2 : Int32) (own_from x4) (own_to x4 x5) (own_cs x0 x1 x2 x3))) + (F5 (3 : Int32) (own_from x4) (own_to x4 x5) (own_cs x0 x1 x2 x3)))), .val (.int (F7 (own_from x4) (own_to x4 x5) (own_cs x0 x1 x2 x3)))] [(.int (1 : Int32))]))
            exact own_end X69 Bd.notSynchronized (v := some (.int (nar .boolean (1 : Int32)))) (fun h => by rw [Bd.returns] at h; cases h) (Q := QL (some (.int (F0 x0 x1 x2 x3 x4 x5))) n0) ⟨by unfold F0; simp only [if_pos hc74_58, if_pos hc87_60, if_pos hc100_62, if_pos hc113_64, if_pos hc194_70]; try rfl, N_55⟩ (fun fs hr => retN X69 hx (t := .boolean) Bd.returns (by simp) (hb hby at_202) hr) (by decide) (by decide)
          · refine own_go (fun _ k => XS.icmpYes X69.here hx rfl (pc0 := 194) (pc' := 201) rfl (hb hby at_194) rfl ((feq hc194_70).2) (by decide) (by decide) k) ?_
            show own_G p.tables e below _ (T69.setTop (mkF m 201 #[.val (.int x0), .val (.int x1), .val (.int x2), .val (.int x3), .val (.int x4), .val (.int x5), .val (.ref b42), .val (.int (own_from x4)), .val (.int (own_len x4 x5)), .val (.int (own_to x4 x5)), .val (.int (0 : Int32)), .val (.int ((((F5 (0 : Int32) (own_from x4) (own_to x4 x5) (own_cs x0 x1 x2 x3)) + (F5 (1 : Int32) (own_from x4) (own_to x4 x5) (own_cs x0 x1 x2 x3))) + (F5 (2 : Int32) (own_from x4) (own_to x4 x5) (own_cs x0 x1 x2 x3))) + (F5 (3 : Int32) (own_from x4) (own_to x4 x5) (own_cs x0 x1 x2 x3)))), .val (.int (F7 (own_from x4) (own_to x4 x5) (own_cs x0 x1 x2 x3)))] []))
            refine own_go (fun _ k => XS.iconst X69.here hx rfl (hb hby at_201) k) ?_
            show own_G p.tables e below _ (T69.setTop (mkF m 202 #[.val (.int x0), .val (.int x1), .val (.int x2), .val (.int x3), .val (.int x4), .val (.int x5), .val (.ref b42), .val (.int (own_from x4)), .val (.int (own_len x4 x5)), .val (.int (own_to x4 x5)), .val (.int (0 : Int32)), .val (.int ((((F5 (0 : Int32) (own_from x4) (own_to x4 x5) (own_cs x0 x1 x2 x3)) + (F5 (1 : Int32) (own_from x4) (own_to x4 x5) (own_cs x0 x1 x2 x3))) + (F5 (2 : Int32) (own_from x4) (own_to x4 x5) (own_cs x0 x1 x2 x3))) + (F5 (3 : Int32) (own_from x4) (own_to x4 x5) (own_cs x0 x1 x2 x3)))), .val (.int (F7 (own_from x4) (own_to x4 x5) (own_cs x0 x1 x2 x3)))] [(.int (0 : Int32))]))
            exact own_end X69 Bd.notSynchronized (v := some (.int (nar .boolean (0 : Int32)))) (fun h => by rw [Bd.returns] at h; cases h) (Q := QL (some (.int (F0 x0 x1 x2 x3 x4 x5))) n0) ⟨by unfold F0; simp only [if_pos hc74_58, if_pos hc87_60, if_pos hc100_62, if_pos hc113_64, if_neg hc194_70]; try rfl, N_55⟩ (fun fs hr => retN X69 hx (t := .boolean) Bd.returns (by simp) (hb hby at_202) hr) (by decide) (by decide)
        · refine own_go (fun _ k => XS.ifNo X63.here hx rfl (hb hby at_113) rfl (((if0 _ _).trans (feq hc113_64).1)) k) ?_
          show own_G p.tables e below _ (T63.setTop (mkF m 116 #[.val (.int x0), .val (.int x1), .val (.int x2), .val (.int x3), .val (.int x4), .val (.int x5), .val (.ref b42), .val (.int (own_from x4)), .val (.int (own_len x4 x5)), .val (.int (own_to x4 x5)), .unset, .unset, .unset] []))
          refine own_go (fun _ k => XS.iconst X63.here hx rfl (hb hby at_116) k) ?_
          show own_G p.tables e below _ (T63.setTop (mkF m 117 #[.val (.int x0), .val (.int x1), .val (.int x2), .val (.int x3), .val (.int x4), .val (.int x5), .val (.ref b42), .val (.int (own_from x4)), .val (.int (own_len x4 x5)), .val (.int (own_to x4 x5)), .unset, .unset, .unset] [(.int (1 : Int32))]))
          refine own_go (fun _ k => XS.goto X63.here hx rfl (pc0 := 117) (pc' := 121) rfl (hb hby at_117) (by decide) (by decide) k) ?_
          show own_G p.tables e below _ (T63.setTop (mkF m 121 #[.val (.int x0), .val (.int x1), .val (.int x2), .val (.int x3), .val (.int x4), .val (.int x5), .val (.ref b42), .val (.int (own_from x4)), .val (.int (own_len x4 x5)), .val (.int (own_to x4 x5)), .unset, .unset, .unset] [(.int (1 : Int32))]))
          refine own_go (fun _ k => XS.istore X63.here hx rfl (hb hby at_121) rfl (l' := #[.val (.int x0), .val (.int x1), .val (.int x2), .val (.int x3), .val (.int x4), .val (.int x5), .val (.ref b42), .val (.int (own_from x4)), .val (.int (own_len x4 x5)), .val (.int (own_to x4 x5)), .val (.int (1 : Int32)), .unset, .unset]) rfl k) ?_
          show own_G p.tables e below _ (T63.setTop (mkF m 123 #[.val (.int x0), .val (.int x1), .val (.int x2), .val (.int x3), .val (.int x4), .val (.int x5), .val (.ref b42), .val (.int (own_from x4)), .val (.int (own_len x4 x5)), .val (.int (own_to x4 x5)), .val (.int (1 : Int32)), .unset, .unset] []))
          refine own_go (fun _ k => XS.iload X63.here hx rfl (hb hby at_123) rfl k) ?_
          show own_G p.tables e below _ (T63.setTop (mkF m 125 #[.val (.int x0), .val (.int x1), .val (.int x2), .val (.int x3), .val (.int x4), .val (.int x5), .val (.ref b42), .val (.int (own_from x4)), .val (.int (own_len x4 x5)), .val (.int (own_to x4 x5)), .val (.int (1 : Int32)), .unset, .unset] [(.int (1 : Int32))]))
          refine own_go (fun _ k => XS.ifNo X63.here hx rfl (hb hby at_125) rfl (((if0 _ _).trans (feq (by decide : ¬ ((1 : Int32) = (0 : Int32)))).1)) k) ?_
          show own_G p.tables e below _ (T63.setTop (mkF m 128 #[.val (.int x0), .val (.int x1), .val (.int x2), .val (.int x3), .val (.int x4), .val (.int x5), .val (.ref b42), .val (.int (own_from x4)), .val (.int (own_len x4 x5)), .val (.int (own_to x4 x5)), .val (.int (1 : Int32)), .unset, .unset] []))
          refine own_go (fun _ k => XS.iconst X63.here hx rfl (hb hby at_128) k) ?_
          show own_G p.tables e below _ (T63.setTop (mkF m 129 #[.val (.int x0), .val (.int x1), .val (.int x2), .val (.int x3), .val (.int x4), .val (.int x5), .val (.ref b42), .val (.int (own_from x4)), .val (.int (own_len x4 x5)), .val (.int (own_to x4 x5)), .val (.int (1 : Int32)), .unset, .unset] [(.int (-1 : Int32))]))
          refine own_go (fun _ k => XS.istore X63.here hx rfl (hb hby at_129) rfl (l' := #[.val (.int x0), .val (.int x1), .val (.int x2), .val (.int x3), .val (.int x4), .val (.int x5), .val (.ref b42), .val (.int (own_from x4)), .val (.int (own_len x4 x5)), .val (.int (own_to x4 x5)), .val (.int (1 : Int32)), .val (.int (-1 : Int32)), .unset]) rfl k) ?_
          show own_G p.tables e below _ (T63.setTop (mkF m 131 #[.val (.int x0), .val (.int x1), .val (.int x2), .val (.int x3), .val (.int x4), .val (.int x5), .val (.ref b42), .val (.int (own_from x4)), .val (.int (own_len x4 x5)), .val (.int (own_to x4 x5)), .val (.int (1 : Int32)), .val (.int (-1 : Int32)), .unset] []))
          refine own_go (fun _ k => XS.goto X63.here hx rfl (pc0 := 131) (pc' := 179) rfl (hb hby at_131) (by decide) (by decide) k) ?_
          show own_G p.tables e below _ (T63.setTop (mkF m 179 #[.val (.int x0), .val (.int x1), .val (.int x2), .val (.int x3), .val (.int x4), .val (.int x5), .val (.ref b42), .val (.int (own_from x4)), .val (.int (own_len x4 x5)), .val (.int (own_to x4 x5)), .val (.int (1 : Int32)), .val (.int (-1 : Int32)), .unset] []))
          refine own_go (fun _ k => XS.aload X63.here hx rfl (hb hby at_179) rfl rfl k) ?_
          show own_G p.tables e below _ (T63.setTop (mkF m 181 #[.val (.int x0), .val (.int x1), .val (.int x2), .val (.int x3), .val (.int x4), .val (.int x5), .val (.ref b42), .val (.int (own_from x4)), .val (.int (own_len x4 x5)), .val (.int (own_to x4 x5)), .val (.int (1 : Int32)), .val (.int (-1 : Int32)), .unset] [(.ref b42)]))
          refine own_go (fun _ k => XS.iload X63.here hx rfl (hb hby at_181) rfl k) ?_
          show own_G p.tables e below _ (T63.setTop (mkF m 183 #[.val (.int x0), .val (.int x1), .val (.int x2), .val (.int x3), .val (.int x4), .val (.int x5), .val (.ref b42), .val (.int (own_from x4)), .val (.int (own_len x4 x5)), .val (.int (own_to x4 x5)), .val (.int (1 : Int32)), .val (.int (-1 : Int32)), .unset] [(.int (own_from x4)), (.ref b42)]))
          refine own_go (fun _ k => XS.iload X63.here hx rfl (hb hby at_183) rfl k) ?_
          show own_G p.tables e below _ (T63.setTop (mkF m 185 #[.val (.int x0), .val (.int x1), .val (.int x2), .val (.int x3), .val (.int x4), .val (.int x5), .val (.ref b42), .val (.int (own_from x4)), .val (.int (own_len x4 x5)), .val (.int (own_to x4 x5)), .val (.int (1 : Int32)), .val (.int (-1 : Int32)), .unset] [(.int (own_to x4 x5)), (.int (own_from x4)), (.ref b42)]))
          obtain ⟨T71, X71, e71, st71⟩ := own_callP X63 hx hZ (y := (⟨"com/example/davka/davka/checks/LetterCodes", "number", "([CII)I"⟩ : MethodName)) hown (hw _ (List.mem_of_getElem? (i := 21) rfl)) (hw _ (List.mem_of_getElem? (i := 22) rfl)) (hw _ (List.mem_of_getElem? (i := 23) rfl)) (hw _ (List.mem_of_getElem? (i := 24) rfl)) (by decide) (W := 0) (rm7 l Z a0 hw [] b42 (own_from x4) (own_to x4 x5) k42 (own_cs x0 x1 x2 x3) h55 V55 hfrom hto) (by decide) (by decide) rfl rfl e63 (g := (mkF m 185 #[.val (.int x0), .val (.int x1), .val (.int x2), .val (.int x3), .val (.int x4), .val (.int x5), .val (.ref b42), .val (.int (own_from x4)), .val (.int (own_len x4 x5)), .val (.int (own_to x4 x5)), .val (.int (1 : Int32)), .val (.int (-1 : Int32)), .unset] [(.int (own_to x4 x5)), (.int (own_from x4)), (.ref b42)])) rfl (by rw [hml]; rfl) (argsL := [(.ref b42), (.int (own_from x4)), (.int (own_to x4 x5))]) (rest := []) (lenOf own_pd6 rfl) rfl rfl (by show 2 * 0 + _ ≤ _; exact Nat.le_of_eq rfl) (hb hby at_185) (by decide) (by decide)
          refine own_go st71 ?_
          show own_G p.tables e below _ (T71.setTop (mkF m 188 #[.val (.int x0), .val (.int x1), .val (.int x2), .val (.int x3), .val (.int x4), .val (.int x5), .val (.ref b42), .val (.int (own_from x4)), .val (.int (own_len x4 x5)), .val (.int (own_to x4 x5)), .val (.int (1 : Int32)), .val (.int (-1 : Int32)), .unset] [(.int (F7 (own_from x4) (own_to x4 x5) (own_cs x0 x1 x2 x3)))]))
          refine own_go (fun _ k => XS.istore X71.here hx rfl (hb hby at_188) rfl (l' := #[.val (.int x0), .val (.int x1), .val (.int x2), .val (.int x3), .val (.int x4), .val (.int x5), .val (.ref b42), .val (.int (own_from x4)), .val (.int (own_len x4 x5)), .val (.int (own_to x4 x5)), .val (.int (1 : Int32)), .val (.int (-1 : Int32)), .val (.int (F7 (own_from x4) (own_to x4 x5) (own_cs x0 x1 x2 x3)))]) rfl k) ?_
          show own_G p.tables e below _ (T71.setTop (mkF m 190 #[.val (.int x0), .val (.int x1), .val (.int x2), .val (.int x3), .val (.int x4), .val (.int x5), .val (.ref b42), .val (.int (own_from x4)), .val (.int (own_len x4 x5)), .val (.int (own_to x4 x5)), .val (.int (1 : Int32)), .val (.int (-1 : Int32)), .val (.int (F7 (own_from x4) (own_to x4 x5) (own_cs x0 x1 x2 x3)))] []))
          refine own_go (fun _ k => XS.iload X71.here hx rfl (hb hby at_190) rfl k) ?_
          show own_G p.tables e below _ (T71.setTop (mkF m 192 #[.val (.int x0), .val (.int x1), .val (.int x2), .val (.int x3), .val (.int x4), .val (.int x5), .val (.ref b42), .val (.int (own_from x4)), .val (.int (own_len x4 x5)), .val (.int (own_to x4 x5)), .val (.int (1 : Int32)), .val (.int (-1 : Int32)), .val (.int (F7 (own_from x4) (own_to x4 x5) (own_cs x0 x1 x2 x3)))] [(.int (F7 (own_from x4) (own_to x4 x5) (own_cs x0 x1 x2 x3)))]))
          refine own_go (fun _ k => XS.iload X71.here hx rfl (hb hby at_192) rfl k) ?_
          show own_G p.tables e below _ (T71.setTop (mkF m 194 #[.val (.int x0), .val (.int x1), .val (.int x2), .val (.int x3), .val (.int x4), .val (.int x5), .val (.ref b42), .val (.int (own_from x4)), .val (.int (own_len x4 x5)), .val (.int (own_to x4 x5)), .val (.int (1 : Int32)), .val (.int (-1 : Int32)), .val (.int (F7 (own_from x4) (own_to x4 x5) (own_cs x0 x1 x2 x3)))] [(.int (-1 : Int32)), (.int (F7 (own_from x4) (own_to x4 x5) (own_cs x0 x1 x2 x3)))]))
          by_cases hc194_72 : (F7 (own_from x4) (own_to x4 x5) (own_cs x0 x1 x2 x3)) = (-1 : Int32)
          · refine own_go (fun _ k => XS.icmpNo X71.here hx rfl (hb hby at_194) rfl ((teq hc194_72).2) k) ?_
            show own_G p.tables e below _ (T71.setTop (mkF m 197 #[.val (.int x0), .val (.int x1), .val (.int x2), .val (.int x3), .val (.int x4), .val (.int x5), .val (.ref b42), .val (.int (own_from x4)), .val (.int (own_len x4 x5)), .val (.int (own_to x4 x5)), .val (.int (1 : Int32)), .val (.int (-1 : Int32)), .val (.int (F7 (own_from x4) (own_to x4 x5) (own_cs x0 x1 x2 x3)))] []))
            refine own_go (fun _ k => XS.iconst X71.here hx rfl (hb hby at_197) k) ?_
            show own_G p.tables e below _ (T71.setTop (mkF m 198 #[.val (.int x0), .val (.int x1), .val (.int x2), .val (.int x3), .val (.int x4), .val (.int x5), .val (.ref b42), .val (.int (own_from x4)), .val (.int (own_len x4 x5)), .val (.int (own_to x4 x5)), .val (.int (1 : Int32)), .val (.int (-1 : Int32)), .val (.int (F7 (own_from x4) (own_to x4 x5) (own_cs x0 x1 x2 x3)))] [(.int (1 : Int32))]))
            refine own_go (fun _ k => XS.goto X71.here hx rfl (pc0 := 198) (pc' := 202) rfl (hb hby at_198) (by decide) (by decide) k) ?_
            show own_G p.tables e below _ (T71.setTop (mkF m 202 #[.val (.int x0), .val (.int x1), .val (.int x2), .val (.int x3), .val (.int x4), .val (.int x5), .val (.ref b42), .val (.int (own_from x4)), .val (.int (own_len x4 x5)), .val (.int (own_to x4 x5)), .val (.int (1 : Int32)), .val (.int (-1 : Int32)), .val (.int (F7 (own_from x4) (own_to x4 x5) (own_cs x0 x1 x2 x3)))] [(.int (1 : Int32))]))
            exact own_end X71 Bd.notSynchronized (v := some (.int (nar .boolean (1 : Int32)))) (fun h => by rw [Bd.returns] at h; cases h) (Q := QL (some (.int (F0 x0 x1 x2 x3 x4 x5))) n0) ⟨by unfold F0; simp only [if_pos hc74_58, if_pos hc87_60, if_pos hc100_62, if_neg hc113_64, if_pos hc194_72]; try rfl, N_55⟩ (fun fs hr => retN X71 hx (t := .boolean) Bd.returns (by simp) (hb hby at_202) hr) (by decide) (by decide)
          · refine own_go (fun _ k => XS.icmpYes X71.here hx rfl (pc0 := 194) (pc' := 201) rfl (hb hby at_194) rfl ((feq hc194_72).2) (by decide) (by decide) k) ?_
            show own_G p.tables e below _ (T71.setTop (mkF m 201 #[.val (.int x0), .val (.int x1), .val (.int x2), .val (.int x3), .val (.int x4), .val (.int x5), .val (.ref b42), .val (.int (own_from x4)), .val (.int (own_len x4 x5)), .val (.int (own_to x4 x5)), .val (.int (1 : Int32)), .val (.int (-1 : Int32)), .val (.int (F7 (own_from x4) (own_to x4 x5) (own_cs x0 x1 x2 x3)))] []))
            refine own_go (fun _ k => XS.iconst X71.here hx rfl (hb hby at_201) k) ?_
            show own_G p.tables e below _ (T71.setTop (mkF m 202 #[.val (.int x0), .val (.int x1), .val (.int x2), .val (.int x3), .val (.int x4), .val (.int x5), .val (.ref b42), .val (.int (own_from x4)), .val (.int (own_len x4 x5)), .val (.int (own_to x4 x5)), .val (.int (1 : Int32)), .val (.int (-1 : Int32)), .val (.int (F7 (own_from x4) (own_to x4 x5) (own_cs x0 x1 x2 x3)))] [(.int (0 : Int32))]))
            exact own_end X71 Bd.notSynchronized (v := some (.int (nar .boolean (0 : Int32)))) (fun h => by rw [Bd.returns] at h; cases h) (Q := QL (some (.int (F0 x0 x1 x2 x3 x4 x5))) n0) ⟨by unfold F0; simp only [if_pos hc74_58, if_pos hc87_60, if_pos hc100_62, if_neg hc113_64, if_neg hc194_72]; try rfl, N_55⟩ (fun fs hr => retN X71 hx (t := .boolean) Bd.returns (by simp) (hb hby at_202) hr) (by decide) (by decide)
      · refine own_go (fun _ k => XS.ifYes X61.here hx rfl (pc0 := 100) (pc' := 116) rfl (hb hby at_100) rfl (((if0 _ _).trans (feq hc100_62).2)) (by decide) (by decide) k) ?_
        show own_G p.tables e below _ (T61.setTop (mkF m 116 #[.val (.int x0), .val (.int x1), .val (.int x2), .val (.int x3), .val (.int x4), .val (.int x5), .val (.ref b42), .val (.int (own_from x4)), .val (.int (own_len x4 x5)), .val (.int (own_to x4 x5)), .unset, .unset, .unset] []))
        refine own_go (fun _ k => XS.iconst X61.here hx rfl (hb hby at_116) k) ?_
        show own_G p.tables e below _ (T61.setTop (mkF m 117 #[.val (.int x0), .val (.int x1), .val (.int x2), .val (.int x3), .val (.int x4), .val (.int x5), .val (.ref b42), .val (.int (own_from x4)), .val (.int (own_len x4 x5)), .val (.int (own_to x4 x5)), .unset, .unset, .unset] [(.int (1 : Int32))]))
        refine own_go (fun _ k => XS.goto X61.here hx rfl (pc0 := 117) (pc' := 121) rfl (hb hby at_117) (by decide) (by decide) k) ?_
        show own_G p.tables e below _ (T61.setTop (mkF m 121 #[.val (.int x0), .val (.int x1), .val (.int x2), .val (.int x3), .val (.int x4), .val (.int x5), .val (.ref b42), .val (.int (own_from x4)), .val (.int (own_len x4 x5)), .val (.int (own_to x4 x5)), .unset, .unset, .unset] [(.int (1 : Int32))]))
        refine own_go (fun _ k => XS.istore X61.here hx rfl (hb hby at_121) rfl (l' := #[.val (.int x0), .val (.int x1), .val (.int x2), .val (.int x3), .val (.int x4), .val (.int x5), .val (.ref b42), .val (.int (own_from x4)), .val (.int (own_len x4 x5)), .val (.int (own_to x4 x5)), .val (.int (1 : Int32)), .unset, .unset]) rfl k) ?_
        show own_G p.tables e below _ (T61.setTop (mkF m 123 #[.val (.int x0), .val (.int x1), .val (.int x2), .val (.int x3), .val (.int x4), .val (.int x5), .val (.ref b42), .val (.int (own_from x4)), .val (.int (own_len x4 x5)), .val (.int (own_to x4 x5)), .val (.int (1 : Int32)), .unset, .unset] []))
        refine own_go (fun _ k => XS.iload X61.here hx rfl (hb hby at_123) rfl k) ?_
        show own_G p.tables e below _ (T61.setTop (mkF m 125 #[.val (.int x0), .val (.int x1), .val (.int x2), .val (.int x3), .val (.int x4), .val (.int x5), .val (.ref b42), .val (.int (own_from x4)), .val (.int (own_len x4 x5)), .val (.int (own_to x4 x5)), .val (.int (1 : Int32)), .unset, .unset] [(.int (1 : Int32))]))
        refine own_go (fun _ k => XS.ifNo X61.here hx rfl (hb hby at_125) rfl (((if0 _ _).trans (feq (by decide : ¬ ((1 : Int32) = (0 : Int32)))).1)) k) ?_
        show own_G p.tables e below _ (T61.setTop (mkF m 128 #[.val (.int x0), .val (.int x1), .val (.int x2), .val (.int x3), .val (.int x4), .val (.int x5), .val (.ref b42), .val (.int (own_from x4)), .val (.int (own_len x4 x5)), .val (.int (own_to x4 x5)), .val (.int (1 : Int32)), .unset, .unset] []))
        refine own_go (fun _ k => XS.iconst X61.here hx rfl (hb hby at_128) k) ?_
        show own_G p.tables e below _ (T61.setTop (mkF m 129 #[.val (.int x0), .val (.int x1), .val (.int x2), .val (.int x3), .val (.int x4), .val (.int x5), .val (.ref b42), .val (.int (own_from x4)), .val (.int (own_len x4 x5)), .val (.int (own_to x4 x5)), .val (.int (1 : Int32)), .unset, .unset] [(.int (-1 : Int32))]))
        refine own_go (fun _ k => XS.istore X61.here hx rfl (hb hby at_129) rfl (l' := #[.val (.int x0), .val (.int x1), .val (.int x2), .val (.int x3), .val (.int x4), .val (.int x5), .val (.ref b42), .val (.int (own_from x4)), .val (.int (own_len x4 x5)), .val (.int (own_to x4 x5)), .val (.int (1 : Int32)), .val (.int (-1 : Int32)), .unset]) rfl k) ?_
        show own_G p.tables e below _ (T61.setTop (mkF m 131 #[.val (.int x0), .val (.int x1), .val (.int x2), .val (.int x3), .val (.int x4), .val (.int x5), .val (.ref b42), .val (.int (own_from x4)), .val (.int (own_len x4 x5)), .val (.int (own_to x4 x5)), .val (.int (1 : Int32)), .val (.int (-1 : Int32)), .unset] []))
        refine own_go (fun _ k => XS.goto X61.here hx rfl (pc0 := 131) (pc' := 179) rfl (hb hby at_131) (by decide) (by decide) k) ?_
        show own_G p.tables e below _ (T61.setTop (mkF m 179 #[.val (.int x0), .val (.int x1), .val (.int x2), .val (.int x3), .val (.int x4), .val (.int x5), .val (.ref b42), .val (.int (own_from x4)), .val (.int (own_len x4 x5)), .val (.int (own_to x4 x5)), .val (.int (1 : Int32)), .val (.int (-1 : Int32)), .unset] []))
        refine own_go (fun _ k => XS.aload X61.here hx rfl (hb hby at_179) rfl rfl k) ?_
        show own_G p.tables e below _ (T61.setTop (mkF m 181 #[.val (.int x0), .val (.int x1), .val (.int x2), .val (.int x3), .val (.int x4), .val (.int x5), .val (.ref b42), .val (.int (own_from x4)), .val (.int (own_len x4 x5)), .val (.int (own_to x4 x5)), .val (.int (1 : Int32)), .val (.int (-1 : Int32)), .unset] [(.ref b42)]))
        refine own_go (fun _ k => XS.iload X61.here hx rfl (hb hby at_181) rfl k) ?_
        show own_G p.tables e below _ (T61.setTop (mkF m 183 #[.val (.int x0), .val (.int x1), .val (.int x2), .val (.int x3), .val (.int x4), .val (.int x5), .val (.ref b42), .val (.int (own_from x4)), .val (.int (own_len x4 x5)), .val (.int (own_to x4 x5)), .val (.int (1 : Int32)), .val (.int (-1 : Int32)), .unset] [(.int (own_from x4)), (.ref b42)]))
        refine own_go (fun _ k => XS.iload X61.here hx rfl (hb hby at_183) rfl k) ?_
        show own_G p.tables e below _ (T61.setTop (mkF m 185 #[.val (.int x0), .val (.int x1), .val (.int x2), .val (.int x3), .val (.int x4), .val (.int x5), .val (.ref b42), .val (.int (own_from x4)), .val (.int (own_len x4 x5)), .val (.int (own_to x4 x5)), .val (.int (1 : Int32)), .val (.int (-1 : Int32)), .unset] [(.int (own_to x4 x5)), (.int (own_from x4)), (.ref b42)]))
        obtain ⟨T73, X73, e73, st73⟩ := own_callP X61 hx hZ (y := (⟨"com/example/davka/davka/checks/LetterCodes", "number", "([CII)I"⟩ : MethodName)) hown (hw _ (List.mem_of_getElem? (i := 21) rfl)) (hw _ (List.mem_of_getElem? (i := 22) rfl)) (hw _ (List.mem_of_getElem? (i := 23) rfl)) (hw _ (List.mem_of_getElem? (i := 24) rfl)) (by decide) (W := 0) (rm7 l Z a0 hw [] b42 (own_from x4) (own_to x4 x5) k42 (own_cs x0 x1 x2 x3) h55 V55 hfrom hto) (by decide) (by decide) rfl rfl e61 (g := (mkF m 185 #[.val (.int x0), .val (.int x1), .val (.int x2), .val (.int x3), .val (.int x4), .val (.int x5), .val (.ref b42), .val (.int (own_from x4)), .val (.int (own_len x4 x5)), .val (.int (own_to x4 x5)), .val (.int (1 : Int32)), .val (.int (-1 : Int32)), .unset] [(.int (own_to x4 x5)), (.int (own_from x4)), (.ref b42)])) rfl (by rw [hml]; rfl) (argsL := [(.ref b42), (.int (own_from x4)), (.int (own_to x4 x5))]) (rest := []) (lenOf own_pd6 rfl) rfl rfl (by show 2 * 0 + _ ≤ _; exact Nat.le_of_eq rfl) (hb hby at_185) (by decide) (by decide)
        refine own_go st73 ?_
        show own_G p.tables e below _ (T73.setTop (mkF m 188 #[.val (.int x0), .val (.int x1), .val (.int x2), .val (.int x3), .val (.int x4), .val (.int x5), .val (.ref b42), .val (.int (own_from x4)), .val (.int (own_len x4 x5)), .val (.int (own_to x4 x5)), .val (.int (1 : Int32)), .val (.int (-1 : Int32)), .unset] [(.int (F7 (own_from x4) (own_to x4 x5) (own_cs x0 x1 x2 x3)))]))
        refine own_go (fun _ k => XS.istore X73.here hx rfl (hb hby at_188) rfl (l' := #[.val (.int x0), .val (.int x1), .val (.int x2), .val (.int x3), .val (.int x4), .val (.int x5), .val (.ref b42), .val (.int (own_from x4)), .val (.int (own_len x4 x5)), .val (.int (own_to x4 x5)), .val (.int (1 : Int32)), .val (.int (-1 : Int32)), .val (.int (F7 (own_from x4) (own_to x4 x5) (own_cs x0 x1 x2 x3)))]) rfl k) ?_
        show own_G p.tables e below _ (T73.setTop (mkF m 190 #[.val (.int x0), .val (.int x1), .val (.int x2), .val (.int x3), .val (.int x4), .val (.int x5), .val (.ref b42), .val (.int (own_from x4)), .val (.int (own_len x4 x5)), .val (.int (own_to x4 x5)), .val (.int (1 : Int32)), .val (.int (-1 : Int32)), .val (.int (F7 (own_from x4) (own_to x4 x5) (own_cs x0 x1 x2 x3)))] []))
        refine own_go (fun _ k => XS.iload X73.here hx rfl (hb hby at_190) rfl k) ?_
        show own_G p.tables e below _ (T73.setTop (mkF m 192 #[.val (.int x0), .val (.int x1), .val (.int x2), .val (.int x3), .val (.int x4), .val (.int x5), .val (.ref b42), .val (.int (own_from x4)), .val (.int (own_len x4 x5)), .val (.int (own_to x4 x5)), .val (.int (1 : Int32)), .val (.int (-1 : Int32)), .val (.int (F7 (own_from x4) (own_to x4 x5) (own_cs x0 x1 x2 x3)))] [(.int (F7 (own_from x4) (own_to x4 x5) (own_cs x0 x1 x2 x3)))]))
        refine own_go (fun _ k => XS.iload X73.here hx rfl (hb hby at_192) rfl k) ?_
        show own_G p.tables e below _ (T73.setTop (mkF m 194 #[.val (.int x0), .val (.int x1), .val (.int x2), .val (.int x3), .val (.int x4), .val (.int x5), .val (.ref b42), .val (.int (own_from x4)), .val (.int (own_len x4 x5)), .val (.int (own_to x4 x5)), .val (.int (1 : Int32)), .val (.int (-1 : Int32)), .val (.int (F7 (own_from x4) (own_to x4 x5) (own_cs x0 x1 x2 x3)))] [(.int (-1 : Int32)), (.int (F7 (own_from x4) (own_to x4 x5) (own_cs x0 x1 x2 x3)))]))
        by_cases hc194_74 : (F7 (own_from x4) (own_to x4 x5) (own_cs x0 x1 x2 x3)) = (-1 : Int32)
        · refine own_go (fun _ k => XS.icmpNo X73.here hx rfl (hb hby at_194) rfl ((teq hc194_74).2) k) ?_
          show own_G p.tables e below _ (T73.setTop (mkF m 197 #[.val (.int x0), .val (.int x1), .val (.int x2), .val (.int x3), .val (.int x4), .val (.int x5), .val (.ref b42), .val (.int (own_from x4)), .val (.int (own_len x4 x5)), .val (.int (own_to x4 x5)), .val (.int (1 : Int32)), .val (.int (-1 : Int32)), .val (.int (F7 (own_from x4) (own_to x4 x5) (own_cs x0 x1 x2 x3)))] []))
          refine own_go (fun _ k => XS.iconst X73.here hx rfl (hb hby at_197) k) ?_
          show own_G p.tables e below _ (T73.setTop (mkF m 198 #[.val (.int x0), .val (.int x1), .val (.int x2), .val (.int x3), .val (.int x4), .val (.int x5), .val (.ref b42), .val (.int (own_from x4)), .val (.int (own_len x4 x5)), .val (.int (own_to x4 x5)), .val (.int (1 : Int32)), .val (.int (-1 : Int32)), .val (.int (F7 (own_from x4) (own_to x4 x5) (own_cs x0 x1 x2 x3)))] [(.int (1 : Int32))]))
          refine own_go (fun _ k => XS.goto X73.here hx rfl (pc0 := 198) (pc' := 202) rfl (hb hby at_198) (by decide) (by decide) k) ?_
          show own_G p.tables e below _ (T73.setTop (mkF m 202 #[.val (.int x0), .val (.int x1), .val (.int x2), .val (.int x3), .val (.int x4), .val (.int x5), .val (.ref b42), .val (.int (own_from x4)), .val (.int (own_len x4 x5)), .val (.int (own_to x4 x5)), .val (.int (1 : Int32)), .val (.int (-1 : Int32)), .val (.int (F7 (own_from x4) (own_to x4 x5) (own_cs x0 x1 x2 x3)))] [(.int (1 : Int32))]))
          exact own_end X73 Bd.notSynchronized (v := some (.int (nar .boolean (1 : Int32)))) (fun h => by rw [Bd.returns] at h; cases h) (Q := QL (some (.int (F0 x0 x1 x2 x3 x4 x5))) n0) ⟨by unfold F0; simp only [if_pos hc74_58, if_pos hc87_60, if_neg hc100_62, if_pos hc194_74]; try rfl, N_55⟩ (fun fs hr => retN X73 hx (t := .boolean) Bd.returns (by simp) (hb hby at_202) hr) (by decide) (by decide)
        · refine own_go (fun _ k => XS.icmpYes X73.here hx rfl (pc0 := 194) (pc' := 201) rfl (hb hby at_194) rfl ((feq hc194_74).2) (by decide) (by decide) k) ?_
          show own_G p.tables e below _ (T73.setTop (mkF m 201 #[.val (.int x0), .val (.int x1), .val (.int x2), .val (.int x3), .val (.int x4), .val (.int x5), .val (.ref b42), .val (.int (own_from x4)), .val (.int (own_len x4 x5)), .val (.int (own_to x4 x5)), .val (.int (1 : Int32)), .val (.int (-1 : Int32)), .val (.int (F7 (own_from x4) (own_to x4 x5) (own_cs x0 x1 x2 x3)))] []))
          refine own_go (fun _ k => XS.iconst X73.here hx rfl (hb hby at_201) k) ?_
          show own_G p.tables e below _ (T73.setTop (mkF m 202 #[.val (.int x0), .val (.int x1), .val (.int x2), .val (.int x3), .val (.int x4), .val (.int x5), .val (.ref b42), .val (.int (own_from x4)), .val (.int (own_len x4 x5)), .val (.int (own_to x4 x5)), .val (.int (1 : Int32)), .val (.int (-1 : Int32)), .val (.int (F7 (own_from x4) (own_to x4 x5) (own_cs x0 x1 x2 x3)))] [(.int (0 : Int32))]))
          exact own_end X73 Bd.notSynchronized (v := some (.int (nar .boolean (0 : Int32)))) (fun h => by rw [Bd.returns] at h; cases h) (Q := QL (some (.int (F0 x0 x1 x2 x3 x4 x5))) n0) ⟨by unfold F0; simp only [if_pos hc74_58, if_pos hc87_60, if_neg hc100_62, if_neg hc194_74]; try rfl, N_55⟩ (fun fs hr => retN X73 hx (t := .boolean) Bd.returns (by simp) (hb hby at_202) hr) (by decide) (by decide)
    · refine own_go (fun _ k => XS.ifYes X59.here hx rfl (pc0 := 87) (pc' := 116) rfl (hb hby at_87) rfl (((if0 _ _).trans (feq hc87_60).2)) (by decide) (by decide) k) ?_
      show own_G p.tables e below _ (T59.setTop (mkF m 116 #[.val (.int x0), .val (.int x1), .val (.int x2), .val (.int x3), .val (.int x4), .val (.int x5), .val (.ref b42), .val (.int (own_from x4)), .val (.int (own_len x4 x5)), .val (.int (own_to x4 x5)), .unset, .unset, .unset] []))
      refine own_go (fun _ k => XS.iconst X59.here hx rfl (hb hby at_116) k) ?_
      show own_G p.tables e below _ (T59.setTop (mkF m 117 #[.val (.int x0), .val (.int x1), .val (.int x2), .val (.int x3), .val (.int x4), .val (.int x5), .val (.ref b42), .val (.int (own_from x4)), .val (.int (own_len x4 x5)), .val (.int (own_to x4 x5)), .unset, .unset, .unset] [(.int (1 : Int32))]))
      refine own_go (fun _ k => XS.goto X59.here hx rfl (pc0 := 117) (pc' := 121) rfl (hb hby at_117) (by decide) (by decide) k) ?_
      show own_G p.tables e below _ (T59.setTop (mkF m 121 #[.val (.int x0), .val (.int x1), .val (.int x2), .val (.int x3), .val (.int x4), .val (.int x5), .val (.ref b42), .val (.int (own_from x4)), .val (.int (own_len x4 x5)), .val (.int (own_to x4 x5)), .unset, .unset, .unset] [(.int (1 : Int32))]))
      refine own_go (fun _ k => XS.istore X59.here hx rfl (hb hby at_121) rfl (l' := #[.val (.int x0), .val (.int x1), .val (.int x2), .val (.int x3), .val (.int x4), .val (.int x5), .val (.ref b42), .val (.int (own_from x4)), .val (.int (own_len x4 x5)), .val (.int (own_to x4 x5)), .val (.int (1 : Int32)), .unset, .unset]) rfl k) ?_
      show own_G p.tables e below _ (T59.setTop (mkF m 123 #[.val (.int x0), .val (.int x1), .val (.int x2), .val (.int x3), .val (.int x4), .val (.int x5), .val (.ref b42), .val (.int (own_from x4)), .val (.int (own_len x4 x5)), .val (.int (own_to x4 x5)), .val (.int (1 : Int32)), .unset, .unset] []))
      refine own_go (fun _ k => XS.iload X59.here hx rfl (hb hby at_123) rfl k) ?_
      show own_G p.tables e below _ (T59.setTop (mkF m 125 #[.val (.int x0), .val (.int x1), .val (.int x2), .val (.int x3), .val (.int x4), .val (.int x5), .val (.ref b42), .val (.int (own_from x4)), .val (.int (own_len x4 x5)), .val (.int (own_to x4 x5)), .val (.int (1 : Int32)), .unset, .unset] [(.int (1 : Int32))]))
      refine own_go (fun _ k => XS.ifNo X59.here hx rfl (hb hby at_125) rfl (((if0 _ _).trans (feq (by decide : ¬ ((1 : Int32) = (0 : Int32)))).1)) k) ?_
      show own_G p.tables e below _ (T59.setTop (mkF m 128 #[.val (.int x0), .val (.int x1), .val (.int x2), .val (.int x3), .val (.int x4), .val (.int x5), .val (.ref b42), .val (.int (own_from x4)), .val (.int (own_len x4 x5)), .val (.int (own_to x4 x5)), .val (.int (1 : Int32)), .unset, .unset] []))
      refine own_go (fun _ k => XS.iconst X59.here hx rfl (hb hby at_128) k) ?_
      show own_G p.tables e below _ (T59.setTop (mkF m 129 #[.val (.int x0), .val (.int x1), .val (.int x2), .val (.int x3), .val (.int x4), .val (.int x5), .val (.ref b42), .val (.int (own_from x4)), .val (.int (own_len x4 x5)), .val (.int (own_to x4 x5)), .val (.int (1 : Int32)), .unset, .unset] [(.int (-1 : Int32))]))
      refine own_go (fun _ k => XS.istore X59.here hx rfl (hb hby at_129) rfl (l' := #[.val (.int x0), .val (.int x1), .val (.int x2), .val (.int x3), .val (.int x4), .val (.int x5), .val (.ref b42), .val (.int (own_from x4)), .val (.int (own_len x4 x5)), .val (.int (own_to x4 x5)), .val (.int (1 : Int32)), .val (.int (-1 : Int32)), .unset]) rfl k) ?_
      show own_G p.tables e below _ (T59.setTop (mkF m 131 #[.val (.int x0), .val (.int x1), .val (.int x2), .val (.int x3), .val (.int x4), .val (.int x5), .val (.ref b42), .val (.int (own_from x4)), .val (.int (own_len x4 x5)), .val (.int (own_to x4 x5)), .val (.int (1 : Int32)), .val (.int (-1 : Int32)), .unset] []))
      refine own_go (fun _ k => XS.goto X59.here hx rfl (pc0 := 131) (pc' := 179) rfl (hb hby at_131) (by decide) (by decide) k) ?_
      show own_G p.tables e below _ (T59.setTop (mkF m 179 #[.val (.int x0), .val (.int x1), .val (.int x2), .val (.int x3), .val (.int x4), .val (.int x5), .val (.ref b42), .val (.int (own_from x4)), .val (.int (own_len x4 x5)), .val (.int (own_to x4 x5)), .val (.int (1 : Int32)), .val (.int (-1 : Int32)), .unset] []))
      refine own_go (fun _ k => XS.aload X59.here hx rfl (hb hby at_179) rfl rfl k) ?_
      show own_G p.tables e below _ (T59.setTop (mkF m 181 #[.val (.int x0), .val (.int x1), .val (.int x2), .val (.int x3), .val (.int x4), .val (.int x5), .val (.ref b42), .val (.int (own_from x4)), .val (.int (own_len x4 x5)), .val (.int (own_to x4 x5)), .val (.int (1 : Int32)), .val (.int (-1 : Int32)), .unset] [(.ref b42)]))
      refine own_go (fun _ k => XS.iload X59.here hx rfl (hb hby at_181) rfl k) ?_
      show own_G p.tables e below _ (T59.setTop (mkF m 183 #[.val (.int x0), .val (.int x1), .val (.int x2), .val (.int x3), .val (.int x4), .val (.int x5), .val (.ref b42), .val (.int (own_from x4)), .val (.int (own_len x4 x5)), .val (.int (own_to x4 x5)), .val (.int (1 : Int32)), .val (.int (-1 : Int32)), .unset] [(.int (own_from x4)), (.ref b42)]))
      refine own_go (fun _ k => XS.iload X59.here hx rfl (hb hby at_183) rfl k) ?_
      show own_G p.tables e below _ (T59.setTop (mkF m 185 #[.val (.int x0), .val (.int x1), .val (.int x2), .val (.int x3), .val (.int x4), .val (.int x5), .val (.ref b42), .val (.int (own_from x4)), .val (.int (own_len x4 x5)), .val (.int (own_to x4 x5)), .val (.int (1 : Int32)), .val (.int (-1 : Int32)), .unset] [(.int (own_to x4 x5)), (.int (own_from x4)), (.ref b42)]))
      obtain ⟨T75, X75, e75, st75⟩ := own_callP X59 hx hZ (y := (⟨"com/example/davka/davka/checks/LetterCodes", "number", "([CII)I"⟩ : MethodName)) hown (hw _ (List.mem_of_getElem? (i := 21) rfl)) (hw _ (List.mem_of_getElem? (i := 22) rfl)) (hw _ (List.mem_of_getElem? (i := 23) rfl)) (hw _ (List.mem_of_getElem? (i := 24) rfl)) (by decide) (W := 0) (rm7 l Z a0 hw [] b42 (own_from x4) (own_to x4 x5) k42 (own_cs x0 x1 x2 x3) h55 V55 hfrom hto) (by decide) (by decide) rfl rfl e59 (g := (mkF m 185 #[.val (.int x0), .val (.int x1), .val (.int x2), .val (.int x3), .val (.int x4), .val (.int x5), .val (.ref b42), .val (.int (own_from x4)), .val (.int (own_len x4 x5)), .val (.int (own_to x4 x5)), .val (.int (1 : Int32)), .val (.int (-1 : Int32)), .unset] [(.int (own_to x4 x5)), (.int (own_from x4)), (.ref b42)])) rfl (by rw [hml]; rfl) (argsL := [(.ref b42), (.int (own_from x4)), (.int (own_to x4 x5))]) (rest := []) (lenOf own_pd6 rfl) rfl rfl (by show 2 * 0 + _ ≤ _; exact Nat.le_of_eq rfl) (hb hby at_185) (by decide) (by decide)
      refine own_go st75 ?_
      show own_G p.tables e below _ (T75.setTop (mkF m 188 #[.val (.int x0), .val (.int x1), .val (.int x2), .val (.int x3), .val (.int x4), .val (.int x5), .val (.ref b42), .val (.int (own_from x4)), .val (.int (own_len x4 x5)), .val (.int (own_to x4 x5)), .val (.int (1 : Int32)), .val (.int (-1 : Int32)), .unset] [(.int (F7 (own_from x4) (own_to x4 x5) (own_cs x0 x1 x2 x3)))]))
      refine own_go (fun _ k => XS.istore X75.here hx rfl (hb hby at_188) rfl (l' := #[.val (.int x0), .val (.int x1), .val (.int x2), .val (.int x3), .val (.int x4), .val (.int x5), .val (.ref b42), .val (.int (own_from x4)), .val (.int (own_len x4 x5)), .val (.int (own_to x4 x5)), .val (.int (1 : Int32)), .val (.int (-1 : Int32)), .val (.int (F7 (own_from x4) (own_to x4 x5) (own_cs x0 x1 x2 x3)))]) rfl k) ?_
      show own_G p.tables e below _ (T75.setTop (mkF m 190 #[.val (.int x0), .val (.int x1), .val (.int x2), .val (.int x3), .val (.int x4), .val (.int x5), .val (.ref b42), .val (.int (own_from x4)), .val (.int (own_len x4 x5)), .val (.int (own_to x4 x5)), .val (.int (1 : Int32)), .val (.int (-1 : Int32)), .val (.int (F7 (own_from x4) (own_to x4 x5) (own_cs x0 x1 x2 x3)))] []))
      refine own_go (fun _ k => XS.iload X75.here hx rfl (hb hby at_190) rfl k) ?_
      show own_G p.tables e below _ (T75.setTop (mkF m 192 #[.val (.int x0), .val (.int x1), .val (.int x2), .val (.int x3), .val (.int x4), .val (.int x5), .val (.ref b42), .val (.int (own_from x4)), .val (.int (own_len x4 x5)), .val (.int (own_to x4 x5)), .val (.int (1 : Int32)), .val (.int (-1 : Int32)), .val (.int (F7 (own_from x4) (own_to x4 x5) (own_cs x0 x1 x2 x3)))] [(.int (F7 (own_from x4) (own_to x4 x5) (own_cs x0 x1 x2 x3)))]))
      refine own_go (fun _ k => XS.iload X75.here hx rfl (hb hby at_192) rfl k) ?_
      show own_G p.tables e below _ (T75.setTop (mkF m 194 #[.val (.int x0), .val (.int x1), .val (.int x2), .val (.int x3), .val (.int x4), .val (.int x5), .val (.ref b42), .val (.int (own_from x4)), .val (.int (own_len x4 x5)), .val (.int (own_to x4 x5)), .val (.int (1 : Int32)), .val (.int (-1 : Int32)), .val (.int (F7 (own_from x4) (own_to x4 x5) (own_cs x0 x1 x2 x3)))] [(.int (-1 : Int32)), (.int (F7 (own_from x4) (own_to x4 x5) (own_cs x0 x1 x2 x3)))]))
      by_cases hc194_76 : (F7 (own_from x4) (own_to x4 x5) (own_cs x0 x1 x2 x3)) = (-1 : Int32)
      · refine own_go (fun _ k => XS.icmpNo X75.here hx rfl (hb hby at_194) rfl ((teq hc194_76).2) k) ?_
        show own_G p.tables e below _ (T75.setTop (mkF m 197 #[.val (.int x0), .val (.int x1), .val (.int x2), .val (.int x3), .val (.int x4), .val (.int x5), .val (.ref b42), .val (.int (own_from x4)), .val (.int (own_len x4 x5)), .val (.int (own_to x4 x5)), .val (.int (1 : Int32)), .val (.int (-1 : Int32)), .val (.int (F7 (own_from x4) (own_to x4 x5) (own_cs x0 x1 x2 x3)))] []))
        refine own_go (fun _ k => XS.iconst X75.here hx rfl (hb hby at_197) k) ?_
        show own_G p.tables e below _ (T75.setTop (mkF m 198 #[.val (.int x0), .val (.int x1), .val (.int x2), .val (.int x3), .val (.int x4), .val (.int x5), .val (.ref b42), .val (.int (own_from x4)), .val (.int (own_len x4 x5)), .val (.int (own_to x4 x5)), .val (.int (1 : Int32)), .val (.int (-1 : Int32)), .val (.int (F7 (own_from x4) (own_to x4 x5) (own_cs x0 x1 x2 x3)))] [(.int (1 : Int32))]))
        refine own_go (fun _ k => XS.goto X75.here hx rfl (pc0 := 198) (pc' := 202) rfl (hb hby at_198) (by decide) (by decide) k) ?_
        show own_G p.tables e below _ (T75.setTop (mkF m 202 #[.val (.int x0), .val (.int x1), .val (.int x2), .val (.int x3), .val (.int x4), .val (.int x5), .val (.ref b42), .val (.int (own_from x4)), .val (.int (own_len x4 x5)), .val (.int (own_to x4 x5)), .val (.int (1 : Int32)), .val (.int (-1 : Int32)), .val (.int (F7 (own_from x4) (own_to x4 x5) (own_cs x0 x1 x2 x3)))] [(.int (1 : Int32))]))
        exact own_end X75 Bd.notSynchronized (v := some (.int (nar .boolean (1 : Int32)))) (fun h => by rw [Bd.returns] at h; cases h) (Q := QL (some (.int (F0 x0 x1 x2 x3 x4 x5))) n0) ⟨by unfold F0; simp only [if_pos hc74_58, if_neg hc87_60, if_pos hc194_76]; try rfl, N_55⟩ (fun fs hr => retN X75 hx (t := .boolean) Bd.returns (by simp) (hb hby at_202) hr) (by decide) (by decide)
      · refine own_go (fun _ k => XS.icmpYes X75.here hx rfl (pc0 := 194) (pc' := 201) rfl (hb hby at_194) rfl ((feq hc194_76).2) (by decide) (by decide) k) ?_
        show own_G p.tables e below _ (T75.setTop (mkF m 201 #[.val (.int x0), .val (.int x1), .val (.int x2), .val (.int x3), .val (.int x4), .val (.int x5), .val (.ref b42), .val (.int (own_from x4)), .val (.int (own_len x4 x5)), .val (.int (own_to x4 x5)), .val (.int (1 : Int32)), .val (.int (-1 : Int32)), .val (.int (F7 (own_from x4) (own_to x4 x5) (own_cs x0 x1 x2 x3)))] []))
        refine own_go (fun _ k => XS.iconst X75.here hx rfl (hb hby at_201) k) ?_
        show own_G p.tables e below _ (T75.setTop (mkF m 202 #[.val (.int x0), .val (.int x1), .val (.int x2), .val (.int x3), .val (.int x4), .val (.int x5), .val (.ref b42), .val (.int (own_from x4)), .val (.int (own_len x4 x5)), .val (.int (own_to x4 x5)), .val (.int (1 : Int32)), .val (.int (-1 : Int32)), .val (.int (F7 (own_from x4) (own_to x4 x5) (own_cs x0 x1 x2 x3)))] [(.int (0 : Int32))]))
        exact own_end X75 Bd.notSynchronized (v := some (.int (nar .boolean (0 : Int32)))) (fun h => by rw [Bd.returns] at h; cases h) (Q := QL (some (.int (F0 x0 x1 x2 x3 x4 x5))) n0) ⟨by unfold F0; simp only [if_pos hc74_58, if_neg hc87_60, if_neg hc194_76]; try rfl, N_55⟩ (fun fs hr => retN X75 hx (t := .boolean) Bd.returns (by simp) (hb hby at_202) hr) (by decide) (by decide)
  · refine own_go (fun _ k => XS.ifYes X57.here hx rfl (pc0 := 74) (pc' := 116) rfl (hb hby at_74) rfl (((if0 _ _).trans (feq hc74_58).2)) (by decide) (by decide) k) ?_
    show own_G p.tables e below _ (T57.setTop (mkF m 116 #[.val (.int x0), .val (.int x1), .val (.int x2), .val (.int x3), .val (.int x4), .val (.int x5), .val (.ref b42), .val (.int (own_from x4)), .val (.int (own_len x4 x5)), .val (.int (own_to x4 x5)), .unset, .unset, .unset] []))
    refine own_go (fun _ k => XS.iconst X57.here hx rfl (hb hby at_116) k) ?_
    show own_G p.tables e below _ (T57.setTop (mkF m 117 #[.val (.int x0), .val (.int x1), .val (.int x2), .val (.int x3), .val (.int x4), .val (.int x5), .val (.ref b42), .val (.int (own_from x4)), .val (.int (own_len x4 x5)), .val (.int (own_to x4 x5)), .unset, .unset, .unset] [(.int (1 : Int32))]))
    refine own_go (fun _ k => XS.goto X57.here hx rfl (pc0 := 117) (pc' := 121) rfl (hb hby at_117) (by decide) (by decide) k) ?_
    show own_G p.tables e below _ (T57.setTop (mkF m 121 #[.val (.int x0), .val (.int x1), .val (.int x2), .val (.int x3), .val (.int x4), .val (.int x5), .val (.ref b42), .val (.int (own_from x4)), .val (.int (own_len x4 x5)), .val (.int (own_to x4 x5)), .unset, .unset, .unset] [(.int (1 : Int32))]))
    refine own_go (fun _ k => XS.istore X57.here hx rfl (hb hby at_121) rfl (l' := #[.val (.int x0), .val (.int x1), .val (.int x2), .val (.int x3), .val (.int x4), .val (.int x5), .val (.ref b42), .val (.int (own_from x4)), .val (.int (own_len x4 x5)), .val (.int (own_to x4 x5)), .val (.int (1 : Int32)), .unset, .unset]) rfl k) ?_
    show own_G p.tables e below _ (T57.setTop (mkF m 123 #[.val (.int x0), .val (.int x1), .val (.int x2), .val (.int x3), .val (.int x4), .val (.int x5), .val (.ref b42), .val (.int (own_from x4)), .val (.int (own_len x4 x5)), .val (.int (own_to x4 x5)), .val (.int (1 : Int32)), .unset, .unset] []))
    refine own_go (fun _ k => XS.iload X57.here hx rfl (hb hby at_123) rfl k) ?_
    show own_G p.tables e below _ (T57.setTop (mkF m 125 #[.val (.int x0), .val (.int x1), .val (.int x2), .val (.int x3), .val (.int x4), .val (.int x5), .val (.ref b42), .val (.int (own_from x4)), .val (.int (own_len x4 x5)), .val (.int (own_to x4 x5)), .val (.int (1 : Int32)), .unset, .unset] [(.int (1 : Int32))]))
    refine own_go (fun _ k => XS.ifNo X57.here hx rfl (hb hby at_125) rfl (((if0 _ _).trans (feq (by decide : ¬ ((1 : Int32) = (0 : Int32)))).1)) k) ?_
    show own_G p.tables e below _ (T57.setTop (mkF m 128 #[.val (.int x0), .val (.int x1), .val (.int x2), .val (.int x3), .val (.int x4), .val (.int x5), .val (.ref b42), .val (.int (own_from x4)), .val (.int (own_len x4 x5)), .val (.int (own_to x4 x5)), .val (.int (1 : Int32)), .unset, .unset] []))
    refine own_go (fun _ k => XS.iconst X57.here hx rfl (hb hby at_128) k) ?_
    show own_G p.tables e below _ (T57.setTop (mkF m 129 #[.val (.int x0), .val (.int x1), .val (.int x2), .val (.int x3), .val (.int x4), .val (.int x5), .val (.ref b42), .val (.int (own_from x4)), .val (.int (own_len x4 x5)), .val (.int (own_to x4 x5)), .val (.int (1 : Int32)), .unset, .unset] [(.int (-1 : Int32))]))
    refine own_go (fun _ k => XS.istore X57.here hx rfl (hb hby at_129) rfl (l' := #[.val (.int x0), .val (.int x1), .val (.int x2), .val (.int x3), .val (.int x4), .val (.int x5), .val (.ref b42), .val (.int (own_from x4)), .val (.int (own_len x4 x5)), .val (.int (own_to x4 x5)), .val (.int (1 : Int32)), .val (.int (-1 : Int32)), .unset]) rfl k) ?_
    show own_G p.tables e below _ (T57.setTop (mkF m 131 #[.val (.int x0), .val (.int x1), .val (.int x2), .val (.int x3), .val (.int x4), .val (.int x5), .val (.ref b42), .val (.int (own_from x4)), .val (.int (own_len x4 x5)), .val (.int (own_to x4 x5)), .val (.int (1 : Int32)), .val (.int (-1 : Int32)), .unset] []))
    refine own_go (fun _ k => XS.goto X57.here hx rfl (pc0 := 131) (pc' := 179) rfl (hb hby at_131) (by decide) (by decide) k) ?_
    show own_G p.tables e below _ (T57.setTop (mkF m 179 #[.val (.int x0), .val (.int x1), .val (.int x2), .val (.int x3), .val (.int x4), .val (.int x5), .val (.ref b42), .val (.int (own_from x4)), .val (.int (own_len x4 x5)), .val (.int (own_to x4 x5)), .val (.int (1 : Int32)), .val (.int (-1 : Int32)), .unset] []))
    refine own_go (fun _ k => XS.aload X57.here hx rfl (hb hby at_179) rfl rfl k) ?_
    show own_G p.tables e below _ (T57.setTop (mkF m 181 #[.val (.int x0), .val (.int x1), .val (.int x2), .val (.int x3), .val (.int x4), .val (.int x5), .val (.ref b42), .val (.int (own_from x4)), .val (.int (own_len x4 x5)), .val (.int (own_to x4 x5)), .val (.int (1 : Int32)), .val (.int (-1 : Int32)), .unset] [(.ref b42)]))
    refine own_go (fun _ k => XS.iload X57.here hx rfl (hb hby at_181) rfl k) ?_
    show own_G p.tables e below _ (T57.setTop (mkF m 183 #[.val (.int x0), .val (.int x1), .val (.int x2), .val (.int x3), .val (.int x4), .val (.int x5), .val (.ref b42), .val (.int (own_from x4)), .val (.int (own_len x4 x5)), .val (.int (own_to x4 x5)), .val (.int (1 : Int32)), .val (.int (-1 : Int32)), .unset] [(.int (own_from x4)), (.ref b42)]))
    refine own_go (fun _ k => XS.iload X57.here hx rfl (hb hby at_183) rfl k) ?_
    show own_G p.tables e below _ (T57.setTop (mkF m 185 #[.val (.int x0), .val (.int x1), .val (.int x2), .val (.int x3), .val (.int x4), .val (.int x5), .val (.ref b42), .val (.int (own_from x4)), .val (.int (own_len x4 x5)), .val (.int (own_to x4 x5)), .val (.int (1 : Int32)), .val (.int (-1 : Int32)), .unset] [(.int (own_to x4 x5)), (.int (own_from x4)), (.ref b42)]))
    obtain ⟨T77, X77, e77, st77⟩ := own_callP X57 hx hZ (y := (⟨"com/example/davka/davka/checks/LetterCodes", "number", "([CII)I"⟩ : MethodName)) hown (hw _ (List.mem_of_getElem? (i := 21) rfl)) (hw _ (List.mem_of_getElem? (i := 22) rfl)) (hw _ (List.mem_of_getElem? (i := 23) rfl)) (hw _ (List.mem_of_getElem? (i := 24) rfl)) (by decide) (W := 0) (rm7 l Z a0 hw [] b42 (own_from x4) (own_to x4 x5) k42 (own_cs x0 x1 x2 x3) h55 V55 hfrom hto) (by decide) (by decide) rfl rfl e57 (g := (mkF m 185 #[.val (.int x0), .val (.int x1), .val (.int x2), .val (.int x3), .val (.int x4), .val (.int x5), .val (.ref b42), .val (.int (own_from x4)), .val (.int (own_len x4 x5)), .val (.int (own_to x4 x5)), .val (.int (1 : Int32)), .val (.int (-1 : Int32)), .unset] [(.int (own_to x4 x5)), (.int (own_from x4)), (.ref b42)])) rfl (by rw [hml]; rfl) (argsL := [(.ref b42), (.int (own_from x4)), (.int (own_to x4 x5))]) (rest := []) (lenOf own_pd6 rfl) rfl rfl (by show 2 * 0 + _ ≤ _; exact Nat.le_of_eq rfl) (hb hby at_185) (by decide) (by decide)
    refine own_go st77 ?_
    show own_G p.tables e below _ (T77.setTop (mkF m 188 #[.val (.int x0), .val (.int x1), .val (.int x2), .val (.int x3), .val (.int x4), .val (.int x5), .val (.ref b42), .val (.int (own_from x4)), .val (.int (own_len x4 x5)), .val (.int (own_to x4 x5)), .val (.int (1 : Int32)), .val (.int (-1 : Int32)), .unset] [(.int (F7 (own_from x4) (own_to x4 x5) (own_cs x0 x1 x2 x3)))]))
    refine own_go (fun _ k => XS.istore X77.here hx rfl (hb hby at_188) rfl (l' := #[.val (.int x0), .val (.int x1), .val (.int x2), .val (.int x3), .val (.int x4), .val (.int x5), .val (.ref b42), .val (.int (own_from x4)), .val (.int (own_len x4 x5)), .val (.int (own_to x4 x5)), .val (.int (1 : Int32)), .val (.int (-1 : Int32)), .val (.int (F7 (own_from x4) (own_to x4 x5) (own_cs x0 x1 x2 x3)))]) rfl k) ?_
    show own_G p.tables e below _ (T77.setTop (mkF m 190 #[.val (.int x0), .val (.int x1), .val (.int x2), .val (.int x3), .val (.int x4), .val (.int x5), .val (.ref b42), .val (.int (own_from x4)), .val (.int (own_len x4 x5)), .val (.int (own_to x4 x5)), .val (.int (1 : Int32)), .val (.int (-1 : Int32)), .val (.int (F7 (own_from x4) (own_to x4 x5) (own_cs x0 x1 x2 x3)))] []))
    refine own_go (fun _ k => XS.iload X77.here hx rfl (hb hby at_190) rfl k) ?_
    show own_G p.tables e below _ (T77.setTop (mkF m 192 #[.val (.int x0), .val (.int x1), .val (.int x2), .val (.int x3), .val (.int x4), .val (.int x5), .val (.ref b42), .val (.int (own_from x4)), .val (.int (own_len x4 x5)), .val (.int (own_to x4 x5)), .val (.int (1 : Int32)), .val (.int (-1 : Int32)), .val (.int (F7 (own_from x4) (own_to x4 x5) (own_cs x0 x1 x2 x3)))] [(.int (F7 (own_from x4) (own_to x4 x5) (own_cs x0 x1 x2 x3)))]))
    refine own_go (fun _ k => XS.iload X77.here hx rfl (hb hby at_192) rfl k) ?_
    show own_G p.tables e below _ (T77.setTop (mkF m 194 #[.val (.int x0), .val (.int x1), .val (.int x2), .val (.int x3), .val (.int x4), .val (.int x5), .val (.ref b42), .val (.int (own_from x4)), .val (.int (own_len x4 x5)), .val (.int (own_to x4 x5)), .val (.int (1 : Int32)), .val (.int (-1 : Int32)), .val (.int (F7 (own_from x4) (own_to x4 x5) (own_cs x0 x1 x2 x3)))] [(.int (-1 : Int32)), (.int (F7 (own_from x4) (own_to x4 x5) (own_cs x0 x1 x2 x3)))]))
    by_cases hc194_78 : (F7 (own_from x4) (own_to x4 x5) (own_cs x0 x1 x2 x3)) = (-1 : Int32)
    · refine own_go (fun _ k => XS.icmpNo X77.here hx rfl (hb hby at_194) rfl ((teq hc194_78).2) k) ?_
      show own_G p.tables e below _ (T77.setTop (mkF m 197 #[.val (.int x0), .val (.int x1), .val (.int x2), .val (.int x3), .val (.int x4), .val (.int x5), .val (.ref b42), .val (.int (own_from x4)), .val (.int (own_len x4 x5)), .val (.int (own_to x4 x5)), .val (.int (1 : Int32)), .val (.int (-1 : Int32)), .val (.int (F7 (own_from x4) (own_to x4 x5) (own_cs x0 x1 x2 x3)))] []))
      refine own_go (fun _ k => XS.iconst X77.here hx rfl (hb hby at_197) k) ?_
      show own_G p.tables e below _ (T77.setTop (mkF m 198 #[.val (.int x0), .val (.int x1), .val (.int x2), .val (.int x3), .val (.int x4), .val (.int x5), .val (.ref b42), .val (.int (own_from x4)), .val (.int (own_len x4 x5)), .val (.int (own_to x4 x5)), .val (.int (1 : Int32)), .val (.int (-1 : Int32)), .val (.int (F7 (own_from x4) (own_to x4 x5) (own_cs x0 x1 x2 x3)))] [(.int (1 : Int32))]))
      refine own_go (fun _ k => XS.goto X77.here hx rfl (pc0 := 198) (pc' := 202) rfl (hb hby at_198) (by decide) (by decide) k) ?_
      show own_G p.tables e below _ (T77.setTop (mkF m 202 #[.val (.int x0), .val (.int x1), .val (.int x2), .val (.int x3), .val (.int x4), .val (.int x5), .val (.ref b42), .val (.int (own_from x4)), .val (.int (own_len x4 x5)), .val (.int (own_to x4 x5)), .val (.int (1 : Int32)), .val (.int (-1 : Int32)), .val (.int (F7 (own_from x4) (own_to x4 x5) (own_cs x0 x1 x2 x3)))] [(.int (1 : Int32))]))
      exact own_end X77 Bd.notSynchronized (v := some (.int (nar .boolean (1 : Int32)))) (fun h => by rw [Bd.returns] at h; cases h) (Q := QL (some (.int (F0 x0 x1 x2 x3 x4 x5))) n0) ⟨by unfold F0; simp only [if_neg hc74_58, if_pos hc194_78]; try rfl, N_55⟩ (fun fs hr => retN X77 hx (t := .boolean) Bd.returns (by simp) (hb hby at_202) hr) (by decide) (by decide)
    · refine own_go (fun _ k => XS.icmpYes X77.here hx rfl (pc0 := 194) (pc' := 201) rfl (hb hby at_194) rfl ((feq hc194_78).2) (by decide) (by decide) k) ?_
      show own_G p.tables e below _ (T77.setTop (mkF m 201 #[.val (.int x0), .val (.int x1), .val (.int x2), .val (.int x3), .val (.int x4), .val (.int x5), .val (.ref b42), .val (.int (own_from x4)), .val (.int (own_len x4 x5)), .val (.int (own_to x4 x5)), .val (.int (1 : Int32)), .val (.int (-1 : Int32)), .val (.int (F7 (own_from x4) (own_to x4 x5) (own_cs x0 x1 x2 x3)))] []))
      refine own_go (fun _ k => XS.iconst X77.here hx rfl (hb hby at_201) k) ?_
      show own_G p.tables e below _ (T77.setTop (mkF m 202 #[.val (.int x0), .val (.int x1), .val (.int x2), .val (.int x3), .val (.int x4), .val (.int x5), .val (.ref b42), .val (.int (own_from x4)), .val (.int (own_len x4 x5)), .val (.int (own_to x4 x5)), .val (.int (1 : Int32)), .val (.int (-1 : Int32)), .val (.int (F7 (own_from x4) (own_to x4 x5) (own_cs x0 x1 x2 x3)))] [(.int (0 : Int32))]))
      exact own_end X77 Bd.notSynchronized (v := some (.int (nar .boolean (0 : Int32)))) (fun h => by rw [Bd.returns] at h; cases h) (Q := QL (some (.int (F0 x0 x1 x2 x3 x4 x5))) n0) ⟨by unfold F0; simp only [if_neg hc74_58, if_neg hc194_78]; try rfl, N_55⟩ (fun fs hr => retN X77 hx (t := .boolean) Bd.returns (by simp) (hb hby at_202) hr) (by decide) (by decide)
theorem own_10 : ((1 : Int32) = 0) = False := by simp
theorem own_01 : ((0 : Int32) = 0) = True := by simp
def own_G0 (g : Nat → Int32) (u v : Int32) : Int32 :=
  if (F2 (0 : Int32) u v g) = (0 : Int32) then
    if (F2 (1 : Int32) u v g) = (0 : Int32) then
      if (F2 (2 : Int32) u v g) = (0 : Int32) then
        if (F2 (3 : Int32) u v g) = (0 : Int32) then
          (if (F7 u v g) = ((((F5 (0 : Int32) u v g) + (F5 (1 : Int32) u v g)) + (F5 (2 : Int32) u v g)) + (F5 (3 : Int32) u v g)) then 1 else 0)
        else (if (F7 u v g) = (-1 : Int32) then 1 else 0)
      else (if (F7 u v g) = (-1 : Int32) then 1 else 0)
    else (if (F7 u v g) = (-1 : Int32) then 1 else 0)
  else (if (F7 u v g) = (-1 : Int32) then 1 else 0)
def own_bad (c : Int32) : Int32 := if F4 c = 0 then 1 else 0
theorem own_cap (c : Int32) : (c < 65 ∧ own_bad c = 1) ∨ (¬ c < 65 ∧ (90 : Int32) < c ∧ own_bad c = 1) ∨ (¬ c < 65 ∧ ¬ (90 : Int32) < c ∧ own_bad c = 0) := by
  unfold own_bad F4
  by_cases h1 : c < 65
  · exact Or.inl ⟨h1, by rw [if_pos h1]; rfl⟩
  · by_cases h2 : (90 : Int32) < c
    · exact Or.inr (Or.inl ⟨h1, h2, by rw [if_neg h1, if_pos h2]; rfl⟩)
    · exact Or.inr (Or.inr ⟨h1, h2, by rw [if_neg h1, if_neg h2]; rfl⟩)
theorem own_c00 (g : Nat → Int32) : own_G0 g (0 : Int32) (0 : Int32) = 1 := by
  have b0 : F2 (0 : Int32) (0 : Int32) (0 : Int32) g = 0 := rfl
  have t0 : F5 (0 : Int32) (0 : Int32) (0 : Int32) g = 0 := rfl
  have b1 : F2 (1 : Int32) (0 : Int32) (0 : Int32) g = 0 := rfl
  have t1 : F5 (1 : Int32) (0 : Int32) (0 : Int32) g = 0 := rfl
  have b2 : F2 (2 : Int32) (0 : Int32) (0 : Int32) g = 0 := rfl
  have t2 : F5 (2 : Int32) (0 : Int32) (0 : Int32) g = 0 := rfl
  have b3 : F2 (3 : Int32) (0 : Int32) (0 : Int32) g = 0 := rfl
  have t3 : F5 (3 : Int32) (0 : Int32) (0 : Int32) g = 0 := rfl
  have n : F7 (0 : Int32) (0 : Int32) g = (0 : Int32) := rfl
  unfold own_G0
  rw [b0, b1, b2, b3, t0, t1, t2, t3, n]
  rfl
theorem own_c01 (g : Nat → Int32) : own_G0 g (0 : Int32) (1 : Int32) = 1 := by
  have b0 : F2 (0 : Int32) (0 : Int32) (1 : Int32) g = own_bad (g 0) := rfl
  have t0 : F5 (0 : Int32) (0 : Int32) (1 : Int32) g = (g 0 - 65) * 1 := rfl
  have b1 : F2 (1 : Int32) (0 : Int32) (1 : Int32) g = 0 := rfl
  have t1 : F5 (1 : Int32) (0 : Int32) (1 : Int32) g = 0 := rfl
  have b2 : F2 (2 : Int32) (0 : Int32) (1 : Int32) g = 0 := rfl
  have t2 : F5 (2 : Int32) (0 : Int32) (1 : Int32) g = 0 := rfl
  have b3 : F2 (3 : Int32) (0 : Int32) (1 : Int32) g = 0 := rfl
  have t3 : F5 (3 : Int32) (0 : Int32) (1 : Int32) g = 0 := rfl
  have n : F7 (0 : Int32) (1 : Int32) g = (if g 0 < 65 then -1 else if (90 : Int32) < g 0 then -1 else ((0 : Int32) * 26 + g 0 - 65)) := rfl
  unfold own_G0
  rw [b0, b1, b2, b3, t0, t1, t2, t3, n]
  generalize g 0 = y0
  rcases own_cap y0 with ⟨h0, e0⟩ | ⟨h0, q0, e0⟩ | ⟨h0, q0, e0⟩
  · simp [h0, e0]
  · simp [h0, q0, e0]
  · simp only [h0, q0, e0, if_true, if_false, ↓reduceIte, own_10, own_01]
    exact if_pos (by grind)
theorem own_c02 (g : Nat → Int32) : own_G0 g (0 : Int32) (2 : Int32) = 1 := by
  have b0 : F2 (0 : Int32) (0 : Int32) (2 : Int32) g = own_bad (g 0) := rfl
  have t0 : F5 (0 : Int32) (0 : Int32) (2 : Int32) g = (g 0 - 65) * 26 := rfl
  have b1 : F2 (1 : Int32) (0 : Int32) (2 : Int32) g = own_bad (g 1) := rfl
  have t1 : F5 (1 : Int32) (0 : Int32) (2 : Int32) g = (g 1 - 65) * 1 := rfl
  have b2 : F2 (2 : Int32) (0 : Int32) (2 : Int32) g = 0 := rfl
  have t2 : F5 (2 : Int32) (0 : Int32) (2 : Int32) g = 0 := rfl
  have b3 : F2 (3 : Int32) (0 : Int32) (2 : Int32) g = 0 := rfl
  have t3 : F5 (3 : Int32) (0 : Int32) (2 : Int32) g = 0 := rfl
  have n : F7 (0 : Int32) (2 : Int32) g = (if g 0 < 65 then -1 else if (90 : Int32) < g 0 then -1 else (if g 1 < 65 then -1 else if (90 : Int32) < g 1 then -1 else (((0 : Int32) * 26 + g 0 - 65) * 26 + g 1 - 65))) := rfl
  unfold own_G0
  rw [b0, b1, b2, b3, t0, t1, t2, t3, n]
  generalize g 0 = y0
  generalize g 1 = y1
  rcases own_cap y0 with ⟨h0, e0⟩ | ⟨h0, q0, e0⟩ | ⟨h0, q0, e0⟩
  · simp [h0, e0]
  · simp [h0, q0, e0]
  · rcases own_cap y1 with ⟨h1, e1⟩ | ⟨h1, q1, e1⟩ | ⟨h1, q1, e1⟩
    · simp [h0, q0, e0, h1, e1]
    · simp [h0, q0, e0, h1, q1, e1]
    · simp only [h0, q0, e0, h1, q1, e1, if_true, if_false, ↓reduceIte, own_10, own_01]
      exact if_pos (by grind)
theorem own_c03 (g : Nat → Int32) : own_G0 g (0 : Int32) (3 : Int32) = 1 := by
  have b0 : F2 (0 : Int32) (0 : Int32) (3 : Int32) g = own_bad (g 0) := rfl
  have t0 : F5 (0 : Int32) (0 : Int32) (3 : Int32) g = (g 0 - 65) * 676 := rfl
  have b1 : F2 (1 : Int32) (0 : Int32) (3 : Int32) g = own_bad (g 1) := rfl
  have t1 : F5 (1 : Int32) (0 : Int32) (3 : Int32) g = (g 1 - 65) * 26 := rfl
  have b2 : F2 (2 : Int32) (0 : Int32) (3 : Int32) g = own_bad (g 2) := rfl
  have t2 : F5 (2 : Int32) (0 : Int32) (3 : Int32) g = (g 2 - 65) * 1 := rfl
  have b3 : F2 (3 : Int32) (0 : Int32) (3 : Int32) g = 0 := rfl
  have t3 : F5 (3 : Int32) (0 : Int32) (3 : Int32) g = 0 := rfl
  have n : F7 (0 : Int32) (3 : Int32) g = (if g 0 < 65 then -1 else if (90 : Int32) < g 0 then -1 else (if g 1 < 65 then -1 else if (90 : Int32) < g 1 then -1 else (if g 2 < 65 then -1 else if (90 : Int32) < g 2 then -1 else ((((0 : Int32) * 26 + g 0 - 65) * 26 + g 1 - 65) * 26 + g 2 - 65)))) := rfl
  unfold own_G0
  rw [b0, b1, b2, b3, t0, t1, t2, t3, n]
  generalize g 0 = y0
  generalize g 1 = y1
  generalize g 2 = y2
  rcases own_cap y0 with ⟨h0, e0⟩ | ⟨h0, q0, e0⟩ | ⟨h0, q0, e0⟩
  · simp [h0, e0]
  · simp [h0, q0, e0]
  · rcases own_cap y1 with ⟨h1, e1⟩ | ⟨h1, q1, e1⟩ | ⟨h1, q1, e1⟩
    · simp [h0, q0, e0, h1, e1]
    · simp [h0, q0, e0, h1, q1, e1]
    · rcases own_cap y2 with ⟨h2, e2⟩ | ⟨h2, q2, e2⟩ | ⟨h2, q2, e2⟩
      · simp [h0, q0, e0, h1, q1, e1, h2, e2]
      · simp [h0, q0, e0, h1, q1, e1, h2, q2, e2]
      · simp only [h0, q0, e0, h1, q1, e1, h2, q2, e2, if_true, if_false, ↓reduceIte, own_10, own_01]
        exact if_pos (by grind)
theorem own_c04 (g : Nat → Int32) : own_G0 g (0 : Int32) (4 : Int32) = 1 := by
  have b0 : F2 (0 : Int32) (0 : Int32) (4 : Int32) g = own_bad (g 0) := rfl
  have t0 : F5 (0 : Int32) (0 : Int32) (4 : Int32) g = (g 0 - 65) * 17576 := rfl
  have b1 : F2 (1 : Int32) (0 : Int32) (4 : Int32) g = own_bad (g 1) := rfl
  have t1 : F5 (1 : Int32) (0 : Int32) (4 : Int32) g = (g 1 - 65) * 676 := rfl
  have b2 : F2 (2 : Int32) (0 : Int32) (4 : Int32) g = own_bad (g 2) := rfl
  have t2 : F5 (2 : Int32) (0 : Int32) (4 : Int32) g = (g 2 - 65) * 26 := rfl
  have b3 : F2 (3 : Int32) (0 : Int32) (4 : Int32) g = own_bad (g 3) := rfl
  have t3 : F5 (3 : Int32) (0 : Int32) (4 : Int32) g = (g 3 - 65) * 1 := rfl
  have n : F7 (0 : Int32) (4 : Int32) g = (if g 0 < 65 then -1 else if (90 : Int32) < g 0 then -1 else (if g 1 < 65 then -1 else if (90 : Int32) < g 1 then -1 else (if g 2 < 65 then -1 else if (90 : Int32) < g 2 then -1 else (if g 3 < 65 then -1 else if (90 : Int32) < g 3 then -1 else (((((0 : Int32) * 26 + g 0 - 65) * 26 + g 1 - 65) * 26 + g 2 - 65) * 26 + g 3 - 65))))) := rfl
  unfold own_G0
  rw [b0, b1, b2, b3, t0, t1, t2, t3, n]
  generalize g 0 = y0
  generalize g 1 = y1
  generalize g 2 = y2
  generalize g 3 = y3
  rcases own_cap y0 with ⟨h0, e0⟩ | ⟨h0, q0, e0⟩ | ⟨h0, q0, e0⟩
  · simp [h0, e0]
  · simp [h0, q0, e0]
  · rcases own_cap y1 with ⟨h1, e1⟩ | ⟨h1, q1, e1⟩ | ⟨h1, q1, e1⟩
    · simp [h0, q0, e0, h1, e1]
    · simp [h0, q0, e0, h1, q1, e1]
    · rcases own_cap y2 with ⟨h2, e2⟩ | ⟨h2, q2, e2⟩ | ⟨h2, q2, e2⟩
      · simp [h0, q0, e0, h1, q1, e1, h2, e2]
      · simp [h0, q0, e0, h1, q1, e1, h2, q2, e2]
      · rcases own_cap y3 with ⟨h3, e3⟩ | ⟨h3, q3, e3⟩ | ⟨h3, q3, e3⟩
        · simp [h0, q0, e0, h1, q1, e1, h2, q2, e2, h3, e3]
        · simp [h0, q0, e0, h1, q1, e1, h2, q2, e2, h3, q3, e3]
        · simp only [h0, q0, e0, h1, q1, e1, h2, q2, e2, h3, q3, e3, if_true, if_false, ↓reduceIte, own_10, own_01]
          exact if_pos (by grind)
theorem own_c11 (g : Nat → Int32) : own_G0 g (1 : Int32) (1 : Int32) = 1 := by
  have b0 : F2 (0 : Int32) (1 : Int32) (1 : Int32) g = 0 := rfl
  have t0 : F5 (0 : Int32) (1 : Int32) (1 : Int32) g = 0 := rfl
  have b1 : F2 (1 : Int32) (1 : Int32) (1 : Int32) g = 0 := rfl
  have t1 : F5 (1 : Int32) (1 : Int32) (1 : Int32) g = 0 := rfl
  have b2 : F2 (2 : Int32) (1 : Int32) (1 : Int32) g = 0 := rfl
  have t2 : F5 (2 : Int32) (1 : Int32) (1 : Int32) g = 0 := rfl
  have b3 : F2 (3 : Int32) (1 : Int32) (1 : Int32) g = 0 := rfl
  have t3 : F5 (3 : Int32) (1 : Int32) (1 : Int32) g = 0 := rfl
  have n : F7 (1 : Int32) (1 : Int32) g = (0 : Int32) := rfl
  unfold own_G0
  rw [b0, b1, b2, b3, t0, t1, t2, t3, n]
  rfl
theorem own_c12 (g : Nat → Int32) : own_G0 g (1 : Int32) (2 : Int32) = 1 := by
  have b0 : F2 (0 : Int32) (1 : Int32) (2 : Int32) g = 0 := rfl
  have t0 : F5 (0 : Int32) (1 : Int32) (2 : Int32) g = 0 := rfl
  have b1 : F2 (1 : Int32) (1 : Int32) (2 : Int32) g = own_bad (g 1) := rfl
  have t1 : F5 (1 : Int32) (1 : Int32) (2 : Int32) g = (g 1 - 65) * 1 := rfl
  have b2 : F2 (2 : Int32) (1 : Int32) (2 : Int32) g = 0 := rfl
  have t2 : F5 (2 : Int32) (1 : Int32) (2 : Int32) g = 0 := rfl
  have b3 : F2 (3 : Int32) (1 : Int32) (2 : Int32) g = 0 := rfl
  have t3 : F5 (3 : Int32) (1 : Int32) (2 : Int32) g = 0 := rfl
  have n : F7 (1 : Int32) (2 : Int32) g = (if g 1 < 65 then -1 else if (90 : Int32) < g 1 then -1 else ((0 : Int32) * 26 + g 1 - 65)) := rfl
  unfold own_G0
  rw [b0, b1, b2, b3, t0, t1, t2, t3, n]
  generalize g 1 = y1
  rcases own_cap y1 with ⟨h1, e1⟩ | ⟨h1, q1, e1⟩ | ⟨h1, q1, e1⟩
  · simp [h1, e1]
  · simp [h1, q1, e1]
  · simp only [h1, q1, e1, if_true, if_false, ↓reduceIte, own_10, own_01]
    exact if_pos (by grind)
theorem own_c13 (g : Nat → Int32) : own_G0 g (1 : Int32) (3 : Int32) = 1 := by
  have b0 : F2 (0 : Int32) (1 : Int32) (3 : Int32) g = 0 := rfl
  have t0 : F5 (0 : Int32) (1 : Int32) (3 : Int32) g = 0 := rfl
  have b1 : F2 (1 : Int32) (1 : Int32) (3 : Int32) g = own_bad (g 1) := rfl
  have t1 : F5 (1 : Int32) (1 : Int32) (3 : Int32) g = (g 1 - 65) * 26 := rfl
  have b2 : F2 (2 : Int32) (1 : Int32) (3 : Int32) g = own_bad (g 2) := rfl
  have t2 : F5 (2 : Int32) (1 : Int32) (3 : Int32) g = (g 2 - 65) * 1 := rfl
  have b3 : F2 (3 : Int32) (1 : Int32) (3 : Int32) g = 0 := rfl
  have t3 : F5 (3 : Int32) (1 : Int32) (3 : Int32) g = 0 := rfl
  have n : F7 (1 : Int32) (3 : Int32) g = (if g 1 < 65 then -1 else if (90 : Int32) < g 1 then -1 else (if g 2 < 65 then -1 else if (90 : Int32) < g 2 then -1 else (((0 : Int32) * 26 + g 1 - 65) * 26 + g 2 - 65))) := rfl
  unfold own_G0
  rw [b0, b1, b2, b3, t0, t1, t2, t3, n]
  generalize g 1 = y1
  generalize g 2 = y2
  rcases own_cap y1 with ⟨h1, e1⟩ | ⟨h1, q1, e1⟩ | ⟨h1, q1, e1⟩
  · simp [h1, e1]
  · simp [h1, q1, e1]
  · rcases own_cap y2 with ⟨h2, e2⟩ | ⟨h2, q2, e2⟩ | ⟨h2, q2, e2⟩
    · simp [h1, q1, e1, h2, e2]
    · simp [h1, q1, e1, h2, q2, e2]
    · simp only [h1, q1, e1, h2, q2, e2, if_true, if_false, ↓reduceIte, own_10, own_01]
      exact if_pos (by grind)
theorem own_c14 (g : Nat → Int32) : own_G0 g (1 : Int32) (4 : Int32) = 1 := by
  have b0 : F2 (0 : Int32) (1 : Int32) (4 : Int32) g = 0 := rfl
  have t0 : F5 (0 : Int32) (1 : Int32) (4 : Int32) g = 0 := rfl
  have b1 : F2 (1 : Int32) (1 : Int32) (4 : Int32) g = own_bad (g 1) := rfl
  have t1 : F5 (1 : Int32) (1 : Int32) (4 : Int32) g = (g 1 - 65) * 676 := rfl
  have b2 : F2 (2 : Int32) (1 : Int32) (4 : Int32) g = own_bad (g 2) := rfl
  have t2 : F5 (2 : Int32) (1 : Int32) (4 : Int32) g = (g 2 - 65) * 26 := rfl
  have b3 : F2 (3 : Int32) (1 : Int32) (4 : Int32) g = own_bad (g 3) := rfl
  have t3 : F5 (3 : Int32) (1 : Int32) (4 : Int32) g = (g 3 - 65) * 1 := rfl
  have n : F7 (1 : Int32) (4 : Int32) g = (if g 1 < 65 then -1 else if (90 : Int32) < g 1 then -1 else (if g 2 < 65 then -1 else if (90 : Int32) < g 2 then -1 else (if g 3 < 65 then -1 else if (90 : Int32) < g 3 then -1 else ((((0 : Int32) * 26 + g 1 - 65) * 26 + g 2 - 65) * 26 + g 3 - 65)))) := rfl
  unfold own_G0
  rw [b0, b1, b2, b3, t0, t1, t2, t3, n]
  generalize g 1 = y1
  generalize g 2 = y2
  generalize g 3 = y3
  rcases own_cap y1 with ⟨h1, e1⟩ | ⟨h1, q1, e1⟩ | ⟨h1, q1, e1⟩
  · simp [h1, e1]
  · simp [h1, q1, e1]
  · rcases own_cap y2 with ⟨h2, e2⟩ | ⟨h2, q2, e2⟩ | ⟨h2, q2, e2⟩
    · simp [h1, q1, e1, h2, e2]
    · simp [h1, q1, e1, h2, q2, e2]
    · rcases own_cap y3 with ⟨h3, e3⟩ | ⟨h3, q3, e3⟩ | ⟨h3, q3, e3⟩
      · simp [h1, q1, e1, h2, q2, e2, h3, e3]
      · simp [h1, q1, e1, h2, q2, e2, h3, q3, e3]
      · simp only [h1, q1, e1, h2, q2, e2, h3, q3, e3, if_true, if_false, ↓reduceIte, own_10, own_01]
        exact if_pos (by grind)
theorem own_c22 (g : Nat → Int32) : own_G0 g (2 : Int32) (2 : Int32) = 1 := by
  have b0 : F2 (0 : Int32) (2 : Int32) (2 : Int32) g = 0 := rfl
  have t0 : F5 (0 : Int32) (2 : Int32) (2 : Int32) g = 0 := rfl
  have b1 : F2 (1 : Int32) (2 : Int32) (2 : Int32) g = 0 := rfl
  have t1 : F5 (1 : Int32) (2 : Int32) (2 : Int32) g = 0 := rfl
  have b2 : F2 (2 : Int32) (2 : Int32) (2 : Int32) g = 0 := rfl
  have t2 : F5 (2 : Int32) (2 : Int32) (2 : Int32) g = 0 := rfl
  have b3 : F2 (3 : Int32) (2 : Int32) (2 : Int32) g = 0 := rfl
  have t3 : F5 (3 : Int32) (2 : Int32) (2 : Int32) g = 0 := rfl
  have n : F7 (2 : Int32) (2 : Int32) g = (0 : Int32) := rfl
  unfold own_G0
  rw [b0, b1, b2, b3, t0, t1, t2, t3, n]
  rfl
theorem own_c23 (g : Nat → Int32) : own_G0 g (2 : Int32) (3 : Int32) = 1 := by
  have b0 : F2 (0 : Int32) (2 : Int32) (3 : Int32) g = 0 := rfl
  have t0 : F5 (0 : Int32) (2 : Int32) (3 : Int32) g = 0 := rfl
  have b1 : F2 (1 : Int32) (2 : Int32) (3 : Int32) g = 0 := rfl
  have t1 : F5 (1 : Int32) (2 : Int32) (3 : Int32) g = 0 := rfl
  have b2 : F2 (2 : Int32) (2 : Int32) (3 : Int32) g = own_bad (g 2) := rfl
  have t2 : F5 (2 : Int32) (2 : Int32) (3 : Int32) g = (g 2 - 65) * 1 := rfl
  have b3 : F2 (3 : Int32) (2 : Int32) (3 : Int32) g = 0 := rfl
  have t3 : F5 (3 : Int32) (2 : Int32) (3 : Int32) g = 0 := rfl
  have n : F7 (2 : Int32) (3 : Int32) g = (if g 2 < 65 then -1 else if (90 : Int32) < g 2 then -1 else ((0 : Int32) * 26 + g 2 - 65)) := rfl
  unfold own_G0
  rw [b0, b1, b2, b3, t0, t1, t2, t3, n]
  generalize g 2 = y2
  rcases own_cap y2 with ⟨h2, e2⟩ | ⟨h2, q2, e2⟩ | ⟨h2, q2, e2⟩
  · simp [h2, e2]
  · simp [h2, q2, e2]
  · simp only [h2, q2, e2, if_true, if_false, ↓reduceIte, own_10, own_01]
    exact if_pos (by grind)
theorem own_c24 (g : Nat → Int32) : own_G0 g (2 : Int32) (4 : Int32) = 1 := by
  have b0 : F2 (0 : Int32) (2 : Int32) (4 : Int32) g = 0 := rfl
  have t0 : F5 (0 : Int32) (2 : Int32) (4 : Int32) g = 0 := rfl
  have b1 : F2 (1 : Int32) (2 : Int32) (4 : Int32) g = 0 := rfl
  have t1 : F5 (1 : Int32) (2 : Int32) (4 : Int32) g = 0 := rfl
  have b2 : F2 (2 : Int32) (2 : Int32) (4 : Int32) g = own_bad (g 2) := rfl
  have t2 : F5 (2 : Int32) (2 : Int32) (4 : Int32) g = (g 2 - 65) * 26 := rfl
  have b3 : F2 (3 : Int32) (2 : Int32) (4 : Int32) g = own_bad (g 3) := rfl
  have t3 : F5 (3 : Int32) (2 : Int32) (4 : Int32) g = (g 3 - 65) * 1 := rfl
  have n : F7 (2 : Int32) (4 : Int32) g = (if g 2 < 65 then -1 else if (90 : Int32) < g 2 then -1 else (if g 3 < 65 then -1 else if (90 : Int32) < g 3 then -1 else (((0 : Int32) * 26 + g 2 - 65) * 26 + g 3 - 65))) := rfl
  unfold own_G0
  rw [b0, b1, b2, b3, t0, t1, t2, t3, n]
  generalize g 2 = y2
  generalize g 3 = y3
  rcases own_cap y2 with ⟨h2, e2⟩ | ⟨h2, q2, e2⟩ | ⟨h2, q2, e2⟩
  · simp [h2, e2]
  · simp [h2, q2, e2]
  · rcases own_cap y3 with ⟨h3, e3⟩ | ⟨h3, q3, e3⟩ | ⟨h3, q3, e3⟩
    · simp [h2, q2, e2, h3, e3]
    · simp [h2, q2, e2, h3, q3, e3]
    · simp only [h2, q2, e2, h3, q3, e3, if_true, if_false, ↓reduceIte, own_10, own_01]
      exact if_pos (by grind)
theorem own_c33 (g : Nat → Int32) : own_G0 g (3 : Int32) (3 : Int32) = 1 := by
  have b0 : F2 (0 : Int32) (3 : Int32) (3 : Int32) g = 0 := rfl
  have t0 : F5 (0 : Int32) (3 : Int32) (3 : Int32) g = 0 := rfl
  have b1 : F2 (1 : Int32) (3 : Int32) (3 : Int32) g = 0 := rfl
  have t1 : F5 (1 : Int32) (3 : Int32) (3 : Int32) g = 0 := rfl
  have b2 : F2 (2 : Int32) (3 : Int32) (3 : Int32) g = 0 := rfl
  have t2 : F5 (2 : Int32) (3 : Int32) (3 : Int32) g = 0 := rfl
  have b3 : F2 (3 : Int32) (3 : Int32) (3 : Int32) g = 0 := rfl
  have t3 : F5 (3 : Int32) (3 : Int32) (3 : Int32) g = 0 := rfl
  have n : F7 (3 : Int32) (3 : Int32) g = (0 : Int32) := rfl
  unfold own_G0
  rw [b0, b1, b2, b3, t0, t1, t2, t3, n]
  rfl
theorem own_c34 (g : Nat → Int32) : own_G0 g (3 : Int32) (4 : Int32) = 1 := by
  have b0 : F2 (0 : Int32) (3 : Int32) (4 : Int32) g = 0 := rfl
  have t0 : F5 (0 : Int32) (3 : Int32) (4 : Int32) g = 0 := rfl
  have b1 : F2 (1 : Int32) (3 : Int32) (4 : Int32) g = 0 := rfl
  have t1 : F5 (1 : Int32) (3 : Int32) (4 : Int32) g = 0 := rfl
  have b2 : F2 (2 : Int32) (3 : Int32) (4 : Int32) g = 0 := rfl
  have t2 : F5 (2 : Int32) (3 : Int32) (4 : Int32) g = 0 := rfl
  have b3 : F2 (3 : Int32) (3 : Int32) (4 : Int32) g = own_bad (g 3) := rfl
  have t3 : F5 (3 : Int32) (3 : Int32) (4 : Int32) g = (g 3 - 65) * 1 := rfl
  have n : F7 (3 : Int32) (4 : Int32) g = (if g 3 < 65 then -1 else if (90 : Int32) < g 3 then -1 else ((0 : Int32) * 26 + g 3 - 65)) := rfl
  unfold own_G0
  rw [b0, b1, b2, b3, t0, t1, t2, t3, n]
  generalize g 3 = y3
  rcases own_cap y3 with ⟨h3, e3⟩ | ⟨h3, q3, e3⟩ | ⟨h3, q3, e3⟩
  · simp [h3, e3]
  · simp [h3, q3, e3]
  · simp only [h3, q3, e3, if_true, if_false, ↓reduceIte, own_10, own_01]
    exact if_pos (by grind)
theorem own_c44 (g : Nat → Int32) : own_G0 g (4 : Int32) (4 : Int32) = 1 := by
  have b0 : F2 (0 : Int32) (4 : Int32) (4 : Int32) g = 0 := rfl
  have t0 : F5 (0 : Int32) (4 : Int32) (4 : Int32) g = 0 := rfl
  have b1 : F2 (1 : Int32) (4 : Int32) (4 : Int32) g = 0 := rfl
  have t1 : F5 (1 : Int32) (4 : Int32) (4 : Int32) g = 0 := rfl
  have b2 : F2 (2 : Int32) (4 : Int32) (4 : Int32) g = 0 := rfl
  have t2 : F5 (2 : Int32) (4 : Int32) (4 : Int32) g = 0 := rfl
  have b3 : F2 (3 : Int32) (4 : Int32) (4 : Int32) g = 0 := rfl
  have t3 : F5 (3 : Int32) (4 : Int32) (4 : Int32) g = 0 := rfl
  have n : F7 (4 : Int32) (4 : Int32) g = (0 : Int32) := rfl
  unfold own_G0
  rw [b0, b1, b2, b3, t0, t1, t2, t3, n]
  rfl
theorem own_law (a b c d e f : Int32) : F0 a b c d e f = 1 := by
  have hf := own_from_b e
  have hl := own_len_b e f
  have ht := own_to_e e f
  show own_G0 (own_cs a b c d) (own_from e) (own_to e f) = 1
  generalize own_cs a b c d = g
  generalize own_to e f = v at ht
  generalize own_from e = u at hf hl ht
  have eu : u.toInt = 0 ∨ u.toInt = 1 ∨ u.toInt = 2 ∨ u.toInt = 3 ∨ u.toInt = 4 := by omega
  have ev : v.toInt = 0 ∨ v.toInt = 1 ∨ v.toInt = 2 ∨ v.toInt = 3 ∨ v.toInt = 4 := by omega
  have lit : ∀ {z : Int32} (n : Nat), n < 5 → z.toInt = n → z = Int32.ofNat n := fun n r q => own_ext q (by omega)
  rcases eu with q | q | q | q | q
  · obtain rfl := lit 0 (by decide) q
    rcases ev with z | z | z | z | z
    · obtain rfl := lit 0 (by decide) z
      exact own_c00 g
    · obtain rfl := lit 1 (by decide) z
      exact own_c01 g
    · obtain rfl := lit 2 (by decide) z
      exact own_c02 g
    · obtain rfl := lit 3 (by decide) z
      exact own_c03 g
    · obtain rfl := lit 4 (by decide) z
      exact own_c04 g
  · obtain rfl := lit 1 (by decide) q
    rcases ev with z | z | z | z | z
    · exfalso; omega
    · obtain rfl := lit 1 (by decide) z
      exact own_c11 g
    · obtain rfl := lit 2 (by decide) z
      exact own_c12 g
    · obtain rfl := lit 3 (by decide) z
      exact own_c13 g
    · obtain rfl := lit 4 (by decide) z
      exact own_c14 g
  · obtain rfl := lit 2 (by decide) q
    rcases ev with z | z | z | z | z
    · exfalso; omega
    · exfalso; omega
    · obtain rfl := lit 2 (by decide) z
      exact own_c22 g
    · obtain rfl := lit 3 (by decide) z
      exact own_c23 g
    · obtain rfl := lit 4 (by decide) z
      exact own_c24 g
  · obtain rfl := lit 3 (by decide) q
    rcases ev with z | z | z | z | z
    · exfalso; omega
    · exfalso; omega
    · exfalso; omega
    · obtain rfl := lit 3 (by decide) z
      exact own_c33 g
    · obtain rfl := lit 4 (by decide) z
      exact own_c34 g
  · obtain rfl := lit 4 (by decide) q
    rcases ev with z | z | z | z | z
    · exfalso; omega
    · exfalso; omega
    · exfalso; omega
    · exfalso; omega
    · obtain rfl := lit 4 (by decide) z
      exact own_c44 g
set_option maxRecDepth 65536 in
set_option maxHeartbeats 40000000 in
theorem comes_1 {Post : Tables → Env → Array Value → State → Outcome → State → Prop} (hpost : ∀ tb e args s v u, (limb_1_1.after args s (.returned v) u = true ∧ limb_1_2.after args s (.returned v) u = true ∧ True) → FrameEnd s (.returned v) u (Jvm.fieldLocs frame_1_writes args s ++ Jvm.arrayLocs frame_1_arrays args s ++ Jvm.staticLocs frame_1_statics s) 16 128 → Post tb e args s (.returned v) u) :
    ArmFor flags0 classFile x code maxLocals ret World_1 tables_1 room_1 Calls_1 rest_1 Pre_1 Post := by
  intro l hfl _ _ p e ha hc hk s m args below hf hA hF happ hP
  obtain ⟨hcalls, hrest, hpre⟩ := hP
  obtain ⟨-, -, -, hnamed, -, -, -, hat⟩ := (Spec.applies_iff hf).mp happ
  obtain ⟨hg, hn⟩ := and_e (Cond.before_iff.mp (show (Jvm.Cond.and given_1 narrow_1).before args s = true from hpre))
  obtain ⟨hcnt, hq0⟩ := and_e hg
  obtain ⟨ha0, hq1⟩ := and_e hq0
  obtain ⟨ha1, hq2⟩ := and_e hq1
  obtain ⟨ha2, hq3⟩ := and_e hq2
  obtain ⟨ha3, hq4⟩ := and_e hq3
  obtain ⟨ha4, hq5⟩ := and_e hq4
  have ha5 := hq5
  obtain ⟨w0, w1, w2, w3, w4, w5, rfl⟩ : ∃ w0 w1 w2 w3 w4 w5 : Value, args = #[w0, w1, w2, w3, w4, w5] := by
    have hs : args.size = 6 := by simpa [Cond.value, given_1] using hcnt
    obtain ⟨L⟩ := args
    match L, hs with
    | [w0, w1, w2, w3, w4, w5], _ => exact ⟨w0, w1, w2, w3, w4, w5, rfl⟩
  have hw := fun d (hd : d ∈ tables_1) => atoms_spec (ws := Jvm.Cond.code x code maxLocals ret :: tables_1) hat d (List.mem_cons_of_mem _ hd)
  have hfit : Fit s := fun {y c} hc i hi => by
    obtain ⟨ha, rfl⟩ := Array.getElem?_eq_some_iff.mp hc
    have q := List.all_eq_true.mp ((Array.all_eq_true_iff_forall_mem.mp hF) _ (Array.getElem_mem ha)) i (List.mem_range.mpr hi)
    simpa [Array.getElem?_eq_getElem hi] using q
  obtain ⟨i0, ei0⟩ := is_v ha0
  obtain rfl : w0 = (.int i0) := Option.some.inj ei0
  obtain ⟨i1, ei1⟩ := is_v ha1
  obtain rfl : w1 = (.int i1) := Option.some.inj ei1
  obtain ⟨i2, ei2⟩ := is_v ha2
  obtain rfl : w2 = (.int i2) := Option.some.inj ei2
  obtain ⟨i3, ei3⟩ := is_v ha3
  obtain rfl : w3 = (.int i3) := Option.some.inj ei3
  obtain ⟨i4, ei4⟩ := is_v ha4
  obtain rfl : w4 = (.int i4) := Option.some.inj ei4
  obtain ⟨i5, ei5⟩ := is_v ha5
  obtain rfl : w5 = (.int i5) := Option.some.inj ei5
  obtain ⟨n, o, h1, h2, h3, _, L, rfl, ⟨rfl, N⟩, hq⟩ := rm0 l s _ hw tables_1 i0 i1 i2 i3 i4 i5 s.heap s.heap.size (Nat.le_refl _) p e ha hc hk s m _ below hf ((Spec.applies_iff_loose hf).mp happ).1 ⟨rfl, State.Warmed39.refl s, rfl⟩ trivial
  refine ⟨n, _, h1, h2, h3, hpost _ _ _ _ _ _ ⟨Cond.after_iff.mpr rfl, Cond.after_iff.mpr (eq_i res_at (Term.int_eval (1)) (by rw [own_law])), trivial⟩ ⟨hq.1, hq.2.1, (hq.2.2.sift fun y hy => Or.inr (N y hy)).mono (by decide) (by decide)⟩⟩
theorem main_1_1 : Claimed_1_1 := comes_1 fun _ _ _ _ _ _ h hF => ⟨h.1, hF⟩
theorem main_1_2 : Claimed_1_2 := comes_1 fun _ _ _ _ _ _ h hF => ⟨h.2.1, hF⟩
end Jvm.Pilot.@@N@@
namespace Jvm.Pilot.@@N@@
open Jvm Jvm.ClassFile Sem Op Lib Jvm.Free Jvm.Stand Jvm.Pilot.@@N@@.Jvm.D
/-! MADE BY PROGRAM (witnessworld.py) out of the Statement's table words and the real class files: 11 classes; the members and pool entries that the words name. The judged class is class 1, her method 7. -/
namespace start1
open Jvm.ClassFile
def u (s : String) : CpInfo := .utf8 (stringToUtf16 s)
/-- a pool by its gaps: so many unusable entries, then the entry; so many at the end -/
def gap : Nat → List CpInfo → List CpInfo
  | 0, r => r
  | n + 1, r => .unusable :: gap n r
def poolList (es : List (Nat × CpInfo)) (last : Nat) : List CpInfo := es.foldr (fun e r => gap e.1 (e.2 :: r)) (gap last [])
def pool (es : List (Nat × CpInfo)) (last : Nat) : Array CpInfo := ⟨poolList es last⟩
def fileOf (pool : Array CpInfo) (this : Nat) (attrs : Array Attribute := #[]) (ms : Array MethodInfo := #[]) (fl : Nat := 33) (sup : Nat := 0) (ifs : Array Nat := #[]) (fds : Array FieldInfo := #[]) : ClassFile where
  minorVersion := 0
  majorVersion := 65
  constantPool := pool
  accessFlags := fl
  thisClass := this
  superClass := sup
  interfaces := ifs
  fields := fds
  methods := ms
  attributes := attrs
def plain (name : String) (sup : Option ClassId) : Class where
  name := name
  kind := .ordinary
  loader := none
  accessFlags := 33
  super := sup
  interfaces := #[]
  cf := none
  fields := #[]
  methods := #[]
  instanceTypes := #[]
  staticTypes := #[]
  resolved := #[]
  callSites := []
  init := .initialized
  statics := none
  mirror := none

def pool0 : Array CpInfo := pool [(5, u "<init>"), (0, u "()V"), (1, .class_ 10), (1, u "java/lang/Object")] 113

def k0m0 : Method := { name := "<init>", desc := "()V", sig := { parameters := [], returnType := none }, accessFlags := 1, code := none }
/-- java/lang/Object -/
def k0 : Class := { plain "java/lang/Object" none with
  accessFlags := 33
  interfaces := #[]
  cf := some (fileOf pool0 8 #[] #[{ accessFlags := 1, nameIndex := 5, descriptorIndex := 6, attributes := #[] }] 33 0 #[] #[])
  fields := #[]
  methods := #[k0m0]
  instanceTypes := #[]
  staticTypes := #[]
  resolved := Array.replicate 124 none
  statics := none }

def pool1 : Array CpInfo := pool [(2, .class_ 4), (1, u "java/lang/Object"), (0, u "<init>"), (0, u "()V"), (0, .methodref 8 9), (0, .class_ 10), (0, .nameAndType 11 12), (0, u "com/example/davka/davka/checks/LetterCodesNumberPinLaw"), (0, u "inSlice"), (0, u "(III)Z"), (0, .methodref 8 14), (0, .nameAndType 15 16), (0, u "weight"), (0, u "(II)I"), (0, .methodref 8 18), (0, .nameAndType 19 20), (0, u "isCap"), (0, u "(C)Z"), (0, .methodref 8 22), (0, .nameAndType 23 24), (0, u "ch"), (0, u "(I)C"), (0, .integer 2147483647), (0, .methodref 8 27), (0, .nameAndType 28 29), (0, u "badAt"), (0, u "([CIII)Z"), (0, .methodref 8 31), (0, .nameAndType 32 33), (0, u "term"), (0, u "([CIII)I"), (0, .methodref 35 36), (0, .class_ 37), (0, .nameAndType 38 39), (0, u "com/example/davka/davka/checks/LetterCodes"), (0, u "number"), (0, u "([CII)I"), (3, u "law"), (0, u "(IIIIII)Z")] 4

def k1m0 : Method := { name := "<init>", desc := "()V", sig := { parameters := [], returnType := none }, accessFlags := 2, code := none }
def k1c1 : Code := { maxStack := 3, maxLocals := 1, code := method_2_code, exceptionTable := #[], attributes := #[] }
def k1m1 : Method := { name := "ch", desc := "(I)C", sig := { parameters := [.int], returnType := some .char }, accessFlags := 10, code := some k1c1 }
def k1c2 : Code := { maxStack := 2, maxLocals := 1, code := method_3_code, exceptionTable := #[], attributes := #[] }
def k1m2 : Method := { name := "isCap", desc := "(C)Z", sig := { parameters := [.char], returnType := some .boolean }, accessFlags := 10, code := some k1c2 }
def k1c3 : Code := { maxStack := 2, maxLocals := 3, code := method_4_code, exceptionTable := #[], attributes := #[] }
def k1m3 : Method := { name := "inSlice", desc := "(III)Z", sig := { parameters := [.int, .int, .int], returnType := some .boolean }, accessFlags := 10, code := some k1c3 }
def k1c4 : Code := { maxStack := 2, maxLocals := 3, code := method_5_code, exceptionTable := #[], attributes := #[] }
def k1m4 : Method := { name := "weight", desc := "(II)I", sig := { parameters := [.int, .int], returnType := some .int }, accessFlags := 10, code := some k1c4 }
def k1c5 : Code := { maxStack := 3, maxLocals := 4, code := method_6_code, exceptionTable := #[], attributes := #[] }
def k1m5 : Method := { name := "term", desc := "([CIII)I", sig := { parameters := [(.array .char), .int, .int, .int], returnType := some .int }, accessFlags := 10, code := some k1c5 }
def k1c6 : Code := { maxStack := 3, maxLocals := 4, code := method_7_code, exceptionTable := #[], attributes := #[] }
def k1m6 : Method := { name := "badAt", desc := "([CIII)Z", sig := { parameters := [(.array .char), .int, .int, .int], returnType := some .boolean }, accessFlags := 10, code := some k1c6 }
def k1c7 : Code := { maxStack := 5, maxLocals := 13, code := code, exceptionTable := #[], attributes := #[] }
def k1m7 : Method := { name := "law", desc := "(IIIIII)Z", sig := { parameters := [.int, .int, .int, .int, .int, .int], returnType := some .boolean }, accessFlags := 9, code := some k1c7 }
/-- com/example/davka/davka/checks/LetterCodesNumberPinLaw -/
def k1 : Class := { plain "com/example/davka/davka/checks/LetterCodesNumberPinLaw" (some 0) with
  accessFlags := 49
  interfaces := #[]
  cf := some (fileOf pool1 8 #[] #[{ accessFlags := 2, nameIndex := 5, descriptorIndex := 6, attributes := #[] }, { accessFlags := 10, nameIndex := 23, descriptorIndex := 24, attributes := #[] }, { accessFlags := 10, nameIndex := 19, descriptorIndex := 20, attributes := #[] }, { accessFlags := 10, nameIndex := 11, descriptorIndex := 12, attributes := #[] }, { accessFlags := 10, nameIndex := 15, descriptorIndex := 16, attributes := #[] }, { accessFlags := 10, nameIndex := 32, descriptorIndex := 33, attributes := #[] }, { accessFlags := 10, nameIndex := 28, descriptorIndex := 29, attributes := #[] }, { accessFlags := 9, nameIndex := 43, descriptorIndex := 44, attributes := #[] }] 49 2 #[] #[])
  fields := #[]
  methods := #[k1m0, k1m1, k1m2, k1m3, k1m4, k1m5, k1m6, k1m7]
  instanceTypes := #[]
  staticTypes := #[]
  resolved := Array.replicate 49 none
  statics := none }

def pool2 : Array CpInfo := pool [(2, .class_ 4), (1, u "java/lang/Object"), (0, u "<init>"), (0, u "()V"), (0, .class_ 8), (0, u "com/example/davka/davka/checks/LetterCodes"), (12, u "number"), (0, u "([CII)I"), (3, u "LETTERS"), (0, u "I")] 14

def k2m0 : Method := { name := "<init>", desc := "()V", sig := { parameters := [], returnType := none }, accessFlags := 2, code := none }
def k2c1 : Code := { maxStack := 3, maxLocals := 5, code := prog_47_method_3_code, exceptionTable := #[], attributes := #[] }
def k2m1 : Method := { name := "number", desc := "([CII)I", sig := { parameters := [(.array .char), .int, .int], returnType := some .int }, accessFlags := 8, code := some k2c1 }
/-- com/example/davka/davka/checks/LetterCodes -/
def k2 : Class := { plain "com/example/davka/davka/checks/LetterCodes" (some 0) with
  accessFlags := 48
  interfaces := #[]
  cf := some (fileOf pool2 7 #[] #[{ accessFlags := 2, nameIndex := 5, descriptorIndex := 6, attributes := #[] }, { accessFlags := 8, nameIndex := 21, descriptorIndex := 22, attributes := #[] }] 48 2 #[] #[{ accessFlags := 26, nameIndex := 26, descriptorIndex := 27, attributes := #[] }])
  fields := #[{ name := "LETTERS", type := .int, accessFlags := 26, slot := 0, constantValue := 0 }]
  methods := #[k2m0, k2m1]
  instanceTypes := #[]
  staticTypes := #[.int]
  resolved := Array.replicate 42 none
  statics := none }

def pool3 : Array CpInfo := pool [(1, u "java/lang/Cloneable"), (0, .class_ 1), (0, u "java/lang/Object"), (0, .class_ 3)] 3

/-- java/lang/Cloneable -/
def k3 : Class := { plain "java/lang/Cloneable" (some 0) with
  accessFlags := 1537
  interfaces := #[]
  cf := some (fileOf pool3 2 #[] #[] 1537 4 #[] #[])
  fields := #[]
  methods := #[]
  instanceTypes := #[]
  staticTypes := #[]
  resolved := Array.replicate 8 none
  statics := none }

def pool4 : Array CpInfo := pool [(1, u "java/io/Serializable"), (0, .class_ 1), (0, u "java/lang/Object"), (0, .class_ 3)] 3

/-- java/io/Serializable -/
def k4 : Class := { plain "java/io/Serializable" (some 0) with
  accessFlags := 1537
  interfaces := #[]
  cf := some (fileOf pool4 2 #[] #[] 1537 4 #[] #[])
  fields := #[]
  methods := #[]
  instanceTypes := #[]
  staticTypes := #[]
  resolved := Array.replicate 8 none
  statics := none }

/-- the primitive byte -/
def k5 : Class := { plain "byte" none with kind := .primitive 'B', accessFlags := 0x411 }
/-- [B -/
def k6 : Class := { plain "[B" (some 0) with kind := .array 5 .byte, interfaces := #[3, 4], accessFlags := 1041 }

/-- the primitive char -/
def k7 : Class := { plain "char" none with kind := .primitive 'C', accessFlags := 0x411 }
/-- [C -/
def k8 : Class := { plain "[C" (some 0) with kind := .array 7 .char, interfaces := #[3, 4], accessFlags := 1041 }

/-- the primitive int -/
def k9 : Class := { plain "int" none with kind := .primitive 'I', accessFlags := 0x411 }
/-- [I -/
def k10 : Class := { plain "[I" (some 0) with kind := .array 9 .int, interfaces := #[3, 4], accessFlags := 1041 }

def heap : Heap := #[]
def classes : Array Class := #[k0, k1, k2, k3, k4, k5, k6, k7, k8, k9, k10]
def interned : List (Array UInt16 × Addr) := []
def slotsUsed : Nat := 0
def theMethod : MethodId := ⟨1, 7⟩
def args0 : Array Value := #[.int 5, .int 3, .int 7, .int 2, .int 9, .int 11]
def aboutOver (below : List Frame) : State where
  vm := { classes := classes, interned := interned.toArray }
  heap := heap
  slotsUsed := slotsUsed
  threads := #[{ frames := .invoking theMethod args0 :: below }]
def below0 : List Frame := [.native { method := ⟨0, 0⟩, args := #[] }]
def about1 : State := aboutOver below0
def p0 : Program := .bare "" "" ""
def e0 : Env := launch0.env 0 0 0
theorem w_frames : about1.frames = Frame.invoking theMethod args0 :: below0 := rfl
set_option maxRecDepth 65536 in
theorem w_args : argsFit about1.vm theMethod args0 = true := by decide +kernel
set_option maxRecDepth 65536 in
theorem w_heap : heapFits about1 = true := by decide +kernel
set_option maxRecDepth 65536 in
theorem w_runnable : about1.curStatus? = some .runnable := by decide +kernel
set_option maxRecDepth 65536 in
theorem w_alone : about1.alone = true := by decide +kernel
set_option maxRecDepth 65536 in
theorem w_named : about1.methodNamed? x = some theMethod := by decide +kernel
set_option maxRecDepth 65536 in
theorem w_hears : about1.hears theMethod below0 = true := by decide +kernel
set_option maxRecDepth 65536 in
theorem w_ripe : about1.ripe theMethod args0 below0 = true := by decide +kernel
theorem w_running : about1.status = .running := rfl
set_option maxRecDepth 65536 in
theorem w_room : about1.hasRoom e0.platform room_1 = true :=
  launch0.hasRoom_least _ room_1 (by decide +kernel) (by decide +kernel) (by decide +kernel) (by decide +kernel) (by decide +kernel) (by decide +kernel)
theorem allAtoms_all (ts : List Jvm.Cond) (a : Array Jvm.Value) (st : Jvm.State) : (allAtoms ts).before a st = ts.all (fun c => c.before a st) := by
  induction ts with
  | nil => rfl
  | cons c t ih =>
    show (Jvm.Cond.and c (allAtoms t)).before a st = _
    rw [Jvm.Cond.before_and, ih, List.all_cons]
def words1 : List Jvm.Cond := Jvm.Cond.code x code maxLocals ret :: tables_1
/-- a 'code' word, met by the world's own term for the bytes: nothing is compared byte by byte -/
theorem code_word {y : MethodName} {bytes : ByteArray} {mx : Nat} {rt : Option FieldType} {a : Array Value} {s : State} {m : MethodId} {meth : Method} {c : Code} (h1 : s.methodNamed? y = some m) (h2 : s.vm.method? m = some meth) (h3 : meth.code = some c) (h4 : c.code = bytes)
    (h5 : (c.maxLocals == mx && c.exceptionTable.isEmpty && decide (c.maxStack ≤ mostOperands) && decide (meth.sig.returnType = rt) && !meth.locks && decide (parseMethodDescriptor y.desc = some meth.sig)) = true) : (Jvm.Cond.code y bytes mx rt).before a s = true := by
  simp only [Bool.and_eq_true, beq_iff_eq, Bool.not_eq_true', decide_eq_true_eq] at h5
  obtain ⟨⟨⟨⟨⟨g1, g2⟩, g3⟩, g4⟩, g5⟩, g6⟩ := h5
  simp [Cond.before, Cond.holds, Cond.value, h1, h2, h3, h4, g1, g2, g3, g4, g5, g6]
def isCode : Jvm.Cond → Bool
  | .code _ _ _ _ => true
  | _ => false
theorem all_split {L : List Jvm.Cond} {P : Jvm.Cond → Bool} (h1 : L.all (fun c => isCode c || P c) = true) (h2 : ∀ c ∈ L.filter isCode, P c = true) : L.all P = true := by
  refine List.all_eq_true.mpr fun c hc => ?_
  have h := List.all_eq_true.mp h1 c hc
  rcases Bool.eq_false_or_eq_true (isCode c) with hi | hi
  · exact h2 c (List.mem_filter.mpr ⟨hc, hi⟩)
  · simpa [hi] using h
set_option maxRecDepth 65536 in
theorem w_c0 : (Jvm.Cond.code x code maxLocals ret).before args0 about1 = true := code_word (m := ⟨1, 7⟩) (meth := k1m7) (c := k1c7) (by decide +kernel) rfl rfl rfl (by decide +kernel)
set_option maxRecDepth 65536 in
theorem w_c1 : (Jvm.Cond.code ({ cls := "com/example/davka/davka/checks/LetterCodesNumberPinLaw", name := "ch", desc := "(I)C" } : Jvm.MethodName) method_2_code (1 : Nat) (Option.some Jvm.ClassFile.FieldType.char)).before args0 about1 = true := code_word (m := ⟨1, 1⟩) (meth := k1m1) (c := k1c1) (by decide +kernel) rfl rfl rfl (by decide +kernel)
set_option maxRecDepth 65536 in
theorem w_c2 : (Jvm.Cond.code ({ cls := "com/example/davka/davka/checks/LetterCodesNumberPinLaw", name := "badAt", desc := "([CIII)Z" } : Jvm.MethodName) method_7_code (4 : Nat) (Option.some Jvm.ClassFile.FieldType.boolean)).before args0 about1 = true := code_word (m := ⟨1, 6⟩) (meth := k1m6) (c := k1c6) (by decide +kernel) rfl rfl rfl (by decide +kernel)
set_option maxRecDepth 65536 in
theorem w_c3 : (Jvm.Cond.code ({ cls := "com/example/davka/davka/checks/LetterCodesNumberPinLaw", name := "inSlice", desc := "(III)Z" } : Jvm.MethodName) method_4_code (3 : Nat) (Option.some Jvm.ClassFile.FieldType.boolean)).before args0 about1 = true := code_word (m := ⟨1, 3⟩) (meth := k1m3) (c := k1c3) (by decide +kernel) rfl rfl rfl (by decide +kernel)
set_option maxRecDepth 65536 in
theorem w_c4 : (Jvm.Cond.code ({ cls := "com/example/davka/davka/checks/LetterCodesNumberPinLaw", name := "isCap", desc := "(C)Z" } : Jvm.MethodName) method_3_code (1 : Nat) (Option.some Jvm.ClassFile.FieldType.boolean)).before args0 about1 = true := code_word (m := ⟨1, 2⟩) (meth := k1m2) (c := k1c2) (by decide +kernel) rfl rfl rfl (by decide +kernel)
set_option maxRecDepth 65536 in
theorem w_c5 : (Jvm.Cond.code ({ cls := "com/example/davka/davka/checks/LetterCodesNumberPinLaw", name := "term", desc := "([CIII)I" } : Jvm.MethodName) method_6_code (4 : Nat) (Option.some Jvm.ClassFile.FieldType.int)).before args0 about1 = true := code_word (m := ⟨1, 5⟩) (meth := k1m5) (c := k1c5) (by decide +kernel) rfl rfl rfl (by decide +kernel)
set_option maxRecDepth 65536 in
theorem w_c6 : (Jvm.Cond.code ({ cls := "com/example/davka/davka/checks/LetterCodesNumberPinLaw", name := "weight", desc := "(II)I" } : Jvm.MethodName) method_5_code (3 : Nat) (Option.some Jvm.ClassFile.FieldType.int)).before args0 about1 = true := code_word (m := ⟨1, 4⟩) (meth := k1m4) (c := k1c4) (by decide +kernel) rfl rfl rfl (by decide +kernel)
set_option maxRecDepth 65536 in
theorem w_c7 : (Jvm.Cond.code ({ cls := "com/example/davka/davka/checks/LetterCodes", name := "number", desc := "([CII)I" } : Jvm.MethodName) prog_47_method_3_code (5 : Nat) (Option.some Jvm.ClassFile.FieldType.int)).before args0 about1 = true := code_word (m := ⟨2, 1⟩) (meth := k2m1) (c := k2c1) (by decide +kernel) rfl rfl rfl (by decide +kernel)
def codes1 : List Jvm.Cond := [Jvm.Cond.code x code maxLocals ret, Jvm.Cond.code ({ cls := "com/example/davka/davka/checks/LetterCodesNumberPinLaw", name := "ch", desc := "(I)C" } : Jvm.MethodName) method_2_code (1 : Nat) (Option.some Jvm.ClassFile.FieldType.char), Jvm.Cond.code ({ cls := "com/example/davka/davka/checks/LetterCodesNumberPinLaw", name := "badAt", desc := "([CIII)Z" } : Jvm.MethodName) method_7_code (4 : Nat) (Option.some Jvm.ClassFile.FieldType.boolean), Jvm.Cond.code ({ cls := "com/example/davka/davka/checks/LetterCodesNumberPinLaw", name := "inSlice", desc := "(III)Z" } : Jvm.MethodName) method_4_code (3 : Nat) (Option.some Jvm.ClassFile.FieldType.boolean), Jvm.Cond.code ({ cls := "com/example/davka/davka/checks/LetterCodesNumberPinLaw", name := "isCap", desc := "(C)Z" } : Jvm.MethodName) method_3_code (1 : Nat) (Option.some Jvm.ClassFile.FieldType.boolean), Jvm.Cond.code ({ cls := "com/example/davka/davka/checks/LetterCodesNumberPinLaw", name := "term", desc := "([CIII)I" } : Jvm.MethodName) method_6_code (4 : Nat) (Option.some Jvm.ClassFile.FieldType.int), Jvm.Cond.code ({ cls := "com/example/davka/davka/checks/LetterCodesNumberPinLaw", name := "weight", desc := "(II)I" } : Jvm.MethodName) method_5_code (3 : Nat) (Option.some Jvm.ClassFile.FieldType.int), Jvm.Cond.code ({ cls := "com/example/davka/davka/checks/LetterCodes", name := "number", desc := "([CII)I" } : Jvm.MethodName) prog_47_method_3_code (5 : Nat) (Option.some Jvm.ClassFile.FieldType.int)]
set_option maxRecDepth 65536 in
theorem codes_eq : words1.filter isCode = codes1 := rfl
theorem w_codes : ∀ c ∈ words1.filter isCode, c.before args0 about1 = true := by
  rw [codes_eq]
  intro c hc
  simp only [codes1, List.mem_cons, List.not_mem_nil, or_false] at hc
  rcases hc with rfl | rfl | rfl | rfl | rfl | rfl | rfl | rfl
  · exact w_c0
  · exact w_c1
  · exact w_c2
  · exact w_c3
  · exact w_c4
  · exact w_c5
  · exact w_c6
  · exact w_c7
set_option maxRecDepth 65536 in
theorem w_t1 : (words1.take 24).all (fun c => isCode c || c.before args0 about1) = true := by decide +kernel
set_option maxRecDepth 65536 in
theorem w_t2 : (words1.drop 24).all (fun c => isCode c || c.before args0 about1) = true := by decide +kernel
theorem w_tables : (allAtoms (Jvm.Cond.code x code maxLocals ret :: tables_1)).before args0 about1 = true := by
  rw [allAtoms_all]
  show words1.all (fun c => c.before args0 about1) = true
  refine all_split ?_ w_codes
  rw [← List.take_append_drop 24 words1, List.all_append, w_t1, w_t2]
  rfl
set_option maxRecDepth 65536 in
theorem w_case : (Jvm.Cond.and given_1 narrow_1).before args0 about1 = true := by decide +kernel
theorem w_applies : (headSpec (Jvm.Cond.code x code maxLocals ret :: tables_1) room_1).applies x e0.platform about1 = true :=
  (Spec.applies_iff w_frames).mpr ⟨w_running, w_runnable, w_alone, w_named, w_hears, w_ripe, w_room, w_tables⟩
theorem atStart : AtStart classFile x code maxLocals ret World_1 tables_1 room_1 Calls_1 rest_1 Pre_1 launch0 p0 e0 about1 theMethod args0 below0 :=
  ⟨lists_1, trivial, launch0.admits_env _ _ _, launch0.least_env, fairChoices_fair.cas, fairChoices_fair.clock, w_frames, w_args, w_heap, w_applies, trivial, trivial, w_case⟩
end start1
theorem witness_1 : WitnessClaimed_1 := ⟨start1.p0, start1.e0, start1.about1, start1.theMethod, start1.args0, start1.below0, start1.atStart⟩
end Jvm.Pilot.@@N@@
