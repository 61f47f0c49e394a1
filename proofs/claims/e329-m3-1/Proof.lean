import JvmDerived
import JvmDerived.Pilot.@@N@@Statement
import JvmDerived.Pilot.@@N@@Code
set_option linter.unusedVariables false
set_option linter.unusedSimpArgs false
@@BLOCK:NumsL.lean.txt@@
@@BLOCK:Masks.lean.txt@@
namespace Jvm.RoadKit
open Sem ClassFile Op Lib Jvm.Stand Jvm.Free Jvm.LawKit
section New
variable {p : Program} {l : Launch} {e : Env} {R : Room} {s : State} {m : MethodId} {args : Array Value} {below : List Frame} {meth : Method} {c : Code} {T : State} {locs : List Loc} {cells slots : Nat}
theorem retI (X : Stand p l e R s m args below meth c T locs cells slots) (hx : p.tables.exec = Jvm.exec) {pc : Nat} {Ls : Array Slot} {z : Int32} {rest : List Value} (hret : meth.sig.returnType = some .int) (hd : decode c.code pc = .ok (.ireturn, 1)) {fs : List Frame}
    (hl : ∀ (f : JFrame) (acts : List Action), f.method = m → f.locked = none → f.entered = [] → (doReturn e (T.setTop f) acts (some (.int z))).1 = T.setFrames fs) : Steps p.tables e below (T.setTop (mkF m pc Ls (.int z :: rest))) (T.setFrames fs) := by
  have hm' : T.vm.method? m = some meth := X.method'
  have hn : narrow .int (.int z) = .int z := rfl
  show Steps p.tables e below (T.setTop { method := m, pc := pc, locals := Ls, stack := _ :: rest, locked := none }) _
  jvm_step X.here [X.here.top, hx, hd, hm', hret, hn]
  first | (intro acts; rw [hl _ acts rfl rfl rfl]) | rw [hl _ _ rfl rfl rfl]
  exact Steps.refl _
theorem own_retA (X : Stand p l e R s m args below meth c T locs cells slots) (hx : p.tables.exec = Jvm.exec) {pc : Nat} {Ls : Array Slot} {z : Value} {t : FieldType} {rest : List Value} (hret : meth.sig.returnType = some t) (ht : t.isReference = true) (hz : z.isRef = true) (hd : decode c.code pc = .ok (.areturn, 1)) {fs : List Frame}
    (hl : ∀ (f : JFrame) (acts : List Action), f.method = m → f.locked = none → f.entered = [] → (doReturn e (T.setTop f) acts (some z)).1 = T.setFrames fs) : Steps p.tables e below (T.setTop (mkF m pc Ls (z :: rest))) (T.setFrames fs) := by
  have hm' : T.vm.method? m = some meth := X.method'
  show Steps p.tables e below (T.setTop { method := m, pc := pc, locals := Ls, stack := z :: rest, locked := none }) _
  rcases ref_cases hz with rfl | ⟨a, rfl⟩ <;>
  · jvm_step X.here [X.here.top, hx, hd, hm', hret, ht, Value.isRef]
    first | (intro acts; rw [hl _ acts rfl rfl rfl]) | rw [hl _ _ rfl rfl rfl]
    exact Steps.refl _
end New
end Jvm.RoadKit
namespace Jvm.Pilot.@@N@@
open Jvm Jvm.ClassFile Sem Op Lib Jvm.Free Jvm.Stand Jvm.LawKit Jvm.RoadKit Bundle Jvm.Pilot.@@N@@.Jvm.D
section OwnKit
variable {p : Program} {l : Launch} {e : Env} {R : Room} {s : State} {m : MethodId} {args : Array Value} {below : List Frame} {meth : Method} {c : Code} {T : State} {locs : List Loc} {cells slots : Nat} {Z : State} {a0 : Array Value} {h : Heap}
/-- from the state S the run comes to an end of which Post holds -/
def own_G (tb : Tables) (e : Env) (below : List Frame) (Post : Outcome → State → Prop) (S : State) : Prop := ∃ s₂ o, Steps tb e below S s₂ ∧ s₂.status = .running ∧ Ended s₂ below o ∧ Post o s₂
theorem own_go {tb : Tables} {Post : Outcome → State → Prop} {S S' : State} (k : ∀ t, Steps tb e below S' t → Steps tb e below S t) (h : own_G tb e below Post S') : own_G tb e below Post S := by
  obtain ⟨a, b, st, d⟩ := h
  exact ⟨a, b, k _ st, d⟩
theorem own_join {tb : Tables} {Post : Outcome → State → Prop} {S S' : State} (k : own_G tb e below Post S' → own_G tb e below Post S) (h : own_G tb e below Post S') : own_G tb e below Post S := k h
theorem own_refc {v : Value} (h : v.isRef = true) : v = .null ∨ ∃ a, v = .ref a := by cases v <;> simp [Value.isRef] at h ⊢
theorem own_cat {v : Value} (h : v.isRef = true) : v.category = 1 := by rcases own_refc h with rfl | ⟨a, rfl⟩ <;> rfl
theorem own_w1 {v : Value} (h : v.isRef = true) : 2 * 0 + (([v] : List Value).map fun v => v.category).sum ≤ 1 := by simp only [List.map_cons, List.map_nil, List.sum_cons, List.sum_nil, own_cat h]; decide
theorem own_end (X : Stand p l e R s m args below meth c T locs cells slots) (hlocks : meth.locks = false) {v : Option Value} (hv : meth.sig.returnType = none → v = none) {S : State} {Q : Option Value → Heap → List Loc → Prop} {rc rs : Nat} (hQ : Q v T.heap locs)
    (st : ∀ fs, (∀ (f : JFrame) (acts : List Action), f.method = m → f.locked = none → f.entered = [] → (doReturn e (T.setTop f) acts v).1 = T.setFrames fs) → Steps p.tables e below S (T.setFrames fs)) (hc : cells ≤ rc) (hs : slots ≤ rs) :
    own_G p.tables e below (fun o U' => ∃ v L, o = .returned v ∧ Q v U'.heap L ∧ FrameEnd s o U' L rc rs) S := by
  obtain ⟨fs, hr, hrun, hended, hW, hsame⟩ := X.leave (v := v) hv hlocks
  exact ⟨_, _, st fs hr, hrun, hended, _, _, rfl, hQ, ⟨_, rfl⟩, hW, hsame.mono hc hs⟩
theorem own_endW {vm₁ : Vm} (X : Stand p l e R (s.setVm vm₁) m args below meth c T locs cells slots) (hlocks : meth.locks = false) {n : Nat} (hS : s.Since vm₁ n) (hn : n ≤ T.heap.size) {v : Option Value} (hv : meth.sig.returnType = none → v = none) {S : State} {Q : Option Value → Heap → List Loc → Prop} {rc rs : Nat} (hQ : Q v T.heap locs)
    (st : ∀ fs, (∀ (f : JFrame) (acts : List Action), f.method = m → f.locked = none → f.entered = [] → (doReturn e (T.setTop f) acts v).1 = T.setFrames fs) → Steps p.tables e below S (T.setFrames fs)) (hc : cells ≤ rc) (hs : slots ≤ rs) :
    own_G p.tables e below (fun o U' => ∃ v L, o = .returned v ∧ Q v U'.heap L ∧ ReturnedEndW s o U' L rc rs) S := by
  obtain ⟨fs, hr, hrun, hended, h1, h2, h3, h4⟩ := X.leaveW hS hn (v := v) hv hlocks
  exact ⟨_, _, st fs hr, hrun, hended, _, _, rfl, hQ, h1, h2, h3, h4.mono hc hs⟩
theorem own_fit {v : Value} {C : String} (h : v.isRef = true) : fits (.object C) v = true := by rcases own_refc h with rfl | ⟨a, rfl⟩ <;> rfl
/-- a pure body's answer: it returns r, writes nothing, makes nothing -/
def QP (r : Option Value) (h0 : Heap) (v : Option Value) (h : Heap) (L : List Loc) : Prop := v = r ∧ L = [] ∧ h = h0
/-- the law's answer: it returns r, writes nothing old -/
def QL (r : Option Value) (n0 : Nat) (v : Option Value) (h : Heap) (L : List Loc) : Prop := v = r ∧ Fr n0 L
theorem own_staKeep {h' : Heap} {C n d : String} {v : Value} {ws : List Addr} (F : Sta Z h C n d v) (K : Keep h h' ws) (q : ∀ x ∈ ws, ∃ cell : Cell, h[x]? = some cell ∧ cell.vm.isStatics = false) : Sta Z h' C n d v := by
  obtain ⟨cf, i, k, f, st, cell, h1, h2, h3, h4, h5, h6, h7⟩ := F
  refine ⟨cf, i, k, f, st, cell, h1, h2, h3, h4, K.2.1 st cell h5 (fun z => ?_), h6, h7⟩
  obtain ⟨c', e1, e2⟩ := q st z
  cases e1.symm.trans h5
  rw [e2] at h6; cases h6
theorem own_mvSame {ref owner name desc : String} (hZ : Z.Warmed39 s.vm) (hmh : ref ≠ "java/lang/invoke/MethodHandle" ∧ ref ≠ "java/lang/invoke/VarHandle") (w : (Jvm.Cond.sameMethod ref owner name desc).before a0 Z = true) : (Jvm.Cond.sameMethod ref owner name desc).before args s = true := by
  have h1 : (Jvm.Cond.sameMethod ref owner name desc).before a0 (Z.setVm s.vm) = true := Cond.sameMethod_setVm hZ.alike hmh w
  exact h1
theorem own_callP (X : Stand p l e R s m args below meth c T locs cells slots) (hx : p.tables.exec = Jvm.exec) (hZ : Z.Warmed39 s.vm) {own : String} {index : Nat} {y : MethodName} {bytes : ByteArray} {maxL : Nat} {ret : Option FieldType} {rm : Room} {r : Option Value} {as' : Array Value}
    (hown : s.vm.findClass own = some m.cls) (w1 : (Jvm.Cond.methodLink own index y).before a0 Z = true) (w2 : (Jvm.Cond.static y).before a0 Z = true) (w3 : (Jvm.Cond.initialized y.cls).before a0 Z = true) (w4 : (Jvm.Cond.code y bytes maxL ret).before a0 Z = true)
    (hy : y.cls ≠ "java/lang/invoke/MethodHandle" ∧ y.cls ≠ "java/lang/invoke/VarHandle") {W : Nat}
    (hM : MetFree l y (head1 [Jvm.Cond.code y bytes maxL ret] rm) (fun a U => a = as' ∧ Z.Warmed39 U.vm ∧ U.heap = h) (fun _ _ _ _ _ => True) (fun _ U o U' => ∃ v L, o = .returned v ∧ QP r h v U'.heap L ∧ FrameEnd U o U' L rm.cells rm.slots))
    (hf : rm.frames + 1 ≤ R.frames) (hl : W + (maxL + 11) + rm.locals ≤ R.locals) (hc : rm.cells = 0) (hs0 : rm.slots = 0) (eT : T.heap = h)
    {g : JFrame} (hg : g.method = m) (hsize : g.locals.size = c.maxLocals) {argsL rest : List Value} (hlen : ∀ sig, parseMethodDescriptor y.desc = some sig → argsL.length = sig.parameters.length) (hstack : g.stack = argsL.reverse ++ rest) (ha : argsL.toArray = as')
    (hW : 2 * g.monitorRoom + (rest.map fun v => v.category).sum ≤ W) (hd : decode c.code g.pc = .ok (.invokestatic index, 3)) (hcr : cells ≤ R.cells) (hsr : slots ≤ R.slots) :
    ∃ T', Stand p l e R s m args below meth c T' locs cells slots ∧ T'.heap = h ∧ ∀ target, Steps p.tables e below (T'.setTop { g with pc := g.pc + 3, stack := r.toList ++ rest }) target → Steps p.tables e below (T.setTop g) target := by
  obtain ⟨_, _, ⟨T1, L1, k1, n1⟩, -, X1, ⟨Lc, hQ, l1, y1, z1⟩, st⟩ := Jvm.LawKit.callS X hx hown (mvT hZ w1) (mvT hZ w2) (mvT hZ w3) (mvT hZ w4) hy (backOf (W := W) hM hZ w4 w3 hf hl) hg hsize hlen hstack hW hd (fun _ _ => ⟨ha, eT, by rw [hc]; exact hcr, by rw [hs0]; exact hsr⟩)
  dsimp only [Pt.U, Pt.locs, Pt.cells, Pt.slots] at X1 l1 y1 z1 st hQ
  obtain ⟨rfl, rfl, e1⟩ := hQ
  rw [List.append_nil] at l1
  rw [hc] at y1
  rw [hs0] at z1
  subst l1 y1 z1
  exact ⟨T1, X1, e1, st⟩
theorem own_callV (X : Stand p l e R s m args below meth c T locs cells slots) (hx : p.tables.exec = Jvm.exec) (hZ : Z.Warmed39 s.vm) {own C : String} {index : Nat} {y : MethodName} {bytes : ByteArray} {maxL : Nat} {ret : Option FieldType} {rm : Room} {r : Option Value} {as' : Array Value} {a : Addr}
    (hown : s.vm.findClass own = some m.cls) (w1 : (Jvm.Cond.methodLink own index y).before a0 Z = true) (w2 : (Jvm.Cond.declares y).before a0 Z = true) (w3 : (Jvm.Cond.selects C y y).before a0 Z = true) (w4 : (Jvm.Cond.instanceMethod y).before a0 Z = true) (w5 : (Jvm.Cond.initialized y.cls).before a0 Z = true) (w6 : (Jvm.Cond.code y bytes maxL ret).before a0 Z = true)
    (hy : y.cls ≠ "java/lang/invoke/MethodHandle" ∧ y.cls ≠ "java/lang/invoke/VarHandle") {W : Nat}
    (hM : MetFree l y (head1 [Jvm.Cond.code y bytes maxL ret] rm) (fun a U => a = as' ∧ Z.Warmed39 U.vm ∧ U.heap = h) (fun _ _ _ _ _ => True) (fun _ U o U' => ∃ v L, o = .returned v ∧ QP r h v U'.heap L ∧ FrameEnd U o U' L rm.cells rm.slots))
    (hf : rm.frames + 1 ≤ R.frames) (hl : W + (maxL + 11) + rm.locals ≤ R.locals) (hc : rm.cells = 0) (hs0 : rm.slots = 0) (eT : T.heap = h) (Ex : Exa Z h a C)
    {g : JFrame} (hg : g.method = m) (hsize : g.locals.size = c.maxLocals) {argsL rest : List Value} (hlen : ∀ sig, parseMethodDescriptor y.desc = some sig → argsL.length = sig.parameters.length) (hstack : g.stack = argsL.reverse ++ .ref a :: rest) (ha : (.ref a :: argsL).toArray = as')
    (hW : 2 * g.monitorRoom + (rest.map fun v => v.category).sum ≤ W) (hd : decode c.code g.pc = .ok (.invokevirtual index, 3)) (hcr : cells ≤ R.cells) (hsr : slots ≤ R.slots) :
    ∃ T', Stand p l e R s m args below meth c T' locs cells slots ∧ T'.heap = h ∧ ∀ target, Steps p.tables e below (T'.setTop { g with pc := g.pc + 3, stack := r.toList ++ rest }) target → Steps p.tables e below (T.setTop g) target := by
  obtain ⟨cq, kq, qa, qb, qc⟩ := isOf hZ eT Ex
  obtain ⟨_, _, ⟨T1, L1, k1, n1⟩, -, X1, ⟨Lc, hQ, l1, y1, z1⟩, st⟩ := X.virtualBack hx hown (mvT hZ w1) (mvT hZ w2) (notFace_of_selects (args := #[]) (mvT hZ w3)) (mvT hZ w3) (mvT hZ w4) hy (backOf (W := W) hM hZ w6 w5 hf hl) qa qc hg hsize (Steps.refl _) hlen hstack hW hd (fun _ _ => ⟨ha, eT, by rw [hc]; exact hcr, by rw [hs0]; exact hsr⟩)
  dsimp only [Pt.U, Pt.locs, Pt.cells, Pt.slots] at X1 l1 y1 z1 st hQ
  obtain ⟨rfl, rfl, e1⟩ := hQ
  rw [List.append_nil] at l1
  rw [hc] at y1
  rw [hs0] at z1
  subst l1 y1 z1
  exact ⟨T1, X1, e1, fun target k => st.trans k⟩
theorem own_callI (X : Stand p l e R s m args below meth c T locs cells slots) (hx : p.tables.exec = Jvm.exec) (hZ : Z.Warmed39 s.vm) {own : String} {index : Nat} {y : MethodName} (hy1 : y.name = "<init>") {bytes : ByteArray} {maxL : Nat} {rm : Room} {as' : Array Value} {a : Addr}
    (hown : s.vm.findClass own = some m.cls) (w1 : (Jvm.Cond.methodLink own index y).before a0 Z = true) (w4 : (Jvm.Cond.instanceMethod y).before a0 Z = true) (w5 : (Jvm.Cond.initialized y.cls).before a0 Z = true) (w6 : (Jvm.Cond.code y bytes maxL none).before a0 Z = true)
    (hy : y.cls ≠ "java/lang/invoke/MethodHandle" ∧ y.cls ≠ "java/lang/invoke/VarHandle") {W : Nat}
    (hM : MetFree l y (head1 [Jvm.Cond.code y bytes maxL none] rm) (fun a U => a = as' ∧ Z.Warmed39 U.vm ∧ U.heap = h) (fun _ _ _ _ _ => True) (fun _ U o U' => ∃ v L, o = .returned v ∧ QP none h v U'.heap L ∧ FrameEnd U o U' L rm.cells rm.slots))
    (hf : rm.frames + 1 ≤ R.frames) (hl : W + (maxL + 11) + rm.locals ≤ R.locals) (hc : rm.cells = 0) (hs0 : rm.slots = 0) (eT : T.heap = h)
    {g : JFrame} (hg : g.method = m) (hsize : g.locals.size = c.maxLocals) {argsL rest : List Value} (hlen : ∀ sig, parseMethodDescriptor y.desc = some sig → argsL.length = sig.parameters.length) (hstack : g.stack = argsL.reverse ++ .ref a :: rest) (ha : (.ref a :: argsL).toArray = as')
    (hW : 2 * g.monitorRoom + (rest.map fun v => v.category).sum ≤ W) (hd : decode c.code g.pc = .ok (.invokespecial index, 3)) (hcr : cells ≤ R.cells) (hsr : slots ≤ R.slots) :
    ∃ T', Stand p l e R s m args below meth c T' locs cells slots ∧ T'.heap = h ∧ ∀ target, Steps p.tables e below (T'.setTop { g with pc := g.pc + 3, stack := rest }) target → Steps p.tables e below (T.setTop g) target := by
  obtain ⟨_, _, ⟨T1, L1, k1, n1⟩, -, X1, ⟨Lc, hQ, l1, y1, z1⟩, st⟩ := X.specialBack hx hy1 hown (mvT hZ w1) (mvT hZ w4) (mvT hZ w6) hy (backOf (W := W) hM hZ w6 w5 hf hl) hg hsize (Steps.refl _) hlen hstack hW hd (fun _ _ => ⟨ha, eT, by rw [hc]; exact hcr, by rw [hs0]; exact hsr⟩)
  dsimp only [Pt.U, Pt.locs, Pt.cells, Pt.slots] at X1 l1 y1 z1 st hQ
  obtain ⟨rfl, rfl, e1⟩ := hQ
  rw [List.append_nil] at l1
  rw [hc] at y1
  rw [hs0] at z1
  subst l1 y1 z1
  exact ⟨T1, X1, e1, fun target k => st.trans k⟩
theorem own_l1 {x y : Int64} (h : x < y) : lcmpW x y < 0 := by rw [lcW]; exact (lc_lt x y).mpr h
theorem own_l2 {x y : Int64} (h : ¬ x < y) : ¬ lcmpW x y < 0 := by rw [lcW]; exact fun q => h ((lc_lt x y).mp q)
theorem own_g1 {x y : Int64} (h : y < x) : 0 < lcmpW x y := by rw [lcW]; exact (lc_gt x y).mpr h
theorem own_g2 {x y : Int64} (h : ¬ y < x) : ¬ 0 < lcmpW x y := by rw [lcW]; exact fun q => h ((lc_gt x y).mp q)
theorem own_e1 {x y : Int64} (h : x = y) : lcmpW x y = 0 := by rw [lcW]; exact (lc_eq x y).mpr h
theorem own_e2 {x y : Int64} (h : ¬ x = y) : ¬ lcmpW x y = 0 := by rw [lcW]; exact fun q => h ((lc_eq x y).mp q)
end OwnKit
theorem own_mod (x m : Int32) (hm : 0 < m.toInt) : 0 ≤ ((x &&& (2147483647 : Int32)) % m).toInt ∧ ((x &&& (2147483647 : Int32)) % m).toInt < m.toInt := by
  have e := Jvm.Kit.i32_mask x 2147483647 (k := 31) (by decide) (by decide)
  have h0 : 0 ≤ (x &&& (2147483647 : Int32)).toInt := by omega
  rw [Jvm.Kit.i32_rem_nonneg h0]
  exact ⟨Int.emod_nonneg _ (by omega), Int.emod_lt_of_pos _ hm⟩
theorem own_ext {x : Int32} {n : Nat} (h : x.toInt = n) (hn : n < 2 ^ 31) : x = Int32.ofNat n := Int32.toInt_inj.mp (by rw [h, Int32.toInt_ofNat_of_lt hn])

def own_n (x : Int32) : Int32 := (x &&& (2147483647 : Int32)) % (4 : Int32)
def own_k (x y : Int32) : Int32 := (y &&& (2147483647 : Int32)) % (own_n x + (1 : Int32))
theorem own_n_b (x : Int32) : 0 ≤ (own_n x).toInt ∧ (own_n x).toInt < 4 := own_mod x 4 (by decide)
theorem own_n1 (x : Int32) : (own_n x + (1 : Int32)).toInt = (own_n x).toInt + 1 := by
  have h := own_n_b x
  rw [Jvm.Kit.i32_add (by rw [show (1 : Int32).toInt = 1 from rfl]; omega) (by rw [show (1 : Int32).toInt = 1 from rfl]; omega)]; rfl
theorem own_nk (x y : Int32) : (own_n x = 0 ∧ own_k x y = 0) ∨ (own_n x = 1 ∧ own_k x y = 0) ∨ (own_n x = 1 ∧ own_k x y = 1) ∨ (own_n x = 2 ∧ own_k x y = 0) ∨ (own_n x = 2 ∧ own_k x y = 1) ∨ (own_n x = 2 ∧ own_k x y = 2) ∨ (own_n x = 3 ∧ own_k x y = 0) ∨ (own_n x = 3 ∧ own_k x y = 1) ∨ (own_n x = 3 ∧ own_k x y = 2) ∨ (own_n x = 3 ∧ own_k x y = 3) := by
  have h := own_n_b x
  have h1 := own_n1 x
  have hk : 0 ≤ (own_k x y).toInt ∧ (own_k x y).toInt < (own_n x).toInt + 1 := by
    have q := own_mod y (own_n x + 1) (by rw [h1]; omega)
    rw [h1] at q
    exact q
  have en : (own_n x).toInt = 0 ∨ (own_n x).toInt = 1 ∨ (own_n x).toInt = 2 ∨ (own_n x).toInt = 3 := by omega
  have ek : (own_k x y).toInt = 0 ∨ (own_k x y).toInt = 1 ∨ (own_k x y).toInt = 2 ∨ (own_k x y).toInt = 3 := by omega
  have lit : ∀ {z : Int32} {n : Nat}, z.toInt = n → n < 4 → z = Int32.ofNat n := fun q r => own_ext q (by omega)
  rcases en with e | e | e | e <;> rcases ek with f | f | f | f <;> first
    | (exfalso; omega)
    | (have e1 := lit (n := _) e (by decide); have f1 := lit (n := _) f (by decide); simp [e1, f1]; done)
theorem own_nz (x : Int32) : own_n x + (1 : Int32) ≠ 0 := fun q => by
  have h := own_n_b x
  have h1 := own_n1 x
  rw [q, show (0 : Int32).toInt = 0 from rfl] at h1; omega
/-- null, or an object of the law's own class -/
def own_Av (Z : State) (h : Heap) (v : Value) : Prop := v = .null ∨ ∃ y, v = .ref y ∧ Exa Z h y "com/example/plainsong/plainsong/engine/CallStackTruncatePinLaw"
theorem own_avr {Z : State} {h : Heap} {v : Value} (A : own_Av Z h v) : v.isRef = true := by rcases A with rfl | ⟨y, rfl, -⟩ <;> rfl
theorem own_avE {Z : State} {h h' : Heap} {v : Value} (A : own_Av Z h v) (E : Ext h h') : own_Av Z h' v := A.imp id fun ⟨y, e, x⟩ => ⟨y, e, x.ext E⟩
theorem own_avW {Z : State} {h h' : Heap} {v w : Value} {a : Addr} {sl : Nat} (A : own_Av Z h v) (W : Wr h h' a sl w) : own_Av Z h' v := A.imp id fun ⟨y, e, x⟩ => ⟨y, e, x.wr W⟩
theorem own_avK {Z : State} {h h' : Heap} {v : Value} {ws : List Addr} (A : own_Av Z h v) (K : Keep h h' ws) : own_Av Z h' v := A.imp id fun ⟨y, e, x⟩ => ⟨y, e, x.keep K⟩
theorem own_sto {Z : State} {a0 : Array Value} {h : Heap} {v : Value} {a : Addr} {k : ClassId} {cl : Cell} {ty : FieldType} {C : String} (wc : (Jvm.Cond.castable "com/example/plainsong/plainsong/engine/CallStackTruncatePinLaw" C).before a0 Z = true) (O : Ovr Z k C) (A : Arr Z h a cl ty) (q : cl.cls = k) (B : own_Av Z h v) : Sto Z h a v := by
  rcases B with rfl | ⟨y, rfl, x⟩
  · exact Or.inl rfl
  · exact Sto.ofV A q O (Ins.of_exa x wc)
theorem own_joinA {p : Program} {l : Launch} {e : Env} {R : Room} {s : State} {m : MethodId} {args : Array Value} {below : List Frame} {meth : Method} {c : Code} {T : State} {locs : List Loc} {cells slots : Nat} {Z : State} {h : Heap} {Post : Outcome → State → Prop} {S : State}
    (X : Stand p l e R s m args below meth c T locs cells slots) (eT : T.heap = h) (g : Value → JFrame)
    (k : (∀ T' h' v, Stand p l e R s m args below meth c T' locs (cells + 1) slots → T'.heap = h' → Ext h h' → own_Av Z h' v → own_G p.tables e below Post (T'.setTop (g v))) → own_G p.tables e below Post S)
    (hj : ∀ T' h' v, Stand p l e R s m args below meth c T' locs (cells + 1) slots → T'.heap = h' → Ext h h' → own_Av Z h' v → own_G p.tables e below Post (T'.setTop (g v))) : own_G p.tables e below Post S := k hj

theorem d1_0 : decode method_1_code 0 = .ok (.aload_n 0, 1) := by decide +kernel
theorem d1_1 : decode method_1_code 1 = .ok (.invokespecial 1, 3) := by decide +kernel
theorem d1_4 : decode method_1_code 4 = .ok (.return_, 1) := by decide +kernel
theorem own_pn0 : plainName "com/example/plainsong/plainsong/engine/CallStackTruncatePinLaw" = true := by first | (simp [plainName, overriddenIn]; done) | decide +kernel
theorem ef_1_R (m : MethodId) (x0 : Addr) : entryFrame m #[(.ref x0)] 1 = mkF m 0 #[.val (.ref x0)] [] := by
  first | (simp [entryFrame, mkF, argsToLocals, Value.category]; done) | rfl
set_option maxRecDepth 65536 in
set_option maxHeartbeats 40000000 in
theorem rm1 (l : Launch) (Z : State) (a0 : Array Value) (hw : ∀ d ∈ tables_1, d.before a0 Z = true) (ws : List Jvm.Cond) (x0 : Addr)  (h0 : Heap)  :
    MetFree l (⟨"com/example/plainsong/plainsong/engine/CallStackTruncatePinLaw", "<init>", "()V"⟩ : MethodName) (head1 (Jvm.Cond.code (⟨"com/example/plainsong/plainsong/engine/CallStackTruncatePinLaw", "<init>", "()V"⟩ : MethodName) method_1_code 1 none :: ws) ({ frames := 1, cells := 0, slots := 0, locals := 12 } : Room)) (fun a U => a = #[(.ref x0)] ∧ Z.Warmed39 U.vm ∧ U.heap = h0) (fun _ _ _ _ _ => True) (fun _ U o U' => ∃ v L, o = .returned v ∧ QP (none) h0 v U'.heap L ∧ FrameEnd U o U' L ({ frames := 1, cells := 0, slots := 0, locals := 12 } : Room).cells ({ frames := 1, cells := 0, slots := 0, locals := 12 } : Room).slots) := by
  refine MetFree.of_bodySF (plainFor_of_name own_pn0) hisR ?_
  intro p e s m args below meth c s₁ Bd hml0 hP hK
  obtain ⟨rfl, hZ, hh⟩ := hP
  have hx := Bd.exec
  have hby := Bd.bytes
  have hml : c.maxLocals = 1 := hml0
  have hown : s.vm.findClass "com/example/plainsong/plainsong/engine/CallStackTruncatePinLaw" = some m.cls := findClass_of_methodNamed Bd.named
  have hnm := (name_of_methodNamed Bd.named Bd.method).1
  have X0 : Stand p l e ({ frames := 1, cells := 0, slots := 0, locals := 12 } : Room) s m #[(.ref x0)] below meth c s₁ [] 0 0 := Stand.of_body Bd
  have e0 : s₁.heap = h0 := by rw [← hh, Bd.state]; rfl
  show own_G p.tables e below (fun o U' => ∃ v L, o = .returned v ∧ QP (none) h0 v U'.heap L ∧ FrameEnd s o U' L ({ frames := 1, cells := 0, slots := 0, locals := 12 } : Room).cells ({ frames := 1, cells := 0, slots := 0, locals := 12 } : Room).slots) (s₁.setTop (entryFrame m #[(.ref x0)] 1))
  refine own_go (fun _ k => castTop (ef_1_R m x0) k) ?_
  show own_G p.tables e below _ (s₁.setTop (mkF m 0 #[.val (.ref x0)] []))
  refine own_go (fun _ k => XS.aloadN X0.here hx rfl (hb hby d1_0) rfl rfl k) ?_
  show own_G p.tables e below _ (s₁.setTop (mkF m 1 #[.val (.ref x0)] [(.ref x0)]))
  obtain ⟨T1, X1, e1, st1⟩ := initO X0 hx hZ hown (hw _ (List.mem_of_getElem? (i := 7) rfl)) (hw _ (List.mem_of_getElem? (i := 8) rfl)) (hw _ (List.mem_of_getElem? (i := 9) rfl)) e0 (g := (mkF m 1 #[.val (.ref x0)] [(.ref x0)])) rfl (by rw [hml]; rfl) rfl (hb hby d1_1) (by decide) (W := 0) (by show 2 * 0 + _ ≤ _; exact Nat.le_of_eq rfl) (by decide)
  refine own_go st1 ?_
  show own_G p.tables e below _ (T1.setTop (mkF m 4 #[.val (.ref x0)] []))
  exact own_end X1 Bd.notSynchronized (v := none) (fun _ => rfl) (Q := QP (none) h0) ⟨rfl, rfl, e1⟩ (fun fs hr => X1.returnOut hx Bd.returns (hb hby d1_4) hr) (by decide) (by decide)
def Q_rm4 (Z : State) (x0 : Addr) (em : Addr) (h0 : Heap) (n0 : Nat) (v : Option Value) (h : Heap) (L : List Loc) : Prop := v = none ∧ Fr n0 L ∧ Keep h0 h [x0] ∧ Exa Z h x0 "com/example/plainsong/plainsong/engine/Table"
theorem d4_0 : decode prog_61_method_1_code 0 = .ok (.aload_n 0, 1) := by decide +kernel
theorem d4_1 : decode prog_61_method_1_code 1 = .ok (.invokespecial 3, 3) := by decide +kernel
theorem d4_4 : decode prog_61_method_1_code 4 = .ok (.aload_n 0, 1) := by decide +kernel
theorem d4_5 : decode prog_61_method_1_code 5 = .ok (.getstatic 9, 3) := by decide +kernel
theorem d4_8 : decode prog_61_method_1_code 8 = .ok (.putfield 15, 3) := by decide +kernel
theorem d4_11 : decode prog_61_method_1_code 11 = .ok (.return_, 1) := by decide +kernel
theorem own_pn1 : plainName "com/example/plainsong/plainsong/engine/Table" = true := by first | (simp [plainName, overriddenIn]; done) | decide +kernel
theorem ef_4_R (m : MethodId) (x0 : Addr) : entryFrame m #[(.ref x0)] 1 = mkF m 0 #[.val (.ref x0)] [] := by
  first | (simp [entryFrame, mkF, argsToLocals, Value.category]; done) | rfl
set_option maxRecDepth 65536 in
set_option maxHeartbeats 40000000 in
theorem rm4 (l : Launch) (Z : State) (a0 : Array Value) (hw : ∀ d ∈ tables_1, d.before a0 Z = true) (ws : List Jvm.Cond) (x0 : Addr) (em : Addr) (h0 : Heap) (n0 : Nat) (Z0 : n0 ≤ h0.size) (p0_ : Exa Z h0 x0 "com/example/plainsong/plainsong/engine/Table") (p1_ : n0 ≤ x0) (p2_ : Fld Z h0 x0 "com/example/plainsong/plainsong/engine/Table" "array" "[Ljava/lang/Object;" .null) (p3_ : Sta Z h0 "com/example/plainsong/plainsong/engine/Table" "EMPTY" "[Ljava/lang/Object;" (.ref em))  :
    MetFree l (⟨"com/example/plainsong/plainsong/engine/Table", "<init>", "()V"⟩ : MethodName) (head1 (Jvm.Cond.code (⟨"com/example/plainsong/plainsong/engine/Table", "<init>", "()V"⟩ : MethodName) prog_61_method_1_code 1 none :: ws) ({ frames := 1, cells := 0, slots := 0, locals := 12 } : Room)) (fun a U => a = #[(.ref x0)] ∧ Z.Warmed39 U.vm ∧ U.heap = h0) (fun _ _ _ _ _ => True) (fun _ U o U' => ∃ v L, o = .returned v ∧ Q_rm4 Z x0 em h0 n0 v U'.heap L ∧ FrameEnd U o U' L ({ frames := 1, cells := 0, slots := 0, locals := 12 } : Room).cells ({ frames := 1, cells := 0, slots := 0, locals := 12 } : Room).slots) := by
  refine MetFree.of_bodySF (plainFor_of_name own_pn1) hisR ?_
  intro p e s m args below meth c s₁ Bd hml0 hP hK
  obtain ⟨rfl, hZ, hh⟩ := hP
  have hx := Bd.exec
  have hby := Bd.bytes
  have hml : c.maxLocals = 1 := hml0
  have hown : s.vm.findClass "com/example/plainsong/plainsong/engine/Table" = some m.cls := findClass_of_methodNamed Bd.named
  have hnm := (name_of_methodNamed Bd.named Bd.method).1
  have X0 : Stand p l e ({ frames := 1, cells := 0, slots := 0, locals := 12 } : Room) s m #[(.ref x0)] below meth c s₁ [] 0 0 := Stand.of_body Bd
  have e0 : s₁.heap = h0 := by rw [← hh, Bd.state]; rfl
  show own_G p.tables e below (fun o U' => ∃ v L, o = .returned v ∧ Q_rm4 Z x0 em h0 n0 v U'.heap L ∧ FrameEnd s o U' L ({ frames := 1, cells := 0, slots := 0, locals := 12 } : Room).cells ({ frames := 1, cells := 0, slots := 0, locals := 12 } : Room).slots) (s₁.setTop (entryFrame m #[(.ref x0)] 1))
  refine own_go (fun _ k => castTop (ef_4_R m x0) k) ?_
  have N0 := Fr.nil n0
  have KP0 := Keep.refl h0 [x0]
  show own_G p.tables e below _ (s₁.setTop (mkF m 0 #[.val (.ref x0)] []))
  refine own_go (fun _ k => XS.aloadN X0.here hx rfl (hb hby d4_0) rfl rfl k) ?_
  show own_G p.tables e below _ (s₁.setTop (mkF m 1 #[.val (.ref x0)] [(.ref x0)]))
  obtain ⟨T2, X2, e2, st2⟩ := initO X0 hx hZ hown (hw _ (List.mem_of_getElem? (i := 26) rfl)) (hw _ (List.mem_of_getElem? (i := 8) rfl)) (hw _ (List.mem_of_getElem? (i := 9) rfl)) e0 (g := (mkF m 1 #[.val (.ref x0)] [(.ref x0)])) rfl (by rw [hml]; rfl) rfl (hb hby d4_1) (by decide) (W := 0) (by show 2 * 0 + _ ≤ _; exact Nat.le_of_eq rfl) (by decide)
  refine own_go st2 ?_
  show own_G p.tables e below _ (T2.setTop (mkF m 4 #[.val (.ref x0)] []))
  refine own_go (fun _ k => XS.aloadN X2.here hx rfl (hb hby d4_4) rfl rfl k) ?_
  show own_G p.tables e below _ (T2.setTop (mkF m 5 #[.val (.ref x0)] [(.ref x0)]))
  obtain ⟨T3, X3, e3, st3⟩ := getS2 X2 hx hZ hown (host := "") (Or.inl (hw _ (List.mem_of_getElem? (i := 27) rfl))) Via.refl e2 p3_ (g := (mkF m 5 #[.val (.ref x0)] [(.ref x0)])) rfl (hb hby d4_5)
  refine own_go st3 ?_
  show own_G p.tables e below _ (T3.setTop (mkF m 8 #[.val (.ref x0)] [(.ref em), (.ref x0)]))
  obtain ⟨T4, h4, X4, e4, W4, st4⟩ := putF X3 hx hZ hown (host := "") (Or.inl (hw _ (List.mem_of_getElem? (i := 29) rfl))) Via.refl e3 p2_ p0_ (Or.inl (hw _ (List.mem_of_getElem? (i := 30) rfl))) (hw _ (List.mem_of_getElem? (i := 21) rfl)) (ty := (.array (.object "java/lang/Object"))) (by decide) rfl rfl (g := (mkF m 8 #[.val (.ref x0)] [(.ref em), (.ref x0)])) rfl rfl (hb hby d4_8)
  have X_5 := p0_.wr W4
  have S_6 := p3_.wr W4
  have F_7 := p2_.same W4
  have Z_8 : n0 ≤ h4.size := Nat.le_trans Z0 (Nat.le_of_eq W4.size.symm)
  have KP_9 : Keep h0 h4 [x0] := KP0.wr W4 (Or.inl (List.mem_of_getElem? (i := 0) rfl))
  have N_4 := Fr.snoc X4 N0 p1_
  refine own_go st4 ?_
  show own_G p.tables e below _ (T4.setTop (mkF m 11 #[.val (.ref x0)] []))
  exact own_end X4 Bd.notSynchronized (v := none) (fun _ => rfl) (Q := Q_rm4 Z x0 em h0 n0) (by show Q_rm4 Z x0 em h0 n0 (none) T4.heap _; rw [e4]; exact ⟨rfl, N_4, KP_9, X_5⟩) (fun fs hr => X4.returnOut hx Bd.returns (hb hby d4_11) hr) (by decide) (by decide)
def Q_rm3 (Z : State) (x0 : Addr) (em : Addr) (h0 : Heap) (n0 : Nat) (v : Option Value) (h : Heap) (L : List Loc) : Prop := v = none ∧ Fr n0 L ∧ Keep h0 h [x0] ∧ Exa Z h x0 "com/example/plainsong/plainsong/engine/Interpreter"
theorem own_pd0 : parseMethodDescriptor "()V" = some ⟨[], none⟩ := by decide +kernel
theorem d3_0 : decode prog_49_method_1_code 0 = .ok (.aload_n 0, 1) := by decide +kernel
theorem d3_1 : decode prog_49_method_1_code 1 = .ok (.invokespecial 1, 3) := by decide +kernel
theorem d3_4 : decode prog_49_method_1_code 4 = .ok (.aload_n 0, 1) := by decide +kernel
theorem d3_5 : decode prog_49_method_1_code 5 = .ok (.new 7, 3) := by decide +kernel
theorem d3_8 : decode prog_49_method_1_code 8 = .ok (.dup, 1) := by decide +kernel
theorem d3_9 : decode prog_49_method_1_code 9 = .ok (.invokespecial 9, 3) := by decide +kernel
theorem d3_12 : decode prog_49_method_1_code 12 = .ok (.putfield 10, 3) := by decide +kernel
theorem d3_15 : decode prog_49_method_1_code 15 = .ok (.return_, 1) := by decide +kernel
theorem own_pn2 : plainName "com/example/plainsong/plainsong/engine/Interpreter" = true := by first | (simp [plainName, overriddenIn]; done) | decide +kernel
theorem ef_3_R (m : MethodId) (x0 : Addr) : entryFrame m #[(.ref x0)] 1 = mkF m 0 #[.val (.ref x0)] [] := by
  first | (simp [entryFrame, mkF, argsToLocals, Value.category]; done) | rfl
set_option maxRecDepth 65536 in
set_option maxHeartbeats 40000000 in
theorem rm3 (l : Launch) (Z : State) (a0 : Array Value) (hw : ∀ d ∈ tables_1, d.before a0 Z = true) (ws : List Jvm.Cond) (x0 : Addr) (em : Addr) (h0 : Heap) (n0 : Nat) (Z0 : n0 ≤ h0.size) (p0_ : Exa Z h0 x0 "com/example/plainsong/plainsong/engine/Interpreter") (p1_ : n0 ≤ x0) (p2_ : Fld Z h0 x0 "com/example/plainsong/plainsong/engine/Interpreter" "globals" "Lcom/example/plainsong/plainsong/engine/Table;" .null) (p3_ : Sta Z h0 "com/example/plainsong/plainsong/engine/Table" "EMPTY" "[Ljava/lang/Object;" (.ref em))  :
    MetFree l (⟨"com/example/plainsong/plainsong/engine/Interpreter", "<init>", "()V"⟩ : MethodName) (head1 (Jvm.Cond.code (⟨"com/example/plainsong/plainsong/engine/Interpreter", "<init>", "()V"⟩ : MethodName) prog_49_method_1_code 1 none :: ws) ({ frames := 2, cells := 1, slots := 5, locals := 26 } : Room)) (fun a U => a = #[(.ref x0)] ∧ Z.Warmed39 U.vm ∧ U.heap = h0) (fun _ _ _ _ _ => True) (fun _ U o U' => ∃ v L, o = .returned v ∧ Q_rm3 Z x0 em h0 n0 v U'.heap L ∧ FrameEnd U o U' L ({ frames := 2, cells := 1, slots := 5, locals := 26 } : Room).cells ({ frames := 2, cells := 1, slots := 5, locals := 26 } : Room).slots) := by
  refine MetFree.of_bodySF (plainFor_of_name own_pn2) hisR ?_
  intro p e s m args below meth c s₁ Bd hml0 hP hK
  obtain ⟨rfl, hZ, hh⟩ := hP
  have hx := Bd.exec
  have hby := Bd.bytes
  have hml : c.maxLocals = 1 := hml0
  have hown : s.vm.findClass "com/example/plainsong/plainsong/engine/Interpreter" = some m.cls := findClass_of_methodNamed Bd.named
  have hnm := (name_of_methodNamed Bd.named Bd.method).1
  have X0 : Stand p l e ({ frames := 2, cells := 1, slots := 5, locals := 26 } : Room) s m #[(.ref x0)] below meth c s₁ [] 0 0 := Stand.of_body Bd
  have e0 : s₁.heap = h0 := by rw [← hh, Bd.state]; rfl
  show own_G p.tables e below (fun o U' => ∃ v L, o = .returned v ∧ Q_rm3 Z x0 em h0 n0 v U'.heap L ∧ FrameEnd s o U' L ({ frames := 2, cells := 1, slots := 5, locals := 26 } : Room).cells ({ frames := 2, cells := 1, slots := 5, locals := 26 } : Room).slots) (s₁.setTop (entryFrame m #[(.ref x0)] 1))
  refine own_go (fun _ k => castTop (ef_3_R m x0) k) ?_
  have N0 := Fr.nil n0
  have KP0 := Keep.refl h0 [x0]
  show own_G p.tables e below _ (s₁.setTop (mkF m 0 #[.val (.ref x0)] []))
  refine own_go (fun _ k => XS.aloadN X0.here hx rfl (hb hby d3_0) rfl rfl k) ?_
  show own_G p.tables e below _ (s₁.setTop (mkF m 1 #[.val (.ref x0)] [(.ref x0)]))
  obtain ⟨T10, X10, e10, st10⟩ := initO X0 hx hZ hown (hw _ (List.mem_of_getElem? (i := 19) rfl)) (hw _ (List.mem_of_getElem? (i := 8) rfl)) (hw _ (List.mem_of_getElem? (i := 9) rfl)) e0 (g := (mkF m 1 #[.val (.ref x0)] [(.ref x0)])) rfl (by rw [hml]; rfl) rfl (hb hby d3_1) (by decide) (W := 0) (by show 2 * 0 + _ ≤ _; exact Nat.le_of_eq rfl) (by decide)
  refine own_go st10 ?_
  show own_G p.tables e below _ (T10.setTop (mkF m 4 #[.val (.ref x0)] []))
  refine own_go (fun _ k => XS.aloadN X10.here hx rfl (hb hby d3_4) rfl rfl k) ?_
  show own_G p.tables e below _ (T10.setTop (mkF m 5 #[.val (.ref x0)] [(.ref x0)]))
  obtain ⟨T11, h11, X11, e11, E11, A11, D11, -, st11⟩ := newO X10 hx hZ hown (hw _ (List.mem_of_getElem? (i := 20) rfl)) (hw _ (List.mem_of_getElem? (i := 21) rfl)) (hw _ (List.mem_of_getElem? (i := 22) rfl)) e10 (g := (mkF m 5 #[.val (.ref x0)] [(.ref x0)])) rfl (hb hby d3_5) (by decide) (by decide)
  obtain ⟨b11, g11⟩ : ∃ z, z = h0.size := ⟨_, rfl⟩
  rw [← g11] at A11 D11 st11
  have ne_12 : x0 ≠ b11 := Nat.ne_of_lt (Nat.lt_of_lt_of_le p0_.lt (Nat.le_of_eq g11.symm))
  have ge_13 : n0 ≤ b11 := Nat.le_trans Z0 (Nat.le_of_eq g11.symm)
  have sz_14 : h0.size ≤ b11 := Nat.le_trans KP0.1 (Nat.le_of_eq g11.symm)
  have X_15 := p0_.ext E11
  have F_16 := p2_.ext E11
  have S_17 := p3_.ext E11
  have Z_18 : n0 ≤ h11.size := Nat.le_trans Z0 E11.1
  have KP_19 : Keep h0 h11 [x0] := KP0.ext E11
  have F_20 : Fld Z h11 b11 "com/example/plainsong/plainsong/engine/Table" "array" "[Ljava/lang/Object;" .null := D11 (Or.inl (hw _ (List.mem_of_getElem? (i := 30) rfl))) (ty := (.array (.object "java/lang/Object"))) (by decide)
  refine own_go st11 ?_
  show own_G p.tables e below _ (T11.setTop (mkF m 8 #[.val (.ref x0)] [(.ref b11), (.ref x0)]))
  refine own_go (fun _ k => XS.dup X11.here hx rfl (hb hby d3_8) rfl rfl k) ?_
  show own_G p.tables e below _ (T11.setTop (mkF m 9 #[.val (.ref x0)] [(.ref b11), (.ref b11), (.ref x0)]))
  obtain ⟨_, _, ⟨T21, L21, k21, n21⟩, -, X21, ⟨Lc21, hQ21, l21, y21, z21⟩, st21⟩ := X11.specialBack hx (y := (⟨"com/example/plainsong/plainsong/engine/Table", "<init>", "()V"⟩ : MethodName)) rfl hown (mvT hZ (hw _ (List.mem_of_getElem? (i := 23) rfl))) (mvT hZ (hw _ (List.mem_of_getElem? (i := 24) rfl))) (mvT hZ (hw _ (List.mem_of_getElem? (i := 25) rfl))) (by decide) (backOf (W := 2) (rm4 l Z a0 hw [] b11 em h11 n0 Z_18 A11 ge_13 F_20 S_17) hZ (hw _ (List.mem_of_getElem? (i := 25) rfl)) (hw _ (List.mem_of_getElem? (i := 22) rfl)) (by decide) (by decide)) (g := (mkF m 9 #[.val (.ref x0)] [(.ref b11), (.ref b11), (.ref x0)])) rfl (by rw [hml]; rfl) (Steps.refl _) (a := b11) (argsL := []) (rest := [(.ref b11), (.ref x0)]) (lenOf own_pd0 rfl) rfl (by show 2 * 0 + _ ≤ _; exact Nat.le_of_eq rfl) (hb hby d3_9) (fun _ _ => ⟨rfl, e11, (by decide : 1 + 0 ≤ _), (by decide : 5 + 0 ≤ _)⟩)
  dsimp only [Pt.U, Pt.locs, Pt.cells, Pt.slots] at X21 l21 y21 z21 st21 hQ21
  subst l21 y21 z21
  obtain ⟨rfl, Nq21, K21, G_22⟩ := hQ21
  have X_23 := X_15.keep K21
  have F_24 := F_16.keep K21 (ninS ne_12 nin0)
  have X_25 := A11.keep K21
  have Z_26 : n0 ≤ T21.heap.size := Nat.le_trans Z_18 K21.1
  have KP_27 : Keep h0 T21.heap [x0] := KP_19.trans K21 (allS (Or.inr sz_14) all0)
  have N_21 := Fr.app N0 Nq21
  refine own_go (fun _ k => st21.trans k) ?_
  show own_G p.tables e below _ (T21.setTop (mkF m 12 #[.val (.ref x0)] [(.ref b11), (.ref x0)]))
  obtain ⟨T28, h28, X28, e28, W28, st28⟩ := putF X21 hx hZ hown (host := "") (Or.inl (hw _ (List.mem_of_getElem? (i := 31) rfl))) Via.refl rfl F_24 X_23 (Or.inr ⟨(hw _ (List.mem_of_getElem? (i := 32) rfl)), rfl, hnm⟩) (hw _ (List.mem_of_getElem? (i := 14) rfl)) (ty := (.object "com/example/plainsong/plainsong/engine/Table")) (by decide) rfl rfl (g := (mkF m 12 #[.val (.ref x0)] [(.ref b11), (.ref x0)])) rfl rfl (hb hby d3_12)
  have X_29 := X_23.wr W28
  have X_30 := G_22.wr W28
  have F_31 := F_24.same W28
  have Z_32 : n0 ≤ h28.size := Nat.le_trans Z_26 (Nat.le_of_eq W28.size.symm)
  have KP_33 : Keep h0 h28 [x0] := KP_27.wr W28 (Or.inl (List.mem_of_getElem? (i := 0) rfl))
  have N_28 := Fr.snoc X28 N_21 p1_
  refine own_go st28 ?_
  show own_G p.tables e below _ (T28.setTop (mkF m 15 #[.val (.ref x0)] []))
  exact own_end X28 Bd.notSynchronized (v := none) (fun _ => rfl) (Q := Q_rm3 Z x0 em h0 n0) (by show Q_rm3 Z x0 em h0 n0 (none) T28.heap _; rw [e28]; exact ⟨rfl, N_28, KP_33, X_29⟩) (fun fs hr => X28.returnOut hx Bd.returns (hb hby d3_15) hr) (by decide) (by decide)
def Q_rm5 (Z : State) (x0 : Addr) (x1 : Addr)  (h0 : Heap) (n0 : Nat) (v : Option Value) (h : Heap) (L : List Loc) : Prop := v = none ∧ Fr n0 L ∧ Keep h0 h [x0] ∧ Exa Z h x0 "com/example/plainsong/plainsong/engine/CallStack" ∧ Fld Z h x0 "com/example/plainsong/plainsong/engine/CallStack" "activations" "[Lcom/example/plainsong/plainsong/engine/CallStack$Activation;" (.ref h0.size) ∧ Fld Z h x0 "com/example/plainsong/plainsong/engine/CallStack" "depth" "I" (.int (0 : Int32)) ∧ ∃ k, Ovr Z k "com/example/plainsong/plainsong/engine/CallStack$Activation" ∧ Arv Z h h0.size k (.object "com/example/plainsong/plainsong/engine/CallStack$Activation") (16 : Int32) [.null, .null, .null] .null
theorem d5_0 : decode prog_36_method_1_code 0 = .ok (.aload_n 0, 1) := by decide +kernel
theorem d5_1 : decode prog_36_method_1_code 1 = .ok (.invokespecial 1, 3) := by decide +kernel
theorem d5_4 : decode prog_36_method_1_code 4 = .ok (.aload_n 0, 1) := by decide +kernel
theorem d5_5 : decode prog_36_method_1_code 5 = .ok (.bipush 16, 2) := by decide +kernel
theorem d5_7 : decode prog_36_method_1_code 7 = .ok (.anewarray 7, 3) := by decide +kernel
theorem d5_10 : decode prog_36_method_1_code 10 = .ok (.putfield 9, 3) := by decide +kernel
theorem d5_13 : decode prog_36_method_1_code 13 = .ok (.aload_n 0, 1) := by decide +kernel
theorem d5_14 : decode prog_36_method_1_code 14 = .ok (.aload_n 1, 1) := by decide +kernel
theorem d5_15 : decode prog_36_method_1_code 15 = .ok (.putfield 15, 3) := by decide +kernel
theorem d5_18 : decode prog_36_method_1_code 18 = .ok (.return_, 1) := by decide +kernel
theorem own_pn3 : plainName "com/example/plainsong/plainsong/engine/CallStack" = true := by first | (simp [plainName, overriddenIn]; done) | decide +kernel
theorem ef_5_RR (m : MethodId) (x0 : Addr) (x1 : Addr) : entryFrame m #[(.ref x0), (.ref x1)] 2 = mkF m 0 #[.val (.ref x0), .val (.ref x1)] [] := by
  first | (simp [entryFrame, mkF, argsToLocals, Value.category]; done) | rfl
set_option maxRecDepth 65536 in
set_option maxHeartbeats 40000000 in
theorem rm5 (l : Launch) (Z : State) (a0 : Array Value) (hw : ∀ d ∈ tables_1, d.before a0 Z = true) (ws : List Jvm.Cond) (x0 : Addr) (x1 : Addr)  (h0 : Heap) (n0 : Nat) (Z0 : n0 ≤ h0.size) (p0_ : Exa Z h0 x0 "com/example/plainsong/plainsong/engine/CallStack") (p1_ : n0 ≤ x0) (p2_ : Fld Z h0 x0 "com/example/plainsong/plainsong/engine/CallStack" "activations" "[Lcom/example/plainsong/plainsong/engine/CallStack$Activation;" .null) (p3_ : Fld Z h0 x0 "com/example/plainsong/plainsong/engine/CallStack" "interpreter" "Lcom/example/plainsong/plainsong/engine/Interpreter;" .null) (p4_ : Fld Z h0 x0 "com/example/plainsong/plainsong/engine/CallStack" "depth" "I" (.int (0 : Int32)))  :
    MetFree l (⟨"com/example/plainsong/plainsong/engine/CallStack", "<init>", "(Lcom/example/plainsong/plainsong/engine/Interpreter;)V"⟩ : MethodName) (head1 (Jvm.Cond.code (⟨"com/example/plainsong/plainsong/engine/CallStack", "<init>", "(Lcom/example/plainsong/plainsong/engine/Interpreter;)V"⟩ : MethodName) prog_36_method_1_code 2 none :: ws) ({ frames := 1, cells := 1, slots := 16, locals := 12 } : Room)) (fun a U => a = #[(.ref x0), (.ref x1)] ∧ Z.Warmed39 U.vm ∧ U.heap = h0) (fun _ _ _ _ _ => True) (fun _ U o U' => ∃ v L, o = .returned v ∧ Q_rm5 Z x0 x1 h0 n0 v U'.heap L ∧ FrameEnd U o U' L ({ frames := 1, cells := 1, slots := 16, locals := 12 } : Room).cells ({ frames := 1, cells := 1, slots := 16, locals := 12 } : Room).slots) := by
  refine MetFree.of_bodySF (plainFor_of_name own_pn3) hisR ?_
  intro p e s m args below meth c s₁ Bd hml0 hP hK
  obtain ⟨rfl, hZ, hh⟩ := hP
  have hx := Bd.exec
  have hby := Bd.bytes
  have hml : c.maxLocals = 2 := hml0
  have hown : s.vm.findClass "com/example/plainsong/plainsong/engine/CallStack" = some m.cls := findClass_of_methodNamed Bd.named
  have hnm := (name_of_methodNamed Bd.named Bd.method).1
  have X0 : Stand p l e ({ frames := 1, cells := 1, slots := 16, locals := 12 } : Room) s m #[(.ref x0), (.ref x1)] below meth c s₁ [] 0 0 := Stand.of_body Bd
  have e0 : s₁.heap = h0 := by rw [← hh, Bd.state]; rfl
  show own_G p.tables e below (fun o U' => ∃ v L, o = .returned v ∧ Q_rm5 Z x0 x1 h0 n0 v U'.heap L ∧ FrameEnd s o U' L ({ frames := 1, cells := 1, slots := 16, locals := 12 } : Room).cells ({ frames := 1, cells := 1, slots := 16, locals := 12 } : Room).slots) (s₁.setTop (entryFrame m #[(.ref x0), (.ref x1)] 2))
  refine own_go (fun _ k => castTop (ef_5_RR m x0 x1) k) ?_
  have N0 := Fr.nil n0
  have KP0 := Keep.refl h0 [x0]
  show own_G p.tables e below _ (s₁.setTop (mkF m 0 #[.val (.ref x0), .val (.ref x1)] []))
  refine own_go (fun _ k => XS.aloadN X0.here hx rfl (hb hby d5_0) rfl rfl k) ?_
  show own_G p.tables e below _ (s₁.setTop (mkF m 1 #[.val (.ref x0), .val (.ref x1)] [(.ref x0)]))
  obtain ⟨T34, X34, e34, st34⟩ := initO X0 hx hZ hown (hw _ (List.mem_of_getElem? (i := 36) rfl)) (hw _ (List.mem_of_getElem? (i := 8) rfl)) (hw _ (List.mem_of_getElem? (i := 9) rfl)) e0 (g := (mkF m 1 #[.val (.ref x0), .val (.ref x1)] [(.ref x0)])) rfl (by rw [hml]; rfl) rfl (hb hby d5_1) (by decide) (W := 0) (by show 2 * 0 + _ ≤ _; exact Nat.le_of_eq rfl) (by decide)
  refine own_go st34 ?_
  show own_G p.tables e below _ (T34.setTop (mkF m 4 #[.val (.ref x0), .val (.ref x1)] []))
  refine own_go (fun _ k => XS.aloadN X34.here hx rfl (hb hby d5_4) rfl rfl k) ?_
  show own_G p.tables e below _ (T34.setTop (mkF m 5 #[.val (.ref x0), .val (.ref x1)] [(.ref x0)]))
  refine own_go (fun _ k => XS.bipush X34.here hx rfl (hb hby d5_5) k) ?_
  show own_G p.tables e below _ (T34.setTop (mkF m 7 #[.val (.ref x0), .val (.ref x1)] [(.int (16 : Int32)), (.ref x0)]))
  obtain ⟨T35, h35, k35, X35, e35, E35, A35, O35, st35⟩ := newR X34 hx hZ hown (hw _ (List.mem_of_getElem? (i := 37) rfl)) (hw _ (List.mem_of_getElem? (i := 38) rfl)) e34 (g := (mkF m 7 #[.val (.ref x0), .val (.ref x1)] [(.int (16 : Int32)), (.ref x0)])) rfl (hb hby d5_7) rfl (by decide) (cap := 16) (by decide) (by decide) (by decide) (by decide)
  obtain ⟨b35, g35⟩ : ∃ z, z = h0.size := ⟨_, rfl⟩
  rw [← g35] at A35 st35
  have ne_36 : x0 ≠ b35 := Nat.ne_of_lt (Nat.lt_of_lt_of_le p0_.lt (Nat.le_of_eq g35.symm))
  have ge_37 : n0 ≤ b35 := Nat.le_trans Z0 (Nat.le_of_eq g35.symm)
  have sz_38 : h0.size ≤ b35 := Nat.le_trans KP0.1 (Nat.le_of_eq g35.symm)
  have X_39 := p0_.ext E35
  have F_40 := p2_.ext E35
  have F_41 := p3_.ext E35
  have F_42 := p4_.ext E35
  have Z_43 : n0 ≤ h35.size := Nat.le_trans Z0 E35.1
  have KP_44 : Keep h0 h35 [x0] := KP0.ext E35
  have V35 : Arv Z h35 b35 k35 (.object "com/example/plainsong/plainsong/engine/CallStack$Activation") (16 : Int32) [.null, .null, .null] .null := (Arv.new A35 (by decide)).pad (pad_rep [] .null 3)
  refine own_go st35 ?_
  show own_G p.tables e below _ (T35.setTop (mkF m 10 #[.val (.ref x0), .val (.ref x1)] [(.ref b35), (.ref x0)]))
  obtain ⟨T45, h45, X45, e45, W45, st45⟩ := putF X35 hx hZ hown (host := "") (Or.inl (hw _ (List.mem_of_getElem? (i := 39) rfl))) Via.refl e35 F_40 X_39 (Or.inl (hw _ (List.mem_of_getElem? (i := 40) rfl))) (hw _ (List.mem_of_getElem? (i := 11) rfl)) (ty := (.array (.object "com/example/plainsong/plainsong/engine/CallStack$Activation"))) (by decide) rfl rfl (g := (mkF m 10 #[.val (.ref x0), .val (.ref x1)] [(.ref b35), (.ref x0)])) rfl rfl (hb hby d5_10)
  have X_46 := X_39.wr W45
  have F_47 := F_41.other W45 (Or.inr (slot_ne (Or.inr (hw _ (List.mem_of_getElem? (i := 42) rfl))) (Or.inl (hw _ (List.mem_of_getElem? (i := 40) rfl))) (by decide) (t := (.object "com/example/plainsong/plainsong/engine/Interpreter")) (t' := (.array (.object "com/example/plainsong/plainsong/engine/CallStack$Activation"))) (by decide) (by decide)))
  have F_48 := F_42.other W45 (Or.inr (slot_ne (Or.inl (hw _ (List.mem_of_getElem? (i := 49) rfl))) (Or.inl (hw _ (List.mem_of_getElem? (i := 40) rfl))) (by decide) (t := .int) (t' := (.array (.object "com/example/plainsong/plainsong/engine/CallStack$Activation"))) (by decide) (by decide)))
  have V_49 := V35.other W45 (Ne.symm ne_36)
  have F_50 := F_40.same W45
  have Z_51 : n0 ≤ h45.size := Nat.le_trans Z_43 (Nat.le_of_eq W45.size.symm)
  have KP_52 : Keep h0 h45 [x0] := KP_44.wr W45 (Or.inl (List.mem_of_getElem? (i := 0) rfl))
  have N_45 := Fr.snoc X45 N0 p1_
  refine own_go st45 ?_
  show own_G p.tables e below _ (T45.setTop (mkF m 13 #[.val (.ref x0), .val (.ref x1)] []))
  refine own_go (fun _ k => XS.aloadN X45.here hx rfl (hb hby d5_13) rfl rfl k) ?_
  show own_G p.tables e below _ (T45.setTop (mkF m 14 #[.val (.ref x0), .val (.ref x1)] [(.ref x0)]))
  refine own_go (fun _ k => XS.aloadN X45.here hx rfl (hb hby d5_14) rfl rfl k) ?_
  show own_G p.tables e below _ (T45.setTop (mkF m 15 #[.val (.ref x0), .val (.ref x1)] [(.ref x1), (.ref x0)]))
  obtain ⟨T53, h53, X53, e53, W53, st53⟩ := putF X45 hx hZ hown (host := "") (Or.inl (hw _ (List.mem_of_getElem? (i := 41) rfl))) Via.refl e45 F_47 X_46 (Or.inr ⟨(hw _ (List.mem_of_getElem? (i := 42) rfl)), rfl, hnm⟩) (hw _ (List.mem_of_getElem? (i := 11) rfl)) (ty := (.object "com/example/plainsong/plainsong/engine/Interpreter")) (by decide) rfl rfl (g := (mkF m 15 #[.val (.ref x0), .val (.ref x1)] [(.ref x1), (.ref x0)])) rfl rfl (hb hby d5_15)
  have X_54 := X_46.wr W53
  have F_55 := F_50.other W53 (Or.inr (slot_ne (Or.inl (hw _ (List.mem_of_getElem? (i := 40) rfl))) (Or.inr (hw _ (List.mem_of_getElem? (i := 42) rfl))) (by decide) (t := (.array (.object "com/example/plainsong/plainsong/engine/CallStack$Activation"))) (t' := (.object "com/example/plainsong/plainsong/engine/Interpreter")) (by decide) (by decide)))
  have F_56 := F_48.other W53 (Or.inr (slot_ne (Or.inl (hw _ (List.mem_of_getElem? (i := 49) rfl))) (Or.inr (hw _ (List.mem_of_getElem? (i := 42) rfl))) (by decide) (t := .int) (t' := (.object "com/example/plainsong/plainsong/engine/Interpreter")) (by decide) (by decide)))
  have V_57 := V_49.other W53 (Ne.symm ne_36)
  have F_58 := F_47.same W53
  have Z_59 : n0 ≤ h53.size := Nat.le_trans Z_51 (Nat.le_of_eq W53.size.symm)
  have KP_60 : Keep h0 h53 [x0] := KP_52.wr W53 (Or.inl (List.mem_of_getElem? (i := 0) rfl))
  have N_53 := Fr.snoc X53 N_45 p1_
  refine own_go st53 ?_
  show own_G p.tables e below _ (T53.setTop (mkF m 18 #[.val (.ref x0), .val (.ref x1)] []))
  subst g35
  exact own_end X53 Bd.notSynchronized (v := none) (fun _ => rfl) (Q := Q_rm5 Z x0 x1 h0 n0) (by show Q_rm5 Z x0 x1 h0 n0 (none) T53.heap _; rw [e53]; exact ⟨rfl, N_53, KP_60, X_54, F_55, F_56, ⟨k35, O35, V_57⟩⟩) (fun fs hr => X53.returnOut hx Bd.returns (hb hby d5_18) hr) (by decide) (by decide)
def Q_rm_push0 (Z : State) (x0 : Addr) (x1 : Value) (ar : Addr) (k : ClassId) (w0 w1 w2 : Value) (h0 : Heap) (n0 : Nat) (v : Option Value) (h : Heap) (L : List Loc) : Prop := v = none ∧ Fr n0 L ∧ Keep h0 h [x0, ar] ∧ Exa Z h x0 "com/example/plainsong/plainsong/engine/CallStack" ∧ Fld Z h x0 "com/example/plainsong/plainsong/engine/CallStack" "activations" "[Lcom/example/plainsong/plainsong/engine/CallStack$Activation;" (.ref ar) ∧ Fld Z h x0 "com/example/plainsong/plainsong/engine/CallStack" "depth" "I" (.int (1 : Int32)) ∧ Arv Z h ar k (.object "com/example/plainsong/plainsong/engine/CallStack$Activation") (16 : Int32) [x1, w1, w2] .null
theorem d10_0 : decode prog_36_method_8_code 0 = .ok (.aload_n 0, 1) := by decide +kernel
theorem d10_1 : decode prog_36_method_8_code 1 = .ok (.getfield 56, 3) := by decide +kernel
theorem d10_4 : decode prog_36_method_8_code 4 = .ok (.istore_n 2, 1) := by decide +kernel
theorem d10_5 : decode prog_36_method_8_code 5 = .ok (.iload_n 2, 1) := by decide +kernel
theorem d10_6 : decode prog_36_method_8_code 6 = .ok (.ldc 91, 2) := by decide +kernel
theorem d10_8 : decode prog_36_method_8_code 8 = .ok (.if_icmp .lt 11, 3) := by decide +kernel
theorem d10_11 : decode prog_36_method_8_code 11 = .ok (.aload_n 0, 1) := by decide +kernel
theorem d10_12 : decode prog_36_method_8_code 12 = .ok (.iconst 0, 1) := by decide +kernel
theorem d10_13 : decode prog_36_method_8_code 13 = .ok (.ldc 44, 2) := by decide +kernel
theorem d10_15 : decode prog_36_method_8_code 15 = .ok (.invokevirtual 46, 3) := by decide +kernel
theorem d10_18 : decode prog_36_method_8_code 18 = .ok (.athrow, 1) := by decide +kernel
theorem d10_19 : decode prog_36_method_8_code 19 = .ok (.iload_n 2, 1) := by decide +kernel
theorem d10_20 : decode prog_36_method_8_code 20 = .ok (.aload_n 0, 1) := by decide +kernel
theorem d10_21 : decode prog_36_method_8_code 21 = .ok (.getfield 9, 3) := by decide +kernel
theorem d10_24 : decode prog_36_method_8_code 24 = .ok (.arraylength, 1) := by decide +kernel
theorem d10_25 : decode prog_36_method_8_code 25 = .ok (.if_icmp .ne 20, 3) := by decide +kernel
theorem d10_28 : decode prog_36_method_8_code 28 = .ok (.aload_n 0, 1) := by decide +kernel
theorem d10_29 : decode prog_36_method_8_code 29 = .ok (.aload_n 0, 1) := by decide +kernel
theorem d10_30 : decode prog_36_method_8_code 30 = .ok (.getfield 9, 3) := by decide +kernel
theorem d10_33 : decode prog_36_method_8_code 33 = .ok (.iload_n 2, 1) := by decide +kernel
theorem d10_34 : decode prog_36_method_8_code 34 = .ok (.iconst 2, 1) := by decide +kernel
theorem d10_35 : decode prog_36_method_8_code 35 = .ok (.imul, 1) := by decide +kernel
theorem d10_36 : decode prog_36_method_8_code 36 = .ok (.invokestatic 92, 3) := by decide +kernel
theorem d10_39 : decode prog_36_method_8_code 39 = .ok (.checkcast 98, 3) := by decide +kernel
theorem d10_42 : decode prog_36_method_8_code 42 = .ok (.putfield 9, 3) := by decide +kernel
theorem d10_45 : decode prog_36_method_8_code 45 = .ok (.aload_n 0, 1) := by decide +kernel
theorem d10_46 : decode prog_36_method_8_code 46 = .ok (.getfield 9, 3) := by decide +kernel
theorem d10_49 : decode prog_36_method_8_code 49 = .ok (.iload_n 2, 1) := by decide +kernel
theorem d10_50 : decode prog_36_method_8_code 50 = .ok (.aload_n 1, 1) := by decide +kernel
theorem d10_51 : decode prog_36_method_8_code 51 = .ok (.aastore, 1) := by decide +kernel
theorem d10_52 : decode prog_36_method_8_code 52 = .ok (.aload_n 0, 1) := by decide +kernel
theorem d10_53 : decode prog_36_method_8_code 53 = .ok (.iload_n 2, 1) := by decide +kernel
theorem d10_54 : decode prog_36_method_8_code 54 = .ok (.iconst 1, 1) := by decide +kernel
theorem d10_55 : decode prog_36_method_8_code 55 = .ok (.iadd, 1) := by decide +kernel
theorem d10_56 : decode prog_36_method_8_code 56 = .ok (.putfield 56, 3) := by decide +kernel
theorem d10_59 : decode prog_36_method_8_code 59 = .ok (.return_, 1) := by decide +kernel
theorem ef_10_RV (m : MethodId) (x0 : Addr) (x1 : Value) (hr1 : x1.isRef = true) : entryFrame m #[(.ref x0), x1] 3 = mkF m 0 #[.val (.ref x0), .val x1, .unset] [] := by
  rcases own_refc hr1 with rfl | ⟨y1, rfl⟩ <;> first | (simp [entryFrame, mkF, argsToLocals, Value.category]; done) | rfl
set_option maxRecDepth 65536 in
set_option maxHeartbeats 40000000 in
theorem rm_push0 (l : Launch) (Z : State) (a0 : Array Value) (hw : ∀ d ∈ tables_1, d.before a0 Z = true) (ws : List Jvm.Cond) (x0 : Addr) (x1 : Value) (ar : Addr) (k : ClassId) (w0 w1 w2 : Value) (h0 : Heap) (n0 : Nat) (Z0 : n0 ≤ h0.size) (p0_ : Exa Z h0 x0 "com/example/plainsong/plainsong/engine/CallStack") (p1_ : Fld Z h0 x0 "com/example/plainsong/plainsong/engine/CallStack" "activations" "[Lcom/example/plainsong/plainsong/engine/CallStack$Activation;" (.ref ar)) (p2_ : Fld Z h0 x0 "com/example/plainsong/plainsong/engine/CallStack" "depth" "I" (.int (0 : Int32))) (p3_ : Arv Z h0 ar k (.object "com/example/plainsong/plainsong/engine/CallStack$Activation") (16 : Int32) [w0, w1, w2] .null) (p4_ : n0 ≤ x0) (p5_ : n0 ≤ ar) (p6_ : x0 ≠ ar) (hx1 : x1.isRef = true) (O_k : Ovr Z k "com/example/plainsong/plainsong/engine/CallStack$Activation") (Avx : own_Av Z h0 x1) :
    MetFree l (⟨"com/example/plainsong/plainsong/engine/CallStack", "push", "(Lcom/example/plainsong/plainsong/engine/CallStack$Activation;)V"⟩ : MethodName) (head1 (Jvm.Cond.code (⟨"com/example/plainsong/plainsong/engine/CallStack", "push", "(Lcom/example/plainsong/plainsong/engine/CallStack$Activation;)V"⟩ : MethodName) prog_36_method_8_code 3 none :: ws) ({ frames := 0, cells := 0, slots := 0, locals := 0 } : Room)) (fun a U => a = #[(.ref x0), x1] ∧ Z.Warmed39 U.vm ∧ U.heap = h0) (fun _ _ _ _ _ => True) (fun _ U o U' => ∃ v L, o = .returned v ∧ Q_rm_push0 Z x0 x1 ar k w0 w1 w2 h0 n0 v U'.heap L ∧ FrameEnd U o U' L ({ frames := 0, cells := 0, slots := 0, locals := 0 } : Room).cells ({ frames := 0, cells := 0, slots := 0, locals := 0 } : Room).slots) := by
  refine MetFree.of_bodySF (plainFor_of_name own_pn3) hisR ?_
  intro p e s m args below meth c s₁ Bd hml0 hP hK
  obtain ⟨rfl, hZ, hh⟩ := hP
  have hx := Bd.exec
  have hby := Bd.bytes
  have hml : c.maxLocals = 3 := hml0
  have hown : s.vm.findClass "com/example/plainsong/plainsong/engine/CallStack" = some m.cls := findClass_of_methodNamed Bd.named
  have hnm := (name_of_methodNamed Bd.named Bd.method).1
  have X0 : Stand p l e ({ frames := 0, cells := 0, slots := 0, locals := 0 } : Room) s m #[(.ref x0), x1] below meth c s₁ [] 0 0 := Stand.of_body Bd
  have e0 : s₁.heap = h0 := by rw [← hh, Bd.state]; rfl
  show own_G p.tables e below (fun o U' => ∃ v L, o = .returned v ∧ Q_rm_push0 Z x0 x1 ar k w0 w1 w2 h0 n0 v U'.heap L ∧ FrameEnd s o U' L ({ frames := 0, cells := 0, slots := 0, locals := 0 } : Room).cells ({ frames := 0, cells := 0, slots := 0, locals := 0 } : Room).slots) (s₁.setTop (entryFrame m #[(.ref x0), x1] 3))
  refine own_go (fun _ k => castTop (ef_10_RV m x0 x1 hx1) k) ?_
  have N0 := Fr.nil n0
  have KP0 := Keep.refl h0 [x0, ar]
  show own_G p.tables e below _ (s₁.setTop (mkF m 0 #[.val (.ref x0), .val x1, .unset] []))
  refine own_go (fun _ k => XS.aloadN X0.here hx rfl (hb hby d10_0) rfl rfl k) ?_
  show own_G p.tables e below _ (s₁.setTop (mkF m 1 #[.val (.ref x0), .val x1, .unset] [(.ref x0)]))
  obtain ⟨T61, X61, e61, st61⟩ := getF X0 hx hZ hown (host := "") (Or.inl (hw _ (List.mem_of_getElem? (i := 48) rfl))) Via.refl e0 p2_ (g := (mkF m 1 #[.val (.ref x0), .val x1, .unset] [(.ref x0)])) rfl rfl (hb hby d10_1)
  refine own_go st61 ?_
  show own_G p.tables e below _ (T61.setTop (mkF m 4 #[.val (.ref x0), .val x1, .unset] [(.int (0 : Int32))]))
  refine own_go (fun _ k => XS.istoreN X61.here hx rfl (hb hby d10_4) rfl (l' := #[.val (.ref x0), .val x1, .val (.int (0 : Int32))]) rfl k) ?_
  show own_G p.tables e below _ (T61.setTop (mkF m 5 #[.val (.ref x0), .val x1, .val (.int (0 : Int32))] []))
  refine own_go (fun _ k => XS.iloadN X61.here hx rfl (hb hby d10_5) rfl k) ?_
  show own_G p.tables e below _ (T61.setTop (mkF m 6 #[.val (.ref x0), .val x1, .val (.int (0 : Int32))] [(.int (0 : Int32))]))
  refine own_go (fun _ k => X61.ldcInt hx hown (mvT hZ (hw _ (List.mem_of_getElem? (i := 68) rfl))) (g := (mkF m 6 #[.val (.ref x0), .val x1, .val (.int (0 : Int32))] [(.int (0 : Int32))])) rfl (hb hby d10_6) _ k) ?_
  show own_G p.tables e below _ (T61.setTop (mkF m 8 #[.val (.ref x0), .val x1, .val (.int (0 : Int32))] [(.int (1000000 : Int32)), (.int (0 : Int32))]))
  refine own_go (fun _ k => XS.icmpYes X61.here hx rfl (pc0 := 8) (pc' := 19) rfl (hb hby d10_8) rfl ((tlt (by decide : (0 : Int32) < (1000000 : Int32))).1) (by decide) (by decide) k) ?_
  show own_G p.tables e below _ (T61.setTop (mkF m 19 #[.val (.ref x0), .val x1, .val (.int (0 : Int32))] []))
  refine own_go (fun _ k => XS.iloadN X61.here hx rfl (hb hby d10_19) rfl k) ?_
  show own_G p.tables e below _ (T61.setTop (mkF m 20 #[.val (.ref x0), .val x1, .val (.int (0 : Int32))] [(.int (0 : Int32))]))
  refine own_go (fun _ k => XS.aloadN X61.here hx rfl (hb hby d10_20) rfl rfl k) ?_
  show own_G p.tables e below _ (T61.setTop (mkF m 21 #[.val (.ref x0), .val x1, .val (.int (0 : Int32))] [(.ref x0), (.int (0 : Int32))]))
  obtain ⟨T62, X62, e62, st62⟩ := getF X61 hx hZ hown (host := "") (Or.inl (hw _ (List.mem_of_getElem? (i := 39) rfl))) Via.refl e61 p1_ (g := (mkF m 21 #[.val (.ref x0), .val x1, .val (.int (0 : Int32))] [(.ref x0), (.int (0 : Int32))])) rfl rfl (hb hby d10_21)
  refine own_go st62 ?_
  show own_G p.tables e below _ (T62.setTop (mkF m 24 #[.val (.ref x0), .val x1, .val (.int (0 : Int32))] [(.ref ar), (.int (0 : Int32))]))
  obtain ⟨cl63, Ar63, -, S63, N63, -, -⟩ := id p3_
  refine own_go (fun _ k => X62.arraylength hx (cell := cl63) (by rw [e62]; exact Ar63.1) (State.isArrayOf_alike hZ.alike Ar63.2.1) (g := (mkF m 24 #[.val (.ref x0), .val x1, .val (.int (0 : Int32))] [(.ref ar), (.int (0 : Int32))])) rfl rfl (hb hby d10_24) _ (by rw [len_of S63 N63]; exact k)) ?_
  show own_G p.tables e below _ (T62.setTop (mkF m 25 #[.val (.ref x0), .val x1, .val (.int (0 : Int32))] [(.int (16 : Int32)), (.int (0 : Int32))]))
  refine own_go (fun _ k => XS.icmpYes X62.here hx rfl (pc0 := 25) (pc' := 45) rfl (hb hby d10_25) rfl ((feq (by decide : ¬ ((0 : Int32) = (16 : Int32)))).2) (by decide) (by decide) k) ?_
  show own_G p.tables e below _ (T62.setTop (mkF m 45 #[.val (.ref x0), .val x1, .val (.int (0 : Int32))] []))
  refine own_go (fun _ k => XS.aloadN X62.here hx rfl (hb hby d10_45) rfl rfl k) ?_
  show own_G p.tables e below _ (T62.setTop (mkF m 46 #[.val (.ref x0), .val x1, .val (.int (0 : Int32))] [(.ref x0)]))
  obtain ⟨T64, X64, e64, st64⟩ := getF X62 hx hZ hown (host := "") (Or.inl (hw _ (List.mem_of_getElem? (i := 39) rfl))) Via.refl e62 p1_ (g := (mkF m 46 #[.val (.ref x0), .val x1, .val (.int (0 : Int32))] [(.ref x0)])) rfl rfl (hb hby d10_46)
  refine own_go st64 ?_
  show own_G p.tables e below _ (T64.setTop (mkF m 49 #[.val (.ref x0), .val x1, .val (.int (0 : Int32))] [(.ref ar)]))
  refine own_go (fun _ k => XS.iloadN X64.here hx rfl (hb hby d10_49) rfl k) ?_
  show own_G p.tables e below _ (T64.setTop (mkF m 50 #[.val (.ref x0), .val x1, .val (.int (0 : Int32))] [(.int (0 : Int32)), (.ref ar)]))
  refine own_go (fun _ k => XS.aloadN X64.here hx rfl (hb hby d10_50) rfl hx1 k) ?_
  show own_G p.tables e below _ (T64.setTop (mkF m 51 #[.val (.ref x0), .val x1, .val (.int (0 : Int32))] [x1, (.int (0 : Int32)), (.ref ar)]))
  obtain ⟨cl65, Ar65, q65, S65, N65, H65, G65⟩ := id p3_
  obtain ⟨T65, h65, X65, e65, W65, st65⟩ := stR X64 hx hZ e64 Ar65 (j := (0 : Int32)) (inb_of S65 ⟨by decide, by decide⟩) rfl (own_sto (hw _ (List.mem_of_getElem? (i := 69) rfl)) O_k Ar65 q65 Avx) (g := (mkF m 51 #[.val (.ref x0), .val x1, .val (.int (0 : Int32))] [x1, (.int (0 : Int32)), (.ref ar)])) rfl rfl (hb hby d10_51)
  have X_66 := p0_.wr W65
  have F_67 := p1_.other W65 (Or.inl p6_)
  have F_68 := p2_.other W65 (Or.inl p6_)
  have Av_69 := own_avW Avx W65
  have V65 : Arv Z h65 ar k (.object "com/example/plainsong/plainsong/engine/CallStack$Activation") (16 : Int32) [x1, w1, w2] .null := Arv.set Ar65 q65 S65 N65 H65 G65 (own_fit hx1) W65 0 rfl (Nat.le_of_ble_eq_true rfl)
  have Z_70 : n0 ≤ h65.size := Nat.le_trans Z0 (Nat.le_of_eq W65.size.symm)
  have KP_71 : Keep h0 h65 [x0, ar] := KP0.wr W65 (Or.inl (List.mem_of_getElem? (i := 1) rfl))
  have N_65 := Fr.snoc X65 N0 p5_
  refine own_go st65 ?_
  show own_G p.tables e below _ (T65.setTop (mkF m 52 #[.val (.ref x0), .val x1, .val (.int (0 : Int32))] []))
  refine own_go (fun _ k => XS.aloadN X65.here hx rfl (hb hby d10_52) rfl rfl k) ?_
  show own_G p.tables e below _ (T65.setTop (mkF m 53 #[.val (.ref x0), .val x1, .val (.int (0 : Int32))] [(.ref x0)]))
  refine own_go (fun _ k => XS.iloadN X65.here hx rfl (hb hby d10_53) rfl k) ?_
  show own_G p.tables e below _ (T65.setTop (mkF m 54 #[.val (.ref x0), .val x1, .val (.int (0 : Int32))] [(.int (0 : Int32)), (.ref x0)]))
  refine own_go (fun _ k => XS.iconst X65.here hx rfl (hb hby d10_54) k) ?_
  show own_G p.tables e below _ (T65.setTop (mkF m 55 #[.val (.ref x0), .val x1, .val (.int (0 : Int32))] [(.int (1 : Int32)), (.int (0 : Int32)), (.ref x0)]))
  refine own_go (fun _ k => XS.iadd X65.here hx rfl (hb hby d10_55) rfl k) ?_
  show own_G p.tables e below _ (T65.setTop (mkF m 56 #[.val (.ref x0), .val x1, .val (.int (0 : Int32))] [(.int (1 : Int32)), (.ref x0)]))
  obtain ⟨T72, h72, X72, e72, W72, st72⟩ := putF X65 hx hZ hown (host := "") (Or.inl (hw _ (List.mem_of_getElem? (i := 48) rfl))) Via.refl e65 F_68 X_66 (Or.inl (hw _ (List.mem_of_getElem? (i := 49) rfl))) (hw _ (List.mem_of_getElem? (i := 11) rfl)) (ty := .int) (by decide) rfl rfl (g := (mkF m 56 #[.val (.ref x0), .val x1, .val (.int (0 : Int32))] [(.int (1 : Int32)), (.ref x0)])) rfl rfl (hb hby d10_56)
  have X_73 := X_66.wr W72
  have F_74 := F_67.other W72 (Or.inr (slot_ne (Or.inl (hw _ (List.mem_of_getElem? (i := 40) rfl))) (Or.inl (hw _ (List.mem_of_getElem? (i := 49) rfl))) (by decide) (t := (.array (.object "com/example/plainsong/plainsong/engine/CallStack$Activation"))) (t' := .int) (by decide) (by decide)))
  have V_75 := V65.other W72 (Ne.symm p6_)
  have Av_76 := own_avW Av_69 W72
  have F_77 := F_68.same W72
  have Z_78 : n0 ≤ h72.size := Nat.le_trans Z_70 (Nat.le_of_eq W72.size.symm)
  have KP_79 : Keep h0 h72 [x0, ar] := KP_71.wr W72 (Or.inl (List.mem_of_getElem? (i := 0) rfl))
  have N_72 := Fr.snoc X72 N_65 p4_
  refine own_go st72 ?_
  show own_G p.tables e below _ (T72.setTop (mkF m 59 #[.val (.ref x0), .val x1, .val (.int (0 : Int32))] []))
  exact own_end X72 Bd.notSynchronized (v := none) (fun _ => rfl) (Q := Q_rm_push0 Z x0 x1 ar k w0 w1 w2 h0 n0) (by show Q_rm_push0 Z x0 x1 ar k w0 w1 w2 h0 n0 (none) T72.heap _; rw [e72]; exact ⟨rfl, N_72, KP_79, X_73, F_74, F_77, V_75⟩) (fun fs hr => X72.returnOut hx Bd.returns (hb hby d10_59) hr) (by decide) (by decide)
def Q_rm_push1 (Z : State) (x0 : Addr) (x1 : Value) (ar : Addr) (k : ClassId) (w0 w1 w2 : Value) (h0 : Heap) (n0 : Nat) (v : Option Value) (h : Heap) (L : List Loc) : Prop := v = none ∧ Fr n0 L ∧ Keep h0 h [x0, ar] ∧ Exa Z h x0 "com/example/plainsong/plainsong/engine/CallStack" ∧ Fld Z h x0 "com/example/plainsong/plainsong/engine/CallStack" "activations" "[Lcom/example/plainsong/plainsong/engine/CallStack$Activation;" (.ref ar) ∧ Fld Z h x0 "com/example/plainsong/plainsong/engine/CallStack" "depth" "I" (.int (2 : Int32)) ∧ Arv Z h ar k (.object "com/example/plainsong/plainsong/engine/CallStack$Activation") (16 : Int32) [w0, x1, w2] .null
set_option maxRecDepth 65536 in
set_option maxHeartbeats 40000000 in
theorem rm_push1 (l : Launch) (Z : State) (a0 : Array Value) (hw : ∀ d ∈ tables_1, d.before a0 Z = true) (ws : List Jvm.Cond) (x0 : Addr) (x1 : Value) (ar : Addr) (k : ClassId) (w0 w1 w2 : Value) (h0 : Heap) (n0 : Nat) (Z0 : n0 ≤ h0.size) (p0_ : Exa Z h0 x0 "com/example/plainsong/plainsong/engine/CallStack") (p1_ : Fld Z h0 x0 "com/example/plainsong/plainsong/engine/CallStack" "activations" "[Lcom/example/plainsong/plainsong/engine/CallStack$Activation;" (.ref ar)) (p2_ : Fld Z h0 x0 "com/example/plainsong/plainsong/engine/CallStack" "depth" "I" (.int (1 : Int32))) (p3_ : Arv Z h0 ar k (.object "com/example/plainsong/plainsong/engine/CallStack$Activation") (16 : Int32) [w0, w1, w2] .null) (p4_ : n0 ≤ x0) (p5_ : n0 ≤ ar) (p6_ : x0 ≠ ar) (hx1 : x1.isRef = true) (O_k : Ovr Z k "com/example/plainsong/plainsong/engine/CallStack$Activation") (Avx : own_Av Z h0 x1) :
    MetFree l (⟨"com/example/plainsong/plainsong/engine/CallStack", "push", "(Lcom/example/plainsong/plainsong/engine/CallStack$Activation;)V"⟩ : MethodName) (head1 (Jvm.Cond.code (⟨"com/example/plainsong/plainsong/engine/CallStack", "push", "(Lcom/example/plainsong/plainsong/engine/CallStack$Activation;)V"⟩ : MethodName) prog_36_method_8_code 3 none :: ws) ({ frames := 0, cells := 0, slots := 0, locals := 0 } : Room)) (fun a U => a = #[(.ref x0), x1] ∧ Z.Warmed39 U.vm ∧ U.heap = h0) (fun _ _ _ _ _ => True) (fun _ U o U' => ∃ v L, o = .returned v ∧ Q_rm_push1 Z x0 x1 ar k w0 w1 w2 h0 n0 v U'.heap L ∧ FrameEnd U o U' L ({ frames := 0, cells := 0, slots := 0, locals := 0 } : Room).cells ({ frames := 0, cells := 0, slots := 0, locals := 0 } : Room).slots) := by
  refine MetFree.of_bodySF (plainFor_of_name own_pn3) hisR ?_
  intro p e s m args below meth c s₁ Bd hml0 hP hK
  obtain ⟨rfl, hZ, hh⟩ := hP
  have hx := Bd.exec
  have hby := Bd.bytes
  have hml : c.maxLocals = 3 := hml0
  have hown : s.vm.findClass "com/example/plainsong/plainsong/engine/CallStack" = some m.cls := findClass_of_methodNamed Bd.named
  have hnm := (name_of_methodNamed Bd.named Bd.method).1
  have X0 : Stand p l e ({ frames := 0, cells := 0, slots := 0, locals := 0 } : Room) s m #[(.ref x0), x1] below meth c s₁ [] 0 0 := Stand.of_body Bd
  have e0 : s₁.heap = h0 := by rw [← hh, Bd.state]; rfl
  show own_G p.tables e below (fun o U' => ∃ v L, o = .returned v ∧ Q_rm_push1 Z x0 x1 ar k w0 w1 w2 h0 n0 v U'.heap L ∧ FrameEnd s o U' L ({ frames := 0, cells := 0, slots := 0, locals := 0 } : Room).cells ({ frames := 0, cells := 0, slots := 0, locals := 0 } : Room).slots) (s₁.setTop (entryFrame m #[(.ref x0), x1] 3))
  refine own_go (fun _ k => castTop (ef_10_RV m x0 x1 hx1) k) ?_
  have N0 := Fr.nil n0
  have KP0 := Keep.refl h0 [x0, ar]
  show own_G p.tables e below _ (s₁.setTop (mkF m 0 #[.val (.ref x0), .val x1, .unset] []))
  refine own_go (fun _ k => XS.aloadN X0.here hx rfl (hb hby d10_0) rfl rfl k) ?_
  show own_G p.tables e below _ (s₁.setTop (mkF m 1 #[.val (.ref x0), .val x1, .unset] [(.ref x0)]))
  obtain ⟨T80, X80, e80, st80⟩ := getF X0 hx hZ hown (host := "") (Or.inl (hw _ (List.mem_of_getElem? (i := 48) rfl))) Via.refl e0 p2_ (g := (mkF m 1 #[.val (.ref x0), .val x1, .unset] [(.ref x0)])) rfl rfl (hb hby d10_1)
  refine own_go st80 ?_
  show own_G p.tables e below _ (T80.setTop (mkF m 4 #[.val (.ref x0), .val x1, .unset] [(.int (1 : Int32))]))
  refine own_go (fun _ k => XS.istoreN X80.here hx rfl (hb hby d10_4) rfl (l' := #[.val (.ref x0), .val x1, .val (.int (1 : Int32))]) rfl k) ?_
  show own_G p.tables e below _ (T80.setTop (mkF m 5 #[.val (.ref x0), .val x1, .val (.int (1 : Int32))] []))
  refine own_go (fun _ k => XS.iloadN X80.here hx rfl (hb hby d10_5) rfl k) ?_
  show own_G p.tables e below _ (T80.setTop (mkF m 6 #[.val (.ref x0), .val x1, .val (.int (1 : Int32))] [(.int (1 : Int32))]))
  refine own_go (fun _ k => X80.ldcInt hx hown (mvT hZ (hw _ (List.mem_of_getElem? (i := 68) rfl))) (g := (mkF m 6 #[.val (.ref x0), .val x1, .val (.int (1 : Int32))] [(.int (1 : Int32))])) rfl (hb hby d10_6) _ k) ?_
  show own_G p.tables e below _ (T80.setTop (mkF m 8 #[.val (.ref x0), .val x1, .val (.int (1 : Int32))] [(.int (1000000 : Int32)), (.int (1 : Int32))]))
  refine own_go (fun _ k => XS.icmpYes X80.here hx rfl (pc0 := 8) (pc' := 19) rfl (hb hby d10_8) rfl ((tlt (by decide : (1 : Int32) < (1000000 : Int32))).1) (by decide) (by decide) k) ?_
  show own_G p.tables e below _ (T80.setTop (mkF m 19 #[.val (.ref x0), .val x1, .val (.int (1 : Int32))] []))
  refine own_go (fun _ k => XS.iloadN X80.here hx rfl (hb hby d10_19) rfl k) ?_
  show own_G p.tables e below _ (T80.setTop (mkF m 20 #[.val (.ref x0), .val x1, .val (.int (1 : Int32))] [(.int (1 : Int32))]))
  refine own_go (fun _ k => XS.aloadN X80.here hx rfl (hb hby d10_20) rfl rfl k) ?_
  show own_G p.tables e below _ (T80.setTop (mkF m 21 #[.val (.ref x0), .val x1, .val (.int (1 : Int32))] [(.ref x0), (.int (1 : Int32))]))
  obtain ⟨T81, X81, e81, st81⟩ := getF X80 hx hZ hown (host := "") (Or.inl (hw _ (List.mem_of_getElem? (i := 39) rfl))) Via.refl e80 p1_ (g := (mkF m 21 #[.val (.ref x0), .val x1, .val (.int (1 : Int32))] [(.ref x0), (.int (1 : Int32))])) rfl rfl (hb hby d10_21)
  refine own_go st81 ?_
  show own_G p.tables e below _ (T81.setTop (mkF m 24 #[.val (.ref x0), .val x1, .val (.int (1 : Int32))] [(.ref ar), (.int (1 : Int32))]))
  obtain ⟨cl82, Ar82, -, S82, N82, -, -⟩ := id p3_
  refine own_go (fun _ k => X81.arraylength hx (cell := cl82) (by rw [e81]; exact Ar82.1) (State.isArrayOf_alike hZ.alike Ar82.2.1) (g := (mkF m 24 #[.val (.ref x0), .val x1, .val (.int (1 : Int32))] [(.ref ar), (.int (1 : Int32))])) rfl rfl (hb hby d10_24) _ (by rw [len_of S82 N82]; exact k)) ?_
  show own_G p.tables e below _ (T81.setTop (mkF m 25 #[.val (.ref x0), .val x1, .val (.int (1 : Int32))] [(.int (16 : Int32)), (.int (1 : Int32))]))
  refine own_go (fun _ k => XS.icmpYes X81.here hx rfl (pc0 := 25) (pc' := 45) rfl (hb hby d10_25) rfl ((feq (by decide : ¬ ((1 : Int32) = (16 : Int32)))).2) (by decide) (by decide) k) ?_
  show own_G p.tables e below _ (T81.setTop (mkF m 45 #[.val (.ref x0), .val x1, .val (.int (1 : Int32))] []))
  refine own_go (fun _ k => XS.aloadN X81.here hx rfl (hb hby d10_45) rfl rfl k) ?_
  show own_G p.tables e below _ (T81.setTop (mkF m 46 #[.val (.ref x0), .val x1, .val (.int (1 : Int32))] [(.ref x0)]))
  obtain ⟨T83, X83, e83, st83⟩ := getF X81 hx hZ hown (host := "") (Or.inl (hw _ (List.mem_of_getElem? (i := 39) rfl))) Via.refl e81 p1_ (g := (mkF m 46 #[.val (.ref x0), .val x1, .val (.int (1 : Int32))] [(.ref x0)])) rfl rfl (hb hby d10_46)
  refine own_go st83 ?_
  show own_G p.tables e below _ (T83.setTop (mkF m 49 #[.val (.ref x0), .val x1, .val (.int (1 : Int32))] [(.ref ar)]))
  refine own_go (fun _ k => XS.iloadN X83.here hx rfl (hb hby d10_49) rfl k) ?_
  show own_G p.tables e below _ (T83.setTop (mkF m 50 #[.val (.ref x0), .val x1, .val (.int (1 : Int32))] [(.int (1 : Int32)), (.ref ar)]))
  refine own_go (fun _ k => XS.aloadN X83.here hx rfl (hb hby d10_50) rfl hx1 k) ?_
  show own_G p.tables e below _ (T83.setTop (mkF m 51 #[.val (.ref x0), .val x1, .val (.int (1 : Int32))] [x1, (.int (1 : Int32)), (.ref ar)]))
  obtain ⟨cl84, Ar84, q84, S84, N84, H84, G84⟩ := id p3_
  obtain ⟨T84, h84, X84, e84, W84, st84⟩ := stR X83 hx hZ e83 Ar84 (j := (1 : Int32)) (inb_of S84 ⟨by decide, by decide⟩) rfl (own_sto (hw _ (List.mem_of_getElem? (i := 69) rfl)) O_k Ar84 q84 Avx) (g := (mkF m 51 #[.val (.ref x0), .val x1, .val (.int (1 : Int32))] [x1, (.int (1 : Int32)), (.ref ar)])) rfl rfl (hb hby d10_51)
  have X_85 := p0_.wr W84
  have F_86 := p1_.other W84 (Or.inl p6_)
  have F_87 := p2_.other W84 (Or.inl p6_)
  have Av_88 := own_avW Avx W84
  have V84 : Arv Z h84 ar k (.object "com/example/plainsong/plainsong/engine/CallStack$Activation") (16 : Int32) [w0, x1, w2] .null := Arv.set Ar84 q84 S84 N84 H84 G84 (own_fit hx1) W84 1 rfl (Nat.le_of_ble_eq_true rfl)
  have Z_89 : n0 ≤ h84.size := Nat.le_trans Z0 (Nat.le_of_eq W84.size.symm)
  have KP_90 : Keep h0 h84 [x0, ar] := KP0.wr W84 (Or.inl (List.mem_of_getElem? (i := 1) rfl))
  have N_84 := Fr.snoc X84 N0 p5_
  refine own_go st84 ?_
  show own_G p.tables e below _ (T84.setTop (mkF m 52 #[.val (.ref x0), .val x1, .val (.int (1 : Int32))] []))
  refine own_go (fun _ k => XS.aloadN X84.here hx rfl (hb hby d10_52) rfl rfl k) ?_
  show own_G p.tables e below _ (T84.setTop (mkF m 53 #[.val (.ref x0), .val x1, .val (.int (1 : Int32))] [(.ref x0)]))
  refine own_go (fun _ k => XS.iloadN X84.here hx rfl (hb hby d10_53) rfl k) ?_
  show own_G p.tables e below _ (T84.setTop (mkF m 54 #[.val (.ref x0), .val x1, .val (.int (1 : Int32))] [(.int (1 : Int32)), (.ref x0)]))
  refine own_go (fun _ k => XS.iconst X84.here hx rfl (hb hby d10_54) k) ?_
  show own_G p.tables e below _ (T84.setTop (mkF m 55 #[.val (.ref x0), .val x1, .val (.int (1 : Int32))] [(.int (1 : Int32)), (.int (1 : Int32)), (.ref x0)]))
  refine own_go (fun _ k => XS.iadd X84.here hx rfl (hb hby d10_55) rfl k) ?_
  show own_G p.tables e below _ (T84.setTop (mkF m 56 #[.val (.ref x0), .val x1, .val (.int (1 : Int32))] [(.int (2 : Int32)), (.ref x0)]))
  obtain ⟨T91, h91, X91, e91, W91, st91⟩ := putF X84 hx hZ hown (host := "") (Or.inl (hw _ (List.mem_of_getElem? (i := 48) rfl))) Via.refl e84 F_87 X_85 (Or.inl (hw _ (List.mem_of_getElem? (i := 49) rfl))) (hw _ (List.mem_of_getElem? (i := 11) rfl)) (ty := .int) (by decide) rfl rfl (g := (mkF m 56 #[.val (.ref x0), .val x1, .val (.int (1 : Int32))] [(.int (2 : Int32)), (.ref x0)])) rfl rfl (hb hby d10_56)
  have X_92 := X_85.wr W91
  have F_93 := F_86.other W91 (Or.inr (slot_ne (Or.inl (hw _ (List.mem_of_getElem? (i := 40) rfl))) (Or.inl (hw _ (List.mem_of_getElem? (i := 49) rfl))) (by decide) (t := (.array (.object "com/example/plainsong/plainsong/engine/CallStack$Activation"))) (t' := .int) (by decide) (by decide)))
  have V_94 := V84.other W91 (Ne.symm p6_)
  have Av_95 := own_avW Av_88 W91
  have F_96 := F_87.same W91
  have Z_97 : n0 ≤ h91.size := Nat.le_trans Z_89 (Nat.le_of_eq W91.size.symm)
  have KP_98 : Keep h0 h91 [x0, ar] := KP_90.wr W91 (Or.inl (List.mem_of_getElem? (i := 0) rfl))
  have N_91 := Fr.snoc X91 N_84 p4_
  refine own_go st91 ?_
  show own_G p.tables e below _ (T91.setTop (mkF m 59 #[.val (.ref x0), .val x1, .val (.int (1 : Int32))] []))
  exact own_end X91 Bd.notSynchronized (v := none) (fun _ => rfl) (Q := Q_rm_push1 Z x0 x1 ar k w0 w1 w2 h0 n0) (by show Q_rm_push1 Z x0 x1 ar k w0 w1 w2 h0 n0 (none) T91.heap _; rw [e91]; exact ⟨rfl, N_91, KP_98, X_92, F_93, F_96, V_94⟩) (fun fs hr => X91.returnOut hx Bd.returns (hb hby d10_59) hr) (by decide) (by decide)
def Q_rm_push2 (Z : State) (x0 : Addr) (x1 : Value) (ar : Addr) (k : ClassId) (w0 w1 w2 : Value) (h0 : Heap) (n0 : Nat) (v : Option Value) (h : Heap) (L : List Loc) : Prop := v = none ∧ Fr n0 L ∧ Keep h0 h [x0, ar] ∧ Exa Z h x0 "com/example/plainsong/plainsong/engine/CallStack" ∧ Fld Z h x0 "com/example/plainsong/plainsong/engine/CallStack" "activations" "[Lcom/example/plainsong/plainsong/engine/CallStack$Activation;" (.ref ar) ∧ Fld Z h x0 "com/example/plainsong/plainsong/engine/CallStack" "depth" "I" (.int (3 : Int32)) ∧ Arv Z h ar k (.object "com/example/plainsong/plainsong/engine/CallStack$Activation") (16 : Int32) [w0, w1, x1] .null
set_option maxRecDepth 65536 in
set_option maxHeartbeats 40000000 in
theorem rm_push2 (l : Launch) (Z : State) (a0 : Array Value) (hw : ∀ d ∈ tables_1, d.before a0 Z = true) (ws : List Jvm.Cond) (x0 : Addr) (x1 : Value) (ar : Addr) (k : ClassId) (w0 w1 w2 : Value) (h0 : Heap) (n0 : Nat) (Z0 : n0 ≤ h0.size) (p0_ : Exa Z h0 x0 "com/example/plainsong/plainsong/engine/CallStack") (p1_ : Fld Z h0 x0 "com/example/plainsong/plainsong/engine/CallStack" "activations" "[Lcom/example/plainsong/plainsong/engine/CallStack$Activation;" (.ref ar)) (p2_ : Fld Z h0 x0 "com/example/plainsong/plainsong/engine/CallStack" "depth" "I" (.int (2 : Int32))) (p3_ : Arv Z h0 ar k (.object "com/example/plainsong/plainsong/engine/CallStack$Activation") (16 : Int32) [w0, w1, w2] .null) (p4_ : n0 ≤ x0) (p5_ : n0 ≤ ar) (p6_ : x0 ≠ ar) (hx1 : x1.isRef = true) (O_k : Ovr Z k "com/example/plainsong/plainsong/engine/CallStack$Activation") (Avx : own_Av Z h0 x1) :
    MetFree l (⟨"com/example/plainsong/plainsong/engine/CallStack", "push", "(Lcom/example/plainsong/plainsong/engine/CallStack$Activation;)V"⟩ : MethodName) (head1 (Jvm.Cond.code (⟨"com/example/plainsong/plainsong/engine/CallStack", "push", "(Lcom/example/plainsong/plainsong/engine/CallStack$Activation;)V"⟩ : MethodName) prog_36_method_8_code 3 none :: ws) ({ frames := 0, cells := 0, slots := 0, locals := 0 } : Room)) (fun a U => a = #[(.ref x0), x1] ∧ Z.Warmed39 U.vm ∧ U.heap = h0) (fun _ _ _ _ _ => True) (fun _ U o U' => ∃ v L, o = .returned v ∧ Q_rm_push2 Z x0 x1 ar k w0 w1 w2 h0 n0 v U'.heap L ∧ FrameEnd U o U' L ({ frames := 0, cells := 0, slots := 0, locals := 0 } : Room).cells ({ frames := 0, cells := 0, slots := 0, locals := 0 } : Room).slots) := by
  refine MetFree.of_bodySF (plainFor_of_name own_pn3) hisR ?_
  intro p e s m args below meth c s₁ Bd hml0 hP hK
  obtain ⟨rfl, hZ, hh⟩ := hP
  have hx := Bd.exec
  have hby := Bd.bytes
  have hml : c.maxLocals = 3 := hml0
  have hown : s.vm.findClass "com/example/plainsong/plainsong/engine/CallStack" = some m.cls := findClass_of_methodNamed Bd.named
  have hnm := (name_of_methodNamed Bd.named Bd.method).1
  have X0 : Stand p l e ({ frames := 0, cells := 0, slots := 0, locals := 0 } : Room) s m #[(.ref x0), x1] below meth c s₁ [] 0 0 := Stand.of_body Bd
  have e0 : s₁.heap = h0 := by rw [← hh, Bd.state]; rfl
  show own_G p.tables e below (fun o U' => ∃ v L, o = .returned v ∧ Q_rm_push2 Z x0 x1 ar k w0 w1 w2 h0 n0 v U'.heap L ∧ FrameEnd s o U' L ({ frames := 0, cells := 0, slots := 0, locals := 0 } : Room).cells ({ frames := 0, cells := 0, slots := 0, locals := 0 } : Room).slots) (s₁.setTop (entryFrame m #[(.ref x0), x1] 3))
  refine own_go (fun _ k => castTop (ef_10_RV m x0 x1 hx1) k) ?_
  have N0 := Fr.nil n0
  have KP0 := Keep.refl h0 [x0, ar]
  show own_G p.tables e below _ (s₁.setTop (mkF m 0 #[.val (.ref x0), .val x1, .unset] []))
  refine own_go (fun _ k => XS.aloadN X0.here hx rfl (hb hby d10_0) rfl rfl k) ?_
  show own_G p.tables e below _ (s₁.setTop (mkF m 1 #[.val (.ref x0), .val x1, .unset] [(.ref x0)]))
  obtain ⟨T99, X99, e99, st99⟩ := getF X0 hx hZ hown (host := "") (Or.inl (hw _ (List.mem_of_getElem? (i := 48) rfl))) Via.refl e0 p2_ (g := (mkF m 1 #[.val (.ref x0), .val x1, .unset] [(.ref x0)])) rfl rfl (hb hby d10_1)
  refine own_go st99 ?_
  show own_G p.tables e below _ (T99.setTop (mkF m 4 #[.val (.ref x0), .val x1, .unset] [(.int (2 : Int32))]))
  refine own_go (fun _ k => XS.istoreN X99.here hx rfl (hb hby d10_4) rfl (l' := #[.val (.ref x0), .val x1, .val (.int (2 : Int32))]) rfl k) ?_
  show own_G p.tables e below _ (T99.setTop (mkF m 5 #[.val (.ref x0), .val x1, .val (.int (2 : Int32))] []))
  refine own_go (fun _ k => XS.iloadN X99.here hx rfl (hb hby d10_5) rfl k) ?_
  show own_G p.tables e below _ (T99.setTop (mkF m 6 #[.val (.ref x0), .val x1, .val (.int (2 : Int32))] [(.int (2 : Int32))]))
  refine own_go (fun _ k => X99.ldcInt hx hown (mvT hZ (hw _ (List.mem_of_getElem? (i := 68) rfl))) (g := (mkF m 6 #[.val (.ref x0), .val x1, .val (.int (2 : Int32))] [(.int (2 : Int32))])) rfl (hb hby d10_6) _ k) ?_
  show own_G p.tables e below _ (T99.setTop (mkF m 8 #[.val (.ref x0), .val x1, .val (.int (2 : Int32))] [(.int (1000000 : Int32)), (.int (2 : Int32))]))
  refine own_go (fun _ k => XS.icmpYes X99.here hx rfl (pc0 := 8) (pc' := 19) rfl (hb hby d10_8) rfl ((tlt (by decide : (2 : Int32) < (1000000 : Int32))).1) (by decide) (by decide) k) ?_
  show own_G p.tables e below _ (T99.setTop (mkF m 19 #[.val (.ref x0), .val x1, .val (.int (2 : Int32))] []))
  refine own_go (fun _ k => XS.iloadN X99.here hx rfl (hb hby d10_19) rfl k) ?_
  show own_G p.tables e below _ (T99.setTop (mkF m 20 #[.val (.ref x0), .val x1, .val (.int (2 : Int32))] [(.int (2 : Int32))]))
  refine own_go (fun _ k => XS.aloadN X99.here hx rfl (hb hby d10_20) rfl rfl k) ?_
  show own_G p.tables e below _ (T99.setTop (mkF m 21 #[.val (.ref x0), .val x1, .val (.int (2 : Int32))] [(.ref x0), (.int (2 : Int32))]))
  obtain ⟨T100, X100, e100, st100⟩ := getF X99 hx hZ hown (host := "") (Or.inl (hw _ (List.mem_of_getElem? (i := 39) rfl))) Via.refl e99 p1_ (g := (mkF m 21 #[.val (.ref x0), .val x1, .val (.int (2 : Int32))] [(.ref x0), (.int (2 : Int32))])) rfl rfl (hb hby d10_21)
  refine own_go st100 ?_
  show own_G p.tables e below _ (T100.setTop (mkF m 24 #[.val (.ref x0), .val x1, .val (.int (2 : Int32))] [(.ref ar), (.int (2 : Int32))]))
  obtain ⟨cl101, Ar101, -, S101, N101, -, -⟩ := id p3_
  refine own_go (fun _ k => X100.arraylength hx (cell := cl101) (by rw [e100]; exact Ar101.1) (State.isArrayOf_alike hZ.alike Ar101.2.1) (g := (mkF m 24 #[.val (.ref x0), .val x1, .val (.int (2 : Int32))] [(.ref ar), (.int (2 : Int32))])) rfl rfl (hb hby d10_24) _ (by rw [len_of S101 N101]; exact k)) ?_
  show own_G p.tables e below _ (T100.setTop (mkF m 25 #[.val (.ref x0), .val x1, .val (.int (2 : Int32))] [(.int (16 : Int32)), (.int (2 : Int32))]))
  refine own_go (fun _ k => XS.icmpYes X100.here hx rfl (pc0 := 25) (pc' := 45) rfl (hb hby d10_25) rfl ((feq (by decide : ¬ ((2 : Int32) = (16 : Int32)))).2) (by decide) (by decide) k) ?_
  show own_G p.tables e below _ (T100.setTop (mkF m 45 #[.val (.ref x0), .val x1, .val (.int (2 : Int32))] []))
  refine own_go (fun _ k => XS.aloadN X100.here hx rfl (hb hby d10_45) rfl rfl k) ?_
  show own_G p.tables e below _ (T100.setTop (mkF m 46 #[.val (.ref x0), .val x1, .val (.int (2 : Int32))] [(.ref x0)]))
  obtain ⟨T102, X102, e102, st102⟩ := getF X100 hx hZ hown (host := "") (Or.inl (hw _ (List.mem_of_getElem? (i := 39) rfl))) Via.refl e100 p1_ (g := (mkF m 46 #[.val (.ref x0), .val x1, .val (.int (2 : Int32))] [(.ref x0)])) rfl rfl (hb hby d10_46)
  refine own_go st102 ?_
  show own_G p.tables e below _ (T102.setTop (mkF m 49 #[.val (.ref x0), .val x1, .val (.int (2 : Int32))] [(.ref ar)]))
  refine own_go (fun _ k => XS.iloadN X102.here hx rfl (hb hby d10_49) rfl k) ?_
  show own_G p.tables e below _ (T102.setTop (mkF m 50 #[.val (.ref x0), .val x1, .val (.int (2 : Int32))] [(.int (2 : Int32)), (.ref ar)]))
  refine own_go (fun _ k => XS.aloadN X102.here hx rfl (hb hby d10_50) rfl hx1 k) ?_
  show own_G p.tables e below _ (T102.setTop (mkF m 51 #[.val (.ref x0), .val x1, .val (.int (2 : Int32))] [x1, (.int (2 : Int32)), (.ref ar)]))
  obtain ⟨cl103, Ar103, q103, S103, N103, H103, G103⟩ := id p3_
  obtain ⟨T103, h103, X103, e103, W103, st103⟩ := stR X102 hx hZ e102 Ar103 (j := (2 : Int32)) (inb_of S103 ⟨by decide, by decide⟩) rfl (own_sto (hw _ (List.mem_of_getElem? (i := 69) rfl)) O_k Ar103 q103 Avx) (g := (mkF m 51 #[.val (.ref x0), .val x1, .val (.int (2 : Int32))] [x1, (.int (2 : Int32)), (.ref ar)])) rfl rfl (hb hby d10_51)
  have X_104 := p0_.wr W103
  have F_105 := p1_.other W103 (Or.inl p6_)
  have F_106 := p2_.other W103 (Or.inl p6_)
  have Av_107 := own_avW Avx W103
  have V103 : Arv Z h103 ar k (.object "com/example/plainsong/plainsong/engine/CallStack$Activation") (16 : Int32) [w0, w1, x1] .null := Arv.set Ar103 q103 S103 N103 H103 G103 (own_fit hx1) W103 2 rfl (Nat.le_of_ble_eq_true rfl)
  have Z_108 : n0 ≤ h103.size := Nat.le_trans Z0 (Nat.le_of_eq W103.size.symm)
  have KP_109 : Keep h0 h103 [x0, ar] := KP0.wr W103 (Or.inl (List.mem_of_getElem? (i := 1) rfl))
  have N_103 := Fr.snoc X103 N0 p5_
  refine own_go st103 ?_
  show own_G p.tables e below _ (T103.setTop (mkF m 52 #[.val (.ref x0), .val x1, .val (.int (2 : Int32))] []))
  refine own_go (fun _ k => XS.aloadN X103.here hx rfl (hb hby d10_52) rfl rfl k) ?_
  show own_G p.tables e below _ (T103.setTop (mkF m 53 #[.val (.ref x0), .val x1, .val (.int (2 : Int32))] [(.ref x0)]))
  refine own_go (fun _ k => XS.iloadN X103.here hx rfl (hb hby d10_53) rfl k) ?_
  show own_G p.tables e below _ (T103.setTop (mkF m 54 #[.val (.ref x0), .val x1, .val (.int (2 : Int32))] [(.int (2 : Int32)), (.ref x0)]))
  refine own_go (fun _ k => XS.iconst X103.here hx rfl (hb hby d10_54) k) ?_
  show own_G p.tables e below _ (T103.setTop (mkF m 55 #[.val (.ref x0), .val x1, .val (.int (2 : Int32))] [(.int (1 : Int32)), (.int (2 : Int32)), (.ref x0)]))
  refine own_go (fun _ k => XS.iadd X103.here hx rfl (hb hby d10_55) rfl k) ?_
  show own_G p.tables e below _ (T103.setTop (mkF m 56 #[.val (.ref x0), .val x1, .val (.int (2 : Int32))] [(.int (3 : Int32)), (.ref x0)]))
  obtain ⟨T110, h110, X110, e110, W110, st110⟩ := putF X103 hx hZ hown (host := "") (Or.inl (hw _ (List.mem_of_getElem? (i := 48) rfl))) Via.refl e103 F_106 X_104 (Or.inl (hw _ (List.mem_of_getElem? (i := 49) rfl))) (hw _ (List.mem_of_getElem? (i := 11) rfl)) (ty := .int) (by decide) rfl rfl (g := (mkF m 56 #[.val (.ref x0), .val x1, .val (.int (2 : Int32))] [(.int (3 : Int32)), (.ref x0)])) rfl rfl (hb hby d10_56)
  have X_111 := X_104.wr W110
  have F_112 := F_105.other W110 (Or.inr (slot_ne (Or.inl (hw _ (List.mem_of_getElem? (i := 40) rfl))) (Or.inl (hw _ (List.mem_of_getElem? (i := 49) rfl))) (by decide) (t := (.array (.object "com/example/plainsong/plainsong/engine/CallStack$Activation"))) (t' := .int) (by decide) (by decide)))
  have V_113 := V103.other W110 (Ne.symm p6_)
  have Av_114 := own_avW Av_107 W110
  have F_115 := F_106.same W110
  have Z_116 : n0 ≤ h110.size := Nat.le_trans Z_108 (Nat.le_of_eq W110.size.symm)
  have KP_117 : Keep h0 h110 [x0, ar] := KP_109.wr W110 (Or.inl (List.mem_of_getElem? (i := 0) rfl))
  have N_110 := Fr.snoc X110 N_103 p4_
  refine own_go st110 ?_
  show own_G p.tables e below _ (T110.setTop (mkF m 59 #[.val (.ref x0), .val x1, .val (.int (2 : Int32))] []))
  exact own_end X110 Bd.notSynchronized (v := none) (fun _ => rfl) (Q := Q_rm_push2 Z x0 x1 ar k w0 w1 w2 h0 n0) (by show Q_rm_push2 Z x0 x1 ar k w0 w1 w2 h0 n0 (none) T110.heap _; rw [e110]; exact ⟨rfl, N_110, KP_117, X_111, F_112, F_115, V_113⟩) (fun fs hr => X110.returnOut hx Bd.returns (hb hby d10_59) hr) (by decide) (by decide)
def Q_rm_tr00 (Z : State) (x0 : Addr) (ar : Addr) (k : ClassId) (w0 w1 w2 : Value) (h0 : Heap) (n0 : Nat) (v : Option Value) (h : Heap) (L : List Loc) : Prop := v = none ∧ Fr n0 L ∧ Keep h0 h [x0, ar] ∧ Exa Z h x0 "com/example/plainsong/plainsong/engine/CallStack" ∧ Fld Z h x0 "com/example/plainsong/plainsong/engine/CallStack" "activations" "[Lcom/example/plainsong/plainsong/engine/CallStack$Activation;" (.ref ar) ∧ Fld Z h x0 "com/example/plainsong/plainsong/engine/CallStack" "depth" "I" (.int (0 : Int32)) ∧ Arv Z h ar k (.object "com/example/plainsong/plainsong/engine/CallStack$Activation") (16 : Int32) [w0, w1, w2] .null
theorem d6_0 : decode prog_36_method_11_code 0 = .ok (.iload_n 1, 1) := by decide +kernel
theorem d6_1 : decode prog_36_method_11_code 1 = .ok (.istore_n 2, 1) := by decide +kernel
theorem d6_2 : decode prog_36_method_11_code 2 = .ok (.iload_n 2, 1) := by decide +kernel
theorem d6_3 : decode prog_36_method_11_code 3 = .ok (.aload_n 0, 1) := by decide +kernel
theorem d6_4 : decode prog_36_method_11_code 4 = .ok (.getfield 56, 3) := by decide +kernel
theorem d6_7 : decode prog_36_method_11_code 7 = .ok (.if_icmp .ge 16, 3) := by decide +kernel
theorem d6_10 : decode prog_36_method_11_code 10 = .ok (.aload_n 0, 1) := by decide +kernel
theorem d6_11 : decode prog_36_method_11_code 11 = .ok (.getfield 9, 3) := by decide +kernel
theorem d6_14 : decode prog_36_method_11_code 14 = .ok (.iload_n 2, 1) := by decide +kernel
theorem d6_15 : decode prog_36_method_11_code 15 = .ok (.aconst_null, 1) := by decide +kernel
theorem d6_16 : decode prog_36_method_11_code 16 = .ok (.aastore, 1) := by decide +kernel
theorem d6_17 : decode prog_36_method_11_code 17 = .ok (.iinc 2 1, 3) := by decide +kernel
theorem d6_20 : decode prog_36_method_11_code 20 = .ok (.goto (-18), 3) := by decide +kernel
theorem d6_23 : decode prog_36_method_11_code 23 = .ok (.aload_n 0, 1) := by decide +kernel
theorem d6_24 : decode prog_36_method_11_code 24 = .ok (.iload_n 1, 1) := by decide +kernel
theorem d6_25 : decode prog_36_method_11_code 25 = .ok (.putfield 56, 3) := by decide +kernel
theorem d6_28 : decode prog_36_method_11_code 28 = .ok (.return_, 1) := by decide +kernel
theorem ef_6_RI (m : MethodId) (x0 : Addr) (x1 : Int32) : entryFrame m #[(.ref x0), (.int x1)] 3 = mkF m 0 #[.val (.ref x0), .val (.int x1), .unset] [] := by
  first | (simp [entryFrame, mkF, argsToLocals, Value.category]; done) | rfl
set_option maxRecDepth 65536 in
set_option maxHeartbeats 40000000 in
theorem rm_tr00 (l : Launch) (Z : State) (a0 : Array Value) (hw : ∀ d ∈ tables_1, d.before a0 Z = true) (ws : List Jvm.Cond) (x0 : Addr) (ar : Addr) (k : ClassId) (w0 w1 w2 : Value) (h0 : Heap) (n0 : Nat) (Z0 : n0 ≤ h0.size) (p0_ : Exa Z h0 x0 "com/example/plainsong/plainsong/engine/CallStack") (p1_ : Fld Z h0 x0 "com/example/plainsong/plainsong/engine/CallStack" "activations" "[Lcom/example/plainsong/plainsong/engine/CallStack$Activation;" (.ref ar)) (p2_ : Fld Z h0 x0 "com/example/plainsong/plainsong/engine/CallStack" "depth" "I" (.int (0 : Int32))) (p3_ : Arv Z h0 ar k (.object "com/example/plainsong/plainsong/engine/CallStack$Activation") (16 : Int32) [w0, w1, w2] .null) (p4_ : n0 ≤ x0) (p5_ : n0 ≤ ar) (p6_ : x0 ≠ ar)  :
    MetFree l (⟨"com/example/plainsong/plainsong/engine/CallStack", "truncate", "(I)V"⟩ : MethodName) (head1 (Jvm.Cond.code (⟨"com/example/plainsong/plainsong/engine/CallStack", "truncate", "(I)V"⟩ : MethodName) prog_36_method_11_code 3 none :: ws) ({ frames := 0, cells := 0, slots := 0, locals := 0 } : Room)) (fun a U => a = #[(.ref x0), (.int (0 : Int32))] ∧ Z.Warmed39 U.vm ∧ U.heap = h0) (fun _ _ _ _ _ => True) (fun _ U o U' => ∃ v L, o = .returned v ∧ Q_rm_tr00 Z x0 ar k w0 w1 w2 h0 n0 v U'.heap L ∧ FrameEnd U o U' L ({ frames := 0, cells := 0, slots := 0, locals := 0 } : Room).cells ({ frames := 0, cells := 0, slots := 0, locals := 0 } : Room).slots) := by
  refine MetFree.of_bodySF (plainFor_of_name own_pn3) hisR ?_
  intro p e s m args below meth c s₁ Bd hml0 hP hK
  obtain ⟨rfl, hZ, hh⟩ := hP
  have hx := Bd.exec
  have hby := Bd.bytes
  have hml : c.maxLocals = 3 := hml0
  have hown : s.vm.findClass "com/example/plainsong/plainsong/engine/CallStack" = some m.cls := findClass_of_methodNamed Bd.named
  have hnm := (name_of_methodNamed Bd.named Bd.method).1
  have X0 : Stand p l e ({ frames := 0, cells := 0, slots := 0, locals := 0 } : Room) s m #[(.ref x0), (.int (0 : Int32))] below meth c s₁ [] 0 0 := Stand.of_body Bd
  have e0 : s₁.heap = h0 := by rw [← hh, Bd.state]; rfl
  show own_G p.tables e below (fun o U' => ∃ v L, o = .returned v ∧ Q_rm_tr00 Z x0 ar k w0 w1 w2 h0 n0 v U'.heap L ∧ FrameEnd s o U' L ({ frames := 0, cells := 0, slots := 0, locals := 0 } : Room).cells ({ frames := 0, cells := 0, slots := 0, locals := 0 } : Room).slots) (s₁.setTop (entryFrame m #[(.ref x0), (.int (0 : Int32))] 3))
  refine own_go (fun _ k => castTop (ef_6_RI m x0 (0 : Int32)) k) ?_
  have N0 := Fr.nil n0
  have KP0 := Keep.refl h0 [x0, ar]
  show own_G p.tables e below _ (s₁.setTop (mkF m 0 #[.val (.ref x0), .val (.int (0 : Int32)), .unset] []))
  refine own_go (fun _ k => XS.iloadN X0.here hx rfl (hb hby d6_0) rfl k) ?_
  show own_G p.tables e below _ (s₁.setTop (mkF m 1 #[.val (.ref x0), .val (.int (0 : Int32)), .unset] [(.int (0 : Int32))]))
  refine own_go (fun _ k => XS.istoreN X0.here hx rfl (hb hby d6_1) rfl (l' := #[.val (.ref x0), .val (.int (0 : Int32)), .val (.int (0 : Int32))]) rfl k) ?_
  show own_G p.tables e below _ (s₁.setTop (mkF m 2 #[.val (.ref x0), .val (.int (0 : Int32)), .val (.int (0 : Int32))] []))
  refine own_go (fun _ k => XS.iloadN X0.here hx rfl (hb hby d6_2) rfl k) ?_
  show own_G p.tables e below _ (s₁.setTop (mkF m 3 #[.val (.ref x0), .val (.int (0 : Int32)), .val (.int (0 : Int32))] [(.int (0 : Int32))]))
  refine own_go (fun _ k => XS.aloadN X0.here hx rfl (hb hby d6_3) rfl rfl k) ?_
  show own_G p.tables e below _ (s₁.setTop (mkF m 4 #[.val (.ref x0), .val (.int (0 : Int32)), .val (.int (0 : Int32))] [(.ref x0), (.int (0 : Int32))]))
  obtain ⟨T118, X118, e118, st118⟩ := getF X0 hx hZ hown (host := "") (Or.inl (hw _ (List.mem_of_getElem? (i := 48) rfl))) Via.refl e0 p2_ (g := (mkF m 4 #[.val (.ref x0), .val (.int (0 : Int32)), .val (.int (0 : Int32))] [(.ref x0), (.int (0 : Int32))])) rfl rfl (hb hby d6_4)
  refine own_go st118 ?_
  show own_G p.tables e below _ (T118.setTop (mkF m 7 #[.val (.ref x0), .val (.int (0 : Int32)), .val (.int (0 : Int32))] [(.int (0 : Int32)), (.int (0 : Int32))]))
  refine own_go (fun _ k => XS.icmpYes X118.here hx rfl (pc0 := 7) (pc' := 23) rfl (hb hby d6_7) rfl ((flt (by decide : ¬ ((0 : Int32) < (0 : Int32)))).2.1) (by decide) (by decide) k) ?_
  show own_G p.tables e below _ (T118.setTop (mkF m 23 #[.val (.ref x0), .val (.int (0 : Int32)), .val (.int (0 : Int32))] []))
  refine own_go (fun _ k => XS.aloadN X118.here hx rfl (hb hby d6_23) rfl rfl k) ?_
  show own_G p.tables e below _ (T118.setTop (mkF m 24 #[.val (.ref x0), .val (.int (0 : Int32)), .val (.int (0 : Int32))] [(.ref x0)]))
  refine own_go (fun _ k => XS.iloadN X118.here hx rfl (hb hby d6_24) rfl k) ?_
  show own_G p.tables e below _ (T118.setTop (mkF m 25 #[.val (.ref x0), .val (.int (0 : Int32)), .val (.int (0 : Int32))] [(.int (0 : Int32)), (.ref x0)]))
  obtain ⟨T119, h119, X119, e119, W119, st119⟩ := putF X118 hx hZ hown (host := "") (Or.inl (hw _ (List.mem_of_getElem? (i := 48) rfl))) Via.refl e118 p2_ p0_ (Or.inl (hw _ (List.mem_of_getElem? (i := 49) rfl))) (hw _ (List.mem_of_getElem? (i := 11) rfl)) (ty := .int) (by decide) rfl rfl (g := (mkF m 25 #[.val (.ref x0), .val (.int (0 : Int32)), .val (.int (0 : Int32))] [(.int (0 : Int32)), (.ref x0)])) rfl rfl (hb hby d6_25)
  have X_120 := p0_.wr W119
  have F_121 := p1_.other W119 (Or.inr (slot_ne (Or.inl (hw _ (List.mem_of_getElem? (i := 40) rfl))) (Or.inl (hw _ (List.mem_of_getElem? (i := 49) rfl))) (by decide) (t := (.array (.object "com/example/plainsong/plainsong/engine/CallStack$Activation"))) (t' := .int) (by decide) (by decide)))
  have V_122 := p3_.other W119 (Ne.symm p6_)
  have F_123 := p2_.same W119
  have Z_124 : n0 ≤ h119.size := Nat.le_trans Z0 (Nat.le_of_eq W119.size.symm)
  have KP_125 : Keep h0 h119 [x0, ar] := KP0.wr W119 (Or.inl (List.mem_of_getElem? (i := 0) rfl))
  have N_119 := Fr.snoc X119 N0 p4_
  refine own_go st119 ?_
  show own_G p.tables e below _ (T119.setTop (mkF m 28 #[.val (.ref x0), .val (.int (0 : Int32)), .val (.int (0 : Int32))] []))
  exact own_end X119 Bd.notSynchronized (v := none) (fun _ => rfl) (Q := Q_rm_tr00 Z x0 ar k w0 w1 w2 h0 n0) (by show Q_rm_tr00 Z x0 ar k w0 w1 w2 h0 n0 (none) T119.heap _; rw [e119]; exact ⟨rfl, N_119, KP_125, X_120, F_121, F_123, V_122⟩) (fun fs hr => X119.returnOut hx Bd.returns (hb hby d6_28) hr) (by decide) (by decide)
def Q_rm_tr10 (Z : State) (x0 : Addr) (ar : Addr) (k : ClassId) (w0 w1 w2 : Value) (h0 : Heap) (n0 : Nat) (v : Option Value) (h : Heap) (L : List Loc) : Prop := v = none ∧ Fr n0 L ∧ Keep h0 h [x0, ar] ∧ Exa Z h x0 "com/example/plainsong/plainsong/engine/CallStack" ∧ Fld Z h x0 "com/example/plainsong/plainsong/engine/CallStack" "activations" "[Lcom/example/plainsong/plainsong/engine/CallStack$Activation;" (.ref ar) ∧ Fld Z h x0 "com/example/plainsong/plainsong/engine/CallStack" "depth" "I" (.int (0 : Int32)) ∧ Arv Z h ar k (.object "com/example/plainsong/plainsong/engine/CallStack$Activation") (16 : Int32) [.null, w1, w2] .null
set_option maxRecDepth 65536 in
set_option maxHeartbeats 40000000 in
theorem rm_tr10 (l : Launch) (Z : State) (a0 : Array Value) (hw : ∀ d ∈ tables_1, d.before a0 Z = true) (ws : List Jvm.Cond) (x0 : Addr) (ar : Addr) (k : ClassId) (w0 w1 w2 : Value) (h0 : Heap) (n0 : Nat) (Z0 : n0 ≤ h0.size) (p0_ : Exa Z h0 x0 "com/example/plainsong/plainsong/engine/CallStack") (p1_ : Fld Z h0 x0 "com/example/plainsong/plainsong/engine/CallStack" "activations" "[Lcom/example/plainsong/plainsong/engine/CallStack$Activation;" (.ref ar)) (p2_ : Fld Z h0 x0 "com/example/plainsong/plainsong/engine/CallStack" "depth" "I" (.int (1 : Int32))) (p3_ : Arv Z h0 ar k (.object "com/example/plainsong/plainsong/engine/CallStack$Activation") (16 : Int32) [w0, w1, w2] .null) (p4_ : n0 ≤ x0) (p5_ : n0 ≤ ar) (p6_ : x0 ≠ ar)  :
    MetFree l (⟨"com/example/plainsong/plainsong/engine/CallStack", "truncate", "(I)V"⟩ : MethodName) (head1 (Jvm.Cond.code (⟨"com/example/plainsong/plainsong/engine/CallStack", "truncate", "(I)V"⟩ : MethodName) prog_36_method_11_code 3 none :: ws) ({ frames := 0, cells := 0, slots := 0, locals := 0 } : Room)) (fun a U => a = #[(.ref x0), (.int (0 : Int32))] ∧ Z.Warmed39 U.vm ∧ U.heap = h0) (fun _ _ _ _ _ => True) (fun _ U o U' => ∃ v L, o = .returned v ∧ Q_rm_tr10 Z x0 ar k w0 w1 w2 h0 n0 v U'.heap L ∧ FrameEnd U o U' L ({ frames := 0, cells := 0, slots := 0, locals := 0 } : Room).cells ({ frames := 0, cells := 0, slots := 0, locals := 0 } : Room).slots) := by
  refine MetFree.of_bodySF (plainFor_of_name own_pn3) hisR ?_
  intro p e s m args below meth c s₁ Bd hml0 hP hK
  obtain ⟨rfl, hZ, hh⟩ := hP
  have hx := Bd.exec
  have hby := Bd.bytes
  have hml : c.maxLocals = 3 := hml0
  have hown : s.vm.findClass "com/example/plainsong/plainsong/engine/CallStack" = some m.cls := findClass_of_methodNamed Bd.named
  have hnm := (name_of_methodNamed Bd.named Bd.method).1
  have X0 : Stand p l e ({ frames := 0, cells := 0, slots := 0, locals := 0 } : Room) s m #[(.ref x0), (.int (0 : Int32))] below meth c s₁ [] 0 0 := Stand.of_body Bd
  have e0 : s₁.heap = h0 := by rw [← hh, Bd.state]; rfl
  show own_G p.tables e below (fun o U' => ∃ v L, o = .returned v ∧ Q_rm_tr10 Z x0 ar k w0 w1 w2 h0 n0 v U'.heap L ∧ FrameEnd s o U' L ({ frames := 0, cells := 0, slots := 0, locals := 0 } : Room).cells ({ frames := 0, cells := 0, slots := 0, locals := 0 } : Room).slots) (s₁.setTop (entryFrame m #[(.ref x0), (.int (0 : Int32))] 3))
  refine own_go (fun _ k => castTop (ef_6_RI m x0 (0 : Int32)) k) ?_
  have N0 := Fr.nil n0
  have KP0 := Keep.refl h0 [x0, ar]
  show own_G p.tables e below _ (s₁.setTop (mkF m 0 #[.val (.ref x0), .val (.int (0 : Int32)), .unset] []))
  refine own_go (fun _ k => XS.iloadN X0.here hx rfl (hb hby d6_0) rfl k) ?_
  show own_G p.tables e below _ (s₁.setTop (mkF m 1 #[.val (.ref x0), .val (.int (0 : Int32)), .unset] [(.int (0 : Int32))]))
  refine own_go (fun _ k => XS.istoreN X0.here hx rfl (hb hby d6_1) rfl (l' := #[.val (.ref x0), .val (.int (0 : Int32)), .val (.int (0 : Int32))]) rfl k) ?_
  show own_G p.tables e below _ (s₁.setTop (mkF m 2 #[.val (.ref x0), .val (.int (0 : Int32)), .val (.int (0 : Int32))] []))
  refine own_go (fun _ k => XS.iloadN X0.here hx rfl (hb hby d6_2) rfl k) ?_
  show own_G p.tables e below _ (s₁.setTop (mkF m 3 #[.val (.ref x0), .val (.int (0 : Int32)), .val (.int (0 : Int32))] [(.int (0 : Int32))]))
  refine own_go (fun _ k => XS.aloadN X0.here hx rfl (hb hby d6_3) rfl rfl k) ?_
  show own_G p.tables e below _ (s₁.setTop (mkF m 4 #[.val (.ref x0), .val (.int (0 : Int32)), .val (.int (0 : Int32))] [(.ref x0), (.int (0 : Int32))]))
  obtain ⟨T126, X126, e126, st126⟩ := getF X0 hx hZ hown (host := "") (Or.inl (hw _ (List.mem_of_getElem? (i := 48) rfl))) Via.refl e0 p2_ (g := (mkF m 4 #[.val (.ref x0), .val (.int (0 : Int32)), .val (.int (0 : Int32))] [(.ref x0), (.int (0 : Int32))])) rfl rfl (hb hby d6_4)
  refine own_go st126 ?_
  show own_G p.tables e below _ (T126.setTop (mkF m 7 #[.val (.ref x0), .val (.int (0 : Int32)), .val (.int (0 : Int32))] [(.int (1 : Int32)), (.int (0 : Int32))]))
  refine own_go (fun _ k => XS.icmpNo X126.here hx rfl (hb hby d6_7) rfl ((tlt (by decide : (0 : Int32) < (1 : Int32))).2.1) k) ?_
  show own_G p.tables e below _ (T126.setTop (mkF m 10 #[.val (.ref x0), .val (.int (0 : Int32)), .val (.int (0 : Int32))] []))
  refine own_go (fun _ k => XS.aloadN X126.here hx rfl (hb hby d6_10) rfl rfl k) ?_
  show own_G p.tables e below _ (T126.setTop (mkF m 11 #[.val (.ref x0), .val (.int (0 : Int32)), .val (.int (0 : Int32))] [(.ref x0)]))
  obtain ⟨T127, X127, e127, st127⟩ := getF X126 hx hZ hown (host := "") (Or.inl (hw _ (List.mem_of_getElem? (i := 39) rfl))) Via.refl e126 p1_ (g := (mkF m 11 #[.val (.ref x0), .val (.int (0 : Int32)), .val (.int (0 : Int32))] [(.ref x0)])) rfl rfl (hb hby d6_11)
  refine own_go st127 ?_
  show own_G p.tables e below _ (T127.setTop (mkF m 14 #[.val (.ref x0), .val (.int (0 : Int32)), .val (.int (0 : Int32))] [(.ref ar)]))
  refine own_go (fun _ k => XS.iloadN X127.here hx rfl (hb hby d6_14) rfl k) ?_
  show own_G p.tables e below _ (T127.setTop (mkF m 15 #[.val (.ref x0), .val (.int (0 : Int32)), .val (.int (0 : Int32))] [(.int (0 : Int32)), (.ref ar)]))
  refine own_go (fun _ k => XS.aconstNull X127.here hx rfl (hb hby d6_15) k) ?_
  show own_G p.tables e below _ (T127.setTop (mkF m 16 #[.val (.ref x0), .val (.int (0 : Int32)), .val (.int (0 : Int32))] [.null, (.int (0 : Int32)), (.ref ar)]))
  obtain ⟨cl128, Ar128, q128, S128, N128, H128, G128⟩ := id p3_
  obtain ⟨T128, h128, X128, e128, W128, st128⟩ := stR X127 hx hZ e127 Ar128 (j := (0 : Int32)) (inb_of S128 ⟨by decide, by decide⟩) rfl (Or.inl rfl) (g := (mkF m 16 #[.val (.ref x0), .val (.int (0 : Int32)), .val (.int (0 : Int32))] [.null, (.int (0 : Int32)), (.ref ar)])) rfl rfl (hb hby d6_16)
  have X_129 := p0_.wr W128
  have F_130 := p1_.other W128 (Or.inl p6_)
  have F_131 := p2_.other W128 (Or.inl p6_)
  have V128 : Arv Z h128 ar k (.object "com/example/plainsong/plainsong/engine/CallStack$Activation") (16 : Int32) [.null, w1, w2] .null := Arv.set Ar128 q128 S128 N128 H128 G128 rfl W128 0 rfl (Nat.le_of_ble_eq_true rfl)
  have Z_132 : n0 ≤ h128.size := Nat.le_trans Z0 (Nat.le_of_eq W128.size.symm)
  have KP_133 : Keep h0 h128 [x0, ar] := KP0.wr W128 (Or.inl (List.mem_of_getElem? (i := 1) rfl))
  have N_128 := Fr.snoc X128 N0 p5_
  refine own_go st128 ?_
  show own_G p.tables e below _ (T128.setTop (mkF m 17 #[.val (.ref x0), .val (.int (0 : Int32)), .val (.int (0 : Int32))] []))
  refine own_go (fun _ k => XS.iinc X128.here hx rfl (hb hby d6_17) rfl (l' := #[.val (.ref x0), .val (.int (0 : Int32)), .val (.int (1 : Int32))]) rfl k) ?_
  show own_G p.tables e below _ (T128.setTop (mkF m 20 #[.val (.ref x0), .val (.int (0 : Int32)), .val (.int (1 : Int32))] []))
  refine own_go (fun _ k => XS.goto X128.here hx rfl (pc0 := 20) (pc' := 2) rfl (hb hby d6_20) (by decide) (by decide) k) ?_
  show own_G p.tables e below _ (T128.setTop (mkF m 2 #[.val (.ref x0), .val (.int (0 : Int32)), .val (.int (1 : Int32))] []))
  refine own_go (fun _ k => XS.iloadN X128.here hx rfl (hb hby d6_2) rfl k) ?_
  show own_G p.tables e below _ (T128.setTop (mkF m 3 #[.val (.ref x0), .val (.int (0 : Int32)), .val (.int (1 : Int32))] [(.int (1 : Int32))]))
  refine own_go (fun _ k => XS.aloadN X128.here hx rfl (hb hby d6_3) rfl rfl k) ?_
  show own_G p.tables e below _ (T128.setTop (mkF m 4 #[.val (.ref x0), .val (.int (0 : Int32)), .val (.int (1 : Int32))] [(.ref x0), (.int (1 : Int32))]))
  obtain ⟨T134, X134, e134, st134⟩ := getF X128 hx hZ hown (host := "") (Or.inl (hw _ (List.mem_of_getElem? (i := 48) rfl))) Via.refl e128 F_131 (g := (mkF m 4 #[.val (.ref x0), .val (.int (0 : Int32)), .val (.int (1 : Int32))] [(.ref x0), (.int (1 : Int32))])) rfl rfl (hb hby d6_4)
  refine own_go st134 ?_
  show own_G p.tables e below _ (T134.setTop (mkF m 7 #[.val (.ref x0), .val (.int (0 : Int32)), .val (.int (1 : Int32))] [(.int (1 : Int32)), (.int (1 : Int32))]))
  refine own_go (fun _ k => XS.icmpYes X134.here hx rfl (pc0 := 7) (pc' := 23) rfl (hb hby d6_7) rfl ((flt (by decide : ¬ ((1 : Int32) < (1 : Int32)))).2.1) (by decide) (by decide) k) ?_
  show own_G p.tables e below _ (T134.setTop (mkF m 23 #[.val (.ref x0), .val (.int (0 : Int32)), .val (.int (1 : Int32))] []))
  refine own_go (fun _ k => XS.aloadN X134.here hx rfl (hb hby d6_23) rfl rfl k) ?_
  show own_G p.tables e below _ (T134.setTop (mkF m 24 #[.val (.ref x0), .val (.int (0 : Int32)), .val (.int (1 : Int32))] [(.ref x0)]))
  refine own_go (fun _ k => XS.iloadN X134.here hx rfl (hb hby d6_24) rfl k) ?_
  show own_G p.tables e below _ (T134.setTop (mkF m 25 #[.val (.ref x0), .val (.int (0 : Int32)), .val (.int (1 : Int32))] [(.int (0 : Int32)), (.ref x0)]))
  obtain ⟨T135, h135, X135, e135, W135, st135⟩ := putF X134 hx hZ hown (host := "") (Or.inl (hw _ (List.mem_of_getElem? (i := 48) rfl))) Via.refl e134 F_131 X_129 (Or.inl (hw _ (List.mem_of_getElem? (i := 49) rfl))) (hw _ (List.mem_of_getElem? (i := 11) rfl)) (ty := .int) (by decide) rfl rfl (g := (mkF m 25 #[.val (.ref x0), .val (.int (0 : Int32)), .val (.int (1 : Int32))] [(.int (0 : Int32)), (.ref x0)])) rfl rfl (hb hby d6_25)
  have X_136 := X_129.wr W135
  have F_137 := F_130.other W135 (Or.inr (slot_ne (Or.inl (hw _ (List.mem_of_getElem? (i := 40) rfl))) (Or.inl (hw _ (List.mem_of_getElem? (i := 49) rfl))) (by decide) (t := (.array (.object "com/example/plainsong/plainsong/engine/CallStack$Activation"))) (t' := .int) (by decide) (by decide)))
  have V_138 := V128.other W135 (Ne.symm p6_)
  have F_139 := F_131.same W135
  have Z_140 : n0 ≤ h135.size := Nat.le_trans Z_132 (Nat.le_of_eq W135.size.symm)
  have KP_141 : Keep h0 h135 [x0, ar] := KP_133.wr W135 (Or.inl (List.mem_of_getElem? (i := 0) rfl))
  have N_135 := Fr.snoc X135 N_128 p4_
  refine own_go st135 ?_
  show own_G p.tables e below _ (T135.setTop (mkF m 28 #[.val (.ref x0), .val (.int (0 : Int32)), .val (.int (1 : Int32))] []))
  exact own_end X135 Bd.notSynchronized (v := none) (fun _ => rfl) (Q := Q_rm_tr10 Z x0 ar k w0 w1 w2 h0 n0) (by show Q_rm_tr10 Z x0 ar k w0 w1 w2 h0 n0 (none) T135.heap _; rw [e135]; exact ⟨rfl, N_135, KP_141, X_136, F_137, F_139, V_138⟩) (fun fs hr => X135.returnOut hx Bd.returns (hb hby d6_28) hr) (by decide) (by decide)
def Q_rm_tr11 (Z : State) (x0 : Addr) (ar : Addr) (k : ClassId) (w0 w1 w2 : Value) (h0 : Heap) (n0 : Nat) (v : Option Value) (h : Heap) (L : List Loc) : Prop := v = none ∧ Fr n0 L ∧ Keep h0 h [x0, ar] ∧ Exa Z h x0 "com/example/plainsong/plainsong/engine/CallStack" ∧ Fld Z h x0 "com/example/plainsong/plainsong/engine/CallStack" "activations" "[Lcom/example/plainsong/plainsong/engine/CallStack$Activation;" (.ref ar) ∧ Fld Z h x0 "com/example/plainsong/plainsong/engine/CallStack" "depth" "I" (.int (1 : Int32)) ∧ Arv Z h ar k (.object "com/example/plainsong/plainsong/engine/CallStack$Activation") (16 : Int32) [w0, w1, w2] .null
set_option maxRecDepth 65536 in
set_option maxHeartbeats 40000000 in
theorem rm_tr11 (l : Launch) (Z : State) (a0 : Array Value) (hw : ∀ d ∈ tables_1, d.before a0 Z = true) (ws : List Jvm.Cond) (x0 : Addr) (ar : Addr) (k : ClassId) (w0 w1 w2 : Value) (h0 : Heap) (n0 : Nat) (Z0 : n0 ≤ h0.size) (p0_ : Exa Z h0 x0 "com/example/plainsong/plainsong/engine/CallStack") (p1_ : Fld Z h0 x0 "com/example/plainsong/plainsong/engine/CallStack" "activations" "[Lcom/example/plainsong/plainsong/engine/CallStack$Activation;" (.ref ar)) (p2_ : Fld Z h0 x0 "com/example/plainsong/plainsong/engine/CallStack" "depth" "I" (.int (1 : Int32))) (p3_ : Arv Z h0 ar k (.object "com/example/plainsong/plainsong/engine/CallStack$Activation") (16 : Int32) [w0, w1, w2] .null) (p4_ : n0 ≤ x0) (p5_ : n0 ≤ ar) (p6_ : x0 ≠ ar)  :
    MetFree l (⟨"com/example/plainsong/plainsong/engine/CallStack", "truncate", "(I)V"⟩ : MethodName) (head1 (Jvm.Cond.code (⟨"com/example/plainsong/plainsong/engine/CallStack", "truncate", "(I)V"⟩ : MethodName) prog_36_method_11_code 3 none :: ws) ({ frames := 0, cells := 0, slots := 0, locals := 0 } : Room)) (fun a U => a = #[(.ref x0), (.int (1 : Int32))] ∧ Z.Warmed39 U.vm ∧ U.heap = h0) (fun _ _ _ _ _ => True) (fun _ U o U' => ∃ v L, o = .returned v ∧ Q_rm_tr11 Z x0 ar k w0 w1 w2 h0 n0 v U'.heap L ∧ FrameEnd U o U' L ({ frames := 0, cells := 0, slots := 0, locals := 0 } : Room).cells ({ frames := 0, cells := 0, slots := 0, locals := 0 } : Room).slots) := by
  refine MetFree.of_bodySF (plainFor_of_name own_pn3) hisR ?_
  intro p e s m args below meth c s₁ Bd hml0 hP hK
  obtain ⟨rfl, hZ, hh⟩ := hP
  have hx := Bd.exec
  have hby := Bd.bytes
  have hml : c.maxLocals = 3 := hml0
  have hown : s.vm.findClass "com/example/plainsong/plainsong/engine/CallStack" = some m.cls := findClass_of_methodNamed Bd.named
  have hnm := (name_of_methodNamed Bd.named Bd.method).1
  have X0 : Stand p l e ({ frames := 0, cells := 0, slots := 0, locals := 0 } : Room) s m #[(.ref x0), (.int (1 : Int32))] below meth c s₁ [] 0 0 := Stand.of_body Bd
  have e0 : s₁.heap = h0 := by rw [← hh, Bd.state]; rfl
  show own_G p.tables e below (fun o U' => ∃ v L, o = .returned v ∧ Q_rm_tr11 Z x0 ar k w0 w1 w2 h0 n0 v U'.heap L ∧ FrameEnd s o U' L ({ frames := 0, cells := 0, slots := 0, locals := 0 } : Room).cells ({ frames := 0, cells := 0, slots := 0, locals := 0 } : Room).slots) (s₁.setTop (entryFrame m #[(.ref x0), (.int (1 : Int32))] 3))
  refine own_go (fun _ k => castTop (ef_6_RI m x0 (1 : Int32)) k) ?_
  have N0 := Fr.nil n0
  have KP0 := Keep.refl h0 [x0, ar]
  show own_G p.tables e below _ (s₁.setTop (mkF m 0 #[.val (.ref x0), .val (.int (1 : Int32)), .unset] []))
  refine own_go (fun _ k => XS.iloadN X0.here hx rfl (hb hby d6_0) rfl k) ?_
  show own_G p.tables e below _ (s₁.setTop (mkF m 1 #[.val (.ref x0), .val (.int (1 : Int32)), .unset] [(.int (1 : Int32))]))
  refine own_go (fun _ k => XS.istoreN X0.here hx rfl (hb hby d6_1) rfl (l' := #[.val (.ref x0), .val (.int (1 : Int32)), .val (.int (1 : Int32))]) rfl k) ?_
  show own_G p.tables e below _ (s₁.setTop (mkF m 2 #[.val (.ref x0), .val (.int (1 : Int32)), .val (.int (1 : Int32))] []))
  refine own_go (fun _ k => XS.iloadN X0.here hx rfl (hb hby d6_2) rfl k) ?_
  show own_G p.tables e below _ (s₁.setTop (mkF m 3 #[.val (.ref x0), .val (.int (1 : Int32)), .val (.int (1 : Int32))] [(.int (1 : Int32))]))
  refine own_go (fun _ k => XS.aloadN X0.here hx rfl (hb hby d6_3) rfl rfl k) ?_
  show own_G p.tables e below _ (s₁.setTop (mkF m 4 #[.val (.ref x0), .val (.int (1 : Int32)), .val (.int (1 : Int32))] [(.ref x0), (.int (1 : Int32))]))
  obtain ⟨T142, X142, e142, st142⟩ := getF X0 hx hZ hown (host := "") (Or.inl (hw _ (List.mem_of_getElem? (i := 48) rfl))) Via.refl e0 p2_ (g := (mkF m 4 #[.val (.ref x0), .val (.int (1 : Int32)), .val (.int (1 : Int32))] [(.ref x0), (.int (1 : Int32))])) rfl rfl (hb hby d6_4)
  refine own_go st142 ?_
  show own_G p.tables e below _ (T142.setTop (mkF m 7 #[.val (.ref x0), .val (.int (1 : Int32)), .val (.int (1 : Int32))] [(.int (1 : Int32)), (.int (1 : Int32))]))
  refine own_go (fun _ k => XS.icmpYes X142.here hx rfl (pc0 := 7) (pc' := 23) rfl (hb hby d6_7) rfl ((flt (by decide : ¬ ((1 : Int32) < (1 : Int32)))).2.1) (by decide) (by decide) k) ?_
  show own_G p.tables e below _ (T142.setTop (mkF m 23 #[.val (.ref x0), .val (.int (1 : Int32)), .val (.int (1 : Int32))] []))
  refine own_go (fun _ k => XS.aloadN X142.here hx rfl (hb hby d6_23) rfl rfl k) ?_
  show own_G p.tables e below _ (T142.setTop (mkF m 24 #[.val (.ref x0), .val (.int (1 : Int32)), .val (.int (1 : Int32))] [(.ref x0)]))
  refine own_go (fun _ k => XS.iloadN X142.here hx rfl (hb hby d6_24) rfl k) ?_
  show own_G p.tables e below _ (T142.setTop (mkF m 25 #[.val (.ref x0), .val (.int (1 : Int32)), .val (.int (1 : Int32))] [(.int (1 : Int32)), (.ref x0)]))
  obtain ⟨T143, h143, X143, e143, W143, st143⟩ := putF X142 hx hZ hown (host := "") (Or.inl (hw _ (List.mem_of_getElem? (i := 48) rfl))) Via.refl e142 p2_ p0_ (Or.inl (hw _ (List.mem_of_getElem? (i := 49) rfl))) (hw _ (List.mem_of_getElem? (i := 11) rfl)) (ty := .int) (by decide) rfl rfl (g := (mkF m 25 #[.val (.ref x0), .val (.int (1 : Int32)), .val (.int (1 : Int32))] [(.int (1 : Int32)), (.ref x0)])) rfl rfl (hb hby d6_25)
  have X_144 := p0_.wr W143
  have F_145 := p1_.other W143 (Or.inr (slot_ne (Or.inl (hw _ (List.mem_of_getElem? (i := 40) rfl))) (Or.inl (hw _ (List.mem_of_getElem? (i := 49) rfl))) (by decide) (t := (.array (.object "com/example/plainsong/plainsong/engine/CallStack$Activation"))) (t' := .int) (by decide) (by decide)))
  have V_146 := p3_.other W143 (Ne.symm p6_)
  have F_147 := p2_.same W143
  have Z_148 : n0 ≤ h143.size := Nat.le_trans Z0 (Nat.le_of_eq W143.size.symm)
  have KP_149 : Keep h0 h143 [x0, ar] := KP0.wr W143 (Or.inl (List.mem_of_getElem? (i := 0) rfl))
  have N_143 := Fr.snoc X143 N0 p4_
  refine own_go st143 ?_
  show own_G p.tables e below _ (T143.setTop (mkF m 28 #[.val (.ref x0), .val (.int (1 : Int32)), .val (.int (1 : Int32))] []))
  exact own_end X143 Bd.notSynchronized (v := none) (fun _ => rfl) (Q := Q_rm_tr11 Z x0 ar k w0 w1 w2 h0 n0) (by show Q_rm_tr11 Z x0 ar k w0 w1 w2 h0 n0 (none) T143.heap _; rw [e143]; exact ⟨rfl, N_143, KP_149, X_144, F_145, F_147, V_146⟩) (fun fs hr => X143.returnOut hx Bd.returns (hb hby d6_28) hr) (by decide) (by decide)
def Q_rm_tr20 (Z : State) (x0 : Addr) (ar : Addr) (k : ClassId) (w0 w1 w2 : Value) (h0 : Heap) (n0 : Nat) (v : Option Value) (h : Heap) (L : List Loc) : Prop := v = none ∧ Fr n0 L ∧ Keep h0 h [x0, ar] ∧ Exa Z h x0 "com/example/plainsong/plainsong/engine/CallStack" ∧ Fld Z h x0 "com/example/plainsong/plainsong/engine/CallStack" "activations" "[Lcom/example/plainsong/plainsong/engine/CallStack$Activation;" (.ref ar) ∧ Fld Z h x0 "com/example/plainsong/plainsong/engine/CallStack" "depth" "I" (.int (0 : Int32)) ∧ Arv Z h ar k (.object "com/example/plainsong/plainsong/engine/CallStack$Activation") (16 : Int32) [.null, .null, w2] .null
set_option maxRecDepth 65536 in
set_option maxHeartbeats 40000000 in
theorem rm_tr20 (l : Launch) (Z : State) (a0 : Array Value) (hw : ∀ d ∈ tables_1, d.before a0 Z = true) (ws : List Jvm.Cond) (x0 : Addr) (ar : Addr) (k : ClassId) (w0 w1 w2 : Value) (h0 : Heap) (n0 : Nat) (Z0 : n0 ≤ h0.size) (p0_ : Exa Z h0 x0 "com/example/plainsong/plainsong/engine/CallStack") (p1_ : Fld Z h0 x0 "com/example/plainsong/plainsong/engine/CallStack" "activations" "[Lcom/example/plainsong/plainsong/engine/CallStack$Activation;" (.ref ar)) (p2_ : Fld Z h0 x0 "com/example/plainsong/plainsong/engine/CallStack" "depth" "I" (.int (2 : Int32))) (p3_ : Arv Z h0 ar k (.object "com/example/plainsong/plainsong/engine/CallStack$Activation") (16 : Int32) [w0, w1, w2] .null) (p4_ : n0 ≤ x0) (p5_ : n0 ≤ ar) (p6_ : x0 ≠ ar)  :
    MetFree l (⟨"com/example/plainsong/plainsong/engine/CallStack", "truncate", "(I)V"⟩ : MethodName) (head1 (Jvm.Cond.code (⟨"com/example/plainsong/plainsong/engine/CallStack", "truncate", "(I)V"⟩ : MethodName) prog_36_method_11_code 3 none :: ws) ({ frames := 0, cells := 0, slots := 0, locals := 0 } : Room)) (fun a U => a = #[(.ref x0), (.int (0 : Int32))] ∧ Z.Warmed39 U.vm ∧ U.heap = h0) (fun _ _ _ _ _ => True) (fun _ U o U' => ∃ v L, o = .returned v ∧ Q_rm_tr20 Z x0 ar k w0 w1 w2 h0 n0 v U'.heap L ∧ FrameEnd U o U' L ({ frames := 0, cells := 0, slots := 0, locals := 0 } : Room).cells ({ frames := 0, cells := 0, slots := 0, locals := 0 } : Room).slots) := by
  refine MetFree.of_bodySF (plainFor_of_name own_pn3) hisR ?_
  intro p e s m args below meth c s₁ Bd hml0 hP hK
  obtain ⟨rfl, hZ, hh⟩ := hP
  have hx := Bd.exec
  have hby := Bd.bytes
  have hml : c.maxLocals = 3 := hml0
  have hown : s.vm.findClass "com/example/plainsong/plainsong/engine/CallStack" = some m.cls := findClass_of_methodNamed Bd.named
  have hnm := (name_of_methodNamed Bd.named Bd.method).1
  have X0 : Stand p l e ({ frames := 0, cells := 0, slots := 0, locals := 0 } : Room) s m #[(.ref x0), (.int (0 : Int32))] below meth c s₁ [] 0 0 := Stand.of_body Bd
  have e0 : s₁.heap = h0 := by rw [← hh, Bd.state]; rfl
  show own_G p.tables e below (fun o U' => ∃ v L, o = .returned v ∧ Q_rm_tr20 Z x0 ar k w0 w1 w2 h0 n0 v U'.heap L ∧ FrameEnd s o U' L ({ frames := 0, cells := 0, slots := 0, locals := 0 } : Room).cells ({ frames := 0, cells := 0, slots := 0, locals := 0 } : Room).slots) (s₁.setTop (entryFrame m #[(.ref x0), (.int (0 : Int32))] 3))
  refine own_go (fun _ k => castTop (ef_6_RI m x0 (0 : Int32)) k) ?_
  have N0 := Fr.nil n0
  have KP0 := Keep.refl h0 [x0, ar]
  show own_G p.tables e below _ (s₁.setTop (mkF m 0 #[.val (.ref x0), .val (.int (0 : Int32)), .unset] []))
  refine own_go (fun _ k => XS.iloadN X0.here hx rfl (hb hby d6_0) rfl k) ?_
  show own_G p.tables e below _ (s₁.setTop (mkF m 1 #[.val (.ref x0), .val (.int (0 : Int32)), .unset] [(.int (0 : Int32))]))
  refine own_go (fun _ k => XS.istoreN X0.here hx rfl (hb hby d6_1) rfl (l' := #[.val (.ref x0), .val (.int (0 : Int32)), .val (.int (0 : Int32))]) rfl k) ?_
  show own_G p.tables e below _ (s₁.setTop (mkF m 2 #[.val (.ref x0), .val (.int (0 : Int32)), .val (.int (0 : Int32))] []))
  refine own_go (fun _ k => XS.iloadN X0.here hx rfl (hb hby d6_2) rfl k) ?_
  show own_G p.tables e below _ (s₁.setTop (mkF m 3 #[.val (.ref x0), .val (.int (0 : Int32)), .val (.int (0 : Int32))] [(.int (0 : Int32))]))
  refine own_go (fun _ k => XS.aloadN X0.here hx rfl (hb hby d6_3) rfl rfl k) ?_
  show own_G p.tables e below _ (s₁.setTop (mkF m 4 #[.val (.ref x0), .val (.int (0 : Int32)), .val (.int (0 : Int32))] [(.ref x0), (.int (0 : Int32))]))
  obtain ⟨T150, X150, e150, st150⟩ := getF X0 hx hZ hown (host := "") (Or.inl (hw _ (List.mem_of_getElem? (i := 48) rfl))) Via.refl e0 p2_ (g := (mkF m 4 #[.val (.ref x0), .val (.int (0 : Int32)), .val (.int (0 : Int32))] [(.ref x0), (.int (0 : Int32))])) rfl rfl (hb hby d6_4)
  refine own_go st150 ?_
  show own_G p.tables e below _ (T150.setTop (mkF m 7 #[.val (.ref x0), .val (.int (0 : Int32)), .val (.int (0 : Int32))] [(.int (2 : Int32)), (.int (0 : Int32))]))
  refine own_go (fun _ k => XS.icmpNo X150.here hx rfl (hb hby d6_7) rfl ((tlt (by decide : (0 : Int32) < (2 : Int32))).2.1) k) ?_
  show own_G p.tables e below _ (T150.setTop (mkF m 10 #[.val (.ref x0), .val (.int (0 : Int32)), .val (.int (0 : Int32))] []))
  refine own_go (fun _ k => XS.aloadN X150.here hx rfl (hb hby d6_10) rfl rfl k) ?_
  show own_G p.tables e below _ (T150.setTop (mkF m 11 #[.val (.ref x0), .val (.int (0 : Int32)), .val (.int (0 : Int32))] [(.ref x0)]))
  obtain ⟨T151, X151, e151, st151⟩ := getF X150 hx hZ hown (host := "") (Or.inl (hw _ (List.mem_of_getElem? (i := 39) rfl))) Via.refl e150 p1_ (g := (mkF m 11 #[.val (.ref x0), .val (.int (0 : Int32)), .val (.int (0 : Int32))] [(.ref x0)])) rfl rfl (hb hby d6_11)
  refine own_go st151 ?_
  show own_G p.tables e below _ (T151.setTop (mkF m 14 #[.val (.ref x0), .val (.int (0 : Int32)), .val (.int (0 : Int32))] [(.ref ar)]))
  refine own_go (fun _ k => XS.iloadN X151.here hx rfl (hb hby d6_14) rfl k) ?_
  show own_G p.tables e below _ (T151.setTop (mkF m 15 #[.val (.ref x0), .val (.int (0 : Int32)), .val (.int (0 : Int32))] [(.int (0 : Int32)), (.ref ar)]))
  refine own_go (fun _ k => XS.aconstNull X151.here hx rfl (hb hby d6_15) k) ?_
  show own_G p.tables e below _ (T151.setTop (mkF m 16 #[.val (.ref x0), .val (.int (0 : Int32)), .val (.int (0 : Int32))] [.null, (.int (0 : Int32)), (.ref ar)]))
  obtain ⟨cl152, Ar152, q152, S152, N152, H152, G152⟩ := id p3_
  obtain ⟨T152, h152, X152, e152, W152, st152⟩ := stR X151 hx hZ e151 Ar152 (j := (0 : Int32)) (inb_of S152 ⟨by decide, by decide⟩) rfl (Or.inl rfl) (g := (mkF m 16 #[.val (.ref x0), .val (.int (0 : Int32)), .val (.int (0 : Int32))] [.null, (.int (0 : Int32)), (.ref ar)])) rfl rfl (hb hby d6_16)
  have X_153 := p0_.wr W152
  have F_154 := p1_.other W152 (Or.inl p6_)
  have F_155 := p2_.other W152 (Or.inl p6_)
  have V152 : Arv Z h152 ar k (.object "com/example/plainsong/plainsong/engine/CallStack$Activation") (16 : Int32) [.null, w1, w2] .null := Arv.set Ar152 q152 S152 N152 H152 G152 rfl W152 0 rfl (Nat.le_of_ble_eq_true rfl)
  have Z_156 : n0 ≤ h152.size := Nat.le_trans Z0 (Nat.le_of_eq W152.size.symm)
  have KP_157 : Keep h0 h152 [x0, ar] := KP0.wr W152 (Or.inl (List.mem_of_getElem? (i := 1) rfl))
  have N_152 := Fr.snoc X152 N0 p5_
  refine own_go st152 ?_
  show own_G p.tables e below _ (T152.setTop (mkF m 17 #[.val (.ref x0), .val (.int (0 : Int32)), .val (.int (0 : Int32))] []))
  refine own_go (fun _ k => XS.iinc X152.here hx rfl (hb hby d6_17) rfl (l' := #[.val (.ref x0), .val (.int (0 : Int32)), .val (.int (1 : Int32))]) rfl k) ?_
  show own_G p.tables e below _ (T152.setTop (mkF m 20 #[.val (.ref x0), .val (.int (0 : Int32)), .val (.int (1 : Int32))] []))
  refine own_go (fun _ k => XS.goto X152.here hx rfl (pc0 := 20) (pc' := 2) rfl (hb hby d6_20) (by decide) (by decide) k) ?_
  show own_G p.tables e below _ (T152.setTop (mkF m 2 #[.val (.ref x0), .val (.int (0 : Int32)), .val (.int (1 : Int32))] []))
  refine own_go (fun _ k => XS.iloadN X152.here hx rfl (hb hby d6_2) rfl k) ?_
  show own_G p.tables e below _ (T152.setTop (mkF m 3 #[.val (.ref x0), .val (.int (0 : Int32)), .val (.int (1 : Int32))] [(.int (1 : Int32))]))
  refine own_go (fun _ k => XS.aloadN X152.here hx rfl (hb hby d6_3) rfl rfl k) ?_
  show own_G p.tables e below _ (T152.setTop (mkF m 4 #[.val (.ref x0), .val (.int (0 : Int32)), .val (.int (1 : Int32))] [(.ref x0), (.int (1 : Int32))]))
  obtain ⟨T158, X158, e158, st158⟩ := getF X152 hx hZ hown (host := "") (Or.inl (hw _ (List.mem_of_getElem? (i := 48) rfl))) Via.refl e152 F_155 (g := (mkF m 4 #[.val (.ref x0), .val (.int (0 : Int32)), .val (.int (1 : Int32))] [(.ref x0), (.int (1 : Int32))])) rfl rfl (hb hby d6_4)
  refine own_go st158 ?_
  show own_G p.tables e below _ (T158.setTop (mkF m 7 #[.val (.ref x0), .val (.int (0 : Int32)), .val (.int (1 : Int32))] [(.int (2 : Int32)), (.int (1 : Int32))]))
  refine own_go (fun _ k => XS.icmpNo X158.here hx rfl (hb hby d6_7) rfl ((tlt (by decide : (1 : Int32) < (2 : Int32))).2.1) k) ?_
  show own_G p.tables e below _ (T158.setTop (mkF m 10 #[.val (.ref x0), .val (.int (0 : Int32)), .val (.int (1 : Int32))] []))
  refine own_go (fun _ k => XS.aloadN X158.here hx rfl (hb hby d6_10) rfl rfl k) ?_
  show own_G p.tables e below _ (T158.setTop (mkF m 11 #[.val (.ref x0), .val (.int (0 : Int32)), .val (.int (1 : Int32))] [(.ref x0)]))
  obtain ⟨T159, X159, e159, st159⟩ := getF X158 hx hZ hown (host := "") (Or.inl (hw _ (List.mem_of_getElem? (i := 39) rfl))) Via.refl e158 F_154 (g := (mkF m 11 #[.val (.ref x0), .val (.int (0 : Int32)), .val (.int (1 : Int32))] [(.ref x0)])) rfl rfl (hb hby d6_11)
  refine own_go st159 ?_
  show own_G p.tables e below _ (T159.setTop (mkF m 14 #[.val (.ref x0), .val (.int (0 : Int32)), .val (.int (1 : Int32))] [(.ref ar)]))
  refine own_go (fun _ k => XS.iloadN X159.here hx rfl (hb hby d6_14) rfl k) ?_
  show own_G p.tables e below _ (T159.setTop (mkF m 15 #[.val (.ref x0), .val (.int (0 : Int32)), .val (.int (1 : Int32))] [(.int (1 : Int32)), (.ref ar)]))
  refine own_go (fun _ k => XS.aconstNull X159.here hx rfl (hb hby d6_15) k) ?_
  show own_G p.tables e below _ (T159.setTop (mkF m 16 #[.val (.ref x0), .val (.int (0 : Int32)), .val (.int (1 : Int32))] [.null, (.int (1 : Int32)), (.ref ar)]))
  obtain ⟨cl160, Ar160, q160, S160, N160, H160, G160⟩ := id V152
  obtain ⟨T160, h160, X160, e160, W160, st160⟩ := stR X159 hx hZ e159 Ar160 (j := (1 : Int32)) (inb_of S160 ⟨by decide, by decide⟩) rfl (Or.inl rfl) (g := (mkF m 16 #[.val (.ref x0), .val (.int (0 : Int32)), .val (.int (1 : Int32))] [.null, (.int (1 : Int32)), (.ref ar)])) rfl rfl (hb hby d6_16)
  have X_161 := X_153.wr W160
  have F_162 := F_154.other W160 (Or.inl p6_)
  have F_163 := F_155.other W160 (Or.inl p6_)
  have V160 : Arv Z h160 ar k (.object "com/example/plainsong/plainsong/engine/CallStack$Activation") (16 : Int32) [.null, .null, w2] .null := Arv.set Ar160 q160 S160 N160 H160 G160 rfl W160 1 rfl (Nat.le_of_ble_eq_true rfl)
  have Z_164 : n0 ≤ h160.size := Nat.le_trans Z_156 (Nat.le_of_eq W160.size.symm)
  have KP_165 : Keep h0 h160 [x0, ar] := KP_157.wr W160 (Or.inl (List.mem_of_getElem? (i := 1) rfl))
  have N_160 := Fr.snoc X160 N_152 p5_
  refine own_go st160 ?_
  show own_G p.tables e below _ (T160.setTop (mkF m 17 #[.val (.ref x0), .val (.int (0 : Int32)), .val (.int (1 : Int32))] []))
  refine own_go (fun _ k => XS.iinc X160.here hx rfl (hb hby d6_17) rfl (l' := #[.val (.ref x0), .val (.int (0 : Int32)), .val (.int (2 : Int32))]) rfl k) ?_
  show own_G p.tables e below _ (T160.setTop (mkF m 20 #[.val (.ref x0), .val (.int (0 : Int32)), .val (.int (2 : Int32))] []))
  refine own_go (fun _ k => XS.goto X160.here hx rfl (pc0 := 20) (pc' := 2) rfl (hb hby d6_20) (by decide) (by decide) k) ?_
  show own_G p.tables e below _ (T160.setTop (mkF m 2 #[.val (.ref x0), .val (.int (0 : Int32)), .val (.int (2 : Int32))] []))
  refine own_go (fun _ k => XS.iloadN X160.here hx rfl (hb hby d6_2) rfl k) ?_
  show own_G p.tables e below _ (T160.setTop (mkF m 3 #[.val (.ref x0), .val (.int (0 : Int32)), .val (.int (2 : Int32))] [(.int (2 : Int32))]))
  refine own_go (fun _ k => XS.aloadN X160.here hx rfl (hb hby d6_3) rfl rfl k) ?_
  show own_G p.tables e below _ (T160.setTop (mkF m 4 #[.val (.ref x0), .val (.int (0 : Int32)), .val (.int (2 : Int32))] [(.ref x0), (.int (2 : Int32))]))
  obtain ⟨T166, X166, e166, st166⟩ := getF X160 hx hZ hown (host := "") (Or.inl (hw _ (List.mem_of_getElem? (i := 48) rfl))) Via.refl e160 F_163 (g := (mkF m 4 #[.val (.ref x0), .val (.int (0 : Int32)), .val (.int (2 : Int32))] [(.ref x0), (.int (2 : Int32))])) rfl rfl (hb hby d6_4)
  refine own_go st166 ?_
  show own_G p.tables e below _ (T166.setTop (mkF m 7 #[.val (.ref x0), .val (.int (0 : Int32)), .val (.int (2 : Int32))] [(.int (2 : Int32)), (.int (2 : Int32))]))
  refine own_go (fun _ k => XS.icmpYes X166.here hx rfl (pc0 := 7) (pc' := 23) rfl (hb hby d6_7) rfl ((flt (by decide : ¬ ((2 : Int32) < (2 : Int32)))).2.1) (by decide) (by decide) k) ?_
  show own_G p.tables e below _ (T166.setTop (mkF m 23 #[.val (.ref x0), .val (.int (0 : Int32)), .val (.int (2 : Int32))] []))
  refine own_go (fun _ k => XS.aloadN X166.here hx rfl (hb hby d6_23) rfl rfl k) ?_
  show own_G p.tables e below _ (T166.setTop (mkF m 24 #[.val (.ref x0), .val (.int (0 : Int32)), .val (.int (2 : Int32))] [(.ref x0)]))
  refine own_go (fun _ k => XS.iloadN X166.here hx rfl (hb hby d6_24) rfl k) ?_
  show own_G p.tables e below _ (T166.setTop (mkF m 25 #[.val (.ref x0), .val (.int (0 : Int32)), .val (.int (2 : Int32))] [(.int (0 : Int32)), (.ref x0)]))
  obtain ⟨T167, h167, X167, e167, W167, st167⟩ := putF X166 hx hZ hown (host := "") (Or.inl (hw _ (List.mem_of_getElem? (i := 48) rfl))) Via.refl e166 F_163 X_161 (Or.inl (hw _ (List.mem_of_getElem? (i := 49) rfl))) (hw _ (List.mem_of_getElem? (i := 11) rfl)) (ty := .int) (by decide) rfl rfl (g := (mkF m 25 #[.val (.ref x0), .val (.int (0 : Int32)), .val (.int (2 : Int32))] [(.int (0 : Int32)), (.ref x0)])) rfl rfl (hb hby d6_25)
  have X_168 := X_161.wr W167
  have F_169 := F_162.other W167 (Or.inr (slot_ne (Or.inl (hw _ (List.mem_of_getElem? (i := 40) rfl))) (Or.inl (hw _ (List.mem_of_getElem? (i := 49) rfl))) (by decide) (t := (.array (.object "com/example/plainsong/plainsong/engine/CallStack$Activation"))) (t' := .int) (by decide) (by decide)))
  have V_170 := V160.other W167 (Ne.symm p6_)
  have F_171 := F_163.same W167
  have Z_172 : n0 ≤ h167.size := Nat.le_trans Z_164 (Nat.le_of_eq W167.size.symm)
  have KP_173 : Keep h0 h167 [x0, ar] := KP_165.wr W167 (Or.inl (List.mem_of_getElem? (i := 0) rfl))
  have N_167 := Fr.snoc X167 N_160 p4_
  refine own_go st167 ?_
  show own_G p.tables e below _ (T167.setTop (mkF m 28 #[.val (.ref x0), .val (.int (0 : Int32)), .val (.int (2 : Int32))] []))
  exact own_end X167 Bd.notSynchronized (v := none) (fun _ => rfl) (Q := Q_rm_tr20 Z x0 ar k w0 w1 w2 h0 n0) (by show Q_rm_tr20 Z x0 ar k w0 w1 w2 h0 n0 (none) T167.heap _; rw [e167]; exact ⟨rfl, N_167, KP_173, X_168, F_169, F_171, V_170⟩) (fun fs hr => X167.returnOut hx Bd.returns (hb hby d6_28) hr) (by decide) (by decide)
def Q_rm_tr21 (Z : State) (x0 : Addr) (ar : Addr) (k : ClassId) (w0 w1 w2 : Value) (h0 : Heap) (n0 : Nat) (v : Option Value) (h : Heap) (L : List Loc) : Prop := v = none ∧ Fr n0 L ∧ Keep h0 h [x0, ar] ∧ Exa Z h x0 "com/example/plainsong/plainsong/engine/CallStack" ∧ Fld Z h x0 "com/example/plainsong/plainsong/engine/CallStack" "activations" "[Lcom/example/plainsong/plainsong/engine/CallStack$Activation;" (.ref ar) ∧ Fld Z h x0 "com/example/plainsong/plainsong/engine/CallStack" "depth" "I" (.int (1 : Int32)) ∧ Arv Z h ar k (.object "com/example/plainsong/plainsong/engine/CallStack$Activation") (16 : Int32) [w0, .null, w2] .null
set_option maxRecDepth 65536 in
set_option maxHeartbeats 40000000 in
theorem rm_tr21 (l : Launch) (Z : State) (a0 : Array Value) (hw : ∀ d ∈ tables_1, d.before a0 Z = true) (ws : List Jvm.Cond) (x0 : Addr) (ar : Addr) (k : ClassId) (w0 w1 w2 : Value) (h0 : Heap) (n0 : Nat) (Z0 : n0 ≤ h0.size) (p0_ : Exa Z h0 x0 "com/example/plainsong/plainsong/engine/CallStack") (p1_ : Fld Z h0 x0 "com/example/plainsong/plainsong/engine/CallStack" "activations" "[Lcom/example/plainsong/plainsong/engine/CallStack$Activation;" (.ref ar)) (p2_ : Fld Z h0 x0 "com/example/plainsong/plainsong/engine/CallStack" "depth" "I" (.int (2 : Int32))) (p3_ : Arv Z h0 ar k (.object "com/example/plainsong/plainsong/engine/CallStack$Activation") (16 : Int32) [w0, w1, w2] .null) (p4_ : n0 ≤ x0) (p5_ : n0 ≤ ar) (p6_ : x0 ≠ ar)  :
    MetFree l (⟨"com/example/plainsong/plainsong/engine/CallStack", "truncate", "(I)V"⟩ : MethodName) (head1 (Jvm.Cond.code (⟨"com/example/plainsong/plainsong/engine/CallStack", "truncate", "(I)V"⟩ : MethodName) prog_36_method_11_code 3 none :: ws) ({ frames := 0, cells := 0, slots := 0, locals := 0 } : Room)) (fun a U => a = #[(.ref x0), (.int (1 : Int32))] ∧ Z.Warmed39 U.vm ∧ U.heap = h0) (fun _ _ _ _ _ => True) (fun _ U o U' => ∃ v L, o = .returned v ∧ Q_rm_tr21 Z x0 ar k w0 w1 w2 h0 n0 v U'.heap L ∧ FrameEnd U o U' L ({ frames := 0, cells := 0, slots := 0, locals := 0 } : Room).cells ({ frames := 0, cells := 0, slots := 0, locals := 0 } : Room).slots) := by
  refine MetFree.of_bodySF (plainFor_of_name own_pn3) hisR ?_
  intro p e s m args below meth c s₁ Bd hml0 hP hK
  obtain ⟨rfl, hZ, hh⟩ := hP
  have hx := Bd.exec
  have hby := Bd.bytes
  have hml : c.maxLocals = 3 := hml0
  have hown : s.vm.findClass "com/example/plainsong/plainsong/engine/CallStack" = some m.cls := findClass_of_methodNamed Bd.named
  have hnm := (name_of_methodNamed Bd.named Bd.method).1
  have X0 : Stand p l e ({ frames := 0, cells := 0, slots := 0, locals := 0 } : Room) s m #[(.ref x0), (.int (1 : Int32))] below meth c s₁ [] 0 0 := Stand.of_body Bd
  have e0 : s₁.heap = h0 := by rw [← hh, Bd.state]; rfl
  show own_G p.tables e below (fun o U' => ∃ v L, o = .returned v ∧ Q_rm_tr21 Z x0 ar k w0 w1 w2 h0 n0 v U'.heap L ∧ FrameEnd s o U' L ({ frames := 0, cells := 0, slots := 0, locals := 0 } : Room).cells ({ frames := 0, cells := 0, slots := 0, locals := 0 } : Room).slots) (s₁.setTop (entryFrame m #[(.ref x0), (.int (1 : Int32))] 3))
  refine own_go (fun _ k => castTop (ef_6_RI m x0 (1 : Int32)) k) ?_
  have N0 := Fr.nil n0
  have KP0 := Keep.refl h0 [x0, ar]
  show own_G p.tables e below _ (s₁.setTop (mkF m 0 #[.val (.ref x0), .val (.int (1 : Int32)), .unset] []))
  refine own_go (fun _ k => XS.iloadN X0.here hx rfl (hb hby d6_0) rfl k) ?_
  show own_G p.tables e below _ (s₁.setTop (mkF m 1 #[.val (.ref x0), .val (.int (1 : Int32)), .unset] [(.int (1 : Int32))]))
  refine own_go (fun _ k => XS.istoreN X0.here hx rfl (hb hby d6_1) rfl (l' := #[.val (.ref x0), .val (.int (1 : Int32)), .val (.int (1 : Int32))]) rfl k) ?_
  show own_G p.tables e below _ (s₁.setTop (mkF m 2 #[.val (.ref x0), .val (.int (1 : Int32)), .val (.int (1 : Int32))] []))
  refine own_go (fun _ k => XS.iloadN X0.here hx rfl (hb hby d6_2) rfl k) ?_
  show own_G p.tables e below _ (s₁.setTop (mkF m 3 #[.val (.ref x0), .val (.int (1 : Int32)), .val (.int (1 : Int32))] [(.int (1 : Int32))]))
  refine own_go (fun _ k => XS.aloadN X0.here hx rfl (hb hby d6_3) rfl rfl k) ?_
  show own_G p.tables e below _ (s₁.setTop (mkF m 4 #[.val (.ref x0), .val (.int (1 : Int32)), .val (.int (1 : Int32))] [(.ref x0), (.int (1 : Int32))]))
  obtain ⟨T174, X174, e174, st174⟩ := getF X0 hx hZ hown (host := "") (Or.inl (hw _ (List.mem_of_getElem? (i := 48) rfl))) Via.refl e0 p2_ (g := (mkF m 4 #[.val (.ref x0), .val (.int (1 : Int32)), .val (.int (1 : Int32))] [(.ref x0), (.int (1 : Int32))])) rfl rfl (hb hby d6_4)
  refine own_go st174 ?_
  show own_G p.tables e below _ (T174.setTop (mkF m 7 #[.val (.ref x0), .val (.int (1 : Int32)), .val (.int (1 : Int32))] [(.int (2 : Int32)), (.int (1 : Int32))]))
  refine own_go (fun _ k => XS.icmpNo X174.here hx rfl (hb hby d6_7) rfl ((tlt (by decide : (1 : Int32) < (2 : Int32))).2.1) k) ?_
  show own_G p.tables e below _ (T174.setTop (mkF m 10 #[.val (.ref x0), .val (.int (1 : Int32)), .val (.int (1 : Int32))] []))
  refine own_go (fun _ k => XS.aloadN X174.here hx rfl (hb hby d6_10) rfl rfl k) ?_
  show own_G p.tables e below _ (T174.setTop (mkF m 11 #[.val (.ref x0), .val (.int (1 : Int32)), .val (.int (1 : Int32))] [(.ref x0)]))
  obtain ⟨T175, X175, e175, st175⟩ := getF X174 hx hZ hown (host := "") (Or.inl (hw _ (List.mem_of_getElem? (i := 39) rfl))) Via.refl e174 p1_ (g := (mkF m 11 #[.val (.ref x0), .val (.int (1 : Int32)), .val (.int (1 : Int32))] [(.ref x0)])) rfl rfl (hb hby d6_11)
  refine own_go st175 ?_
  show own_G p.tables e below _ (T175.setTop (mkF m 14 #[.val (.ref x0), .val (.int (1 : Int32)), .val (.int (1 : Int32))] [(.ref ar)]))
  refine own_go (fun _ k => XS.iloadN X175.here hx rfl (hb hby d6_14) rfl k) ?_
  show own_G p.tables e below _ (T175.setTop (mkF m 15 #[.val (.ref x0), .val (.int (1 : Int32)), .val (.int (1 : Int32))] [(.int (1 : Int32)), (.ref ar)]))
  refine own_go (fun _ k => XS.aconstNull X175.here hx rfl (hb hby d6_15) k) ?_
  show own_G p.tables e below _ (T175.setTop (mkF m 16 #[.val (.ref x0), .val (.int (1 : Int32)), .val (.int (1 : Int32))] [.null, (.int (1 : Int32)), (.ref ar)]))
  obtain ⟨cl176, Ar176, q176, S176, N176, H176, G176⟩ := id p3_
  obtain ⟨T176, h176, X176, e176, W176, st176⟩ := stR X175 hx hZ e175 Ar176 (j := (1 : Int32)) (inb_of S176 ⟨by decide, by decide⟩) rfl (Or.inl rfl) (g := (mkF m 16 #[.val (.ref x0), .val (.int (1 : Int32)), .val (.int (1 : Int32))] [.null, (.int (1 : Int32)), (.ref ar)])) rfl rfl (hb hby d6_16)
  have X_177 := p0_.wr W176
  have F_178 := p1_.other W176 (Or.inl p6_)
  have F_179 := p2_.other W176 (Or.inl p6_)
  have V176 : Arv Z h176 ar k (.object "com/example/plainsong/plainsong/engine/CallStack$Activation") (16 : Int32) [w0, .null, w2] .null := Arv.set Ar176 q176 S176 N176 H176 G176 rfl W176 1 rfl (Nat.le_of_ble_eq_true rfl)
  have Z_180 : n0 ≤ h176.size := Nat.le_trans Z0 (Nat.le_of_eq W176.size.symm)
  have KP_181 : Keep h0 h176 [x0, ar] := KP0.wr W176 (Or.inl (List.mem_of_getElem? (i := 1) rfl))
  have N_176 := Fr.snoc X176 N0 p5_
  refine own_go st176 ?_
  show own_G p.tables e below _ (T176.setTop (mkF m 17 #[.val (.ref x0), .val (.int (1 : Int32)), .val (.int (1 : Int32))] []))
  refine own_go (fun _ k => XS.iinc X176.here hx rfl (hb hby d6_17) rfl (l' := #[.val (.ref x0), .val (.int (1 : Int32)), .val (.int (2 : Int32))]) rfl k) ?_
  show own_G p.tables e below _ (T176.setTop (mkF m 20 #[.val (.ref x0), .val (.int (1 : Int32)), .val (.int (2 : Int32))] []))
  refine own_go (fun _ k => XS.goto X176.here hx rfl (pc0 := 20) (pc' := 2) rfl (hb hby d6_20) (by decide) (by decide) k) ?_
  show own_G p.tables e below _ (T176.setTop (mkF m 2 #[.val (.ref x0), .val (.int (1 : Int32)), .val (.int (2 : Int32))] []))
  refine own_go (fun _ k => XS.iloadN X176.here hx rfl (hb hby d6_2) rfl k) ?_
  show own_G p.tables e below _ (T176.setTop (mkF m 3 #[.val (.ref x0), .val (.int (1 : Int32)), .val (.int (2 : Int32))] [(.int (2 : Int32))]))
  refine own_go (fun _ k => XS.aloadN X176.here hx rfl (hb hby d6_3) rfl rfl k) ?_
  show own_G p.tables e below _ (T176.setTop (mkF m 4 #[.val (.ref x0), .val (.int (1 : Int32)), .val (.int (2 : Int32))] [(.ref x0), (.int (2 : Int32))]))
  obtain ⟨T182, X182, e182, st182⟩ := getF X176 hx hZ hown (host := "") (Or.inl (hw _ (List.mem_of_getElem? (i := 48) rfl))) Via.refl e176 F_179 (g := (mkF m 4 #[.val (.ref x0), .val (.int (1 : Int32)), .val (.int (2 : Int32))] [(.ref x0), (.int (2 : Int32))])) rfl rfl (hb hby d6_4)
  refine own_go st182 ?_
  show own_G p.tables e below _ (T182.setTop (mkF m 7 #[.val (.ref x0), .val (.int (1 : Int32)), .val (.int (2 : Int32))] [(.int (2 : Int32)), (.int (2 : Int32))]))
  refine own_go (fun _ k => XS.icmpYes X182.here hx rfl (pc0 := 7) (pc' := 23) rfl (hb hby d6_7) rfl ((flt (by decide : ¬ ((2 : Int32) < (2 : Int32)))).2.1) (by decide) (by decide) k) ?_
  show own_G p.tables e below _ (T182.setTop (mkF m 23 #[.val (.ref x0), .val (.int (1 : Int32)), .val (.int (2 : Int32))] []))
  refine own_go (fun _ k => XS.aloadN X182.here hx rfl (hb hby d6_23) rfl rfl k) ?_
  show own_G p.tables e below _ (T182.setTop (mkF m 24 #[.val (.ref x0), .val (.int (1 : Int32)), .val (.int (2 : Int32))] [(.ref x0)]))
  refine own_go (fun _ k => XS.iloadN X182.here hx rfl (hb hby d6_24) rfl k) ?_
  show own_G p.tables e below _ (T182.setTop (mkF m 25 #[.val (.ref x0), .val (.int (1 : Int32)), .val (.int (2 : Int32))] [(.int (1 : Int32)), (.ref x0)]))
  obtain ⟨T183, h183, X183, e183, W183, st183⟩ := putF X182 hx hZ hown (host := "") (Or.inl (hw _ (List.mem_of_getElem? (i := 48) rfl))) Via.refl e182 F_179 X_177 (Or.inl (hw _ (List.mem_of_getElem? (i := 49) rfl))) (hw _ (List.mem_of_getElem? (i := 11) rfl)) (ty := .int) (by decide) rfl rfl (g := (mkF m 25 #[.val (.ref x0), .val (.int (1 : Int32)), .val (.int (2 : Int32))] [(.int (1 : Int32)), (.ref x0)])) rfl rfl (hb hby d6_25)
  have X_184 := X_177.wr W183
  have F_185 := F_178.other W183 (Or.inr (slot_ne (Or.inl (hw _ (List.mem_of_getElem? (i := 40) rfl))) (Or.inl (hw _ (List.mem_of_getElem? (i := 49) rfl))) (by decide) (t := (.array (.object "com/example/plainsong/plainsong/engine/CallStack$Activation"))) (t' := .int) (by decide) (by decide)))
  have V_186 := V176.other W183 (Ne.symm p6_)
  have F_187 := F_179.same W183
  have Z_188 : n0 ≤ h183.size := Nat.le_trans Z_180 (Nat.le_of_eq W183.size.symm)
  have KP_189 : Keep h0 h183 [x0, ar] := KP_181.wr W183 (Or.inl (List.mem_of_getElem? (i := 0) rfl))
  have N_183 := Fr.snoc X183 N_176 p4_
  refine own_go st183 ?_
  show own_G p.tables e below _ (T183.setTop (mkF m 28 #[.val (.ref x0), .val (.int (1 : Int32)), .val (.int (2 : Int32))] []))
  exact own_end X183 Bd.notSynchronized (v := none) (fun _ => rfl) (Q := Q_rm_tr21 Z x0 ar k w0 w1 w2 h0 n0) (by show Q_rm_tr21 Z x0 ar k w0 w1 w2 h0 n0 (none) T183.heap _; rw [e183]; exact ⟨rfl, N_183, KP_189, X_184, F_185, F_187, V_186⟩) (fun fs hr => X183.returnOut hx Bd.returns (hb hby d6_28) hr) (by decide) (by decide)
def Q_rm_tr22 (Z : State) (x0 : Addr) (ar : Addr) (k : ClassId) (w0 w1 w2 : Value) (h0 : Heap) (n0 : Nat) (v : Option Value) (h : Heap) (L : List Loc) : Prop := v = none ∧ Fr n0 L ∧ Keep h0 h [x0, ar] ∧ Exa Z h x0 "com/example/plainsong/plainsong/engine/CallStack" ∧ Fld Z h x0 "com/example/plainsong/plainsong/engine/CallStack" "activations" "[Lcom/example/plainsong/plainsong/engine/CallStack$Activation;" (.ref ar) ∧ Fld Z h x0 "com/example/plainsong/plainsong/engine/CallStack" "depth" "I" (.int (2 : Int32)) ∧ Arv Z h ar k (.object "com/example/plainsong/plainsong/engine/CallStack$Activation") (16 : Int32) [w0, w1, w2] .null
set_option maxRecDepth 65536 in
set_option maxHeartbeats 40000000 in
theorem rm_tr22 (l : Launch) (Z : State) (a0 : Array Value) (hw : ∀ d ∈ tables_1, d.before a0 Z = true) (ws : List Jvm.Cond) (x0 : Addr) (ar : Addr) (k : ClassId) (w0 w1 w2 : Value) (h0 : Heap) (n0 : Nat) (Z0 : n0 ≤ h0.size) (p0_ : Exa Z h0 x0 "com/example/plainsong/plainsong/engine/CallStack") (p1_ : Fld Z h0 x0 "com/example/plainsong/plainsong/engine/CallStack" "activations" "[Lcom/example/plainsong/plainsong/engine/CallStack$Activation;" (.ref ar)) (p2_ : Fld Z h0 x0 "com/example/plainsong/plainsong/engine/CallStack" "depth" "I" (.int (2 : Int32))) (p3_ : Arv Z h0 ar k (.object "com/example/plainsong/plainsong/engine/CallStack$Activation") (16 : Int32) [w0, w1, w2] .null) (p4_ : n0 ≤ x0) (p5_ : n0 ≤ ar) (p6_ : x0 ≠ ar)  :
    MetFree l (⟨"com/example/plainsong/plainsong/engine/CallStack", "truncate", "(I)V"⟩ : MethodName) (head1 (Jvm.Cond.code (⟨"com/example/plainsong/plainsong/engine/CallStack", "truncate", "(I)V"⟩ : MethodName) prog_36_method_11_code 3 none :: ws) ({ frames := 0, cells := 0, slots := 0, locals := 0 } : Room)) (fun a U => a = #[(.ref x0), (.int (2 : Int32))] ∧ Z.Warmed39 U.vm ∧ U.heap = h0) (fun _ _ _ _ _ => True) (fun _ U o U' => ∃ v L, o = .returned v ∧ Q_rm_tr22 Z x0 ar k w0 w1 w2 h0 n0 v U'.heap L ∧ FrameEnd U o U' L ({ frames := 0, cells := 0, slots := 0, locals := 0 } : Room).cells ({ frames := 0, cells := 0, slots := 0, locals := 0 } : Room).slots) := by
  refine MetFree.of_bodySF (plainFor_of_name own_pn3) hisR ?_
  intro p e s m args below meth c s₁ Bd hml0 hP hK
  obtain ⟨rfl, hZ, hh⟩ := hP
  have hx := Bd.exec
  have hby := Bd.bytes
  have hml : c.maxLocals = 3 := hml0
  have hown : s.vm.findClass "com/example/plainsong/plainsong/engine/CallStack" = some m.cls := findClass_of_methodNamed Bd.named
  have hnm := (name_of_methodNamed Bd.named Bd.method).1
  have X0 : Stand p l e ({ frames := 0, cells := 0, slots := 0, locals := 0 } : Room) s m #[(.ref x0), (.int (2 : Int32))] below meth c s₁ [] 0 0 := Stand.of_body Bd
  have e0 : s₁.heap = h0 := by rw [← hh, Bd.state]; rfl
  show own_G p.tables e below (fun o U' => ∃ v L, o = .returned v ∧ Q_rm_tr22 Z x0 ar k w0 w1 w2 h0 n0 v U'.heap L ∧ FrameEnd s o U' L ({ frames := 0, cells := 0, slots := 0, locals := 0 } : Room).cells ({ frames := 0, cells := 0, slots := 0, locals := 0 } : Room).slots) (s₁.setTop (entryFrame m #[(.ref x0), (.int (2 : Int32))] 3))
  refine own_go (fun _ k => castTop (ef_6_RI m x0 (2 : Int32)) k) ?_
  have N0 := Fr.nil n0
  have KP0 := Keep.refl h0 [x0, ar]
  show own_G p.tables e below _ (s₁.setTop (mkF m 0 #[.val (.ref x0), .val (.int (2 : Int32)), .unset] []))
  refine own_go (fun _ k => XS.iloadN X0.here hx rfl (hb hby d6_0) rfl k) ?_
  show own_G p.tables e below _ (s₁.setTop (mkF m 1 #[.val (.ref x0), .val (.int (2 : Int32)), .unset] [(.int (2 : Int32))]))
  refine own_go (fun _ k => XS.istoreN X0.here hx rfl (hb hby d6_1) rfl (l' := #[.val (.ref x0), .val (.int (2 : Int32)), .val (.int (2 : Int32))]) rfl k) ?_
  show own_G p.tables e below _ (s₁.setTop (mkF m 2 #[.val (.ref x0), .val (.int (2 : Int32)), .val (.int (2 : Int32))] []))
  refine own_go (fun _ k => XS.iloadN X0.here hx rfl (hb hby d6_2) rfl k) ?_
  show own_G p.tables e below _ (s₁.setTop (mkF m 3 #[.val (.ref x0), .val (.int (2 : Int32)), .val (.int (2 : Int32))] [(.int (2 : Int32))]))
  refine own_go (fun _ k => XS.aloadN X0.here hx rfl (hb hby d6_3) rfl rfl k) ?_
  show own_G p.tables e below _ (s₁.setTop (mkF m 4 #[.val (.ref x0), .val (.int (2 : Int32)), .val (.int (2 : Int32))] [(.ref x0), (.int (2 : Int32))]))
  obtain ⟨T190, X190, e190, st190⟩ := getF X0 hx hZ hown (host := "") (Or.inl (hw _ (List.mem_of_getElem? (i := 48) rfl))) Via.refl e0 p2_ (g := (mkF m 4 #[.val (.ref x0), .val (.int (2 : Int32)), .val (.int (2 : Int32))] [(.ref x0), (.int (2 : Int32))])) rfl rfl (hb hby d6_4)
  refine own_go st190 ?_
  show own_G p.tables e below _ (T190.setTop (mkF m 7 #[.val (.ref x0), .val (.int (2 : Int32)), .val (.int (2 : Int32))] [(.int (2 : Int32)), (.int (2 : Int32))]))
  refine own_go (fun _ k => XS.icmpYes X190.here hx rfl (pc0 := 7) (pc' := 23) rfl (hb hby d6_7) rfl ((flt (by decide : ¬ ((2 : Int32) < (2 : Int32)))).2.1) (by decide) (by decide) k) ?_
  show own_G p.tables e below _ (T190.setTop (mkF m 23 #[.val (.ref x0), .val (.int (2 : Int32)), .val (.int (2 : Int32))] []))
  refine own_go (fun _ k => XS.aloadN X190.here hx rfl (hb hby d6_23) rfl rfl k) ?_
  show own_G p.tables e below _ (T190.setTop (mkF m 24 #[.val (.ref x0), .val (.int (2 : Int32)), .val (.int (2 : Int32))] [(.ref x0)]))
  refine own_go (fun _ k => XS.iloadN X190.here hx rfl (hb hby d6_24) rfl k) ?_
  show own_G p.tables e below _ (T190.setTop (mkF m 25 #[.val (.ref x0), .val (.int (2 : Int32)), .val (.int (2 : Int32))] [(.int (2 : Int32)), (.ref x0)]))
  obtain ⟨T191, h191, X191, e191, W191, st191⟩ := putF X190 hx hZ hown (host := "") (Or.inl (hw _ (List.mem_of_getElem? (i := 48) rfl))) Via.refl e190 p2_ p0_ (Or.inl (hw _ (List.mem_of_getElem? (i := 49) rfl))) (hw _ (List.mem_of_getElem? (i := 11) rfl)) (ty := .int) (by decide) rfl rfl (g := (mkF m 25 #[.val (.ref x0), .val (.int (2 : Int32)), .val (.int (2 : Int32))] [(.int (2 : Int32)), (.ref x0)])) rfl rfl (hb hby d6_25)
  have X_192 := p0_.wr W191
  have F_193 := p1_.other W191 (Or.inr (slot_ne (Or.inl (hw _ (List.mem_of_getElem? (i := 40) rfl))) (Or.inl (hw _ (List.mem_of_getElem? (i := 49) rfl))) (by decide) (t := (.array (.object "com/example/plainsong/plainsong/engine/CallStack$Activation"))) (t' := .int) (by decide) (by decide)))
  have V_194 := p3_.other W191 (Ne.symm p6_)
  have F_195 := p2_.same W191
  have Z_196 : n0 ≤ h191.size := Nat.le_trans Z0 (Nat.le_of_eq W191.size.symm)
  have KP_197 : Keep h0 h191 [x0, ar] := KP0.wr W191 (Or.inl (List.mem_of_getElem? (i := 0) rfl))
  have N_191 := Fr.snoc X191 N0 p4_
  refine own_go st191 ?_
  show own_G p.tables e below _ (T191.setTop (mkF m 28 #[.val (.ref x0), .val (.int (2 : Int32)), .val (.int (2 : Int32))] []))
  exact own_end X191 Bd.notSynchronized (v := none) (fun _ => rfl) (Q := Q_rm_tr22 Z x0 ar k w0 w1 w2 h0 n0) (by show Q_rm_tr22 Z x0 ar k w0 w1 w2 h0 n0 (none) T191.heap _; rw [e191]; exact ⟨rfl, N_191, KP_197, X_192, F_193, F_195, V_194⟩) (fun fs hr => X191.returnOut hx Bd.returns (hb hby d6_28) hr) (by decide) (by decide)
def Q_rm_tr30 (Z : State) (x0 : Addr) (ar : Addr) (k : ClassId) (w0 w1 w2 : Value) (h0 : Heap) (n0 : Nat) (v : Option Value) (h : Heap) (L : List Loc) : Prop := v = none ∧ Fr n0 L ∧ Keep h0 h [x0, ar] ∧ Exa Z h x0 "com/example/plainsong/plainsong/engine/CallStack" ∧ Fld Z h x0 "com/example/plainsong/plainsong/engine/CallStack" "activations" "[Lcom/example/plainsong/plainsong/engine/CallStack$Activation;" (.ref ar) ∧ Fld Z h x0 "com/example/plainsong/plainsong/engine/CallStack" "depth" "I" (.int (0 : Int32)) ∧ Arv Z h ar k (.object "com/example/plainsong/plainsong/engine/CallStack$Activation") (16 : Int32) [.null, .null, .null] .null
set_option maxRecDepth 65536 in
set_option maxHeartbeats 40000000 in
theorem rm_tr30 (l : Launch) (Z : State) (a0 : Array Value) (hw : ∀ d ∈ tables_1, d.before a0 Z = true) (ws : List Jvm.Cond) (x0 : Addr) (ar : Addr) (k : ClassId) (w0 w1 w2 : Value) (h0 : Heap) (n0 : Nat) (Z0 : n0 ≤ h0.size) (p0_ : Exa Z h0 x0 "com/example/plainsong/plainsong/engine/CallStack") (p1_ : Fld Z h0 x0 "com/example/plainsong/plainsong/engine/CallStack" "activations" "[Lcom/example/plainsong/plainsong/engine/CallStack$Activation;" (.ref ar)) (p2_ : Fld Z h0 x0 "com/example/plainsong/plainsong/engine/CallStack" "depth" "I" (.int (3 : Int32))) (p3_ : Arv Z h0 ar k (.object "com/example/plainsong/plainsong/engine/CallStack$Activation") (16 : Int32) [w0, w1, w2] .null) (p4_ : n0 ≤ x0) (p5_ : n0 ≤ ar) (p6_ : x0 ≠ ar)  :
    MetFree l (⟨"com/example/plainsong/plainsong/engine/CallStack", "truncate", "(I)V"⟩ : MethodName) (head1 (Jvm.Cond.code (⟨"com/example/plainsong/plainsong/engine/CallStack", "truncate", "(I)V"⟩ : MethodName) prog_36_method_11_code 3 none :: ws) ({ frames := 0, cells := 0, slots := 0, locals := 0 } : Room)) (fun a U => a = #[(.ref x0), (.int (0 : Int32))] ∧ Z.Warmed39 U.vm ∧ U.heap = h0) (fun _ _ _ _ _ => True) (fun _ U o U' => ∃ v L, o = .returned v ∧ Q_rm_tr30 Z x0 ar k w0 w1 w2 h0 n0 v U'.heap L ∧ FrameEnd U o U' L ({ frames := 0, cells := 0, slots := 0, locals := 0 } : Room).cells ({ frames := 0, cells := 0, slots := 0, locals := 0 } : Room).slots) := by
  refine MetFree.of_bodySF (plainFor_of_name own_pn3) hisR ?_
  intro p e s m args below meth c s₁ Bd hml0 hP hK
  obtain ⟨rfl, hZ, hh⟩ := hP
  have hx := Bd.exec
  have hby := Bd.bytes
  have hml : c.maxLocals = 3 := hml0
  have hown : s.vm.findClass "com/example/plainsong/plainsong/engine/CallStack" = some m.cls := findClass_of_methodNamed Bd.named
  have hnm := (name_of_methodNamed Bd.named Bd.method).1
  have X0 : Stand p l e ({ frames := 0, cells := 0, slots := 0, locals := 0 } : Room) s m #[(.ref x0), (.int (0 : Int32))] below meth c s₁ [] 0 0 := Stand.of_body Bd
  have e0 : s₁.heap = h0 := by rw [← hh, Bd.state]; rfl
  show own_G p.tables e below (fun o U' => ∃ v L, o = .returned v ∧ Q_rm_tr30 Z x0 ar k w0 w1 w2 h0 n0 v U'.heap L ∧ FrameEnd s o U' L ({ frames := 0, cells := 0, slots := 0, locals := 0 } : Room).cells ({ frames := 0, cells := 0, slots := 0, locals := 0 } : Room).slots) (s₁.setTop (entryFrame m #[(.ref x0), (.int (0 : Int32))] 3))
  refine own_go (fun _ k => castTop (ef_6_RI m x0 (0 : Int32)) k) ?_
  have N0 := Fr.nil n0
  have KP0 := Keep.refl h0 [x0, ar]
  show own_G p.tables e below _ (s₁.setTop (mkF m 0 #[.val (.ref x0), .val (.int (0 : Int32)), .unset] []))
  refine own_go (fun _ k => XS.iloadN X0.here hx rfl (hb hby d6_0) rfl k) ?_
  show own_G p.tables e below _ (s₁.setTop (mkF m 1 #[.val (.ref x0), .val (.int (0 : Int32)), .unset] [(.int (0 : Int32))]))
  refine own_go (fun _ k => XS.istoreN X0.here hx rfl (hb hby d6_1) rfl (l' := #[.val (.ref x0), .val (.int (0 : Int32)), .val (.int (0 : Int32))]) rfl k) ?_
  show own_G p.tables e below _ (s₁.setTop (mkF m 2 #[.val (.ref x0), .val (.int (0 : Int32)), .val (.int (0 : Int32))] []))
  refine own_go (fun _ k => XS.iloadN X0.here hx rfl (hb hby d6_2) rfl k) ?_
  show own_G p.tables e below _ (s₁.setTop (mkF m 3 #[.val (.ref x0), .val (.int (0 : Int32)), .val (.int (0 : Int32))] [(.int (0 : Int32))]))
  refine own_go (fun _ k => XS.aloadN X0.here hx rfl (hb hby d6_3) rfl rfl k) ?_
  show own_G p.tables e below _ (s₁.setTop (mkF m 4 #[.val (.ref x0), .val (.int (0 : Int32)), .val (.int (0 : Int32))] [(.ref x0), (.int (0 : Int32))]))
  obtain ⟨T198, X198, e198, st198⟩ := getF X0 hx hZ hown (host := "") (Or.inl (hw _ (List.mem_of_getElem? (i := 48) rfl))) Via.refl e0 p2_ (g := (mkF m 4 #[.val (.ref x0), .val (.int (0 : Int32)), .val (.int (0 : Int32))] [(.ref x0), (.int (0 : Int32))])) rfl rfl (hb hby d6_4)
  refine own_go st198 ?_
  show own_G p.tables e below _ (T198.setTop (mkF m 7 #[.val (.ref x0), .val (.int (0 : Int32)), .val (.int (0 : Int32))] [(.int (3 : Int32)), (.int (0 : Int32))]))
  refine own_go (fun _ k => XS.icmpNo X198.here hx rfl (hb hby d6_7) rfl ((tlt (by decide : (0 : Int32) < (3 : Int32))).2.1) k) ?_
  show own_G p.tables e below _ (T198.setTop (mkF m 10 #[.val (.ref x0), .val (.int (0 : Int32)), .val (.int (0 : Int32))] []))
  refine own_go (fun _ k => XS.aloadN X198.here hx rfl (hb hby d6_10) rfl rfl k) ?_
  show own_G p.tables e below _ (T198.setTop (mkF m 11 #[.val (.ref x0), .val (.int (0 : Int32)), .val (.int (0 : Int32))] [(.ref x0)]))
  obtain ⟨T199, X199, e199, st199⟩ := getF X198 hx hZ hown (host := "") (Or.inl (hw _ (List.mem_of_getElem? (i := 39) rfl))) Via.refl e198 p1_ (g := (mkF m 11 #[.val (.ref x0), .val (.int (0 : Int32)), .val (.int (0 : Int32))] [(.ref x0)])) rfl rfl (hb hby d6_11)
  refine own_go st199 ?_
  show own_G p.tables e below _ (T199.setTop (mkF m 14 #[.val (.ref x0), .val (.int (0 : Int32)), .val (.int (0 : Int32))] [(.ref ar)]))
  refine own_go (fun _ k => XS.iloadN X199.here hx rfl (hb hby d6_14) rfl k) ?_
  show own_G p.tables e below _ (T199.setTop (mkF m 15 #[.val (.ref x0), .val (.int (0 : Int32)), .val (.int (0 : Int32))] [(.int (0 : Int32)), (.ref ar)]))
  refine own_go (fun _ k => XS.aconstNull X199.here hx rfl (hb hby d6_15) k) ?_
  show own_G p.tables e below _ (T199.setTop (mkF m 16 #[.val (.ref x0), .val (.int (0 : Int32)), .val (.int (0 : Int32))] [.null, (.int (0 : Int32)), (.ref ar)]))
  obtain ⟨cl200, Ar200, q200, S200, N200, H200, G200⟩ := id p3_
  obtain ⟨T200, h200, X200, e200, W200, st200⟩ := stR X199 hx hZ e199 Ar200 (j := (0 : Int32)) (inb_of S200 ⟨by decide, by decide⟩) rfl (Or.inl rfl) (g := (mkF m 16 #[.val (.ref x0), .val (.int (0 : Int32)), .val (.int (0 : Int32))] [.null, (.int (0 : Int32)), (.ref ar)])) rfl rfl (hb hby d6_16)
  have X_201 := p0_.wr W200
  have F_202 := p1_.other W200 (Or.inl p6_)
  have F_203 := p2_.other W200 (Or.inl p6_)
  have V200 : Arv Z h200 ar k (.object "com/example/plainsong/plainsong/engine/CallStack$Activation") (16 : Int32) [.null, w1, w2] .null := Arv.set Ar200 q200 S200 N200 H200 G200 rfl W200 0 rfl (Nat.le_of_ble_eq_true rfl)
  have Z_204 : n0 ≤ h200.size := Nat.le_trans Z0 (Nat.le_of_eq W200.size.symm)
  have KP_205 : Keep h0 h200 [x0, ar] := KP0.wr W200 (Or.inl (List.mem_of_getElem? (i := 1) rfl))
  have N_200 := Fr.snoc X200 N0 p5_
  refine own_go st200 ?_
  show own_G p.tables e below _ (T200.setTop (mkF m 17 #[.val (.ref x0), .val (.int (0 : Int32)), .val (.int (0 : Int32))] []))
  refine own_go (fun _ k => XS.iinc X200.here hx rfl (hb hby d6_17) rfl (l' := #[.val (.ref x0), .val (.int (0 : Int32)), .val (.int (1 : Int32))]) rfl k) ?_
  show own_G p.tables e below _ (T200.setTop (mkF m 20 #[.val (.ref x0), .val (.int (0 : Int32)), .val (.int (1 : Int32))] []))
  refine own_go (fun _ k => XS.goto X200.here hx rfl (pc0 := 20) (pc' := 2) rfl (hb hby d6_20) (by decide) (by decide) k) ?_
  show own_G p.tables e below _ (T200.setTop (mkF m 2 #[.val (.ref x0), .val (.int (0 : Int32)), .val (.int (1 : Int32))] []))
  refine own_go (fun _ k => XS.iloadN X200.here hx rfl (hb hby d6_2) rfl k) ?_
  show own_G p.tables e below _ (T200.setTop (mkF m 3 #[.val (.ref x0), .val (.int (0 : Int32)), .val (.int (1 : Int32))] [(.int (1 : Int32))]))
  refine own_go (fun _ k => XS.aloadN X200.here hx rfl (hb hby d6_3) rfl rfl k) ?_
  show own_G p.tables e below _ (T200.setTop (mkF m 4 #[.val (.ref x0), .val (.int (0 : Int32)), .val (.int (1 : Int32))] [(.ref x0), (.int (1 : Int32))]))
  obtain ⟨T206, X206, e206, st206⟩ := getF X200 hx hZ hown (host := "") (Or.inl (hw _ (List.mem_of_getElem? (i := 48) rfl))) Via.refl e200 F_203 (g := (mkF m 4 #[.val (.ref x0), .val (.int (0 : Int32)), .val (.int (1 : Int32))] [(.ref x0), (.int (1 : Int32))])) rfl rfl (hb hby d6_4)
  refine own_go st206 ?_
  show own_G p.tables e below _ (T206.setTop (mkF m 7 #[.val (.ref x0), .val (.int (0 : Int32)), .val (.int (1 : Int32))] [(.int (3 : Int32)), (.int (1 : Int32))]))
  refine own_go (fun _ k => XS.icmpNo X206.here hx rfl (hb hby d6_7) rfl ((tlt (by decide : (1 : Int32) < (3 : Int32))).2.1) k) ?_
  show own_G p.tables e below _ (T206.setTop (mkF m 10 #[.val (.ref x0), .val (.int (0 : Int32)), .val (.int (1 : Int32))] []))
  refine own_go (fun _ k => XS.aloadN X206.here hx rfl (hb hby d6_10) rfl rfl k) ?_
  show own_G p.tables e below _ (T206.setTop (mkF m 11 #[.val (.ref x0), .val (.int (0 : Int32)), .val (.int (1 : Int32))] [(.ref x0)]))
  obtain ⟨T207, X207, e207, st207⟩ := getF X206 hx hZ hown (host := "") (Or.inl (hw _ (List.mem_of_getElem? (i := 39) rfl))) Via.refl e206 F_202 (g := (mkF m 11 #[.val (.ref x0), .val (.int (0 : Int32)), .val (.int (1 : Int32))] [(.ref x0)])) rfl rfl (hb hby d6_11)
  refine own_go st207 ?_
  show own_G p.tables e below _ (T207.setTop (mkF m 14 #[.val (.ref x0), .val (.int (0 : Int32)), .val (.int (1 : Int32))] [(.ref ar)]))
  refine own_go (fun _ k => XS.iloadN X207.here hx rfl (hb hby d6_14) rfl k) ?_
  show own_G p.tables e below _ (T207.setTop (mkF m 15 #[.val (.ref x0), .val (.int (0 : Int32)), .val (.int (1 : Int32))] [(.int (1 : Int32)), (.ref ar)]))
  refine own_go (fun _ k => XS.aconstNull X207.here hx rfl (hb hby d6_15) k) ?_
  show own_G p.tables e below _ (T207.setTop (mkF m 16 #[.val (.ref x0), .val (.int (0 : Int32)), .val (.int (1 : Int32))] [.null, (.int (1 : Int32)), (.ref ar)]))
  obtain ⟨cl208, Ar208, q208, S208, N208, H208, G208⟩ := id V200
  obtain ⟨T208, h208, X208, e208, W208, st208⟩ := stR X207 hx hZ e207 Ar208 (j := (1 : Int32)) (inb_of S208 ⟨by decide, by decide⟩) rfl (Or.inl rfl) (g := (mkF m 16 #[.val (.ref x0), .val (.int (0 : Int32)), .val (.int (1 : Int32))] [.null, (.int (1 : Int32)), (.ref ar)])) rfl rfl (hb hby d6_16)
  have X_209 := X_201.wr W208
  have F_210 := F_202.other W208 (Or.inl p6_)
  have F_211 := F_203.other W208 (Or.inl p6_)
  have V208 : Arv Z h208 ar k (.object "com/example/plainsong/plainsong/engine/CallStack$Activation") (16 : Int32) [.null, .null, w2] .null := Arv.set Ar208 q208 S208 N208 H208 G208 rfl W208 1 rfl (Nat.le_of_ble_eq_true rfl)
  have Z_212 : n0 ≤ h208.size := Nat.le_trans Z_204 (Nat.le_of_eq W208.size.symm)
  have KP_213 : Keep h0 h208 [x0, ar] := KP_205.wr W208 (Or.inl (List.mem_of_getElem? (i := 1) rfl))
  have N_208 := Fr.snoc X208 N_200 p5_
  refine own_go st208 ?_
  show own_G p.tables e below _ (T208.setTop (mkF m 17 #[.val (.ref x0), .val (.int (0 : Int32)), .val (.int (1 : Int32))] []))
  refine own_go (fun _ k => XS.iinc X208.here hx rfl (hb hby d6_17) rfl (l' := #[.val (.ref x0), .val (.int (0 : Int32)), .val (.int (2 : Int32))]) rfl k) ?_
  show own_G p.tables e below _ (T208.setTop (mkF m 20 #[.val (.ref x0), .val (.int (0 : Int32)), .val (.int (2 : Int32))] []))
  refine own_go (fun _ k => XS.goto X208.here hx rfl (pc0 := 20) (pc' := 2) rfl (hb hby d6_20) (by decide) (by decide) k) ?_
  show own_G p.tables e below _ (T208.setTop (mkF m 2 #[.val (.ref x0), .val (.int (0 : Int32)), .val (.int (2 : Int32))] []))
  refine own_go (fun _ k => XS.iloadN X208.here hx rfl (hb hby d6_2) rfl k) ?_
  show own_G p.tables e below _ (T208.setTop (mkF m 3 #[.val (.ref x0), .val (.int (0 : Int32)), .val (.int (2 : Int32))] [(.int (2 : Int32))]))
  refine own_go (fun _ k => XS.aloadN X208.here hx rfl (hb hby d6_3) rfl rfl k) ?_
  show own_G p.tables e below _ (T208.setTop (mkF m 4 #[.val (.ref x0), .val (.int (0 : Int32)), .val (.int (2 : Int32))] [(.ref x0), (.int (2 : Int32))]))
  obtain ⟨T214, X214, e214, st214⟩ := getF X208 hx hZ hown (host := "") (Or.inl (hw _ (List.mem_of_getElem? (i := 48) rfl))) Via.refl e208 F_211 (g := (mkF m 4 #[.val (.ref x0), .val (.int (0 : Int32)), .val (.int (2 : Int32))] [(.ref x0), (.int (2 : Int32))])) rfl rfl (hb hby d6_4)
  refine own_go st214 ?_
  show own_G p.tables e below _ (T214.setTop (mkF m 7 #[.val (.ref x0), .val (.int (0 : Int32)), .val (.int (2 : Int32))] [(.int (3 : Int32)), (.int (2 : Int32))]))
  refine own_go (fun _ k => XS.icmpNo X214.here hx rfl (hb hby d6_7) rfl ((tlt (by decide : (2 : Int32) < (3 : Int32))).2.1) k) ?_
  show own_G p.tables e below _ (T214.setTop (mkF m 10 #[.val (.ref x0), .val (.int (0 : Int32)), .val (.int (2 : Int32))] []))
  refine own_go (fun _ k => XS.aloadN X214.here hx rfl (hb hby d6_10) rfl rfl k) ?_
  show own_G p.tables e below _ (T214.setTop (mkF m 11 #[.val (.ref x0), .val (.int (0 : Int32)), .val (.int (2 : Int32))] [(.ref x0)]))
  obtain ⟨T215, X215, e215, st215⟩ := getF X214 hx hZ hown (host := "") (Or.inl (hw _ (List.mem_of_getElem? (i := 39) rfl))) Via.refl e214 F_210 (g := (mkF m 11 #[.val (.ref x0), .val (.int (0 : Int32)), .val (.int (2 : Int32))] [(.ref x0)])) rfl rfl (hb hby d6_11)
  refine own_go st215 ?_
  show own_G p.tables e below _ (T215.setTop (mkF m 14 #[.val (.ref x0), .val (.int (0 : Int32)), .val (.int (2 : Int32))] [(.ref ar)]))
  refine own_go (fun _ k => XS.iloadN X215.here hx rfl (hb hby d6_14) rfl k) ?_
  show own_G p.tables e below _ (T215.setTop (mkF m 15 #[.val (.ref x0), .val (.int (0 : Int32)), .val (.int (2 : Int32))] [(.int (2 : Int32)), (.ref ar)]))
  refine own_go (fun _ k => XS.aconstNull X215.here hx rfl (hb hby d6_15) k) ?_
  show own_G p.tables e below _ (T215.setTop (mkF m 16 #[.val (.ref x0), .val (.int (0 : Int32)), .val (.int (2 : Int32))] [.null, (.int (2 : Int32)), (.ref ar)]))
  obtain ⟨cl216, Ar216, q216, S216, N216, H216, G216⟩ := id V208
  obtain ⟨T216, h216, X216, e216, W216, st216⟩ := stR X215 hx hZ e215 Ar216 (j := (2 : Int32)) (inb_of S216 ⟨by decide, by decide⟩) rfl (Or.inl rfl) (g := (mkF m 16 #[.val (.ref x0), .val (.int (0 : Int32)), .val (.int (2 : Int32))] [.null, (.int (2 : Int32)), (.ref ar)])) rfl rfl (hb hby d6_16)
  have X_217 := X_209.wr W216
  have F_218 := F_210.other W216 (Or.inl p6_)
  have F_219 := F_211.other W216 (Or.inl p6_)
  have V216 : Arv Z h216 ar k (.object "com/example/plainsong/plainsong/engine/CallStack$Activation") (16 : Int32) [.null, .null, .null] .null := Arv.set Ar216 q216 S216 N216 H216 G216 rfl W216 2 rfl (Nat.le_of_ble_eq_true rfl)
  have Z_220 : n0 ≤ h216.size := Nat.le_trans Z_212 (Nat.le_of_eq W216.size.symm)
  have KP_221 : Keep h0 h216 [x0, ar] := KP_213.wr W216 (Or.inl (List.mem_of_getElem? (i := 1) rfl))
  have N_216 := Fr.snoc X216 N_208 p5_
  refine own_go st216 ?_
  show own_G p.tables e below _ (T216.setTop (mkF m 17 #[.val (.ref x0), .val (.int (0 : Int32)), .val (.int (2 : Int32))] []))
  refine own_go (fun _ k => XS.iinc X216.here hx rfl (hb hby d6_17) rfl (l' := #[.val (.ref x0), .val (.int (0 : Int32)), .val (.int (3 : Int32))]) rfl k) ?_
  show own_G p.tables e below _ (T216.setTop (mkF m 20 #[.val (.ref x0), .val (.int (0 : Int32)), .val (.int (3 : Int32))] []))
  refine own_go (fun _ k => XS.goto X216.here hx rfl (pc0 := 20) (pc' := 2) rfl (hb hby d6_20) (by decide) (by decide) k) ?_
  show own_G p.tables e below _ (T216.setTop (mkF m 2 #[.val (.ref x0), .val (.int (0 : Int32)), .val (.int (3 : Int32))] []))
  refine own_go (fun _ k => XS.iloadN X216.here hx rfl (hb hby d6_2) rfl k) ?_
  show own_G p.tables e below _ (T216.setTop (mkF m 3 #[.val (.ref x0), .val (.int (0 : Int32)), .val (.int (3 : Int32))] [(.int (3 : Int32))]))
  refine own_go (fun _ k => XS.aloadN X216.here hx rfl (hb hby d6_3) rfl rfl k) ?_
  show own_G p.tables e below _ (T216.setTop (mkF m 4 #[.val (.ref x0), .val (.int (0 : Int32)), .val (.int (3 : Int32))] [(.ref x0), (.int (3 : Int32))]))
  obtain ⟨T222, X222, e222, st222⟩ := getF X216 hx hZ hown (host := "") (Or.inl (hw _ (List.mem_of_getElem? (i := 48) rfl))) Via.refl e216 F_219 (g := (mkF m 4 #[.val (.ref x0), .val (.int (0 : Int32)), .val (.int (3 : Int32))] [(.ref x0), (.int (3 : Int32))])) rfl rfl (hb hby d6_4)
  refine own_go st222 ?_
  show own_G p.tables e below _ (T222.setTop (mkF m 7 #[.val (.ref x0), .val (.int (0 : Int32)), .val (.int (3 : Int32))] [(.int (3 : Int32)), (.int (3 : Int32))]))
  refine own_go (fun _ k => XS.icmpYes X222.here hx rfl (pc0 := 7) (pc' := 23) rfl (hb hby d6_7) rfl ((flt (by decide : ¬ ((3 : Int32) < (3 : Int32)))).2.1) (by decide) (by decide) k) ?_
  show own_G p.tables e below _ (T222.setTop (mkF m 23 #[.val (.ref x0), .val (.int (0 : Int32)), .val (.int (3 : Int32))] []))
  refine own_go (fun _ k => XS.aloadN X222.here hx rfl (hb hby d6_23) rfl rfl k) ?_
  show own_G p.tables e below _ (T222.setTop (mkF m 24 #[.val (.ref x0), .val (.int (0 : Int32)), .val (.int (3 : Int32))] [(.ref x0)]))
  refine own_go (fun _ k => XS.iloadN X222.here hx rfl (hb hby d6_24) rfl k) ?_
  show own_G p.tables e below _ (T222.setTop (mkF m 25 #[.val (.ref x0), .val (.int (0 : Int32)), .val (.int (3 : Int32))] [(.int (0 : Int32)), (.ref x0)]))
  obtain ⟨T223, h223, X223, e223, W223, st223⟩ := putF X222 hx hZ hown (host := "") (Or.inl (hw _ (List.mem_of_getElem? (i := 48) rfl))) Via.refl e222 F_219 X_217 (Or.inl (hw _ (List.mem_of_getElem? (i := 49) rfl))) (hw _ (List.mem_of_getElem? (i := 11) rfl)) (ty := .int) (by decide) rfl rfl (g := (mkF m 25 #[.val (.ref x0), .val (.int (0 : Int32)), .val (.int (3 : Int32))] [(.int (0 : Int32)), (.ref x0)])) rfl rfl (hb hby d6_25)
  have X_224 := X_217.wr W223
  have F_225 := F_218.other W223 (Or.inr (slot_ne (Or.inl (hw _ (List.mem_of_getElem? (i := 40) rfl))) (Or.inl (hw _ (List.mem_of_getElem? (i := 49) rfl))) (by decide) (t := (.array (.object "com/example/plainsong/plainsong/engine/CallStack$Activation"))) (t' := .int) (by decide) (by decide)))
  have V_226 := V216.other W223 (Ne.symm p6_)
  have F_227 := F_219.same W223
  have Z_228 : n0 ≤ h223.size := Nat.le_trans Z_220 (Nat.le_of_eq W223.size.symm)
  have KP_229 : Keep h0 h223 [x0, ar] := KP_221.wr W223 (Or.inl (List.mem_of_getElem? (i := 0) rfl))
  have N_223 := Fr.snoc X223 N_216 p4_
  refine own_go st223 ?_
  show own_G p.tables e below _ (T223.setTop (mkF m 28 #[.val (.ref x0), .val (.int (0 : Int32)), .val (.int (3 : Int32))] []))
  exact own_end X223 Bd.notSynchronized (v := none) (fun _ => rfl) (Q := Q_rm_tr30 Z x0 ar k w0 w1 w2 h0 n0) (by show Q_rm_tr30 Z x0 ar k w0 w1 w2 h0 n0 (none) T223.heap _; rw [e223]; exact ⟨rfl, N_223, KP_229, X_224, F_225, F_227, V_226⟩) (fun fs hr => X223.returnOut hx Bd.returns (hb hby d6_28) hr) (by decide) (by decide)
def Q_rm_tr31 (Z : State) (x0 : Addr) (ar : Addr) (k : ClassId) (w0 w1 w2 : Value) (h0 : Heap) (n0 : Nat) (v : Option Value) (h : Heap) (L : List Loc) : Prop := v = none ∧ Fr n0 L ∧ Keep h0 h [x0, ar] ∧ Exa Z h x0 "com/example/plainsong/plainsong/engine/CallStack" ∧ Fld Z h x0 "com/example/plainsong/plainsong/engine/CallStack" "activations" "[Lcom/example/plainsong/plainsong/engine/CallStack$Activation;" (.ref ar) ∧ Fld Z h x0 "com/example/plainsong/plainsong/engine/CallStack" "depth" "I" (.int (1 : Int32)) ∧ Arv Z h ar k (.object "com/example/plainsong/plainsong/engine/CallStack$Activation") (16 : Int32) [w0, .null, .null] .null
set_option maxRecDepth 65536 in
set_option maxHeartbeats 40000000 in
theorem rm_tr31 (l : Launch) (Z : State) (a0 : Array Value) (hw : ∀ d ∈ tables_1, d.before a0 Z = true) (ws : List Jvm.Cond) (x0 : Addr) (ar : Addr) (k : ClassId) (w0 w1 w2 : Value) (h0 : Heap) (n0 : Nat) (Z0 : n0 ≤ h0.size) (p0_ : Exa Z h0 x0 "com/example/plainsong/plainsong/engine/CallStack") (p1_ : Fld Z h0 x0 "com/example/plainsong/plainsong/engine/CallStack" "activations" "[Lcom/example/plainsong/plainsong/engine/CallStack$Activation;" (.ref ar)) (p2_ : Fld Z h0 x0 "com/example/plainsong/plainsong/engine/CallStack" "depth" "I" (.int (3 : Int32))) (p3_ : Arv Z h0 ar k (.object "com/example/plainsong/plainsong/engine/CallStack$Activation") (16 : Int32) [w0, w1, w2] .null) (p4_ : n0 ≤ x0) (p5_ : n0 ≤ ar) (p6_ : x0 ≠ ar)  :
    MetFree l (⟨"com/example/plainsong/plainsong/engine/CallStack", "truncate", "(I)V"⟩ : MethodName) (head1 (Jvm.Cond.code (⟨"com/example/plainsong/plainsong/engine/CallStack", "truncate", "(I)V"⟩ : MethodName) prog_36_method_11_code 3 none :: ws) ({ frames := 0, cells := 0, slots := 0, locals := 0 } : Room)) (fun a U => a = #[(.ref x0), (.int (1 : Int32))] ∧ Z.Warmed39 U.vm ∧ U.heap = h0) (fun _ _ _ _ _ => True) (fun _ U o U' => ∃ v L, o = .returned v ∧ Q_rm_tr31 Z x0 ar k w0 w1 w2 h0 n0 v U'.heap L ∧ FrameEnd U o U' L ({ frames := 0, cells := 0, slots := 0, locals := 0 } : Room).cells ({ frames := 0, cells := 0, slots := 0, locals := 0 } : Room).slots) := by
  refine MetFree.of_bodySF (plainFor_of_name own_pn3) hisR ?_
  intro p e s m args below meth c s₁ Bd hml0 hP hK
  obtain ⟨rfl, hZ, hh⟩ := hP
  have hx := Bd.exec
  have hby := Bd.bytes
  have hml : c.maxLocals = 3 := hml0
  have hown : s.vm.findClass "com/example/plainsong/plainsong/engine/CallStack" = some m.cls := findClass_of_methodNamed Bd.named
  have hnm := (name_of_methodNamed Bd.named Bd.method).1
  have X0 : Stand p l e ({ frames := 0, cells := 0, slots := 0, locals := 0 } : Room) s m #[(.ref x0), (.int (1 : Int32))] below meth c s₁ [] 0 0 := Stand.of_body Bd
  have e0 : s₁.heap = h0 := by rw [← hh, Bd.state]; rfl
  show own_G p.tables e below (fun o U' => ∃ v L, o = .returned v ∧ Q_rm_tr31 Z x0 ar k w0 w1 w2 h0 n0 v U'.heap L ∧ FrameEnd s o U' L ({ frames := 0, cells := 0, slots := 0, locals := 0 } : Room).cells ({ frames := 0, cells := 0, slots := 0, locals := 0 } : Room).slots) (s₁.setTop (entryFrame m #[(.ref x0), (.int (1 : Int32))] 3))
  refine own_go (fun _ k => castTop (ef_6_RI m x0 (1 : Int32)) k) ?_
  have N0 := Fr.nil n0
  have KP0 := Keep.refl h0 [x0, ar]
  show own_G p.tables e below _ (s₁.setTop (mkF m 0 #[.val (.ref x0), .val (.int (1 : Int32)), .unset] []))
  refine own_go (fun _ k => XS.iloadN X0.here hx rfl (hb hby d6_0) rfl k) ?_
  show own_G p.tables e below _ (s₁.setTop (mkF m 1 #[.val (.ref x0), .val (.int (1 : Int32)), .unset] [(.int (1 : Int32))]))
  refine own_go (fun _ k => XS.istoreN X0.here hx rfl (hb hby d6_1) rfl (l' := #[.val (.ref x0), .val (.int (1 : Int32)), .val (.int (1 : Int32))]) rfl k) ?_
  show own_G p.tables e below _ (s₁.setTop (mkF m 2 #[.val (.ref x0), .val (.int (1 : Int32)), .val (.int (1 : Int32))] []))
  refine own_go (fun _ k => XS.iloadN X0.here hx rfl (hb hby d6_2) rfl k) ?_
  show own_G p.tables e below _ (s₁.setTop (mkF m 3 #[.val (.ref x0), .val (.int (1 : Int32)), .val (.int (1 : Int32))] [(.int (1 : Int32))]))
  refine own_go (fun _ k => XS.aloadN X0.here hx rfl (hb hby d6_3) rfl rfl k) ?_
  show own_G p.tables e below _ (s₁.setTop (mkF m 4 #[.val (.ref x0), .val (.int (1 : Int32)), .val (.int (1 : Int32))] [(.ref x0), (.int (1 : Int32))]))
  obtain ⟨T230, X230, e230, st230⟩ := getF X0 hx hZ hown (host := "") (Or.inl (hw _ (List.mem_of_getElem? (i := 48) rfl))) Via.refl e0 p2_ (g := (mkF m 4 #[.val (.ref x0), .val (.int (1 : Int32)), .val (.int (1 : Int32))] [(.ref x0), (.int (1 : Int32))])) rfl rfl (hb hby d6_4)
  refine own_go st230 ?_
  show own_G p.tables e below _ (T230.setTop (mkF m 7 #[.val (.ref x0), .val (.int (1 : Int32)), .val (.int (1 : Int32))] [(.int (3 : Int32)), (.int (1 : Int32))]))
  refine own_go (fun _ k => XS.icmpNo X230.here hx rfl (hb hby d6_7) rfl ((tlt (by decide : (1 : Int32) < (3 : Int32))).2.1) k) ?_
  show own_G p.tables e below _ (T230.setTop (mkF m 10 #[.val (.ref x0), .val (.int (1 : Int32)), .val (.int (1 : Int32))] []))
  refine own_go (fun _ k => XS.aloadN X230.here hx rfl (hb hby d6_10) rfl rfl k) ?_
  show own_G p.tables e below _ (T230.setTop (mkF m 11 #[.val (.ref x0), .val (.int (1 : Int32)), .val (.int (1 : Int32))] [(.ref x0)]))
  obtain ⟨T231, X231, e231, st231⟩ := getF X230 hx hZ hown (host := "") (Or.inl (hw _ (List.mem_of_getElem? (i := 39) rfl))) Via.refl e230 p1_ (g := (mkF m 11 #[.val (.ref x0), .val (.int (1 : Int32)), .val (.int (1 : Int32))] [(.ref x0)])) rfl rfl (hb hby d6_11)
  refine own_go st231 ?_
  show own_G p.tables e below _ (T231.setTop (mkF m 14 #[.val (.ref x0), .val (.int (1 : Int32)), .val (.int (1 : Int32))] [(.ref ar)]))
  refine own_go (fun _ k => XS.iloadN X231.here hx rfl (hb hby d6_14) rfl k) ?_
  show own_G p.tables e below _ (T231.setTop (mkF m 15 #[.val (.ref x0), .val (.int (1 : Int32)), .val (.int (1 : Int32))] [(.int (1 : Int32)), (.ref ar)]))
  refine own_go (fun _ k => XS.aconstNull X231.here hx rfl (hb hby d6_15) k) ?_
  show own_G p.tables e below _ (T231.setTop (mkF m 16 #[.val (.ref x0), .val (.int (1 : Int32)), .val (.int (1 : Int32))] [.null, (.int (1 : Int32)), (.ref ar)]))
  obtain ⟨cl232, Ar232, q232, S232, N232, H232, G232⟩ := id p3_
  obtain ⟨T232, h232, X232, e232, W232, st232⟩ := stR X231 hx hZ e231 Ar232 (j := (1 : Int32)) (inb_of S232 ⟨by decide, by decide⟩) rfl (Or.inl rfl) (g := (mkF m 16 #[.val (.ref x0), .val (.int (1 : Int32)), .val (.int (1 : Int32))] [.null, (.int (1 : Int32)), (.ref ar)])) rfl rfl (hb hby d6_16)
  have X_233 := p0_.wr W232
  have F_234 := p1_.other W232 (Or.inl p6_)
  have F_235 := p2_.other W232 (Or.inl p6_)
  have V232 : Arv Z h232 ar k (.object "com/example/plainsong/plainsong/engine/CallStack$Activation") (16 : Int32) [w0, .null, w2] .null := Arv.set Ar232 q232 S232 N232 H232 G232 rfl W232 1 rfl (Nat.le_of_ble_eq_true rfl)
  have Z_236 : n0 ≤ h232.size := Nat.le_trans Z0 (Nat.le_of_eq W232.size.symm)
  have KP_237 : Keep h0 h232 [x0, ar] := KP0.wr W232 (Or.inl (List.mem_of_getElem? (i := 1) rfl))
  have N_232 := Fr.snoc X232 N0 p5_
  refine own_go st232 ?_
  show own_G p.tables e below _ (T232.setTop (mkF m 17 #[.val (.ref x0), .val (.int (1 : Int32)), .val (.int (1 : Int32))] []))
  refine own_go (fun _ k => XS.iinc X232.here hx rfl (hb hby d6_17) rfl (l' := #[.val (.ref x0), .val (.int (1 : Int32)), .val (.int (2 : Int32))]) rfl k) ?_
  show own_G p.tables e below _ (T232.setTop (mkF m 20 #[.val (.ref x0), .val (.int (1 : Int32)), .val (.int (2 : Int32))] []))
  refine own_go (fun _ k => XS.goto X232.here hx rfl (pc0 := 20) (pc' := 2) rfl (hb hby d6_20) (by decide) (by decide) k) ?_
  show own_G p.tables e below _ (T232.setTop (mkF m 2 #[.val (.ref x0), .val (.int (1 : Int32)), .val (.int (2 : Int32))] []))
  refine own_go (fun _ k => XS.iloadN X232.here hx rfl (hb hby d6_2) rfl k) ?_
  show own_G p.tables e below _ (T232.setTop (mkF m 3 #[.val (.ref x0), .val (.int (1 : Int32)), .val (.int (2 : Int32))] [(.int (2 : Int32))]))
  refine own_go (fun _ k => XS.aloadN X232.here hx rfl (hb hby d6_3) rfl rfl k) ?_
  show own_G p.tables e below _ (T232.setTop (mkF m 4 #[.val (.ref x0), .val (.int (1 : Int32)), .val (.int (2 : Int32))] [(.ref x0), (.int (2 : Int32))]))
  obtain ⟨T238, X238, e238, st238⟩ := getF X232 hx hZ hown (host := "") (Or.inl (hw _ (List.mem_of_getElem? (i := 48) rfl))) Via.refl e232 F_235 (g := (mkF m 4 #[.val (.ref x0), .val (.int (1 : Int32)), .val (.int (2 : Int32))] [(.ref x0), (.int (2 : Int32))])) rfl rfl (hb hby d6_4)
  refine own_go st238 ?_
  show own_G p.tables e below _ (T238.setTop (mkF m 7 #[.val (.ref x0), .val (.int (1 : Int32)), .val (.int (2 : Int32))] [(.int (3 : Int32)), (.int (2 : Int32))]))
  refine own_go (fun _ k => XS.icmpNo X238.here hx rfl (hb hby d6_7) rfl ((tlt (by decide : (2 : Int32) < (3 : Int32))).2.1) k) ?_
  show own_G p.tables e below _ (T238.setTop (mkF m 10 #[.val (.ref x0), .val (.int (1 : Int32)), .val (.int (2 : Int32))] []))
  refine own_go (fun _ k => XS.aloadN X238.here hx rfl (hb hby d6_10) rfl rfl k) ?_
  show own_G p.tables e below _ (T238.setTop (mkF m 11 #[.val (.ref x0), .val (.int (1 : Int32)), .val (.int (2 : Int32))] [(.ref x0)]))
  obtain ⟨T239, X239, e239, st239⟩ := getF X238 hx hZ hown (host := "") (Or.inl (hw _ (List.mem_of_getElem? (i := 39) rfl))) Via.refl e238 F_234 (g := (mkF m 11 #[.val (.ref x0), .val (.int (1 : Int32)), .val (.int (2 : Int32))] [(.ref x0)])) rfl rfl (hb hby d6_11)
  refine own_go st239 ?_
  show own_G p.tables e below _ (T239.setTop (mkF m 14 #[.val (.ref x0), .val (.int (1 : Int32)), .val (.int (2 : Int32))] [(.ref ar)]))
  refine own_go (fun _ k => XS.iloadN X239.here hx rfl (hb hby d6_14) rfl k) ?_
  show own_G p.tables e below _ (T239.setTop (mkF m 15 #[.val (.ref x0), .val (.int (1 : Int32)), .val (.int (2 : Int32))] [(.int (2 : Int32)), (.ref ar)]))
  refine own_go (fun _ k => XS.aconstNull X239.here hx rfl (hb hby d6_15) k) ?_
  show own_G p.tables e below _ (T239.setTop (mkF m 16 #[.val (.ref x0), .val (.int (1 : Int32)), .val (.int (2 : Int32))] [.null, (.int (2 : Int32)), (.ref ar)]))
  obtain ⟨cl240, Ar240, q240, S240, N240, H240, G240⟩ := id V232
  obtain ⟨T240, h240, X240, e240, W240, st240⟩ := stR X239 hx hZ e239 Ar240 (j := (2 : Int32)) (inb_of S240 ⟨by decide, by decide⟩) rfl (Or.inl rfl) (g := (mkF m 16 #[.val (.ref x0), .val (.int (1 : Int32)), .val (.int (2 : Int32))] [.null, (.int (2 : Int32)), (.ref ar)])) rfl rfl (hb hby d6_16)
  have X_241 := X_233.wr W240
  have F_242 := F_234.other W240 (Or.inl p6_)
  have F_243 := F_235.other W240 (Or.inl p6_)
  have V240 : Arv Z h240 ar k (.object "com/example/plainsong/plainsong/engine/CallStack$Activation") (16 : Int32) [w0, .null, .null] .null := Arv.set Ar240 q240 S240 N240 H240 G240 rfl W240 2 rfl (Nat.le_of_ble_eq_true rfl)
  have Z_244 : n0 ≤ h240.size := Nat.le_trans Z_236 (Nat.le_of_eq W240.size.symm)
  have KP_245 : Keep h0 h240 [x0, ar] := KP_237.wr W240 (Or.inl (List.mem_of_getElem? (i := 1) rfl))
  have N_240 := Fr.snoc X240 N_232 p5_
  refine own_go st240 ?_
  show own_G p.tables e below _ (T240.setTop (mkF m 17 #[.val (.ref x0), .val (.int (1 : Int32)), .val (.int (2 : Int32))] []))
  refine own_go (fun _ k => XS.iinc X240.here hx rfl (hb hby d6_17) rfl (l' := #[.val (.ref x0), .val (.int (1 : Int32)), .val (.int (3 : Int32))]) rfl k) ?_
  show own_G p.tables e below _ (T240.setTop (mkF m 20 #[.val (.ref x0), .val (.int (1 : Int32)), .val (.int (3 : Int32))] []))
  refine own_go (fun _ k => XS.goto X240.here hx rfl (pc0 := 20) (pc' := 2) rfl (hb hby d6_20) (by decide) (by decide) k) ?_
  show own_G p.tables e below _ (T240.setTop (mkF m 2 #[.val (.ref x0), .val (.int (1 : Int32)), .val (.int (3 : Int32))] []))
  refine own_go (fun _ k => XS.iloadN X240.here hx rfl (hb hby d6_2) rfl k) ?_
  show own_G p.tables e below _ (T240.setTop (mkF m 3 #[.val (.ref x0), .val (.int (1 : Int32)), .val (.int (3 : Int32))] [(.int (3 : Int32))]))
  refine own_go (fun _ k => XS.aloadN X240.here hx rfl (hb hby d6_3) rfl rfl k) ?_
  show own_G p.tables e below _ (T240.setTop (mkF m 4 #[.val (.ref x0), .val (.int (1 : Int32)), .val (.int (3 : Int32))] [(.ref x0), (.int (3 : Int32))]))
  obtain ⟨T246, X246, e246, st246⟩ := getF X240 hx hZ hown (host := "") (Or.inl (hw _ (List.mem_of_getElem? (i := 48) rfl))) Via.refl e240 F_243 (g := (mkF m 4 #[.val (.ref x0), .val (.int (1 : Int32)), .val (.int (3 : Int32))] [(.ref x0), (.int (3 : Int32))])) rfl rfl (hb hby d6_4)
  refine own_go st246 ?_
  show own_G p.tables e below _ (T246.setTop (mkF m 7 #[.val (.ref x0), .val (.int (1 : Int32)), .val (.int (3 : Int32))] [(.int (3 : Int32)), (.int (3 : Int32))]))
  refine own_go (fun _ k => XS.icmpYes X246.here hx rfl (pc0 := 7) (pc' := 23) rfl (hb hby d6_7) rfl ((flt (by decide : ¬ ((3 : Int32) < (3 : Int32)))).2.1) (by decide) (by decide) k) ?_
  show own_G p.tables e below _ (T246.setTop (mkF m 23 #[.val (.ref x0), .val (.int (1 : Int32)), .val (.int (3 : Int32))] []))
  refine own_go (fun _ k => XS.aloadN X246.here hx rfl (hb hby d6_23) rfl rfl k) ?_
  show own_G p.tables e below _ (T246.setTop (mkF m 24 #[.val (.ref x0), .val (.int (1 : Int32)), .val (.int (3 : Int32))] [(.ref x0)]))
  refine own_go (fun _ k => XS.iloadN X246.here hx rfl (hb hby d6_24) rfl k) ?_
  show own_G p.tables e below _ (T246.setTop (mkF m 25 #[.val (.ref x0), .val (.int (1 : Int32)), .val (.int (3 : Int32))] [(.int (1 : Int32)), (.ref x0)]))
  obtain ⟨T247, h247, X247, e247, W247, st247⟩ := putF X246 hx hZ hown (host := "") (Or.inl (hw _ (List.mem_of_getElem? (i := 48) rfl))) Via.refl e246 F_243 X_241 (Or.inl (hw _ (List.mem_of_getElem? (i := 49) rfl))) (hw _ (List.mem_of_getElem? (i := 11) rfl)) (ty := .int) (by decide) rfl rfl (g := (mkF m 25 #[.val (.ref x0), .val (.int (1 : Int32)), .val (.int (3 : Int32))] [(.int (1 : Int32)), (.ref x0)])) rfl rfl (hb hby d6_25)
  have X_248 := X_241.wr W247
  have F_249 := F_242.other W247 (Or.inr (slot_ne (Or.inl (hw _ (List.mem_of_getElem? (i := 40) rfl))) (Or.inl (hw _ (List.mem_of_getElem? (i := 49) rfl))) (by decide) (t := (.array (.object "com/example/plainsong/plainsong/engine/CallStack$Activation"))) (t' := .int) (by decide) (by decide)))
  have V_250 := V240.other W247 (Ne.symm p6_)
  have F_251 := F_243.same W247
  have Z_252 : n0 ≤ h247.size := Nat.le_trans Z_244 (Nat.le_of_eq W247.size.symm)
  have KP_253 : Keep h0 h247 [x0, ar] := KP_245.wr W247 (Or.inl (List.mem_of_getElem? (i := 0) rfl))
  have N_247 := Fr.snoc X247 N_240 p4_
  refine own_go st247 ?_
  show own_G p.tables e below _ (T247.setTop (mkF m 28 #[.val (.ref x0), .val (.int (1 : Int32)), .val (.int (3 : Int32))] []))
  exact own_end X247 Bd.notSynchronized (v := none) (fun _ => rfl) (Q := Q_rm_tr31 Z x0 ar k w0 w1 w2 h0 n0) (by show Q_rm_tr31 Z x0 ar k w0 w1 w2 h0 n0 (none) T247.heap _; rw [e247]; exact ⟨rfl, N_247, KP_253, X_248, F_249, F_251, V_250⟩) (fun fs hr => X247.returnOut hx Bd.returns (hb hby d6_28) hr) (by decide) (by decide)
def Q_rm_tr32 (Z : State) (x0 : Addr) (ar : Addr) (k : ClassId) (w0 w1 w2 : Value) (h0 : Heap) (n0 : Nat) (v : Option Value) (h : Heap) (L : List Loc) : Prop := v = none ∧ Fr n0 L ∧ Keep h0 h [x0, ar] ∧ Exa Z h x0 "com/example/plainsong/plainsong/engine/CallStack" ∧ Fld Z h x0 "com/example/plainsong/plainsong/engine/CallStack" "activations" "[Lcom/example/plainsong/plainsong/engine/CallStack$Activation;" (.ref ar) ∧ Fld Z h x0 "com/example/plainsong/plainsong/engine/CallStack" "depth" "I" (.int (2 : Int32)) ∧ Arv Z h ar k (.object "com/example/plainsong/plainsong/engine/CallStack$Activation") (16 : Int32) [w0, w1, .null] .null
set_option maxRecDepth 65536 in
set_option maxHeartbeats 40000000 in
theorem rm_tr32 (l : Launch) (Z : State) (a0 : Array Value) (hw : ∀ d ∈ tables_1, d.before a0 Z = true) (ws : List Jvm.Cond) (x0 : Addr) (ar : Addr) (k : ClassId) (w0 w1 w2 : Value) (h0 : Heap) (n0 : Nat) (Z0 : n0 ≤ h0.size) (p0_ : Exa Z h0 x0 "com/example/plainsong/plainsong/engine/CallStack") (p1_ : Fld Z h0 x0 "com/example/plainsong/plainsong/engine/CallStack" "activations" "[Lcom/example/plainsong/plainsong/engine/CallStack$Activation;" (.ref ar)) (p2_ : Fld Z h0 x0 "com/example/plainsong/plainsong/engine/CallStack" "depth" "I" (.int (3 : Int32))) (p3_ : Arv Z h0 ar k (.object "com/example/plainsong/plainsong/engine/CallStack$Activation") (16 : Int32) [w0, w1, w2] .null) (p4_ : n0 ≤ x0) (p5_ : n0 ≤ ar) (p6_ : x0 ≠ ar)  :
    MetFree l (⟨"com/example/plainsong/plainsong/engine/CallStack", "truncate", "(I)V"⟩ : MethodName) (head1 (Jvm.Cond.code (⟨"com/example/plainsong/plainsong/engine/CallStack", "truncate", "(I)V"⟩ : MethodName) prog_36_method_11_code 3 none :: ws) ({ frames := 0, cells := 0, slots := 0, locals := 0 } : Room)) (fun a U => a = #[(.ref x0), (.int (2 : Int32))] ∧ Z.Warmed39 U.vm ∧ U.heap = h0) (fun _ _ _ _ _ => True) (fun _ U o U' => ∃ v L, o = .returned v ∧ Q_rm_tr32 Z x0 ar k w0 w1 w2 h0 n0 v U'.heap L ∧ FrameEnd U o U' L ({ frames := 0, cells := 0, slots := 0, locals := 0 } : Room).cells ({ frames := 0, cells := 0, slots := 0, locals := 0 } : Room).slots) := by
  refine MetFree.of_bodySF (plainFor_of_name own_pn3) hisR ?_
  intro p e s m args below meth c s₁ Bd hml0 hP hK
  obtain ⟨rfl, hZ, hh⟩ := hP
  have hx := Bd.exec
  have hby := Bd.bytes
  have hml : c.maxLocals = 3 := hml0
  have hown : s.vm.findClass "com/example/plainsong/plainsong/engine/CallStack" = some m.cls := findClass_of_methodNamed Bd.named
  have hnm := (name_of_methodNamed Bd.named Bd.method).1
  have X0 : Stand p l e ({ frames := 0, cells := 0, slots := 0, locals := 0 } : Room) s m #[(.ref x0), (.int (2 : Int32))] below meth c s₁ [] 0 0 := Stand.of_body Bd
  have e0 : s₁.heap = h0 := by rw [← hh, Bd.state]; rfl
  show own_G p.tables e below (fun o U' => ∃ v L, o = .returned v ∧ Q_rm_tr32 Z x0 ar k w0 w1 w2 h0 n0 v U'.heap L ∧ FrameEnd s o U' L ({ frames := 0, cells := 0, slots := 0, locals := 0 } : Room).cells ({ frames := 0, cells := 0, slots := 0, locals := 0 } : Room).slots) (s₁.setTop (entryFrame m #[(.ref x0), (.int (2 : Int32))] 3))
  refine own_go (fun _ k => castTop (ef_6_RI m x0 (2 : Int32)) k) ?_
  have N0 := Fr.nil n0
  have KP0 := Keep.refl h0 [x0, ar]
  show own_G p.tables e below _ (s₁.setTop (mkF m 0 #[.val (.ref x0), .val (.int (2 : Int32)), .unset] []))
  refine own_go (fun _ k => XS.iloadN X0.here hx rfl (hb hby d6_0) rfl k) ?_
  show own_G p.tables e below _ (s₁.setTop (mkF m 1 #[.val (.ref x0), .val (.int (2 : Int32)), .unset] [(.int (2 : Int32))]))
  refine own_go (fun _ k => XS.istoreN X0.here hx rfl (hb hby d6_1) rfl (l' := #[.val (.ref x0), .val (.int (2 : Int32)), .val (.int (2 : Int32))]) rfl k) ?_
  show own_G p.tables e below _ (s₁.setTop (mkF m 2 #[.val (.ref x0), .val (.int (2 : Int32)), .val (.int (2 : Int32))] []))
  refine own_go (fun _ k => XS.iloadN X0.here hx rfl (hb hby d6_2) rfl k) ?_
  show own_G p.tables e below _ (s₁.setTop (mkF m 3 #[.val (.ref x0), .val (.int (2 : Int32)), .val (.int (2 : Int32))] [(.int (2 : Int32))]))
  refine own_go (fun _ k => XS.aloadN X0.here hx rfl (hb hby d6_3) rfl rfl k) ?_
  show own_G p.tables e below _ (s₁.setTop (mkF m 4 #[.val (.ref x0), .val (.int (2 : Int32)), .val (.int (2 : Int32))] [(.ref x0), (.int (2 : Int32))]))
  obtain ⟨T254, X254, e254, st254⟩ := getF X0 hx hZ hown (host := "") (Or.inl (hw _ (List.mem_of_getElem? (i := 48) rfl))) Via.refl e0 p2_ (g := (mkF m 4 #[.val (.ref x0), .val (.int (2 : Int32)), .val (.int (2 : Int32))] [(.ref x0), (.int (2 : Int32))])) rfl rfl (hb hby d6_4)
  refine own_go st254 ?_
  show own_G p.tables e below _ (T254.setTop (mkF m 7 #[.val (.ref x0), .val (.int (2 : Int32)), .val (.int (2 : Int32))] [(.int (3 : Int32)), (.int (2 : Int32))]))
  refine own_go (fun _ k => XS.icmpNo X254.here hx rfl (hb hby d6_7) rfl ((tlt (by decide : (2 : Int32) < (3 : Int32))).2.1) k) ?_
  show own_G p.tables e below _ (T254.setTop (mkF m 10 #[.val (.ref x0), .val (.int (2 : Int32)), .val (.int (2 : Int32))] []))
  refine own_go (fun _ k => XS.aloadN X254.here hx rfl (hb hby d6_10) rfl rfl k) ?_
  show own_G p.tables e below _ (T254.setTop (mkF m 11 #[.val (.ref x0), .val (.int (2 : Int32)), .val (.int (2 : Int32))] [(.ref x0)]))
  obtain ⟨T255, X255, e255, st255⟩ := getF X254 hx hZ hown (host := "") (Or.inl (hw _ (List.mem_of_getElem? (i := 39) rfl))) Via.refl e254 p1_ (g := (mkF m 11 #[.val (.ref x0), .val (.int (2 : Int32)), .val (.int (2 : Int32))] [(.ref x0)])) rfl rfl (hb hby d6_11)
  refine own_go st255 ?_
  show own_G p.tables e below _ (T255.setTop (mkF m 14 #[.val (.ref x0), .val (.int (2 : Int32)), .val (.int (2 : Int32))] [(.ref ar)]))
  refine own_go (fun _ k => XS.iloadN X255.here hx rfl (hb hby d6_14) rfl k) ?_
  show own_G p.tables e below _ (T255.setTop (mkF m 15 #[.val (.ref x0), .val (.int (2 : Int32)), .val (.int (2 : Int32))] [(.int (2 : Int32)), (.ref ar)]))
  refine own_go (fun _ k => XS.aconstNull X255.here hx rfl (hb hby d6_15) k) ?_
  show own_G p.tables e below _ (T255.setTop (mkF m 16 #[.val (.ref x0), .val (.int (2 : Int32)), .val (.int (2 : Int32))] [.null, (.int (2 : Int32)), (.ref ar)]))
  obtain ⟨cl256, Ar256, q256, S256, N256, H256, G256⟩ := id p3_
  obtain ⟨T256, h256, X256, e256, W256, st256⟩ := stR X255 hx hZ e255 Ar256 (j := (2 : Int32)) (inb_of S256 ⟨by decide, by decide⟩) rfl (Or.inl rfl) (g := (mkF m 16 #[.val (.ref x0), .val (.int (2 : Int32)), .val (.int (2 : Int32))] [.null, (.int (2 : Int32)), (.ref ar)])) rfl rfl (hb hby d6_16)
  have X_257 := p0_.wr W256
  have F_258 := p1_.other W256 (Or.inl p6_)
  have F_259 := p2_.other W256 (Or.inl p6_)
  have V256 : Arv Z h256 ar k (.object "com/example/plainsong/plainsong/engine/CallStack$Activation") (16 : Int32) [w0, w1, .null] .null := Arv.set Ar256 q256 S256 N256 H256 G256 rfl W256 2 rfl (Nat.le_of_ble_eq_true rfl)
  have Z_260 : n0 ≤ h256.size := Nat.le_trans Z0 (Nat.le_of_eq W256.size.symm)
  have KP_261 : Keep h0 h256 [x0, ar] := KP0.wr W256 (Or.inl (List.mem_of_getElem? (i := 1) rfl))
  have N_256 := Fr.snoc X256 N0 p5_
  refine own_go st256 ?_
  show own_G p.tables e below _ (T256.setTop (mkF m 17 #[.val (.ref x0), .val (.int (2 : Int32)), .val (.int (2 : Int32))] []))
  refine own_go (fun _ k => XS.iinc X256.here hx rfl (hb hby d6_17) rfl (l' := #[.val (.ref x0), .val (.int (2 : Int32)), .val (.int (3 : Int32))]) rfl k) ?_
  show own_G p.tables e below _ (T256.setTop (mkF m 20 #[.val (.ref x0), .val (.int (2 : Int32)), .val (.int (3 : Int32))] []))
  refine own_go (fun _ k => XS.goto X256.here hx rfl (pc0 := 20) (pc' := 2) rfl (hb hby d6_20) (by decide) (by decide) k) ?_
  show own_G p.tables e below _ (T256.setTop (mkF m 2 #[.val (.ref x0), .val (.int (2 : Int32)), .val (.int (3 : Int32))] []))
  refine own_go (fun _ k => XS.iloadN X256.here hx rfl (hb hby d6_2) rfl k) ?_
  show own_G p.tables e below _ (T256.setTop (mkF m 3 #[.val (.ref x0), .val (.int (2 : Int32)), .val (.int (3 : Int32))] [(.int (3 : Int32))]))
  refine own_go (fun _ k => XS.aloadN X256.here hx rfl (hb hby d6_3) rfl rfl k) ?_
  show own_G p.tables e below _ (T256.setTop (mkF m 4 #[.val (.ref x0), .val (.int (2 : Int32)), .val (.int (3 : Int32))] [(.ref x0), (.int (3 : Int32))]))
  obtain ⟨T262, X262, e262, st262⟩ := getF X256 hx hZ hown (host := "") (Or.inl (hw _ (List.mem_of_getElem? (i := 48) rfl))) Via.refl e256 F_259 (g := (mkF m 4 #[.val (.ref x0), .val (.int (2 : Int32)), .val (.int (3 : Int32))] [(.ref x0), (.int (3 : Int32))])) rfl rfl (hb hby d6_4)
  refine own_go st262 ?_
  show own_G p.tables e below _ (T262.setTop (mkF m 7 #[.val (.ref x0), .val (.int (2 : Int32)), .val (.int (3 : Int32))] [(.int (3 : Int32)), (.int (3 : Int32))]))
  refine own_go (fun _ k => XS.icmpYes X262.here hx rfl (pc0 := 7) (pc' := 23) rfl (hb hby d6_7) rfl ((flt (by decide : ¬ ((3 : Int32) < (3 : Int32)))).2.1) (by decide) (by decide) k) ?_
  show own_G p.tables e below _ (T262.setTop (mkF m 23 #[.val (.ref x0), .val (.int (2 : Int32)), .val (.int (3 : Int32))] []))
  refine own_go (fun _ k => XS.aloadN X262.here hx rfl (hb hby d6_23) rfl rfl k) ?_
  show own_G p.tables e below _ (T262.setTop (mkF m 24 #[.val (.ref x0), .val (.int (2 : Int32)), .val (.int (3 : Int32))] [(.ref x0)]))
  refine own_go (fun _ k => XS.iloadN X262.here hx rfl (hb hby d6_24) rfl k) ?_
  show own_G p.tables e below _ (T262.setTop (mkF m 25 #[.val (.ref x0), .val (.int (2 : Int32)), .val (.int (3 : Int32))] [(.int (2 : Int32)), (.ref x0)]))
  obtain ⟨T263, h263, X263, e263, W263, st263⟩ := putF X262 hx hZ hown (host := "") (Or.inl (hw _ (List.mem_of_getElem? (i := 48) rfl))) Via.refl e262 F_259 X_257 (Or.inl (hw _ (List.mem_of_getElem? (i := 49) rfl))) (hw _ (List.mem_of_getElem? (i := 11) rfl)) (ty := .int) (by decide) rfl rfl (g := (mkF m 25 #[.val (.ref x0), .val (.int (2 : Int32)), .val (.int (3 : Int32))] [(.int (2 : Int32)), (.ref x0)])) rfl rfl (hb hby d6_25)
  have X_264 := X_257.wr W263
  have F_265 := F_258.other W263 (Or.inr (slot_ne (Or.inl (hw _ (List.mem_of_getElem? (i := 40) rfl))) (Or.inl (hw _ (List.mem_of_getElem? (i := 49) rfl))) (by decide) (t := (.array (.object "com/example/plainsong/plainsong/engine/CallStack$Activation"))) (t' := .int) (by decide) (by decide)))
  have V_266 := V256.other W263 (Ne.symm p6_)
  have F_267 := F_259.same W263
  have Z_268 : n0 ≤ h263.size := Nat.le_trans Z_260 (Nat.le_of_eq W263.size.symm)
  have KP_269 : Keep h0 h263 [x0, ar] := KP_261.wr W263 (Or.inl (List.mem_of_getElem? (i := 0) rfl))
  have N_263 := Fr.snoc X263 N_256 p4_
  refine own_go st263 ?_
  show own_G p.tables e below _ (T263.setTop (mkF m 28 #[.val (.ref x0), .val (.int (2 : Int32)), .val (.int (3 : Int32))] []))
  exact own_end X263 Bd.notSynchronized (v := none) (fun _ => rfl) (Q := Q_rm_tr32 Z x0 ar k w0 w1 w2 h0 n0) (by show Q_rm_tr32 Z x0 ar k w0 w1 w2 h0 n0 (none) T263.heap _; rw [e263]; exact ⟨rfl, N_263, KP_269, X_264, F_265, F_267, V_266⟩) (fun fs hr => X263.returnOut hx Bd.returns (hb hby d6_28) hr) (by decide) (by decide)
def Q_rm_tr33 (Z : State) (x0 : Addr) (ar : Addr) (k : ClassId) (w0 w1 w2 : Value) (h0 : Heap) (n0 : Nat) (v : Option Value) (h : Heap) (L : List Loc) : Prop := v = none ∧ Fr n0 L ∧ Keep h0 h [x0, ar] ∧ Exa Z h x0 "com/example/plainsong/plainsong/engine/CallStack" ∧ Fld Z h x0 "com/example/plainsong/plainsong/engine/CallStack" "activations" "[Lcom/example/plainsong/plainsong/engine/CallStack$Activation;" (.ref ar) ∧ Fld Z h x0 "com/example/plainsong/plainsong/engine/CallStack" "depth" "I" (.int (3 : Int32)) ∧ Arv Z h ar k (.object "com/example/plainsong/plainsong/engine/CallStack$Activation") (16 : Int32) [w0, w1, w2] .null
set_option maxRecDepth 65536 in
set_option maxHeartbeats 40000000 in
theorem rm_tr33 (l : Launch) (Z : State) (a0 : Array Value) (hw : ∀ d ∈ tables_1, d.before a0 Z = true) (ws : List Jvm.Cond) (x0 : Addr) (ar : Addr) (k : ClassId) (w0 w1 w2 : Value) (h0 : Heap) (n0 : Nat) (Z0 : n0 ≤ h0.size) (p0_ : Exa Z h0 x0 "com/example/plainsong/plainsong/engine/CallStack") (p1_ : Fld Z h0 x0 "com/example/plainsong/plainsong/engine/CallStack" "activations" "[Lcom/example/plainsong/plainsong/engine/CallStack$Activation;" (.ref ar)) (p2_ : Fld Z h0 x0 "com/example/plainsong/plainsong/engine/CallStack" "depth" "I" (.int (3 : Int32))) (p3_ : Arv Z h0 ar k (.object "com/example/plainsong/plainsong/engine/CallStack$Activation") (16 : Int32) [w0, w1, w2] .null) (p4_ : n0 ≤ x0) (p5_ : n0 ≤ ar) (p6_ : x0 ≠ ar)  :
    MetFree l (⟨"com/example/plainsong/plainsong/engine/CallStack", "truncate", "(I)V"⟩ : MethodName) (head1 (Jvm.Cond.code (⟨"com/example/plainsong/plainsong/engine/CallStack", "truncate", "(I)V"⟩ : MethodName) prog_36_method_11_code 3 none :: ws) ({ frames := 0, cells := 0, slots := 0, locals := 0 } : Room)) (fun a U => a = #[(.ref x0), (.int (3 : Int32))] ∧ Z.Warmed39 U.vm ∧ U.heap = h0) (fun _ _ _ _ _ => True) (fun _ U o U' => ∃ v L, o = .returned v ∧ Q_rm_tr33 Z x0 ar k w0 w1 w2 h0 n0 v U'.heap L ∧ FrameEnd U o U' L ({ frames := 0, cells := 0, slots := 0, locals := 0 } : Room).cells ({ frames := 0, cells := 0, slots := 0, locals := 0 } : Room).slots) := by
  refine MetFree.of_bodySF (plainFor_of_name own_pn3) hisR ?_
  intro p e s m args below meth c s₁ Bd hml0 hP hK
  obtain ⟨rfl, hZ, hh⟩ := hP
  have hx := Bd.exec
  have hby := Bd.bytes
  have hml : c.maxLocals = 3 := hml0
  have hown : s.vm.findClass "com/example/plainsong/plainsong/engine/CallStack" = some m.cls := findClass_of_methodNamed Bd.named
  have hnm := (name_of_methodNamed Bd.named Bd.method).1
  have X0 : Stand p l e ({ frames := 0, cells := 0, slots := 0, locals := 0 } : Room) s m #[(.ref x0), (.int (3 : Int32))] below meth c s₁ [] 0 0 := Stand.of_body Bd
  have e0 : s₁.heap = h0 := by rw [← hh, Bd.state]; rfl
  show own_G p.tables e below (fun o U' => ∃ v L, o = .returned v ∧ Q_rm_tr33 Z x0 ar k w0 w1 w2 h0 n0 v U'.heap L ∧ FrameEnd s o U' L ({ frames := 0, cells := 0, slots := 0, locals := 0 } : Room).cells ({ frames := 0, cells := 0, slots := 0, locals := 0 } : Room).slots) (s₁.setTop (entryFrame m #[(.ref x0), (.int (3 : Int32))] 3))
  refine own_go (fun _ k => castTop (ef_6_RI m x0 (3 : Int32)) k) ?_
  have N0 := Fr.nil n0
  have KP0 := Keep.refl h0 [x0, ar]
  show own_G p.tables e below _ (s₁.setTop (mkF m 0 #[.val (.ref x0), .val (.int (3 : Int32)), .unset] []))
  refine own_go (fun _ k => XS.iloadN X0.here hx rfl (hb hby d6_0) rfl k) ?_
  show own_G p.tables e below _ (s₁.setTop (mkF m 1 #[.val (.ref x0), .val (.int (3 : Int32)), .unset] [(.int (3 : Int32))]))
  refine own_go (fun _ k => XS.istoreN X0.here hx rfl (hb hby d6_1) rfl (l' := #[.val (.ref x0), .val (.int (3 : Int32)), .val (.int (3 : Int32))]) rfl k) ?_
  show own_G p.tables e below _ (s₁.setTop (mkF m 2 #[.val (.ref x0), .val (.int (3 : Int32)), .val (.int (3 : Int32))] []))
  refine own_go (fun _ k => XS.iloadN X0.here hx rfl (hb hby d6_2) rfl k) ?_
  show own_G p.tables e below _ (s₁.setTop (mkF m 3 #[.val (.ref x0), .val (.int (3 : Int32)), .val (.int (3 : Int32))] [(.int (3 : Int32))]))
  refine own_go (fun _ k => XS.aloadN X0.here hx rfl (hb hby d6_3) rfl rfl k) ?_
  show own_G p.tables e below _ (s₁.setTop (mkF m 4 #[.val (.ref x0), .val (.int (3 : Int32)), .val (.int (3 : Int32))] [(.ref x0), (.int (3 : Int32))]))
  obtain ⟨T270, X270, e270, st270⟩ := getF X0 hx hZ hown (host := "") (Or.inl (hw _ (List.mem_of_getElem? (i := 48) rfl))) Via.refl e0 p2_ (g := (mkF m 4 #[.val (.ref x0), .val (.int (3 : Int32)), .val (.int (3 : Int32))] [(.ref x0), (.int (3 : Int32))])) rfl rfl (hb hby d6_4)
  refine own_go st270 ?_
  show own_G p.tables e below _ (T270.setTop (mkF m 7 #[.val (.ref x0), .val (.int (3 : Int32)), .val (.int (3 : Int32))] [(.int (3 : Int32)), (.int (3 : Int32))]))
  refine own_go (fun _ k => XS.icmpYes X270.here hx rfl (pc0 := 7) (pc' := 23) rfl (hb hby d6_7) rfl ((flt (by decide : ¬ ((3 : Int32) < (3 : Int32)))).2.1) (by decide) (by decide) k) ?_
  show own_G p.tables e below _ (T270.setTop (mkF m 23 #[.val (.ref x0), .val (.int (3 : Int32)), .val (.int (3 : Int32))] []))
  refine own_go (fun _ k => XS.aloadN X270.here hx rfl (hb hby d6_23) rfl rfl k) ?_
  show own_G p.tables e below _ (T270.setTop (mkF m 24 #[.val (.ref x0), .val (.int (3 : Int32)), .val (.int (3 : Int32))] [(.ref x0)]))
  refine own_go (fun _ k => XS.iloadN X270.here hx rfl (hb hby d6_24) rfl k) ?_
  show own_G p.tables e below _ (T270.setTop (mkF m 25 #[.val (.ref x0), .val (.int (3 : Int32)), .val (.int (3 : Int32))] [(.int (3 : Int32)), (.ref x0)]))
  obtain ⟨T271, h271, X271, e271, W271, st271⟩ := putF X270 hx hZ hown (host := "") (Or.inl (hw _ (List.mem_of_getElem? (i := 48) rfl))) Via.refl e270 p2_ p0_ (Or.inl (hw _ (List.mem_of_getElem? (i := 49) rfl))) (hw _ (List.mem_of_getElem? (i := 11) rfl)) (ty := .int) (by decide) rfl rfl (g := (mkF m 25 #[.val (.ref x0), .val (.int (3 : Int32)), .val (.int (3 : Int32))] [(.int (3 : Int32)), (.ref x0)])) rfl rfl (hb hby d6_25)
  have X_272 := p0_.wr W271
  have F_273 := p1_.other W271 (Or.inr (slot_ne (Or.inl (hw _ (List.mem_of_getElem? (i := 40) rfl))) (Or.inl (hw _ (List.mem_of_getElem? (i := 49) rfl))) (by decide) (t := (.array (.object "com/example/plainsong/plainsong/engine/CallStack$Activation"))) (t' := .int) (by decide) (by decide)))
  have V_274 := p3_.other W271 (Ne.symm p6_)
  have F_275 := p2_.same W271
  have Z_276 : n0 ≤ h271.size := Nat.le_trans Z0 (Nat.le_of_eq W271.size.symm)
  have KP_277 : Keep h0 h271 [x0, ar] := KP0.wr W271 (Or.inl (List.mem_of_getElem? (i := 0) rfl))
  have N_271 := Fr.snoc X271 N0 p4_
  refine own_go st271 ?_
  show own_G p.tables e below _ (T271.setTop (mkF m 28 #[.val (.ref x0), .val (.int (3 : Int32)), .val (.int (3 : Int32))] []))
  exact own_end X271 Bd.notSynchronized (v := none) (fun _ => rfl) (Q := Q_rm_tr33 Z x0 ar k w0 w1 w2 h0 n0) (by show Q_rm_tr33 Z x0 ar k w0 w1 w2 h0 n0 (none) T271.heap _; rw [e271]; exact ⟨rfl, N_271, KP_277, X_272, F_273, F_275, V_274⟩) (fun fs hr => X271.returnOut hx Bd.returns (hb hby d6_28) hr) (by decide) (by decide)
theorem d7_0 : decode prog_36_method_9_code 0 = .ok (.aload_n 0, 1) := by decide +kernel
theorem d7_1 : decode prog_36_method_9_code 1 = .ok (.getfield 56, 3) := by decide +kernel
theorem d7_4 : decode prog_36_method_9_code 4 = .ok (.ireturn, 1) := by decide +kernel
theorem ef_7_R (m : MethodId) (x0 : Addr) : entryFrame m #[(.ref x0)] 1 = mkF m 0 #[.val (.ref x0)] [] := by
  first | (simp [entryFrame, mkF, argsToLocals, Value.category]; done) | rfl
set_option maxRecDepth 65536 in
set_option maxHeartbeats 40000000 in
theorem rm7 (l : Launch) (Z : State) (a0 : Array Value) (hw : ∀ d ∈ tables_1, d.before a0 Z = true) (ws : List Jvm.Cond) (x0 : Addr)  (d : Int32) (h0 : Heap) (Fd : Fld Z h0 x0 "com/example/plainsong/plainsong/engine/CallStack" "depth" "I" (.int d)) :
    MetFree l (⟨"com/example/plainsong/plainsong/engine/CallStack", "depth", "()I"⟩ : MethodName) (head1 (Jvm.Cond.code (⟨"com/example/plainsong/plainsong/engine/CallStack", "depth", "()I"⟩ : MethodName) prog_36_method_9_code 1 (some .int) :: ws) ({ frames := 0, cells := 0, slots := 0, locals := 0 } : Room)) (fun a U => a = #[(.ref x0)] ∧ Z.Warmed39 U.vm ∧ U.heap = h0) (fun _ _ _ _ _ => True) (fun _ U o U' => ∃ v L, o = .returned v ∧ QP (some (.int d)) h0 v U'.heap L ∧ FrameEnd U o U' L ({ frames := 0, cells := 0, slots := 0, locals := 0 } : Room).cells ({ frames := 0, cells := 0, slots := 0, locals := 0 } : Room).slots) := by
  refine MetFree.of_bodySF (plainFor_of_name own_pn3) hisR ?_
  intro p e s m args below meth c s₁ Bd hml0 hP hK
  obtain ⟨rfl, hZ, hh⟩ := hP
  have hx := Bd.exec
  have hby := Bd.bytes
  have hml : c.maxLocals = 1 := hml0
  have hown : s.vm.findClass "com/example/plainsong/plainsong/engine/CallStack" = some m.cls := findClass_of_methodNamed Bd.named
  have hnm := (name_of_methodNamed Bd.named Bd.method).1
  have X0 : Stand p l e ({ frames := 0, cells := 0, slots := 0, locals := 0 } : Room) s m #[(.ref x0)] below meth c s₁ [] 0 0 := Stand.of_body Bd
  have e0 : s₁.heap = h0 := by rw [← hh, Bd.state]; rfl
  show own_G p.tables e below (fun o U' => ∃ v L, o = .returned v ∧ QP (some (.int d)) h0 v U'.heap L ∧ FrameEnd s o U' L ({ frames := 0, cells := 0, slots := 0, locals := 0 } : Room).cells ({ frames := 0, cells := 0, slots := 0, locals := 0 } : Room).slots) (s₁.setTop (entryFrame m #[(.ref x0)] 1))
  refine own_go (fun _ k => castTop (ef_7_R m x0) k) ?_
  show own_G p.tables e below _ (s₁.setTop (mkF m 0 #[.val (.ref x0)] []))
  refine own_go (fun _ k => XS.aloadN X0.here hx rfl (hb hby d7_0) rfl rfl k) ?_
  show own_G p.tables e below _ (s₁.setTop (mkF m 1 #[.val (.ref x0)] [(.ref x0)]))
  obtain ⟨T278, X278, e278, st278⟩ := getF X0 hx hZ hown (host := "") (Or.inl (hw _ (List.mem_of_getElem? (i := 48) rfl))) Via.refl e0 Fd (g := (mkF m 1 #[.val (.ref x0)] [(.ref x0)])) rfl rfl (hb hby d7_1)
  refine own_go st278 ?_
  show own_G p.tables e below _ (T278.setTop (mkF m 4 #[.val (.ref x0)] [(.int d)]))
  exact own_end X278 Bd.notSynchronized (v := some (.int d)) (fun h => by rw [Bd.returns] at h; cases h) (Q := QP (some (.int d)) h0) ⟨rfl, rfl, e278⟩ (fun fs hr => retI X278 hx Bd.returns (hb hby d7_4) hr) (by decide) (by decide)
theorem d8_0 : decode prog_36_method_10_code 0 = .ok (.aload_n 0, 1) := by decide +kernel
theorem d8_1 : decode prog_36_method_10_code 1 = .ok (.getfield 9, 3) := by decide +kernel
theorem d8_4 : decode prog_36_method_10_code 4 = .ok (.iload_n 1, 1) := by decide +kernel
theorem d8_5 : decode prog_36_method_10_code 5 = .ok (.aaload, 1) := by decide +kernel
theorem d8_6 : decode prog_36_method_10_code 6 = .ok (.areturn, 1) := by decide +kernel
theorem ef_8_RI (m : MethodId) (x0 : Addr) (x1 : Int32) : entryFrame m #[(.ref x0), (.int x1)] 2 = mkF m 0 #[.val (.ref x0), .val (.int x1)] [] := by
  first | (simp [entryFrame, mkF, argsToLocals, Value.category]; done) | rfl
set_option maxRecDepth 65536 in
set_option maxHeartbeats 40000000 in
theorem rm_ent0 (l : Launch) (Z : State) (a0 : Array Value) (hw : ∀ d ∈ tables_1, d.before a0 Z = true) (ws : List Jvm.Cond) (x0 : Addr)  (ar : Addr) (k : ClassId) (w0 w1 w2 : Value) (h0 : Heap) (Fa : Fld Z h0 x0 "com/example/plainsong/plainsong/engine/CallStack" "activations" "[Lcom/example/plainsong/plainsong/engine/CallStack$Activation;" (.ref ar)) (Va : Arv Z h0 ar k (.object "com/example/plainsong/plainsong/engine/CallStack$Activation") (16 : Int32) [w0, w1, w2] .null) (hr0 : w0.isRef = true) :
    MetFree l (⟨"com/example/plainsong/plainsong/engine/CallStack", "entry", "(I)Lcom/example/plainsong/plainsong/engine/CallStack$Activation;"⟩ : MethodName) (head1 (Jvm.Cond.code (⟨"com/example/plainsong/plainsong/engine/CallStack", "entry", "(I)Lcom/example/plainsong/plainsong/engine/CallStack$Activation;"⟩ : MethodName) prog_36_method_10_code 2 (some (.object "com/example/plainsong/plainsong/engine/CallStack$Activation")) :: ws) ({ frames := 0, cells := 0, slots := 0, locals := 0 } : Room)) (fun a U => a = #[(.ref x0), (.int (0 : Int32))] ∧ Z.Warmed39 U.vm ∧ U.heap = h0) (fun _ _ _ _ _ => True) (fun _ U o U' => ∃ v L, o = .returned v ∧ QP (some w0) h0 v U'.heap L ∧ FrameEnd U o U' L ({ frames := 0, cells := 0, slots := 0, locals := 0 } : Room).cells ({ frames := 0, cells := 0, slots := 0, locals := 0 } : Room).slots) := by
  refine MetFree.of_bodySF (plainFor_of_name own_pn3) hisR ?_
  intro p e s m args below meth c s₁ Bd hml0 hP hK
  obtain ⟨rfl, hZ, hh⟩ := hP
  have hx := Bd.exec
  have hby := Bd.bytes
  have hml : c.maxLocals = 2 := hml0
  have hown : s.vm.findClass "com/example/plainsong/plainsong/engine/CallStack" = some m.cls := findClass_of_methodNamed Bd.named
  have hnm := (name_of_methodNamed Bd.named Bd.method).1
  have X0 : Stand p l e ({ frames := 0, cells := 0, slots := 0, locals := 0 } : Room) s m #[(.ref x0), (.int (0 : Int32))] below meth c s₁ [] 0 0 := Stand.of_body Bd
  have e0 : s₁.heap = h0 := by rw [← hh, Bd.state]; rfl
  show own_G p.tables e below (fun o U' => ∃ v L, o = .returned v ∧ QP (some w0) h0 v U'.heap L ∧ FrameEnd s o U' L ({ frames := 0, cells := 0, slots := 0, locals := 0 } : Room).cells ({ frames := 0, cells := 0, slots := 0, locals := 0 } : Room).slots) (s₁.setTop (entryFrame m #[(.ref x0), (.int (0 : Int32))] 2))
  refine own_go (fun _ k => castTop (ef_8_RI m x0 (0 : Int32)) k) ?_
  show own_G p.tables e below _ (s₁.setTop (mkF m 0 #[.val (.ref x0), .val (.int (0 : Int32))] []))
  refine own_go (fun _ k => XS.aloadN X0.here hx rfl (hb hby d8_0) rfl rfl k) ?_
  show own_G p.tables e below _ (s₁.setTop (mkF m 1 #[.val (.ref x0), .val (.int (0 : Int32))] [(.ref x0)]))
  obtain ⟨T279, X279, e279, st279⟩ := getF X0 hx hZ hown (host := "") (Or.inl (hw _ (List.mem_of_getElem? (i := 39) rfl))) Via.refl e0 Fa (g := (mkF m 1 #[.val (.ref x0), .val (.int (0 : Int32))] [(.ref x0)])) rfl rfl (hb hby d8_1)
  refine own_go st279 ?_
  show own_G p.tables e below _ (T279.setTop (mkF m 4 #[.val (.ref x0), .val (.int (0 : Int32))] [(.ref ar)]))
  refine own_go (fun _ k => XS.iloadN X279.here hx rfl (hb hby d8_4) rfl k) ?_
  show own_G p.tables e below _ (T279.setTop (mkF m 5 #[.val (.ref x0), .val (.int (0 : Int32))] [(.int (0 : Int32)), (.ref ar)]))
  obtain ⟨cl280, Ar280, -, S280, -, H280, -⟩ := id Va
  have hin280 := inb_of S280 (j := (0 : Int32)) ⟨by decide, by decide⟩
  refine own_go (fun _ k => X279.aaload hx (j := (0 : Int32)) (v := w0) (by rw [e279]; exact Ar280.1) (State.isArrayOf_alike hZ.alike Ar280.2.1) rfl Ar280.2.2 hin280 (H280.at hin280 rfl) (g := (mkF m 5 #[.val (.ref x0), .val (.int (0 : Int32))] [(.int (0 : Int32)), (.ref ar)])) rfl rfl (hb hby d8_5) _ k) ?_
  show own_G p.tables e below _ (T279.setTop (mkF m 6 #[.val (.ref x0), .val (.int (0 : Int32))] [w0]))
  exact own_end X279 Bd.notSynchronized (v := some w0) (fun h => by rw [Bd.returns] at h; cases h) (Q := QP (some w0) h0) ⟨rfl, rfl, e279⟩ (fun fs hr => own_retA X279 hx Bd.returns rfl hr0 (hb hby d8_6) hr) (by decide) (by decide)
set_option maxRecDepth 65536 in
set_option maxHeartbeats 40000000 in
theorem rm_ent1 (l : Launch) (Z : State) (a0 : Array Value) (hw : ∀ d ∈ tables_1, d.before a0 Z = true) (ws : List Jvm.Cond) (x0 : Addr)  (ar : Addr) (k : ClassId) (w0 w1 w2 : Value) (h0 : Heap) (Fa : Fld Z h0 x0 "com/example/plainsong/plainsong/engine/CallStack" "activations" "[Lcom/example/plainsong/plainsong/engine/CallStack$Activation;" (.ref ar)) (Va : Arv Z h0 ar k (.object "com/example/plainsong/plainsong/engine/CallStack$Activation") (16 : Int32) [w0, w1, w2] .null) (hr1 : w1.isRef = true) :
    MetFree l (⟨"com/example/plainsong/plainsong/engine/CallStack", "entry", "(I)Lcom/example/plainsong/plainsong/engine/CallStack$Activation;"⟩ : MethodName) (head1 (Jvm.Cond.code (⟨"com/example/plainsong/plainsong/engine/CallStack", "entry", "(I)Lcom/example/plainsong/plainsong/engine/CallStack$Activation;"⟩ : MethodName) prog_36_method_10_code 2 (some (.object "com/example/plainsong/plainsong/engine/CallStack$Activation")) :: ws) ({ frames := 0, cells := 0, slots := 0, locals := 0 } : Room)) (fun a U => a = #[(.ref x0), (.int (1 : Int32))] ∧ Z.Warmed39 U.vm ∧ U.heap = h0) (fun _ _ _ _ _ => True) (fun _ U o U' => ∃ v L, o = .returned v ∧ QP (some w1) h0 v U'.heap L ∧ FrameEnd U o U' L ({ frames := 0, cells := 0, slots := 0, locals := 0 } : Room).cells ({ frames := 0, cells := 0, slots := 0, locals := 0 } : Room).slots) := by
  refine MetFree.of_bodySF (plainFor_of_name own_pn3) hisR ?_
  intro p e s m args below meth c s₁ Bd hml0 hP hK
  obtain ⟨rfl, hZ, hh⟩ := hP
  have hx := Bd.exec
  have hby := Bd.bytes
  have hml : c.maxLocals = 2 := hml0
  have hown : s.vm.findClass "com/example/plainsong/plainsong/engine/CallStack" = some m.cls := findClass_of_methodNamed Bd.named
  have hnm := (name_of_methodNamed Bd.named Bd.method).1
  have X0 : Stand p l e ({ frames := 0, cells := 0, slots := 0, locals := 0 } : Room) s m #[(.ref x0), (.int (1 : Int32))] below meth c s₁ [] 0 0 := Stand.of_body Bd
  have e0 : s₁.heap = h0 := by rw [← hh, Bd.state]; rfl
  show own_G p.tables e below (fun o U' => ∃ v L, o = .returned v ∧ QP (some w1) h0 v U'.heap L ∧ FrameEnd s o U' L ({ frames := 0, cells := 0, slots := 0, locals := 0 } : Room).cells ({ frames := 0, cells := 0, slots := 0, locals := 0 } : Room).slots) (s₁.setTop (entryFrame m #[(.ref x0), (.int (1 : Int32))] 2))
  refine own_go (fun _ k => castTop (ef_8_RI m x0 (1 : Int32)) k) ?_
  show own_G p.tables e below _ (s₁.setTop (mkF m 0 #[.val (.ref x0), .val (.int (1 : Int32))] []))
  refine own_go (fun _ k => XS.aloadN X0.here hx rfl (hb hby d8_0) rfl rfl k) ?_
  show own_G p.tables e below _ (s₁.setTop (mkF m 1 #[.val (.ref x0), .val (.int (1 : Int32))] [(.ref x0)]))
  obtain ⟨T281, X281, e281, st281⟩ := getF X0 hx hZ hown (host := "") (Or.inl (hw _ (List.mem_of_getElem? (i := 39) rfl))) Via.refl e0 Fa (g := (mkF m 1 #[.val (.ref x0), .val (.int (1 : Int32))] [(.ref x0)])) rfl rfl (hb hby d8_1)
  refine own_go st281 ?_
  show own_G p.tables e below _ (T281.setTop (mkF m 4 #[.val (.ref x0), .val (.int (1 : Int32))] [(.ref ar)]))
  refine own_go (fun _ k => XS.iloadN X281.here hx rfl (hb hby d8_4) rfl k) ?_
  show own_G p.tables e below _ (T281.setTop (mkF m 5 #[.val (.ref x0), .val (.int (1 : Int32))] [(.int (1 : Int32)), (.ref ar)]))
  obtain ⟨cl282, Ar282, -, S282, -, H282, -⟩ := id Va
  have hin282 := inb_of S282 (j := (1 : Int32)) ⟨by decide, by decide⟩
  refine own_go (fun _ k => X281.aaload hx (j := (1 : Int32)) (v := w1) (by rw [e281]; exact Ar282.1) (State.isArrayOf_alike hZ.alike Ar282.2.1) rfl Ar282.2.2 hin282 (H282.at hin282 rfl) (g := (mkF m 5 #[.val (.ref x0), .val (.int (1 : Int32))] [(.int (1 : Int32)), (.ref ar)])) rfl rfl (hb hby d8_5) _ k) ?_
  show own_G p.tables e below _ (T281.setTop (mkF m 6 #[.val (.ref x0), .val (.int (1 : Int32))] [w1]))
  exact own_end X281 Bd.notSynchronized (v := some w1) (fun h => by rw [Bd.returns] at h; cases h) (Q := QP (some w1) h0) ⟨rfl, rfl, e281⟩ (fun fs hr => own_retA X281 hx Bd.returns rfl hr1 (hb hby d8_6) hr) (by decide) (by decide)
set_option maxRecDepth 65536 in
set_option maxHeartbeats 40000000 in
theorem rm_ent2 (l : Launch) (Z : State) (a0 : Array Value) (hw : ∀ d ∈ tables_1, d.before a0 Z = true) (ws : List Jvm.Cond) (x0 : Addr)  (ar : Addr) (k : ClassId) (w0 w1 w2 : Value) (h0 : Heap) (Fa : Fld Z h0 x0 "com/example/plainsong/plainsong/engine/CallStack" "activations" "[Lcom/example/plainsong/plainsong/engine/CallStack$Activation;" (.ref ar)) (Va : Arv Z h0 ar k (.object "com/example/plainsong/plainsong/engine/CallStack$Activation") (16 : Int32) [w0, w1, w2] .null) (hr2 : w2.isRef = true) :
    MetFree l (⟨"com/example/plainsong/plainsong/engine/CallStack", "entry", "(I)Lcom/example/plainsong/plainsong/engine/CallStack$Activation;"⟩ : MethodName) (head1 (Jvm.Cond.code (⟨"com/example/plainsong/plainsong/engine/CallStack", "entry", "(I)Lcom/example/plainsong/plainsong/engine/CallStack$Activation;"⟩ : MethodName) prog_36_method_10_code 2 (some (.object "com/example/plainsong/plainsong/engine/CallStack$Activation")) :: ws) ({ frames := 0, cells := 0, slots := 0, locals := 0 } : Room)) (fun a U => a = #[(.ref x0), (.int (2 : Int32))] ∧ Z.Warmed39 U.vm ∧ U.heap = h0) (fun _ _ _ _ _ => True) (fun _ U o U' => ∃ v L, o = .returned v ∧ QP (some w2) h0 v U'.heap L ∧ FrameEnd U o U' L ({ frames := 0, cells := 0, slots := 0, locals := 0 } : Room).cells ({ frames := 0, cells := 0, slots := 0, locals := 0 } : Room).slots) := by
  refine MetFree.of_bodySF (plainFor_of_name own_pn3) hisR ?_
  intro p e s m args below meth c s₁ Bd hml0 hP hK
  obtain ⟨rfl, hZ, hh⟩ := hP
  have hx := Bd.exec
  have hby := Bd.bytes
  have hml : c.maxLocals = 2 := hml0
  have hown : s.vm.findClass "com/example/plainsong/plainsong/engine/CallStack" = some m.cls := findClass_of_methodNamed Bd.named
  have hnm := (name_of_methodNamed Bd.named Bd.method).1
  have X0 : Stand p l e ({ frames := 0, cells := 0, slots := 0, locals := 0 } : Room) s m #[(.ref x0), (.int (2 : Int32))] below meth c s₁ [] 0 0 := Stand.of_body Bd
  have e0 : s₁.heap = h0 := by rw [← hh, Bd.state]; rfl
  show own_G p.tables e below (fun o U' => ∃ v L, o = .returned v ∧ QP (some w2) h0 v U'.heap L ∧ FrameEnd s o U' L ({ frames := 0, cells := 0, slots := 0, locals := 0 } : Room).cells ({ frames := 0, cells := 0, slots := 0, locals := 0 } : Room).slots) (s₁.setTop (entryFrame m #[(.ref x0), (.int (2 : Int32))] 2))
  refine own_go (fun _ k => castTop (ef_8_RI m x0 (2 : Int32)) k) ?_
  show own_G p.tables e below _ (s₁.setTop (mkF m 0 #[.val (.ref x0), .val (.int (2 : Int32))] []))
  refine own_go (fun _ k => XS.aloadN X0.here hx rfl (hb hby d8_0) rfl rfl k) ?_
  show own_G p.tables e below _ (s₁.setTop (mkF m 1 #[.val (.ref x0), .val (.int (2 : Int32))] [(.ref x0)]))
  obtain ⟨T283, X283, e283, st283⟩ := getF X0 hx hZ hown (host := "") (Or.inl (hw _ (List.mem_of_getElem? (i := 39) rfl))) Via.refl e0 Fa (g := (mkF m 1 #[.val (.ref x0), .val (.int (2 : Int32))] [(.ref x0)])) rfl rfl (hb hby d8_1)
  refine own_go st283 ?_
  show own_G p.tables e below _ (T283.setTop (mkF m 4 #[.val (.ref x0), .val (.int (2 : Int32))] [(.ref ar)]))
  refine own_go (fun _ k => XS.iloadN X283.here hx rfl (hb hby d8_4) rfl k) ?_
  show own_G p.tables e below _ (T283.setTop (mkF m 5 #[.val (.ref x0), .val (.int (2 : Int32))] [(.int (2 : Int32)), (.ref ar)]))
  obtain ⟨cl284, Ar284, -, S284, -, H284, -⟩ := id Va
  have hin284 := inb_of S284 (j := (2 : Int32)) ⟨by decide, by decide⟩
  refine own_go (fun _ k => X283.aaload hx (j := (2 : Int32)) (v := w2) (by rw [e283]; exact Ar284.1) (State.isArrayOf_alike hZ.alike Ar284.2.1) rfl Ar284.2.2 hin284 (H284.at hin284 rfl) (g := (mkF m 5 #[.val (.ref x0), .val (.int (2 : Int32))] [(.int (2 : Int32)), (.ref ar)])) rfl rfl (hb hby d8_5) _ k) ?_
  show own_G p.tables e below _ (T283.setTop (mkF m 6 #[.val (.ref x0), .val (.int (2 : Int32))] [w2]))
  exact own_end X283 Bd.notSynchronized (v := some w2) (fun h => by rw [Bd.returns] at h; cases h) (Q := QP (some w2) h0) ⟨rfl, rfl, e283⟩ (fun fs hr => own_retA X283 hx Bd.returns rfl hr2 (hb hby d8_6) hr) (by decide) (by decide)
theorem d9_0 : decode method_6_code 0 = .ok (.iload_n 0, 1) := by decide +kernel
theorem d9_1 : decode method_6_code 1 = .ok (.iload_n 1, 1) := by decide +kernel
theorem d9_2 : decode method_6_code 2 = .ok (.if_icmp .ge 7, 3) := by decide +kernel
theorem d9_5 : decode method_6_code 5 = .ok (.aload_n 2, 1) := by decide +kernel
theorem d9_6 : decode method_6_code 6 = .ok (.goto 4, 3) := by decide +kernel
theorem d9_9 : decode method_6_code 9 = .ok (.aconst_null, 1) := by decide +kernel
theorem d9_10 : decode method_6_code 10 = .ok (.areturn, 1) := by decide +kernel
theorem ef_9_IIV (m : MethodId) (x0 : Int32) (x1 : Int32) (x2 : Value) (hr2 : x2.isRef = true) : entryFrame m #[(.int x0), (.int x1), x2] 3 = mkF m 0 #[.val (.int x0), .val (.int x1), .val x2] [] := by
  rcases own_refc hr2 with rfl | ⟨y2, rfl⟩ <;> first | (simp [entryFrame, mkF, argsToLocals, Value.category]; done) | rfl
set_option maxRecDepth 65536 in
set_option maxHeartbeats 40000000 in
theorem rm_explt (l : Launch) (Z : State) (a0 : Array Value) (hw : ∀ d ∈ tables_1, d.before a0 Z = true) (ws : List Jvm.Cond) (x0 : Int32) (x1 : Int32) (x2 : Value)  (h0 : Heap) (hx2 : x2.isRef = true) (hlt : x0 < x1) :
    MetFree l (⟨"com/example/plainsong/plainsong/engine/CallStackTruncatePinLaw", "expected", "(IILcom/example/plainsong/plainsong/engine/CallStack$Activation;)Lcom/example/plainsong/plainsong/engine/CallStack$Activation;"⟩ : MethodName) (head1 (Jvm.Cond.code (⟨"com/example/plainsong/plainsong/engine/CallStackTruncatePinLaw", "expected", "(IILcom/example/plainsong/plainsong/engine/CallStack$Activation;)Lcom/example/plainsong/plainsong/engine/CallStack$Activation;"⟩ : MethodName) method_6_code 3 (some (.object "com/example/plainsong/plainsong/engine/CallStack$Activation")) :: ws) ({ frames := 0, cells := 0, slots := 0, locals := 0 } : Room)) (fun a U => a = #[(.int x0), (.int x1), x2] ∧ Z.Warmed39 U.vm ∧ U.heap = h0) (fun _ _ _ _ _ => True) (fun _ U o U' => ∃ v L, o = .returned v ∧ QP (some x2) h0 v U'.heap L ∧ FrameEnd U o U' L ({ frames := 0, cells := 0, slots := 0, locals := 0 } : Room).cells ({ frames := 0, cells := 0, slots := 0, locals := 0 } : Room).slots) := by
  refine MetFree.of_bodySF (plainFor_of_name own_pn0) hisR ?_
  intro p e s m args below meth c s₁ Bd hml0 hP hK
  obtain ⟨rfl, hZ, hh⟩ := hP
  have hx := Bd.exec
  have hby := Bd.bytes
  have hml : c.maxLocals = 3 := hml0
  have hown : s.vm.findClass "com/example/plainsong/plainsong/engine/CallStackTruncatePinLaw" = some m.cls := findClass_of_methodNamed Bd.named
  have hnm := (name_of_methodNamed Bd.named Bd.method).1
  have X0 : Stand p l e ({ frames := 0, cells := 0, slots := 0, locals := 0 } : Room) s m #[(.int x0), (.int x1), x2] below meth c s₁ [] 0 0 := Stand.of_body Bd
  have e0 : s₁.heap = h0 := by rw [← hh, Bd.state]; rfl
  show own_G p.tables e below (fun o U' => ∃ v L, o = .returned v ∧ QP (some x2) h0 v U'.heap L ∧ FrameEnd s o U' L ({ frames := 0, cells := 0, slots := 0, locals := 0 } : Room).cells ({ frames := 0, cells := 0, slots := 0, locals := 0 } : Room).slots) (s₁.setTop (entryFrame m #[(.int x0), (.int x1), x2] 3))
  refine own_go (fun _ k => castTop (ef_9_IIV m x0 x1 x2 hx2) k) ?_
  show own_G p.tables e below _ (s₁.setTop (mkF m 0 #[.val (.int x0), .val (.int x1), .val x2] []))
  refine own_go (fun _ k => XS.iloadN X0.here hx rfl (hb hby d9_0) rfl k) ?_
  show own_G p.tables e below _ (s₁.setTop (mkF m 1 #[.val (.int x0), .val (.int x1), .val x2] [(.int x0)]))
  refine own_go (fun _ k => XS.iloadN X0.here hx rfl (hb hby d9_1) rfl k) ?_
  show own_G p.tables e below _ (s₁.setTop (mkF m 2 #[.val (.int x0), .val (.int x1), .val x2] [(.int x1), (.int x0)]))
  refine own_go (fun _ k => XS.icmpNo X0.here hx rfl (hb hby d9_2) rfl ((tlt hlt).2.1) k) ?_
  show own_G p.tables e below _ (s₁.setTop (mkF m 5 #[.val (.int x0), .val (.int x1), .val x2] []))
  refine own_go (fun _ k => XS.aloadN X0.here hx rfl (hb hby d9_5) rfl hx2 k) ?_
  show own_G p.tables e below _ (s₁.setTop (mkF m 6 #[.val (.int x0), .val (.int x1), .val x2] [x2]))
  refine own_go (fun _ k => XS.goto X0.here hx rfl (pc0 := 6) (pc' := 10) rfl (hb hby d9_6) (by decide) (by decide) k) ?_
  show own_G p.tables e below _ (s₁.setTop (mkF m 10 #[.val (.int x0), .val (.int x1), .val x2] [x2]))
  exact own_end X0 Bd.notSynchronized (v := some x2) (fun h => by rw [Bd.returns] at h; cases h) (Q := QP (some x2) h0) ⟨rfl, rfl, e0⟩ (fun fs hr => own_retA X0 hx Bd.returns rfl hx2 (hb hby d9_10) hr) (by decide) (by decide)
set_option maxRecDepth 65536 in
set_option maxHeartbeats 40000000 in
theorem rm_expge (l : Launch) (Z : State) (a0 : Array Value) (hw : ∀ d ∈ tables_1, d.before a0 Z = true) (ws : List Jvm.Cond) (x0 : Int32) (x1 : Int32) (x2 : Value)  (h0 : Heap) (hx2 : x2.isRef = true) (hge : ¬ x0 < x1) :
    MetFree l (⟨"com/example/plainsong/plainsong/engine/CallStackTruncatePinLaw", "expected", "(IILcom/example/plainsong/plainsong/engine/CallStack$Activation;)Lcom/example/plainsong/plainsong/engine/CallStack$Activation;"⟩ : MethodName) (head1 (Jvm.Cond.code (⟨"com/example/plainsong/plainsong/engine/CallStackTruncatePinLaw", "expected", "(IILcom/example/plainsong/plainsong/engine/CallStack$Activation;)Lcom/example/plainsong/plainsong/engine/CallStack$Activation;"⟩ : MethodName) method_6_code 3 (some (.object "com/example/plainsong/plainsong/engine/CallStack$Activation")) :: ws) ({ frames := 0, cells := 0, slots := 0, locals := 0 } : Room)) (fun a U => a = #[(.int x0), (.int x1), x2] ∧ Z.Warmed39 U.vm ∧ U.heap = h0) (fun _ _ _ _ _ => True) (fun _ U o U' => ∃ v L, o = .returned v ∧ QP (some .null) h0 v U'.heap L ∧ FrameEnd U o U' L ({ frames := 0, cells := 0, slots := 0, locals := 0 } : Room).cells ({ frames := 0, cells := 0, slots := 0, locals := 0 } : Room).slots) := by
  refine MetFree.of_bodySF (plainFor_of_name own_pn0) hisR ?_
  intro p e s m args below meth c s₁ Bd hml0 hP hK
  obtain ⟨rfl, hZ, hh⟩ := hP
  have hx := Bd.exec
  have hby := Bd.bytes
  have hml : c.maxLocals = 3 := hml0
  have hown : s.vm.findClass "com/example/plainsong/plainsong/engine/CallStackTruncatePinLaw" = some m.cls := findClass_of_methodNamed Bd.named
  have hnm := (name_of_methodNamed Bd.named Bd.method).1
  have X0 : Stand p l e ({ frames := 0, cells := 0, slots := 0, locals := 0 } : Room) s m #[(.int x0), (.int x1), x2] below meth c s₁ [] 0 0 := Stand.of_body Bd
  have e0 : s₁.heap = h0 := by rw [← hh, Bd.state]; rfl
  show own_G p.tables e below (fun o U' => ∃ v L, o = .returned v ∧ QP (some .null) h0 v U'.heap L ∧ FrameEnd s o U' L ({ frames := 0, cells := 0, slots := 0, locals := 0 } : Room).cells ({ frames := 0, cells := 0, slots := 0, locals := 0 } : Room).slots) (s₁.setTop (entryFrame m #[(.int x0), (.int x1), x2] 3))
  refine own_go (fun _ k => castTop (ef_9_IIV m x0 x1 x2 hx2) k) ?_
  show own_G p.tables e below _ (s₁.setTop (mkF m 0 #[.val (.int x0), .val (.int x1), .val x2] []))
  refine own_go (fun _ k => XS.iloadN X0.here hx rfl (hb hby d9_0) rfl k) ?_
  show own_G p.tables e below _ (s₁.setTop (mkF m 1 #[.val (.int x0), .val (.int x1), .val x2] [(.int x0)]))
  refine own_go (fun _ k => XS.iloadN X0.here hx rfl (hb hby d9_1) rfl k) ?_
  show own_G p.tables e below _ (s₁.setTop (mkF m 2 #[.val (.int x0), .val (.int x1), .val x2] [(.int x1), (.int x0)]))
  refine own_go (fun _ k => XS.icmpYes X0.here hx rfl (pc0 := 2) (pc' := 9) rfl (hb hby d9_2) rfl ((flt hge).2.1) (by decide) (by decide) k) ?_
  show own_G p.tables e below _ (s₁.setTop (mkF m 9 #[.val (.int x0), .val (.int x1), .val x2] []))
  refine own_go (fun _ k => XS.aconstNull X0.here hx rfl (hb hby d9_9) k) ?_
  show own_G p.tables e below _ (s₁.setTop (mkF m 10 #[.val (.int x0), .val (.int x1), .val x2] [.null]))
  exact own_end X0 Bd.notSynchronized (v := some .null) (fun h => by rw [Bd.returns] at h; cases h) (Q := QP (some .null) h0) ⟨rfl, rfl, e0⟩ (fun fs hr => own_retA X0 hx Bd.returns rfl rfl (hb hby d9_10) hr) (by decide) (by decide)
theorem own_pd1 : parseMethodDescriptor "(Lcom/example/plainsong/plainsong/engine/Interpreter;)V" = some ⟨[(.object "com/example/plainsong/plainsong/engine/Interpreter")], none⟩ := by decide +kernel
theorem own_pd2 : parseMethodDescriptor "(I)V" = some ⟨[.int], none⟩ := by decide +kernel
theorem own_pd3 : parseMethodDescriptor "()I" = some ⟨[], some .int⟩ := by decide +kernel
theorem own_pd4 : parseMethodDescriptor "(I)Lcom/example/plainsong/plainsong/engine/CallStack$Activation;" = some ⟨[.int], some (.object "com/example/plainsong/plainsong/engine/CallStack$Activation")⟩ := by decide +kernel
theorem own_pd5 : parseMethodDescriptor "(IILcom/example/plainsong/plainsong/engine/CallStack$Activation;)Lcom/example/plainsong/plainsong/engine/CallStack$Activation;" = some ⟨[.int, .int, (.object "com/example/plainsong/plainsong/engine/CallStack$Activation")], some (.object "com/example/plainsong/plainsong/engine/CallStack$Activation")⟩ := by decide +kernel
theorem own_pd6 : parseMethodDescriptor "(Lcom/example/plainsong/plainsong/engine/CallStack$Activation;)V" = some ⟨[(.object "com/example/plainsong/plainsong/engine/CallStack$Activation")], none⟩ := by decide +kernel
theorem ef_0_III (m : MethodId) (x0 : Int32) (x1 : Int32) (x2 : Int32) : entryFrame m #[(.int x0), (.int x1), (.int x2)] maxLocals = mkF m 0 #[.val (.int x0), .val (.int x1), .val (.int x2), .unset, .unset, .unset, .unset, .unset, .unset, .unset] [] := by
  first | (simp [entryFrame, mkF, argsToLocals, Value.category, maxLocals]; done) | rfl
set_option maxRecDepth 65536 in
set_option maxHeartbeats 40000000 in
theorem rm0 (l : Launch) (Z : State) (a0 : Array Value) (hw : ∀ d ∈ tables_1, d.before a0 Z = true) (ws : List Jvm.Cond) (x0 : Int32) (x1 : Int32) (x2 : Int32) (em : Addr) (h0 : Heap) (n0 : Nat) (Z0 : n0 ≤ h0.size) (Sem : Sta Z h0 "com/example/plainsong/plainsong/engine/Table" "EMPTY" "[Ljava/lang/Object;" (.ref em)) :
    MetFree l x (head1 (Jvm.Cond.code x code maxLocals ret :: ws) room_1) (fun a U => a = #[(.int x0), (.int x1), (.int x2)] ∧ Z.Warmed39 U.vm ∧ U.heap = h0) (fun _ _ _ _ _ => True) (fun _ U o U' => ∃ v L, o = .returned v ∧ QL (some (.int (1 : Int32))) n0 v U'.heap L ∧ FrameEnd U o U' L 24 128) := by
  refine MetFree.of_bodySF (plainFor_of_name own_pn0) hisR ?_
  intro p e s m args below meth c s₁ Bd hml0 hP hK
  obtain ⟨rfl, hZ, hh⟩ := hP
  have hx := Bd.exec
  have hby := Bd.bytes
  have hml : c.maxLocals = 10 := hml0
  have hown : s.vm.findClass "com/example/plainsong/plainsong/engine/CallStackTruncatePinLaw" = some m.cls := findClass_of_methodNamed Bd.named
  have hnm := (name_of_methodNamed Bd.named Bd.method).1
  have X0 : Stand p l e room_1 s m #[(.int x0), (.int x1), (.int x2)] below meth c s₁ [] 0 0 := Stand.of_body Bd
  have e0 : s₁.heap = h0 := by rw [← hh, Bd.state]; rfl
  show own_G p.tables e below (fun o U' => ∃ v L, o = .returned v ∧ QL (some (.int (1 : Int32))) n0 v U'.heap L ∧ FrameEnd s o U' L 24 128) (s₁.setTop (entryFrame m #[(.int x0), (.int x1), (.int x2)] maxLocals))
  refine own_go (fun _ k => castTop (ef_0_III m x0 x1 x2) k) ?_
  have N0 := Fr.nil n0
  show own_G p.tables e below _ (s₁.setTop (mkF m 0 #[.val (.int x0), .val (.int x1), .val (.int x2), .unset, .unset, .unset, .unset, .unset, .unset, .unset] []))
  refine own_go (fun _ k => XS.iloadN X0.here hx rfl (hb hby at_0) rfl k) ?_
  show own_G p.tables e below _ (s₁.setTop (mkF m 1 #[.val (.int x0), .val (.int x1), .val (.int x2), .unset, .unset, .unset, .unset, .unset, .unset, .unset] [(.int x0)]))
  refine own_go (fun _ k => X0.ldcInt hx hown (mvT hZ (hw _ (List.mem_of_getElem? (i := 0) rfl))) (g := (mkF m 1 #[.val (.int x0), .val (.int x1), .val (.int x2), .unset, .unset, .unset, .unset, .unset, .unset, .unset] [(.int x0)])) rfl (hb hby at_1) _ k) ?_
  show own_G p.tables e below _ (s₁.setTop (mkF m 3 #[.val (.int x0), .val (.int x1), .val (.int x2), .unset, .unset, .unset, .unset, .unset, .unset, .unset] [(.int (2147483647 : Int32)), (.int x0)]))
  refine own_go (fun _ k => XS.iand X0.here hx rfl (hb hby at_3) rfl k) ?_
  show own_G p.tables e below _ (s₁.setTop (mkF m 4 #[.val (.int x0), .val (.int x1), .val (.int x2), .unset, .unset, .unset, .unset, .unset, .unset, .unset] [(.int (x0 &&& (2147483647 : Int32)))]))
  refine own_go (fun _ k => XS.iconst X0.here hx rfl (hb hby at_4) k) ?_
  show own_G p.tables e below _ (s₁.setTop (mkF m 5 #[.val (.int x0), .val (.int x1), .val (.int x2), .unset, .unset, .unset, .unset, .unset, .unset, .unset] [(.int (4 : Int32)), (.int (x0 &&& (2147483647 : Int32)))]))
  refine own_go (fun _ k => iremM X0 hx rfl (hb hby at_5) rfl (by decide) k) ?_
  show own_G p.tables e below _ (s₁.setTop (mkF m 6 #[.val (.int x0), .val (.int x1), .val (.int x2), .unset, .unset, .unset, .unset, .unset, .unset, .unset] [(.int ((x0 &&& (2147483647 : Int32)) % (4 : Int32)))]))
  refine own_go (fun _ k => XS.istoreN X0.here hx rfl (hb hby at_6) rfl (l' := #[.val (.int x0), .val (.int x1), .val (.int x2), .val (.int (own_n x0)), .unset, .unset, .unset, .unset, .unset, .unset]) rfl k) ?_
  show own_G p.tables e below _ (s₁.setTop (mkF m 7 #[.val (.int x0), .val (.int x1), .val (.int x2), .val (.int (own_n x0)), .unset, .unset, .unset, .unset, .unset, .unset] []))
  refine own_go (fun _ k => XS.iloadN X0.here hx rfl (hb hby at_7) rfl k) ?_
  show own_G p.tables e below _ (s₁.setTop (mkF m 8 #[.val (.int x0), .val (.int x1), .val (.int x2), .val (.int (own_n x0)), .unset, .unset, .unset, .unset, .unset, .unset] [(.int x1)]))
  refine own_go (fun _ k => X0.ldcInt hx hown (mvT hZ (hw _ (List.mem_of_getElem? (i := 0) rfl))) (g := (mkF m 8 #[.val (.int x0), .val (.int x1), .val (.int x2), .val (.int (own_n x0)), .unset, .unset, .unset, .unset, .unset, .unset] [(.int x1)])) rfl (hb hby at_8) _ k) ?_
  show own_G p.tables e below _ (s₁.setTop (mkF m 10 #[.val (.int x0), .val (.int x1), .val (.int x2), .val (.int (own_n x0)), .unset, .unset, .unset, .unset, .unset, .unset] [(.int (2147483647 : Int32)), (.int x1)]))
  refine own_go (fun _ k => XS.iand X0.here hx rfl (hb hby at_10) rfl k) ?_
  show own_G p.tables e below _ (s₁.setTop (mkF m 11 #[.val (.int x0), .val (.int x1), .val (.int x2), .val (.int (own_n x0)), .unset, .unset, .unset, .unset, .unset, .unset] [(.int (x1 &&& (2147483647 : Int32)))]))
  refine own_go (fun _ k => XS.iloadN X0.here hx rfl (hb hby at_11) rfl k) ?_
  show own_G p.tables e below _ (s₁.setTop (mkF m 12 #[.val (.int x0), .val (.int x1), .val (.int x2), .val (.int (own_n x0)), .unset, .unset, .unset, .unset, .unset, .unset] [(.int (own_n x0)), (.int (x1 &&& (2147483647 : Int32)))]))
  refine own_go (fun _ k => XS.iconst X0.here hx rfl (hb hby at_12) k) ?_
  show own_G p.tables e below _ (s₁.setTop (mkF m 13 #[.val (.int x0), .val (.int x1), .val (.int x2), .val (.int (own_n x0)), .unset, .unset, .unset, .unset, .unset, .unset] [(.int (1 : Int32)), (.int (own_n x0)), (.int (x1 &&& (2147483647 : Int32)))]))
  refine own_go (fun _ k => XS.iadd X0.here hx rfl (hb hby at_13) rfl k) ?_
  show own_G p.tables e below _ (s₁.setTop (mkF m 14 #[.val (.int x0), .val (.int x1), .val (.int x2), .val (.int (own_n x0)), .unset, .unset, .unset, .unset, .unset, .unset] [(.int ((own_n x0) + (1 : Int32))), (.int (x1 &&& (2147483647 : Int32)))]))
  refine own_go (fun _ k => iremM X0 hx rfl (hb hby at_14) rfl (own_nz x0) k) ?_
  show own_G p.tables e below _ (s₁.setTop (mkF m 15 #[.val (.int x0), .val (.int x1), .val (.int x2), .val (.int (own_n x0)), .unset, .unset, .unset, .unset, .unset, .unset] [(.int ((x1 &&& (2147483647 : Int32)) % ((own_n x0) + (1 : Int32))))]))
  refine own_go (fun _ k => XS.istore X0.here hx rfl (hb hby at_15) rfl (l' := #[.val (.int x0), .val (.int x1), .val (.int x2), .val (.int (own_n x0)), .val (.int (own_k x0 x1)), .unset, .unset, .unset, .unset, .unset]) rfl k) ?_
  show own_G p.tables e below _ (s₁.setTop (mkF m 17 #[.val (.int x0), .val (.int x1), .val (.int x2), .val (.int (own_n x0)), .val (.int (own_k x0 x1)), .unset, .unset, .unset, .unset, .unset] []))
  refine own_joinA (Z := Z) X0 e0 (fun v285 => mkF m 36 #[.val (.int x0), .val (.int x1), .val (.int x2), .val (.int (own_n x0)), .val (.int (own_k x0 x1)), .val v285, .unset, .unset, .unset, .unset] []) (fun hj => ?_) (fun T285 h285 v285 X285 e285 E285 Av285_0 => ?_)
  · refine own_go (fun _ k => XS.iloadN X0.here hx rfl (hb hby at_17) rfl k) ?_
    show own_G p.tables e below _ (s₁.setTop (mkF m 18 #[.val (.int x0), .val (.int x1), .val (.int x2), .val (.int (own_n x0)), .val (.int (own_k x0 x1)), .unset, .unset, .unset, .unset, .unset] [(.int x2)]))
    refine own_go (fun _ k => XS.iconst X0.here hx rfl (hb hby at_18) k) ?_
    show own_G p.tables e below _ (s₁.setTop (mkF m 19 #[.val (.int x0), .val (.int x1), .val (.int x2), .val (.int (own_n x0)), .val (.int (own_k x0 x1)), .unset, .unset, .unset, .unset, .unset] [(.int (1 : Int32)), (.int x2)]))
    refine own_go (fun _ k => XS.iand X0.here hx rfl (hb hby at_19) rfl k) ?_
    show own_G p.tables e below _ (s₁.setTop (mkF m 20 #[.val (.int x0), .val (.int x1), .val (.int x2), .val (.int (own_n x0)), .val (.int (own_k x0 x1)), .unset, .unset, .unset, .unset, .unset] [(.int (x2 &&& (1 : Int32)))]))
    by_cases hc20_286 : (x2 &&& (1 : Int32)) = (0 : Int32)
    · refine own_go (fun _ k => XS.ifYes X0.here hx rfl (pc0 := 20) (pc' := 27) rfl (hb hby at_20) rfl (((if0 _ _).trans (teq hc20_286).1)) (by decide) (by decide) k) ?_
      show own_G p.tables e below _ (s₁.setTop (mkF m 27 #[.val (.int x0), .val (.int x1), .val (.int x2), .val (.int (own_n x0)), .val (.int (own_k x0 x1)), .unset, .unset, .unset, .unset, .unset] []))
      obtain ⟨T287, h287, X287, e287, E287, A287, D287, -, st287⟩ := newO X0 hx hZ hown (hw _ (List.mem_of_getElem? (i := 1) rfl)) (hw _ (List.mem_of_getElem? (i := 2) rfl)) (hw _ (List.mem_of_getElem? (i := 3) rfl)) e0 (g := (mkF m 27 #[.val (.int x0), .val (.int x1), .val (.int x2), .val (.int (own_n x0)), .val (.int (own_k x0 x1)), .unset, .unset, .unset, .unset, .unset] [])) rfl (hb hby at_27) (by decide) (by decide)
      obtain ⟨b287, g287⟩ : ∃ z, z = h0.size := ⟨_, rfl⟩
      rw [← g287] at A287 D287 st287
      have ge_288 : n0 ≤ b287 := Nat.le_trans Z0 (Nat.le_of_eq g287.symm)
      have S_289 := Sem.ext E287
      have Z_290 : n0 ≤ h287.size := Nat.le_trans Z0 E287.1
      refine own_go st287 ?_
      show own_G p.tables e below _ (T287.setTop (mkF m 30 #[.val (.int x0), .val (.int x1), .val (.int x2), .val (.int (own_n x0)), .val (.int (own_k x0 x1)), .unset, .unset, .unset, .unset, .unset] [(.ref b287)]))
      refine own_go (fun _ k => XS.dup X287.here hx rfl (hb hby at_30) rfl rfl k) ?_
      show own_G p.tables e below _ (T287.setTop (mkF m 31 #[.val (.int x0), .val (.int x1), .val (.int x2), .val (.int (own_n x0)), .val (.int (own_k x0 x1)), .unset, .unset, .unset, .unset, .unset] [(.ref b287), (.ref b287)]))
      obtain ⟨T291, X291, e291, st291⟩ := own_callI X287 hx hZ (y := (⟨"com/example/plainsong/plainsong/engine/CallStackTruncatePinLaw", "<init>", "()V"⟩ : MethodName)) rfl hown (hw _ (List.mem_of_getElem? (i := 4) rfl)) (hw _ (List.mem_of_getElem? (i := 5) rfl)) (hw _ (List.mem_of_getElem? (i := 3) rfl)) (hw _ (List.mem_of_getElem? (i := 6) rfl)) (by decide) (W := 1) (rm1 l Z a0 hw [] b287  h287 ) (by decide) (by decide) rfl rfl e287 (g := (mkF m 31 #[.val (.int x0), .val (.int x1), .val (.int x2), .val (.int (own_n x0)), .val (.int (own_k x0 x1)), .unset, .unset, .unset, .unset, .unset] [(.ref b287), (.ref b287)])) rfl (by rw [hml]; rfl) (argsL := []) (rest := [(.ref b287)]) (lenOf own_pd0 rfl) rfl rfl (by show 2 * 0 + _ ≤ _; exact Nat.le_of_eq rfl) (hb hby at_31) (by decide) (by decide)
      refine own_go st291 ?_
      show own_G p.tables e below _ (T291.setTop (mkF m 34 #[.val (.int x0), .val (.int x1), .val (.int x2), .val (.int (own_n x0)), .val (.int (own_k x0 x1)), .unset, .unset, .unset, .unset, .unset] [(.ref b287)]))
      refine own_go (fun _ k => XS.astore X291.here hx rfl (hb hby at_34) rfl rfl (l' := #[.val (.int x0), .val (.int x1), .val (.int x2), .val (.int (own_n x0)), .val (.int (own_k x0 x1)), .val (.ref b287), .unset, .unset, .unset, .unset]) rfl k) ?_
      show own_G p.tables e below _ (T291.setTop (mkF m 36 #[.val (.int x0), .val (.int x1), .val (.int x2), .val (.int (own_n x0)), .val (.int (own_k x0 x1)), .val (.ref b287), .unset, .unset, .unset, .unset] []))
      exact hj _ _ _ X291 e291 E287 (Or.inr ⟨_, rfl, A287⟩)
    · refine own_go (fun _ k => XS.ifNo X0.here hx rfl (hb hby at_20) rfl (((if0 _ _).trans (feq hc20_286).1)) k) ?_
      show own_G p.tables e below _ (s₁.setTop (mkF m 23 #[.val (.int x0), .val (.int x1), .val (.int x2), .val (.int (own_n x0)), .val (.int (own_k x0 x1)), .unset, .unset, .unset, .unset, .unset] []))
      refine own_go (fun _ k => XS.aconstNull X0.here hx rfl (hb hby at_23) k) ?_
      show own_G p.tables e below _ (s₁.setTop (mkF m 24 #[.val (.int x0), .val (.int x1), .val (.int x2), .val (.int (own_n x0)), .val (.int (own_k x0 x1)), .unset, .unset, .unset, .unset, .unset] [.null]))
      refine own_go (fun _ k => XS.goto X0.here hx rfl (pc0 := 24) (pc' := 34) rfl (hb hby at_24) (by decide) (by decide) k) ?_
      show own_G p.tables e below _ (s₁.setTop (mkF m 34 #[.val (.int x0), .val (.int x1), .val (.int x2), .val (.int (own_n x0)), .val (.int (own_k x0 x1)), .unset, .unset, .unset, .unset, .unset] [.null]))
      refine own_go (fun _ k => XS.astore X0.here hx rfl (hb hby at_34) rfl rfl (l' := #[.val (.int x0), .val (.int x1), .val (.int x2), .val (.int (own_n x0)), .val (.int (own_k x0 x1)), .val .null, .unset, .unset, .unset, .unset]) rfl k) ?_
      show own_G p.tables e below _ (s₁.setTop (mkF m 36 #[.val (.int x0), .val (.int x1), .val (.int x2), .val (.int (own_n x0)), .val (.int (own_k x0 x1)), .val .null, .unset, .unset, .unset, .unset] []))
      exact hj _ _ _ (X0.mono (Nat.le_succ _) (Nat.le_refl _)) e0 ⟨Nat.le_refl _, fun _ _ q => q⟩ (Or.inl rfl)
  have S_292 := Sem.ext E285
  have Z_293 : n0 ≤ h285.size := Nat.le_trans Z0 E285.1
  have hr285 := own_avr Av285_0
  show own_G p.tables e below _ (T285.setTop (mkF m 36 #[.val (.int x0), .val (.int x1), .val (.int x2), .val (.int (own_n x0)), .val (.int (own_k x0 x1)), .val v285, .unset, .unset, .unset, .unset] []))
  refine own_joinA (Z := Z) X285 e285 (fun v294 => mkF m 55 #[.val (.int x0), .val (.int x1), .val (.int x2), .val (.int (own_n x0)), .val (.int (own_k x0 x1)), .val v285, .val v294, .unset, .unset, .unset] []) (fun hj => ?_) (fun T294 h294 v294 X294 e294 E294 Av294_0 => ?_)
  · refine own_go (fun _ k => XS.iloadN X285.here hx rfl (hb hby at_36) rfl k) ?_
    show own_G p.tables e below _ (T285.setTop (mkF m 37 #[.val (.int x0), .val (.int x1), .val (.int x2), .val (.int (own_n x0)), .val (.int (own_k x0 x1)), .val v285, .unset, .unset, .unset, .unset] [(.int x2)]))
    refine own_go (fun _ k => XS.iconst X285.here hx rfl (hb hby at_37) k) ?_
    show own_G p.tables e below _ (T285.setTop (mkF m 38 #[.val (.int x0), .val (.int x1), .val (.int x2), .val (.int (own_n x0)), .val (.int (own_k x0 x1)), .val v285, .unset, .unset, .unset, .unset] [(.int (2 : Int32)), (.int x2)]))
    refine own_go (fun _ k => XS.iand X285.here hx rfl (hb hby at_38) rfl k) ?_
    show own_G p.tables e below _ (T285.setTop (mkF m 39 #[.val (.int x0), .val (.int x1), .val (.int x2), .val (.int (own_n x0)), .val (.int (own_k x0 x1)), .val v285, .unset, .unset, .unset, .unset] [(.int (x2 &&& (2 : Int32)))]))
    by_cases hc39_295 : (x2 &&& (2 : Int32)) = (0 : Int32)
    · refine own_go (fun _ k => XS.ifYes X285.here hx rfl (pc0 := 39) (pc' := 46) rfl (hb hby at_39) rfl (((if0 _ _).trans (teq hc39_295).1)) (by decide) (by decide) k) ?_
      show own_G p.tables e below _ (T285.setTop (mkF m 46 #[.val (.int x0), .val (.int x1), .val (.int x2), .val (.int (own_n x0)), .val (.int (own_k x0 x1)), .val v285, .unset, .unset, .unset, .unset] []))
      obtain ⟨T296, h296, X296, e296, E296, A296, D296, -, st296⟩ := newO X285 hx hZ hown (hw _ (List.mem_of_getElem? (i := 1) rfl)) (hw _ (List.mem_of_getElem? (i := 2) rfl)) (hw _ (List.mem_of_getElem? (i := 3) rfl)) e285 (g := (mkF m 46 #[.val (.int x0), .val (.int x1), .val (.int x2), .val (.int (own_n x0)), .val (.int (own_k x0 x1)), .val v285, .unset, .unset, .unset, .unset] [])) rfl (hb hby at_46) (by decide) (by decide)
      obtain ⟨b296, g296⟩ : ∃ z, z = h285.size := ⟨_, rfl⟩
      rw [← g296] at A296 D296 st296
      have ge_297 : n0 ≤ b296 := Nat.le_trans Z_293 (Nat.le_of_eq g296.symm)
      have S_298 := S_292.ext E296
      have Av_299 := own_avE Av285_0 E296
      have Z_300 : n0 ≤ h296.size := Nat.le_trans Z_293 E296.1
      refine own_go st296 ?_
      show own_G p.tables e below _ (T296.setTop (mkF m 49 #[.val (.int x0), .val (.int x1), .val (.int x2), .val (.int (own_n x0)), .val (.int (own_k x0 x1)), .val v285, .unset, .unset, .unset, .unset] [(.ref b296)]))
      refine own_go (fun _ k => XS.dup X296.here hx rfl (hb hby at_49) rfl rfl k) ?_
      show own_G p.tables e below _ (T296.setTop (mkF m 50 #[.val (.int x0), .val (.int x1), .val (.int x2), .val (.int (own_n x0)), .val (.int (own_k x0 x1)), .val v285, .unset, .unset, .unset, .unset] [(.ref b296), (.ref b296)]))
      obtain ⟨T301, X301, e301, st301⟩ := own_callI X296 hx hZ (y := (⟨"com/example/plainsong/plainsong/engine/CallStackTruncatePinLaw", "<init>", "()V"⟩ : MethodName)) rfl hown (hw _ (List.mem_of_getElem? (i := 4) rfl)) (hw _ (List.mem_of_getElem? (i := 5) rfl)) (hw _ (List.mem_of_getElem? (i := 3) rfl)) (hw _ (List.mem_of_getElem? (i := 6) rfl)) (by decide) (W := 1) (rm1 l Z a0 hw [] b296  h296 ) (by decide) (by decide) rfl rfl e296 (g := (mkF m 50 #[.val (.int x0), .val (.int x1), .val (.int x2), .val (.int (own_n x0)), .val (.int (own_k x0 x1)), .val v285, .unset, .unset, .unset, .unset] [(.ref b296), (.ref b296)])) rfl (by rw [hml]; rfl) (argsL := []) (rest := [(.ref b296)]) (lenOf own_pd0 rfl) rfl rfl (by show 2 * 0 + _ ≤ _; exact Nat.le_of_eq rfl) (hb hby at_50) (by decide) (by decide)
      refine own_go st301 ?_
      show own_G p.tables e below _ (T301.setTop (mkF m 53 #[.val (.int x0), .val (.int x1), .val (.int x2), .val (.int (own_n x0)), .val (.int (own_k x0 x1)), .val v285, .unset, .unset, .unset, .unset] [(.ref b296)]))
      refine own_go (fun _ k => XS.astore X301.here hx rfl (hb hby at_53) rfl rfl (l' := #[.val (.int x0), .val (.int x1), .val (.int x2), .val (.int (own_n x0)), .val (.int (own_k x0 x1)), .val v285, .val (.ref b296), .unset, .unset, .unset]) rfl k) ?_
      show own_G p.tables e below _ (T301.setTop (mkF m 55 #[.val (.int x0), .val (.int x1), .val (.int x2), .val (.int (own_n x0)), .val (.int (own_k x0 x1)), .val v285, .val (.ref b296), .unset, .unset, .unset] []))
      exact hj _ _ _ X301 e301 E296 (Or.inr ⟨_, rfl, A296⟩)
    · refine own_go (fun _ k => XS.ifNo X285.here hx rfl (hb hby at_39) rfl (((if0 _ _).trans (feq hc39_295).1)) k) ?_
      show own_G p.tables e below _ (T285.setTop (mkF m 42 #[.val (.int x0), .val (.int x1), .val (.int x2), .val (.int (own_n x0)), .val (.int (own_k x0 x1)), .val v285, .unset, .unset, .unset, .unset] []))
      refine own_go (fun _ k => XS.aconstNull X285.here hx rfl (hb hby at_42) k) ?_
      show own_G p.tables e below _ (T285.setTop (mkF m 43 #[.val (.int x0), .val (.int x1), .val (.int x2), .val (.int (own_n x0)), .val (.int (own_k x0 x1)), .val v285, .unset, .unset, .unset, .unset] [.null]))
      refine own_go (fun _ k => XS.goto X285.here hx rfl (pc0 := 43) (pc' := 53) rfl (hb hby at_43) (by decide) (by decide) k) ?_
      show own_G p.tables e below _ (T285.setTop (mkF m 53 #[.val (.int x0), .val (.int x1), .val (.int x2), .val (.int (own_n x0)), .val (.int (own_k x0 x1)), .val v285, .unset, .unset, .unset, .unset] [.null]))
      refine own_go (fun _ k => XS.astore X285.here hx rfl (hb hby at_53) rfl rfl (l' := #[.val (.int x0), .val (.int x1), .val (.int x2), .val (.int (own_n x0)), .val (.int (own_k x0 x1)), .val v285, .val .null, .unset, .unset, .unset]) rfl k) ?_
      show own_G p.tables e below _ (T285.setTop (mkF m 55 #[.val (.int x0), .val (.int x1), .val (.int x2), .val (.int (own_n x0)), .val (.int (own_k x0 x1)), .val v285, .val .null, .unset, .unset, .unset] []))
      exact hj _ _ _ (X285.mono (Nat.le_succ _) (Nat.le_refl _)) e285 ⟨Nat.le_refl _, fun _ _ q => q⟩ (Or.inl rfl)
  have S_302 := S_292.ext E294
  have Av_303 := own_avE Av285_0 E294
  have Z_304 : n0 ≤ h294.size := Nat.le_trans Z_293 E294.1
  have hr294 := own_avr Av294_0
  show own_G p.tables e below _ (T294.setTop (mkF m 55 #[.val (.int x0), .val (.int x1), .val (.int x2), .val (.int (own_n x0)), .val (.int (own_k x0 x1)), .val v285, .val v294, .unset, .unset, .unset] []))
  refine own_joinA (Z := Z) X294 e294 (fun v305 => mkF m 74 #[.val (.int x0), .val (.int x1), .val (.int x2), .val (.int (own_n x0)), .val (.int (own_k x0 x1)), .val v285, .val v294, .val v305, .unset, .unset] []) (fun hj => ?_) (fun T305 h305 v305 X305 e305 E305 Av305_0 => ?_)
  · refine own_go (fun _ k => XS.iloadN X294.here hx rfl (hb hby at_55) rfl k) ?_
    show own_G p.tables e below _ (T294.setTop (mkF m 56 #[.val (.int x0), .val (.int x1), .val (.int x2), .val (.int (own_n x0)), .val (.int (own_k x0 x1)), .val v285, .val v294, .unset, .unset, .unset] [(.int x2)]))
    refine own_go (fun _ k => XS.iconst X294.here hx rfl (hb hby at_56) k) ?_
    show own_G p.tables e below _ (T294.setTop (mkF m 57 #[.val (.int x0), .val (.int x1), .val (.int x2), .val (.int (own_n x0)), .val (.int (own_k x0 x1)), .val v285, .val v294, .unset, .unset, .unset] [(.int (4 : Int32)), (.int x2)]))
    refine own_go (fun _ k => XS.iand X294.here hx rfl (hb hby at_57) rfl k) ?_
    show own_G p.tables e below _ (T294.setTop (mkF m 58 #[.val (.int x0), .val (.int x1), .val (.int x2), .val (.int (own_n x0)), .val (.int (own_k x0 x1)), .val v285, .val v294, .unset, .unset, .unset] [(.int (x2 &&& (4 : Int32)))]))
    by_cases hc58_306 : (x2 &&& (4 : Int32)) = (0 : Int32)
    · refine own_go (fun _ k => XS.ifYes X294.here hx rfl (pc0 := 58) (pc' := 65) rfl (hb hby at_58) rfl (((if0 _ _).trans (teq hc58_306).1)) (by decide) (by decide) k) ?_
      show own_G p.tables e below _ (T294.setTop (mkF m 65 #[.val (.int x0), .val (.int x1), .val (.int x2), .val (.int (own_n x0)), .val (.int (own_k x0 x1)), .val v285, .val v294, .unset, .unset, .unset] []))
      obtain ⟨T307, h307, X307, e307, E307, A307, D307, -, st307⟩ := newO X294 hx hZ hown (hw _ (List.mem_of_getElem? (i := 1) rfl)) (hw _ (List.mem_of_getElem? (i := 2) rfl)) (hw _ (List.mem_of_getElem? (i := 3) rfl)) e294 (g := (mkF m 65 #[.val (.int x0), .val (.int x1), .val (.int x2), .val (.int (own_n x0)), .val (.int (own_k x0 x1)), .val v285, .val v294, .unset, .unset, .unset] [])) rfl (hb hby at_65) (by decide) (by decide)
      obtain ⟨b307, g307⟩ : ∃ z, z = h294.size := ⟨_, rfl⟩
      rw [← g307] at A307 D307 st307
      have ge_308 : n0 ≤ b307 := Nat.le_trans Z_304 (Nat.le_of_eq g307.symm)
      have S_309 := S_302.ext E307
      have Av_310 := own_avE Av_303 E307
      have Av_311 := own_avE Av294_0 E307
      have Z_312 : n0 ≤ h307.size := Nat.le_trans Z_304 E307.1
      refine own_go st307 ?_
      show own_G p.tables e below _ (T307.setTop (mkF m 68 #[.val (.int x0), .val (.int x1), .val (.int x2), .val (.int (own_n x0)), .val (.int (own_k x0 x1)), .val v285, .val v294, .unset, .unset, .unset] [(.ref b307)]))
      refine own_go (fun _ k => XS.dup X307.here hx rfl (hb hby at_68) rfl rfl k) ?_
      show own_G p.tables e below _ (T307.setTop (mkF m 69 #[.val (.int x0), .val (.int x1), .val (.int x2), .val (.int (own_n x0)), .val (.int (own_k x0 x1)), .val v285, .val v294, .unset, .unset, .unset] [(.ref b307), (.ref b307)]))
      obtain ⟨T313, X313, e313, st313⟩ := own_callI X307 hx hZ (y := (⟨"com/example/plainsong/plainsong/engine/CallStackTruncatePinLaw", "<init>", "()V"⟩ : MethodName)) rfl hown (hw _ (List.mem_of_getElem? (i := 4) rfl)) (hw _ (List.mem_of_getElem? (i := 5) rfl)) (hw _ (List.mem_of_getElem? (i := 3) rfl)) (hw _ (List.mem_of_getElem? (i := 6) rfl)) (by decide) (W := 1) (rm1 l Z a0 hw [] b307  h307 ) (by decide) (by decide) rfl rfl e307 (g := (mkF m 69 #[.val (.int x0), .val (.int x1), .val (.int x2), .val (.int (own_n x0)), .val (.int (own_k x0 x1)), .val v285, .val v294, .unset, .unset, .unset] [(.ref b307), (.ref b307)])) rfl (by rw [hml]; rfl) (argsL := []) (rest := [(.ref b307)]) (lenOf own_pd0 rfl) rfl rfl (by show 2 * 0 + _ ≤ _; exact Nat.le_of_eq rfl) (hb hby at_69) (by decide) (by decide)
      refine own_go st313 ?_
      show own_G p.tables e below _ (T313.setTop (mkF m 72 #[.val (.int x0), .val (.int x1), .val (.int x2), .val (.int (own_n x0)), .val (.int (own_k x0 x1)), .val v285, .val v294, .unset, .unset, .unset] [(.ref b307)]))
      refine own_go (fun _ k => XS.astore X313.here hx rfl (hb hby at_72) rfl rfl (l' := #[.val (.int x0), .val (.int x1), .val (.int x2), .val (.int (own_n x0)), .val (.int (own_k x0 x1)), .val v285, .val v294, .val (.ref b307), .unset, .unset]) rfl k) ?_
      show own_G p.tables e below _ (T313.setTop (mkF m 74 #[.val (.int x0), .val (.int x1), .val (.int x2), .val (.int (own_n x0)), .val (.int (own_k x0 x1)), .val v285, .val v294, .val (.ref b307), .unset, .unset] []))
      exact hj _ _ _ X313 e313 E307 (Or.inr ⟨_, rfl, A307⟩)
    · refine own_go (fun _ k => XS.ifNo X294.here hx rfl (hb hby at_58) rfl (((if0 _ _).trans (feq hc58_306).1)) k) ?_
      show own_G p.tables e below _ (T294.setTop (mkF m 61 #[.val (.int x0), .val (.int x1), .val (.int x2), .val (.int (own_n x0)), .val (.int (own_k x0 x1)), .val v285, .val v294, .unset, .unset, .unset] []))
      refine own_go (fun _ k => XS.aconstNull X294.here hx rfl (hb hby at_61) k) ?_
      show own_G p.tables e below _ (T294.setTop (mkF m 62 #[.val (.int x0), .val (.int x1), .val (.int x2), .val (.int (own_n x0)), .val (.int (own_k x0 x1)), .val v285, .val v294, .unset, .unset, .unset] [.null]))
      refine own_go (fun _ k => XS.goto X294.here hx rfl (pc0 := 62) (pc' := 72) rfl (hb hby at_62) (by decide) (by decide) k) ?_
      show own_G p.tables e below _ (T294.setTop (mkF m 72 #[.val (.int x0), .val (.int x1), .val (.int x2), .val (.int (own_n x0)), .val (.int (own_k x0 x1)), .val v285, .val v294, .unset, .unset, .unset] [.null]))
      refine own_go (fun _ k => XS.astore X294.here hx rfl (hb hby at_72) rfl rfl (l' := #[.val (.int x0), .val (.int x1), .val (.int x2), .val (.int (own_n x0)), .val (.int (own_k x0 x1)), .val v285, .val v294, .val .null, .unset, .unset]) rfl k) ?_
      show own_G p.tables e below _ (T294.setTop (mkF m 74 #[.val (.int x0), .val (.int x1), .val (.int x2), .val (.int (own_n x0)), .val (.int (own_k x0 x1)), .val v285, .val v294, .val .null, .unset, .unset] []))
      exact hj _ _ _ (X294.mono (Nat.le_succ _) (Nat.le_refl _)) e294 ⟨Nat.le_refl _, fun _ _ q => q⟩ (Or.inl rfl)
  have S_314 := S_302.ext E305
  have Av_315 := own_avE Av_303 E305
  have Av_316 := own_avE Av294_0 E305
  have Z_317 : n0 ≤ h305.size := Nat.le_trans Z_304 E305.1
  have hr305 := own_avr Av305_0
  show own_G p.tables e below _ (T305.setTop (mkF m 74 #[.val (.int x0), .val (.int x1), .val (.int x2), .val (.int (own_n x0)), .val (.int (own_k x0 x1)), .val v285, .val v294, .val v305, .unset, .unset] []))
  obtain ⟨T318, h318, X318, e318, E318, A318, D318, -, st318⟩ := newO X305 hx hZ hown (hw _ (List.mem_of_getElem? (i := 10) rfl)) (hw _ (List.mem_of_getElem? (i := 11) rfl)) (hw _ (List.mem_of_getElem? (i := 12) rfl)) e305 (g := (mkF m 74 #[.val (.int x0), .val (.int x1), .val (.int x2), .val (.int (own_n x0)), .val (.int (own_k x0 x1)), .val v285, .val v294, .val v305, .unset, .unset] [])) rfl (hb hby at_74) (by decide) (by decide)
  obtain ⟨b318, g318⟩ : ∃ z, z = h305.size := ⟨_, rfl⟩
  rw [← g318] at A318 D318 st318
  have ge_319 : n0 ≤ b318 := Nat.le_trans Z_317 (Nat.le_of_eq g318.symm)
  have S_320 := S_314.ext E318
  have Av_321 := own_avE Av_315 E318
  have Av_322 := own_avE Av_316 E318
  have Av_323 := own_avE Av305_0 E318
  have Z_324 : n0 ≤ h318.size := Nat.le_trans Z_317 E318.1
  have F_325 : Fld Z h318 b318 "com/example/plainsong/plainsong/engine/CallStack" "activations" "[Lcom/example/plainsong/plainsong/engine/CallStack$Activation;" .null := D318 (Or.inl (hw _ (List.mem_of_getElem? (i := 40) rfl))) (ty := (.array (.object "com/example/plainsong/plainsong/engine/CallStack$Activation"))) (by decide)
  have F_326 : Fld Z h318 b318 "com/example/plainsong/plainsong/engine/CallStack" "interpreter" "Lcom/example/plainsong/plainsong/engine/Interpreter;" .null := D318 (Or.inr (hw _ (List.mem_of_getElem? (i := 42) rfl))) (ty := (.object "com/example/plainsong/plainsong/engine/Interpreter")) (by decide)
  have F_327 : Fld Z h318 b318 "com/example/plainsong/plainsong/engine/CallStack" "depth" "I" (.int (0 : Int32)) := D318 (Or.inl (hw _ (List.mem_of_getElem? (i := 49) rfl))) (ty := .int) (by decide)
  refine own_go st318 ?_
  show own_G p.tables e below _ (T318.setTop (mkF m 77 #[.val (.int x0), .val (.int x1), .val (.int x2), .val (.int (own_n x0)), .val (.int (own_k x0 x1)), .val v285, .val v294, .val v305, .unset, .unset] [(.ref b318)]))
  refine own_go (fun _ k => XS.dup X318.here hx rfl (hb hby at_77) rfl rfl k) ?_
  show own_G p.tables e below _ (T318.setTop (mkF m 78 #[.val (.int x0), .val (.int x1), .val (.int x2), .val (.int (own_n x0)), .val (.int (own_k x0 x1)), .val v285, .val v294, .val v305, .unset, .unset] [(.ref b318), (.ref b318)]))
  obtain ⟨T328, h328, X328, e328, E328, A328, D328, -, st328⟩ := newO X318 hx hZ hown (hw _ (List.mem_of_getElem? (i := 13) rfl)) (hw _ (List.mem_of_getElem? (i := 14) rfl)) (hw _ (List.mem_of_getElem? (i := 15) rfl)) e318 (g := (mkF m 78 #[.val (.int x0), .val (.int x1), .val (.int x2), .val (.int (own_n x0)), .val (.int (own_k x0 x1)), .val v285, .val v294, .val v305, .unset, .unset] [(.ref b318), (.ref b318)])) rfl (hb hby at_78) (by decide) (by decide)
  obtain ⟨b328, g328⟩ : ∃ z, z = h318.size := ⟨_, rfl⟩
  rw [← g328] at A328 D328 st328
  have ne_329 : b318 ≠ b328 := Nat.ne_of_lt (Nat.lt_of_lt_of_le A318.lt (Nat.le_of_eq g328.symm))
  have ge_330 : n0 ≤ b328 := Nat.le_trans Z_324 (Nat.le_of_eq g328.symm)
  have S_331 := S_320.ext E328
  have X_332 := A318.ext E328
  have F_333 := F_325.ext E328
  have F_334 := F_326.ext E328
  have F_335 := F_327.ext E328
  have Av_336 := own_avE Av_321 E328
  have Av_337 := own_avE Av_322 E328
  have Av_338 := own_avE Av_323 E328
  have Z_339 : n0 ≤ h328.size := Nat.le_trans Z_324 E328.1
  have F_340 : Fld Z h328 b328 "com/example/plainsong/plainsong/engine/Interpreter" "globals" "Lcom/example/plainsong/plainsong/engine/Table;" .null := D328 (Or.inr (hw _ (List.mem_of_getElem? (i := 32) rfl))) (ty := (.object "com/example/plainsong/plainsong/engine/Table")) (by decide)
  refine own_go st328 ?_
  show own_G p.tables e below _ (T328.setTop (mkF m 81 #[.val (.int x0), .val (.int x1), .val (.int x2), .val (.int (own_n x0)), .val (.int (own_k x0 x1)), .val v285, .val v294, .val v305, .unset, .unset] [(.ref b328), (.ref b318), (.ref b318)]))
  refine own_go (fun _ k => XS.dup X328.here hx rfl (hb hby at_81) rfl rfl k) ?_
  show own_G p.tables e below _ (T328.setTop (mkF m 82 #[.val (.int x0), .val (.int x1), .val (.int x2), .val (.int (own_n x0)), .val (.int (own_k x0 x1)), .val v285, .val v294, .val v305, .unset, .unset] [(.ref b328), (.ref b328), (.ref b318), (.ref b318)]))
  obtain ⟨_, _, ⟨T341, L341, k341, n341⟩, -, X341, ⟨Lc341, hQ341, l341, y341, z341⟩, st341⟩ := X328.specialBack hx (y := (⟨"com/example/plainsong/plainsong/engine/Interpreter", "<init>", "()V"⟩ : MethodName)) rfl hown (mvT hZ (hw _ (List.mem_of_getElem? (i := 16) rfl))) (mvT hZ (hw _ (List.mem_of_getElem? (i := 17) rfl))) (mvT hZ (hw _ (List.mem_of_getElem? (i := 18) rfl))) (by decide) (backOf (W := 3) (rm3 l Z a0 hw [] b328 em h328 n0 Z_339 A328 ge_330 F_340 S_331) hZ (hw _ (List.mem_of_getElem? (i := 18) rfl)) (hw _ (List.mem_of_getElem? (i := 15) rfl)) (by decide) (by decide)) (g := (mkF m 82 #[.val (.int x0), .val (.int x1), .val (.int x2), .val (.int (own_n x0)), .val (.int (own_k x0 x1)), .val v285, .val v294, .val v305, .unset, .unset] [(.ref b328), (.ref b328), (.ref b318), (.ref b318)])) rfl (by rw [hml]; rfl) (Steps.refl _) (a := b328) (argsL := []) (rest := [(.ref b328), (.ref b318), (.ref b318)]) (lenOf own_pd0 rfl) rfl (by show 2 * 0 + _ ≤ _; exact Nat.le_of_eq rfl) (hb hby at_82) (fun _ _ => ⟨rfl, e328, (by decide : 5 + 1 ≤ _), (by decide : 9 + 5 ≤ _)⟩)
  dsimp only [Pt.U, Pt.locs, Pt.cells, Pt.slots] at X341 l341 y341 z341 st341 hQ341
  subst l341 y341 z341
  obtain ⟨rfl, Nq341, K341, G_342⟩ := hQ341
  have X_343 := X_332.keep K341
  have F_344 := F_333.keep K341 (ninS ne_329 nin0)
  have F_345 := F_334.keep K341 (ninS ne_329 nin0)
  have F_346 := F_335.keep K341 (ninS ne_329 nin0)
  have X_347 := A328.keep K341
  have Av_348 := own_avK Av_336 K341
  have Av_349 := own_avK Av_337 K341
  have Av_350 := own_avK Av_338 K341
  have Z_351 : n0 ≤ T341.heap.size := Nat.le_trans Z_339 K341.1
  have N_341 := Fr.app N0 Nq341
  refine own_go (fun _ k => st341.trans k) ?_
  show own_G p.tables e below _ (T341.setTop (mkF m 85 #[.val (.int x0), .val (.int x1), .val (.int x2), .val (.int (own_n x0)), .val (.int (own_k x0 x1)), .val v285, .val v294, .val v305, .unset, .unset] [(.ref b328), (.ref b318), (.ref b318)]))
  obtain ⟨_, _, ⟨T352, L352, k352, n352⟩, -, X352, ⟨Lc352, hQ352, l352, y352, z352⟩, st352⟩ := X341.specialBack hx (y := (⟨"com/example/plainsong/plainsong/engine/CallStack", "<init>", "(Lcom/example/plainsong/plainsong/engine/Interpreter;)V"⟩ : MethodName)) rfl hown (mvT hZ (hw _ (List.mem_of_getElem? (i := 33) rfl))) (mvT hZ (hw _ (List.mem_of_getElem? (i := 34) rfl))) (mvT hZ (hw _ (List.mem_of_getElem? (i := 35) rfl))) (by decide) (backOf (W := 1) (rm5 l Z a0 hw [] b318 b328  T341.heap n0 Z_351 X_343 ge_319 F_344 F_345 F_346) hZ (hw _ (List.mem_of_getElem? (i := 35) rfl)) (hw _ (List.mem_of_getElem? (i := 12) rfl)) (by decide) (by decide)) (g := (mkF m 85 #[.val (.int x0), .val (.int x1), .val (.int x2), .val (.int (own_n x0)), .val (.int (own_k x0 x1)), .val v285, .val v294, .val v305, .unset, .unset] [(.ref b328), (.ref b318), (.ref b318)])) rfl (by rw [hml]; rfl) (Steps.refl _) (a := b318) (argsL := [(.ref b328)]) (rest := [(.ref b318)]) (lenOf own_pd1 rfl) rfl (by show 2 * 0 + _ ≤ _; exact Nat.le_of_eq rfl) (hb hby at_85) (fun _ _ => ⟨rfl, rfl, (by decide : 6 + 1 ≤ _), (by decide : 14 + 16 ≤ _)⟩)
  dsimp only [Pt.U, Pt.locs, Pt.cells, Pt.slots] at X352 l352 y352 z352 st352 hQ352
  subst l352 y352 z352
  obtain ⟨rfl, Nq352, K352, G_353, G_354, G_355, qx352⟩ := hQ352
  obtain ⟨b352, g352⟩ : ∃ z, z = T341.heap.size := ⟨_, rfl⟩
  rw [← g352] at G_354 qx352
  have ne_356 : b318 ≠ b352 := Nat.ne_of_lt (Nat.lt_of_lt_of_le X_343.lt (Nat.le_of_eq g352.symm))
  have ne_357 : b328 ≠ b352 := Nat.ne_of_lt (Nat.lt_of_lt_of_le G_342.lt (Nat.le_of_eq g352.symm))
  have ge_358 : n0 ≤ b352 := Nat.le_trans Z_351 (Nat.le_of_eq g352.symm)
  have X_359 := X_343.keep K352
  have X_360 := G_342.keep K352
  have Av_361 := own_avK Av_348 K352
  have Av_362 := own_avK Av_349 K352
  have Av_363 := own_avK Av_350 K352
  have Z_364 : n0 ≤ T352.heap.size := Nat.le_trans Z_351 K352.1
  have N_352 := Fr.app N_341 Nq352
  obtain ⟨k352, O352, V352⟩ := qx352
  refine own_go (fun _ k => st352.trans k) ?_
  show own_G p.tables e below _ (T352.setTop (mkF m 88 #[.val (.int x0), .val (.int x1), .val (.int x2), .val (.int (own_n x0)), .val (.int (own_k x0 x1)), .val v285, .val v294, .val v305, .unset, .unset] [(.ref b318)]))
  refine own_go (fun _ k => XS.astore X352.here hx rfl (hb hby at_88) rfl rfl (l' := #[.val (.int x0), .val (.int x1), .val (.int x2), .val (.int (own_n x0)), .val (.int (own_k x0 x1)), .val v285, .val v294, .val v305, .val (.ref b318), .unset]) rfl k) ?_
  show own_G p.tables e below _ (T352.setTop (mkF m 90 #[.val (.int x0), .val (.int x1), .val (.int x2), .val (.int (own_n x0)), .val (.int (own_k x0 x1)), .val v285, .val v294, .val v305, .val (.ref b318), .unset] []))
  rcases own_nk x0 x1 with ⟨hn, hk⟩ | ⟨hn, hk⟩ | ⟨hn, hk⟩ | ⟨hn, hk⟩ | ⟨hn, hk⟩ | ⟨hn, hk⟩ | ⟨hn, hk⟩ | ⟨hn, hk⟩ | ⟨hn, hk⟩ | ⟨hn, hk⟩
  · rw [hn, hk]
    show own_G p.tables e below _ (T352.setTop (mkF m 90 #[.val (.int x0), .val (.int x1), .val (.int x2), .val (.int (0 : Int32)), .val (.int (0 : Int32)), .val v285, .val v294, .val v305, .val (.ref b318), .unset] []))
    refine own_go (fun _ k => XS.iloadN X352.here hx rfl (hb hby at_90) rfl k) ?_
    show own_G p.tables e below _ (T352.setTop (mkF m 91 #[.val (.int x0), .val (.int x1), .val (.int x2), .val (.int (0 : Int32)), .val (.int (0 : Int32)), .val v285, .val v294, .val v305, .val (.ref b318), .unset] [(.int (0 : Int32))]))
    refine own_go (fun _ k => XS.ifYes X352.here hx rfl (pc0 := 91) (pc' := 101) rfl (hb hby at_91) rfl (((if0 _ _).trans (flt (by decide : ¬ ((0 : Int32) < (0 : Int32)))).2.2.2)) (by decide) (by decide) k) ?_
    show own_G p.tables e below _ (T352.setTop (mkF m 101 #[.val (.int x0), .val (.int x1), .val (.int x2), .val (.int (0 : Int32)), .val (.int (0 : Int32)), .val v285, .val v294, .val v305, .val (.ref b318), .unset] []))
    refine own_go (fun _ k => XS.iloadN X352.here hx rfl (hb hby at_101) rfl k) ?_
    show own_G p.tables e below _ (T352.setTop (mkF m 102 #[.val (.int x0), .val (.int x1), .val (.int x2), .val (.int (0 : Int32)), .val (.int (0 : Int32)), .val v285, .val v294, .val v305, .val (.ref b318), .unset] [(.int (0 : Int32))]))
    refine own_go (fun _ k => XS.iconst X352.here hx rfl (hb hby at_102) k) ?_
    show own_G p.tables e below _ (T352.setTop (mkF m 103 #[.val (.int x0), .val (.int x1), .val (.int x2), .val (.int (0 : Int32)), .val (.int (0 : Int32)), .val v285, .val v294, .val v305, .val (.ref b318), .unset] [(.int (1 : Int32)), (.int (0 : Int32))]))
    refine own_go (fun _ k => XS.icmpYes X352.here hx rfl (pc0 := 103) (pc' := 113) rfl (hb hby at_103) rfl ((flt (by decide : ¬ ((1 : Int32) < (0 : Int32)))).2.2.2) (by decide) (by decide) k) ?_
    show own_G p.tables e below _ (T352.setTop (mkF m 113 #[.val (.int x0), .val (.int x1), .val (.int x2), .val (.int (0 : Int32)), .val (.int (0 : Int32)), .val v285, .val v294, .val v305, .val (.ref b318), .unset] []))
    refine own_go (fun _ k => XS.iloadN X352.here hx rfl (hb hby at_113) rfl k) ?_
    show own_G p.tables e below _ (T352.setTop (mkF m 114 #[.val (.int x0), .val (.int x1), .val (.int x2), .val (.int (0 : Int32)), .val (.int (0 : Int32)), .val v285, .val v294, .val v305, .val (.ref b318), .unset] [(.int (0 : Int32))]))
    refine own_go (fun _ k => XS.iconst X352.here hx rfl (hb hby at_114) k) ?_
    show own_G p.tables e below _ (T352.setTop (mkF m 115 #[.val (.int x0), .val (.int x1), .val (.int x2), .val (.int (0 : Int32)), .val (.int (0 : Int32)), .val v285, .val v294, .val v305, .val (.ref b318), .unset] [(.int (2 : Int32)), (.int (0 : Int32))]))
    refine own_go (fun _ k => XS.icmpYes X352.here hx rfl (pc0 := 115) (pc' := 125) rfl (hb hby at_115) rfl ((flt (by decide : ¬ ((2 : Int32) < (0 : Int32)))).2.2.2) (by decide) (by decide) k) ?_
    show own_G p.tables e below _ (T352.setTop (mkF m 125 #[.val (.int x0), .val (.int x1), .val (.int x2), .val (.int (0 : Int32)), .val (.int (0 : Int32)), .val v285, .val v294, .val v305, .val (.ref b318), .unset] []))
    refine own_go (fun _ k => XS.aload X352.here hx rfl (hb hby at_125) rfl rfl k) ?_
    show own_G p.tables e below _ (T352.setTop (mkF m 127 #[.val (.int x0), .val (.int x1), .val (.int x2), .val (.int (0 : Int32)), .val (.int (0 : Int32)), .val v285, .val v294, .val v305, .val (.ref b318), .unset] [(.ref b318)]))
    refine own_go (fun _ k => XS.iload X352.here hx rfl (hb hby at_127) rfl k) ?_
    show own_G p.tables e below _ (T352.setTop (mkF m 129 #[.val (.int x0), .val (.int x1), .val (.int x2), .val (.int (0 : Int32)), .val (.int (0 : Int32)), .val v285, .val v294, .val v305, .val (.ref b318), .unset] [(.int (0 : Int32)), (.ref b318)]))
    obtain ⟨cq365, kq365, q365a, q365b, q365c⟩ := isOf hZ rfl G_353
    obtain ⟨_, _, ⟨T365, L365, k365, n365⟩, -, X365, ⟨Lc365, hQ365, l365, y365, z365⟩, st365⟩ := X352.virtualBack hx (y := (⟨"com/example/plainsong/plainsong/engine/CallStack", "truncate", "(I)V"⟩ : MethodName)) (z := (⟨"com/example/plainsong/plainsong/engine/CallStack", "truncate", "(I)V"⟩ : MethodName)) hown (mvT hZ (hw _ (List.mem_of_getElem? (i := 43) rfl))) (mvT hZ (hw _ (List.mem_of_getElem? (i := 44) rfl))) (notFace_of_selects (args := #[]) (mvT hZ (hw _ (List.mem_of_getElem? (i := 46) rfl)))) (mvT hZ (hw _ (List.mem_of_getElem? (i := 46) rfl))) (mvT hZ (hw _ (List.mem_of_getElem? (i := 45) rfl))) (by decide) (backOf (W := 0) (rm_tr00 l Z a0 hw [] b318 b352 k352 .null .null .null T352.heap n0 Z_364 G_353 G_354 G_355 V352 ge_319 ge_358 ne_356) hZ (hw _ (List.mem_of_getElem? (i := 47) rfl)) (hw _ (List.mem_of_getElem? (i := 12) rfl)) (by decide) (by decide)) q365a q365c (g := (mkF m 129 #[.val (.int x0), .val (.int x1), .val (.int x2), .val (.int (0 : Int32)), .val (.int (0 : Int32)), .val v285, .val v294, .val v305, .val (.ref b318), .unset] [(.int (0 : Int32)), (.ref b318)])) rfl (by rw [hml]; rfl) (Steps.refl _) (argsL := [(.int (0 : Int32))]) (rest := []) (lenOf own_pd2 rfl) rfl (by show 2 * 0 + _ ≤ _; exact Nat.le_of_eq rfl) (hb hby at_129) (fun _ _ => ⟨rfl, rfl, (by decide : 7 + 0 ≤ _), (by decide : 30 + 0 ≤ _)⟩)
    dsimp only [Pt.U, Pt.locs, Pt.cells, Pt.slots] at X365 l365 y365 z365 st365 hQ365
    subst l365 y365 z365
    obtain ⟨rfl, Nq365, K365, G_366, G_367, G_368, G_369⟩ := hQ365
    have X_370 := G_353.keep K365
    have X_371 := X_360.keep K365
    have Av_372 := own_avK Av_361 K365
    have Av_373 := own_avK Av_362 K365
    have Av_374 := own_avK Av_363 K365
    have Z_375 : n0 ≤ T365.heap.size := Nat.le_trans Z_364 K365.1
    have N_365 := Fr.app N_352 Nq365
    refine own_go (fun _ k => st365.trans k) ?_
    show own_G p.tables e below _ (T365.setTop (mkF m 132 #[.val (.int x0), .val (.int x1), .val (.int x2), .val (.int (0 : Int32)), .val (.int (0 : Int32)), .val v285, .val v294, .val v305, .val (.ref b318), .unset] []))
    refine own_go (fun _ k => XS.aload X365.here hx rfl (hb hby at_132) rfl rfl k) ?_
    show own_G p.tables e below _ (T365.setTop (mkF m 134 #[.val (.int x0), .val (.int x1), .val (.int x2), .val (.int (0 : Int32)), .val (.int (0 : Int32)), .val v285, .val v294, .val v305, .val (.ref b318), .unset] [(.ref b318)]))
    obtain ⟨T376, X376, e376, st376⟩ := own_callV X365 hx hZ (y := (⟨"com/example/plainsong/plainsong/engine/CallStack", "depth", "()I"⟩ : MethodName)) hown (hw _ (List.mem_of_getElem? (i := 50) rfl)) (hw _ (List.mem_of_getElem? (i := 51) rfl)) (hw _ (List.mem_of_getElem? (i := 53) rfl)) (hw _ (List.mem_of_getElem? (i := 52) rfl)) (hw _ (List.mem_of_getElem? (i := 12) rfl)) (hw _ (List.mem_of_getElem? (i := 54) rfl)) (by decide) (W := 0) (rm7 l Z a0 hw [] b318 (0 : Int32) T365.heap G_368) (by decide) (by decide) rfl rfl rfl G_366 (g := (mkF m 134 #[.val (.int x0), .val (.int x1), .val (.int x2), .val (.int (0 : Int32)), .val (.int (0 : Int32)), .val v285, .val v294, .val v305, .val (.ref b318), .unset] [(.ref b318)])) rfl (by rw [hml]; rfl) (argsL := []) (rest := []) (lenOf own_pd3 rfl) rfl rfl (by show 2 * 0 + _ ≤ _; exact Nat.le_of_eq rfl) (hb hby at_134) (by decide) (by decide)
    refine own_go st376 ?_
    show own_G p.tables e below _ (T376.setTop (mkF m 137 #[.val (.int x0), .val (.int x1), .val (.int x2), .val (.int (0 : Int32)), .val (.int (0 : Int32)), .val v285, .val v294, .val v305, .val (.ref b318), .unset] [(.int (0 : Int32))]))
    refine own_go (fun _ k => XS.iload X376.here hx rfl (hb hby at_137) rfl k) ?_
    show own_G p.tables e below _ (T376.setTop (mkF m 139 #[.val (.int x0), .val (.int x1), .val (.int x2), .val (.int (0 : Int32)), .val (.int (0 : Int32)), .val v285, .val v294, .val v305, .val (.ref b318), .unset] [(.int (0 : Int32)), (.int (0 : Int32))]))
    refine own_go (fun _ k => XS.icmpNo X376.here hx rfl (hb hby at_139) rfl ((teq (by decide : (0 : Int32) = (0 : Int32))).2) k) ?_
    show own_G p.tables e below _ (T376.setTop (mkF m 142 #[.val (.int x0), .val (.int x1), .val (.int x2), .val (.int (0 : Int32)), .val (.int (0 : Int32)), .val v285, .val v294, .val v305, .val (.ref b318), .unset] []))
    refine own_go (fun _ k => XS.iconst X376.here hx rfl (hb hby at_142) k) ?_
    show own_G p.tables e below _ (T376.setTop (mkF m 143 #[.val (.int x0), .val (.int x1), .val (.int x2), .val (.int (0 : Int32)), .val (.int (0 : Int32)), .val v285, .val v294, .val v305, .val (.ref b318), .unset] [(.int (1 : Int32))]))
    refine own_go (fun _ k => XS.goto X376.here hx rfl (pc0 := 143) (pc' := 147) rfl (hb hby at_143) (by decide) (by decide) k) ?_
    show own_G p.tables e below _ (T376.setTop (mkF m 147 #[.val (.int x0), .val (.int x1), .val (.int x2), .val (.int (0 : Int32)), .val (.int (0 : Int32)), .val v285, .val v294, .val v305, .val (.ref b318), .unset] [(.int (1 : Int32))]))
    refine own_go (fun _ k => XS.istore X376.here hx rfl (hb hby at_147) rfl (l' := #[.val (.int x0), .val (.int x1), .val (.int x2), .val (.int (0 : Int32)), .val (.int (0 : Int32)), .val v285, .val v294, .val v305, .val (.ref b318), .val (.int (1 : Int32))]) rfl k) ?_
    show own_G p.tables e below _ (T376.setTop (mkF m 149 #[.val (.int x0), .val (.int x1), .val (.int x2), .val (.int (0 : Int32)), .val (.int (0 : Int32)), .val v285, .val v294, .val v305, .val (.ref b318), .val (.int (1 : Int32))] []))
    refine own_go (fun _ k => XS.iload X376.here hx rfl (hb hby at_149) rfl k) ?_
    show own_G p.tables e below _ (T376.setTop (mkF m 151 #[.val (.int x0), .val (.int x1), .val (.int x2), .val (.int (0 : Int32)), .val (.int (0 : Int32)), .val v285, .val v294, .val v305, .val (.ref b318), .val (.int (1 : Int32))] [(.int (1 : Int32))]))
    refine own_go (fun _ k => XS.ifNo X376.here hx rfl (hb hby at_151) rfl (((if0 _ _).trans (feq (by decide : ¬ ((1 : Int32) = (0 : Int32)))).1)) k) ?_
    show own_G p.tables e below _ (T376.setTop (mkF m 154 #[.val (.int x0), .val (.int x1), .val (.int x2), .val (.int (0 : Int32)), .val (.int (0 : Int32)), .val v285, .val v294, .val v305, .val (.ref b318), .val (.int (1 : Int32))] []))
    refine own_go (fun _ k => XS.aload X376.here hx rfl (hb hby at_154) rfl rfl k) ?_
    show own_G p.tables e below _ (T376.setTop (mkF m 156 #[.val (.int x0), .val (.int x1), .val (.int x2), .val (.int (0 : Int32)), .val (.int (0 : Int32)), .val v285, .val v294, .val v305, .val (.ref b318), .val (.int (1 : Int32))] [(.ref b318)]))
    refine own_go (fun _ k => XS.iconst X376.here hx rfl (hb hby at_156) k) ?_
    show own_G p.tables e below _ (T376.setTop (mkF m 157 #[.val (.int x0), .val (.int x1), .val (.int x2), .val (.int (0 : Int32)), .val (.int (0 : Int32)), .val v285, .val v294, .val v305, .val (.ref b318), .val (.int (1 : Int32))] [(.int (0 : Int32)), (.ref b318)]))
    obtain ⟨T377, X377, e377, st377⟩ := own_callV X376 hx hZ (y := (⟨"com/example/plainsong/plainsong/engine/CallStack", "entry", "(I)Lcom/example/plainsong/plainsong/engine/CallStack$Activation;"⟩ : MethodName)) hown (hw _ (List.mem_of_getElem? (i := 55) rfl)) (hw _ (List.mem_of_getElem? (i := 56) rfl)) (hw _ (List.mem_of_getElem? (i := 58) rfl)) (hw _ (List.mem_of_getElem? (i := 57) rfl)) (hw _ (List.mem_of_getElem? (i := 12) rfl)) (hw _ (List.mem_of_getElem? (i := 59) rfl)) (by decide) (W := 0) (rm_ent0 l Z a0 hw [] b318 b352 k352 .null .null .null T365.heap G_367 G_369 rfl) (by decide) (by decide) rfl rfl e376 G_366 (g := (mkF m 157 #[.val (.int x0), .val (.int x1), .val (.int x2), .val (.int (0 : Int32)), .val (.int (0 : Int32)), .val v285, .val v294, .val v305, .val (.ref b318), .val (.int (1 : Int32))] [(.int (0 : Int32)), (.ref b318)])) rfl (by rw [hml]; rfl) (argsL := [(.int (0 : Int32))]) (rest := []) (lenOf own_pd4 rfl) rfl rfl (by show 2 * 0 + _ ≤ _; exact Nat.le_of_eq rfl) (hb hby at_157) (by decide) (by decide)
    refine own_go st377 ?_
    show own_G p.tables e below _ (T377.setTop (mkF m 160 #[.val (.int x0), .val (.int x1), .val (.int x2), .val (.int (0 : Int32)), .val (.int (0 : Int32)), .val v285, .val v294, .val v305, .val (.ref b318), .val (.int (1 : Int32))] [.null]))
    refine own_go (fun _ k => XS.iconst X377.here hx rfl (hb hby at_160) k) ?_
    show own_G p.tables e below _ (T377.setTop (mkF m 161 #[.val (.int x0), .val (.int x1), .val (.int x2), .val (.int (0 : Int32)), .val (.int (0 : Int32)), .val v285, .val v294, .val v305, .val (.ref b318), .val (.int (1 : Int32))] [(.int (0 : Int32)), .null]))
    refine own_go (fun _ k => XS.iload X377.here hx rfl (hb hby at_161) rfl k) ?_
    show own_G p.tables e below _ (T377.setTop (mkF m 163 #[.val (.int x0), .val (.int x1), .val (.int x2), .val (.int (0 : Int32)), .val (.int (0 : Int32)), .val v285, .val v294, .val v305, .val (.ref b318), .val (.int (1 : Int32))] [(.int (0 : Int32)), (.int (0 : Int32)), .null]))
    refine own_go (fun _ k => XS.aload X377.here hx rfl (hb hby at_163) rfl hr285 k) ?_
    show own_G p.tables e below _ (T377.setTop (mkF m 165 #[.val (.int x0), .val (.int x1), .val (.int x2), .val (.int (0 : Int32)), .val (.int (0 : Int32)), .val v285, .val v294, .val v305, .val (.ref b318), .val (.int (1 : Int32))] [v285, (.int (0 : Int32)), (.int (0 : Int32)), .null]))
    obtain ⟨T378, X378, e378, st378⟩ := own_callP X377 hx hZ (y := (⟨"com/example/plainsong/plainsong/engine/CallStackTruncatePinLaw", "expected", "(IILcom/example/plainsong/plainsong/engine/CallStack$Activation;)Lcom/example/plainsong/plainsong/engine/CallStack$Activation;"⟩ : MethodName)) hown (hw _ (List.mem_of_getElem? (i := 60) rfl)) (hw _ (List.mem_of_getElem? (i := 61) rfl)) (hw _ (List.mem_of_getElem? (i := 3) rfl)) (hw _ (List.mem_of_getElem? (i := 62) rfl)) (by decide) (W := 1) (rm_expge l Z a0 hw [] (0 : Int32) (0 : Int32) v285  T365.heap hr285 (by decide)) (by decide) (by decide) rfl rfl e377 (g := (mkF m 165 #[.val (.int x0), .val (.int x1), .val (.int x2), .val (.int (0 : Int32)), .val (.int (0 : Int32)), .val v285, .val v294, .val v305, .val (.ref b318), .val (.int (1 : Int32))] [v285, (.int (0 : Int32)), (.int (0 : Int32)), .null])) rfl (by rw [hml]; rfl) (argsL := [(.int (0 : Int32)), (.int (0 : Int32)), v285]) (rest := [.null]) (lenOf own_pd5 rfl) rfl rfl (by show 2 * 0 + _ ≤ _; exact Nat.le_of_eq rfl) (hb hby at_165) (by decide) (by decide)
    refine own_go st378 ?_
    show own_G p.tables e below _ (T378.setTop (mkF m 168 #[.val (.int x0), .val (.int x1), .val (.int x2), .val (.int (0 : Int32)), .val (.int (0 : Int32)), .val v285, .val v294, .val v305, .val (.ref b318), .val (.int (1 : Int32))] [.null, .null]))
    refine own_go (fun _ k => Jvm.RoadKit.acmp (g := (mkF m 168 #[.val (.int x0), .val (.int x1), .val (.int x2), .val (.int (0 : Int32)), .val (.int (0 : Int32)), .val v285, .val v294, .val v305, .val (.ref b318), .val (.int (1 : Int32))] [.null, .null])) X378 hx rfl rfl rfl (pc0 := 168) (pc' := 171) (same := true) rfl (hb hby at_168) rfl (decide_eq_true rfl) (by decide) (by decide) k) ?_
    show own_G p.tables e below _ (T378.setTop (mkF m 171 #[.val (.int x0), .val (.int x1), .val (.int x2), .val (.int (0 : Int32)), .val (.int (0 : Int32)), .val v285, .val v294, .val v305, .val (.ref b318), .val (.int (1 : Int32))] []))
    refine own_go (fun _ k => XS.iconst X378.here hx rfl (hb hby at_171) k) ?_
    show own_G p.tables e below _ (T378.setTop (mkF m 172 #[.val (.int x0), .val (.int x1), .val (.int x2), .val (.int (0 : Int32)), .val (.int (0 : Int32)), .val v285, .val v294, .val v305, .val (.ref b318), .val (.int (1 : Int32))] [(.int (1 : Int32))]))
    refine own_go (fun _ k => XS.goto X378.here hx rfl (pc0 := 172) (pc' := 176) rfl (hb hby at_172) (by decide) (by decide) k) ?_
    show own_G p.tables e below _ (T378.setTop (mkF m 176 #[.val (.int x0), .val (.int x1), .val (.int x2), .val (.int (0 : Int32)), .val (.int (0 : Int32)), .val v285, .val v294, .val v305, .val (.ref b318), .val (.int (1 : Int32))] [(.int (1 : Int32))]))
    refine own_go (fun _ k => XS.istore X378.here hx rfl (hb hby at_176) rfl (l' := #[.val (.int x0), .val (.int x1), .val (.int x2), .val (.int (0 : Int32)), .val (.int (0 : Int32)), .val v285, .val v294, .val v305, .val (.ref b318), .val (.int (1 : Int32))]) rfl k) ?_
    show own_G p.tables e below _ (T378.setTop (mkF m 178 #[.val (.int x0), .val (.int x1), .val (.int x2), .val (.int (0 : Int32)), .val (.int (0 : Int32)), .val v285, .val v294, .val v305, .val (.ref b318), .val (.int (1 : Int32))] []))
    refine own_go (fun _ k => XS.iload X378.here hx rfl (hb hby at_178) rfl k) ?_
    show own_G p.tables e below _ (T378.setTop (mkF m 180 #[.val (.int x0), .val (.int x1), .val (.int x2), .val (.int (0 : Int32)), .val (.int (0 : Int32)), .val v285, .val v294, .val v305, .val (.ref b318), .val (.int (1 : Int32))] [(.int (1 : Int32))]))
    refine own_go (fun _ k => XS.ifNo X378.here hx rfl (hb hby at_180) rfl (((if0 _ _).trans (feq (by decide : ¬ ((1 : Int32) = (0 : Int32)))).1)) k) ?_
    show own_G p.tables e below _ (T378.setTop (mkF m 183 #[.val (.int x0), .val (.int x1), .val (.int x2), .val (.int (0 : Int32)), .val (.int (0 : Int32)), .val v285, .val v294, .val v305, .val (.ref b318), .val (.int (1 : Int32))] []))
    refine own_go (fun _ k => XS.aload X378.here hx rfl (hb hby at_183) rfl rfl k) ?_
    show own_G p.tables e below _ (T378.setTop (mkF m 185 #[.val (.int x0), .val (.int x1), .val (.int x2), .val (.int (0 : Int32)), .val (.int (0 : Int32)), .val v285, .val v294, .val v305, .val (.ref b318), .val (.int (1 : Int32))] [(.ref b318)]))
    refine own_go (fun _ k => XS.iconst X378.here hx rfl (hb hby at_185) k) ?_
    show own_G p.tables e below _ (T378.setTop (mkF m 186 #[.val (.int x0), .val (.int x1), .val (.int x2), .val (.int (0 : Int32)), .val (.int (0 : Int32)), .val v285, .val v294, .val v305, .val (.ref b318), .val (.int (1 : Int32))] [(.int (1 : Int32)), (.ref b318)]))
    obtain ⟨T379, X379, e379, st379⟩ := own_callV X378 hx hZ (y := (⟨"com/example/plainsong/plainsong/engine/CallStack", "entry", "(I)Lcom/example/plainsong/plainsong/engine/CallStack$Activation;"⟩ : MethodName)) hown (hw _ (List.mem_of_getElem? (i := 55) rfl)) (hw _ (List.mem_of_getElem? (i := 56) rfl)) (hw _ (List.mem_of_getElem? (i := 58) rfl)) (hw _ (List.mem_of_getElem? (i := 57) rfl)) (hw _ (List.mem_of_getElem? (i := 12) rfl)) (hw _ (List.mem_of_getElem? (i := 59) rfl)) (by decide) (W := 0) (rm_ent1 l Z a0 hw [] b318 b352 k352 .null .null .null T365.heap G_367 G_369 rfl) (by decide) (by decide) rfl rfl e378 G_366 (g := (mkF m 186 #[.val (.int x0), .val (.int x1), .val (.int x2), .val (.int (0 : Int32)), .val (.int (0 : Int32)), .val v285, .val v294, .val v305, .val (.ref b318), .val (.int (1 : Int32))] [(.int (1 : Int32)), (.ref b318)])) rfl (by rw [hml]; rfl) (argsL := [(.int (1 : Int32))]) (rest := []) (lenOf own_pd4 rfl) rfl rfl (by show 2 * 0 + _ ≤ _; exact Nat.le_of_eq rfl) (hb hby at_186) (by decide) (by decide)
    refine own_go st379 ?_
    show own_G p.tables e below _ (T379.setTop (mkF m 189 #[.val (.int x0), .val (.int x1), .val (.int x2), .val (.int (0 : Int32)), .val (.int (0 : Int32)), .val v285, .val v294, .val v305, .val (.ref b318), .val (.int (1 : Int32))] [.null]))
    refine own_go (fun _ k => XS.iconst X379.here hx rfl (hb hby at_189) k) ?_
    show own_G p.tables e below _ (T379.setTop (mkF m 190 #[.val (.int x0), .val (.int x1), .val (.int x2), .val (.int (0 : Int32)), .val (.int (0 : Int32)), .val v285, .val v294, .val v305, .val (.ref b318), .val (.int (1 : Int32))] [(.int (1 : Int32)), .null]))
    refine own_go (fun _ k => XS.iload X379.here hx rfl (hb hby at_190) rfl k) ?_
    show own_G p.tables e below _ (T379.setTop (mkF m 192 #[.val (.int x0), .val (.int x1), .val (.int x2), .val (.int (0 : Int32)), .val (.int (0 : Int32)), .val v285, .val v294, .val v305, .val (.ref b318), .val (.int (1 : Int32))] [(.int (0 : Int32)), (.int (1 : Int32)), .null]))
    refine own_go (fun _ k => XS.aload X379.here hx rfl (hb hby at_192) rfl hr294 k) ?_
    show own_G p.tables e below _ (T379.setTop (mkF m 194 #[.val (.int x0), .val (.int x1), .val (.int x2), .val (.int (0 : Int32)), .val (.int (0 : Int32)), .val v285, .val v294, .val v305, .val (.ref b318), .val (.int (1 : Int32))] [v294, (.int (0 : Int32)), (.int (1 : Int32)), .null]))
    obtain ⟨T380, X380, e380, st380⟩ := own_callP X379 hx hZ (y := (⟨"com/example/plainsong/plainsong/engine/CallStackTruncatePinLaw", "expected", "(IILcom/example/plainsong/plainsong/engine/CallStack$Activation;)Lcom/example/plainsong/plainsong/engine/CallStack$Activation;"⟩ : MethodName)) hown (hw _ (List.mem_of_getElem? (i := 60) rfl)) (hw _ (List.mem_of_getElem? (i := 61) rfl)) (hw _ (List.mem_of_getElem? (i := 3) rfl)) (hw _ (List.mem_of_getElem? (i := 62) rfl)) (by decide) (W := 1) (rm_expge l Z a0 hw [] (1 : Int32) (0 : Int32) v294  T365.heap hr294 (by decide)) (by decide) (by decide) rfl rfl e379 (g := (mkF m 194 #[.val (.int x0), .val (.int x1), .val (.int x2), .val (.int (0 : Int32)), .val (.int (0 : Int32)), .val v285, .val v294, .val v305, .val (.ref b318), .val (.int (1 : Int32))] [v294, (.int (0 : Int32)), (.int (1 : Int32)), .null])) rfl (by rw [hml]; rfl) (argsL := [(.int (1 : Int32)), (.int (0 : Int32)), v294]) (rest := [.null]) (lenOf own_pd5 rfl) rfl rfl (by show 2 * 0 + _ ≤ _; exact Nat.le_of_eq rfl) (hb hby at_194) (by decide) (by decide)
    refine own_go st380 ?_
    show own_G p.tables e below _ (T380.setTop (mkF m 197 #[.val (.int x0), .val (.int x1), .val (.int x2), .val (.int (0 : Int32)), .val (.int (0 : Int32)), .val v285, .val v294, .val v305, .val (.ref b318), .val (.int (1 : Int32))] [.null, .null]))
    refine own_go (fun _ k => Jvm.RoadKit.acmp (g := (mkF m 197 #[.val (.int x0), .val (.int x1), .val (.int x2), .val (.int (0 : Int32)), .val (.int (0 : Int32)), .val v285, .val v294, .val v305, .val (.ref b318), .val (.int (1 : Int32))] [.null, .null])) X380 hx rfl rfl rfl (pc0 := 197) (pc' := 200) (same := true) rfl (hb hby at_197) rfl (decide_eq_true rfl) (by decide) (by decide) k) ?_
    show own_G p.tables e below _ (T380.setTop (mkF m 200 #[.val (.int x0), .val (.int x1), .val (.int x2), .val (.int (0 : Int32)), .val (.int (0 : Int32)), .val v285, .val v294, .val v305, .val (.ref b318), .val (.int (1 : Int32))] []))
    refine own_go (fun _ k => XS.iconst X380.here hx rfl (hb hby at_200) k) ?_
    show own_G p.tables e below _ (T380.setTop (mkF m 201 #[.val (.int x0), .val (.int x1), .val (.int x2), .val (.int (0 : Int32)), .val (.int (0 : Int32)), .val v285, .val v294, .val v305, .val (.ref b318), .val (.int (1 : Int32))] [(.int (1 : Int32))]))
    refine own_go (fun _ k => XS.goto X380.here hx rfl (pc0 := 201) (pc' := 205) rfl (hb hby at_201) (by decide) (by decide) k) ?_
    show own_G p.tables e below _ (T380.setTop (mkF m 205 #[.val (.int x0), .val (.int x1), .val (.int x2), .val (.int (0 : Int32)), .val (.int (0 : Int32)), .val v285, .val v294, .val v305, .val (.ref b318), .val (.int (1 : Int32))] [(.int (1 : Int32))]))
    refine own_go (fun _ k => XS.istore X380.here hx rfl (hb hby at_205) rfl (l' := #[.val (.int x0), .val (.int x1), .val (.int x2), .val (.int (0 : Int32)), .val (.int (0 : Int32)), .val v285, .val v294, .val v305, .val (.ref b318), .val (.int (1 : Int32))]) rfl k) ?_
    show own_G p.tables e below _ (T380.setTop (mkF m 207 #[.val (.int x0), .val (.int x1), .val (.int x2), .val (.int (0 : Int32)), .val (.int (0 : Int32)), .val v285, .val v294, .val v305, .val (.ref b318), .val (.int (1 : Int32))] []))
    refine own_go (fun _ k => XS.iload X380.here hx rfl (hb hby at_207) rfl k) ?_
    show own_G p.tables e below _ (T380.setTop (mkF m 209 #[.val (.int x0), .val (.int x1), .val (.int x2), .val (.int (0 : Int32)), .val (.int (0 : Int32)), .val v285, .val v294, .val v305, .val (.ref b318), .val (.int (1 : Int32))] [(.int (1 : Int32))]))
    refine own_go (fun _ k => XS.ifNo X380.here hx rfl (hb hby at_209) rfl (((if0 _ _).trans (feq (by decide : ¬ ((1 : Int32) = (0 : Int32)))).1)) k) ?_
    show own_G p.tables e below _ (T380.setTop (mkF m 212 #[.val (.int x0), .val (.int x1), .val (.int x2), .val (.int (0 : Int32)), .val (.int (0 : Int32)), .val v285, .val v294, .val v305, .val (.ref b318), .val (.int (1 : Int32))] []))
    refine own_go (fun _ k => XS.aload X380.here hx rfl (hb hby at_212) rfl rfl k) ?_
    show own_G p.tables e below _ (T380.setTop (mkF m 214 #[.val (.int x0), .val (.int x1), .val (.int x2), .val (.int (0 : Int32)), .val (.int (0 : Int32)), .val v285, .val v294, .val v305, .val (.ref b318), .val (.int (1 : Int32))] [(.ref b318)]))
    refine own_go (fun _ k => XS.iconst X380.here hx rfl (hb hby at_214) k) ?_
    show own_G p.tables e below _ (T380.setTop (mkF m 215 #[.val (.int x0), .val (.int x1), .val (.int x2), .val (.int (0 : Int32)), .val (.int (0 : Int32)), .val v285, .val v294, .val v305, .val (.ref b318), .val (.int (1 : Int32))] [(.int (2 : Int32)), (.ref b318)]))
    obtain ⟨T381, X381, e381, st381⟩ := own_callV X380 hx hZ (y := (⟨"com/example/plainsong/plainsong/engine/CallStack", "entry", "(I)Lcom/example/plainsong/plainsong/engine/CallStack$Activation;"⟩ : MethodName)) hown (hw _ (List.mem_of_getElem? (i := 55) rfl)) (hw _ (List.mem_of_getElem? (i := 56) rfl)) (hw _ (List.mem_of_getElem? (i := 58) rfl)) (hw _ (List.mem_of_getElem? (i := 57) rfl)) (hw _ (List.mem_of_getElem? (i := 12) rfl)) (hw _ (List.mem_of_getElem? (i := 59) rfl)) (by decide) (W := 0) (rm_ent2 l Z a0 hw [] b318 b352 k352 .null .null .null T365.heap G_367 G_369 rfl) (by decide) (by decide) rfl rfl e380 G_366 (g := (mkF m 215 #[.val (.int x0), .val (.int x1), .val (.int x2), .val (.int (0 : Int32)), .val (.int (0 : Int32)), .val v285, .val v294, .val v305, .val (.ref b318), .val (.int (1 : Int32))] [(.int (2 : Int32)), (.ref b318)])) rfl (by rw [hml]; rfl) (argsL := [(.int (2 : Int32))]) (rest := []) (lenOf own_pd4 rfl) rfl rfl (by show 2 * 0 + _ ≤ _; exact Nat.le_of_eq rfl) (hb hby at_215) (by decide) (by decide)
    refine own_go st381 ?_
    show own_G p.tables e below _ (T381.setTop (mkF m 218 #[.val (.int x0), .val (.int x1), .val (.int x2), .val (.int (0 : Int32)), .val (.int (0 : Int32)), .val v285, .val v294, .val v305, .val (.ref b318), .val (.int (1 : Int32))] [.null]))
    refine own_go (fun _ k => XS.iconst X381.here hx rfl (hb hby at_218) k) ?_
    show own_G p.tables e below _ (T381.setTop (mkF m 219 #[.val (.int x0), .val (.int x1), .val (.int x2), .val (.int (0 : Int32)), .val (.int (0 : Int32)), .val v285, .val v294, .val v305, .val (.ref b318), .val (.int (1 : Int32))] [(.int (2 : Int32)), .null]))
    refine own_go (fun _ k => XS.iload X381.here hx rfl (hb hby at_219) rfl k) ?_
    show own_G p.tables e below _ (T381.setTop (mkF m 221 #[.val (.int x0), .val (.int x1), .val (.int x2), .val (.int (0 : Int32)), .val (.int (0 : Int32)), .val v285, .val v294, .val v305, .val (.ref b318), .val (.int (1 : Int32))] [(.int (0 : Int32)), (.int (2 : Int32)), .null]))
    refine own_go (fun _ k => XS.aload X381.here hx rfl (hb hby at_221) rfl hr305 k) ?_
    show own_G p.tables e below _ (T381.setTop (mkF m 223 #[.val (.int x0), .val (.int x1), .val (.int x2), .val (.int (0 : Int32)), .val (.int (0 : Int32)), .val v285, .val v294, .val v305, .val (.ref b318), .val (.int (1 : Int32))] [v305, (.int (0 : Int32)), (.int (2 : Int32)), .null]))
    obtain ⟨T382, X382, e382, st382⟩ := own_callP X381 hx hZ (y := (⟨"com/example/plainsong/plainsong/engine/CallStackTruncatePinLaw", "expected", "(IILcom/example/plainsong/plainsong/engine/CallStack$Activation;)Lcom/example/plainsong/plainsong/engine/CallStack$Activation;"⟩ : MethodName)) hown (hw _ (List.mem_of_getElem? (i := 60) rfl)) (hw _ (List.mem_of_getElem? (i := 61) rfl)) (hw _ (List.mem_of_getElem? (i := 3) rfl)) (hw _ (List.mem_of_getElem? (i := 62) rfl)) (by decide) (W := 1) (rm_expge l Z a0 hw [] (2 : Int32) (0 : Int32) v305  T365.heap hr305 (by decide)) (by decide) (by decide) rfl rfl e381 (g := (mkF m 223 #[.val (.int x0), .val (.int x1), .val (.int x2), .val (.int (0 : Int32)), .val (.int (0 : Int32)), .val v285, .val v294, .val v305, .val (.ref b318), .val (.int (1 : Int32))] [v305, (.int (0 : Int32)), (.int (2 : Int32)), .null])) rfl (by rw [hml]; rfl) (argsL := [(.int (2 : Int32)), (.int (0 : Int32)), v305]) (rest := [.null]) (lenOf own_pd5 rfl) rfl rfl (by show 2 * 0 + _ ≤ _; exact Nat.le_of_eq rfl) (hb hby at_223) (by decide) (by decide)
    refine own_go st382 ?_
    show own_G p.tables e below _ (T382.setTop (mkF m 226 #[.val (.int x0), .val (.int x1), .val (.int x2), .val (.int (0 : Int32)), .val (.int (0 : Int32)), .val v285, .val v294, .val v305, .val (.ref b318), .val (.int (1 : Int32))] [.null, .null]))
    refine own_go (fun _ k => Jvm.RoadKit.acmp (g := (mkF m 226 #[.val (.int x0), .val (.int x1), .val (.int x2), .val (.int (0 : Int32)), .val (.int (0 : Int32)), .val v285, .val v294, .val v305, .val (.ref b318), .val (.int (1 : Int32))] [.null, .null])) X382 hx rfl rfl rfl (pc0 := 226) (pc' := 229) (same := true) rfl (hb hby at_226) rfl (decide_eq_true rfl) (by decide) (by decide) k) ?_
    show own_G p.tables e below _ (T382.setTop (mkF m 229 #[.val (.int x0), .val (.int x1), .val (.int x2), .val (.int (0 : Int32)), .val (.int (0 : Int32)), .val v285, .val v294, .val v305, .val (.ref b318), .val (.int (1 : Int32))] []))
    refine own_go (fun _ k => XS.iconst X382.here hx rfl (hb hby at_229) k) ?_
    show own_G p.tables e below _ (T382.setTop (mkF m 230 #[.val (.int x0), .val (.int x1), .val (.int x2), .val (.int (0 : Int32)), .val (.int (0 : Int32)), .val v285, .val v294, .val v305, .val (.ref b318), .val (.int (1 : Int32))] [(.int (1 : Int32))]))
    refine own_go (fun _ k => XS.goto X382.here hx rfl (pc0 := 230) (pc' := 234) rfl (hb hby at_230) (by decide) (by decide) k) ?_
    show own_G p.tables e below _ (T382.setTop (mkF m 234 #[.val (.int x0), .val (.int x1), .val (.int x2), .val (.int (0 : Int32)), .val (.int (0 : Int32)), .val v285, .val v294, .val v305, .val (.ref b318), .val (.int (1 : Int32))] [(.int (1 : Int32))]))
    refine own_go (fun _ k => XS.istore X382.here hx rfl (hb hby at_234) rfl (l' := #[.val (.int x0), .val (.int x1), .val (.int x2), .val (.int (0 : Int32)), .val (.int (0 : Int32)), .val v285, .val v294, .val v305, .val (.ref b318), .val (.int (1 : Int32))]) rfl k) ?_
    show own_G p.tables e below _ (T382.setTop (mkF m 236 #[.val (.int x0), .val (.int x1), .val (.int x2), .val (.int (0 : Int32)), .val (.int (0 : Int32)), .val v285, .val v294, .val v305, .val (.ref b318), .val (.int (1 : Int32))] []))
    refine own_go (fun _ k => XS.iload X382.here hx rfl (hb hby at_236) rfl k) ?_
    show own_G p.tables e below _ (T382.setTop (mkF m 238 #[.val (.int x0), .val (.int x1), .val (.int x2), .val (.int (0 : Int32)), .val (.int (0 : Int32)), .val v285, .val v294, .val v305, .val (.ref b318), .val (.int (1 : Int32))] [(.int (1 : Int32))]))
    exact own_end X382 Bd.notSynchronized (v := some (.int (nar .boolean (1 : Int32)))) (fun h => by rw [Bd.returns] at h; cases h) (Q := QL (some (.int (1 : Int32))) n0) ⟨rfl, N_365⟩ (fun fs hr => retN X382 hx (t := .boolean) Bd.returns (by simp) (hb hby at_238) hr) (by decide) (by decide)
  · rw [hn, hk]
    show own_G p.tables e below _ (T352.setTop (mkF m 90 #[.val (.int x0), .val (.int x1), .val (.int x2), .val (.int (1 : Int32)), .val (.int (0 : Int32)), .val v285, .val v294, .val v305, .val (.ref b318), .unset] []))
    refine own_go (fun _ k => XS.iloadN X352.here hx rfl (hb hby at_90) rfl k) ?_
    show own_G p.tables e below _ (T352.setTop (mkF m 91 #[.val (.int x0), .val (.int x1), .val (.int x2), .val (.int (1 : Int32)), .val (.int (0 : Int32)), .val v285, .val v294, .val v305, .val (.ref b318), .unset] [(.int (1 : Int32))]))
    refine own_go (fun _ k => XS.ifNo X352.here hx rfl (hb hby at_91) rfl (((if0 _ _).trans (tlt (by decide : (0 : Int32) < (1 : Int32))).2.2.2)) k) ?_
    show own_G p.tables e below _ (T352.setTop (mkF m 94 #[.val (.int x0), .val (.int x1), .val (.int x2), .val (.int (1 : Int32)), .val (.int (0 : Int32)), .val v285, .val v294, .val v305, .val (.ref b318), .unset] []))
    refine own_go (fun _ k => XS.aload X352.here hx rfl (hb hby at_94) rfl rfl k) ?_
    show own_G p.tables e below _ (T352.setTop (mkF m 96 #[.val (.int x0), .val (.int x1), .val (.int x2), .val (.int (1 : Int32)), .val (.int (0 : Int32)), .val v285, .val v294, .val v305, .val (.ref b318), .unset] [(.ref b318)]))
    refine own_go (fun _ k => XS.aload X352.here hx rfl (hb hby at_96) rfl hr285 k) ?_
    show own_G p.tables e below _ (T352.setTop (mkF m 98 #[.val (.int x0), .val (.int x1), .val (.int x2), .val (.int (1 : Int32)), .val (.int (0 : Int32)), .val v285, .val v294, .val v305, .val (.ref b318), .unset] [v285, (.ref b318)]))
    obtain ⟨cq383, kq383, q383a, q383b, q383c⟩ := isOf hZ rfl G_353
    obtain ⟨_, _, ⟨T383, L383, k383, n383⟩, -, X383, ⟨Lc383, hQ383, l383, y383, z383⟩, st383⟩ := X352.virtualBack hx (y := (⟨"com/example/plainsong/plainsong/engine/CallStack", "push", "(Lcom/example/plainsong/plainsong/engine/CallStack$Activation;)V"⟩ : MethodName)) (z := (⟨"com/example/plainsong/plainsong/engine/CallStack", "push", "(Lcom/example/plainsong/plainsong/engine/CallStack$Activation;)V"⟩ : MethodName)) hown (mvT hZ (hw _ (List.mem_of_getElem? (i := 63) rfl))) (mvT hZ (hw _ (List.mem_of_getElem? (i := 64) rfl))) (notFace_of_selects (args := #[]) (mvT hZ (hw _ (List.mem_of_getElem? (i := 66) rfl)))) (mvT hZ (hw _ (List.mem_of_getElem? (i := 66) rfl))) (mvT hZ (hw _ (List.mem_of_getElem? (i := 65) rfl))) (by decide) (backOf (W := 0) (rm_push0 l Z a0 hw [] b318 v285 b352 k352 .null .null .null T352.heap n0 Z_364 G_353 G_354 G_355 V352 ge_319 ge_358 ne_356 hr285 O352 Av_361) hZ (hw _ (List.mem_of_getElem? (i := 67) rfl)) (hw _ (List.mem_of_getElem? (i := 12) rfl)) (by decide) (by decide)) q383a q383c (g := (mkF m 98 #[.val (.int x0), .val (.int x1), .val (.int x2), .val (.int (1 : Int32)), .val (.int (0 : Int32)), .val v285, .val v294, .val v305, .val (.ref b318), .unset] [v285, (.ref b318)])) rfl (by rw [hml]; rfl) (Steps.refl _) (argsL := [v285]) (rest := []) (lenOf own_pd6 rfl) rfl (by show 2 * 0 + _ ≤ _; exact Nat.le_of_eq rfl) (hb hby at_98) (fun _ _ => ⟨rfl, rfl, (by decide : 7 + 0 ≤ _), (by decide : 30 + 0 ≤ _)⟩)
    dsimp only [Pt.U, Pt.locs, Pt.cells, Pt.slots] at X383 l383 y383 z383 st383 hQ383
    subst l383 y383 z383
    obtain ⟨rfl, Nq383, K383, G_384, G_385, G_386, G_387⟩ := hQ383
    have X_388 := G_353.keep K383
    have X_389 := X_360.keep K383
    have Av_390 := own_avK Av_361 K383
    have Av_391 := own_avK Av_362 K383
    have Av_392 := own_avK Av_363 K383
    have Z_393 : n0 ≤ T383.heap.size := Nat.le_trans Z_364 K383.1
    have N_383 := Fr.app N_352 Nq383
    refine own_go (fun _ k => st383.trans k) ?_
    show own_G p.tables e below _ (T383.setTop (mkF m 101 #[.val (.int x0), .val (.int x1), .val (.int x2), .val (.int (1 : Int32)), .val (.int (0 : Int32)), .val v285, .val v294, .val v305, .val (.ref b318), .unset] []))
    refine own_go (fun _ k => XS.iloadN X383.here hx rfl (hb hby at_101) rfl k) ?_
    show own_G p.tables e below _ (T383.setTop (mkF m 102 #[.val (.int x0), .val (.int x1), .val (.int x2), .val (.int (1 : Int32)), .val (.int (0 : Int32)), .val v285, .val v294, .val v305, .val (.ref b318), .unset] [(.int (1 : Int32))]))
    refine own_go (fun _ k => XS.iconst X383.here hx rfl (hb hby at_102) k) ?_
    show own_G p.tables e below _ (T383.setTop (mkF m 103 #[.val (.int x0), .val (.int x1), .val (.int x2), .val (.int (1 : Int32)), .val (.int (0 : Int32)), .val v285, .val v294, .val v305, .val (.ref b318), .unset] [(.int (1 : Int32)), (.int (1 : Int32))]))
    refine own_go (fun _ k => XS.icmpYes X383.here hx rfl (pc0 := 103) (pc' := 113) rfl (hb hby at_103) rfl ((flt (by decide : ¬ ((1 : Int32) < (1 : Int32)))).2.2.2) (by decide) (by decide) k) ?_
    show own_G p.tables e below _ (T383.setTop (mkF m 113 #[.val (.int x0), .val (.int x1), .val (.int x2), .val (.int (1 : Int32)), .val (.int (0 : Int32)), .val v285, .val v294, .val v305, .val (.ref b318), .unset] []))
    refine own_go (fun _ k => XS.iloadN X383.here hx rfl (hb hby at_113) rfl k) ?_
    show own_G p.tables e below _ (T383.setTop (mkF m 114 #[.val (.int x0), .val (.int x1), .val (.int x2), .val (.int (1 : Int32)), .val (.int (0 : Int32)), .val v285, .val v294, .val v305, .val (.ref b318), .unset] [(.int (1 : Int32))]))
    refine own_go (fun _ k => XS.iconst X383.here hx rfl (hb hby at_114) k) ?_
    show own_G p.tables e below _ (T383.setTop (mkF m 115 #[.val (.int x0), .val (.int x1), .val (.int x2), .val (.int (1 : Int32)), .val (.int (0 : Int32)), .val v285, .val v294, .val v305, .val (.ref b318), .unset] [(.int (2 : Int32)), (.int (1 : Int32))]))
    refine own_go (fun _ k => XS.icmpYes X383.here hx rfl (pc0 := 115) (pc' := 125) rfl (hb hby at_115) rfl ((flt (by decide : ¬ ((2 : Int32) < (1 : Int32)))).2.2.2) (by decide) (by decide) k) ?_
    show own_G p.tables e below _ (T383.setTop (mkF m 125 #[.val (.int x0), .val (.int x1), .val (.int x2), .val (.int (1 : Int32)), .val (.int (0 : Int32)), .val v285, .val v294, .val v305, .val (.ref b318), .unset] []))
    refine own_go (fun _ k => XS.aload X383.here hx rfl (hb hby at_125) rfl rfl k) ?_
    show own_G p.tables e below _ (T383.setTop (mkF m 127 #[.val (.int x0), .val (.int x1), .val (.int x2), .val (.int (1 : Int32)), .val (.int (0 : Int32)), .val v285, .val v294, .val v305, .val (.ref b318), .unset] [(.ref b318)]))
    refine own_go (fun _ k => XS.iload X383.here hx rfl (hb hby at_127) rfl k) ?_
    show own_G p.tables e below _ (T383.setTop (mkF m 129 #[.val (.int x0), .val (.int x1), .val (.int x2), .val (.int (1 : Int32)), .val (.int (0 : Int32)), .val v285, .val v294, .val v305, .val (.ref b318), .unset] [(.int (0 : Int32)), (.ref b318)]))
    obtain ⟨cq394, kq394, q394a, q394b, q394c⟩ := isOf hZ rfl G_384
    obtain ⟨_, _, ⟨T394, L394, k394, n394⟩, -, X394, ⟨Lc394, hQ394, l394, y394, z394⟩, st394⟩ := X383.virtualBack hx (y := (⟨"com/example/plainsong/plainsong/engine/CallStack", "truncate", "(I)V"⟩ : MethodName)) (z := (⟨"com/example/plainsong/plainsong/engine/CallStack", "truncate", "(I)V"⟩ : MethodName)) hown (mvT hZ (hw _ (List.mem_of_getElem? (i := 43) rfl))) (mvT hZ (hw _ (List.mem_of_getElem? (i := 44) rfl))) (notFace_of_selects (args := #[]) (mvT hZ (hw _ (List.mem_of_getElem? (i := 46) rfl)))) (mvT hZ (hw _ (List.mem_of_getElem? (i := 46) rfl))) (mvT hZ (hw _ (List.mem_of_getElem? (i := 45) rfl))) (by decide) (backOf (W := 0) (rm_tr10 l Z a0 hw [] b318 b352 k352 v285 .null .null T383.heap n0 Z_393 G_384 G_385 G_386 G_387 ge_319 ge_358 ne_356) hZ (hw _ (List.mem_of_getElem? (i := 47) rfl)) (hw _ (List.mem_of_getElem? (i := 12) rfl)) (by decide) (by decide)) q394a q394c (g := (mkF m 129 #[.val (.int x0), .val (.int x1), .val (.int x2), .val (.int (1 : Int32)), .val (.int (0 : Int32)), .val v285, .val v294, .val v305, .val (.ref b318), .unset] [(.int (0 : Int32)), (.ref b318)])) rfl (by rw [hml]; rfl) (Steps.refl _) (argsL := [(.int (0 : Int32))]) (rest := []) (lenOf own_pd2 rfl) rfl (by show 2 * 0 + _ ≤ _; exact Nat.le_of_eq rfl) (hb hby at_129) (fun _ _ => ⟨rfl, rfl, (by decide : 7 + 0 ≤ _), (by decide : 30 + 0 ≤ _)⟩)
    dsimp only [Pt.U, Pt.locs, Pt.cells, Pt.slots] at X394 l394 y394 z394 st394 hQ394
    subst l394 y394 z394
    obtain ⟨rfl, Nq394, K394, G_395, G_396, G_397, G_398⟩ := hQ394
    have X_399 := G_384.keep K394
    have X_400 := X_389.keep K394
    have Av_401 := own_avK Av_390 K394
    have Av_402 := own_avK Av_391 K394
    have Av_403 := own_avK Av_392 K394
    have Z_404 : n0 ≤ T394.heap.size := Nat.le_trans Z_393 K394.1
    have N_394 := Fr.app N_383 Nq394
    refine own_go (fun _ k => st394.trans k) ?_
    show own_G p.tables e below _ (T394.setTop (mkF m 132 #[.val (.int x0), .val (.int x1), .val (.int x2), .val (.int (1 : Int32)), .val (.int (0 : Int32)), .val v285, .val v294, .val v305, .val (.ref b318), .unset] []))
    refine own_go (fun _ k => XS.aload X394.here hx rfl (hb hby at_132) rfl rfl k) ?_
    show own_G p.tables e below _ (T394.setTop (mkF m 134 #[.val (.int x0), .val (.int x1), .val (.int x2), .val (.int (1 : Int32)), .val (.int (0 : Int32)), .val v285, .val v294, .val v305, .val (.ref b318), .unset] [(.ref b318)]))
    obtain ⟨T405, X405, e405, st405⟩ := own_callV X394 hx hZ (y := (⟨"com/example/plainsong/plainsong/engine/CallStack", "depth", "()I"⟩ : MethodName)) hown (hw _ (List.mem_of_getElem? (i := 50) rfl)) (hw _ (List.mem_of_getElem? (i := 51) rfl)) (hw _ (List.mem_of_getElem? (i := 53) rfl)) (hw _ (List.mem_of_getElem? (i := 52) rfl)) (hw _ (List.mem_of_getElem? (i := 12) rfl)) (hw _ (List.mem_of_getElem? (i := 54) rfl)) (by decide) (W := 0) (rm7 l Z a0 hw [] b318 (0 : Int32) T394.heap G_397) (by decide) (by decide) rfl rfl rfl G_395 (g := (mkF m 134 #[.val (.int x0), .val (.int x1), .val (.int x2), .val (.int (1 : Int32)), .val (.int (0 : Int32)), .val v285, .val v294, .val v305, .val (.ref b318), .unset] [(.ref b318)])) rfl (by rw [hml]; rfl) (argsL := []) (rest := []) (lenOf own_pd3 rfl) rfl rfl (by show 2 * 0 + _ ≤ _; exact Nat.le_of_eq rfl) (hb hby at_134) (by decide) (by decide)
    refine own_go st405 ?_
    show own_G p.tables e below _ (T405.setTop (mkF m 137 #[.val (.int x0), .val (.int x1), .val (.int x2), .val (.int (1 : Int32)), .val (.int (0 : Int32)), .val v285, .val v294, .val v305, .val (.ref b318), .unset] [(.int (0 : Int32))]))
    refine own_go (fun _ k => XS.iload X405.here hx rfl (hb hby at_137) rfl k) ?_
    show own_G p.tables e below _ (T405.setTop (mkF m 139 #[.val (.int x0), .val (.int x1), .val (.int x2), .val (.int (1 : Int32)), .val (.int (0 : Int32)), .val v285, .val v294, .val v305, .val (.ref b318), .unset] [(.int (0 : Int32)), (.int (0 : Int32))]))
    refine own_go (fun _ k => XS.icmpNo X405.here hx rfl (hb hby at_139) rfl ((teq (by decide : (0 : Int32) = (0 : Int32))).2) k) ?_
    show own_G p.tables e below _ (T405.setTop (mkF m 142 #[.val (.int x0), .val (.int x1), .val (.int x2), .val (.int (1 : Int32)), .val (.int (0 : Int32)), .val v285, .val v294, .val v305, .val (.ref b318), .unset] []))
    refine own_go (fun _ k => XS.iconst X405.here hx rfl (hb hby at_142) k) ?_
    show own_G p.tables e below _ (T405.setTop (mkF m 143 #[.val (.int x0), .val (.int x1), .val (.int x2), .val (.int (1 : Int32)), .val (.int (0 : Int32)), .val v285, .val v294, .val v305, .val (.ref b318), .unset] [(.int (1 : Int32))]))
    refine own_go (fun _ k => XS.goto X405.here hx rfl (pc0 := 143) (pc' := 147) rfl (hb hby at_143) (by decide) (by decide) k) ?_
    show own_G p.tables e below _ (T405.setTop (mkF m 147 #[.val (.int x0), .val (.int x1), .val (.int x2), .val (.int (1 : Int32)), .val (.int (0 : Int32)), .val v285, .val v294, .val v305, .val (.ref b318), .unset] [(.int (1 : Int32))]))
    refine own_go (fun _ k => XS.istore X405.here hx rfl (hb hby at_147) rfl (l' := #[.val (.int x0), .val (.int x1), .val (.int x2), .val (.int (1 : Int32)), .val (.int (0 : Int32)), .val v285, .val v294, .val v305, .val (.ref b318), .val (.int (1 : Int32))]) rfl k) ?_
    show own_G p.tables e below _ (T405.setTop (mkF m 149 #[.val (.int x0), .val (.int x1), .val (.int x2), .val (.int (1 : Int32)), .val (.int (0 : Int32)), .val v285, .val v294, .val v305, .val (.ref b318), .val (.int (1 : Int32))] []))
    refine own_go (fun _ k => XS.iload X405.here hx rfl (hb hby at_149) rfl k) ?_
    show own_G p.tables e below _ (T405.setTop (mkF m 151 #[.val (.int x0), .val (.int x1), .val (.int x2), .val (.int (1 : Int32)), .val (.int (0 : Int32)), .val v285, .val v294, .val v305, .val (.ref b318), .val (.int (1 : Int32))] [(.int (1 : Int32))]))
    refine own_go (fun _ k => XS.ifNo X405.here hx rfl (hb hby at_151) rfl (((if0 _ _).trans (feq (by decide : ¬ ((1 : Int32) = (0 : Int32)))).1)) k) ?_
    show own_G p.tables e below _ (T405.setTop (mkF m 154 #[.val (.int x0), .val (.int x1), .val (.int x2), .val (.int (1 : Int32)), .val (.int (0 : Int32)), .val v285, .val v294, .val v305, .val (.ref b318), .val (.int (1 : Int32))] []))
    refine own_go (fun _ k => XS.aload X405.here hx rfl (hb hby at_154) rfl rfl k) ?_
    show own_G p.tables e below _ (T405.setTop (mkF m 156 #[.val (.int x0), .val (.int x1), .val (.int x2), .val (.int (1 : Int32)), .val (.int (0 : Int32)), .val v285, .val v294, .val v305, .val (.ref b318), .val (.int (1 : Int32))] [(.ref b318)]))
    refine own_go (fun _ k => XS.iconst X405.here hx rfl (hb hby at_156) k) ?_
    show own_G p.tables e below _ (T405.setTop (mkF m 157 #[.val (.int x0), .val (.int x1), .val (.int x2), .val (.int (1 : Int32)), .val (.int (0 : Int32)), .val v285, .val v294, .val v305, .val (.ref b318), .val (.int (1 : Int32))] [(.int (0 : Int32)), (.ref b318)]))
    obtain ⟨T406, X406, e406, st406⟩ := own_callV X405 hx hZ (y := (⟨"com/example/plainsong/plainsong/engine/CallStack", "entry", "(I)Lcom/example/plainsong/plainsong/engine/CallStack$Activation;"⟩ : MethodName)) hown (hw _ (List.mem_of_getElem? (i := 55) rfl)) (hw _ (List.mem_of_getElem? (i := 56) rfl)) (hw _ (List.mem_of_getElem? (i := 58) rfl)) (hw _ (List.mem_of_getElem? (i := 57) rfl)) (hw _ (List.mem_of_getElem? (i := 12) rfl)) (hw _ (List.mem_of_getElem? (i := 59) rfl)) (by decide) (W := 0) (rm_ent0 l Z a0 hw [] b318 b352 k352 .null .null .null T394.heap G_396 G_398 rfl) (by decide) (by decide) rfl rfl e405 G_395 (g := (mkF m 157 #[.val (.int x0), .val (.int x1), .val (.int x2), .val (.int (1 : Int32)), .val (.int (0 : Int32)), .val v285, .val v294, .val v305, .val (.ref b318), .val (.int (1 : Int32))] [(.int (0 : Int32)), (.ref b318)])) rfl (by rw [hml]; rfl) (argsL := [(.int (0 : Int32))]) (rest := []) (lenOf own_pd4 rfl) rfl rfl (by show 2 * 0 + _ ≤ _; exact Nat.le_of_eq rfl) (hb hby at_157) (by decide) (by decide)
    refine own_go st406 ?_
    show own_G p.tables e below _ (T406.setTop (mkF m 160 #[.val (.int x0), .val (.int x1), .val (.int x2), .val (.int (1 : Int32)), .val (.int (0 : Int32)), .val v285, .val v294, .val v305, .val (.ref b318), .val (.int (1 : Int32))] [.null]))
    refine own_go (fun _ k => XS.iconst X406.here hx rfl (hb hby at_160) k) ?_
    show own_G p.tables e below _ (T406.setTop (mkF m 161 #[.val (.int x0), .val (.int x1), .val (.int x2), .val (.int (1 : Int32)), .val (.int (0 : Int32)), .val v285, .val v294, .val v305, .val (.ref b318), .val (.int (1 : Int32))] [(.int (0 : Int32)), .null]))
    refine own_go (fun _ k => XS.iload X406.here hx rfl (hb hby at_161) rfl k) ?_
    show own_G p.tables e below _ (T406.setTop (mkF m 163 #[.val (.int x0), .val (.int x1), .val (.int x2), .val (.int (1 : Int32)), .val (.int (0 : Int32)), .val v285, .val v294, .val v305, .val (.ref b318), .val (.int (1 : Int32))] [(.int (0 : Int32)), (.int (0 : Int32)), .null]))
    refine own_go (fun _ k => XS.aload X406.here hx rfl (hb hby at_163) rfl hr285 k) ?_
    show own_G p.tables e below _ (T406.setTop (mkF m 165 #[.val (.int x0), .val (.int x1), .val (.int x2), .val (.int (1 : Int32)), .val (.int (0 : Int32)), .val v285, .val v294, .val v305, .val (.ref b318), .val (.int (1 : Int32))] [v285, (.int (0 : Int32)), (.int (0 : Int32)), .null]))
    obtain ⟨T407, X407, e407, st407⟩ := own_callP X406 hx hZ (y := (⟨"com/example/plainsong/plainsong/engine/CallStackTruncatePinLaw", "expected", "(IILcom/example/plainsong/plainsong/engine/CallStack$Activation;)Lcom/example/plainsong/plainsong/engine/CallStack$Activation;"⟩ : MethodName)) hown (hw _ (List.mem_of_getElem? (i := 60) rfl)) (hw _ (List.mem_of_getElem? (i := 61) rfl)) (hw _ (List.mem_of_getElem? (i := 3) rfl)) (hw _ (List.mem_of_getElem? (i := 62) rfl)) (by decide) (W := 1) (rm_expge l Z a0 hw [] (0 : Int32) (0 : Int32) v285  T394.heap hr285 (by decide)) (by decide) (by decide) rfl rfl e406 (g := (mkF m 165 #[.val (.int x0), .val (.int x1), .val (.int x2), .val (.int (1 : Int32)), .val (.int (0 : Int32)), .val v285, .val v294, .val v305, .val (.ref b318), .val (.int (1 : Int32))] [v285, (.int (0 : Int32)), (.int (0 : Int32)), .null])) rfl (by rw [hml]; rfl) (argsL := [(.int (0 : Int32)), (.int (0 : Int32)), v285]) (rest := [.null]) (lenOf own_pd5 rfl) rfl rfl (by show 2 * 0 + _ ≤ _; exact Nat.le_of_eq rfl) (hb hby at_165) (by decide) (by decide)
    refine own_go st407 ?_
    show own_G p.tables e below _ (T407.setTop (mkF m 168 #[.val (.int x0), .val (.int x1), .val (.int x2), .val (.int (1 : Int32)), .val (.int (0 : Int32)), .val v285, .val v294, .val v305, .val (.ref b318), .val (.int (1 : Int32))] [.null, .null]))
    refine own_go (fun _ k => Jvm.RoadKit.acmp (g := (mkF m 168 #[.val (.int x0), .val (.int x1), .val (.int x2), .val (.int (1 : Int32)), .val (.int (0 : Int32)), .val v285, .val v294, .val v305, .val (.ref b318), .val (.int (1 : Int32))] [.null, .null])) X407 hx rfl rfl rfl (pc0 := 168) (pc' := 171) (same := true) rfl (hb hby at_168) rfl (decide_eq_true rfl) (by decide) (by decide) k) ?_
    show own_G p.tables e below _ (T407.setTop (mkF m 171 #[.val (.int x0), .val (.int x1), .val (.int x2), .val (.int (1 : Int32)), .val (.int (0 : Int32)), .val v285, .val v294, .val v305, .val (.ref b318), .val (.int (1 : Int32))] []))
    refine own_go (fun _ k => XS.iconst X407.here hx rfl (hb hby at_171) k) ?_
    show own_G p.tables e below _ (T407.setTop (mkF m 172 #[.val (.int x0), .val (.int x1), .val (.int x2), .val (.int (1 : Int32)), .val (.int (0 : Int32)), .val v285, .val v294, .val v305, .val (.ref b318), .val (.int (1 : Int32))] [(.int (1 : Int32))]))
    refine own_go (fun _ k => XS.goto X407.here hx rfl (pc0 := 172) (pc' := 176) rfl (hb hby at_172) (by decide) (by decide) k) ?_
    show own_G p.tables e below _ (T407.setTop (mkF m 176 #[.val (.int x0), .val (.int x1), .val (.int x2), .val (.int (1 : Int32)), .val (.int (0 : Int32)), .val v285, .val v294, .val v305, .val (.ref b318), .val (.int (1 : Int32))] [(.int (1 : Int32))]))
    refine own_go (fun _ k => XS.istore X407.here hx rfl (hb hby at_176) rfl (l' := #[.val (.int x0), .val (.int x1), .val (.int x2), .val (.int (1 : Int32)), .val (.int (0 : Int32)), .val v285, .val v294, .val v305, .val (.ref b318), .val (.int (1 : Int32))]) rfl k) ?_
    show own_G p.tables e below _ (T407.setTop (mkF m 178 #[.val (.int x0), .val (.int x1), .val (.int x2), .val (.int (1 : Int32)), .val (.int (0 : Int32)), .val v285, .val v294, .val v305, .val (.ref b318), .val (.int (1 : Int32))] []))
    refine own_go (fun _ k => XS.iload X407.here hx rfl (hb hby at_178) rfl k) ?_
    show own_G p.tables e below _ (T407.setTop (mkF m 180 #[.val (.int x0), .val (.int x1), .val (.int x2), .val (.int (1 : Int32)), .val (.int (0 : Int32)), .val v285, .val v294, .val v305, .val (.ref b318), .val (.int (1 : Int32))] [(.int (1 : Int32))]))
    refine own_go (fun _ k => XS.ifNo X407.here hx rfl (hb hby at_180) rfl (((if0 _ _).trans (feq (by decide : ¬ ((1 : Int32) = (0 : Int32)))).1)) k) ?_
    show own_G p.tables e below _ (T407.setTop (mkF m 183 #[.val (.int x0), .val (.int x1), .val (.int x2), .val (.int (1 : Int32)), .val (.int (0 : Int32)), .val v285, .val v294, .val v305, .val (.ref b318), .val (.int (1 : Int32))] []))
    refine own_go (fun _ k => XS.aload X407.here hx rfl (hb hby at_183) rfl rfl k) ?_
    show own_G p.tables e below _ (T407.setTop (mkF m 185 #[.val (.int x0), .val (.int x1), .val (.int x2), .val (.int (1 : Int32)), .val (.int (0 : Int32)), .val v285, .val v294, .val v305, .val (.ref b318), .val (.int (1 : Int32))] [(.ref b318)]))
    refine own_go (fun _ k => XS.iconst X407.here hx rfl (hb hby at_185) k) ?_
    show own_G p.tables e below _ (T407.setTop (mkF m 186 #[.val (.int x0), .val (.int x1), .val (.int x2), .val (.int (1 : Int32)), .val (.int (0 : Int32)), .val v285, .val v294, .val v305, .val (.ref b318), .val (.int (1 : Int32))] [(.int (1 : Int32)), (.ref b318)]))
    obtain ⟨T408, X408, e408, st408⟩ := own_callV X407 hx hZ (y := (⟨"com/example/plainsong/plainsong/engine/CallStack", "entry", "(I)Lcom/example/plainsong/plainsong/engine/CallStack$Activation;"⟩ : MethodName)) hown (hw _ (List.mem_of_getElem? (i := 55) rfl)) (hw _ (List.mem_of_getElem? (i := 56) rfl)) (hw _ (List.mem_of_getElem? (i := 58) rfl)) (hw _ (List.mem_of_getElem? (i := 57) rfl)) (hw _ (List.mem_of_getElem? (i := 12) rfl)) (hw _ (List.mem_of_getElem? (i := 59) rfl)) (by decide) (W := 0) (rm_ent1 l Z a0 hw [] b318 b352 k352 .null .null .null T394.heap G_396 G_398 rfl) (by decide) (by decide) rfl rfl e407 G_395 (g := (mkF m 186 #[.val (.int x0), .val (.int x1), .val (.int x2), .val (.int (1 : Int32)), .val (.int (0 : Int32)), .val v285, .val v294, .val v305, .val (.ref b318), .val (.int (1 : Int32))] [(.int (1 : Int32)), (.ref b318)])) rfl (by rw [hml]; rfl) (argsL := [(.int (1 : Int32))]) (rest := []) (lenOf own_pd4 rfl) rfl rfl (by show 2 * 0 + _ ≤ _; exact Nat.le_of_eq rfl) (hb hby at_186) (by decide) (by decide)
    refine own_go st408 ?_
    show own_G p.tables e below _ (T408.setTop (mkF m 189 #[.val (.int x0), .val (.int x1), .val (.int x2), .val (.int (1 : Int32)), .val (.int (0 : Int32)), .val v285, .val v294, .val v305, .val (.ref b318), .val (.int (1 : Int32))] [.null]))
    refine own_go (fun _ k => XS.iconst X408.here hx rfl (hb hby at_189) k) ?_
    show own_G p.tables e below _ (T408.setTop (mkF m 190 #[.val (.int x0), .val (.int x1), .val (.int x2), .val (.int (1 : Int32)), .val (.int (0 : Int32)), .val v285, .val v294, .val v305, .val (.ref b318), .val (.int (1 : Int32))] [(.int (1 : Int32)), .null]))
    refine own_go (fun _ k => XS.iload X408.here hx rfl (hb hby at_190) rfl k) ?_
    show own_G p.tables e below _ (T408.setTop (mkF m 192 #[.val (.int x0), .val (.int x1), .val (.int x2), .val (.int (1 : Int32)), .val (.int (0 : Int32)), .val v285, .val v294, .val v305, .val (.ref b318), .val (.int (1 : Int32))] [(.int (0 : Int32)), (.int (1 : Int32)), .null]))
    refine own_go (fun _ k => XS.aload X408.here hx rfl (hb hby at_192) rfl hr294 k) ?_
    show own_G p.tables e below _ (T408.setTop (mkF m 194 #[.val (.int x0), .val (.int x1), .val (.int x2), .val (.int (1 : Int32)), .val (.int (0 : Int32)), .val v285, .val v294, .val v305, .val (.ref b318), .val (.int (1 : Int32))] [v294, (.int (0 : Int32)), (.int (1 : Int32)), .null]))
    obtain ⟨T409, X409, e409, st409⟩ := own_callP X408 hx hZ (y := (⟨"com/example/plainsong/plainsong/engine/CallStackTruncatePinLaw", "expected", "(IILcom/example/plainsong/plainsong/engine/CallStack$Activation;)Lcom/example/plainsong/plainsong/engine/CallStack$Activation;"⟩ : MethodName)) hown (hw _ (List.mem_of_getElem? (i := 60) rfl)) (hw _ (List.mem_of_getElem? (i := 61) rfl)) (hw _ (List.mem_of_getElem? (i := 3) rfl)) (hw _ (List.mem_of_getElem? (i := 62) rfl)) (by decide) (W := 1) (rm_expge l Z a0 hw [] (1 : Int32) (0 : Int32) v294  T394.heap hr294 (by decide)) (by decide) (by decide) rfl rfl e408 (g := (mkF m 194 #[.val (.int x0), .val (.int x1), .val (.int x2), .val (.int (1 : Int32)), .val (.int (0 : Int32)), .val v285, .val v294, .val v305, .val (.ref b318), .val (.int (1 : Int32))] [v294, (.int (0 : Int32)), (.int (1 : Int32)), .null])) rfl (by rw [hml]; rfl) (argsL := [(.int (1 : Int32)), (.int (0 : Int32)), v294]) (rest := [.null]) (lenOf own_pd5 rfl) rfl rfl (by show 2 * 0 + _ ≤ _; exact Nat.le_of_eq rfl) (hb hby at_194) (by decide) (by decide)
    refine own_go st409 ?_
    show own_G p.tables e below _ (T409.setTop (mkF m 197 #[.val (.int x0), .val (.int x1), .val (.int x2), .val (.int (1 : Int32)), .val (.int (0 : Int32)), .val v285, .val v294, .val v305, .val (.ref b318), .val (.int (1 : Int32))] [.null, .null]))
    refine own_go (fun _ k => Jvm.RoadKit.acmp (g := (mkF m 197 #[.val (.int x0), .val (.int x1), .val (.int x2), .val (.int (1 : Int32)), .val (.int (0 : Int32)), .val v285, .val v294, .val v305, .val (.ref b318), .val (.int (1 : Int32))] [.null, .null])) X409 hx rfl rfl rfl (pc0 := 197) (pc' := 200) (same := true) rfl (hb hby at_197) rfl (decide_eq_true rfl) (by decide) (by decide) k) ?_
    show own_G p.tables e below _ (T409.setTop (mkF m 200 #[.val (.int x0), .val (.int x1), .val (.int x2), .val (.int (1 : Int32)), .val (.int (0 : Int32)), .val v285, .val v294, .val v305, .val (.ref b318), .val (.int (1 : Int32))] []))
    refine own_go (fun _ k => XS.iconst X409.here hx rfl (hb hby at_200) k) ?_
    show own_G p.tables e below _ (T409.setTop (mkF m 201 #[.val (.int x0), .val (.int x1), .val (.int x2), .val (.int (1 : Int32)), .val (.int (0 : Int32)), .val v285, .val v294, .val v305, .val (.ref b318), .val (.int (1 : Int32))] [(.int (1 : Int32))]))
    refine own_go (fun _ k => XS.goto X409.here hx rfl (pc0 := 201) (pc' := 205) rfl (hb hby at_201) (by decide) (by decide) k) ?_
    show own_G p.tables e below _ (T409.setTop (mkF m 205 #[.val (.int x0), .val (.int x1), .val (.int x2), .val (.int (1 : Int32)), .val (.int (0 : Int32)), .val v285, .val v294, .val v305, .val (.ref b318), .val (.int (1 : Int32))] [(.int (1 : Int32))]))
    refine own_go (fun _ k => XS.istore X409.here hx rfl (hb hby at_205) rfl (l' := #[.val (.int x0), .val (.int x1), .val (.int x2), .val (.int (1 : Int32)), .val (.int (0 : Int32)), .val v285, .val v294, .val v305, .val (.ref b318), .val (.int (1 : Int32))]) rfl k) ?_
    show own_G p.tables e below _ (T409.setTop (mkF m 207 #[.val (.int x0), .val (.int x1), .val (.int x2), .val (.int (1 : Int32)), .val (.int (0 : Int32)), .val v285, .val v294, .val v305, .val (.ref b318), .val (.int (1 : Int32))] []))
    refine own_go (fun _ k => XS.iload X409.here hx rfl (hb hby at_207) rfl k) ?_
    show own_G p.tables e below _ (T409.setTop (mkF m 209 #[.val (.int x0), .val (.int x1), .val (.int x2), .val (.int (1 : Int32)), .val (.int (0 : Int32)), .val v285, .val v294, .val v305, .val (.ref b318), .val (.int (1 : Int32))] [(.int (1 : Int32))]))
    refine own_go (fun _ k => XS.ifNo X409.here hx rfl (hb hby at_209) rfl (((if0 _ _).trans (feq (by decide : ¬ ((1 : Int32) = (0 : Int32)))).1)) k) ?_
    show own_G p.tables e below _ (T409.setTop (mkF m 212 #[.val (.int x0), .val (.int x1), .val (.int x2), .val (.int (1 : Int32)), .val (.int (0 : Int32)), .val v285, .val v294, .val v305, .val (.ref b318), .val (.int (1 : Int32))] []))
    refine own_go (fun _ k => XS.aload X409.here hx rfl (hb hby at_212) rfl rfl k) ?_
    show own_G p.tables e below _ (T409.setTop (mkF m 214 #[.val (.int x0), .val (.int x1), .val (.int x2), .val (.int (1 : Int32)), .val (.int (0 : Int32)), .val v285, .val v294, .val v305, .val (.ref b318), .val (.int (1 : Int32))] [(.ref b318)]))
    refine own_go (fun _ k => XS.iconst X409.here hx rfl (hb hby at_214) k) ?_
    show own_G p.tables e below _ (T409.setTop (mkF m 215 #[.val (.int x0), .val (.int x1), .val (.int x2), .val (.int (1 : Int32)), .val (.int (0 : Int32)), .val v285, .val v294, .val v305, .val (.ref b318), .val (.int (1 : Int32))] [(.int (2 : Int32)), (.ref b318)]))
    obtain ⟨T410, X410, e410, st410⟩ := own_callV X409 hx hZ (y := (⟨"com/example/plainsong/plainsong/engine/CallStack", "entry", "(I)Lcom/example/plainsong/plainsong/engine/CallStack$Activation;"⟩ : MethodName)) hown (hw _ (List.mem_of_getElem? (i := 55) rfl)) (hw _ (List.mem_of_getElem? (i := 56) rfl)) (hw _ (List.mem_of_getElem? (i := 58) rfl)) (hw _ (List.mem_of_getElem? (i := 57) rfl)) (hw _ (List.mem_of_getElem? (i := 12) rfl)) (hw _ (List.mem_of_getElem? (i := 59) rfl)) (by decide) (W := 0) (rm_ent2 l Z a0 hw [] b318 b352 k352 .null .null .null T394.heap G_396 G_398 rfl) (by decide) (by decide) rfl rfl e409 G_395 (g := (mkF m 215 #[.val (.int x0), .val (.int x1), .val (.int x2), .val (.int (1 : Int32)), .val (.int (0 : Int32)), .val v285, .val v294, .val v305, .val (.ref b318), .val (.int (1 : Int32))] [(.int (2 : Int32)), (.ref b318)])) rfl (by rw [hml]; rfl) (argsL := [(.int (2 : Int32))]) (rest := []) (lenOf own_pd4 rfl) rfl rfl (by show 2 * 0 + _ ≤ _; exact Nat.le_of_eq rfl) (hb hby at_215) (by decide) (by decide)
    refine own_go st410 ?_
    show own_G p.tables e below _ (T410.setTop (mkF m 218 #[.val (.int x0), .val (.int x1), .val (.int x2), .val (.int (1 : Int32)), .val (.int (0 : Int32)), .val v285, .val v294, .val v305, .val (.ref b318), .val (.int (1 : Int32))] [.null]))
    refine own_go (fun _ k => XS.iconst X410.here hx rfl (hb hby at_218) k) ?_
    show own_G p.tables e below _ (T410.setTop (mkF m 219 #[.val (.int x0), .val (.int x1), .val (.int x2), .val (.int (1 : Int32)), .val (.int (0 : Int32)), .val v285, .val v294, .val v305, .val (.ref b318), .val (.int (1 : Int32))] [(.int (2 : Int32)), .null]))
    refine own_go (fun _ k => XS.iload X410.here hx rfl (hb hby at_219) rfl k) ?_
    show own_G p.tables e below _ (T410.setTop (mkF m 221 #[.val (.int x0), .val (.int x1), .val (.int x2), .val (.int (1 : Int32)), .val (.int (0 : Int32)), .val v285, .val v294, .val v305, .val (.ref b318), .val (.int (1 : Int32))] [(.int (0 : Int32)), (.int (2 : Int32)), .null]))
    refine own_go (fun _ k => XS.aload X410.here hx rfl (hb hby at_221) rfl hr305 k) ?_
    show own_G p.tables e below _ (T410.setTop (mkF m 223 #[.val (.int x0), .val (.int x1), .val (.int x2), .val (.int (1 : Int32)), .val (.int (0 : Int32)), .val v285, .val v294, .val v305, .val (.ref b318), .val (.int (1 : Int32))] [v305, (.int (0 : Int32)), (.int (2 : Int32)), .null]))
    obtain ⟨T411, X411, e411, st411⟩ := own_callP X410 hx hZ (y := (⟨"com/example/plainsong/plainsong/engine/CallStackTruncatePinLaw", "expected", "(IILcom/example/plainsong/plainsong/engine/CallStack$Activation;)Lcom/example/plainsong/plainsong/engine/CallStack$Activation;"⟩ : MethodName)) hown (hw _ (List.mem_of_getElem? (i := 60) rfl)) (hw _ (List.mem_of_getElem? (i := 61) rfl)) (hw _ (List.mem_of_getElem? (i := 3) rfl)) (hw _ (List.mem_of_getElem? (i := 62) rfl)) (by decide) (W := 1) (rm_expge l Z a0 hw [] (2 : Int32) (0 : Int32) v305  T394.heap hr305 (by decide)) (by decide) (by decide) rfl rfl e410 (g := (mkF m 223 #[.val (.int x0), .val (.int x1), .val (.int x2), .val (.int (1 : Int32)), .val (.int (0 : Int32)), .val v285, .val v294, .val v305, .val (.ref b318), .val (.int (1 : Int32))] [v305, (.int (0 : Int32)), (.int (2 : Int32)), .null])) rfl (by rw [hml]; rfl) (argsL := [(.int (2 : Int32)), (.int (0 : Int32)), v305]) (rest := [.null]) (lenOf own_pd5 rfl) rfl rfl (by show 2 * 0 + _ ≤ _; exact Nat.le_of_eq rfl) (hb hby at_223) (by decide) (by decide)
    refine own_go st411 ?_
    show own_G p.tables e below _ (T411.setTop (mkF m 226 #[.val (.int x0), .val (.int x1), .val (.int x2), .val (.int (1 : Int32)), .val (.int (0 : Int32)), .val v285, .val v294, .val v305, .val (.ref b318), .val (.int (1 : Int32))] [.null, .null]))
    refine own_go (fun _ k => Jvm.RoadKit.acmp (g := (mkF m 226 #[.val (.int x0), .val (.int x1), .val (.int x2), .val (.int (1 : Int32)), .val (.int (0 : Int32)), .val v285, .val v294, .val v305, .val (.ref b318), .val (.int (1 : Int32))] [.null, .null])) X411 hx rfl rfl rfl (pc0 := 226) (pc' := 229) (same := true) rfl (hb hby at_226) rfl (decide_eq_true rfl) (by decide) (by decide) k) ?_
    show own_G p.tables e below _ (T411.setTop (mkF m 229 #[.val (.int x0), .val (.int x1), .val (.int x2), .val (.int (1 : Int32)), .val (.int (0 : Int32)), .val v285, .val v294, .val v305, .val (.ref b318), .val (.int (1 : Int32))] []))
    refine own_go (fun _ k => XS.iconst X411.here hx rfl (hb hby at_229) k) ?_
    show own_G p.tables e below _ (T411.setTop (mkF m 230 #[.val (.int x0), .val (.int x1), .val (.int x2), .val (.int (1 : Int32)), .val (.int (0 : Int32)), .val v285, .val v294, .val v305, .val (.ref b318), .val (.int (1 : Int32))] [(.int (1 : Int32))]))
    refine own_go (fun _ k => XS.goto X411.here hx rfl (pc0 := 230) (pc' := 234) rfl (hb hby at_230) (by decide) (by decide) k) ?_
    show own_G p.tables e below _ (T411.setTop (mkF m 234 #[.val (.int x0), .val (.int x1), .val (.int x2), .val (.int (1 : Int32)), .val (.int (0 : Int32)), .val v285, .val v294, .val v305, .val (.ref b318), .val (.int (1 : Int32))] [(.int (1 : Int32))]))
    refine own_go (fun _ k => XS.istore X411.here hx rfl (hb hby at_234) rfl (l' := #[.val (.int x0), .val (.int x1), .val (.int x2), .val (.int (1 : Int32)), .val (.int (0 : Int32)), .val v285, .val v294, .val v305, .val (.ref b318), .val (.int (1 : Int32))]) rfl k) ?_
    show own_G p.tables e below _ (T411.setTop (mkF m 236 #[.val (.int x0), .val (.int x1), .val (.int x2), .val (.int (1 : Int32)), .val (.int (0 : Int32)), .val v285, .val v294, .val v305, .val (.ref b318), .val (.int (1 : Int32))] []))
    refine own_go (fun _ k => XS.iload X411.here hx rfl (hb hby at_236) rfl k) ?_
    show own_G p.tables e below _ (T411.setTop (mkF m 238 #[.val (.int x0), .val (.int x1), .val (.int x2), .val (.int (1 : Int32)), .val (.int (0 : Int32)), .val v285, .val v294, .val v305, .val (.ref b318), .val (.int (1 : Int32))] [(.int (1 : Int32))]))
    exact own_end X411 Bd.notSynchronized (v := some (.int (nar .boolean (1 : Int32)))) (fun h => by rw [Bd.returns] at h; cases h) (Q := QL (some (.int (1 : Int32))) n0) ⟨rfl, N_394⟩ (fun fs hr => retN X411 hx (t := .boolean) Bd.returns (by simp) (hb hby at_238) hr) (by decide) (by decide)
  · rw [hn, hk]
    show own_G p.tables e below _ (T352.setTop (mkF m 90 #[.val (.int x0), .val (.int x1), .val (.int x2), .val (.int (1 : Int32)), .val (.int (1 : Int32)), .val v285, .val v294, .val v305, .val (.ref b318), .unset] []))
    refine own_go (fun _ k => XS.iloadN X352.here hx rfl (hb hby at_90) rfl k) ?_
    show own_G p.tables e below _ (T352.setTop (mkF m 91 #[.val (.int x0), .val (.int x1), .val (.int x2), .val (.int (1 : Int32)), .val (.int (1 : Int32)), .val v285, .val v294, .val v305, .val (.ref b318), .unset] [(.int (1 : Int32))]))
    refine own_go (fun _ k => XS.ifNo X352.here hx rfl (hb hby at_91) rfl (((if0 _ _).trans (tlt (by decide : (0 : Int32) < (1 : Int32))).2.2.2)) k) ?_
    show own_G p.tables e below _ (T352.setTop (mkF m 94 #[.val (.int x0), .val (.int x1), .val (.int x2), .val (.int (1 : Int32)), .val (.int (1 : Int32)), .val v285, .val v294, .val v305, .val (.ref b318), .unset] []))
    refine own_go (fun _ k => XS.aload X352.here hx rfl (hb hby at_94) rfl rfl k) ?_
    show own_G p.tables e below _ (T352.setTop (mkF m 96 #[.val (.int x0), .val (.int x1), .val (.int x2), .val (.int (1 : Int32)), .val (.int (1 : Int32)), .val v285, .val v294, .val v305, .val (.ref b318), .unset] [(.ref b318)]))
    refine own_go (fun _ k => XS.aload X352.here hx rfl (hb hby at_96) rfl hr285 k) ?_
    show own_G p.tables e below _ (T352.setTop (mkF m 98 #[.val (.int x0), .val (.int x1), .val (.int x2), .val (.int (1 : Int32)), .val (.int (1 : Int32)), .val v285, .val v294, .val v305, .val (.ref b318), .unset] [v285, (.ref b318)]))
    obtain ⟨cq412, kq412, q412a, q412b, q412c⟩ := isOf hZ rfl G_353
    obtain ⟨_, _, ⟨T412, L412, k412, n412⟩, -, X412, ⟨Lc412, hQ412, l412, y412, z412⟩, st412⟩ := X352.virtualBack hx (y := (⟨"com/example/plainsong/plainsong/engine/CallStack", "push", "(Lcom/example/plainsong/plainsong/engine/CallStack$Activation;)V"⟩ : MethodName)) (z := (⟨"com/example/plainsong/plainsong/engine/CallStack", "push", "(Lcom/example/plainsong/plainsong/engine/CallStack$Activation;)V"⟩ : MethodName)) hown (mvT hZ (hw _ (List.mem_of_getElem? (i := 63) rfl))) (mvT hZ (hw _ (List.mem_of_getElem? (i := 64) rfl))) (notFace_of_selects (args := #[]) (mvT hZ (hw _ (List.mem_of_getElem? (i := 66) rfl)))) (mvT hZ (hw _ (List.mem_of_getElem? (i := 66) rfl))) (mvT hZ (hw _ (List.mem_of_getElem? (i := 65) rfl))) (by decide) (backOf (W := 0) (rm_push0 l Z a0 hw [] b318 v285 b352 k352 .null .null .null T352.heap n0 Z_364 G_353 G_354 G_355 V352 ge_319 ge_358 ne_356 hr285 O352 Av_361) hZ (hw _ (List.mem_of_getElem? (i := 67) rfl)) (hw _ (List.mem_of_getElem? (i := 12) rfl)) (by decide) (by decide)) q412a q412c (g := (mkF m 98 #[.val (.int x0), .val (.int x1), .val (.int x2), .val (.int (1 : Int32)), .val (.int (1 : Int32)), .val v285, .val v294, .val v305, .val (.ref b318), .unset] [v285, (.ref b318)])) rfl (by rw [hml]; rfl) (Steps.refl _) (argsL := [v285]) (rest := []) (lenOf own_pd6 rfl) rfl (by show 2 * 0 + _ ≤ _; exact Nat.le_of_eq rfl) (hb hby at_98) (fun _ _ => ⟨rfl, rfl, (by decide : 7 + 0 ≤ _), (by decide : 30 + 0 ≤ _)⟩)
    dsimp only [Pt.U, Pt.locs, Pt.cells, Pt.slots] at X412 l412 y412 z412 st412 hQ412
    subst l412 y412 z412
    obtain ⟨rfl, Nq412, K412, G_413, G_414, G_415, G_416⟩ := hQ412
    have X_417 := G_353.keep K412
    have X_418 := X_360.keep K412
    have Av_419 := own_avK Av_361 K412
    have Av_420 := own_avK Av_362 K412
    have Av_421 := own_avK Av_363 K412
    have Z_422 : n0 ≤ T412.heap.size := Nat.le_trans Z_364 K412.1
    have N_412 := Fr.app N_352 Nq412
    refine own_go (fun _ k => st412.trans k) ?_
    show own_G p.tables e below _ (T412.setTop (mkF m 101 #[.val (.int x0), .val (.int x1), .val (.int x2), .val (.int (1 : Int32)), .val (.int (1 : Int32)), .val v285, .val v294, .val v305, .val (.ref b318), .unset] []))
    refine own_go (fun _ k => XS.iloadN X412.here hx rfl (hb hby at_101) rfl k) ?_
    show own_G p.tables e below _ (T412.setTop (mkF m 102 #[.val (.int x0), .val (.int x1), .val (.int x2), .val (.int (1 : Int32)), .val (.int (1 : Int32)), .val v285, .val v294, .val v305, .val (.ref b318), .unset] [(.int (1 : Int32))]))
    refine own_go (fun _ k => XS.iconst X412.here hx rfl (hb hby at_102) k) ?_
    show own_G p.tables e below _ (T412.setTop (mkF m 103 #[.val (.int x0), .val (.int x1), .val (.int x2), .val (.int (1 : Int32)), .val (.int (1 : Int32)), .val v285, .val v294, .val v305, .val (.ref b318), .unset] [(.int (1 : Int32)), (.int (1 : Int32))]))
    refine own_go (fun _ k => XS.icmpYes X412.here hx rfl (pc0 := 103) (pc' := 113) rfl (hb hby at_103) rfl ((flt (by decide : ¬ ((1 : Int32) < (1 : Int32)))).2.2.2) (by decide) (by decide) k) ?_
    show own_G p.tables e below _ (T412.setTop (mkF m 113 #[.val (.int x0), .val (.int x1), .val (.int x2), .val (.int (1 : Int32)), .val (.int (1 : Int32)), .val v285, .val v294, .val v305, .val (.ref b318), .unset] []))
    refine own_go (fun _ k => XS.iloadN X412.here hx rfl (hb hby at_113) rfl k) ?_
    show own_G p.tables e below _ (T412.setTop (mkF m 114 #[.val (.int x0), .val (.int x1), .val (.int x2), .val (.int (1 : Int32)), .val (.int (1 : Int32)), .val v285, .val v294, .val v305, .val (.ref b318), .unset] [(.int (1 : Int32))]))
    refine own_go (fun _ k => XS.iconst X412.here hx rfl (hb hby at_114) k) ?_
    show own_G p.tables e below _ (T412.setTop (mkF m 115 #[.val (.int x0), .val (.int x1), .val (.int x2), .val (.int (1 : Int32)), .val (.int (1 : Int32)), .val v285, .val v294, .val v305, .val (.ref b318), .unset] [(.int (2 : Int32)), (.int (1 : Int32))]))
    refine own_go (fun _ k => XS.icmpYes X412.here hx rfl (pc0 := 115) (pc' := 125) rfl (hb hby at_115) rfl ((flt (by decide : ¬ ((2 : Int32) < (1 : Int32)))).2.2.2) (by decide) (by decide) k) ?_
    show own_G p.tables e below _ (T412.setTop (mkF m 125 #[.val (.int x0), .val (.int x1), .val (.int x2), .val (.int (1 : Int32)), .val (.int (1 : Int32)), .val v285, .val v294, .val v305, .val (.ref b318), .unset] []))
    refine own_go (fun _ k => XS.aload X412.here hx rfl (hb hby at_125) rfl rfl k) ?_
    show own_G p.tables e below _ (T412.setTop (mkF m 127 #[.val (.int x0), .val (.int x1), .val (.int x2), .val (.int (1 : Int32)), .val (.int (1 : Int32)), .val v285, .val v294, .val v305, .val (.ref b318), .unset] [(.ref b318)]))
    refine own_go (fun _ k => XS.iload X412.here hx rfl (hb hby at_127) rfl k) ?_
    show own_G p.tables e below _ (T412.setTop (mkF m 129 #[.val (.int x0), .val (.int x1), .val (.int x2), .val (.int (1 : Int32)), .val (.int (1 : Int32)), .val v285, .val v294, .val v305, .val (.ref b318), .unset] [(.int (1 : Int32)), (.ref b318)]))
    obtain ⟨cq423, kq423, q423a, q423b, q423c⟩ := isOf hZ rfl G_413
    obtain ⟨_, _, ⟨T423, L423, k423, n423⟩, -, X423, ⟨Lc423, hQ423, l423, y423, z423⟩, st423⟩ := X412.virtualBack hx (y := (⟨"com/example/plainsong/plainsong/engine/CallStack", "truncate", "(I)V"⟩ : MethodName)) (z := (⟨"com/example/plainsong/plainsong/engine/CallStack", "truncate", "(I)V"⟩ : MethodName)) hown (mvT hZ (hw _ (List.mem_of_getElem? (i := 43) rfl))) (mvT hZ (hw _ (List.mem_of_getElem? (i := 44) rfl))) (notFace_of_selects (args := #[]) (mvT hZ (hw _ (List.mem_of_getElem? (i := 46) rfl)))) (mvT hZ (hw _ (List.mem_of_getElem? (i := 46) rfl))) (mvT hZ (hw _ (List.mem_of_getElem? (i := 45) rfl))) (by decide) (backOf (W := 0) (rm_tr11 l Z a0 hw [] b318 b352 k352 v285 .null .null T412.heap n0 Z_422 G_413 G_414 G_415 G_416 ge_319 ge_358 ne_356) hZ (hw _ (List.mem_of_getElem? (i := 47) rfl)) (hw _ (List.mem_of_getElem? (i := 12) rfl)) (by decide) (by decide)) q423a q423c (g := (mkF m 129 #[.val (.int x0), .val (.int x1), .val (.int x2), .val (.int (1 : Int32)), .val (.int (1 : Int32)), .val v285, .val v294, .val v305, .val (.ref b318), .unset] [(.int (1 : Int32)), (.ref b318)])) rfl (by rw [hml]; rfl) (Steps.refl _) (argsL := [(.int (1 : Int32))]) (rest := []) (lenOf own_pd2 rfl) rfl (by show 2 * 0 + _ ≤ _; exact Nat.le_of_eq rfl) (hb hby at_129) (fun _ _ => ⟨rfl, rfl, (by decide : 7 + 0 ≤ _), (by decide : 30 + 0 ≤ _)⟩)
    dsimp only [Pt.U, Pt.locs, Pt.cells, Pt.slots] at X423 l423 y423 z423 st423 hQ423
    subst l423 y423 z423
    obtain ⟨rfl, Nq423, K423, G_424, G_425, G_426, G_427⟩ := hQ423
    have X_428 := G_413.keep K423
    have X_429 := X_418.keep K423
    have Av_430 := own_avK Av_419 K423
    have Av_431 := own_avK Av_420 K423
    have Av_432 := own_avK Av_421 K423
    have Z_433 : n0 ≤ T423.heap.size := Nat.le_trans Z_422 K423.1
    have N_423 := Fr.app N_412 Nq423
    refine own_go (fun _ k => st423.trans k) ?_
    show own_G p.tables e below _ (T423.setTop (mkF m 132 #[.val (.int x0), .val (.int x1), .val (.int x2), .val (.int (1 : Int32)), .val (.int (1 : Int32)), .val v285, .val v294, .val v305, .val (.ref b318), .unset] []))
    refine own_go (fun _ k => XS.aload X423.here hx rfl (hb hby at_132) rfl rfl k) ?_
    show own_G p.tables e below _ (T423.setTop (mkF m 134 #[.val (.int x0), .val (.int x1), .val (.int x2), .val (.int (1 : Int32)), .val (.int (1 : Int32)), .val v285, .val v294, .val v305, .val (.ref b318), .unset] [(.ref b318)]))
    obtain ⟨T434, X434, e434, st434⟩ := own_callV X423 hx hZ (y := (⟨"com/example/plainsong/plainsong/engine/CallStack", "depth", "()I"⟩ : MethodName)) hown (hw _ (List.mem_of_getElem? (i := 50) rfl)) (hw _ (List.mem_of_getElem? (i := 51) rfl)) (hw _ (List.mem_of_getElem? (i := 53) rfl)) (hw _ (List.mem_of_getElem? (i := 52) rfl)) (hw _ (List.mem_of_getElem? (i := 12) rfl)) (hw _ (List.mem_of_getElem? (i := 54) rfl)) (by decide) (W := 0) (rm7 l Z a0 hw [] b318 (1 : Int32) T423.heap G_426) (by decide) (by decide) rfl rfl rfl G_424 (g := (mkF m 134 #[.val (.int x0), .val (.int x1), .val (.int x2), .val (.int (1 : Int32)), .val (.int (1 : Int32)), .val v285, .val v294, .val v305, .val (.ref b318), .unset] [(.ref b318)])) rfl (by rw [hml]; rfl) (argsL := []) (rest := []) (lenOf own_pd3 rfl) rfl rfl (by show 2 * 0 + _ ≤ _; exact Nat.le_of_eq rfl) (hb hby at_134) (by decide) (by decide)
    refine own_go st434 ?_
    show own_G p.tables e below _ (T434.setTop (mkF m 137 #[.val (.int x0), .val (.int x1), .val (.int x2), .val (.int (1 : Int32)), .val (.int (1 : Int32)), .val v285, .val v294, .val v305, .val (.ref b318), .unset] [(.int (1 : Int32))]))
    refine own_go (fun _ k => XS.iload X434.here hx rfl (hb hby at_137) rfl k) ?_
    show own_G p.tables e below _ (T434.setTop (mkF m 139 #[.val (.int x0), .val (.int x1), .val (.int x2), .val (.int (1 : Int32)), .val (.int (1 : Int32)), .val v285, .val v294, .val v305, .val (.ref b318), .unset] [(.int (1 : Int32)), (.int (1 : Int32))]))
    refine own_go (fun _ k => XS.icmpNo X434.here hx rfl (hb hby at_139) rfl ((teq (by decide : (1 : Int32) = (1 : Int32))).2) k) ?_
    show own_G p.tables e below _ (T434.setTop (mkF m 142 #[.val (.int x0), .val (.int x1), .val (.int x2), .val (.int (1 : Int32)), .val (.int (1 : Int32)), .val v285, .val v294, .val v305, .val (.ref b318), .unset] []))
    refine own_go (fun _ k => XS.iconst X434.here hx rfl (hb hby at_142) k) ?_
    show own_G p.tables e below _ (T434.setTop (mkF m 143 #[.val (.int x0), .val (.int x1), .val (.int x2), .val (.int (1 : Int32)), .val (.int (1 : Int32)), .val v285, .val v294, .val v305, .val (.ref b318), .unset] [(.int (1 : Int32))]))
    refine own_go (fun _ k => XS.goto X434.here hx rfl (pc0 := 143) (pc' := 147) rfl (hb hby at_143) (by decide) (by decide) k) ?_
    show own_G p.tables e below _ (T434.setTop (mkF m 147 #[.val (.int x0), .val (.int x1), .val (.int x2), .val (.int (1 : Int32)), .val (.int (1 : Int32)), .val v285, .val v294, .val v305, .val (.ref b318), .unset] [(.int (1 : Int32))]))
    refine own_go (fun _ k => XS.istore X434.here hx rfl (hb hby at_147) rfl (l' := #[.val (.int x0), .val (.int x1), .val (.int x2), .val (.int (1 : Int32)), .val (.int (1 : Int32)), .val v285, .val v294, .val v305, .val (.ref b318), .val (.int (1 : Int32))]) rfl k) ?_
    show own_G p.tables e below _ (T434.setTop (mkF m 149 #[.val (.int x0), .val (.int x1), .val (.int x2), .val (.int (1 : Int32)), .val (.int (1 : Int32)), .val v285, .val v294, .val v305, .val (.ref b318), .val (.int (1 : Int32))] []))
    refine own_go (fun _ k => XS.iload X434.here hx rfl (hb hby at_149) rfl k) ?_
    show own_G p.tables e below _ (T434.setTop (mkF m 151 #[.val (.int x0), .val (.int x1), .val (.int x2), .val (.int (1 : Int32)), .val (.int (1 : Int32)), .val v285, .val v294, .val v305, .val (.ref b318), .val (.int (1 : Int32))] [(.int (1 : Int32))]))
    refine own_go (fun _ k => XS.ifNo X434.here hx rfl (hb hby at_151) rfl (((if0 _ _).trans (feq (by decide : ¬ ((1 : Int32) = (0 : Int32)))).1)) k) ?_
    show own_G p.tables e below _ (T434.setTop (mkF m 154 #[.val (.int x0), .val (.int x1), .val (.int x2), .val (.int (1 : Int32)), .val (.int (1 : Int32)), .val v285, .val v294, .val v305, .val (.ref b318), .val (.int (1 : Int32))] []))
    refine own_go (fun _ k => XS.aload X434.here hx rfl (hb hby at_154) rfl rfl k) ?_
    show own_G p.tables e below _ (T434.setTop (mkF m 156 #[.val (.int x0), .val (.int x1), .val (.int x2), .val (.int (1 : Int32)), .val (.int (1 : Int32)), .val v285, .val v294, .val v305, .val (.ref b318), .val (.int (1 : Int32))] [(.ref b318)]))
    refine own_go (fun _ k => XS.iconst X434.here hx rfl (hb hby at_156) k) ?_
    show own_G p.tables e below _ (T434.setTop (mkF m 157 #[.val (.int x0), .val (.int x1), .val (.int x2), .val (.int (1 : Int32)), .val (.int (1 : Int32)), .val v285, .val v294, .val v305, .val (.ref b318), .val (.int (1 : Int32))] [(.int (0 : Int32)), (.ref b318)]))
    obtain ⟨T435, X435, e435, st435⟩ := own_callV X434 hx hZ (y := (⟨"com/example/plainsong/plainsong/engine/CallStack", "entry", "(I)Lcom/example/plainsong/plainsong/engine/CallStack$Activation;"⟩ : MethodName)) hown (hw _ (List.mem_of_getElem? (i := 55) rfl)) (hw _ (List.mem_of_getElem? (i := 56) rfl)) (hw _ (List.mem_of_getElem? (i := 58) rfl)) (hw _ (List.mem_of_getElem? (i := 57) rfl)) (hw _ (List.mem_of_getElem? (i := 12) rfl)) (hw _ (List.mem_of_getElem? (i := 59) rfl)) (by decide) (W := 0) (rm_ent0 l Z a0 hw [] b318 b352 k352 v285 .null .null T423.heap G_425 G_427 hr285) (by decide) (by decide) rfl rfl e434 G_424 (g := (mkF m 157 #[.val (.int x0), .val (.int x1), .val (.int x2), .val (.int (1 : Int32)), .val (.int (1 : Int32)), .val v285, .val v294, .val v305, .val (.ref b318), .val (.int (1 : Int32))] [(.int (0 : Int32)), (.ref b318)])) rfl (by rw [hml]; rfl) (argsL := [(.int (0 : Int32))]) (rest := []) (lenOf own_pd4 rfl) rfl rfl (by show 2 * 0 + _ ≤ _; exact Nat.le_of_eq rfl) (hb hby at_157) (by decide) (by decide)
    refine own_go st435 ?_
    show own_G p.tables e below _ (T435.setTop (mkF m 160 #[.val (.int x0), .val (.int x1), .val (.int x2), .val (.int (1 : Int32)), .val (.int (1 : Int32)), .val v285, .val v294, .val v305, .val (.ref b318), .val (.int (1 : Int32))] [v285]))
    refine own_go (fun _ k => XS.iconst X435.here hx rfl (hb hby at_160) k) ?_
    show own_G p.tables e below _ (T435.setTop (mkF m 161 #[.val (.int x0), .val (.int x1), .val (.int x2), .val (.int (1 : Int32)), .val (.int (1 : Int32)), .val v285, .val v294, .val v305, .val (.ref b318), .val (.int (1 : Int32))] [(.int (0 : Int32)), v285]))
    refine own_go (fun _ k => XS.iload X435.here hx rfl (hb hby at_161) rfl k) ?_
    show own_G p.tables e below _ (T435.setTop (mkF m 163 #[.val (.int x0), .val (.int x1), .val (.int x2), .val (.int (1 : Int32)), .val (.int (1 : Int32)), .val v285, .val v294, .val v305, .val (.ref b318), .val (.int (1 : Int32))] [(.int (1 : Int32)), (.int (0 : Int32)), v285]))
    refine own_go (fun _ k => XS.aload X435.here hx rfl (hb hby at_163) rfl hr285 k) ?_
    show own_G p.tables e below _ (T435.setTop (mkF m 165 #[.val (.int x0), .val (.int x1), .val (.int x2), .val (.int (1 : Int32)), .val (.int (1 : Int32)), .val v285, .val v294, .val v305, .val (.ref b318), .val (.int (1 : Int32))] [v285, (.int (1 : Int32)), (.int (0 : Int32)), v285]))
    obtain ⟨T436, X436, e436, st436⟩ := own_callP X435 hx hZ (y := (⟨"com/example/plainsong/plainsong/engine/CallStackTruncatePinLaw", "expected", "(IILcom/example/plainsong/plainsong/engine/CallStack$Activation;)Lcom/example/plainsong/plainsong/engine/CallStack$Activation;"⟩ : MethodName)) hown (hw _ (List.mem_of_getElem? (i := 60) rfl)) (hw _ (List.mem_of_getElem? (i := 61) rfl)) (hw _ (List.mem_of_getElem? (i := 3) rfl)) (hw _ (List.mem_of_getElem? (i := 62) rfl)) (by decide) (W := 1) (rm_explt l Z a0 hw [] (0 : Int32) (1 : Int32) v285  T423.heap hr285 (by decide)) (by decide) (by decide) rfl rfl e435 (g := (mkF m 165 #[.val (.int x0), .val (.int x1), .val (.int x2), .val (.int (1 : Int32)), .val (.int (1 : Int32)), .val v285, .val v294, .val v305, .val (.ref b318), .val (.int (1 : Int32))] [v285, (.int (1 : Int32)), (.int (0 : Int32)), v285])) rfl (by rw [hml]; rfl) (argsL := [(.int (0 : Int32)), (.int (1 : Int32)), v285]) (rest := [v285]) (lenOf own_pd5 rfl) rfl rfl (own_w1 hr285) (hb hby at_165) (by decide) (by decide)
    refine own_go st436 ?_
    show own_G p.tables e below _ (T436.setTop (mkF m 168 #[.val (.int x0), .val (.int x1), .val (.int x2), .val (.int (1 : Int32)), .val (.int (1 : Int32)), .val v285, .val v294, .val v305, .val (.ref b318), .val (.int (1 : Int32))] [v285, v285]))
    refine own_go (fun _ k => Jvm.RoadKit.acmp (g := (mkF m 168 #[.val (.int x0), .val (.int x1), .val (.int x2), .val (.int (1 : Int32)), .val (.int (1 : Int32)), .val v285, .val v294, .val v305, .val (.ref b318), .val (.int (1 : Int32))] [v285, v285])) X436 hx rfl hr285 hr285 (pc0 := 168) (pc' := 171) (same := true) rfl (hb hby at_168) rfl (decide_eq_true rfl) (by decide) (by decide) k) ?_
    show own_G p.tables e below _ (T436.setTop (mkF m 171 #[.val (.int x0), .val (.int x1), .val (.int x2), .val (.int (1 : Int32)), .val (.int (1 : Int32)), .val v285, .val v294, .val v305, .val (.ref b318), .val (.int (1 : Int32))] []))
    refine own_go (fun _ k => XS.iconst X436.here hx rfl (hb hby at_171) k) ?_
    show own_G p.tables e below _ (T436.setTop (mkF m 172 #[.val (.int x0), .val (.int x1), .val (.int x2), .val (.int (1 : Int32)), .val (.int (1 : Int32)), .val v285, .val v294, .val v305, .val (.ref b318), .val (.int (1 : Int32))] [(.int (1 : Int32))]))
    refine own_go (fun _ k => XS.goto X436.here hx rfl (pc0 := 172) (pc' := 176) rfl (hb hby at_172) (by decide) (by decide) k) ?_
    show own_G p.tables e below _ (T436.setTop (mkF m 176 #[.val (.int x0), .val (.int x1), .val (.int x2), .val (.int (1 : Int32)), .val (.int (1 : Int32)), .val v285, .val v294, .val v305, .val (.ref b318), .val (.int (1 : Int32))] [(.int (1 : Int32))]))
    refine own_go (fun _ k => XS.istore X436.here hx rfl (hb hby at_176) rfl (l' := #[.val (.int x0), .val (.int x1), .val (.int x2), .val (.int (1 : Int32)), .val (.int (1 : Int32)), .val v285, .val v294, .val v305, .val (.ref b318), .val (.int (1 : Int32))]) rfl k) ?_
    show own_G p.tables e below _ (T436.setTop (mkF m 178 #[.val (.int x0), .val (.int x1), .val (.int x2), .val (.int (1 : Int32)), .val (.int (1 : Int32)), .val v285, .val v294, .val v305, .val (.ref b318), .val (.int (1 : Int32))] []))
    refine own_go (fun _ k => XS.iload X436.here hx rfl (hb hby at_178) rfl k) ?_
    show own_G p.tables e below _ (T436.setTop (mkF m 180 #[.val (.int x0), .val (.int x1), .val (.int x2), .val (.int (1 : Int32)), .val (.int (1 : Int32)), .val v285, .val v294, .val v305, .val (.ref b318), .val (.int (1 : Int32))] [(.int (1 : Int32))]))
    refine own_go (fun _ k => XS.ifNo X436.here hx rfl (hb hby at_180) rfl (((if0 _ _).trans (feq (by decide : ¬ ((1 : Int32) = (0 : Int32)))).1)) k) ?_
    show own_G p.tables e below _ (T436.setTop (mkF m 183 #[.val (.int x0), .val (.int x1), .val (.int x2), .val (.int (1 : Int32)), .val (.int (1 : Int32)), .val v285, .val v294, .val v305, .val (.ref b318), .val (.int (1 : Int32))] []))
    refine own_go (fun _ k => XS.aload X436.here hx rfl (hb hby at_183) rfl rfl k) ?_
    show own_G p.tables e below _ (T436.setTop (mkF m 185 #[.val (.int x0), .val (.int x1), .val (.int x2), .val (.int (1 : Int32)), .val (.int (1 : Int32)), .val v285, .val v294, .val v305, .val (.ref b318), .val (.int (1 : Int32))] [(.ref b318)]))
    refine own_go (fun _ k => XS.iconst X436.here hx rfl (hb hby at_185) k) ?_
    show own_G p.tables e below _ (T436.setTop (mkF m 186 #[.val (.int x0), .val (.int x1), .val (.int x2), .val (.int (1 : Int32)), .val (.int (1 : Int32)), .val v285, .val v294, .val v305, .val (.ref b318), .val (.int (1 : Int32))] [(.int (1 : Int32)), (.ref b318)]))
    obtain ⟨T437, X437, e437, st437⟩ := own_callV X436 hx hZ (y := (⟨"com/example/plainsong/plainsong/engine/CallStack", "entry", "(I)Lcom/example/plainsong/plainsong/engine/CallStack$Activation;"⟩ : MethodName)) hown (hw _ (List.mem_of_getElem? (i := 55) rfl)) (hw _ (List.mem_of_getElem? (i := 56) rfl)) (hw _ (List.mem_of_getElem? (i := 58) rfl)) (hw _ (List.mem_of_getElem? (i := 57) rfl)) (hw _ (List.mem_of_getElem? (i := 12) rfl)) (hw _ (List.mem_of_getElem? (i := 59) rfl)) (by decide) (W := 0) (rm_ent1 l Z a0 hw [] b318 b352 k352 v285 .null .null T423.heap G_425 G_427 rfl) (by decide) (by decide) rfl rfl e436 G_424 (g := (mkF m 186 #[.val (.int x0), .val (.int x1), .val (.int x2), .val (.int (1 : Int32)), .val (.int (1 : Int32)), .val v285, .val v294, .val v305, .val (.ref b318), .val (.int (1 : Int32))] [(.int (1 : Int32)), (.ref b318)])) rfl (by rw [hml]; rfl) (argsL := [(.int (1 : Int32))]) (rest := []) (lenOf own_pd4 rfl) rfl rfl (by show 2 * 0 + _ ≤ _; exact Nat.le_of_eq rfl) (hb hby at_186) (by decide) (by decide)
    refine own_go st437 ?_
    show own_G p.tables e below _ (T437.setTop (mkF m 189 #[.val (.int x0), .val (.int x1), .val (.int x2), .val (.int (1 : Int32)), .val (.int (1 : Int32)), .val v285, .val v294, .val v305, .val (.ref b318), .val (.int (1 : Int32))] [.null]))
    refine own_go (fun _ k => XS.iconst X437.here hx rfl (hb hby at_189) k) ?_
    show own_G p.tables e below _ (T437.setTop (mkF m 190 #[.val (.int x0), .val (.int x1), .val (.int x2), .val (.int (1 : Int32)), .val (.int (1 : Int32)), .val v285, .val v294, .val v305, .val (.ref b318), .val (.int (1 : Int32))] [(.int (1 : Int32)), .null]))
    refine own_go (fun _ k => XS.iload X437.here hx rfl (hb hby at_190) rfl k) ?_
    show own_G p.tables e below _ (T437.setTop (mkF m 192 #[.val (.int x0), .val (.int x1), .val (.int x2), .val (.int (1 : Int32)), .val (.int (1 : Int32)), .val v285, .val v294, .val v305, .val (.ref b318), .val (.int (1 : Int32))] [(.int (1 : Int32)), (.int (1 : Int32)), .null]))
    refine own_go (fun _ k => XS.aload X437.here hx rfl (hb hby at_192) rfl hr294 k) ?_
    show own_G p.tables e below _ (T437.setTop (mkF m 194 #[.val (.int x0), .val (.int x1), .val (.int x2), .val (.int (1 : Int32)), .val (.int (1 : Int32)), .val v285, .val v294, .val v305, .val (.ref b318), .val (.int (1 : Int32))] [v294, (.int (1 : Int32)), (.int (1 : Int32)), .null]))
    obtain ⟨T438, X438, e438, st438⟩ := own_callP X437 hx hZ (y := (⟨"com/example/plainsong/plainsong/engine/CallStackTruncatePinLaw", "expected", "(IILcom/example/plainsong/plainsong/engine/CallStack$Activation;)Lcom/example/plainsong/plainsong/engine/CallStack$Activation;"⟩ : MethodName)) hown (hw _ (List.mem_of_getElem? (i := 60) rfl)) (hw _ (List.mem_of_getElem? (i := 61) rfl)) (hw _ (List.mem_of_getElem? (i := 3) rfl)) (hw _ (List.mem_of_getElem? (i := 62) rfl)) (by decide) (W := 1) (rm_expge l Z a0 hw [] (1 : Int32) (1 : Int32) v294  T423.heap hr294 (by decide)) (by decide) (by decide) rfl rfl e437 (g := (mkF m 194 #[.val (.int x0), .val (.int x1), .val (.int x2), .val (.int (1 : Int32)), .val (.int (1 : Int32)), .val v285, .val v294, .val v305, .val (.ref b318), .val (.int (1 : Int32))] [v294, (.int (1 : Int32)), (.int (1 : Int32)), .null])) rfl (by rw [hml]; rfl) (argsL := [(.int (1 : Int32)), (.int (1 : Int32)), v294]) (rest := [.null]) (lenOf own_pd5 rfl) rfl rfl (by show 2 * 0 + _ ≤ _; exact Nat.le_of_eq rfl) (hb hby at_194) (by decide) (by decide)
    refine own_go st438 ?_
    show own_G p.tables e below _ (T438.setTop (mkF m 197 #[.val (.int x0), .val (.int x1), .val (.int x2), .val (.int (1 : Int32)), .val (.int (1 : Int32)), .val v285, .val v294, .val v305, .val (.ref b318), .val (.int (1 : Int32))] [.null, .null]))
    refine own_go (fun _ k => Jvm.RoadKit.acmp (g := (mkF m 197 #[.val (.int x0), .val (.int x1), .val (.int x2), .val (.int (1 : Int32)), .val (.int (1 : Int32)), .val v285, .val v294, .val v305, .val (.ref b318), .val (.int (1 : Int32))] [.null, .null])) X438 hx rfl rfl rfl (pc0 := 197) (pc' := 200) (same := true) rfl (hb hby at_197) rfl (decide_eq_true rfl) (by decide) (by decide) k) ?_
    show own_G p.tables e below _ (T438.setTop (mkF m 200 #[.val (.int x0), .val (.int x1), .val (.int x2), .val (.int (1 : Int32)), .val (.int (1 : Int32)), .val v285, .val v294, .val v305, .val (.ref b318), .val (.int (1 : Int32))] []))
    refine own_go (fun _ k => XS.iconst X438.here hx rfl (hb hby at_200) k) ?_
    show own_G p.tables e below _ (T438.setTop (mkF m 201 #[.val (.int x0), .val (.int x1), .val (.int x2), .val (.int (1 : Int32)), .val (.int (1 : Int32)), .val v285, .val v294, .val v305, .val (.ref b318), .val (.int (1 : Int32))] [(.int (1 : Int32))]))
    refine own_go (fun _ k => XS.goto X438.here hx rfl (pc0 := 201) (pc' := 205) rfl (hb hby at_201) (by decide) (by decide) k) ?_
    show own_G p.tables e below _ (T438.setTop (mkF m 205 #[.val (.int x0), .val (.int x1), .val (.int x2), .val (.int (1 : Int32)), .val (.int (1 : Int32)), .val v285, .val v294, .val v305, .val (.ref b318), .val (.int (1 : Int32))] [(.int (1 : Int32))]))
    refine own_go (fun _ k => XS.istore X438.here hx rfl (hb hby at_205) rfl (l' := #[.val (.int x0), .val (.int x1), .val (.int x2), .val (.int (1 : Int32)), .val (.int (1 : Int32)), .val v285, .val v294, .val v305, .val (.ref b318), .val (.int (1 : Int32))]) rfl k) ?_
    show own_G p.tables e below _ (T438.setTop (mkF m 207 #[.val (.int x0), .val (.int x1), .val (.int x2), .val (.int (1 : Int32)), .val (.int (1 : Int32)), .val v285, .val v294, .val v305, .val (.ref b318), .val (.int (1 : Int32))] []))
    refine own_go (fun _ k => XS.iload X438.here hx rfl (hb hby at_207) rfl k) ?_
    show own_G p.tables e below _ (T438.setTop (mkF m 209 #[.val (.int x0), .val (.int x1), .val (.int x2), .val (.int (1 : Int32)), .val (.int (1 : Int32)), .val v285, .val v294, .val v305, .val (.ref b318), .val (.int (1 : Int32))] [(.int (1 : Int32))]))
    refine own_go (fun _ k => XS.ifNo X438.here hx rfl (hb hby at_209) rfl (((if0 _ _).trans (feq (by decide : ¬ ((1 : Int32) = (0 : Int32)))).1)) k) ?_
    show own_G p.tables e below _ (T438.setTop (mkF m 212 #[.val (.int x0), .val (.int x1), .val (.int x2), .val (.int (1 : Int32)), .val (.int (1 : Int32)), .val v285, .val v294, .val v305, .val (.ref b318), .val (.int (1 : Int32))] []))
    refine own_go (fun _ k => XS.aload X438.here hx rfl (hb hby at_212) rfl rfl k) ?_
    show own_G p.tables e below _ (T438.setTop (mkF m 214 #[.val (.int x0), .val (.int x1), .val (.int x2), .val (.int (1 : Int32)), .val (.int (1 : Int32)), .val v285, .val v294, .val v305, .val (.ref b318), .val (.int (1 : Int32))] [(.ref b318)]))
    refine own_go (fun _ k => XS.iconst X438.here hx rfl (hb hby at_214) k) ?_
    show own_G p.tables e below _ (T438.setTop (mkF m 215 #[.val (.int x0), .val (.int x1), .val (.int x2), .val (.int (1 : Int32)), .val (.int (1 : Int32)), .val v285, .val v294, .val v305, .val (.ref b318), .val (.int (1 : Int32))] [(.int (2 : Int32)), (.ref b318)]))
    obtain ⟨T439, X439, e439, st439⟩ := own_callV X438 hx hZ (y := (⟨"com/example/plainsong/plainsong/engine/CallStack", "entry", "(I)Lcom/example/plainsong/plainsong/engine/CallStack$Activation;"⟩ : MethodName)) hown (hw _ (List.mem_of_getElem? (i := 55) rfl)) (hw _ (List.mem_of_getElem? (i := 56) rfl)) (hw _ (List.mem_of_getElem? (i := 58) rfl)) (hw _ (List.mem_of_getElem? (i := 57) rfl)) (hw _ (List.mem_of_getElem? (i := 12) rfl)) (hw _ (List.mem_of_getElem? (i := 59) rfl)) (by decide) (W := 0) (rm_ent2 l Z a0 hw [] b318 b352 k352 v285 .null .null T423.heap G_425 G_427 rfl) (by decide) (by decide) rfl rfl e438 G_424 (g := (mkF m 215 #[.val (.int x0), .val (.int x1), .val (.int x2), .val (.int (1 : Int32)), .val (.int (1 : Int32)), .val v285, .val v294, .val v305, .val (.ref b318), .val (.int (1 : Int32))] [(.int (2 : Int32)), (.ref b318)])) rfl (by rw [hml]; rfl) (argsL := [(.int (2 : Int32))]) (rest := []) (lenOf own_pd4 rfl) rfl rfl (by show 2 * 0 + _ ≤ _; exact Nat.le_of_eq rfl) (hb hby at_215) (by decide) (by decide)
    refine own_go st439 ?_
    show own_G p.tables e below _ (T439.setTop (mkF m 218 #[.val (.int x0), .val (.int x1), .val (.int x2), .val (.int (1 : Int32)), .val (.int (1 : Int32)), .val v285, .val v294, .val v305, .val (.ref b318), .val (.int (1 : Int32))] [.null]))
    refine own_go (fun _ k => XS.iconst X439.here hx rfl (hb hby at_218) k) ?_
    show own_G p.tables e below _ (T439.setTop (mkF m 219 #[.val (.int x0), .val (.int x1), .val (.int x2), .val (.int (1 : Int32)), .val (.int (1 : Int32)), .val v285, .val v294, .val v305, .val (.ref b318), .val (.int (1 : Int32))] [(.int (2 : Int32)), .null]))
    refine own_go (fun _ k => XS.iload X439.here hx rfl (hb hby at_219) rfl k) ?_
    show own_G p.tables e below _ (T439.setTop (mkF m 221 #[.val (.int x0), .val (.int x1), .val (.int x2), .val (.int (1 : Int32)), .val (.int (1 : Int32)), .val v285, .val v294, .val v305, .val (.ref b318), .val (.int (1 : Int32))] [(.int (1 : Int32)), (.int (2 : Int32)), .null]))
    refine own_go (fun _ k => XS.aload X439.here hx rfl (hb hby at_221) rfl hr305 k) ?_
    show own_G p.tables e below _ (T439.setTop (mkF m 223 #[.val (.int x0), .val (.int x1), .val (.int x2), .val (.int (1 : Int32)), .val (.int (1 : Int32)), .val v285, .val v294, .val v305, .val (.ref b318), .val (.int (1 : Int32))] [v305, (.int (1 : Int32)), (.int (2 : Int32)), .null]))
    obtain ⟨T440, X440, e440, st440⟩ := own_callP X439 hx hZ (y := (⟨"com/example/plainsong/plainsong/engine/CallStackTruncatePinLaw", "expected", "(IILcom/example/plainsong/plainsong/engine/CallStack$Activation;)Lcom/example/plainsong/plainsong/engine/CallStack$Activation;"⟩ : MethodName)) hown (hw _ (List.mem_of_getElem? (i := 60) rfl)) (hw _ (List.mem_of_getElem? (i := 61) rfl)) (hw _ (List.mem_of_getElem? (i := 3) rfl)) (hw _ (List.mem_of_getElem? (i := 62) rfl)) (by decide) (W := 1) (rm_expge l Z a0 hw [] (2 : Int32) (1 : Int32) v305  T423.heap hr305 (by decide)) (by decide) (by decide) rfl rfl e439 (g := (mkF m 223 #[.val (.int x0), .val (.int x1), .val (.int x2), .val (.int (1 : Int32)), .val (.int (1 : Int32)), .val v285, .val v294, .val v305, .val (.ref b318), .val (.int (1 : Int32))] [v305, (.int (1 : Int32)), (.int (2 : Int32)), .null])) rfl (by rw [hml]; rfl) (argsL := [(.int (2 : Int32)), (.int (1 : Int32)), v305]) (rest := [.null]) (lenOf own_pd5 rfl) rfl rfl (by show 2 * 0 + _ ≤ _; exact Nat.le_of_eq rfl) (hb hby at_223) (by decide) (by decide)
    refine own_go st440 ?_
    show own_G p.tables e below _ (T440.setTop (mkF m 226 #[.val (.int x0), .val (.int x1), .val (.int x2), .val (.int (1 : Int32)), .val (.int (1 : Int32)), .val v285, .val v294, .val v305, .val (.ref b318), .val (.int (1 : Int32))] [.null, .null]))
    refine own_go (fun _ k => Jvm.RoadKit.acmp (g := (mkF m 226 #[.val (.int x0), .val (.int x1), .val (.int x2), .val (.int (1 : Int32)), .val (.int (1 : Int32)), .val v285, .val v294, .val v305, .val (.ref b318), .val (.int (1 : Int32))] [.null, .null])) X440 hx rfl rfl rfl (pc0 := 226) (pc' := 229) (same := true) rfl (hb hby at_226) rfl (decide_eq_true rfl) (by decide) (by decide) k) ?_
    show own_G p.tables e below _ (T440.setTop (mkF m 229 #[.val (.int x0), .val (.int x1), .val (.int x2), .val (.int (1 : Int32)), .val (.int (1 : Int32)), .val v285, .val v294, .val v305, .val (.ref b318), .val (.int (1 : Int32))] []))
    refine own_go (fun _ k => XS.iconst X440.here hx rfl (hb hby at_229) k) ?_
    show own_G p.tables e below _ (T440.setTop (mkF m 230 #[.val (.int x0), .val (.int x1), .val (.int x2), .val (.int (1 : Int32)), .val (.int (1 : Int32)), .val v285, .val v294, .val v305, .val (.ref b318), .val (.int (1 : Int32))] [(.int (1 : Int32))]))
    refine own_go (fun _ k => XS.goto X440.here hx rfl (pc0 := 230) (pc' := 234) rfl (hb hby at_230) (by decide) (by decide) k) ?_
    show own_G p.tables e below _ (T440.setTop (mkF m 234 #[.val (.int x0), .val (.int x1), .val (.int x2), .val (.int (1 : Int32)), .val (.int (1 : Int32)), .val v285, .val v294, .val v305, .val (.ref b318), .val (.int (1 : Int32))] [(.int (1 : Int32))]))
    refine own_go (fun _ k => XS.istore X440.here hx rfl (hb hby at_234) rfl (l' := #[.val (.int x0), .val (.int x1), .val (.int x2), .val (.int (1 : Int32)), .val (.int (1 : Int32)), .val v285, .val v294, .val v305, .val (.ref b318), .val (.int (1 : Int32))]) rfl k) ?_
    show own_G p.tables e below _ (T440.setTop (mkF m 236 #[.val (.int x0), .val (.int x1), .val (.int x2), .val (.int (1 : Int32)), .val (.int (1 : Int32)), .val v285, .val v294, .val v305, .val (.ref b318), .val (.int (1 : Int32))] []))
    refine own_go (fun _ k => XS.iload X440.here hx rfl (hb hby at_236) rfl k) ?_
    show own_G p.tables e below _ (T440.setTop (mkF m 238 #[.val (.int x0), .val (.int x1), .val (.int x2), .val (.int (1 : Int32)), .val (.int (1 : Int32)), .val v285, .val v294, .val v305, .val (.ref b318), .val (.int (1 : Int32))] [(.int (1 : Int32))]))
    exact own_end X440 Bd.notSynchronized (v := some (.int (nar .boolean (1 : Int32)))) (fun h => by rw [Bd.returns] at h; cases h) (Q := QL (some (.int (1 : Int32))) n0) ⟨rfl, N_423⟩ (fun fs hr => retN X440 hx (t := .boolean) Bd.returns (by simp) (hb hby at_238) hr) (by decide) (by decide)
  · rw [hn, hk]
    show own_G p.tables e below _ (T352.setTop (mkF m 90 #[.val (.int x0), .val (.int x1), .val (.int x2), .val (.int (2 : Int32)), .val (.int (0 : Int32)), .val v285, .val v294, .val v305, .val (.ref b318), .unset] []))
    refine own_go (fun _ k => XS.iloadN X352.here hx rfl (hb hby at_90) rfl k) ?_
    show own_G p.tables e below _ (T352.setTop (mkF m 91 #[.val (.int x0), .val (.int x1), .val (.int x2), .val (.int (2 : Int32)), .val (.int (0 : Int32)), .val v285, .val v294, .val v305, .val (.ref b318), .unset] [(.int (2 : Int32))]))
    refine own_go (fun _ k => XS.ifNo X352.here hx rfl (hb hby at_91) rfl (((if0 _ _).trans (tlt (by decide : (0 : Int32) < (2 : Int32))).2.2.2)) k) ?_
    show own_G p.tables e below _ (T352.setTop (mkF m 94 #[.val (.int x0), .val (.int x1), .val (.int x2), .val (.int (2 : Int32)), .val (.int (0 : Int32)), .val v285, .val v294, .val v305, .val (.ref b318), .unset] []))
    refine own_go (fun _ k => XS.aload X352.here hx rfl (hb hby at_94) rfl rfl k) ?_
    show own_G p.tables e below _ (T352.setTop (mkF m 96 #[.val (.int x0), .val (.int x1), .val (.int x2), .val (.int (2 : Int32)), .val (.int (0 : Int32)), .val v285, .val v294, .val v305, .val (.ref b318), .unset] [(.ref b318)]))
    refine own_go (fun _ k => XS.aload X352.here hx rfl (hb hby at_96) rfl hr285 k) ?_
    show own_G p.tables e below _ (T352.setTop (mkF m 98 #[.val (.int x0), .val (.int x1), .val (.int x2), .val (.int (2 : Int32)), .val (.int (0 : Int32)), .val v285, .val v294, .val v305, .val (.ref b318), .unset] [v285, (.ref b318)]))
    obtain ⟨cq441, kq441, q441a, q441b, q441c⟩ := isOf hZ rfl G_353
    obtain ⟨_, _, ⟨T441, L441, k441, n441⟩, -, X441, ⟨Lc441, hQ441, l441, y441, z441⟩, st441⟩ := X352.virtualBack hx (y := (⟨"com/example/plainsong/plainsong/engine/CallStack", "push", "(Lcom/example/plainsong/plainsong/engine/CallStack$Activation;)V"⟩ : MethodName)) (z := (⟨"com/example/plainsong/plainsong/engine/CallStack", "push", "(Lcom/example/plainsong/plainsong/engine/CallStack$Activation;)V"⟩ : MethodName)) hown (mvT hZ (hw _ (List.mem_of_getElem? (i := 63) rfl))) (mvT hZ (hw _ (List.mem_of_getElem? (i := 64) rfl))) (notFace_of_selects (args := #[]) (mvT hZ (hw _ (List.mem_of_getElem? (i := 66) rfl)))) (mvT hZ (hw _ (List.mem_of_getElem? (i := 66) rfl))) (mvT hZ (hw _ (List.mem_of_getElem? (i := 65) rfl))) (by decide) (backOf (W := 0) (rm_push0 l Z a0 hw [] b318 v285 b352 k352 .null .null .null T352.heap n0 Z_364 G_353 G_354 G_355 V352 ge_319 ge_358 ne_356 hr285 O352 Av_361) hZ (hw _ (List.mem_of_getElem? (i := 67) rfl)) (hw _ (List.mem_of_getElem? (i := 12) rfl)) (by decide) (by decide)) q441a q441c (g := (mkF m 98 #[.val (.int x0), .val (.int x1), .val (.int x2), .val (.int (2 : Int32)), .val (.int (0 : Int32)), .val v285, .val v294, .val v305, .val (.ref b318), .unset] [v285, (.ref b318)])) rfl (by rw [hml]; rfl) (Steps.refl _) (argsL := [v285]) (rest := []) (lenOf own_pd6 rfl) rfl (by show 2 * 0 + _ ≤ _; exact Nat.le_of_eq rfl) (hb hby at_98) (fun _ _ => ⟨rfl, rfl, (by decide : 7 + 0 ≤ _), (by decide : 30 + 0 ≤ _)⟩)
    dsimp only [Pt.U, Pt.locs, Pt.cells, Pt.slots] at X441 l441 y441 z441 st441 hQ441
    subst l441 y441 z441
    obtain ⟨rfl, Nq441, K441, G_442, G_443, G_444, G_445⟩ := hQ441
    have X_446 := G_353.keep K441
    have X_447 := X_360.keep K441
    have Av_448 := own_avK Av_361 K441
    have Av_449 := own_avK Av_362 K441
    have Av_450 := own_avK Av_363 K441
    have Z_451 : n0 ≤ T441.heap.size := Nat.le_trans Z_364 K441.1
    have N_441 := Fr.app N_352 Nq441
    refine own_go (fun _ k => st441.trans k) ?_
    show own_G p.tables e below _ (T441.setTop (mkF m 101 #[.val (.int x0), .val (.int x1), .val (.int x2), .val (.int (2 : Int32)), .val (.int (0 : Int32)), .val v285, .val v294, .val v305, .val (.ref b318), .unset] []))
    refine own_go (fun _ k => XS.iloadN X441.here hx rfl (hb hby at_101) rfl k) ?_
    show own_G p.tables e below _ (T441.setTop (mkF m 102 #[.val (.int x0), .val (.int x1), .val (.int x2), .val (.int (2 : Int32)), .val (.int (0 : Int32)), .val v285, .val v294, .val v305, .val (.ref b318), .unset] [(.int (2 : Int32))]))
    refine own_go (fun _ k => XS.iconst X441.here hx rfl (hb hby at_102) k) ?_
    show own_G p.tables e below _ (T441.setTop (mkF m 103 #[.val (.int x0), .val (.int x1), .val (.int x2), .val (.int (2 : Int32)), .val (.int (0 : Int32)), .val v285, .val v294, .val v305, .val (.ref b318), .unset] [(.int (1 : Int32)), (.int (2 : Int32))]))
    refine own_go (fun _ k => XS.icmpNo X441.here hx rfl (hb hby at_103) rfl ((tlt (by decide : (1 : Int32) < (2 : Int32))).2.2.2) k) ?_
    show own_G p.tables e below _ (T441.setTop (mkF m 106 #[.val (.int x0), .val (.int x1), .val (.int x2), .val (.int (2 : Int32)), .val (.int (0 : Int32)), .val v285, .val v294, .val v305, .val (.ref b318), .unset] []))
    refine own_go (fun _ k => XS.aload X441.here hx rfl (hb hby at_106) rfl rfl k) ?_
    show own_G p.tables e below _ (T441.setTop (mkF m 108 #[.val (.int x0), .val (.int x1), .val (.int x2), .val (.int (2 : Int32)), .val (.int (0 : Int32)), .val v285, .val v294, .val v305, .val (.ref b318), .unset] [(.ref b318)]))
    refine own_go (fun _ k => XS.aload X441.here hx rfl (hb hby at_108) rfl hr294 k) ?_
    show own_G p.tables e below _ (T441.setTop (mkF m 110 #[.val (.int x0), .val (.int x1), .val (.int x2), .val (.int (2 : Int32)), .val (.int (0 : Int32)), .val v285, .val v294, .val v305, .val (.ref b318), .unset] [v294, (.ref b318)]))
    obtain ⟨cq452, kq452, q452a, q452b, q452c⟩ := isOf hZ rfl G_442
    obtain ⟨_, _, ⟨T452, L452, k452, n452⟩, -, X452, ⟨Lc452, hQ452, l452, y452, z452⟩, st452⟩ := X441.virtualBack hx (y := (⟨"com/example/plainsong/plainsong/engine/CallStack", "push", "(Lcom/example/plainsong/plainsong/engine/CallStack$Activation;)V"⟩ : MethodName)) (z := (⟨"com/example/plainsong/plainsong/engine/CallStack", "push", "(Lcom/example/plainsong/plainsong/engine/CallStack$Activation;)V"⟩ : MethodName)) hown (mvT hZ (hw _ (List.mem_of_getElem? (i := 63) rfl))) (mvT hZ (hw _ (List.mem_of_getElem? (i := 64) rfl))) (notFace_of_selects (args := #[]) (mvT hZ (hw _ (List.mem_of_getElem? (i := 66) rfl)))) (mvT hZ (hw _ (List.mem_of_getElem? (i := 66) rfl))) (mvT hZ (hw _ (List.mem_of_getElem? (i := 65) rfl))) (by decide) (backOf (W := 0) (rm_push1 l Z a0 hw [] b318 v294 b352 k352 v285 .null .null T441.heap n0 Z_451 G_442 G_443 G_444 G_445 ge_319 ge_358 ne_356 hr294 O352 Av_449) hZ (hw _ (List.mem_of_getElem? (i := 67) rfl)) (hw _ (List.mem_of_getElem? (i := 12) rfl)) (by decide) (by decide)) q452a q452c (g := (mkF m 110 #[.val (.int x0), .val (.int x1), .val (.int x2), .val (.int (2 : Int32)), .val (.int (0 : Int32)), .val v285, .val v294, .val v305, .val (.ref b318), .unset] [v294, (.ref b318)])) rfl (by rw [hml]; rfl) (Steps.refl _) (argsL := [v294]) (rest := []) (lenOf own_pd6 rfl) rfl (by show 2 * 0 + _ ≤ _; exact Nat.le_of_eq rfl) (hb hby at_110) (fun _ _ => ⟨rfl, rfl, (by decide : 7 + 0 ≤ _), (by decide : 30 + 0 ≤ _)⟩)
    dsimp only [Pt.U, Pt.locs, Pt.cells, Pt.slots] at X452 l452 y452 z452 st452 hQ452
    subst l452 y452 z452
    obtain ⟨rfl, Nq452, K452, G_453, G_454, G_455, G_456⟩ := hQ452
    have X_457 := G_442.keep K452
    have X_458 := X_447.keep K452
    have Av_459 := own_avK Av_448 K452
    have Av_460 := own_avK Av_449 K452
    have Av_461 := own_avK Av_450 K452
    have Z_462 : n0 ≤ T452.heap.size := Nat.le_trans Z_451 K452.1
    have N_452 := Fr.app N_441 Nq452
    refine own_go (fun _ k => st452.trans k) ?_
    show own_G p.tables e below _ (T452.setTop (mkF m 113 #[.val (.int x0), .val (.int x1), .val (.int x2), .val (.int (2 : Int32)), .val (.int (0 : Int32)), .val v285, .val v294, .val v305, .val (.ref b318), .unset] []))
    refine own_go (fun _ k => XS.iloadN X452.here hx rfl (hb hby at_113) rfl k) ?_
    show own_G p.tables e below _ (T452.setTop (mkF m 114 #[.val (.int x0), .val (.int x1), .val (.int x2), .val (.int (2 : Int32)), .val (.int (0 : Int32)), .val v285, .val v294, .val v305, .val (.ref b318), .unset] [(.int (2 : Int32))]))
    refine own_go (fun _ k => XS.iconst X452.here hx rfl (hb hby at_114) k) ?_
    show own_G p.tables e below _ (T452.setTop (mkF m 115 #[.val (.int x0), .val (.int x1), .val (.int x2), .val (.int (2 : Int32)), .val (.int (0 : Int32)), .val v285, .val v294, .val v305, .val (.ref b318), .unset] [(.int (2 : Int32)), (.int (2 : Int32))]))
    refine own_go (fun _ k => XS.icmpYes X452.here hx rfl (pc0 := 115) (pc' := 125) rfl (hb hby at_115) rfl ((flt (by decide : ¬ ((2 : Int32) < (2 : Int32)))).2.2.2) (by decide) (by decide) k) ?_
    show own_G p.tables e below _ (T452.setTop (mkF m 125 #[.val (.int x0), .val (.int x1), .val (.int x2), .val (.int (2 : Int32)), .val (.int (0 : Int32)), .val v285, .val v294, .val v305, .val (.ref b318), .unset] []))
    refine own_go (fun _ k => XS.aload X452.here hx rfl (hb hby at_125) rfl rfl k) ?_
    show own_G p.tables e below _ (T452.setTop (mkF m 127 #[.val (.int x0), .val (.int x1), .val (.int x2), .val (.int (2 : Int32)), .val (.int (0 : Int32)), .val v285, .val v294, .val v305, .val (.ref b318), .unset] [(.ref b318)]))
    refine own_go (fun _ k => XS.iload X452.here hx rfl (hb hby at_127) rfl k) ?_
    show own_G p.tables e below _ (T452.setTop (mkF m 129 #[.val (.int x0), .val (.int x1), .val (.int x2), .val (.int (2 : Int32)), .val (.int (0 : Int32)), .val v285, .val v294, .val v305, .val (.ref b318), .unset] [(.int (0 : Int32)), (.ref b318)]))
    obtain ⟨cq463, kq463, q463a, q463b, q463c⟩ := isOf hZ rfl G_453
    obtain ⟨_, _, ⟨T463, L463, k463, n463⟩, -, X463, ⟨Lc463, hQ463, l463, y463, z463⟩, st463⟩ := X452.virtualBack hx (y := (⟨"com/example/plainsong/plainsong/engine/CallStack", "truncate", "(I)V"⟩ : MethodName)) (z := (⟨"com/example/plainsong/plainsong/engine/CallStack", "truncate", "(I)V"⟩ : MethodName)) hown (mvT hZ (hw _ (List.mem_of_getElem? (i := 43) rfl))) (mvT hZ (hw _ (List.mem_of_getElem? (i := 44) rfl))) (notFace_of_selects (args := #[]) (mvT hZ (hw _ (List.mem_of_getElem? (i := 46) rfl)))) (mvT hZ (hw _ (List.mem_of_getElem? (i := 46) rfl))) (mvT hZ (hw _ (List.mem_of_getElem? (i := 45) rfl))) (by decide) (backOf (W := 0) (rm_tr20 l Z a0 hw [] b318 b352 k352 v285 v294 .null T452.heap n0 Z_462 G_453 G_454 G_455 G_456 ge_319 ge_358 ne_356) hZ (hw _ (List.mem_of_getElem? (i := 47) rfl)) (hw _ (List.mem_of_getElem? (i := 12) rfl)) (by decide) (by decide)) q463a q463c (g := (mkF m 129 #[.val (.int x0), .val (.int x1), .val (.int x2), .val (.int (2 : Int32)), .val (.int (0 : Int32)), .val v285, .val v294, .val v305, .val (.ref b318), .unset] [(.int (0 : Int32)), (.ref b318)])) rfl (by rw [hml]; rfl) (Steps.refl _) (argsL := [(.int (0 : Int32))]) (rest := []) (lenOf own_pd2 rfl) rfl (by show 2 * 0 + _ ≤ _; exact Nat.le_of_eq rfl) (hb hby at_129) (fun _ _ => ⟨rfl, rfl, (by decide : 7 + 0 ≤ _), (by decide : 30 + 0 ≤ _)⟩)
    dsimp only [Pt.U, Pt.locs, Pt.cells, Pt.slots] at X463 l463 y463 z463 st463 hQ463
    subst l463 y463 z463
    obtain ⟨rfl, Nq463, K463, G_464, G_465, G_466, G_467⟩ := hQ463
    have X_468 := G_453.keep K463
    have X_469 := X_458.keep K463
    have Av_470 := own_avK Av_459 K463
    have Av_471 := own_avK Av_460 K463
    have Av_472 := own_avK Av_461 K463
    have Z_473 : n0 ≤ T463.heap.size := Nat.le_trans Z_462 K463.1
    have N_463 := Fr.app N_452 Nq463
    refine own_go (fun _ k => st463.trans k) ?_
    show own_G p.tables e below _ (T463.setTop (mkF m 132 #[.val (.int x0), .val (.int x1), .val (.int x2), .val (.int (2 : Int32)), .val (.int (0 : Int32)), .val v285, .val v294, .val v305, .val (.ref b318), .unset] []))
    refine own_go (fun _ k => XS.aload X463.here hx rfl (hb hby at_132) rfl rfl k) ?_
    show own_G p.tables e below _ (T463.setTop (mkF m 134 #[.val (.int x0), .val (.int x1), .val (.int x2), .val (.int (2 : Int32)), .val (.int (0 : Int32)), .val v285, .val v294, .val v305, .val (.ref b318), .unset] [(.ref b318)]))
    obtain ⟨T474, X474, e474, st474⟩ := own_callV X463 hx hZ (y := (⟨"com/example/plainsong/plainsong/engine/CallStack", "depth", "()I"⟩ : MethodName)) hown (hw _ (List.mem_of_getElem? (i := 50) rfl)) (hw _ (List.mem_of_getElem? (i := 51) rfl)) (hw _ (List.mem_of_getElem? (i := 53) rfl)) (hw _ (List.mem_of_getElem? (i := 52) rfl)) (hw _ (List.mem_of_getElem? (i := 12) rfl)) (hw _ (List.mem_of_getElem? (i := 54) rfl)) (by decide) (W := 0) (rm7 l Z a0 hw [] b318 (0 : Int32) T463.heap G_466) (by decide) (by decide) rfl rfl rfl G_464 (g := (mkF m 134 #[.val (.int x0), .val (.int x1), .val (.int x2), .val (.int (2 : Int32)), .val (.int (0 : Int32)), .val v285, .val v294, .val v305, .val (.ref b318), .unset] [(.ref b318)])) rfl (by rw [hml]; rfl) (argsL := []) (rest := []) (lenOf own_pd3 rfl) rfl rfl (by show 2 * 0 + _ ≤ _; exact Nat.le_of_eq rfl) (hb hby at_134) (by decide) (by decide)
    refine own_go st474 ?_
    show own_G p.tables e below _ (T474.setTop (mkF m 137 #[.val (.int x0), .val (.int x1), .val (.int x2), .val (.int (2 : Int32)), .val (.int (0 : Int32)), .val v285, .val v294, .val v305, .val (.ref b318), .unset] [(.int (0 : Int32))]))
    refine own_go (fun _ k => XS.iload X474.here hx rfl (hb hby at_137) rfl k) ?_
    show own_G p.tables e below _ (T474.setTop (mkF m 139 #[.val (.int x0), .val (.int x1), .val (.int x2), .val (.int (2 : Int32)), .val (.int (0 : Int32)), .val v285, .val v294, .val v305, .val (.ref b318), .unset] [(.int (0 : Int32)), (.int (0 : Int32))]))
    refine own_go (fun _ k => XS.icmpNo X474.here hx rfl (hb hby at_139) rfl ((teq (by decide : (0 : Int32) = (0 : Int32))).2) k) ?_
    show own_G p.tables e below _ (T474.setTop (mkF m 142 #[.val (.int x0), .val (.int x1), .val (.int x2), .val (.int (2 : Int32)), .val (.int (0 : Int32)), .val v285, .val v294, .val v305, .val (.ref b318), .unset] []))
    refine own_go (fun _ k => XS.iconst X474.here hx rfl (hb hby at_142) k) ?_
    show own_G p.tables e below _ (T474.setTop (mkF m 143 #[.val (.int x0), .val (.int x1), .val (.int x2), .val (.int (2 : Int32)), .val (.int (0 : Int32)), .val v285, .val v294, .val v305, .val (.ref b318), .unset] [(.int (1 : Int32))]))
    refine own_go (fun _ k => XS.goto X474.here hx rfl (pc0 := 143) (pc' := 147) rfl (hb hby at_143) (by decide) (by decide) k) ?_
    show own_G p.tables e below _ (T474.setTop (mkF m 147 #[.val (.int x0), .val (.int x1), .val (.int x2), .val (.int (2 : Int32)), .val (.int (0 : Int32)), .val v285, .val v294, .val v305, .val (.ref b318), .unset] [(.int (1 : Int32))]))
    refine own_go (fun _ k => XS.istore X474.here hx rfl (hb hby at_147) rfl (l' := #[.val (.int x0), .val (.int x1), .val (.int x2), .val (.int (2 : Int32)), .val (.int (0 : Int32)), .val v285, .val v294, .val v305, .val (.ref b318), .val (.int (1 : Int32))]) rfl k) ?_
    show own_G p.tables e below _ (T474.setTop (mkF m 149 #[.val (.int x0), .val (.int x1), .val (.int x2), .val (.int (2 : Int32)), .val (.int (0 : Int32)), .val v285, .val v294, .val v305, .val (.ref b318), .val (.int (1 : Int32))] []))
    refine own_go (fun _ k => XS.iload X474.here hx rfl (hb hby at_149) rfl k) ?_
    show own_G p.tables e below _ (T474.setTop (mkF m 151 #[.val (.int x0), .val (.int x1), .val (.int x2), .val (.int (2 : Int32)), .val (.int (0 : Int32)), .val v285, .val v294, .val v305, .val (.ref b318), .val (.int (1 : Int32))] [(.int (1 : Int32))]))
    refine own_go (fun _ k => XS.ifNo X474.here hx rfl (hb hby at_151) rfl (((if0 _ _).trans (feq (by decide : ¬ ((1 : Int32) = (0 : Int32)))).1)) k) ?_
    show own_G p.tables e below _ (T474.setTop (mkF m 154 #[.val (.int x0), .val (.int x1), .val (.int x2), .val (.int (2 : Int32)), .val (.int (0 : Int32)), .val v285, .val v294, .val v305, .val (.ref b318), .val (.int (1 : Int32))] []))
    refine own_go (fun _ k => XS.aload X474.here hx rfl (hb hby at_154) rfl rfl k) ?_
    show own_G p.tables e below _ (T474.setTop (mkF m 156 #[.val (.int x0), .val (.int x1), .val (.int x2), .val (.int (2 : Int32)), .val (.int (0 : Int32)), .val v285, .val v294, .val v305, .val (.ref b318), .val (.int (1 : Int32))] [(.ref b318)]))
    refine own_go (fun _ k => XS.iconst X474.here hx rfl (hb hby at_156) k) ?_
    show own_G p.tables e below _ (T474.setTop (mkF m 157 #[.val (.int x0), .val (.int x1), .val (.int x2), .val (.int (2 : Int32)), .val (.int (0 : Int32)), .val v285, .val v294, .val v305, .val (.ref b318), .val (.int (1 : Int32))] [(.int (0 : Int32)), (.ref b318)]))
    obtain ⟨T475, X475, e475, st475⟩ := own_callV X474 hx hZ (y := (⟨"com/example/plainsong/plainsong/engine/CallStack", "entry", "(I)Lcom/example/plainsong/plainsong/engine/CallStack$Activation;"⟩ : MethodName)) hown (hw _ (List.mem_of_getElem? (i := 55) rfl)) (hw _ (List.mem_of_getElem? (i := 56) rfl)) (hw _ (List.mem_of_getElem? (i := 58) rfl)) (hw _ (List.mem_of_getElem? (i := 57) rfl)) (hw _ (List.mem_of_getElem? (i := 12) rfl)) (hw _ (List.mem_of_getElem? (i := 59) rfl)) (by decide) (W := 0) (rm_ent0 l Z a0 hw [] b318 b352 k352 .null .null .null T463.heap G_465 G_467 rfl) (by decide) (by decide) rfl rfl e474 G_464 (g := (mkF m 157 #[.val (.int x0), .val (.int x1), .val (.int x2), .val (.int (2 : Int32)), .val (.int (0 : Int32)), .val v285, .val v294, .val v305, .val (.ref b318), .val (.int (1 : Int32))] [(.int (0 : Int32)), (.ref b318)])) rfl (by rw [hml]; rfl) (argsL := [(.int (0 : Int32))]) (rest := []) (lenOf own_pd4 rfl) rfl rfl (by show 2 * 0 + _ ≤ _; exact Nat.le_of_eq rfl) (hb hby at_157) (by decide) (by decide)
    refine own_go st475 ?_
    show own_G p.tables e below _ (T475.setTop (mkF m 160 #[.val (.int x0), .val (.int x1), .val (.int x2), .val (.int (2 : Int32)), .val (.int (0 : Int32)), .val v285, .val v294, .val v305, .val (.ref b318), .val (.int (1 : Int32))] [.null]))
    refine own_go (fun _ k => XS.iconst X475.here hx rfl (hb hby at_160) k) ?_
    show own_G p.tables e below _ (T475.setTop (mkF m 161 #[.val (.int x0), .val (.int x1), .val (.int x2), .val (.int (2 : Int32)), .val (.int (0 : Int32)), .val v285, .val v294, .val v305, .val (.ref b318), .val (.int (1 : Int32))] [(.int (0 : Int32)), .null]))
    refine own_go (fun _ k => XS.iload X475.here hx rfl (hb hby at_161) rfl k) ?_
    show own_G p.tables e below _ (T475.setTop (mkF m 163 #[.val (.int x0), .val (.int x1), .val (.int x2), .val (.int (2 : Int32)), .val (.int (0 : Int32)), .val v285, .val v294, .val v305, .val (.ref b318), .val (.int (1 : Int32))] [(.int (0 : Int32)), (.int (0 : Int32)), .null]))
    refine own_go (fun _ k => XS.aload X475.here hx rfl (hb hby at_163) rfl hr285 k) ?_
    show own_G p.tables e below _ (T475.setTop (mkF m 165 #[.val (.int x0), .val (.int x1), .val (.int x2), .val (.int (2 : Int32)), .val (.int (0 : Int32)), .val v285, .val v294, .val v305, .val (.ref b318), .val (.int (1 : Int32))] [v285, (.int (0 : Int32)), (.int (0 : Int32)), .null]))
    obtain ⟨T476, X476, e476, st476⟩ := own_callP X475 hx hZ (y := (⟨"com/example/plainsong/plainsong/engine/CallStackTruncatePinLaw", "expected", "(IILcom/example/plainsong/plainsong/engine/CallStack$Activation;)Lcom/example/plainsong/plainsong/engine/CallStack$Activation;"⟩ : MethodName)) hown (hw _ (List.mem_of_getElem? (i := 60) rfl)) (hw _ (List.mem_of_getElem? (i := 61) rfl)) (hw _ (List.mem_of_getElem? (i := 3) rfl)) (hw _ (List.mem_of_getElem? (i := 62) rfl)) (by decide) (W := 1) (rm_expge l Z a0 hw [] (0 : Int32) (0 : Int32) v285  T463.heap hr285 (by decide)) (by decide) (by decide) rfl rfl e475 (g := (mkF m 165 #[.val (.int x0), .val (.int x1), .val (.int x2), .val (.int (2 : Int32)), .val (.int (0 : Int32)), .val v285, .val v294, .val v305, .val (.ref b318), .val (.int (1 : Int32))] [v285, (.int (0 : Int32)), (.int (0 : Int32)), .null])) rfl (by rw [hml]; rfl) (argsL := [(.int (0 : Int32)), (.int (0 : Int32)), v285]) (rest := [.null]) (lenOf own_pd5 rfl) rfl rfl (by show 2 * 0 + _ ≤ _; exact Nat.le_of_eq rfl) (hb hby at_165) (by decide) (by decide)
    refine own_go st476 ?_
    show own_G p.tables e below _ (T476.setTop (mkF m 168 #[.val (.int x0), .val (.int x1), .val (.int x2), .val (.int (2 : Int32)), .val (.int (0 : Int32)), .val v285, .val v294, .val v305, .val (.ref b318), .val (.int (1 : Int32))] [.null, .null]))
    refine own_go (fun _ k => Jvm.RoadKit.acmp (g := (mkF m 168 #[.val (.int x0), .val (.int x1), .val (.int x2), .val (.int (2 : Int32)), .val (.int (0 : Int32)), .val v285, .val v294, .val v305, .val (.ref b318), .val (.int (1 : Int32))] [.null, .null])) X476 hx rfl rfl rfl (pc0 := 168) (pc' := 171) (same := true) rfl (hb hby at_168) rfl (decide_eq_true rfl) (by decide) (by decide) k) ?_
    show own_G p.tables e below _ (T476.setTop (mkF m 171 #[.val (.int x0), .val (.int x1), .val (.int x2), .val (.int (2 : Int32)), .val (.int (0 : Int32)), .val v285, .val v294, .val v305, .val (.ref b318), .val (.int (1 : Int32))] []))
    refine own_go (fun _ k => XS.iconst X476.here hx rfl (hb hby at_171) k) ?_
    show own_G p.tables e below _ (T476.setTop (mkF m 172 #[.val (.int x0), .val (.int x1), .val (.int x2), .val (.int (2 : Int32)), .val (.int (0 : Int32)), .val v285, .val v294, .val v305, .val (.ref b318), .val (.int (1 : Int32))] [(.int (1 : Int32))]))
    refine own_go (fun _ k => XS.goto X476.here hx rfl (pc0 := 172) (pc' := 176) rfl (hb hby at_172) (by decide) (by decide) k) ?_
    show own_G p.tables e below _ (T476.setTop (mkF m 176 #[.val (.int x0), .val (.int x1), .val (.int x2), .val (.int (2 : Int32)), .val (.int (0 : Int32)), .val v285, .val v294, .val v305, .val (.ref b318), .val (.int (1 : Int32))] [(.int (1 : Int32))]))
    refine own_go (fun _ k => XS.istore X476.here hx rfl (hb hby at_176) rfl (l' := #[.val (.int x0), .val (.int x1), .val (.int x2), .val (.int (2 : Int32)), .val (.int (0 : Int32)), .val v285, .val v294, .val v305, .val (.ref b318), .val (.int (1 : Int32))]) rfl k) ?_
    show own_G p.tables e below _ (T476.setTop (mkF m 178 #[.val (.int x0), .val (.int x1), .val (.int x2), .val (.int (2 : Int32)), .val (.int (0 : Int32)), .val v285, .val v294, .val v305, .val (.ref b318), .val (.int (1 : Int32))] []))
    refine own_go (fun _ k => XS.iload X476.here hx rfl (hb hby at_178) rfl k) ?_
    show own_G p.tables e below _ (T476.setTop (mkF m 180 #[.val (.int x0), .val (.int x1), .val (.int x2), .val (.int (2 : Int32)), .val (.int (0 : Int32)), .val v285, .val v294, .val v305, .val (.ref b318), .val (.int (1 : Int32))] [(.int (1 : Int32))]))
    refine own_go (fun _ k => XS.ifNo X476.here hx rfl (hb hby at_180) rfl (((if0 _ _).trans (feq (by decide : ¬ ((1 : Int32) = (0 : Int32)))).1)) k) ?_
    show own_G p.tables e below _ (T476.setTop (mkF m 183 #[.val (.int x0), .val (.int x1), .val (.int x2), .val (.int (2 : Int32)), .val (.int (0 : Int32)), .val v285, .val v294, .val v305, .val (.ref b318), .val (.int (1 : Int32))] []))
    refine own_go (fun _ k => XS.aload X476.here hx rfl (hb hby at_183) rfl rfl k) ?_
    show own_G p.tables e below _ (T476.setTop (mkF m 185 #[.val (.int x0), .val (.int x1), .val (.int x2), .val (.int (2 : Int32)), .val (.int (0 : Int32)), .val v285, .val v294, .val v305, .val (.ref b318), .val (.int (1 : Int32))] [(.ref b318)]))
    refine own_go (fun _ k => XS.iconst X476.here hx rfl (hb hby at_185) k) ?_
    show own_G p.tables e below _ (T476.setTop (mkF m 186 #[.val (.int x0), .val (.int x1), .val (.int x2), .val (.int (2 : Int32)), .val (.int (0 : Int32)), .val v285, .val v294, .val v305, .val (.ref b318), .val (.int (1 : Int32))] [(.int (1 : Int32)), (.ref b318)]))
    obtain ⟨T477, X477, e477, st477⟩ := own_callV X476 hx hZ (y := (⟨"com/example/plainsong/plainsong/engine/CallStack", "entry", "(I)Lcom/example/plainsong/plainsong/engine/CallStack$Activation;"⟩ : MethodName)) hown (hw _ (List.mem_of_getElem? (i := 55) rfl)) (hw _ (List.mem_of_getElem? (i := 56) rfl)) (hw _ (List.mem_of_getElem? (i := 58) rfl)) (hw _ (List.mem_of_getElem? (i := 57) rfl)) (hw _ (List.mem_of_getElem? (i := 12) rfl)) (hw _ (List.mem_of_getElem? (i := 59) rfl)) (by decide) (W := 0) (rm_ent1 l Z a0 hw [] b318 b352 k352 .null .null .null T463.heap G_465 G_467 rfl) (by decide) (by decide) rfl rfl e476 G_464 (g := (mkF m 186 #[.val (.int x0), .val (.int x1), .val (.int x2), .val (.int (2 : Int32)), .val (.int (0 : Int32)), .val v285, .val v294, .val v305, .val (.ref b318), .val (.int (1 : Int32))] [(.int (1 : Int32)), (.ref b318)])) rfl (by rw [hml]; rfl) (argsL := [(.int (1 : Int32))]) (rest := []) (lenOf own_pd4 rfl) rfl rfl (by show 2 * 0 + _ ≤ _; exact Nat.le_of_eq rfl) (hb hby at_186) (by decide) (by decide)
    refine own_go st477 ?_
    show own_G p.tables e below _ (T477.setTop (mkF m 189 #[.val (.int x0), .val (.int x1), .val (.int x2), .val (.int (2 : Int32)), .val (.int (0 : Int32)), .val v285, .val v294, .val v305, .val (.ref b318), .val (.int (1 : Int32))] [.null]))
    refine own_go (fun _ k => XS.iconst X477.here hx rfl (hb hby at_189) k) ?_
    show own_G p.tables e below _ (T477.setTop (mkF m 190 #[.val (.int x0), .val (.int x1), .val (.int x2), .val (.int (2 : Int32)), .val (.int (0 : Int32)), .val v285, .val v294, .val v305, .val (.ref b318), .val (.int (1 : Int32))] [(.int (1 : Int32)), .null]))
    refine own_go (fun _ k => XS.iload X477.here hx rfl (hb hby at_190) rfl k) ?_
    show own_G p.tables e below _ (T477.setTop (mkF m 192 #[.val (.int x0), .val (.int x1), .val (.int x2), .val (.int (2 : Int32)), .val (.int (0 : Int32)), .val v285, .val v294, .val v305, .val (.ref b318), .val (.int (1 : Int32))] [(.int (0 : Int32)), (.int (1 : Int32)), .null]))
    refine own_go (fun _ k => XS.aload X477.here hx rfl (hb hby at_192) rfl hr294 k) ?_
    show own_G p.tables e below _ (T477.setTop (mkF m 194 #[.val (.int x0), .val (.int x1), .val (.int x2), .val (.int (2 : Int32)), .val (.int (0 : Int32)), .val v285, .val v294, .val v305, .val (.ref b318), .val (.int (1 : Int32))] [v294, (.int (0 : Int32)), (.int (1 : Int32)), .null]))
    obtain ⟨T478, X478, e478, st478⟩ := own_callP X477 hx hZ (y := (⟨"com/example/plainsong/plainsong/engine/CallStackTruncatePinLaw", "expected", "(IILcom/example/plainsong/plainsong/engine/CallStack$Activation;)Lcom/example/plainsong/plainsong/engine/CallStack$Activation;"⟩ : MethodName)) hown (hw _ (List.mem_of_getElem? (i := 60) rfl)) (hw _ (List.mem_of_getElem? (i := 61) rfl)) (hw _ (List.mem_of_getElem? (i := 3) rfl)) (hw _ (List.mem_of_getElem? (i := 62) rfl)) (by decide) (W := 1) (rm_expge l Z a0 hw [] (1 : Int32) (0 : Int32) v294  T463.heap hr294 (by decide)) (by decide) (by decide) rfl rfl e477 (g := (mkF m 194 #[.val (.int x0), .val (.int x1), .val (.int x2), .val (.int (2 : Int32)), .val (.int (0 : Int32)), .val v285, .val v294, .val v305, .val (.ref b318), .val (.int (1 : Int32))] [v294, (.int (0 : Int32)), (.int (1 : Int32)), .null])) rfl (by rw [hml]; rfl) (argsL := [(.int (1 : Int32)), (.int (0 : Int32)), v294]) (rest := [.null]) (lenOf own_pd5 rfl) rfl rfl (by show 2 * 0 + _ ≤ _; exact Nat.le_of_eq rfl) (hb hby at_194) (by decide) (by decide)
    refine own_go st478 ?_
    show own_G p.tables e below _ (T478.setTop (mkF m 197 #[.val (.int x0), .val (.int x1), .val (.int x2), .val (.int (2 : Int32)), .val (.int (0 : Int32)), .val v285, .val v294, .val v305, .val (.ref b318), .val (.int (1 : Int32))] [.null, .null]))
    refine own_go (fun _ k => Jvm.RoadKit.acmp (g := (mkF m 197 #[.val (.int x0), .val (.int x1), .val (.int x2), .val (.int (2 : Int32)), .val (.int (0 : Int32)), .val v285, .val v294, .val v305, .val (.ref b318), .val (.int (1 : Int32))] [.null, .null])) X478 hx rfl rfl rfl (pc0 := 197) (pc' := 200) (same := true) rfl (hb hby at_197) rfl (decide_eq_true rfl) (by decide) (by decide) k) ?_
    show own_G p.tables e below _ (T478.setTop (mkF m 200 #[.val (.int x0), .val (.int x1), .val (.int x2), .val (.int (2 : Int32)), .val (.int (0 : Int32)), .val v285, .val v294, .val v305, .val (.ref b318), .val (.int (1 : Int32))] []))
    refine own_go (fun _ k => XS.iconst X478.here hx rfl (hb hby at_200) k) ?_
    show own_G p.tables e below _ (T478.setTop (mkF m 201 #[.val (.int x0), .val (.int x1), .val (.int x2), .val (.int (2 : Int32)), .val (.int (0 : Int32)), .val v285, .val v294, .val v305, .val (.ref b318), .val (.int (1 : Int32))] [(.int (1 : Int32))]))
    refine own_go (fun _ k => XS.goto X478.here hx rfl (pc0 := 201) (pc' := 205) rfl (hb hby at_201) (by decide) (by decide) k) ?_
    show own_G p.tables e below _ (T478.setTop (mkF m 205 #[.val (.int x0), .val (.int x1), .val (.int x2), .val (.int (2 : Int32)), .val (.int (0 : Int32)), .val v285, .val v294, .val v305, .val (.ref b318), .val (.int (1 : Int32))] [(.int (1 : Int32))]))
    refine own_go (fun _ k => XS.istore X478.here hx rfl (hb hby at_205) rfl (l' := #[.val (.int x0), .val (.int x1), .val (.int x2), .val (.int (2 : Int32)), .val (.int (0 : Int32)), .val v285, .val v294, .val v305, .val (.ref b318), .val (.int (1 : Int32))]) rfl k) ?_
    show own_G p.tables e below _ (T478.setTop (mkF m 207 #[.val (.int x0), .val (.int x1), .val (.int x2), .val (.int (2 : Int32)), .val (.int (0 : Int32)), .val v285, .val v294, .val v305, .val (.ref b318), .val (.int (1 : Int32))] []))
    refine own_go (fun _ k => XS.iload X478.here hx rfl (hb hby at_207) rfl k) ?_
    show own_G p.tables e below _ (T478.setTop (mkF m 209 #[.val (.int x0), .val (.int x1), .val (.int x2), .val (.int (2 : Int32)), .val (.int (0 : Int32)), .val v285, .val v294, .val v305, .val (.ref b318), .val (.int (1 : Int32))] [(.int (1 : Int32))]))
    refine own_go (fun _ k => XS.ifNo X478.here hx rfl (hb hby at_209) rfl (((if0 _ _).trans (feq (by decide : ¬ ((1 : Int32) = (0 : Int32)))).1)) k) ?_
    show own_G p.tables e below _ (T478.setTop (mkF m 212 #[.val (.int x0), .val (.int x1), .val (.int x2), .val (.int (2 : Int32)), .val (.int (0 : Int32)), .val v285, .val v294, .val v305, .val (.ref b318), .val (.int (1 : Int32))] []))
    refine own_go (fun _ k => XS.aload X478.here hx rfl (hb hby at_212) rfl rfl k) ?_
    show own_G p.tables e below _ (T478.setTop (mkF m 214 #[.val (.int x0), .val (.int x1), .val (.int x2), .val (.int (2 : Int32)), .val (.int (0 : Int32)), .val v285, .val v294, .val v305, .val (.ref b318), .val (.int (1 : Int32))] [(.ref b318)]))
    refine own_go (fun _ k => XS.iconst X478.here hx rfl (hb hby at_214) k) ?_
    show own_G p.tables e below _ (T478.setTop (mkF m 215 #[.val (.int x0), .val (.int x1), .val (.int x2), .val (.int (2 : Int32)), .val (.int (0 : Int32)), .val v285, .val v294, .val v305, .val (.ref b318), .val (.int (1 : Int32))] [(.int (2 : Int32)), (.ref b318)]))
    obtain ⟨T479, X479, e479, st479⟩ := own_callV X478 hx hZ (y := (⟨"com/example/plainsong/plainsong/engine/CallStack", "entry", "(I)Lcom/example/plainsong/plainsong/engine/CallStack$Activation;"⟩ : MethodName)) hown (hw _ (List.mem_of_getElem? (i := 55) rfl)) (hw _ (List.mem_of_getElem? (i := 56) rfl)) (hw _ (List.mem_of_getElem? (i := 58) rfl)) (hw _ (List.mem_of_getElem? (i := 57) rfl)) (hw _ (List.mem_of_getElem? (i := 12) rfl)) (hw _ (List.mem_of_getElem? (i := 59) rfl)) (by decide) (W := 0) (rm_ent2 l Z a0 hw [] b318 b352 k352 .null .null .null T463.heap G_465 G_467 rfl) (by decide) (by decide) rfl rfl e478 G_464 (g := (mkF m 215 #[.val (.int x0), .val (.int x1), .val (.int x2), .val (.int (2 : Int32)), .val (.int (0 : Int32)), .val v285, .val v294, .val v305, .val (.ref b318), .val (.int (1 : Int32))] [(.int (2 : Int32)), (.ref b318)])) rfl (by rw [hml]; rfl) (argsL := [(.int (2 : Int32))]) (rest := []) (lenOf own_pd4 rfl) rfl rfl (by show 2 * 0 + _ ≤ _; exact Nat.le_of_eq rfl) (hb hby at_215) (by decide) (by decide)
    refine own_go st479 ?_
    show own_G p.tables e below _ (T479.setTop (mkF m 218 #[.val (.int x0), .val (.int x1), .val (.int x2), .val (.int (2 : Int32)), .val (.int (0 : Int32)), .val v285, .val v294, .val v305, .val (.ref b318), .val (.int (1 : Int32))] [.null]))
    refine own_go (fun _ k => XS.iconst X479.here hx rfl (hb hby at_218) k) ?_
    show own_G p.tables e below _ (T479.setTop (mkF m 219 #[.val (.int x0), .val (.int x1), .val (.int x2), .val (.int (2 : Int32)), .val (.int (0 : Int32)), .val v285, .val v294, .val v305, .val (.ref b318), .val (.int (1 : Int32))] [(.int (2 : Int32)), .null]))
    refine own_go (fun _ k => XS.iload X479.here hx rfl (hb hby at_219) rfl k) ?_
    show own_G p.tables e below _ (T479.setTop (mkF m 221 #[.val (.int x0), .val (.int x1), .val (.int x2), .val (.int (2 : Int32)), .val (.int (0 : Int32)), .val v285, .val v294, .val v305, .val (.ref b318), .val (.int (1 : Int32))] [(.int (0 : Int32)), (.int (2 : Int32)), .null]))
    refine own_go (fun _ k => XS.aload X479.here hx rfl (hb hby at_221) rfl hr305 k) ?_
    show own_G p.tables e below _ (T479.setTop (mkF m 223 #[.val (.int x0), .val (.int x1), .val (.int x2), .val (.int (2 : Int32)), .val (.int (0 : Int32)), .val v285, .val v294, .val v305, .val (.ref b318), .val (.int (1 : Int32))] [v305, (.int (0 : Int32)), (.int (2 : Int32)), .null]))
    obtain ⟨T480, X480, e480, st480⟩ := own_callP X479 hx hZ (y := (⟨"com/example/plainsong/plainsong/engine/CallStackTruncatePinLaw", "expected", "(IILcom/example/plainsong/plainsong/engine/CallStack$Activation;)Lcom/example/plainsong/plainsong/engine/CallStack$Activation;"⟩ : MethodName)) hown (hw _ (List.mem_of_getElem? (i := 60) rfl)) (hw _ (List.mem_of_getElem? (i := 61) rfl)) (hw _ (List.mem_of_getElem? (i := 3) rfl)) (hw _ (List.mem_of_getElem? (i := 62) rfl)) (by decide) (W := 1) (rm_expge l Z a0 hw [] (2 : Int32) (0 : Int32) v305  T463.heap hr305 (by decide)) (by decide) (by decide) rfl rfl e479 (g := (mkF m 223 #[.val (.int x0), .val (.int x1), .val (.int x2), .val (.int (2 : Int32)), .val (.int (0 : Int32)), .val v285, .val v294, .val v305, .val (.ref b318), .val (.int (1 : Int32))] [v305, (.int (0 : Int32)), (.int (2 : Int32)), .null])) rfl (by rw [hml]; rfl) (argsL := [(.int (2 : Int32)), (.int (0 : Int32)), v305]) (rest := [.null]) (lenOf own_pd5 rfl) rfl rfl (by show 2 * 0 + _ ≤ _; exact Nat.le_of_eq rfl) (hb hby at_223) (by decide) (by decide)
    refine own_go st480 ?_
    show own_G p.tables e below _ (T480.setTop (mkF m 226 #[.val (.int x0), .val (.int x1), .val (.int x2), .val (.int (2 : Int32)), .val (.int (0 : Int32)), .val v285, .val v294, .val v305, .val (.ref b318), .val (.int (1 : Int32))] [.null, .null]))
    refine own_go (fun _ k => Jvm.RoadKit.acmp (g := (mkF m 226 #[.val (.int x0), .val (.int x1), .val (.int x2), .val (.int (2 : Int32)), .val (.int (0 : Int32)), .val v285, .val v294, .val v305, .val (.ref b318), .val (.int (1 : Int32))] [.null, .null])) X480 hx rfl rfl rfl (pc0 := 226) (pc' := 229) (same := true) rfl (hb hby at_226) rfl (decide_eq_true rfl) (by decide) (by decide) k) ?_
    show own_G p.tables e below _ (T480.setTop (mkF m 229 #[.val (.int x0), .val (.int x1), .val (.int x2), .val (.int (2 : Int32)), .val (.int (0 : Int32)), .val v285, .val v294, .val v305, .val (.ref b318), .val (.int (1 : Int32))] []))
    refine own_go (fun _ k => XS.iconst X480.here hx rfl (hb hby at_229) k) ?_
    show own_G p.tables e below _ (T480.setTop (mkF m 230 #[.val (.int x0), .val (.int x1), .val (.int x2), .val (.int (2 : Int32)), .val (.int (0 : Int32)), .val v285, .val v294, .val v305, .val (.ref b318), .val (.int (1 : Int32))] [(.int (1 : Int32))]))
    refine own_go (fun _ k => XS.goto X480.here hx rfl (pc0 := 230) (pc' := 234) rfl (hb hby at_230) (by decide) (by decide) k) ?_
    show own_G p.tables e below _ (T480.setTop (mkF m 234 #[.val (.int x0), .val (.int x1), .val (.int x2), .val (.int (2 : Int32)), .val (.int (0 : Int32)), .val v285, .val v294, .val v305, .val (.ref b318), .val (.int (1 : Int32))] [(.int (1 : Int32))]))
    refine own_go (fun _ k => XS.istore X480.here hx rfl (hb hby at_234) rfl (l' := #[.val (.int x0), .val (.int x1), .val (.int x2), .val (.int (2 : Int32)), .val (.int (0 : Int32)), .val v285, .val v294, .val v305, .val (.ref b318), .val (.int (1 : Int32))]) rfl k) ?_
    show own_G p.tables e below _ (T480.setTop (mkF m 236 #[.val (.int x0), .val (.int x1), .val (.int x2), .val (.int (2 : Int32)), .val (.int (0 : Int32)), .val v285, .val v294, .val v305, .val (.ref b318), .val (.int (1 : Int32))] []))
    refine own_go (fun _ k => XS.iload X480.here hx rfl (hb hby at_236) rfl k) ?_
    show own_G p.tables e below _ (T480.setTop (mkF m 238 #[.val (.int x0), .val (.int x1), .val (.int x2), .val (.int (2 : Int32)), .val (.int (0 : Int32)), .val v285, .val v294, .val v305, .val (.ref b318), .val (.int (1 : Int32))] [(.int (1 : Int32))]))
    exact own_end X480 Bd.notSynchronized (v := some (.int (nar .boolean (1 : Int32)))) (fun h => by rw [Bd.returns] at h; cases h) (Q := QL (some (.int (1 : Int32))) n0) ⟨rfl, N_463⟩ (fun fs hr => retN X480 hx (t := .boolean) Bd.returns (by simp) (hb hby at_238) hr) (by decide) (by decide)
  · rw [hn, hk]
    show own_G p.tables e below _ (T352.setTop (mkF m 90 #[.val (.int x0), .val (.int x1), .val (.int x2), .val (.int (2 : Int32)), .val (.int (1 : Int32)), .val v285, .val v294, .val v305, .val (.ref b318), .unset] []))
    refine own_go (fun _ k => XS.iloadN X352.here hx rfl (hb hby at_90) rfl k) ?_
    show own_G p.tables e below _ (T352.setTop (mkF m 91 #[.val (.int x0), .val (.int x1), .val (.int x2), .val (.int (2 : Int32)), .val (.int (1 : Int32)), .val v285, .val v294, .val v305, .val (.ref b318), .unset] [(.int (2 : Int32))]))
    refine own_go (fun _ k => XS.ifNo X352.here hx rfl (hb hby at_91) rfl (((if0 _ _).trans (tlt (by decide : (0 : Int32) < (2 : Int32))).2.2.2)) k) ?_
    show own_G p.tables e below _ (T352.setTop (mkF m 94 #[.val (.int x0), .val (.int x1), .val (.int x2), .val (.int (2 : Int32)), .val (.int (1 : Int32)), .val v285, .val v294, .val v305, .val (.ref b318), .unset] []))
    refine own_go (fun _ k => XS.aload X352.here hx rfl (hb hby at_94) rfl rfl k) ?_
    show own_G p.tables e below _ (T352.setTop (mkF m 96 #[.val (.int x0), .val (.int x1), .val (.int x2), .val (.int (2 : Int32)), .val (.int (1 : Int32)), .val v285, .val v294, .val v305, .val (.ref b318), .unset] [(.ref b318)]))
    refine own_go (fun _ k => XS.aload X352.here hx rfl (hb hby at_96) rfl hr285 k) ?_
    show own_G p.tables e below _ (T352.setTop (mkF m 98 #[.val (.int x0), .val (.int x1), .val (.int x2), .val (.int (2 : Int32)), .val (.int (1 : Int32)), .val v285, .val v294, .val v305, .val (.ref b318), .unset] [v285, (.ref b318)]))
    obtain ⟨cq481, kq481, q481a, q481b, q481c⟩ := isOf hZ rfl G_353
    obtain ⟨_, _, ⟨T481, L481, k481, n481⟩, -, X481, ⟨Lc481, hQ481, l481, y481, z481⟩, st481⟩ := X352.virtualBack hx (y := (⟨"com/example/plainsong/plainsong/engine/CallStack", "push", "(Lcom/example/plainsong/plainsong/engine/CallStack$Activation;)V"⟩ : MethodName)) (z := (⟨"com/example/plainsong/plainsong/engine/CallStack", "push", "(Lcom/example/plainsong/plainsong/engine/CallStack$Activation;)V"⟩ : MethodName)) hown (mvT hZ (hw _ (List.mem_of_getElem? (i := 63) rfl))) (mvT hZ (hw _ (List.mem_of_getElem? (i := 64) rfl))) (notFace_of_selects (args := #[]) (mvT hZ (hw _ (List.mem_of_getElem? (i := 66) rfl)))) (mvT hZ (hw _ (List.mem_of_getElem? (i := 66) rfl))) (mvT hZ (hw _ (List.mem_of_getElem? (i := 65) rfl))) (by decide) (backOf (W := 0) (rm_push0 l Z a0 hw [] b318 v285 b352 k352 .null .null .null T352.heap n0 Z_364 G_353 G_354 G_355 V352 ge_319 ge_358 ne_356 hr285 O352 Av_361) hZ (hw _ (List.mem_of_getElem? (i := 67) rfl)) (hw _ (List.mem_of_getElem? (i := 12) rfl)) (by decide) (by decide)) q481a q481c (g := (mkF m 98 #[.val (.int x0), .val (.int x1), .val (.int x2), .val (.int (2 : Int32)), .val (.int (1 : Int32)), .val v285, .val v294, .val v305, .val (.ref b318), .unset] [v285, (.ref b318)])) rfl (by rw [hml]; rfl) (Steps.refl _) (argsL := [v285]) (rest := []) (lenOf own_pd6 rfl) rfl (by show 2 * 0 + _ ≤ _; exact Nat.le_of_eq rfl) (hb hby at_98) (fun _ _ => ⟨rfl, rfl, (by decide : 7 + 0 ≤ _), (by decide : 30 + 0 ≤ _)⟩)
    dsimp only [Pt.U, Pt.locs, Pt.cells, Pt.slots] at X481 l481 y481 z481 st481 hQ481
    subst l481 y481 z481
    obtain ⟨rfl, Nq481, K481, G_482, G_483, G_484, G_485⟩ := hQ481
    have X_486 := G_353.keep K481
    have X_487 := X_360.keep K481
    have Av_488 := own_avK Av_361 K481
    have Av_489 := own_avK Av_362 K481
    have Av_490 := own_avK Av_363 K481
    have Z_491 : n0 ≤ T481.heap.size := Nat.le_trans Z_364 K481.1
    have N_481 := Fr.app N_352 Nq481
    refine own_go (fun _ k => st481.trans k) ?_
    show own_G p.tables e below _ (T481.setTop (mkF m 101 #[.val (.int x0), .val (.int x1), .val (.int x2), .val (.int (2 : Int32)), .val (.int (1 : Int32)), .val v285, .val v294, .val v305, .val (.ref b318), .unset] []))
    refine own_go (fun _ k => XS.iloadN X481.here hx rfl (hb hby at_101) rfl k) ?_
    show own_G p.tables e below _ (T481.setTop (mkF m 102 #[.val (.int x0), .val (.int x1), .val (.int x2), .val (.int (2 : Int32)), .val (.int (1 : Int32)), .val v285, .val v294, .val v305, .val (.ref b318), .unset] [(.int (2 : Int32))]))
    refine own_go (fun _ k => XS.iconst X481.here hx rfl (hb hby at_102) k) ?_
    show own_G p.tables e below _ (T481.setTop (mkF m 103 #[.val (.int x0), .val (.int x1), .val (.int x2), .val (.int (2 : Int32)), .val (.int (1 : Int32)), .val v285, .val v294, .val v305, .val (.ref b318), .unset] [(.int (1 : Int32)), (.int (2 : Int32))]))
    refine own_go (fun _ k => XS.icmpNo X481.here hx rfl (hb hby at_103) rfl ((tlt (by decide : (1 : Int32) < (2 : Int32))).2.2.2) k) ?_
    show own_G p.tables e below _ (T481.setTop (mkF m 106 #[.val (.int x0), .val (.int x1), .val (.int x2), .val (.int (2 : Int32)), .val (.int (1 : Int32)), .val v285, .val v294, .val v305, .val (.ref b318), .unset] []))
    refine own_go (fun _ k => XS.aload X481.here hx rfl (hb hby at_106) rfl rfl k) ?_
    show own_G p.tables e below _ (T481.setTop (mkF m 108 #[.val (.int x0), .val (.int x1), .val (.int x2), .val (.int (2 : Int32)), .val (.int (1 : Int32)), .val v285, .val v294, .val v305, .val (.ref b318), .unset] [(.ref b318)]))
    refine own_go (fun _ k => XS.aload X481.here hx rfl (hb hby at_108) rfl hr294 k) ?_
    show own_G p.tables e below _ (T481.setTop (mkF m 110 #[.val (.int x0), .val (.int x1), .val (.int x2), .val (.int (2 : Int32)), .val (.int (1 : Int32)), .val v285, .val v294, .val v305, .val (.ref b318), .unset] [v294, (.ref b318)]))
    obtain ⟨cq492, kq492, q492a, q492b, q492c⟩ := isOf hZ rfl G_482
    obtain ⟨_, _, ⟨T492, L492, k492, n492⟩, -, X492, ⟨Lc492, hQ492, l492, y492, z492⟩, st492⟩ := X481.virtualBack hx (y := (⟨"com/example/plainsong/plainsong/engine/CallStack", "push", "(Lcom/example/plainsong/plainsong/engine/CallStack$Activation;)V"⟩ : MethodName)) (z := (⟨"com/example/plainsong/plainsong/engine/CallStack", "push", "(Lcom/example/plainsong/plainsong/engine/CallStack$Activation;)V"⟩ : MethodName)) hown (mvT hZ (hw _ (List.mem_of_getElem? (i := 63) rfl))) (mvT hZ (hw _ (List.mem_of_getElem? (i := 64) rfl))) (notFace_of_selects (args := #[]) (mvT hZ (hw _ (List.mem_of_getElem? (i := 66) rfl)))) (mvT hZ (hw _ (List.mem_of_getElem? (i := 66) rfl))) (mvT hZ (hw _ (List.mem_of_getElem? (i := 65) rfl))) (by decide) (backOf (W := 0) (rm_push1 l Z a0 hw [] b318 v294 b352 k352 v285 .null .null T481.heap n0 Z_491 G_482 G_483 G_484 G_485 ge_319 ge_358 ne_356 hr294 O352 Av_489) hZ (hw _ (List.mem_of_getElem? (i := 67) rfl)) (hw _ (List.mem_of_getElem? (i := 12) rfl)) (by decide) (by decide)) q492a q492c (g := (mkF m 110 #[.val (.int x0), .val (.int x1), .val (.int x2), .val (.int (2 : Int32)), .val (.int (1 : Int32)), .val v285, .val v294, .val v305, .val (.ref b318), .unset] [v294, (.ref b318)])) rfl (by rw [hml]; rfl) (Steps.refl _) (argsL := [v294]) (rest := []) (lenOf own_pd6 rfl) rfl (by show 2 * 0 + _ ≤ _; exact Nat.le_of_eq rfl) (hb hby at_110) (fun _ _ => ⟨rfl, rfl, (by decide : 7 + 0 ≤ _), (by decide : 30 + 0 ≤ _)⟩)
    dsimp only [Pt.U, Pt.locs, Pt.cells, Pt.slots] at X492 l492 y492 z492 st492 hQ492
    subst l492 y492 z492
    obtain ⟨rfl, Nq492, K492, G_493, G_494, G_495, G_496⟩ := hQ492
    have X_497 := G_482.keep K492
    have X_498 := X_487.keep K492
    have Av_499 := own_avK Av_488 K492
    have Av_500 := own_avK Av_489 K492
    have Av_501 := own_avK Av_490 K492
    have Z_502 : n0 ≤ T492.heap.size := Nat.le_trans Z_491 K492.1
    have N_492 := Fr.app N_481 Nq492
    refine own_go (fun _ k => st492.trans k) ?_
    show own_G p.tables e below _ (T492.setTop (mkF m 113 #[.val (.int x0), .val (.int x1), .val (.int x2), .val (.int (2 : Int32)), .val (.int (1 : Int32)), .val v285, .val v294, .val v305, .val (.ref b318), .unset] []))
    refine own_go (fun _ k => XS.iloadN X492.here hx rfl (hb hby at_113) rfl k) ?_
    show own_G p.tables e below _ (T492.setTop (mkF m 114 #[.val (.int x0), .val (.int x1), .val (.int x2), .val (.int (2 : Int32)), .val (.int (1 : Int32)), .val v285, .val v294, .val v305, .val (.ref b318), .unset] [(.int (2 : Int32))]))
    refine own_go (fun _ k => XS.iconst X492.here hx rfl (hb hby at_114) k) ?_
    show own_G p.tables e below _ (T492.setTop (mkF m 115 #[.val (.int x0), .val (.int x1), .val (.int x2), .val (.int (2 : Int32)), .val (.int (1 : Int32)), .val v285, .val v294, .val v305, .val (.ref b318), .unset] [(.int (2 : Int32)), (.int (2 : Int32))]))
    refine own_go (fun _ k => XS.icmpYes X492.here hx rfl (pc0 := 115) (pc' := 125) rfl (hb hby at_115) rfl ((flt (by decide : ¬ ((2 : Int32) < (2 : Int32)))).2.2.2) (by decide) (by decide) k) ?_
    show own_G p.tables e below _ (T492.setTop (mkF m 125 #[.val (.int x0), .val (.int x1), .val (.int x2), .val (.int (2 : Int32)), .val (.int (1 : Int32)), .val v285, .val v294, .val v305, .val (.ref b318), .unset] []))
    refine own_go (fun _ k => XS.aload X492.here hx rfl (hb hby at_125) rfl rfl k) ?_
    show own_G p.tables e below _ (T492.setTop (mkF m 127 #[.val (.int x0), .val (.int x1), .val (.int x2), .val (.int (2 : Int32)), .val (.int (1 : Int32)), .val v285, .val v294, .val v305, .val (.ref b318), .unset] [(.ref b318)]))
    refine own_go (fun _ k => XS.iload X492.here hx rfl (hb hby at_127) rfl k) ?_
    show own_G p.tables e below _ (T492.setTop (mkF m 129 #[.val (.int x0), .val (.int x1), .val (.int x2), .val (.int (2 : Int32)), .val (.int (1 : Int32)), .val v285, .val v294, .val v305, .val (.ref b318), .unset] [(.int (1 : Int32)), (.ref b318)]))
    obtain ⟨cq503, kq503, q503a, q503b, q503c⟩ := isOf hZ rfl G_493
    obtain ⟨_, _, ⟨T503, L503, k503, n503⟩, -, X503, ⟨Lc503, hQ503, l503, y503, z503⟩, st503⟩ := X492.virtualBack hx (y := (⟨"com/example/plainsong/plainsong/engine/CallStack", "truncate", "(I)V"⟩ : MethodName)) (z := (⟨"com/example/plainsong/plainsong/engine/CallStack", "truncate", "(I)V"⟩ : MethodName)) hown (mvT hZ (hw _ (List.mem_of_getElem? (i := 43) rfl))) (mvT hZ (hw _ (List.mem_of_getElem? (i := 44) rfl))) (notFace_of_selects (args := #[]) (mvT hZ (hw _ (List.mem_of_getElem? (i := 46) rfl)))) (mvT hZ (hw _ (List.mem_of_getElem? (i := 46) rfl))) (mvT hZ (hw _ (List.mem_of_getElem? (i := 45) rfl))) (by decide) (backOf (W := 0) (rm_tr21 l Z a0 hw [] b318 b352 k352 v285 v294 .null T492.heap n0 Z_502 G_493 G_494 G_495 G_496 ge_319 ge_358 ne_356) hZ (hw _ (List.mem_of_getElem? (i := 47) rfl)) (hw _ (List.mem_of_getElem? (i := 12) rfl)) (by decide) (by decide)) q503a q503c (g := (mkF m 129 #[.val (.int x0), .val (.int x1), .val (.int x2), .val (.int (2 : Int32)), .val (.int (1 : Int32)), .val v285, .val v294, .val v305, .val (.ref b318), .unset] [(.int (1 : Int32)), (.ref b318)])) rfl (by rw [hml]; rfl) (Steps.refl _) (argsL := [(.int (1 : Int32))]) (rest := []) (lenOf own_pd2 rfl) rfl (by show 2 * 0 + _ ≤ _; exact Nat.le_of_eq rfl) (hb hby at_129) (fun _ _ => ⟨rfl, rfl, (by decide : 7 + 0 ≤ _), (by decide : 30 + 0 ≤ _)⟩)
    dsimp only [Pt.U, Pt.locs, Pt.cells, Pt.slots] at X503 l503 y503 z503 st503 hQ503
    subst l503 y503 z503
    obtain ⟨rfl, Nq503, K503, G_504, G_505, G_506, G_507⟩ := hQ503
    have X_508 := G_493.keep K503
    have X_509 := X_498.keep K503
    have Av_510 := own_avK Av_499 K503
    have Av_511 := own_avK Av_500 K503
    have Av_512 := own_avK Av_501 K503
    have Z_513 : n0 ≤ T503.heap.size := Nat.le_trans Z_502 K503.1
    have N_503 := Fr.app N_492 Nq503
    refine own_go (fun _ k => st503.trans k) ?_
    show own_G p.tables e below _ (T503.setTop (mkF m 132 #[.val (.int x0), .val (.int x1), .val (.int x2), .val (.int (2 : Int32)), .val (.int (1 : Int32)), .val v285, .val v294, .val v305, .val (.ref b318), .unset] []))
    refine own_go (fun _ k => XS.aload X503.here hx rfl (hb hby at_132) rfl rfl k) ?_
    show own_G p.tables e below _ (T503.setTop (mkF m 134 #[.val (.int x0), .val (.int x1), .val (.int x2), .val (.int (2 : Int32)), .val (.int (1 : Int32)), .val v285, .val v294, .val v305, .val (.ref b318), .unset] [(.ref b318)]))
    obtain ⟨T514, X514, e514, st514⟩ := own_callV X503 hx hZ (y := (⟨"com/example/plainsong/plainsong/engine/CallStack", "depth", "()I"⟩ : MethodName)) hown (hw _ (List.mem_of_getElem? (i := 50) rfl)) (hw _ (List.mem_of_getElem? (i := 51) rfl)) (hw _ (List.mem_of_getElem? (i := 53) rfl)) (hw _ (List.mem_of_getElem? (i := 52) rfl)) (hw _ (List.mem_of_getElem? (i := 12) rfl)) (hw _ (List.mem_of_getElem? (i := 54) rfl)) (by decide) (W := 0) (rm7 l Z a0 hw [] b318 (1 : Int32) T503.heap G_506) (by decide) (by decide) rfl rfl rfl G_504 (g := (mkF m 134 #[.val (.int x0), .val (.int x1), .val (.int x2), .val (.int (2 : Int32)), .val (.int (1 : Int32)), .val v285, .val v294, .val v305, .val (.ref b318), .unset] [(.ref b318)])) rfl (by rw [hml]; rfl) (argsL := []) (rest := []) (lenOf own_pd3 rfl) rfl rfl (by show 2 * 0 + _ ≤ _; exact Nat.le_of_eq rfl) (hb hby at_134) (by decide) (by decide)
    refine own_go st514 ?_
    show own_G p.tables e below _ (T514.setTop (mkF m 137 #[.val (.int x0), .val (.int x1), .val (.int x2), .val (.int (2 : Int32)), .val (.int (1 : Int32)), .val v285, .val v294, .val v305, .val (.ref b318), .unset] [(.int (1 : Int32))]))
    refine own_go (fun _ k => XS.iload X514.here hx rfl (hb hby at_137) rfl k) ?_
    show own_G p.tables e below _ (T514.setTop (mkF m 139 #[.val (.int x0), .val (.int x1), .val (.int x2), .val (.int (2 : Int32)), .val (.int (1 : Int32)), .val v285, .val v294, .val v305, .val (.ref b318), .unset] [(.int (1 : Int32)), (.int (1 : Int32))]))
    refine own_go (fun _ k => XS.icmpNo X514.here hx rfl (hb hby at_139) rfl ((teq (by decide : (1 : Int32) = (1 : Int32))).2) k) ?_
    show own_G p.tables e below _ (T514.setTop (mkF m 142 #[.val (.int x0), .val (.int x1), .val (.int x2), .val (.int (2 : Int32)), .val (.int (1 : Int32)), .val v285, .val v294, .val v305, .val (.ref b318), .unset] []))
    refine own_go (fun _ k => XS.iconst X514.here hx rfl (hb hby at_142) k) ?_
    show own_G p.tables e below _ (T514.setTop (mkF m 143 #[.val (.int x0), .val (.int x1), .val (.int x2), .val (.int (2 : Int32)), .val (.int (1 : Int32)), .val v285, .val v294, .val v305, .val (.ref b318), .unset] [(.int (1 : Int32))]))
    refine own_go (fun _ k => XS.goto X514.here hx rfl (pc0 := 143) (pc' := 147) rfl (hb hby at_143) (by decide) (by decide) k) ?_
    show own_G p.tables e below _ (T514.setTop (mkF m 147 #[.val (.int x0), .val (.int x1), .val (.int x2), .val (.int (2 : Int32)), .val (.int (1 : Int32)), .val v285, .val v294, .val v305, .val (.ref b318), .unset] [(.int (1 : Int32))]))
    refine own_go (fun _ k => XS.istore X514.here hx rfl (hb hby at_147) rfl (l' := #[.val (.int x0), .val (.int x1), .val (.int x2), .val (.int (2 : Int32)), .val (.int (1 : Int32)), .val v285, .val v294, .val v305, .val (.ref b318), .val (.int (1 : Int32))]) rfl k) ?_
    show own_G p.tables e below _ (T514.setTop (mkF m 149 #[.val (.int x0), .val (.int x1), .val (.int x2), .val (.int (2 : Int32)), .val (.int (1 : Int32)), .val v285, .val v294, .val v305, .val (.ref b318), .val (.int (1 : Int32))] []))
    refine own_go (fun _ k => XS.iload X514.here hx rfl (hb hby at_149) rfl k) ?_
    show own_G p.tables e below _ (T514.setTop (mkF m 151 #[.val (.int x0), .val (.int x1), .val (.int x2), .val (.int (2 : Int32)), .val (.int (1 : Int32)), .val v285, .val v294, .val v305, .val (.ref b318), .val (.int (1 : Int32))] [(.int (1 : Int32))]))
    refine own_go (fun _ k => XS.ifNo X514.here hx rfl (hb hby at_151) rfl (((if0 _ _).trans (feq (by decide : ¬ ((1 : Int32) = (0 : Int32)))).1)) k) ?_
    show own_G p.tables e below _ (T514.setTop (mkF m 154 #[.val (.int x0), .val (.int x1), .val (.int x2), .val (.int (2 : Int32)), .val (.int (1 : Int32)), .val v285, .val v294, .val v305, .val (.ref b318), .val (.int (1 : Int32))] []))
    refine own_go (fun _ k => XS.aload X514.here hx rfl (hb hby at_154) rfl rfl k) ?_
    show own_G p.tables e below _ (T514.setTop (mkF m 156 #[.val (.int x0), .val (.int x1), .val (.int x2), .val (.int (2 : Int32)), .val (.int (1 : Int32)), .val v285, .val v294, .val v305, .val (.ref b318), .val (.int (1 : Int32))] [(.ref b318)]))
    refine own_go (fun _ k => XS.iconst X514.here hx rfl (hb hby at_156) k) ?_
    show own_G p.tables e below _ (T514.setTop (mkF m 157 #[.val (.int x0), .val (.int x1), .val (.int x2), .val (.int (2 : Int32)), .val (.int (1 : Int32)), .val v285, .val v294, .val v305, .val (.ref b318), .val (.int (1 : Int32))] [(.int (0 : Int32)), (.ref b318)]))
    obtain ⟨T515, X515, e515, st515⟩ := own_callV X514 hx hZ (y := (⟨"com/example/plainsong/plainsong/engine/CallStack", "entry", "(I)Lcom/example/plainsong/plainsong/engine/CallStack$Activation;"⟩ : MethodName)) hown (hw _ (List.mem_of_getElem? (i := 55) rfl)) (hw _ (List.mem_of_getElem? (i := 56) rfl)) (hw _ (List.mem_of_getElem? (i := 58) rfl)) (hw _ (List.mem_of_getElem? (i := 57) rfl)) (hw _ (List.mem_of_getElem? (i := 12) rfl)) (hw _ (List.mem_of_getElem? (i := 59) rfl)) (by decide) (W := 0) (rm_ent0 l Z a0 hw [] b318 b352 k352 v285 .null .null T503.heap G_505 G_507 hr285) (by decide) (by decide) rfl rfl e514 G_504 (g := (mkF m 157 #[.val (.int x0), .val (.int x1), .val (.int x2), .val (.int (2 : Int32)), .val (.int (1 : Int32)), .val v285, .val v294, .val v305, .val (.ref b318), .val (.int (1 : Int32))] [(.int (0 : Int32)), (.ref b318)])) rfl (by rw [hml]; rfl) (argsL := [(.int (0 : Int32))]) (rest := []) (lenOf own_pd4 rfl) rfl rfl (by show 2 * 0 + _ ≤ _; exact Nat.le_of_eq rfl) (hb hby at_157) (by decide) (by decide)
    refine own_go st515 ?_
    show own_G p.tables e below _ (T515.setTop (mkF m 160 #[.val (.int x0), .val (.int x1), .val (.int x2), .val (.int (2 : Int32)), .val (.int (1 : Int32)), .val v285, .val v294, .val v305, .val (.ref b318), .val (.int (1 : Int32))] [v285]))
    refine own_go (fun _ k => XS.iconst X515.here hx rfl (hb hby at_160) k) ?_
    show own_G p.tables e below _ (T515.setTop (mkF m 161 #[.val (.int x0), .val (.int x1), .val (.int x2), .val (.int (2 : Int32)), .val (.int (1 : Int32)), .val v285, .val v294, .val v305, .val (.ref b318), .val (.int (1 : Int32))] [(.int (0 : Int32)), v285]))
    refine own_go (fun _ k => XS.iload X515.here hx rfl (hb hby at_161) rfl k) ?_
    show own_G p.tables e below _ (T515.setTop (mkF m 163 #[.val (.int x0), .val (.int x1), .val (.int x2), .val (.int (2 : Int32)), .val (.int (1 : Int32)), .val v285, .val v294, .val v305, .val (.ref b318), .val (.int (1 : Int32))] [(.int (1 : Int32)), (.int (0 : Int32)), v285]))
    refine own_go (fun _ k => XS.aload X515.here hx rfl (hb hby at_163) rfl hr285 k) ?_
    show own_G p.tables e below _ (T515.setTop (mkF m 165 #[.val (.int x0), .val (.int x1), .val (.int x2), .val (.int (2 : Int32)), .val (.int (1 : Int32)), .val v285, .val v294, .val v305, .val (.ref b318), .val (.int (1 : Int32))] [v285, (.int (1 : Int32)), (.int (0 : Int32)), v285]))
    obtain ⟨T516, X516, e516, st516⟩ := own_callP X515 hx hZ (y := (⟨"com/example/plainsong/plainsong/engine/CallStackTruncatePinLaw", "expected", "(IILcom/example/plainsong/plainsong/engine/CallStack$Activation;)Lcom/example/plainsong/plainsong/engine/CallStack$Activation;"⟩ : MethodName)) hown (hw _ (List.mem_of_getElem? (i := 60) rfl)) (hw _ (List.mem_of_getElem? (i := 61) rfl)) (hw _ (List.mem_of_getElem? (i := 3) rfl)) (hw _ (List.mem_of_getElem? (i := 62) rfl)) (by decide) (W := 1) (rm_explt l Z a0 hw [] (0 : Int32) (1 : Int32) v285  T503.heap hr285 (by decide)) (by decide) (by decide) rfl rfl e515 (g := (mkF m 165 #[.val (.int x0), .val (.int x1), .val (.int x2), .val (.int (2 : Int32)), .val (.int (1 : Int32)), .val v285, .val v294, .val v305, .val (.ref b318), .val (.int (1 : Int32))] [v285, (.int (1 : Int32)), (.int (0 : Int32)), v285])) rfl (by rw [hml]; rfl) (argsL := [(.int (0 : Int32)), (.int (1 : Int32)), v285]) (rest := [v285]) (lenOf own_pd5 rfl) rfl rfl (own_w1 hr285) (hb hby at_165) (by decide) (by decide)
    refine own_go st516 ?_
    show own_G p.tables e below _ (T516.setTop (mkF m 168 #[.val (.int x0), .val (.int x1), .val (.int x2), .val (.int (2 : Int32)), .val (.int (1 : Int32)), .val v285, .val v294, .val v305, .val (.ref b318), .val (.int (1 : Int32))] [v285, v285]))
    refine own_go (fun _ k => Jvm.RoadKit.acmp (g := (mkF m 168 #[.val (.int x0), .val (.int x1), .val (.int x2), .val (.int (2 : Int32)), .val (.int (1 : Int32)), .val v285, .val v294, .val v305, .val (.ref b318), .val (.int (1 : Int32))] [v285, v285])) X516 hx rfl hr285 hr285 (pc0 := 168) (pc' := 171) (same := true) rfl (hb hby at_168) rfl (decide_eq_true rfl) (by decide) (by decide) k) ?_
    show own_G p.tables e below _ (T516.setTop (mkF m 171 #[.val (.int x0), .val (.int x1), .val (.int x2), .val (.int (2 : Int32)), .val (.int (1 : Int32)), .val v285, .val v294, .val v305, .val (.ref b318), .val (.int (1 : Int32))] []))
    refine own_go (fun _ k => XS.iconst X516.here hx rfl (hb hby at_171) k) ?_
    show own_G p.tables e below _ (T516.setTop (mkF m 172 #[.val (.int x0), .val (.int x1), .val (.int x2), .val (.int (2 : Int32)), .val (.int (1 : Int32)), .val v285, .val v294, .val v305, .val (.ref b318), .val (.int (1 : Int32))] [(.int (1 : Int32))]))
    refine own_go (fun _ k => XS.goto X516.here hx rfl (pc0 := 172) (pc' := 176) rfl (hb hby at_172) (by decide) (by decide) k) ?_
    show own_G p.tables e below _ (T516.setTop (mkF m 176 #[.val (.int x0), .val (.int x1), .val (.int x2), .val (.int (2 : Int32)), .val (.int (1 : Int32)), .val v285, .val v294, .val v305, .val (.ref b318), .val (.int (1 : Int32))] [(.int (1 : Int32))]))
    refine own_go (fun _ k => XS.istore X516.here hx rfl (hb hby at_176) rfl (l' := #[.val (.int x0), .val (.int x1), .val (.int x2), .val (.int (2 : Int32)), .val (.int (1 : Int32)), .val v285, .val v294, .val v305, .val (.ref b318), .val (.int (1 : Int32))]) rfl k) ?_
    show own_G p.tables e below _ (T516.setTop (mkF m 178 #[.val (.int x0), .val (.int x1), .val (.int x2), .val (.int (2 : Int32)), .val (.int (1 : Int32)), .val v285, .val v294, .val v305, .val (.ref b318), .val (.int (1 : Int32))] []))
    refine own_go (fun _ k => XS.iload X516.here hx rfl (hb hby at_178) rfl k) ?_
    show own_G p.tables e below _ (T516.setTop (mkF m 180 #[.val (.int x0), .val (.int x1), .val (.int x2), .val (.int (2 : Int32)), .val (.int (1 : Int32)), .val v285, .val v294, .val v305, .val (.ref b318), .val (.int (1 : Int32))] [(.int (1 : Int32))]))
    refine own_go (fun _ k => XS.ifNo X516.here hx rfl (hb hby at_180) rfl (((if0 _ _).trans (feq (by decide : ¬ ((1 : Int32) = (0 : Int32)))).1)) k) ?_
    show own_G p.tables e below _ (T516.setTop (mkF m 183 #[.val (.int x0), .val (.int x1), .val (.int x2), .val (.int (2 : Int32)), .val (.int (1 : Int32)), .val v285, .val v294, .val v305, .val (.ref b318), .val (.int (1 : Int32))] []))
    refine own_go (fun _ k => XS.aload X516.here hx rfl (hb hby at_183) rfl rfl k) ?_
    show own_G p.tables e below _ (T516.setTop (mkF m 185 #[.val (.int x0), .val (.int x1), .val (.int x2), .val (.int (2 : Int32)), .val (.int (1 : Int32)), .val v285, .val v294, .val v305, .val (.ref b318), .val (.int (1 : Int32))] [(.ref b318)]))
    refine own_go (fun _ k => XS.iconst X516.here hx rfl (hb hby at_185) k) ?_
    show own_G p.tables e below _ (T516.setTop (mkF m 186 #[.val (.int x0), .val (.int x1), .val (.int x2), .val (.int (2 : Int32)), .val (.int (1 : Int32)), .val v285, .val v294, .val v305, .val (.ref b318), .val (.int (1 : Int32))] [(.int (1 : Int32)), (.ref b318)]))
    obtain ⟨T517, X517, e517, st517⟩ := own_callV X516 hx hZ (y := (⟨"com/example/plainsong/plainsong/engine/CallStack", "entry", "(I)Lcom/example/plainsong/plainsong/engine/CallStack$Activation;"⟩ : MethodName)) hown (hw _ (List.mem_of_getElem? (i := 55) rfl)) (hw _ (List.mem_of_getElem? (i := 56) rfl)) (hw _ (List.mem_of_getElem? (i := 58) rfl)) (hw _ (List.mem_of_getElem? (i := 57) rfl)) (hw _ (List.mem_of_getElem? (i := 12) rfl)) (hw _ (List.mem_of_getElem? (i := 59) rfl)) (by decide) (W := 0) (rm_ent1 l Z a0 hw [] b318 b352 k352 v285 .null .null T503.heap G_505 G_507 rfl) (by decide) (by decide) rfl rfl e516 G_504 (g := (mkF m 186 #[.val (.int x0), .val (.int x1), .val (.int x2), .val (.int (2 : Int32)), .val (.int (1 : Int32)), .val v285, .val v294, .val v305, .val (.ref b318), .val (.int (1 : Int32))] [(.int (1 : Int32)), (.ref b318)])) rfl (by rw [hml]; rfl) (argsL := [(.int (1 : Int32))]) (rest := []) (lenOf own_pd4 rfl) rfl rfl (by show 2 * 0 + _ ≤ _; exact Nat.le_of_eq rfl) (hb hby at_186) (by decide) (by decide)
    refine own_go st517 ?_
    show own_G p.tables e below _ (T517.setTop (mkF m 189 #[.val (.int x0), .val (.int x1), .val (.int x2), .val (.int (2 : Int32)), .val (.int (1 : Int32)), .val v285, .val v294, .val v305, .val (.ref b318), .val (.int (1 : Int32))] [.null]))
    refine own_go (fun _ k => XS.iconst X517.here hx rfl (hb hby at_189) k) ?_
    show own_G p.tables e below _ (T517.setTop (mkF m 190 #[.val (.int x0), .val (.int x1), .val (.int x2), .val (.int (2 : Int32)), .val (.int (1 : Int32)), .val v285, .val v294, .val v305, .val (.ref b318), .val (.int (1 : Int32))] [(.int (1 : Int32)), .null]))
    refine own_go (fun _ k => XS.iload X517.here hx rfl (hb hby at_190) rfl k) ?_
    show own_G p.tables e below _ (T517.setTop (mkF m 192 #[.val (.int x0), .val (.int x1), .val (.int x2), .val (.int (2 : Int32)), .val (.int (1 : Int32)), .val v285, .val v294, .val v305, .val (.ref b318), .val (.int (1 : Int32))] [(.int (1 : Int32)), (.int (1 : Int32)), .null]))
    refine own_go (fun _ k => XS.aload X517.here hx rfl (hb hby at_192) rfl hr294 k) ?_
    show own_G p.tables e below _ (T517.setTop (mkF m 194 #[.val (.int x0), .val (.int x1), .val (.int x2), .val (.int (2 : Int32)), .val (.int (1 : Int32)), .val v285, .val v294, .val v305, .val (.ref b318), .val (.int (1 : Int32))] [v294, (.int (1 : Int32)), (.int (1 : Int32)), .null]))
    obtain ⟨T518, X518, e518, st518⟩ := own_callP X517 hx hZ (y := (⟨"com/example/plainsong/plainsong/engine/CallStackTruncatePinLaw", "expected", "(IILcom/example/plainsong/plainsong/engine/CallStack$Activation;)Lcom/example/plainsong/plainsong/engine/CallStack$Activation;"⟩ : MethodName)) hown (hw _ (List.mem_of_getElem? (i := 60) rfl)) (hw _ (List.mem_of_getElem? (i := 61) rfl)) (hw _ (List.mem_of_getElem? (i := 3) rfl)) (hw _ (List.mem_of_getElem? (i := 62) rfl)) (by decide) (W := 1) (rm_expge l Z a0 hw [] (1 : Int32) (1 : Int32) v294  T503.heap hr294 (by decide)) (by decide) (by decide) rfl rfl e517 (g := (mkF m 194 #[.val (.int x0), .val (.int x1), .val (.int x2), .val (.int (2 : Int32)), .val (.int (1 : Int32)), .val v285, .val v294, .val v305, .val (.ref b318), .val (.int (1 : Int32))] [v294, (.int (1 : Int32)), (.int (1 : Int32)), .null])) rfl (by rw [hml]; rfl) (argsL := [(.int (1 : Int32)), (.int (1 : Int32)), v294]) (rest := [.null]) (lenOf own_pd5 rfl) rfl rfl (by show 2 * 0 + _ ≤ _; exact Nat.le_of_eq rfl) (hb hby at_194) (by decide) (by decide)
    refine own_go st518 ?_
    show own_G p.tables e below _ (T518.setTop (mkF m 197 #[.val (.int x0), .val (.int x1), .val (.int x2), .val (.int (2 : Int32)), .val (.int (1 : Int32)), .val v285, .val v294, .val v305, .val (.ref b318), .val (.int (1 : Int32))] [.null, .null]))
    refine own_go (fun _ k => Jvm.RoadKit.acmp (g := (mkF m 197 #[.val (.int x0), .val (.int x1), .val (.int x2), .val (.int (2 : Int32)), .val (.int (1 : Int32)), .val v285, .val v294, .val v305, .val (.ref b318), .val (.int (1 : Int32))] [.null, .null])) X518 hx rfl rfl rfl (pc0 := 197) (pc' := 200) (same := true) rfl (hb hby at_197) rfl (decide_eq_true rfl) (by decide) (by decide) k) ?_
    show own_G p.tables e below _ (T518.setTop (mkF m 200 #[.val (.int x0), .val (.int x1), .val (.int x2), .val (.int (2 : Int32)), .val (.int (1 : Int32)), .val v285, .val v294, .val v305, .val (.ref b318), .val (.int (1 : Int32))] []))
    refine own_go (fun _ k => XS.iconst X518.here hx rfl (hb hby at_200) k) ?_
    show own_G p.tables e below _ (T518.setTop (mkF m 201 #[.val (.int x0), .val (.int x1), .val (.int x2), .val (.int (2 : Int32)), .val (.int (1 : Int32)), .val v285, .val v294, .val v305, .val (.ref b318), .val (.int (1 : Int32))] [(.int (1 : Int32))]))
    refine own_go (fun _ k => XS.goto X518.here hx rfl (pc0 := 201) (pc' := 205) rfl (hb hby at_201) (by decide) (by decide) k) ?_
    show own_G p.tables e below _ (T518.setTop (mkF m 205 #[.val (.int x0), .val (.int x1), .val (.int x2), .val (.int (2 : Int32)), .val (.int (1 : Int32)), .val v285, .val v294, .val v305, .val (.ref b318), .val (.int (1 : Int32))] [(.int (1 : Int32))]))
    refine own_go (fun _ k => XS.istore X518.here hx rfl (hb hby at_205) rfl (l' := #[.val (.int x0), .val (.int x1), .val (.int x2), .val (.int (2 : Int32)), .val (.int (1 : Int32)), .val v285, .val v294, .val v305, .val (.ref b318), .val (.int (1 : Int32))]) rfl k) ?_
    show own_G p.tables e below _ (T518.setTop (mkF m 207 #[.val (.int x0), .val (.int x1), .val (.int x2), .val (.int (2 : Int32)), .val (.int (1 : Int32)), .val v285, .val v294, .val v305, .val (.ref b318), .val (.int (1 : Int32))] []))
    refine own_go (fun _ k => XS.iload X518.here hx rfl (hb hby at_207) rfl k) ?_
    show own_G p.tables e below _ (T518.setTop (mkF m 209 #[.val (.int x0), .val (.int x1), .val (.int x2), .val (.int (2 : Int32)), .val (.int (1 : Int32)), .val v285, .val v294, .val v305, .val (.ref b318), .val (.int (1 : Int32))] [(.int (1 : Int32))]))
    refine own_go (fun _ k => XS.ifNo X518.here hx rfl (hb hby at_209) rfl (((if0 _ _).trans (feq (by decide : ¬ ((1 : Int32) = (0 : Int32)))).1)) k) ?_
    show own_G p.tables e below _ (T518.setTop (mkF m 212 #[.val (.int x0), .val (.int x1), .val (.int x2), .val (.int (2 : Int32)), .val (.int (1 : Int32)), .val v285, .val v294, .val v305, .val (.ref b318), .val (.int (1 : Int32))] []))
    refine own_go (fun _ k => XS.aload X518.here hx rfl (hb hby at_212) rfl rfl k) ?_
    show own_G p.tables e below _ (T518.setTop (mkF m 214 #[.val (.int x0), .val (.int x1), .val (.int x2), .val (.int (2 : Int32)), .val (.int (1 : Int32)), .val v285, .val v294, .val v305, .val (.ref b318), .val (.int (1 : Int32))] [(.ref b318)]))
    refine own_go (fun _ k => XS.iconst X518.here hx rfl (hb hby at_214) k) ?_
    show own_G p.tables e below _ (T518.setTop (mkF m 215 #[.val (.int x0), .val (.int x1), .val (.int x2), .val (.int (2 : Int32)), .val (.int (1 : Int32)), .val v285, .val v294, .val v305, .val (.ref b318), .val (.int (1 : Int32))] [(.int (2 : Int32)), (.ref b318)]))
    obtain ⟨T519, X519, e519, st519⟩ := own_callV X518 hx hZ (y := (⟨"com/example/plainsong/plainsong/engine/CallStack", "entry", "(I)Lcom/example/plainsong/plainsong/engine/CallStack$Activation;"⟩ : MethodName)) hown (hw _ (List.mem_of_getElem? (i := 55) rfl)) (hw _ (List.mem_of_getElem? (i := 56) rfl)) (hw _ (List.mem_of_getElem? (i := 58) rfl)) (hw _ (List.mem_of_getElem? (i := 57) rfl)) (hw _ (List.mem_of_getElem? (i := 12) rfl)) (hw _ (List.mem_of_getElem? (i := 59) rfl)) (by decide) (W := 0) (rm_ent2 l Z a0 hw [] b318 b352 k352 v285 .null .null T503.heap G_505 G_507 rfl) (by decide) (by decide) rfl rfl e518 G_504 (g := (mkF m 215 #[.val (.int x0), .val (.int x1), .val (.int x2), .val (.int (2 : Int32)), .val (.int (1 : Int32)), .val v285, .val v294, .val v305, .val (.ref b318), .val (.int (1 : Int32))] [(.int (2 : Int32)), (.ref b318)])) rfl (by rw [hml]; rfl) (argsL := [(.int (2 : Int32))]) (rest := []) (lenOf own_pd4 rfl) rfl rfl (by show 2 * 0 + _ ≤ _; exact Nat.le_of_eq rfl) (hb hby at_215) (by decide) (by decide)
    refine own_go st519 ?_
    show own_G p.tables e below _ (T519.setTop (mkF m 218 #[.val (.int x0), .val (.int x1), .val (.int x2), .val (.int (2 : Int32)), .val (.int (1 : Int32)), .val v285, .val v294, .val v305, .val (.ref b318), .val (.int (1 : Int32))] [.null]))
    refine own_go (fun _ k => XS.iconst X519.here hx rfl (hb hby at_218) k) ?_
    show own_G p.tables e below _ (T519.setTop (mkF m 219 #[.val (.int x0), .val (.int x1), .val (.int x2), .val (.int (2 : Int32)), .val (.int (1 : Int32)), .val v285, .val v294, .val v305, .val (.ref b318), .val (.int (1 : Int32))] [(.int (2 : Int32)), .null]))
    refine own_go (fun _ k => XS.iload X519.here hx rfl (hb hby at_219) rfl k) ?_
    show own_G p.tables e below _ (T519.setTop (mkF m 221 #[.val (.int x0), .val (.int x1), .val (.int x2), .val (.int (2 : Int32)), .val (.int (1 : Int32)), .val v285, .val v294, .val v305, .val (.ref b318), .val (.int (1 : Int32))] [(.int (1 : Int32)), (.int (2 : Int32)), .null]))
    refine own_go (fun _ k => XS.aload X519.here hx rfl (hb hby at_221) rfl hr305 k) ?_
    show own_G p.tables e below _ (T519.setTop (mkF m 223 #[.val (.int x0), .val (.int x1), .val (.int x2), .val (.int (2 : Int32)), .val (.int (1 : Int32)), .val v285, .val v294, .val v305, .val (.ref b318), .val (.int (1 : Int32))] [v305, (.int (1 : Int32)), (.int (2 : Int32)), .null]))
    obtain ⟨T520, X520, e520, st520⟩ := own_callP X519 hx hZ (y := (⟨"com/example/plainsong/plainsong/engine/CallStackTruncatePinLaw", "expected", "(IILcom/example/plainsong/plainsong/engine/CallStack$Activation;)Lcom/example/plainsong/plainsong/engine/CallStack$Activation;"⟩ : MethodName)) hown (hw _ (List.mem_of_getElem? (i := 60) rfl)) (hw _ (List.mem_of_getElem? (i := 61) rfl)) (hw _ (List.mem_of_getElem? (i := 3) rfl)) (hw _ (List.mem_of_getElem? (i := 62) rfl)) (by decide) (W := 1) (rm_expge l Z a0 hw [] (2 : Int32) (1 : Int32) v305  T503.heap hr305 (by decide)) (by decide) (by decide) rfl rfl e519 (g := (mkF m 223 #[.val (.int x0), .val (.int x1), .val (.int x2), .val (.int (2 : Int32)), .val (.int (1 : Int32)), .val v285, .val v294, .val v305, .val (.ref b318), .val (.int (1 : Int32))] [v305, (.int (1 : Int32)), (.int (2 : Int32)), .null])) rfl (by rw [hml]; rfl) (argsL := [(.int (2 : Int32)), (.int (1 : Int32)), v305]) (rest := [.null]) (lenOf own_pd5 rfl) rfl rfl (by show 2 * 0 + _ ≤ _; exact Nat.le_of_eq rfl) (hb hby at_223) (by decide) (by decide)
    refine own_go st520 ?_
    show own_G p.tables e below _ (T520.setTop (mkF m 226 #[.val (.int x0), .val (.int x1), .val (.int x2), .val (.int (2 : Int32)), .val (.int (1 : Int32)), .val v285, .val v294, .val v305, .val (.ref b318), .val (.int (1 : Int32))] [.null, .null]))
    refine own_go (fun _ k => Jvm.RoadKit.acmp (g := (mkF m 226 #[.val (.int x0), .val (.int x1), .val (.int x2), .val (.int (2 : Int32)), .val (.int (1 : Int32)), .val v285, .val v294, .val v305, .val (.ref b318), .val (.int (1 : Int32))] [.null, .null])) X520 hx rfl rfl rfl (pc0 := 226) (pc' := 229) (same := true) rfl (hb hby at_226) rfl (decide_eq_true rfl) (by decide) (by decide) k) ?_
    show own_G p.tables e below _ (T520.setTop (mkF m 229 #[.val (.int x0), .val (.int x1), .val (.int x2), .val (.int (2 : Int32)), .val (.int (1 : Int32)), .val v285, .val v294, .val v305, .val (.ref b318), .val (.int (1 : Int32))] []))
    refine own_go (fun _ k => XS.iconst X520.here hx rfl (hb hby at_229) k) ?_
    show own_G p.tables e below _ (T520.setTop (mkF m 230 #[.val (.int x0), .val (.int x1), .val (.int x2), .val (.int (2 : Int32)), .val (.int (1 : Int32)), .val v285, .val v294, .val v305, .val (.ref b318), .val (.int (1 : Int32))] [(.int (1 : Int32))]))
    refine own_go (fun _ k => XS.goto X520.here hx rfl (pc0 := 230) (pc' := 234) rfl (hb hby at_230) (by decide) (by decide) k) ?_
    show own_G p.tables e below _ (T520.setTop (mkF m 234 #[.val (.int x0), .val (.int x1), .val (.int x2), .val (.int (2 : Int32)), .val (.int (1 : Int32)), .val v285, .val v294, .val v305, .val (.ref b318), .val (.int (1 : Int32))] [(.int (1 : Int32))]))
    refine own_go (fun _ k => XS.istore X520.here hx rfl (hb hby at_234) rfl (l' := #[.val (.int x0), .val (.int x1), .val (.int x2), .val (.int (2 : Int32)), .val (.int (1 : Int32)), .val v285, .val v294, .val v305, .val (.ref b318), .val (.int (1 : Int32))]) rfl k) ?_
    show own_G p.tables e below _ (T520.setTop (mkF m 236 #[.val (.int x0), .val (.int x1), .val (.int x2), .val (.int (2 : Int32)), .val (.int (1 : Int32)), .val v285, .val v294, .val v305, .val (.ref b318), .val (.int (1 : Int32))] []))
    refine own_go (fun _ k => XS.iload X520.here hx rfl (hb hby at_236) rfl k) ?_
    show own_G p.tables e below _ (T520.setTop (mkF m 238 #[.val (.int x0), .val (.int x1), .val (.int x2), .val (.int (2 : Int32)), .val (.int (1 : Int32)), .val v285, .val v294, .val v305, .val (.ref b318), .val (.int (1 : Int32))] [(.int (1 : Int32))]))
    exact own_end X520 Bd.notSynchronized (v := some (.int (nar .boolean (1 : Int32)))) (fun h => by rw [Bd.returns] at h; cases h) (Q := QL (some (.int (1 : Int32))) n0) ⟨rfl, N_503⟩ (fun fs hr => retN X520 hx (t := .boolean) Bd.returns (by simp) (hb hby at_238) hr) (by decide) (by decide)
  · rw [hn, hk]
    show own_G p.tables e below _ (T352.setTop (mkF m 90 #[.val (.int x0), .val (.int x1), .val (.int x2), .val (.int (2 : Int32)), .val (.int (2 : Int32)), .val v285, .val v294, .val v305, .val (.ref b318), .unset] []))
    refine own_go (fun _ k => XS.iloadN X352.here hx rfl (hb hby at_90) rfl k) ?_
    show own_G p.tables e below _ (T352.setTop (mkF m 91 #[.val (.int x0), .val (.int x1), .val (.int x2), .val (.int (2 : Int32)), .val (.int (2 : Int32)), .val v285, .val v294, .val v305, .val (.ref b318), .unset] [(.int (2 : Int32))]))
    refine own_go (fun _ k => XS.ifNo X352.here hx rfl (hb hby at_91) rfl (((if0 _ _).trans (tlt (by decide : (0 : Int32) < (2 : Int32))).2.2.2)) k) ?_
    show own_G p.tables e below _ (T352.setTop (mkF m 94 #[.val (.int x0), .val (.int x1), .val (.int x2), .val (.int (2 : Int32)), .val (.int (2 : Int32)), .val v285, .val v294, .val v305, .val (.ref b318), .unset] []))
    refine own_go (fun _ k => XS.aload X352.here hx rfl (hb hby at_94) rfl rfl k) ?_
    show own_G p.tables e below _ (T352.setTop (mkF m 96 #[.val (.int x0), .val (.int x1), .val (.int x2), .val (.int (2 : Int32)), .val (.int (2 : Int32)), .val v285, .val v294, .val v305, .val (.ref b318), .unset] [(.ref b318)]))
    refine own_go (fun _ k => XS.aload X352.here hx rfl (hb hby at_96) rfl hr285 k) ?_
    show own_G p.tables e below _ (T352.setTop (mkF m 98 #[.val (.int x0), .val (.int x1), .val (.int x2), .val (.int (2 : Int32)), .val (.int (2 : Int32)), .val v285, .val v294, .val v305, .val (.ref b318), .unset] [v285, (.ref b318)]))
    obtain ⟨cq521, kq521, q521a, q521b, q521c⟩ := isOf hZ rfl G_353
    obtain ⟨_, _, ⟨T521, L521, k521, n521⟩, -, X521, ⟨Lc521, hQ521, l521, y521, z521⟩, st521⟩ := X352.virtualBack hx (y := (⟨"com/example/plainsong/plainsong/engine/CallStack", "push", "(Lcom/example/plainsong/plainsong/engine/CallStack$Activation;)V"⟩ : MethodName)) (z := (⟨"com/example/plainsong/plainsong/engine/CallStack", "push", "(Lcom/example/plainsong/plainsong/engine/CallStack$Activation;)V"⟩ : MethodName)) hown (mvT hZ (hw _ (List.mem_of_getElem? (i := 63) rfl))) (mvT hZ (hw _ (List.mem_of_getElem? (i := 64) rfl))) (notFace_of_selects (args := #[]) (mvT hZ (hw _ (List.mem_of_getElem? (i := 66) rfl)))) (mvT hZ (hw _ (List.mem_of_getElem? (i := 66) rfl))) (mvT hZ (hw _ (List.mem_of_getElem? (i := 65) rfl))) (by decide) (backOf (W := 0) (rm_push0 l Z a0 hw [] b318 v285 b352 k352 .null .null .null T352.heap n0 Z_364 G_353 G_354 G_355 V352 ge_319 ge_358 ne_356 hr285 O352 Av_361) hZ (hw _ (List.mem_of_getElem? (i := 67) rfl)) (hw _ (List.mem_of_getElem? (i := 12) rfl)) (by decide) (by decide)) q521a q521c (g := (mkF m 98 #[.val (.int x0), .val (.int x1), .val (.int x2), .val (.int (2 : Int32)), .val (.int (2 : Int32)), .val v285, .val v294, .val v305, .val (.ref b318), .unset] [v285, (.ref b318)])) rfl (by rw [hml]; rfl) (Steps.refl _) (argsL := [v285]) (rest := []) (lenOf own_pd6 rfl) rfl (by show 2 * 0 + _ ≤ _; exact Nat.le_of_eq rfl) (hb hby at_98) (fun _ _ => ⟨rfl, rfl, (by decide : 7 + 0 ≤ _), (by decide : 30 + 0 ≤ _)⟩)
    dsimp only [Pt.U, Pt.locs, Pt.cells, Pt.slots] at X521 l521 y521 z521 st521 hQ521
    subst l521 y521 z521
    obtain ⟨rfl, Nq521, K521, G_522, G_523, G_524, G_525⟩ := hQ521
    have X_526 := G_353.keep K521
    have X_527 := X_360.keep K521
    have Av_528 := own_avK Av_361 K521
    have Av_529 := own_avK Av_362 K521
    have Av_530 := own_avK Av_363 K521
    have Z_531 : n0 ≤ T521.heap.size := Nat.le_trans Z_364 K521.1
    have N_521 := Fr.app N_352 Nq521
    refine own_go (fun _ k => st521.trans k) ?_
    show own_G p.tables e below _ (T521.setTop (mkF m 101 #[.val (.int x0), .val (.int x1), .val (.int x2), .val (.int (2 : Int32)), .val (.int (2 : Int32)), .val v285, .val v294, .val v305, .val (.ref b318), .unset] []))
    refine own_go (fun _ k => XS.iloadN X521.here hx rfl (hb hby at_101) rfl k) ?_
    show own_G p.tables e below _ (T521.setTop (mkF m 102 #[.val (.int x0), .val (.int x1), .val (.int x2), .val (.int (2 : Int32)), .val (.int (2 : Int32)), .val v285, .val v294, .val v305, .val (.ref b318), .unset] [(.int (2 : Int32))]))
    refine own_go (fun _ k => XS.iconst X521.here hx rfl (hb hby at_102) k) ?_
    show own_G p.tables e below _ (T521.setTop (mkF m 103 #[.val (.int x0), .val (.int x1), .val (.int x2), .val (.int (2 : Int32)), .val (.int (2 : Int32)), .val v285, .val v294, .val v305, .val (.ref b318), .unset] [(.int (1 : Int32)), (.int (2 : Int32))]))
    refine own_go (fun _ k => XS.icmpNo X521.here hx rfl (hb hby at_103) rfl ((tlt (by decide : (1 : Int32) < (2 : Int32))).2.2.2) k) ?_
    show own_G p.tables e below _ (T521.setTop (mkF m 106 #[.val (.int x0), .val (.int x1), .val (.int x2), .val (.int (2 : Int32)), .val (.int (2 : Int32)), .val v285, .val v294, .val v305, .val (.ref b318), .unset] []))
    refine own_go (fun _ k => XS.aload X521.here hx rfl (hb hby at_106) rfl rfl k) ?_
    show own_G p.tables e below _ (T521.setTop (mkF m 108 #[.val (.int x0), .val (.int x1), .val (.int x2), .val (.int (2 : Int32)), .val (.int (2 : Int32)), .val v285, .val v294, .val v305, .val (.ref b318), .unset] [(.ref b318)]))
    refine own_go (fun _ k => XS.aload X521.here hx rfl (hb hby at_108) rfl hr294 k) ?_
    show own_G p.tables e below _ (T521.setTop (mkF m 110 #[.val (.int x0), .val (.int x1), .val (.int x2), .val (.int (2 : Int32)), .val (.int (2 : Int32)), .val v285, .val v294, .val v305, .val (.ref b318), .unset] [v294, (.ref b318)]))
    obtain ⟨cq532, kq532, q532a, q532b, q532c⟩ := isOf hZ rfl G_522
    obtain ⟨_, _, ⟨T532, L532, k532, n532⟩, -, X532, ⟨Lc532, hQ532, l532, y532, z532⟩, st532⟩ := X521.virtualBack hx (y := (⟨"com/example/plainsong/plainsong/engine/CallStack", "push", "(Lcom/example/plainsong/plainsong/engine/CallStack$Activation;)V"⟩ : MethodName)) (z := (⟨"com/example/plainsong/plainsong/engine/CallStack", "push", "(Lcom/example/plainsong/plainsong/engine/CallStack$Activation;)V"⟩ : MethodName)) hown (mvT hZ (hw _ (List.mem_of_getElem? (i := 63) rfl))) (mvT hZ (hw _ (List.mem_of_getElem? (i := 64) rfl))) (notFace_of_selects (args := #[]) (mvT hZ (hw _ (List.mem_of_getElem? (i := 66) rfl)))) (mvT hZ (hw _ (List.mem_of_getElem? (i := 66) rfl))) (mvT hZ (hw _ (List.mem_of_getElem? (i := 65) rfl))) (by decide) (backOf (W := 0) (rm_push1 l Z a0 hw [] b318 v294 b352 k352 v285 .null .null T521.heap n0 Z_531 G_522 G_523 G_524 G_525 ge_319 ge_358 ne_356 hr294 O352 Av_529) hZ (hw _ (List.mem_of_getElem? (i := 67) rfl)) (hw _ (List.mem_of_getElem? (i := 12) rfl)) (by decide) (by decide)) q532a q532c (g := (mkF m 110 #[.val (.int x0), .val (.int x1), .val (.int x2), .val (.int (2 : Int32)), .val (.int (2 : Int32)), .val v285, .val v294, .val v305, .val (.ref b318), .unset] [v294, (.ref b318)])) rfl (by rw [hml]; rfl) (Steps.refl _) (argsL := [v294]) (rest := []) (lenOf own_pd6 rfl) rfl (by show 2 * 0 + _ ≤ _; exact Nat.le_of_eq rfl) (hb hby at_110) (fun _ _ => ⟨rfl, rfl, (by decide : 7 + 0 ≤ _), (by decide : 30 + 0 ≤ _)⟩)
    dsimp only [Pt.U, Pt.locs, Pt.cells, Pt.slots] at X532 l532 y532 z532 st532 hQ532
    subst l532 y532 z532
    obtain ⟨rfl, Nq532, K532, G_533, G_534, G_535, G_536⟩ := hQ532
    have X_537 := G_522.keep K532
    have X_538 := X_527.keep K532
    have Av_539 := own_avK Av_528 K532
    have Av_540 := own_avK Av_529 K532
    have Av_541 := own_avK Av_530 K532
    have Z_542 : n0 ≤ T532.heap.size := Nat.le_trans Z_531 K532.1
    have N_532 := Fr.app N_521 Nq532
    refine own_go (fun _ k => st532.trans k) ?_
    show own_G p.tables e below _ (T532.setTop (mkF m 113 #[.val (.int x0), .val (.int x1), .val (.int x2), .val (.int (2 : Int32)), .val (.int (2 : Int32)), .val v285, .val v294, .val v305, .val (.ref b318), .unset] []))
    refine own_go (fun _ k => XS.iloadN X532.here hx rfl (hb hby at_113) rfl k) ?_
    show own_G p.tables e below _ (T532.setTop (mkF m 114 #[.val (.int x0), .val (.int x1), .val (.int x2), .val (.int (2 : Int32)), .val (.int (2 : Int32)), .val v285, .val v294, .val v305, .val (.ref b318), .unset] [(.int (2 : Int32))]))
    refine own_go (fun _ k => XS.iconst X532.here hx rfl (hb hby at_114) k) ?_
    show own_G p.tables e below _ (T532.setTop (mkF m 115 #[.val (.int x0), .val (.int x1), .val (.int x2), .val (.int (2 : Int32)), .val (.int (2 : Int32)), .val v285, .val v294, .val v305, .val (.ref b318), .unset] [(.int (2 : Int32)), (.int (2 : Int32))]))
    refine own_go (fun _ k => XS.icmpYes X532.here hx rfl (pc0 := 115) (pc' := 125) rfl (hb hby at_115) rfl ((flt (by decide : ¬ ((2 : Int32) < (2 : Int32)))).2.2.2) (by decide) (by decide) k) ?_
    show own_G p.tables e below _ (T532.setTop (mkF m 125 #[.val (.int x0), .val (.int x1), .val (.int x2), .val (.int (2 : Int32)), .val (.int (2 : Int32)), .val v285, .val v294, .val v305, .val (.ref b318), .unset] []))
    refine own_go (fun _ k => XS.aload X532.here hx rfl (hb hby at_125) rfl rfl k) ?_
    show own_G p.tables e below _ (T532.setTop (mkF m 127 #[.val (.int x0), .val (.int x1), .val (.int x2), .val (.int (2 : Int32)), .val (.int (2 : Int32)), .val v285, .val v294, .val v305, .val (.ref b318), .unset] [(.ref b318)]))
    refine own_go (fun _ k => XS.iload X532.here hx rfl (hb hby at_127) rfl k) ?_
    show own_G p.tables e below _ (T532.setTop (mkF m 129 #[.val (.int x0), .val (.int x1), .val (.int x2), .val (.int (2 : Int32)), .val (.int (2 : Int32)), .val v285, .val v294, .val v305, .val (.ref b318), .unset] [(.int (2 : Int32)), (.ref b318)]))
    obtain ⟨cq543, kq543, q543a, q543b, q543c⟩ := isOf hZ rfl G_533
    obtain ⟨_, _, ⟨T543, L543, k543, n543⟩, -, X543, ⟨Lc543, hQ543, l543, y543, z543⟩, st543⟩ := X532.virtualBack hx (y := (⟨"com/example/plainsong/plainsong/engine/CallStack", "truncate", "(I)V"⟩ : MethodName)) (z := (⟨"com/example/plainsong/plainsong/engine/CallStack", "truncate", "(I)V"⟩ : MethodName)) hown (mvT hZ (hw _ (List.mem_of_getElem? (i := 43) rfl))) (mvT hZ (hw _ (List.mem_of_getElem? (i := 44) rfl))) (notFace_of_selects (args := #[]) (mvT hZ (hw _ (List.mem_of_getElem? (i := 46) rfl)))) (mvT hZ (hw _ (List.mem_of_getElem? (i := 46) rfl))) (mvT hZ (hw _ (List.mem_of_getElem? (i := 45) rfl))) (by decide) (backOf (W := 0) (rm_tr22 l Z a0 hw [] b318 b352 k352 v285 v294 .null T532.heap n0 Z_542 G_533 G_534 G_535 G_536 ge_319 ge_358 ne_356) hZ (hw _ (List.mem_of_getElem? (i := 47) rfl)) (hw _ (List.mem_of_getElem? (i := 12) rfl)) (by decide) (by decide)) q543a q543c (g := (mkF m 129 #[.val (.int x0), .val (.int x1), .val (.int x2), .val (.int (2 : Int32)), .val (.int (2 : Int32)), .val v285, .val v294, .val v305, .val (.ref b318), .unset] [(.int (2 : Int32)), (.ref b318)])) rfl (by rw [hml]; rfl) (Steps.refl _) (argsL := [(.int (2 : Int32))]) (rest := []) (lenOf own_pd2 rfl) rfl (by show 2 * 0 + _ ≤ _; exact Nat.le_of_eq rfl) (hb hby at_129) (fun _ _ => ⟨rfl, rfl, (by decide : 7 + 0 ≤ _), (by decide : 30 + 0 ≤ _)⟩)
    dsimp only [Pt.U, Pt.locs, Pt.cells, Pt.slots] at X543 l543 y543 z543 st543 hQ543
    subst l543 y543 z543
    obtain ⟨rfl, Nq543, K543, G_544, G_545, G_546, G_547⟩ := hQ543
    have X_548 := G_533.keep K543
    have X_549 := X_538.keep K543
    have Av_550 := own_avK Av_539 K543
    have Av_551 := own_avK Av_540 K543
    have Av_552 := own_avK Av_541 K543
    have Z_553 : n0 ≤ T543.heap.size := Nat.le_trans Z_542 K543.1
    have N_543 := Fr.app N_532 Nq543
    refine own_go (fun _ k => st543.trans k) ?_
    show own_G p.tables e below _ (T543.setTop (mkF m 132 #[.val (.int x0), .val (.int x1), .val (.int x2), .val (.int (2 : Int32)), .val (.int (2 : Int32)), .val v285, .val v294, .val v305, .val (.ref b318), .unset] []))
    refine own_go (fun _ k => XS.aload X543.here hx rfl (hb hby at_132) rfl rfl k) ?_
    show own_G p.tables e below _ (T543.setTop (mkF m 134 #[.val (.int x0), .val (.int x1), .val (.int x2), .val (.int (2 : Int32)), .val (.int (2 : Int32)), .val v285, .val v294, .val v305, .val (.ref b318), .unset] [(.ref b318)]))
    obtain ⟨T554, X554, e554, st554⟩ := own_callV X543 hx hZ (y := (⟨"com/example/plainsong/plainsong/engine/CallStack", "depth", "()I"⟩ : MethodName)) hown (hw _ (List.mem_of_getElem? (i := 50) rfl)) (hw _ (List.mem_of_getElem? (i := 51) rfl)) (hw _ (List.mem_of_getElem? (i := 53) rfl)) (hw _ (List.mem_of_getElem? (i := 52) rfl)) (hw _ (List.mem_of_getElem? (i := 12) rfl)) (hw _ (List.mem_of_getElem? (i := 54) rfl)) (by decide) (W := 0) (rm7 l Z a0 hw [] b318 (2 : Int32) T543.heap G_546) (by decide) (by decide) rfl rfl rfl G_544 (g := (mkF m 134 #[.val (.int x0), .val (.int x1), .val (.int x2), .val (.int (2 : Int32)), .val (.int (2 : Int32)), .val v285, .val v294, .val v305, .val (.ref b318), .unset] [(.ref b318)])) rfl (by rw [hml]; rfl) (argsL := []) (rest := []) (lenOf own_pd3 rfl) rfl rfl (by show 2 * 0 + _ ≤ _; exact Nat.le_of_eq rfl) (hb hby at_134) (by decide) (by decide)
    refine own_go st554 ?_
    show own_G p.tables e below _ (T554.setTop (mkF m 137 #[.val (.int x0), .val (.int x1), .val (.int x2), .val (.int (2 : Int32)), .val (.int (2 : Int32)), .val v285, .val v294, .val v305, .val (.ref b318), .unset] [(.int (2 : Int32))]))
    refine own_go (fun _ k => XS.iload X554.here hx rfl (hb hby at_137) rfl k) ?_
    show own_G p.tables e below _ (T554.setTop (mkF m 139 #[.val (.int x0), .val (.int x1), .val (.int x2), .val (.int (2 : Int32)), .val (.int (2 : Int32)), .val v285, .val v294, .val v305, .val (.ref b318), .unset] [(.int (2 : Int32)), (.int (2 : Int32))]))
    refine own_go (fun _ k => XS.icmpNo X554.here hx rfl (hb hby at_139) rfl ((teq (by decide : (2 : Int32) = (2 : Int32))).2) k) ?_
    show own_G p.tables e below _ (T554.setTop (mkF m 142 #[.val (.int x0), .val (.int x1), .val (.int x2), .val (.int (2 : Int32)), .val (.int (2 : Int32)), .val v285, .val v294, .val v305, .val (.ref b318), .unset] []))
    refine own_go (fun _ k => XS.iconst X554.here hx rfl (hb hby at_142) k) ?_
    show own_G p.tables e below _ (T554.setTop (mkF m 143 #[.val (.int x0), .val (.int x1), .val (.int x2), .val (.int (2 : Int32)), .val (.int (2 : Int32)), .val v285, .val v294, .val v305, .val (.ref b318), .unset] [(.int (1 : Int32))]))
    refine own_go (fun _ k => XS.goto X554.here hx rfl (pc0 := 143) (pc' := 147) rfl (hb hby at_143) (by decide) (by decide) k) ?_
    show own_G p.tables e below _ (T554.setTop (mkF m 147 #[.val (.int x0), .val (.int x1), .val (.int x2), .val (.int (2 : Int32)), .val (.int (2 : Int32)), .val v285, .val v294, .val v305, .val (.ref b318), .unset] [(.int (1 : Int32))]))
    refine own_go (fun _ k => XS.istore X554.here hx rfl (hb hby at_147) rfl (l' := #[.val (.int x0), .val (.int x1), .val (.int x2), .val (.int (2 : Int32)), .val (.int (2 : Int32)), .val v285, .val v294, .val v305, .val (.ref b318), .val (.int (1 : Int32))]) rfl k) ?_
    show own_G p.tables e below _ (T554.setTop (mkF m 149 #[.val (.int x0), .val (.int x1), .val (.int x2), .val (.int (2 : Int32)), .val (.int (2 : Int32)), .val v285, .val v294, .val v305, .val (.ref b318), .val (.int (1 : Int32))] []))
    refine own_go (fun _ k => XS.iload X554.here hx rfl (hb hby at_149) rfl k) ?_
    show own_G p.tables e below _ (T554.setTop (mkF m 151 #[.val (.int x0), .val (.int x1), .val (.int x2), .val (.int (2 : Int32)), .val (.int (2 : Int32)), .val v285, .val v294, .val v305, .val (.ref b318), .val (.int (1 : Int32))] [(.int (1 : Int32))]))
    refine own_go (fun _ k => XS.ifNo X554.here hx rfl (hb hby at_151) rfl (((if0 _ _).trans (feq (by decide : ¬ ((1 : Int32) = (0 : Int32)))).1)) k) ?_
    show own_G p.tables e below _ (T554.setTop (mkF m 154 #[.val (.int x0), .val (.int x1), .val (.int x2), .val (.int (2 : Int32)), .val (.int (2 : Int32)), .val v285, .val v294, .val v305, .val (.ref b318), .val (.int (1 : Int32))] []))
    refine own_go (fun _ k => XS.aload X554.here hx rfl (hb hby at_154) rfl rfl k) ?_
    show own_G p.tables e below _ (T554.setTop (mkF m 156 #[.val (.int x0), .val (.int x1), .val (.int x2), .val (.int (2 : Int32)), .val (.int (2 : Int32)), .val v285, .val v294, .val v305, .val (.ref b318), .val (.int (1 : Int32))] [(.ref b318)]))
    refine own_go (fun _ k => XS.iconst X554.here hx rfl (hb hby at_156) k) ?_
    show own_G p.tables e below _ (T554.setTop (mkF m 157 #[.val (.int x0), .val (.int x1), .val (.int x2), .val (.int (2 : Int32)), .val (.int (2 : Int32)), .val v285, .val v294, .val v305, .val (.ref b318), .val (.int (1 : Int32))] [(.int (0 : Int32)), (.ref b318)]))
    obtain ⟨T555, X555, e555, st555⟩ := own_callV X554 hx hZ (y := (⟨"com/example/plainsong/plainsong/engine/CallStack", "entry", "(I)Lcom/example/plainsong/plainsong/engine/CallStack$Activation;"⟩ : MethodName)) hown (hw _ (List.mem_of_getElem? (i := 55) rfl)) (hw _ (List.mem_of_getElem? (i := 56) rfl)) (hw _ (List.mem_of_getElem? (i := 58) rfl)) (hw _ (List.mem_of_getElem? (i := 57) rfl)) (hw _ (List.mem_of_getElem? (i := 12) rfl)) (hw _ (List.mem_of_getElem? (i := 59) rfl)) (by decide) (W := 0) (rm_ent0 l Z a0 hw [] b318 b352 k352 v285 v294 .null T543.heap G_545 G_547 hr285) (by decide) (by decide) rfl rfl e554 G_544 (g := (mkF m 157 #[.val (.int x0), .val (.int x1), .val (.int x2), .val (.int (2 : Int32)), .val (.int (2 : Int32)), .val v285, .val v294, .val v305, .val (.ref b318), .val (.int (1 : Int32))] [(.int (0 : Int32)), (.ref b318)])) rfl (by rw [hml]; rfl) (argsL := [(.int (0 : Int32))]) (rest := []) (lenOf own_pd4 rfl) rfl rfl (by show 2 * 0 + _ ≤ _; exact Nat.le_of_eq rfl) (hb hby at_157) (by decide) (by decide)
    refine own_go st555 ?_
    show own_G p.tables e below _ (T555.setTop (mkF m 160 #[.val (.int x0), .val (.int x1), .val (.int x2), .val (.int (2 : Int32)), .val (.int (2 : Int32)), .val v285, .val v294, .val v305, .val (.ref b318), .val (.int (1 : Int32))] [v285]))
    refine own_go (fun _ k => XS.iconst X555.here hx rfl (hb hby at_160) k) ?_
    show own_G p.tables e below _ (T555.setTop (mkF m 161 #[.val (.int x0), .val (.int x1), .val (.int x2), .val (.int (2 : Int32)), .val (.int (2 : Int32)), .val v285, .val v294, .val v305, .val (.ref b318), .val (.int (1 : Int32))] [(.int (0 : Int32)), v285]))
    refine own_go (fun _ k => XS.iload X555.here hx rfl (hb hby at_161) rfl k) ?_
    show own_G p.tables e below _ (T555.setTop (mkF m 163 #[.val (.int x0), .val (.int x1), .val (.int x2), .val (.int (2 : Int32)), .val (.int (2 : Int32)), .val v285, .val v294, .val v305, .val (.ref b318), .val (.int (1 : Int32))] [(.int (2 : Int32)), (.int (0 : Int32)), v285]))
    refine own_go (fun _ k => XS.aload X555.here hx rfl (hb hby at_163) rfl hr285 k) ?_
    show own_G p.tables e below _ (T555.setTop (mkF m 165 #[.val (.int x0), .val (.int x1), .val (.int x2), .val (.int (2 : Int32)), .val (.int (2 : Int32)), .val v285, .val v294, .val v305, .val (.ref b318), .val (.int (1 : Int32))] [v285, (.int (2 : Int32)), (.int (0 : Int32)), v285]))
    obtain ⟨T556, X556, e556, st556⟩ := own_callP X555 hx hZ (y := (⟨"com/example/plainsong/plainsong/engine/CallStackTruncatePinLaw", "expected", "(IILcom/example/plainsong/plainsong/engine/CallStack$Activation;)Lcom/example/plainsong/plainsong/engine/CallStack$Activation;"⟩ : MethodName)) hown (hw _ (List.mem_of_getElem? (i := 60) rfl)) (hw _ (List.mem_of_getElem? (i := 61) rfl)) (hw _ (List.mem_of_getElem? (i := 3) rfl)) (hw _ (List.mem_of_getElem? (i := 62) rfl)) (by decide) (W := 1) (rm_explt l Z a0 hw [] (0 : Int32) (2 : Int32) v285  T543.heap hr285 (by decide)) (by decide) (by decide) rfl rfl e555 (g := (mkF m 165 #[.val (.int x0), .val (.int x1), .val (.int x2), .val (.int (2 : Int32)), .val (.int (2 : Int32)), .val v285, .val v294, .val v305, .val (.ref b318), .val (.int (1 : Int32))] [v285, (.int (2 : Int32)), (.int (0 : Int32)), v285])) rfl (by rw [hml]; rfl) (argsL := [(.int (0 : Int32)), (.int (2 : Int32)), v285]) (rest := [v285]) (lenOf own_pd5 rfl) rfl rfl (own_w1 hr285) (hb hby at_165) (by decide) (by decide)
    refine own_go st556 ?_
    show own_G p.tables e below _ (T556.setTop (mkF m 168 #[.val (.int x0), .val (.int x1), .val (.int x2), .val (.int (2 : Int32)), .val (.int (2 : Int32)), .val v285, .val v294, .val v305, .val (.ref b318), .val (.int (1 : Int32))] [v285, v285]))
    refine own_go (fun _ k => Jvm.RoadKit.acmp (g := (mkF m 168 #[.val (.int x0), .val (.int x1), .val (.int x2), .val (.int (2 : Int32)), .val (.int (2 : Int32)), .val v285, .val v294, .val v305, .val (.ref b318), .val (.int (1 : Int32))] [v285, v285])) X556 hx rfl hr285 hr285 (pc0 := 168) (pc' := 171) (same := true) rfl (hb hby at_168) rfl (decide_eq_true rfl) (by decide) (by decide) k) ?_
    show own_G p.tables e below _ (T556.setTop (mkF m 171 #[.val (.int x0), .val (.int x1), .val (.int x2), .val (.int (2 : Int32)), .val (.int (2 : Int32)), .val v285, .val v294, .val v305, .val (.ref b318), .val (.int (1 : Int32))] []))
    refine own_go (fun _ k => XS.iconst X556.here hx rfl (hb hby at_171) k) ?_
    show own_G p.tables e below _ (T556.setTop (mkF m 172 #[.val (.int x0), .val (.int x1), .val (.int x2), .val (.int (2 : Int32)), .val (.int (2 : Int32)), .val v285, .val v294, .val v305, .val (.ref b318), .val (.int (1 : Int32))] [(.int (1 : Int32))]))
    refine own_go (fun _ k => XS.goto X556.here hx rfl (pc0 := 172) (pc' := 176) rfl (hb hby at_172) (by decide) (by decide) k) ?_
    show own_G p.tables e below _ (T556.setTop (mkF m 176 #[.val (.int x0), .val (.int x1), .val (.int x2), .val (.int (2 : Int32)), .val (.int (2 : Int32)), .val v285, .val v294, .val v305, .val (.ref b318), .val (.int (1 : Int32))] [(.int (1 : Int32))]))
    refine own_go (fun _ k => XS.istore X556.here hx rfl (hb hby at_176) rfl (l' := #[.val (.int x0), .val (.int x1), .val (.int x2), .val (.int (2 : Int32)), .val (.int (2 : Int32)), .val v285, .val v294, .val v305, .val (.ref b318), .val (.int (1 : Int32))]) rfl k) ?_
    show own_G p.tables e below _ (T556.setTop (mkF m 178 #[.val (.int x0), .val (.int x1), .val (.int x2), .val (.int (2 : Int32)), .val (.int (2 : Int32)), .val v285, .val v294, .val v305, .val (.ref b318), .val (.int (1 : Int32))] []))
    refine own_go (fun _ k => XS.iload X556.here hx rfl (hb hby at_178) rfl k) ?_
    show own_G p.tables e below _ (T556.setTop (mkF m 180 #[.val (.int x0), .val (.int x1), .val (.int x2), .val (.int (2 : Int32)), .val (.int (2 : Int32)), .val v285, .val v294, .val v305, .val (.ref b318), .val (.int (1 : Int32))] [(.int (1 : Int32))]))
    refine own_go (fun _ k => XS.ifNo X556.here hx rfl (hb hby at_180) rfl (((if0 _ _).trans (feq (by decide : ¬ ((1 : Int32) = (0 : Int32)))).1)) k) ?_
    show own_G p.tables e below _ (T556.setTop (mkF m 183 #[.val (.int x0), .val (.int x1), .val (.int x2), .val (.int (2 : Int32)), .val (.int (2 : Int32)), .val v285, .val v294, .val v305, .val (.ref b318), .val (.int (1 : Int32))] []))
    refine own_go (fun _ k => XS.aload X556.here hx rfl (hb hby at_183) rfl rfl k) ?_
    show own_G p.tables e below _ (T556.setTop (mkF m 185 #[.val (.int x0), .val (.int x1), .val (.int x2), .val (.int (2 : Int32)), .val (.int (2 : Int32)), .val v285, .val v294, .val v305, .val (.ref b318), .val (.int (1 : Int32))] [(.ref b318)]))
    refine own_go (fun _ k => XS.iconst X556.here hx rfl (hb hby at_185) k) ?_
    show own_G p.tables e below _ (T556.setTop (mkF m 186 #[.val (.int x0), .val (.int x1), .val (.int x2), .val (.int (2 : Int32)), .val (.int (2 : Int32)), .val v285, .val v294, .val v305, .val (.ref b318), .val (.int (1 : Int32))] [(.int (1 : Int32)), (.ref b318)]))
    obtain ⟨T557, X557, e557, st557⟩ := own_callV X556 hx hZ (y := (⟨"com/example/plainsong/plainsong/engine/CallStack", "entry", "(I)Lcom/example/plainsong/plainsong/engine/CallStack$Activation;"⟩ : MethodName)) hown (hw _ (List.mem_of_getElem? (i := 55) rfl)) (hw _ (List.mem_of_getElem? (i := 56) rfl)) (hw _ (List.mem_of_getElem? (i := 58) rfl)) (hw _ (List.mem_of_getElem? (i := 57) rfl)) (hw _ (List.mem_of_getElem? (i := 12) rfl)) (hw _ (List.mem_of_getElem? (i := 59) rfl)) (by decide) (W := 0) (rm_ent1 l Z a0 hw [] b318 b352 k352 v285 v294 .null T543.heap G_545 G_547 hr294) (by decide) (by decide) rfl rfl e556 G_544 (g := (mkF m 186 #[.val (.int x0), .val (.int x1), .val (.int x2), .val (.int (2 : Int32)), .val (.int (2 : Int32)), .val v285, .val v294, .val v305, .val (.ref b318), .val (.int (1 : Int32))] [(.int (1 : Int32)), (.ref b318)])) rfl (by rw [hml]; rfl) (argsL := [(.int (1 : Int32))]) (rest := []) (lenOf own_pd4 rfl) rfl rfl (by show 2 * 0 + _ ≤ _; exact Nat.le_of_eq rfl) (hb hby at_186) (by decide) (by decide)
    refine own_go st557 ?_
    show own_G p.tables e below _ (T557.setTop (mkF m 189 #[.val (.int x0), .val (.int x1), .val (.int x2), .val (.int (2 : Int32)), .val (.int (2 : Int32)), .val v285, .val v294, .val v305, .val (.ref b318), .val (.int (1 : Int32))] [v294]))
    refine own_go (fun _ k => XS.iconst X557.here hx rfl (hb hby at_189) k) ?_
    show own_G p.tables e below _ (T557.setTop (mkF m 190 #[.val (.int x0), .val (.int x1), .val (.int x2), .val (.int (2 : Int32)), .val (.int (2 : Int32)), .val v285, .val v294, .val v305, .val (.ref b318), .val (.int (1 : Int32))] [(.int (1 : Int32)), v294]))
    refine own_go (fun _ k => XS.iload X557.here hx rfl (hb hby at_190) rfl k) ?_
    show own_G p.tables e below _ (T557.setTop (mkF m 192 #[.val (.int x0), .val (.int x1), .val (.int x2), .val (.int (2 : Int32)), .val (.int (2 : Int32)), .val v285, .val v294, .val v305, .val (.ref b318), .val (.int (1 : Int32))] [(.int (2 : Int32)), (.int (1 : Int32)), v294]))
    refine own_go (fun _ k => XS.aload X557.here hx rfl (hb hby at_192) rfl hr294 k) ?_
    show own_G p.tables e below _ (T557.setTop (mkF m 194 #[.val (.int x0), .val (.int x1), .val (.int x2), .val (.int (2 : Int32)), .val (.int (2 : Int32)), .val v285, .val v294, .val v305, .val (.ref b318), .val (.int (1 : Int32))] [v294, (.int (2 : Int32)), (.int (1 : Int32)), v294]))
    obtain ⟨T558, X558, e558, st558⟩ := own_callP X557 hx hZ (y := (⟨"com/example/plainsong/plainsong/engine/CallStackTruncatePinLaw", "expected", "(IILcom/example/plainsong/plainsong/engine/CallStack$Activation;)Lcom/example/plainsong/plainsong/engine/CallStack$Activation;"⟩ : MethodName)) hown (hw _ (List.mem_of_getElem? (i := 60) rfl)) (hw _ (List.mem_of_getElem? (i := 61) rfl)) (hw _ (List.mem_of_getElem? (i := 3) rfl)) (hw _ (List.mem_of_getElem? (i := 62) rfl)) (by decide) (W := 1) (rm_explt l Z a0 hw [] (1 : Int32) (2 : Int32) v294  T543.heap hr294 (by decide)) (by decide) (by decide) rfl rfl e557 (g := (mkF m 194 #[.val (.int x0), .val (.int x1), .val (.int x2), .val (.int (2 : Int32)), .val (.int (2 : Int32)), .val v285, .val v294, .val v305, .val (.ref b318), .val (.int (1 : Int32))] [v294, (.int (2 : Int32)), (.int (1 : Int32)), v294])) rfl (by rw [hml]; rfl) (argsL := [(.int (1 : Int32)), (.int (2 : Int32)), v294]) (rest := [v294]) (lenOf own_pd5 rfl) rfl rfl (own_w1 hr294) (hb hby at_194) (by decide) (by decide)
    refine own_go st558 ?_
    show own_G p.tables e below _ (T558.setTop (mkF m 197 #[.val (.int x0), .val (.int x1), .val (.int x2), .val (.int (2 : Int32)), .val (.int (2 : Int32)), .val v285, .val v294, .val v305, .val (.ref b318), .val (.int (1 : Int32))] [v294, v294]))
    refine own_go (fun _ k => Jvm.RoadKit.acmp (g := (mkF m 197 #[.val (.int x0), .val (.int x1), .val (.int x2), .val (.int (2 : Int32)), .val (.int (2 : Int32)), .val v285, .val v294, .val v305, .val (.ref b318), .val (.int (1 : Int32))] [v294, v294])) X558 hx rfl hr294 hr294 (pc0 := 197) (pc' := 200) (same := true) rfl (hb hby at_197) rfl (decide_eq_true rfl) (by decide) (by decide) k) ?_
    show own_G p.tables e below _ (T558.setTop (mkF m 200 #[.val (.int x0), .val (.int x1), .val (.int x2), .val (.int (2 : Int32)), .val (.int (2 : Int32)), .val v285, .val v294, .val v305, .val (.ref b318), .val (.int (1 : Int32))] []))
    refine own_go (fun _ k => XS.iconst X558.here hx rfl (hb hby at_200) k) ?_
    show own_G p.tables e below _ (T558.setTop (mkF m 201 #[.val (.int x0), .val (.int x1), .val (.int x2), .val (.int (2 : Int32)), .val (.int (2 : Int32)), .val v285, .val v294, .val v305, .val (.ref b318), .val (.int (1 : Int32))] [(.int (1 : Int32))]))
    refine own_go (fun _ k => XS.goto X558.here hx rfl (pc0 := 201) (pc' := 205) rfl (hb hby at_201) (by decide) (by decide) k) ?_
    show own_G p.tables e below _ (T558.setTop (mkF m 205 #[.val (.int x0), .val (.int x1), .val (.int x2), .val (.int (2 : Int32)), .val (.int (2 : Int32)), .val v285, .val v294, .val v305, .val (.ref b318), .val (.int (1 : Int32))] [(.int (1 : Int32))]))
    refine own_go (fun _ k => XS.istore X558.here hx rfl (hb hby at_205) rfl (l' := #[.val (.int x0), .val (.int x1), .val (.int x2), .val (.int (2 : Int32)), .val (.int (2 : Int32)), .val v285, .val v294, .val v305, .val (.ref b318), .val (.int (1 : Int32))]) rfl k) ?_
    show own_G p.tables e below _ (T558.setTop (mkF m 207 #[.val (.int x0), .val (.int x1), .val (.int x2), .val (.int (2 : Int32)), .val (.int (2 : Int32)), .val v285, .val v294, .val v305, .val (.ref b318), .val (.int (1 : Int32))] []))
    refine own_go (fun _ k => XS.iload X558.here hx rfl (hb hby at_207) rfl k) ?_
    show own_G p.tables e below _ (T558.setTop (mkF m 209 #[.val (.int x0), .val (.int x1), .val (.int x2), .val (.int (2 : Int32)), .val (.int (2 : Int32)), .val v285, .val v294, .val v305, .val (.ref b318), .val (.int (1 : Int32))] [(.int (1 : Int32))]))
    refine own_go (fun _ k => XS.ifNo X558.here hx rfl (hb hby at_209) rfl (((if0 _ _).trans (feq (by decide : ¬ ((1 : Int32) = (0 : Int32)))).1)) k) ?_
    show own_G p.tables e below _ (T558.setTop (mkF m 212 #[.val (.int x0), .val (.int x1), .val (.int x2), .val (.int (2 : Int32)), .val (.int (2 : Int32)), .val v285, .val v294, .val v305, .val (.ref b318), .val (.int (1 : Int32))] []))
    refine own_go (fun _ k => XS.aload X558.here hx rfl (hb hby at_212) rfl rfl k) ?_
    show own_G p.tables e below _ (T558.setTop (mkF m 214 #[.val (.int x0), .val (.int x1), .val (.int x2), .val (.int (2 : Int32)), .val (.int (2 : Int32)), .val v285, .val v294, .val v305, .val (.ref b318), .val (.int (1 : Int32))] [(.ref b318)]))
    refine own_go (fun _ k => XS.iconst X558.here hx rfl (hb hby at_214) k) ?_
    show own_G p.tables e below _ (T558.setTop (mkF m 215 #[.val (.int x0), .val (.int x1), .val (.int x2), .val (.int (2 : Int32)), .val (.int (2 : Int32)), .val v285, .val v294, .val v305, .val (.ref b318), .val (.int (1 : Int32))] [(.int (2 : Int32)), (.ref b318)]))
    obtain ⟨T559, X559, e559, st559⟩ := own_callV X558 hx hZ (y := (⟨"com/example/plainsong/plainsong/engine/CallStack", "entry", "(I)Lcom/example/plainsong/plainsong/engine/CallStack$Activation;"⟩ : MethodName)) hown (hw _ (List.mem_of_getElem? (i := 55) rfl)) (hw _ (List.mem_of_getElem? (i := 56) rfl)) (hw _ (List.mem_of_getElem? (i := 58) rfl)) (hw _ (List.mem_of_getElem? (i := 57) rfl)) (hw _ (List.mem_of_getElem? (i := 12) rfl)) (hw _ (List.mem_of_getElem? (i := 59) rfl)) (by decide) (W := 0) (rm_ent2 l Z a0 hw [] b318 b352 k352 v285 v294 .null T543.heap G_545 G_547 rfl) (by decide) (by decide) rfl rfl e558 G_544 (g := (mkF m 215 #[.val (.int x0), .val (.int x1), .val (.int x2), .val (.int (2 : Int32)), .val (.int (2 : Int32)), .val v285, .val v294, .val v305, .val (.ref b318), .val (.int (1 : Int32))] [(.int (2 : Int32)), (.ref b318)])) rfl (by rw [hml]; rfl) (argsL := [(.int (2 : Int32))]) (rest := []) (lenOf own_pd4 rfl) rfl rfl (by show 2 * 0 + _ ≤ _; exact Nat.le_of_eq rfl) (hb hby at_215) (by decide) (by decide)
    refine own_go st559 ?_
    show own_G p.tables e below _ (T559.setTop (mkF m 218 #[.val (.int x0), .val (.int x1), .val (.int x2), .val (.int (2 : Int32)), .val (.int (2 : Int32)), .val v285, .val v294, .val v305, .val (.ref b318), .val (.int (1 : Int32))] [.null]))
    refine own_go (fun _ k => XS.iconst X559.here hx rfl (hb hby at_218) k) ?_
    show own_G p.tables e below _ (T559.setTop (mkF m 219 #[.val (.int x0), .val (.int x1), .val (.int x2), .val (.int (2 : Int32)), .val (.int (2 : Int32)), .val v285, .val v294, .val v305, .val (.ref b318), .val (.int (1 : Int32))] [(.int (2 : Int32)), .null]))
    refine own_go (fun _ k => XS.iload X559.here hx rfl (hb hby at_219) rfl k) ?_
    show own_G p.tables e below _ (T559.setTop (mkF m 221 #[.val (.int x0), .val (.int x1), .val (.int x2), .val (.int (2 : Int32)), .val (.int (2 : Int32)), .val v285, .val v294, .val v305, .val (.ref b318), .val (.int (1 : Int32))] [(.int (2 : Int32)), (.int (2 : Int32)), .null]))
    refine own_go (fun _ k => XS.aload X559.here hx rfl (hb hby at_221) rfl hr305 k) ?_
    show own_G p.tables e below _ (T559.setTop (mkF m 223 #[.val (.int x0), .val (.int x1), .val (.int x2), .val (.int (2 : Int32)), .val (.int (2 : Int32)), .val v285, .val v294, .val v305, .val (.ref b318), .val (.int (1 : Int32))] [v305, (.int (2 : Int32)), (.int (2 : Int32)), .null]))
    obtain ⟨T560, X560, e560, st560⟩ := own_callP X559 hx hZ (y := (⟨"com/example/plainsong/plainsong/engine/CallStackTruncatePinLaw", "expected", "(IILcom/example/plainsong/plainsong/engine/CallStack$Activation;)Lcom/example/plainsong/plainsong/engine/CallStack$Activation;"⟩ : MethodName)) hown (hw _ (List.mem_of_getElem? (i := 60) rfl)) (hw _ (List.mem_of_getElem? (i := 61) rfl)) (hw _ (List.mem_of_getElem? (i := 3) rfl)) (hw _ (List.mem_of_getElem? (i := 62) rfl)) (by decide) (W := 1) (rm_expge l Z a0 hw [] (2 : Int32) (2 : Int32) v305  T543.heap hr305 (by decide)) (by decide) (by decide) rfl rfl e559 (g := (mkF m 223 #[.val (.int x0), .val (.int x1), .val (.int x2), .val (.int (2 : Int32)), .val (.int (2 : Int32)), .val v285, .val v294, .val v305, .val (.ref b318), .val (.int (1 : Int32))] [v305, (.int (2 : Int32)), (.int (2 : Int32)), .null])) rfl (by rw [hml]; rfl) (argsL := [(.int (2 : Int32)), (.int (2 : Int32)), v305]) (rest := [.null]) (lenOf own_pd5 rfl) rfl rfl (by show 2 * 0 + _ ≤ _; exact Nat.le_of_eq rfl) (hb hby at_223) (by decide) (by decide)
    refine own_go st560 ?_
    show own_G p.tables e below _ (T560.setTop (mkF m 226 #[.val (.int x0), .val (.int x1), .val (.int x2), .val (.int (2 : Int32)), .val (.int (2 : Int32)), .val v285, .val v294, .val v305, .val (.ref b318), .val (.int (1 : Int32))] [.null, .null]))
    refine own_go (fun _ k => Jvm.RoadKit.acmp (g := (mkF m 226 #[.val (.int x0), .val (.int x1), .val (.int x2), .val (.int (2 : Int32)), .val (.int (2 : Int32)), .val v285, .val v294, .val v305, .val (.ref b318), .val (.int (1 : Int32))] [.null, .null])) X560 hx rfl rfl rfl (pc0 := 226) (pc' := 229) (same := true) rfl (hb hby at_226) rfl (decide_eq_true rfl) (by decide) (by decide) k) ?_
    show own_G p.tables e below _ (T560.setTop (mkF m 229 #[.val (.int x0), .val (.int x1), .val (.int x2), .val (.int (2 : Int32)), .val (.int (2 : Int32)), .val v285, .val v294, .val v305, .val (.ref b318), .val (.int (1 : Int32))] []))
    refine own_go (fun _ k => XS.iconst X560.here hx rfl (hb hby at_229) k) ?_
    show own_G p.tables e below _ (T560.setTop (mkF m 230 #[.val (.int x0), .val (.int x1), .val (.int x2), .val (.int (2 : Int32)), .val (.int (2 : Int32)), .val v285, .val v294, .val v305, .val (.ref b318), .val (.int (1 : Int32))] [(.int (1 : Int32))]))
    refine own_go (fun _ k => XS.goto X560.here hx rfl (pc0 := 230) (pc' := 234) rfl (hb hby at_230) (by decide) (by decide) k) ?_
    show own_G p.tables e below _ (T560.setTop (mkF m 234 #[.val (.int x0), .val (.int x1), .val (.int x2), .val (.int (2 : Int32)), .val (.int (2 : Int32)), .val v285, .val v294, .val v305, .val (.ref b318), .val (.int (1 : Int32))] [(.int (1 : Int32))]))
    refine own_go (fun _ k => XS.istore X560.here hx rfl (hb hby at_234) rfl (l' := #[.val (.int x0), .val (.int x1), .val (.int x2), .val (.int (2 : Int32)), .val (.int (2 : Int32)), .val v285, .val v294, .val v305, .val (.ref b318), .val (.int (1 : Int32))]) rfl k) ?_
    show own_G p.tables e below _ (T560.setTop (mkF m 236 #[.val (.int x0), .val (.int x1), .val (.int x2), .val (.int (2 : Int32)), .val (.int (2 : Int32)), .val v285, .val v294, .val v305, .val (.ref b318), .val (.int (1 : Int32))] []))
    refine own_go (fun _ k => XS.iload X560.here hx rfl (hb hby at_236) rfl k) ?_
    show own_G p.tables e below _ (T560.setTop (mkF m 238 #[.val (.int x0), .val (.int x1), .val (.int x2), .val (.int (2 : Int32)), .val (.int (2 : Int32)), .val v285, .val v294, .val v305, .val (.ref b318), .val (.int (1 : Int32))] [(.int (1 : Int32))]))
    exact own_end X560 Bd.notSynchronized (v := some (.int (nar .boolean (1 : Int32)))) (fun h => by rw [Bd.returns] at h; cases h) (Q := QL (some (.int (1 : Int32))) n0) ⟨rfl, N_543⟩ (fun fs hr => retN X560 hx (t := .boolean) Bd.returns (by simp) (hb hby at_238) hr) (by decide) (by decide)
  · rw [hn, hk]
    show own_G p.tables e below _ (T352.setTop (mkF m 90 #[.val (.int x0), .val (.int x1), .val (.int x2), .val (.int (3 : Int32)), .val (.int (0 : Int32)), .val v285, .val v294, .val v305, .val (.ref b318), .unset] []))
    refine own_go (fun _ k => XS.iloadN X352.here hx rfl (hb hby at_90) rfl k) ?_
    show own_G p.tables e below _ (T352.setTop (mkF m 91 #[.val (.int x0), .val (.int x1), .val (.int x2), .val (.int (3 : Int32)), .val (.int (0 : Int32)), .val v285, .val v294, .val v305, .val (.ref b318), .unset] [(.int (3 : Int32))]))
    refine own_go (fun _ k => XS.ifNo X352.here hx rfl (hb hby at_91) rfl (((if0 _ _).trans (tlt (by decide : (0 : Int32) < (3 : Int32))).2.2.2)) k) ?_
    show own_G p.tables e below _ (T352.setTop (mkF m 94 #[.val (.int x0), .val (.int x1), .val (.int x2), .val (.int (3 : Int32)), .val (.int (0 : Int32)), .val v285, .val v294, .val v305, .val (.ref b318), .unset] []))
    refine own_go (fun _ k => XS.aload X352.here hx rfl (hb hby at_94) rfl rfl k) ?_
    show own_G p.tables e below _ (T352.setTop (mkF m 96 #[.val (.int x0), .val (.int x1), .val (.int x2), .val (.int (3 : Int32)), .val (.int (0 : Int32)), .val v285, .val v294, .val v305, .val (.ref b318), .unset] [(.ref b318)]))
    refine own_go (fun _ k => XS.aload X352.here hx rfl (hb hby at_96) rfl hr285 k) ?_
    show own_G p.tables e below _ (T352.setTop (mkF m 98 #[.val (.int x0), .val (.int x1), .val (.int x2), .val (.int (3 : Int32)), .val (.int (0 : Int32)), .val v285, .val v294, .val v305, .val (.ref b318), .unset] [v285, (.ref b318)]))
    obtain ⟨cq561, kq561, q561a, q561b, q561c⟩ := isOf hZ rfl G_353
    obtain ⟨_, _, ⟨T561, L561, k561, n561⟩, -, X561, ⟨Lc561, hQ561, l561, y561, z561⟩, st561⟩ := X352.virtualBack hx (y := (⟨"com/example/plainsong/plainsong/engine/CallStack", "push", "(Lcom/example/plainsong/plainsong/engine/CallStack$Activation;)V"⟩ : MethodName)) (z := (⟨"com/example/plainsong/plainsong/engine/CallStack", "push", "(Lcom/example/plainsong/plainsong/engine/CallStack$Activation;)V"⟩ : MethodName)) hown (mvT hZ (hw _ (List.mem_of_getElem? (i := 63) rfl))) (mvT hZ (hw _ (List.mem_of_getElem? (i := 64) rfl))) (notFace_of_selects (args := #[]) (mvT hZ (hw _ (List.mem_of_getElem? (i := 66) rfl)))) (mvT hZ (hw _ (List.mem_of_getElem? (i := 66) rfl))) (mvT hZ (hw _ (List.mem_of_getElem? (i := 65) rfl))) (by decide) (backOf (W := 0) (rm_push0 l Z a0 hw [] b318 v285 b352 k352 .null .null .null T352.heap n0 Z_364 G_353 G_354 G_355 V352 ge_319 ge_358 ne_356 hr285 O352 Av_361) hZ (hw _ (List.mem_of_getElem? (i := 67) rfl)) (hw _ (List.mem_of_getElem? (i := 12) rfl)) (by decide) (by decide)) q561a q561c (g := (mkF m 98 #[.val (.int x0), .val (.int x1), .val (.int x2), .val (.int (3 : Int32)), .val (.int (0 : Int32)), .val v285, .val v294, .val v305, .val (.ref b318), .unset] [v285, (.ref b318)])) rfl (by rw [hml]; rfl) (Steps.refl _) (argsL := [v285]) (rest := []) (lenOf own_pd6 rfl) rfl (by show 2 * 0 + _ ≤ _; exact Nat.le_of_eq rfl) (hb hby at_98) (fun _ _ => ⟨rfl, rfl, (by decide : 7 + 0 ≤ _), (by decide : 30 + 0 ≤ _)⟩)
    dsimp only [Pt.U, Pt.locs, Pt.cells, Pt.slots] at X561 l561 y561 z561 st561 hQ561
    subst l561 y561 z561
    obtain ⟨rfl, Nq561, K561, G_562, G_563, G_564, G_565⟩ := hQ561
    have X_566 := G_353.keep K561
    have X_567 := X_360.keep K561
    have Av_568 := own_avK Av_361 K561
    have Av_569 := own_avK Av_362 K561
    have Av_570 := own_avK Av_363 K561
    have Z_571 : n0 ≤ T561.heap.size := Nat.le_trans Z_364 K561.1
    have N_561 := Fr.app N_352 Nq561
    refine own_go (fun _ k => st561.trans k) ?_
    show own_G p.tables e below _ (T561.setTop (mkF m 101 #[.val (.int x0), .val (.int x1), .val (.int x2), .val (.int (3 : Int32)), .val (.int (0 : Int32)), .val v285, .val v294, .val v305, .val (.ref b318), .unset] []))
    refine own_go (fun _ k => XS.iloadN X561.here hx rfl (hb hby at_101) rfl k) ?_
    show own_G p.tables e below _ (T561.setTop (mkF m 102 #[.val (.int x0), .val (.int x1), .val (.int x2), .val (.int (3 : Int32)), .val (.int (0 : Int32)), .val v285, .val v294, .val v305, .val (.ref b318), .unset] [(.int (3 : Int32))]))
    refine own_go (fun _ k => XS.iconst X561.here hx rfl (hb hby at_102) k) ?_
    show own_G p.tables e below _ (T561.setTop (mkF m 103 #[.val (.int x0), .val (.int x1), .val (.int x2), .val (.int (3 : Int32)), .val (.int (0 : Int32)), .val v285, .val v294, .val v305, .val (.ref b318), .unset] [(.int (1 : Int32)), (.int (3 : Int32))]))
    refine own_go (fun _ k => XS.icmpNo X561.here hx rfl (hb hby at_103) rfl ((tlt (by decide : (1 : Int32) < (3 : Int32))).2.2.2) k) ?_
    show own_G p.tables e below _ (T561.setTop (mkF m 106 #[.val (.int x0), .val (.int x1), .val (.int x2), .val (.int (3 : Int32)), .val (.int (0 : Int32)), .val v285, .val v294, .val v305, .val (.ref b318), .unset] []))
    refine own_go (fun _ k => XS.aload X561.here hx rfl (hb hby at_106) rfl rfl k) ?_
    show own_G p.tables e below _ (T561.setTop (mkF m 108 #[.val (.int x0), .val (.int x1), .val (.int x2), .val (.int (3 : Int32)), .val (.int (0 : Int32)), .val v285, .val v294, .val v305, .val (.ref b318), .unset] [(.ref b318)]))
    refine own_go (fun _ k => XS.aload X561.here hx rfl (hb hby at_108) rfl hr294 k) ?_
    show own_G p.tables e below _ (T561.setTop (mkF m 110 #[.val (.int x0), .val (.int x1), .val (.int x2), .val (.int (3 : Int32)), .val (.int (0 : Int32)), .val v285, .val v294, .val v305, .val (.ref b318), .unset] [v294, (.ref b318)]))
    obtain ⟨cq572, kq572, q572a, q572b, q572c⟩ := isOf hZ rfl G_562
    obtain ⟨_, _, ⟨T572, L572, k572, n572⟩, -, X572, ⟨Lc572, hQ572, l572, y572, z572⟩, st572⟩ := X561.virtualBack hx (y := (⟨"com/example/plainsong/plainsong/engine/CallStack", "push", "(Lcom/example/plainsong/plainsong/engine/CallStack$Activation;)V"⟩ : MethodName)) (z := (⟨"com/example/plainsong/plainsong/engine/CallStack", "push", "(Lcom/example/plainsong/plainsong/engine/CallStack$Activation;)V"⟩ : MethodName)) hown (mvT hZ (hw _ (List.mem_of_getElem? (i := 63) rfl))) (mvT hZ (hw _ (List.mem_of_getElem? (i := 64) rfl))) (notFace_of_selects (args := #[]) (mvT hZ (hw _ (List.mem_of_getElem? (i := 66) rfl)))) (mvT hZ (hw _ (List.mem_of_getElem? (i := 66) rfl))) (mvT hZ (hw _ (List.mem_of_getElem? (i := 65) rfl))) (by decide) (backOf (W := 0) (rm_push1 l Z a0 hw [] b318 v294 b352 k352 v285 .null .null T561.heap n0 Z_571 G_562 G_563 G_564 G_565 ge_319 ge_358 ne_356 hr294 O352 Av_569) hZ (hw _ (List.mem_of_getElem? (i := 67) rfl)) (hw _ (List.mem_of_getElem? (i := 12) rfl)) (by decide) (by decide)) q572a q572c (g := (mkF m 110 #[.val (.int x0), .val (.int x1), .val (.int x2), .val (.int (3 : Int32)), .val (.int (0 : Int32)), .val v285, .val v294, .val v305, .val (.ref b318), .unset] [v294, (.ref b318)])) rfl (by rw [hml]; rfl) (Steps.refl _) (argsL := [v294]) (rest := []) (lenOf own_pd6 rfl) rfl (by show 2 * 0 + _ ≤ _; exact Nat.le_of_eq rfl) (hb hby at_110) (fun _ _ => ⟨rfl, rfl, (by decide : 7 + 0 ≤ _), (by decide : 30 + 0 ≤ _)⟩)
    dsimp only [Pt.U, Pt.locs, Pt.cells, Pt.slots] at X572 l572 y572 z572 st572 hQ572
    subst l572 y572 z572
    obtain ⟨rfl, Nq572, K572, G_573, G_574, G_575, G_576⟩ := hQ572
    have X_577 := G_562.keep K572
    have X_578 := X_567.keep K572
    have Av_579 := own_avK Av_568 K572
    have Av_580 := own_avK Av_569 K572
    have Av_581 := own_avK Av_570 K572
    have Z_582 : n0 ≤ T572.heap.size := Nat.le_trans Z_571 K572.1
    have N_572 := Fr.app N_561 Nq572
    refine own_go (fun _ k => st572.trans k) ?_
    show own_G p.tables e below _ (T572.setTop (mkF m 113 #[.val (.int x0), .val (.int x1), .val (.int x2), .val (.int (3 : Int32)), .val (.int (0 : Int32)), .val v285, .val v294, .val v305, .val (.ref b318), .unset] []))
    refine own_go (fun _ k => XS.iloadN X572.here hx rfl (hb hby at_113) rfl k) ?_
    show own_G p.tables e below _ (T572.setTop (mkF m 114 #[.val (.int x0), .val (.int x1), .val (.int x2), .val (.int (3 : Int32)), .val (.int (0 : Int32)), .val v285, .val v294, .val v305, .val (.ref b318), .unset] [(.int (3 : Int32))]))
    refine own_go (fun _ k => XS.iconst X572.here hx rfl (hb hby at_114) k) ?_
    show own_G p.tables e below _ (T572.setTop (mkF m 115 #[.val (.int x0), .val (.int x1), .val (.int x2), .val (.int (3 : Int32)), .val (.int (0 : Int32)), .val v285, .val v294, .val v305, .val (.ref b318), .unset] [(.int (2 : Int32)), (.int (3 : Int32))]))
    refine own_go (fun _ k => XS.icmpNo X572.here hx rfl (hb hby at_115) rfl ((tlt (by decide : (2 : Int32) < (3 : Int32))).2.2.2) k) ?_
    show own_G p.tables e below _ (T572.setTop (mkF m 118 #[.val (.int x0), .val (.int x1), .val (.int x2), .val (.int (3 : Int32)), .val (.int (0 : Int32)), .val v285, .val v294, .val v305, .val (.ref b318), .unset] []))
    refine own_go (fun _ k => XS.aload X572.here hx rfl (hb hby at_118) rfl rfl k) ?_
    show own_G p.tables e below _ (T572.setTop (mkF m 120 #[.val (.int x0), .val (.int x1), .val (.int x2), .val (.int (3 : Int32)), .val (.int (0 : Int32)), .val v285, .val v294, .val v305, .val (.ref b318), .unset] [(.ref b318)]))
    refine own_go (fun _ k => XS.aload X572.here hx rfl (hb hby at_120) rfl hr305 k) ?_
    show own_G p.tables e below _ (T572.setTop (mkF m 122 #[.val (.int x0), .val (.int x1), .val (.int x2), .val (.int (3 : Int32)), .val (.int (0 : Int32)), .val v285, .val v294, .val v305, .val (.ref b318), .unset] [v305, (.ref b318)]))
    obtain ⟨cq583, kq583, q583a, q583b, q583c⟩ := isOf hZ rfl G_573
    obtain ⟨_, _, ⟨T583, L583, k583, n583⟩, -, X583, ⟨Lc583, hQ583, l583, y583, z583⟩, st583⟩ := X572.virtualBack hx (y := (⟨"com/example/plainsong/plainsong/engine/CallStack", "push", "(Lcom/example/plainsong/plainsong/engine/CallStack$Activation;)V"⟩ : MethodName)) (z := (⟨"com/example/plainsong/plainsong/engine/CallStack", "push", "(Lcom/example/plainsong/plainsong/engine/CallStack$Activation;)V"⟩ : MethodName)) hown (mvT hZ (hw _ (List.mem_of_getElem? (i := 63) rfl))) (mvT hZ (hw _ (List.mem_of_getElem? (i := 64) rfl))) (notFace_of_selects (args := #[]) (mvT hZ (hw _ (List.mem_of_getElem? (i := 66) rfl)))) (mvT hZ (hw _ (List.mem_of_getElem? (i := 66) rfl))) (mvT hZ (hw _ (List.mem_of_getElem? (i := 65) rfl))) (by decide) (backOf (W := 0) (rm_push2 l Z a0 hw [] b318 v305 b352 k352 v285 v294 .null T572.heap n0 Z_582 G_573 G_574 G_575 G_576 ge_319 ge_358 ne_356 hr305 O352 Av_581) hZ (hw _ (List.mem_of_getElem? (i := 67) rfl)) (hw _ (List.mem_of_getElem? (i := 12) rfl)) (by decide) (by decide)) q583a q583c (g := (mkF m 122 #[.val (.int x0), .val (.int x1), .val (.int x2), .val (.int (3 : Int32)), .val (.int (0 : Int32)), .val v285, .val v294, .val v305, .val (.ref b318), .unset] [v305, (.ref b318)])) rfl (by rw [hml]; rfl) (Steps.refl _) (argsL := [v305]) (rest := []) (lenOf own_pd6 rfl) rfl (by show 2 * 0 + _ ≤ _; exact Nat.le_of_eq rfl) (hb hby at_122) (fun _ _ => ⟨rfl, rfl, (by decide : 7 + 0 ≤ _), (by decide : 30 + 0 ≤ _)⟩)
    dsimp only [Pt.U, Pt.locs, Pt.cells, Pt.slots] at X583 l583 y583 z583 st583 hQ583
    subst l583 y583 z583
    obtain ⟨rfl, Nq583, K583, G_584, G_585, G_586, G_587⟩ := hQ583
    have X_588 := G_573.keep K583
    have X_589 := X_578.keep K583
    have Av_590 := own_avK Av_579 K583
    have Av_591 := own_avK Av_580 K583
    have Av_592 := own_avK Av_581 K583
    have Z_593 : n0 ≤ T583.heap.size := Nat.le_trans Z_582 K583.1
    have N_583 := Fr.app N_572 Nq583
    refine own_go (fun _ k => st583.trans k) ?_
    show own_G p.tables e below _ (T583.setTop (mkF m 125 #[.val (.int x0), .val (.int x1), .val (.int x2), .val (.int (3 : Int32)), .val (.int (0 : Int32)), .val v285, .val v294, .val v305, .val (.ref b318), .unset] []))
    refine own_go (fun _ k => XS.aload X583.here hx rfl (hb hby at_125) rfl rfl k) ?_
    show own_G p.tables e below _ (T583.setTop (mkF m 127 #[.val (.int x0), .val (.int x1), .val (.int x2), .val (.int (3 : Int32)), .val (.int (0 : Int32)), .val v285, .val v294, .val v305, .val (.ref b318), .unset] [(.ref b318)]))
    refine own_go (fun _ k => XS.iload X583.here hx rfl (hb hby at_127) rfl k) ?_
    show own_G p.tables e below _ (T583.setTop (mkF m 129 #[.val (.int x0), .val (.int x1), .val (.int x2), .val (.int (3 : Int32)), .val (.int (0 : Int32)), .val v285, .val v294, .val v305, .val (.ref b318), .unset] [(.int (0 : Int32)), (.ref b318)]))
    obtain ⟨cq594, kq594, q594a, q594b, q594c⟩ := isOf hZ rfl G_584
    obtain ⟨_, _, ⟨T594, L594, k594, n594⟩, -, X594, ⟨Lc594, hQ594, l594, y594, z594⟩, st594⟩ := X583.virtualBack hx (y := (⟨"com/example/plainsong/plainsong/engine/CallStack", "truncate", "(I)V"⟩ : MethodName)) (z := (⟨"com/example/plainsong/plainsong/engine/CallStack", "truncate", "(I)V"⟩ : MethodName)) hown (mvT hZ (hw _ (List.mem_of_getElem? (i := 43) rfl))) (mvT hZ (hw _ (List.mem_of_getElem? (i := 44) rfl))) (notFace_of_selects (args := #[]) (mvT hZ (hw _ (List.mem_of_getElem? (i := 46) rfl)))) (mvT hZ (hw _ (List.mem_of_getElem? (i := 46) rfl))) (mvT hZ (hw _ (List.mem_of_getElem? (i := 45) rfl))) (by decide) (backOf (W := 0) (rm_tr30 l Z a0 hw [] b318 b352 k352 v285 v294 v305 T583.heap n0 Z_593 G_584 G_585 G_586 G_587 ge_319 ge_358 ne_356) hZ (hw _ (List.mem_of_getElem? (i := 47) rfl)) (hw _ (List.mem_of_getElem? (i := 12) rfl)) (by decide) (by decide)) q594a q594c (g := (mkF m 129 #[.val (.int x0), .val (.int x1), .val (.int x2), .val (.int (3 : Int32)), .val (.int (0 : Int32)), .val v285, .val v294, .val v305, .val (.ref b318), .unset] [(.int (0 : Int32)), (.ref b318)])) rfl (by rw [hml]; rfl) (Steps.refl _) (argsL := [(.int (0 : Int32))]) (rest := []) (lenOf own_pd2 rfl) rfl (by show 2 * 0 + _ ≤ _; exact Nat.le_of_eq rfl) (hb hby at_129) (fun _ _ => ⟨rfl, rfl, (by decide : 7 + 0 ≤ _), (by decide : 30 + 0 ≤ _)⟩)
    dsimp only [Pt.U, Pt.locs, Pt.cells, Pt.slots] at X594 l594 y594 z594 st594 hQ594
    subst l594 y594 z594
    obtain ⟨rfl, Nq594, K594, G_595, G_596, G_597, G_598⟩ := hQ594
    have X_599 := G_584.keep K594
    have X_600 := X_589.keep K594
    have Av_601 := own_avK Av_590 K594
    have Av_602 := own_avK Av_591 K594
    have Av_603 := own_avK Av_592 K594
    have Z_604 : n0 ≤ T594.heap.size := Nat.le_trans Z_593 K594.1
    have N_594 := Fr.app N_583 Nq594
    refine own_go (fun _ k => st594.trans k) ?_
    show own_G p.tables e below _ (T594.setTop (mkF m 132 #[.val (.int x0), .val (.int x1), .val (.int x2), .val (.int (3 : Int32)), .val (.int (0 : Int32)), .val v285, .val v294, .val v305, .val (.ref b318), .unset] []))
    refine own_go (fun _ k => XS.aload X594.here hx rfl (hb hby at_132) rfl rfl k) ?_
    show own_G p.tables e below _ (T594.setTop (mkF m 134 #[.val (.int x0), .val (.int x1), .val (.int x2), .val (.int (3 : Int32)), .val (.int (0 : Int32)), .val v285, .val v294, .val v305, .val (.ref b318), .unset] [(.ref b318)]))
    obtain ⟨T605, X605, e605, st605⟩ := own_callV X594 hx hZ (y := (⟨"com/example/plainsong/plainsong/engine/CallStack", "depth", "()I"⟩ : MethodName)) hown (hw _ (List.mem_of_getElem? (i := 50) rfl)) (hw _ (List.mem_of_getElem? (i := 51) rfl)) (hw _ (List.mem_of_getElem? (i := 53) rfl)) (hw _ (List.mem_of_getElem? (i := 52) rfl)) (hw _ (List.mem_of_getElem? (i := 12) rfl)) (hw _ (List.mem_of_getElem? (i := 54) rfl)) (by decide) (W := 0) (rm7 l Z a0 hw [] b318 (0 : Int32) T594.heap G_597) (by decide) (by decide) rfl rfl rfl G_595 (g := (mkF m 134 #[.val (.int x0), .val (.int x1), .val (.int x2), .val (.int (3 : Int32)), .val (.int (0 : Int32)), .val v285, .val v294, .val v305, .val (.ref b318), .unset] [(.ref b318)])) rfl (by rw [hml]; rfl) (argsL := []) (rest := []) (lenOf own_pd3 rfl) rfl rfl (by show 2 * 0 + _ ≤ _; exact Nat.le_of_eq rfl) (hb hby at_134) (by decide) (by decide)
    refine own_go st605 ?_
    show own_G p.tables e below _ (T605.setTop (mkF m 137 #[.val (.int x0), .val (.int x1), .val (.int x2), .val (.int (3 : Int32)), .val (.int (0 : Int32)), .val v285, .val v294, .val v305, .val (.ref b318), .unset] [(.int (0 : Int32))]))
    refine own_go (fun _ k => XS.iload X605.here hx rfl (hb hby at_137) rfl k) ?_
    show own_G p.tables e below _ (T605.setTop (mkF m 139 #[.val (.int x0), .val (.int x1), .val (.int x2), .val (.int (3 : Int32)), .val (.int (0 : Int32)), .val v285, .val v294, .val v305, .val (.ref b318), .unset] [(.int (0 : Int32)), (.int (0 : Int32))]))
    refine own_go (fun _ k => XS.icmpNo X605.here hx rfl (hb hby at_139) rfl ((teq (by decide : (0 : Int32) = (0 : Int32))).2) k) ?_
    show own_G p.tables e below _ (T605.setTop (mkF m 142 #[.val (.int x0), .val (.int x1), .val (.int x2), .val (.int (3 : Int32)), .val (.int (0 : Int32)), .val v285, .val v294, .val v305, .val (.ref b318), .unset] []))
    refine own_go (fun _ k => XS.iconst X605.here hx rfl (hb hby at_142) k) ?_
    show own_G p.tables e below _ (T605.setTop (mkF m 143 #[.val (.int x0), .val (.int x1), .val (.int x2), .val (.int (3 : Int32)), .val (.int (0 : Int32)), .val v285, .val v294, .val v305, .val (.ref b318), .unset] [(.int (1 : Int32))]))
    refine own_go (fun _ k => XS.goto X605.here hx rfl (pc0 := 143) (pc' := 147) rfl (hb hby at_143) (by decide) (by decide) k) ?_
    show own_G p.tables e below _ (T605.setTop (mkF m 147 #[.val (.int x0), .val (.int x1), .val (.int x2), .val (.int (3 : Int32)), .val (.int (0 : Int32)), .val v285, .val v294, .val v305, .val (.ref b318), .unset] [(.int (1 : Int32))]))
    refine own_go (fun _ k => XS.istore X605.here hx rfl (hb hby at_147) rfl (l' := #[.val (.int x0), .val (.int x1), .val (.int x2), .val (.int (3 : Int32)), .val (.int (0 : Int32)), .val v285, .val v294, .val v305, .val (.ref b318), .val (.int (1 : Int32))]) rfl k) ?_
    show own_G p.tables e below _ (T605.setTop (mkF m 149 #[.val (.int x0), .val (.int x1), .val (.int x2), .val (.int (3 : Int32)), .val (.int (0 : Int32)), .val v285, .val v294, .val v305, .val (.ref b318), .val (.int (1 : Int32))] []))
    refine own_go (fun _ k => XS.iload X605.here hx rfl (hb hby at_149) rfl k) ?_
    show own_G p.tables e below _ (T605.setTop (mkF m 151 #[.val (.int x0), .val (.int x1), .val (.int x2), .val (.int (3 : Int32)), .val (.int (0 : Int32)), .val v285, .val v294, .val v305, .val (.ref b318), .val (.int (1 : Int32))] [(.int (1 : Int32))]))
    refine own_go (fun _ k => XS.ifNo X605.here hx rfl (hb hby at_151) rfl (((if0 _ _).trans (feq (by decide : ¬ ((1 : Int32) = (0 : Int32)))).1)) k) ?_
    show own_G p.tables e below _ (T605.setTop (mkF m 154 #[.val (.int x0), .val (.int x1), .val (.int x2), .val (.int (3 : Int32)), .val (.int (0 : Int32)), .val v285, .val v294, .val v305, .val (.ref b318), .val (.int (1 : Int32))] []))
    refine own_go (fun _ k => XS.aload X605.here hx rfl (hb hby at_154) rfl rfl k) ?_
    show own_G p.tables e below _ (T605.setTop (mkF m 156 #[.val (.int x0), .val (.int x1), .val (.int x2), .val (.int (3 : Int32)), .val (.int (0 : Int32)), .val v285, .val v294, .val v305, .val (.ref b318), .val (.int (1 : Int32))] [(.ref b318)]))
    refine own_go (fun _ k => XS.iconst X605.here hx rfl (hb hby at_156) k) ?_
    show own_G p.tables e below _ (T605.setTop (mkF m 157 #[.val (.int x0), .val (.int x1), .val (.int x2), .val (.int (3 : Int32)), .val (.int (0 : Int32)), .val v285, .val v294, .val v305, .val (.ref b318), .val (.int (1 : Int32))] [(.int (0 : Int32)), (.ref b318)]))
    obtain ⟨T606, X606, e606, st606⟩ := own_callV X605 hx hZ (y := (⟨"com/example/plainsong/plainsong/engine/CallStack", "entry", "(I)Lcom/example/plainsong/plainsong/engine/CallStack$Activation;"⟩ : MethodName)) hown (hw _ (List.mem_of_getElem? (i := 55) rfl)) (hw _ (List.mem_of_getElem? (i := 56) rfl)) (hw _ (List.mem_of_getElem? (i := 58) rfl)) (hw _ (List.mem_of_getElem? (i := 57) rfl)) (hw _ (List.mem_of_getElem? (i := 12) rfl)) (hw _ (List.mem_of_getElem? (i := 59) rfl)) (by decide) (W := 0) (rm_ent0 l Z a0 hw [] b318 b352 k352 .null .null .null T594.heap G_596 G_598 rfl) (by decide) (by decide) rfl rfl e605 G_595 (g := (mkF m 157 #[.val (.int x0), .val (.int x1), .val (.int x2), .val (.int (3 : Int32)), .val (.int (0 : Int32)), .val v285, .val v294, .val v305, .val (.ref b318), .val (.int (1 : Int32))] [(.int (0 : Int32)), (.ref b318)])) rfl (by rw [hml]; rfl) (argsL := [(.int (0 : Int32))]) (rest := []) (lenOf own_pd4 rfl) rfl rfl (by show 2 * 0 + _ ≤ _; exact Nat.le_of_eq rfl) (hb hby at_157) (by decide) (by decide)
    refine own_go st606 ?_
    show own_G p.tables e below _ (T606.setTop (mkF m 160 #[.val (.int x0), .val (.int x1), .val (.int x2), .val (.int (3 : Int32)), .val (.int (0 : Int32)), .val v285, .val v294, .val v305, .val (.ref b318), .val (.int (1 : Int32))] [.null]))
    refine own_go (fun _ k => XS.iconst X606.here hx rfl (hb hby at_160) k) ?_
    show own_G p.tables e below _ (T606.setTop (mkF m 161 #[.val (.int x0), .val (.int x1), .val (.int x2), .val (.int (3 : Int32)), .val (.int (0 : Int32)), .val v285, .val v294, .val v305, .val (.ref b318), .val (.int (1 : Int32))] [(.int (0 : Int32)), .null]))
    refine own_go (fun _ k => XS.iload X606.here hx rfl (hb hby at_161) rfl k) ?_
    show own_G p.tables e below _ (T606.setTop (mkF m 163 #[.val (.int x0), .val (.int x1), .val (.int x2), .val (.int (3 : Int32)), .val (.int (0 : Int32)), .val v285, .val v294, .val v305, .val (.ref b318), .val (.int (1 : Int32))] [(.int (0 : Int32)), (.int (0 : Int32)), .null]))
    refine own_go (fun _ k => XS.aload X606.here hx rfl (hb hby at_163) rfl hr285 k) ?_
    show own_G p.tables e below _ (T606.setTop (mkF m 165 #[.val (.int x0), .val (.int x1), .val (.int x2), .val (.int (3 : Int32)), .val (.int (0 : Int32)), .val v285, .val v294, .val v305, .val (.ref b318), .val (.int (1 : Int32))] [v285, (.int (0 : Int32)), (.int (0 : Int32)), .null]))
    obtain ⟨T607, X607, e607, st607⟩ := own_callP X606 hx hZ (y := (⟨"com/example/plainsong/plainsong/engine/CallStackTruncatePinLaw", "expected", "(IILcom/example/plainsong/plainsong/engine/CallStack$Activation;)Lcom/example/plainsong/plainsong/engine/CallStack$Activation;"⟩ : MethodName)) hown (hw _ (List.mem_of_getElem? (i := 60) rfl)) (hw _ (List.mem_of_getElem? (i := 61) rfl)) (hw _ (List.mem_of_getElem? (i := 3) rfl)) (hw _ (List.mem_of_getElem? (i := 62) rfl)) (by decide) (W := 1) (rm_expge l Z a0 hw [] (0 : Int32) (0 : Int32) v285  T594.heap hr285 (by decide)) (by decide) (by decide) rfl rfl e606 (g := (mkF m 165 #[.val (.int x0), .val (.int x1), .val (.int x2), .val (.int (3 : Int32)), .val (.int (0 : Int32)), .val v285, .val v294, .val v305, .val (.ref b318), .val (.int (1 : Int32))] [v285, (.int (0 : Int32)), (.int (0 : Int32)), .null])) rfl (by rw [hml]; rfl) (argsL := [(.int (0 : Int32)), (.int (0 : Int32)), v285]) (rest := [.null]) (lenOf own_pd5 rfl) rfl rfl (by show 2 * 0 + _ ≤ _; exact Nat.le_of_eq rfl) (hb hby at_165) (by decide) (by decide)
    refine own_go st607 ?_
    show own_G p.tables e below _ (T607.setTop (mkF m 168 #[.val (.int x0), .val (.int x1), .val (.int x2), .val (.int (3 : Int32)), .val (.int (0 : Int32)), .val v285, .val v294, .val v305, .val (.ref b318), .val (.int (1 : Int32))] [.null, .null]))
    refine own_go (fun _ k => Jvm.RoadKit.acmp (g := (mkF m 168 #[.val (.int x0), .val (.int x1), .val (.int x2), .val (.int (3 : Int32)), .val (.int (0 : Int32)), .val v285, .val v294, .val v305, .val (.ref b318), .val (.int (1 : Int32))] [.null, .null])) X607 hx rfl rfl rfl (pc0 := 168) (pc' := 171) (same := true) rfl (hb hby at_168) rfl (decide_eq_true rfl) (by decide) (by decide) k) ?_
    show own_G p.tables e below _ (T607.setTop (mkF m 171 #[.val (.int x0), .val (.int x1), .val (.int x2), .val (.int (3 : Int32)), .val (.int (0 : Int32)), .val v285, .val v294, .val v305, .val (.ref b318), .val (.int (1 : Int32))] []))
    refine own_go (fun _ k => XS.iconst X607.here hx rfl (hb hby at_171) k) ?_
    show own_G p.tables e below _ (T607.setTop (mkF m 172 #[.val (.int x0), .val (.int x1), .val (.int x2), .val (.int (3 : Int32)), .val (.int (0 : Int32)), .val v285, .val v294, .val v305, .val (.ref b318), .val (.int (1 : Int32))] [(.int (1 : Int32))]))
    refine own_go (fun _ k => XS.goto X607.here hx rfl (pc0 := 172) (pc' := 176) rfl (hb hby at_172) (by decide) (by decide) k) ?_
    show own_G p.tables e below _ (T607.setTop (mkF m 176 #[.val (.int x0), .val (.int x1), .val (.int x2), .val (.int (3 : Int32)), .val (.int (0 : Int32)), .val v285, .val v294, .val v305, .val (.ref b318), .val (.int (1 : Int32))] [(.int (1 : Int32))]))
    refine own_go (fun _ k => XS.istore X607.here hx rfl (hb hby at_176) rfl (l' := #[.val (.int x0), .val (.int x1), .val (.int x2), .val (.int (3 : Int32)), .val (.int (0 : Int32)), .val v285, .val v294, .val v305, .val (.ref b318), .val (.int (1 : Int32))]) rfl k) ?_
    show own_G p.tables e below _ (T607.setTop (mkF m 178 #[.val (.int x0), .val (.int x1), .val (.int x2), .val (.int (3 : Int32)), .val (.int (0 : Int32)), .val v285, .val v294, .val v305, .val (.ref b318), .val (.int (1 : Int32))] []))
    refine own_go (fun _ k => XS.iload X607.here hx rfl (hb hby at_178) rfl k) ?_
    show own_G p.tables e below _ (T607.setTop (mkF m 180 #[.val (.int x0), .val (.int x1), .val (.int x2), .val (.int (3 : Int32)), .val (.int (0 : Int32)), .val v285, .val v294, .val v305, .val (.ref b318), .val (.int (1 : Int32))] [(.int (1 : Int32))]))
    refine own_go (fun _ k => XS.ifNo X607.here hx rfl (hb hby at_180) rfl (((if0 _ _).trans (feq (by decide : ¬ ((1 : Int32) = (0 : Int32)))).1)) k) ?_
    show own_G p.tables e below _ (T607.setTop (mkF m 183 #[.val (.int x0), .val (.int x1), .val (.int x2), .val (.int (3 : Int32)), .val (.int (0 : Int32)), .val v285, .val v294, .val v305, .val (.ref b318), .val (.int (1 : Int32))] []))
    refine own_go (fun _ k => XS.aload X607.here hx rfl (hb hby at_183) rfl rfl k) ?_
    show own_G p.tables e below _ (T607.setTop (mkF m 185 #[.val (.int x0), .val (.int x1), .val (.int x2), .val (.int (3 : Int32)), .val (.int (0 : Int32)), .val v285, .val v294, .val v305, .val (.ref b318), .val (.int (1 : Int32))] [(.ref b318)]))
    refine own_go (fun _ k => XS.iconst X607.here hx rfl (hb hby at_185) k) ?_
    show own_G p.tables e below _ (T607.setTop (mkF m 186 #[.val (.int x0), .val (.int x1), .val (.int x2), .val (.int (3 : Int32)), .val (.int (0 : Int32)), .val v285, .val v294, .val v305, .val (.ref b318), .val (.int (1 : Int32))] [(.int (1 : Int32)), (.ref b318)]))
    obtain ⟨T608, X608, e608, st608⟩ := own_callV X607 hx hZ (y := (⟨"com/example/plainsong/plainsong/engine/CallStack", "entry", "(I)Lcom/example/plainsong/plainsong/engine/CallStack$Activation;"⟩ : MethodName)) hown (hw _ (List.mem_of_getElem? (i := 55) rfl)) (hw _ (List.mem_of_getElem? (i := 56) rfl)) (hw _ (List.mem_of_getElem? (i := 58) rfl)) (hw _ (List.mem_of_getElem? (i := 57) rfl)) (hw _ (List.mem_of_getElem? (i := 12) rfl)) (hw _ (List.mem_of_getElem? (i := 59) rfl)) (by decide) (W := 0) (rm_ent1 l Z a0 hw [] b318 b352 k352 .null .null .null T594.heap G_596 G_598 rfl) (by decide) (by decide) rfl rfl e607 G_595 (g := (mkF m 186 #[.val (.int x0), .val (.int x1), .val (.int x2), .val (.int (3 : Int32)), .val (.int (0 : Int32)), .val v285, .val v294, .val v305, .val (.ref b318), .val (.int (1 : Int32))] [(.int (1 : Int32)), (.ref b318)])) rfl (by rw [hml]; rfl) (argsL := [(.int (1 : Int32))]) (rest := []) (lenOf own_pd4 rfl) rfl rfl (by show 2 * 0 + _ ≤ _; exact Nat.le_of_eq rfl) (hb hby at_186) (by decide) (by decide)
    refine own_go st608 ?_
    show own_G p.tables e below _ (T608.setTop (mkF m 189 #[.val (.int x0), .val (.int x1), .val (.int x2), .val (.int (3 : Int32)), .val (.int (0 : Int32)), .val v285, .val v294, .val v305, .val (.ref b318), .val (.int (1 : Int32))] [.null]))
    refine own_go (fun _ k => XS.iconst X608.here hx rfl (hb hby at_189) k) ?_
    show own_G p.tables e below _ (T608.setTop (mkF m 190 #[.val (.int x0), .val (.int x1), .val (.int x2), .val (.int (3 : Int32)), .val (.int (0 : Int32)), .val v285, .val v294, .val v305, .val (.ref b318), .val (.int (1 : Int32))] [(.int (1 : Int32)), .null]))
    refine own_go (fun _ k => XS.iload X608.here hx rfl (hb hby at_190) rfl k) ?_
    show own_G p.tables e below _ (T608.setTop (mkF m 192 #[.val (.int x0), .val (.int x1), .val (.int x2), .val (.int (3 : Int32)), .val (.int (0 : Int32)), .val v285, .val v294, .val v305, .val (.ref b318), .val (.int (1 : Int32))] [(.int (0 : Int32)), (.int (1 : Int32)), .null]))
    refine own_go (fun _ k => XS.aload X608.here hx rfl (hb hby at_192) rfl hr294 k) ?_
    show own_G p.tables e below _ (T608.setTop (mkF m 194 #[.val (.int x0), .val (.int x1), .val (.int x2), .val (.int (3 : Int32)), .val (.int (0 : Int32)), .val v285, .val v294, .val v305, .val (.ref b318), .val (.int (1 : Int32))] [v294, (.int (0 : Int32)), (.int (1 : Int32)), .null]))
    obtain ⟨T609, X609, e609, st609⟩ := own_callP X608 hx hZ (y := (⟨"com/example/plainsong/plainsong/engine/CallStackTruncatePinLaw", "expected", "(IILcom/example/plainsong/plainsong/engine/CallStack$Activation;)Lcom/example/plainsong/plainsong/engine/CallStack$Activation;"⟩ : MethodName)) hown (hw _ (List.mem_of_getElem? (i := 60) rfl)) (hw _ (List.mem_of_getElem? (i := 61) rfl)) (hw _ (List.mem_of_getElem? (i := 3) rfl)) (hw _ (List.mem_of_getElem? (i := 62) rfl)) (by decide) (W := 1) (rm_expge l Z a0 hw [] (1 : Int32) (0 : Int32) v294  T594.heap hr294 (by decide)) (by decide) (by decide) rfl rfl e608 (g := (mkF m 194 #[.val (.int x0), .val (.int x1), .val (.int x2), .val (.int (3 : Int32)), .val (.int (0 : Int32)), .val v285, .val v294, .val v305, .val (.ref b318), .val (.int (1 : Int32))] [v294, (.int (0 : Int32)), (.int (1 : Int32)), .null])) rfl (by rw [hml]; rfl) (argsL := [(.int (1 : Int32)), (.int (0 : Int32)), v294]) (rest := [.null]) (lenOf own_pd5 rfl) rfl rfl (by show 2 * 0 + _ ≤ _; exact Nat.le_of_eq rfl) (hb hby at_194) (by decide) (by decide)
    refine own_go st609 ?_
    show own_G p.tables e below _ (T609.setTop (mkF m 197 #[.val (.int x0), .val (.int x1), .val (.int x2), .val (.int (3 : Int32)), .val (.int (0 : Int32)), .val v285, .val v294, .val v305, .val (.ref b318), .val (.int (1 : Int32))] [.null, .null]))
    refine own_go (fun _ k => Jvm.RoadKit.acmp (g := (mkF m 197 #[.val (.int x0), .val (.int x1), .val (.int x2), .val (.int (3 : Int32)), .val (.int (0 : Int32)), .val v285, .val v294, .val v305, .val (.ref b318), .val (.int (1 : Int32))] [.null, .null])) X609 hx rfl rfl rfl (pc0 := 197) (pc' := 200) (same := true) rfl (hb hby at_197) rfl (decide_eq_true rfl) (by decide) (by decide) k) ?_
    show own_G p.tables e below _ (T609.setTop (mkF m 200 #[.val (.int x0), .val (.int x1), .val (.int x2), .val (.int (3 : Int32)), .val (.int (0 : Int32)), .val v285, .val v294, .val v305, .val (.ref b318), .val (.int (1 : Int32))] []))
    refine own_go (fun _ k => XS.iconst X609.here hx rfl (hb hby at_200) k) ?_
    show own_G p.tables e below _ (T609.setTop (mkF m 201 #[.val (.int x0), .val (.int x1), .val (.int x2), .val (.int (3 : Int32)), .val (.int (0 : Int32)), .val v285, .val v294, .val v305, .val (.ref b318), .val (.int (1 : Int32))] [(.int (1 : Int32))]))
    refine own_go (fun _ k => XS.goto X609.here hx rfl (pc0 := 201) (pc' := 205) rfl (hb hby at_201) (by decide) (by decide) k) ?_
    show own_G p.tables e below _ (T609.setTop (mkF m 205 #[.val (.int x0), .val (.int x1), .val (.int x2), .val (.int (3 : Int32)), .val (.int (0 : Int32)), .val v285, .val v294, .val v305, .val (.ref b318), .val (.int (1 : Int32))] [(.int (1 : Int32))]))
    refine own_go (fun _ k => XS.istore X609.here hx rfl (hb hby at_205) rfl (l' := #[.val (.int x0), .val (.int x1), .val (.int x2), .val (.int (3 : Int32)), .val (.int (0 : Int32)), .val v285, .val v294, .val v305, .val (.ref b318), .val (.int (1 : Int32))]) rfl k) ?_
    show own_G p.tables e below _ (T609.setTop (mkF m 207 #[.val (.int x0), .val (.int x1), .val (.int x2), .val (.int (3 : Int32)), .val (.int (0 : Int32)), .val v285, .val v294, .val v305, .val (.ref b318), .val (.int (1 : Int32))] []))
    refine own_go (fun _ k => XS.iload X609.here hx rfl (hb hby at_207) rfl k) ?_
    show own_G p.tables e below _ (T609.setTop (mkF m 209 #[.val (.int x0), .val (.int x1), .val (.int x2), .val (.int (3 : Int32)), .val (.int (0 : Int32)), .val v285, .val v294, .val v305, .val (.ref b318), .val (.int (1 : Int32))] [(.int (1 : Int32))]))
    refine own_go (fun _ k => XS.ifNo X609.here hx rfl (hb hby at_209) rfl (((if0 _ _).trans (feq (by decide : ¬ ((1 : Int32) = (0 : Int32)))).1)) k) ?_
    show own_G p.tables e below _ (T609.setTop (mkF m 212 #[.val (.int x0), .val (.int x1), .val (.int x2), .val (.int (3 : Int32)), .val (.int (0 : Int32)), .val v285, .val v294, .val v305, .val (.ref b318), .val (.int (1 : Int32))] []))
    refine own_go (fun _ k => XS.aload X609.here hx rfl (hb hby at_212) rfl rfl k) ?_
    show own_G p.tables e below _ (T609.setTop (mkF m 214 #[.val (.int x0), .val (.int x1), .val (.int x2), .val (.int (3 : Int32)), .val (.int (0 : Int32)), .val v285, .val v294, .val v305, .val (.ref b318), .val (.int (1 : Int32))] [(.ref b318)]))
    refine own_go (fun _ k => XS.iconst X609.here hx rfl (hb hby at_214) k) ?_
    show own_G p.tables e below _ (T609.setTop (mkF m 215 #[.val (.int x0), .val (.int x1), .val (.int x2), .val (.int (3 : Int32)), .val (.int (0 : Int32)), .val v285, .val v294, .val v305, .val (.ref b318), .val (.int (1 : Int32))] [(.int (2 : Int32)), (.ref b318)]))
    obtain ⟨T610, X610, e610, st610⟩ := own_callV X609 hx hZ (y := (⟨"com/example/plainsong/plainsong/engine/CallStack", "entry", "(I)Lcom/example/plainsong/plainsong/engine/CallStack$Activation;"⟩ : MethodName)) hown (hw _ (List.mem_of_getElem? (i := 55) rfl)) (hw _ (List.mem_of_getElem? (i := 56) rfl)) (hw _ (List.mem_of_getElem? (i := 58) rfl)) (hw _ (List.mem_of_getElem? (i := 57) rfl)) (hw _ (List.mem_of_getElem? (i := 12) rfl)) (hw _ (List.mem_of_getElem? (i := 59) rfl)) (by decide) (W := 0) (rm_ent2 l Z a0 hw [] b318 b352 k352 .null .null .null T594.heap G_596 G_598 rfl) (by decide) (by decide) rfl rfl e609 G_595 (g := (mkF m 215 #[.val (.int x0), .val (.int x1), .val (.int x2), .val (.int (3 : Int32)), .val (.int (0 : Int32)), .val v285, .val v294, .val v305, .val (.ref b318), .val (.int (1 : Int32))] [(.int (2 : Int32)), (.ref b318)])) rfl (by rw [hml]; rfl) (argsL := [(.int (2 : Int32))]) (rest := []) (lenOf own_pd4 rfl) rfl rfl (by show 2 * 0 + _ ≤ _; exact Nat.le_of_eq rfl) (hb hby at_215) (by decide) (by decide)
    refine own_go st610 ?_
    show own_G p.tables e below _ (T610.setTop (mkF m 218 #[.val (.int x0), .val (.int x1), .val (.int x2), .val (.int (3 : Int32)), .val (.int (0 : Int32)), .val v285, .val v294, .val v305, .val (.ref b318), .val (.int (1 : Int32))] [.null]))
    refine own_go (fun _ k => XS.iconst X610.here hx rfl (hb hby at_218) k) ?_
    show own_G p.tables e below _ (T610.setTop (mkF m 219 #[.val (.int x0), .val (.int x1), .val (.int x2), .val (.int (3 : Int32)), .val (.int (0 : Int32)), .val v285, .val v294, .val v305, .val (.ref b318), .val (.int (1 : Int32))] [(.int (2 : Int32)), .null]))
    refine own_go (fun _ k => XS.iload X610.here hx rfl (hb hby at_219) rfl k) ?_
    show own_G p.tables e below _ (T610.setTop (mkF m 221 #[.val (.int x0), .val (.int x1), .val (.int x2), .val (.int (3 : Int32)), .val (.int (0 : Int32)), .val v285, .val v294, .val v305, .val (.ref b318), .val (.int (1 : Int32))] [(.int (0 : Int32)), (.int (2 : Int32)), .null]))
    refine own_go (fun _ k => XS.aload X610.here hx rfl (hb hby at_221) rfl hr305 k) ?_
    show own_G p.tables e below _ (T610.setTop (mkF m 223 #[.val (.int x0), .val (.int x1), .val (.int x2), .val (.int (3 : Int32)), .val (.int (0 : Int32)), .val v285, .val v294, .val v305, .val (.ref b318), .val (.int (1 : Int32))] [v305, (.int (0 : Int32)), (.int (2 : Int32)), .null]))
    obtain ⟨T611, X611, e611, st611⟩ := own_callP X610 hx hZ (y := (⟨"com/example/plainsong/plainsong/engine/CallStackTruncatePinLaw", "expected", "(IILcom/example/plainsong/plainsong/engine/CallStack$Activation;)Lcom/example/plainsong/plainsong/engine/CallStack$Activation;"⟩ : MethodName)) hown (hw _ (List.mem_of_getElem? (i := 60) rfl)) (hw _ (List.mem_of_getElem? (i := 61) rfl)) (hw _ (List.mem_of_getElem? (i := 3) rfl)) (hw _ (List.mem_of_getElem? (i := 62) rfl)) (by decide) (W := 1) (rm_expge l Z a0 hw [] (2 : Int32) (0 : Int32) v305  T594.heap hr305 (by decide)) (by decide) (by decide) rfl rfl e610 (g := (mkF m 223 #[.val (.int x0), .val (.int x1), .val (.int x2), .val (.int (3 : Int32)), .val (.int (0 : Int32)), .val v285, .val v294, .val v305, .val (.ref b318), .val (.int (1 : Int32))] [v305, (.int (0 : Int32)), (.int (2 : Int32)), .null])) rfl (by rw [hml]; rfl) (argsL := [(.int (2 : Int32)), (.int (0 : Int32)), v305]) (rest := [.null]) (lenOf own_pd5 rfl) rfl rfl (by show 2 * 0 + _ ≤ _; exact Nat.le_of_eq rfl) (hb hby at_223) (by decide) (by decide)
    refine own_go st611 ?_
    show own_G p.tables e below _ (T611.setTop (mkF m 226 #[.val (.int x0), .val (.int x1), .val (.int x2), .val (.int (3 : Int32)), .val (.int (0 : Int32)), .val v285, .val v294, .val v305, .val (.ref b318), .val (.int (1 : Int32))] [.null, .null]))
    refine own_go (fun _ k => Jvm.RoadKit.acmp (g := (mkF m 226 #[.val (.int x0), .val (.int x1), .val (.int x2), .val (.int (3 : Int32)), .val (.int (0 : Int32)), .val v285, .val v294, .val v305, .val (.ref b318), .val (.int (1 : Int32))] [.null, .null])) X611 hx rfl rfl rfl (pc0 := 226) (pc' := 229) (same := true) rfl (hb hby at_226) rfl (decide_eq_true rfl) (by decide) (by decide) k) ?_
    show own_G p.tables e below _ (T611.setTop (mkF m 229 #[.val (.int x0), .val (.int x1), .val (.int x2), .val (.int (3 : Int32)), .val (.int (0 : Int32)), .val v285, .val v294, .val v305, .val (.ref b318), .val (.int (1 : Int32))] []))
    refine own_go (fun _ k => XS.iconst X611.here hx rfl (hb hby at_229) k) ?_
    show own_G p.tables e below _ (T611.setTop (mkF m 230 #[.val (.int x0), .val (.int x1), .val (.int x2), .val (.int (3 : Int32)), .val (.int (0 : Int32)), .val v285, .val v294, .val v305, .val (.ref b318), .val (.int (1 : Int32))] [(.int (1 : Int32))]))
    refine own_go (fun _ k => XS.goto X611.here hx rfl (pc0 := 230) (pc' := 234) rfl (hb hby at_230) (by decide) (by decide) k) ?_
    show own_G p.tables e below _ (T611.setTop (mkF m 234 #[.val (.int x0), .val (.int x1), .val (.int x2), .val (.int (3 : Int32)), .val (.int (0 : Int32)), .val v285, .val v294, .val v305, .val (.ref b318), .val (.int (1 : Int32))] [(.int (1 : Int32))]))
    refine own_go (fun _ k => XS.istore X611.here hx rfl (hb hby at_234) rfl (l' := #[.val (.int x0), .val (.int x1), .val (.int x2), .val (.int (3 : Int32)), .val (.int (0 : Int32)), .val v285, .val v294, .val v305, .val (.ref b318), .val (.int (1 : Int32))]) rfl k) ?_
    show own_G p.tables e below _ (T611.setTop (mkF m 236 #[.val (.int x0), .val (.int x1), .val (.int x2), .val (.int (3 : Int32)), .val (.int (0 : Int32)), .val v285, .val v294, .val v305, .val (.ref b318), .val (.int (1 : Int32))] []))
    refine own_go (fun _ k => XS.iload X611.here hx rfl (hb hby at_236) rfl k) ?_
    show own_G p.tables e below _ (T611.setTop (mkF m 238 #[.val (.int x0), .val (.int x1), .val (.int x2), .val (.int (3 : Int32)), .val (.int (0 : Int32)), .val v285, .val v294, .val v305, .val (.ref b318), .val (.int (1 : Int32))] [(.int (1 : Int32))]))
    exact own_end X611 Bd.notSynchronized (v := some (.int (nar .boolean (1 : Int32)))) (fun h => by rw [Bd.returns] at h; cases h) (Q := QL (some (.int (1 : Int32))) n0) ⟨rfl, N_594⟩ (fun fs hr => retN X611 hx (t := .boolean) Bd.returns (by simp) (hb hby at_238) hr) (by decide) (by decide)
  · rw [hn, hk]
    show own_G p.tables e below _ (T352.setTop (mkF m 90 #[.val (.int x0), .val (.int x1), .val (.int x2), .val (.int (3 : Int32)), .val (.int (1 : Int32)), .val v285, .val v294, .val v305, .val (.ref b318), .unset] []))
    refine own_go (fun _ k => XS.iloadN X352.here hx rfl (hb hby at_90) rfl k) ?_
    show own_G p.tables e below _ (T352.setTop (mkF m 91 #[.val (.int x0), .val (.int x1), .val (.int x2), .val (.int (3 : Int32)), .val (.int (1 : Int32)), .val v285, .val v294, .val v305, .val (.ref b318), .unset] [(.int (3 : Int32))]))
    refine own_go (fun _ k => XS.ifNo X352.here hx rfl (hb hby at_91) rfl (((if0 _ _).trans (tlt (by decide : (0 : Int32) < (3 : Int32))).2.2.2)) k) ?_
    show own_G p.tables e below _ (T352.setTop (mkF m 94 #[.val (.int x0), .val (.int x1), .val (.int x2), .val (.int (3 : Int32)), .val (.int (1 : Int32)), .val v285, .val v294, .val v305, .val (.ref b318), .unset] []))
    refine own_go (fun _ k => XS.aload X352.here hx rfl (hb hby at_94) rfl rfl k) ?_
    show own_G p.tables e below _ (T352.setTop (mkF m 96 #[.val (.int x0), .val (.int x1), .val (.int x2), .val (.int (3 : Int32)), .val (.int (1 : Int32)), .val v285, .val v294, .val v305, .val (.ref b318), .unset] [(.ref b318)]))
    refine own_go (fun _ k => XS.aload X352.here hx rfl (hb hby at_96) rfl hr285 k) ?_
    show own_G p.tables e below _ (T352.setTop (mkF m 98 #[.val (.int x0), .val (.int x1), .val (.int x2), .val (.int (3 : Int32)), .val (.int (1 : Int32)), .val v285, .val v294, .val v305, .val (.ref b318), .unset] [v285, (.ref b318)]))
    obtain ⟨cq612, kq612, q612a, q612b, q612c⟩ := isOf hZ rfl G_353
    obtain ⟨_, _, ⟨T612, L612, k612, n612⟩, -, X612, ⟨Lc612, hQ612, l612, y612, z612⟩, st612⟩ := X352.virtualBack hx (y := (⟨"com/example/plainsong/plainsong/engine/CallStack", "push", "(Lcom/example/plainsong/plainsong/engine/CallStack$Activation;)V"⟩ : MethodName)) (z := (⟨"com/example/plainsong/plainsong/engine/CallStack", "push", "(Lcom/example/plainsong/plainsong/engine/CallStack$Activation;)V"⟩ : MethodName)) hown (mvT hZ (hw _ (List.mem_of_getElem? (i := 63) rfl))) (mvT hZ (hw _ (List.mem_of_getElem? (i := 64) rfl))) (notFace_of_selects (args := #[]) (mvT hZ (hw _ (List.mem_of_getElem? (i := 66) rfl)))) (mvT hZ (hw _ (List.mem_of_getElem? (i := 66) rfl))) (mvT hZ (hw _ (List.mem_of_getElem? (i := 65) rfl))) (by decide) (backOf (W := 0) (rm_push0 l Z a0 hw [] b318 v285 b352 k352 .null .null .null T352.heap n0 Z_364 G_353 G_354 G_355 V352 ge_319 ge_358 ne_356 hr285 O352 Av_361) hZ (hw _ (List.mem_of_getElem? (i := 67) rfl)) (hw _ (List.mem_of_getElem? (i := 12) rfl)) (by decide) (by decide)) q612a q612c (g := (mkF m 98 #[.val (.int x0), .val (.int x1), .val (.int x2), .val (.int (3 : Int32)), .val (.int (1 : Int32)), .val v285, .val v294, .val v305, .val (.ref b318), .unset] [v285, (.ref b318)])) rfl (by rw [hml]; rfl) (Steps.refl _) (argsL := [v285]) (rest := []) (lenOf own_pd6 rfl) rfl (by show 2 * 0 + _ ≤ _; exact Nat.le_of_eq rfl) (hb hby at_98) (fun _ _ => ⟨rfl, rfl, (by decide : 7 + 0 ≤ _), (by decide : 30 + 0 ≤ _)⟩)
    dsimp only [Pt.U, Pt.locs, Pt.cells, Pt.slots] at X612 l612 y612 z612 st612 hQ612
    subst l612 y612 z612
    obtain ⟨rfl, Nq612, K612, G_613, G_614, G_615, G_616⟩ := hQ612
    have X_617 := G_353.keep K612
    have X_618 := X_360.keep K612
    have Av_619 := own_avK Av_361 K612
    have Av_620 := own_avK Av_362 K612
    have Av_621 := own_avK Av_363 K612
    have Z_622 : n0 ≤ T612.heap.size := Nat.le_trans Z_364 K612.1
    have N_612 := Fr.app N_352 Nq612
    refine own_go (fun _ k => st612.trans k) ?_
    show own_G p.tables e below _ (T612.setTop (mkF m 101 #[.val (.int x0), .val (.int x1), .val (.int x2), .val (.int (3 : Int32)), .val (.int (1 : Int32)), .val v285, .val v294, .val v305, .val (.ref b318), .unset] []))
    refine own_go (fun _ k => XS.iloadN X612.here hx rfl (hb hby at_101) rfl k) ?_
    show own_G p.tables e below _ (T612.setTop (mkF m 102 #[.val (.int x0), .val (.int x1), .val (.int x2), .val (.int (3 : Int32)), .val (.int (1 : Int32)), .val v285, .val v294, .val v305, .val (.ref b318), .unset] [(.int (3 : Int32))]))
    refine own_go (fun _ k => XS.iconst X612.here hx rfl (hb hby at_102) k) ?_
    show own_G p.tables e below _ (T612.setTop (mkF m 103 #[.val (.int x0), .val (.int x1), .val (.int x2), .val (.int (3 : Int32)), .val (.int (1 : Int32)), .val v285, .val v294, .val v305, .val (.ref b318), .unset] [(.int (1 : Int32)), (.int (3 : Int32))]))
    refine own_go (fun _ k => XS.icmpNo X612.here hx rfl (hb hby at_103) rfl ((tlt (by decide : (1 : Int32) < (3 : Int32))).2.2.2) k) ?_
    show own_G p.tables e below _ (T612.setTop (mkF m 106 #[.val (.int x0), .val (.int x1), .val (.int x2), .val (.int (3 : Int32)), .val (.int (1 : Int32)), .val v285, .val v294, .val v305, .val (.ref b318), .unset] []))
    refine own_go (fun _ k => XS.aload X612.here hx rfl (hb hby at_106) rfl rfl k) ?_
    show own_G p.tables e below _ (T612.setTop (mkF m 108 #[.val (.int x0), .val (.int x1), .val (.int x2), .val (.int (3 : Int32)), .val (.int (1 : Int32)), .val v285, .val v294, .val v305, .val (.ref b318), .unset] [(.ref b318)]))
    refine own_go (fun _ k => XS.aload X612.here hx rfl (hb hby at_108) rfl hr294 k) ?_
    show own_G p.tables e below _ (T612.setTop (mkF m 110 #[.val (.int x0), .val (.int x1), .val (.int x2), .val (.int (3 : Int32)), .val (.int (1 : Int32)), .val v285, .val v294, .val v305, .val (.ref b318), .unset] [v294, (.ref b318)]))
    obtain ⟨cq623, kq623, q623a, q623b, q623c⟩ := isOf hZ rfl G_613
    obtain ⟨_, _, ⟨T623, L623, k623, n623⟩, -, X623, ⟨Lc623, hQ623, l623, y623, z623⟩, st623⟩ := X612.virtualBack hx (y := (⟨"com/example/plainsong/plainsong/engine/CallStack", "push", "(Lcom/example/plainsong/plainsong/engine/CallStack$Activation;)V"⟩ : MethodName)) (z := (⟨"com/example/plainsong/plainsong/engine/CallStack", "push", "(Lcom/example/plainsong/plainsong/engine/CallStack$Activation;)V"⟩ : MethodName)) hown (mvT hZ (hw _ (List.mem_of_getElem? (i := 63) rfl))) (mvT hZ (hw _ (List.mem_of_getElem? (i := 64) rfl))) (notFace_of_selects (args := #[]) (mvT hZ (hw _ (List.mem_of_getElem? (i := 66) rfl)))) (mvT hZ (hw _ (List.mem_of_getElem? (i := 66) rfl))) (mvT hZ (hw _ (List.mem_of_getElem? (i := 65) rfl))) (by decide) (backOf (W := 0) (rm_push1 l Z a0 hw [] b318 v294 b352 k352 v285 .null .null T612.heap n0 Z_622 G_613 G_614 G_615 G_616 ge_319 ge_358 ne_356 hr294 O352 Av_620) hZ (hw _ (List.mem_of_getElem? (i := 67) rfl)) (hw _ (List.mem_of_getElem? (i := 12) rfl)) (by decide) (by decide)) q623a q623c (g := (mkF m 110 #[.val (.int x0), .val (.int x1), .val (.int x2), .val (.int (3 : Int32)), .val (.int (1 : Int32)), .val v285, .val v294, .val v305, .val (.ref b318), .unset] [v294, (.ref b318)])) rfl (by rw [hml]; rfl) (Steps.refl _) (argsL := [v294]) (rest := []) (lenOf own_pd6 rfl) rfl (by show 2 * 0 + _ ≤ _; exact Nat.le_of_eq rfl) (hb hby at_110) (fun _ _ => ⟨rfl, rfl, (by decide : 7 + 0 ≤ _), (by decide : 30 + 0 ≤ _)⟩)
    dsimp only [Pt.U, Pt.locs, Pt.cells, Pt.slots] at X623 l623 y623 z623 st623 hQ623
    subst l623 y623 z623
    obtain ⟨rfl, Nq623, K623, G_624, G_625, G_626, G_627⟩ := hQ623
    have X_628 := G_613.keep K623
    have X_629 := X_618.keep K623
    have Av_630 := own_avK Av_619 K623
    have Av_631 := own_avK Av_620 K623
    have Av_632 := own_avK Av_621 K623
    have Z_633 : n0 ≤ T623.heap.size := Nat.le_trans Z_622 K623.1
    have N_623 := Fr.app N_612 Nq623
    refine own_go (fun _ k => st623.trans k) ?_
    show own_G p.tables e below _ (T623.setTop (mkF m 113 #[.val (.int x0), .val (.int x1), .val (.int x2), .val (.int (3 : Int32)), .val (.int (1 : Int32)), .val v285, .val v294, .val v305, .val (.ref b318), .unset] []))
    refine own_go (fun _ k => XS.iloadN X623.here hx rfl (hb hby at_113) rfl k) ?_
    show own_G p.tables e below _ (T623.setTop (mkF m 114 #[.val (.int x0), .val (.int x1), .val (.int x2), .val (.int (3 : Int32)), .val (.int (1 : Int32)), .val v285, .val v294, .val v305, .val (.ref b318), .unset] [(.int (3 : Int32))]))
    refine own_go (fun _ k => XS.iconst X623.here hx rfl (hb hby at_114) k) ?_
    show own_G p.tables e below _ (T623.setTop (mkF m 115 #[.val (.int x0), .val (.int x1), .val (.int x2), .val (.int (3 : Int32)), .val (.int (1 : Int32)), .val v285, .val v294, .val v305, .val (.ref b318), .unset] [(.int (2 : Int32)), (.int (3 : Int32))]))
    refine own_go (fun _ k => XS.icmpNo X623.here hx rfl (hb hby at_115) rfl ((tlt (by decide : (2 : Int32) < (3 : Int32))).2.2.2) k) ?_
    show own_G p.tables e below _ (T623.setTop (mkF m 118 #[.val (.int x0), .val (.int x1), .val (.int x2), .val (.int (3 : Int32)), .val (.int (1 : Int32)), .val v285, .val v294, .val v305, .val (.ref b318), .unset] []))
    refine own_go (fun _ k => XS.aload X623.here hx rfl (hb hby at_118) rfl rfl k) ?_
    show own_G p.tables e below _ (T623.setTop (mkF m 120 #[.val (.int x0), .val (.int x1), .val (.int x2), .val (.int (3 : Int32)), .val (.int (1 : Int32)), .val v285, .val v294, .val v305, .val (.ref b318), .unset] [(.ref b318)]))
    refine own_go (fun _ k => XS.aload X623.here hx rfl (hb hby at_120) rfl hr305 k) ?_
    show own_G p.tables e below _ (T623.setTop (mkF m 122 #[.val (.int x0), .val (.int x1), .val (.int x2), .val (.int (3 : Int32)), .val (.int (1 : Int32)), .val v285, .val v294, .val v305, .val (.ref b318), .unset] [v305, (.ref b318)]))
    obtain ⟨cq634, kq634, q634a, q634b, q634c⟩ := isOf hZ rfl G_624
    obtain ⟨_, _, ⟨T634, L634, k634, n634⟩, -, X634, ⟨Lc634, hQ634, l634, y634, z634⟩, st634⟩ := X623.virtualBack hx (y := (⟨"com/example/plainsong/plainsong/engine/CallStack", "push", "(Lcom/example/plainsong/plainsong/engine/CallStack$Activation;)V"⟩ : MethodName)) (z := (⟨"com/example/plainsong/plainsong/engine/CallStack", "push", "(Lcom/example/plainsong/plainsong/engine/CallStack$Activation;)V"⟩ : MethodName)) hown (mvT hZ (hw _ (List.mem_of_getElem? (i := 63) rfl))) (mvT hZ (hw _ (List.mem_of_getElem? (i := 64) rfl))) (notFace_of_selects (args := #[]) (mvT hZ (hw _ (List.mem_of_getElem? (i := 66) rfl)))) (mvT hZ (hw _ (List.mem_of_getElem? (i := 66) rfl))) (mvT hZ (hw _ (List.mem_of_getElem? (i := 65) rfl))) (by decide) (backOf (W := 0) (rm_push2 l Z a0 hw [] b318 v305 b352 k352 v285 v294 .null T623.heap n0 Z_633 G_624 G_625 G_626 G_627 ge_319 ge_358 ne_356 hr305 O352 Av_632) hZ (hw _ (List.mem_of_getElem? (i := 67) rfl)) (hw _ (List.mem_of_getElem? (i := 12) rfl)) (by decide) (by decide)) q634a q634c (g := (mkF m 122 #[.val (.int x0), .val (.int x1), .val (.int x2), .val (.int (3 : Int32)), .val (.int (1 : Int32)), .val v285, .val v294, .val v305, .val (.ref b318), .unset] [v305, (.ref b318)])) rfl (by rw [hml]; rfl) (Steps.refl _) (argsL := [v305]) (rest := []) (lenOf own_pd6 rfl) rfl (by show 2 * 0 + _ ≤ _; exact Nat.le_of_eq rfl) (hb hby at_122) (fun _ _ => ⟨rfl, rfl, (by decide : 7 + 0 ≤ _), (by decide : 30 + 0 ≤ _)⟩)
    dsimp only [Pt.U, Pt.locs, Pt.cells, Pt.slots] at X634 l634 y634 z634 st634 hQ634
    subst l634 y634 z634
    obtain ⟨rfl, Nq634, K634, G_635, G_636, G_637, G_638⟩ := hQ634
    have X_639 := G_624.keep K634
    have X_640 := X_629.keep K634
    have Av_641 := own_avK Av_630 K634
    have Av_642 := own_avK Av_631 K634
    have Av_643 := own_avK Av_632 K634
    have Z_644 : n0 ≤ T634.heap.size := Nat.le_trans Z_633 K634.1
    have N_634 := Fr.app N_623 Nq634
    refine own_go (fun _ k => st634.trans k) ?_
    show own_G p.tables e below _ (T634.setTop (mkF m 125 #[.val (.int x0), .val (.int x1), .val (.int x2), .val (.int (3 : Int32)), .val (.int (1 : Int32)), .val v285, .val v294, .val v305, .val (.ref b318), .unset] []))
    refine own_go (fun _ k => XS.aload X634.here hx rfl (hb hby at_125) rfl rfl k) ?_
    show own_G p.tables e below _ (T634.setTop (mkF m 127 #[.val (.int x0), .val (.int x1), .val (.int x2), .val (.int (3 : Int32)), .val (.int (1 : Int32)), .val v285, .val v294, .val v305, .val (.ref b318), .unset] [(.ref b318)]))
    refine own_go (fun _ k => XS.iload X634.here hx rfl (hb hby at_127) rfl k) ?_
    show own_G p.tables e below _ (T634.setTop (mkF m 129 #[.val (.int x0), .val (.int x1), .val (.int x2), .val (.int (3 : Int32)), .val (.int (1 : Int32)), .val v285, .val v294, .val v305, .val (.ref b318), .unset] [(.int (1 : Int32)), (.ref b318)]))
    obtain ⟨cq645, kq645, q645a, q645b, q645c⟩ := isOf hZ rfl G_635
    obtain ⟨_, _, ⟨T645, L645, k645, n645⟩, -, X645, ⟨Lc645, hQ645, l645, y645, z645⟩, st645⟩ := X634.virtualBack hx (y := (⟨"com/example/plainsong/plainsong/engine/CallStack", "truncate", "(I)V"⟩ : MethodName)) (z := (⟨"com/example/plainsong/plainsong/engine/CallStack", "truncate", "(I)V"⟩ : MethodName)) hown (mvT hZ (hw _ (List.mem_of_getElem? (i := 43) rfl))) (mvT hZ (hw _ (List.mem_of_getElem? (i := 44) rfl))) (notFace_of_selects (args := #[]) (mvT hZ (hw _ (List.mem_of_getElem? (i := 46) rfl)))) (mvT hZ (hw _ (List.mem_of_getElem? (i := 46) rfl))) (mvT hZ (hw _ (List.mem_of_getElem? (i := 45) rfl))) (by decide) (backOf (W := 0) (rm_tr31 l Z a0 hw [] b318 b352 k352 v285 v294 v305 T634.heap n0 Z_644 G_635 G_636 G_637 G_638 ge_319 ge_358 ne_356) hZ (hw _ (List.mem_of_getElem? (i := 47) rfl)) (hw _ (List.mem_of_getElem? (i := 12) rfl)) (by decide) (by decide)) q645a q645c (g := (mkF m 129 #[.val (.int x0), .val (.int x1), .val (.int x2), .val (.int (3 : Int32)), .val (.int (1 : Int32)), .val v285, .val v294, .val v305, .val (.ref b318), .unset] [(.int (1 : Int32)), (.ref b318)])) rfl (by rw [hml]; rfl) (Steps.refl _) (argsL := [(.int (1 : Int32))]) (rest := []) (lenOf own_pd2 rfl) rfl (by show 2 * 0 + _ ≤ _; exact Nat.le_of_eq rfl) (hb hby at_129) (fun _ _ => ⟨rfl, rfl, (by decide : 7 + 0 ≤ _), (by decide : 30 + 0 ≤ _)⟩)
    dsimp only [Pt.U, Pt.locs, Pt.cells, Pt.slots] at X645 l645 y645 z645 st645 hQ645
    subst l645 y645 z645
    obtain ⟨rfl, Nq645, K645, G_646, G_647, G_648, G_649⟩ := hQ645
    have X_650 := G_635.keep K645
    have X_651 := X_640.keep K645
    have Av_652 := own_avK Av_641 K645
    have Av_653 := own_avK Av_642 K645
    have Av_654 := own_avK Av_643 K645
    have Z_655 : n0 ≤ T645.heap.size := Nat.le_trans Z_644 K645.1
    have N_645 := Fr.app N_634 Nq645
    refine own_go (fun _ k => st645.trans k) ?_
    show own_G p.tables e below _ (T645.setTop (mkF m 132 #[.val (.int x0), .val (.int x1), .val (.int x2), .val (.int (3 : Int32)), .val (.int (1 : Int32)), .val v285, .val v294, .val v305, .val (.ref b318), .unset] []))
    refine own_go (fun _ k => XS.aload X645.here hx rfl (hb hby at_132) rfl rfl k) ?_
    show own_G p.tables e below _ (T645.setTop (mkF m 134 #[.val (.int x0), .val (.int x1), .val (.int x2), .val (.int (3 : Int32)), .val (.int (1 : Int32)), .val v285, .val v294, .val v305, .val (.ref b318), .unset] [(.ref b318)]))
    obtain ⟨T656, X656, e656, st656⟩ := own_callV X645 hx hZ (y := (⟨"com/example/plainsong/plainsong/engine/CallStack", "depth", "()I"⟩ : MethodName)) hown (hw _ (List.mem_of_getElem? (i := 50) rfl)) (hw _ (List.mem_of_getElem? (i := 51) rfl)) (hw _ (List.mem_of_getElem? (i := 53) rfl)) (hw _ (List.mem_of_getElem? (i := 52) rfl)) (hw _ (List.mem_of_getElem? (i := 12) rfl)) (hw _ (List.mem_of_getElem? (i := 54) rfl)) (by decide) (W := 0) (rm7 l Z a0 hw [] b318 (1 : Int32) T645.heap G_648) (by decide) (by decide) rfl rfl rfl G_646 (g := (mkF m 134 #[.val (.int x0), .val (.int x1), .val (.int x2), .val (.int (3 : Int32)), .val (.int (1 : Int32)), .val v285, .val v294, .val v305, .val (.ref b318), .unset] [(.ref b318)])) rfl (by rw [hml]; rfl) (argsL := []) (rest := []) (lenOf own_pd3 rfl) rfl rfl (by show 2 * 0 + _ ≤ _; exact Nat.le_of_eq rfl) (hb hby at_134) (by decide) (by decide)
    refine own_go st656 ?_
    show own_G p.tables e below _ (T656.setTop (mkF m 137 #[.val (.int x0), .val (.int x1), .val (.int x2), .val (.int (3 : Int32)), .val (.int (1 : Int32)), .val v285, .val v294, .val v305, .val (.ref b318), .unset] [(.int (1 : Int32))]))
    refine own_go (fun _ k => XS.iload X656.here hx rfl (hb hby at_137) rfl k) ?_
    show own_G p.tables e below _ (T656.setTop (mkF m 139 #[.val (.int x0), .val (.int x1), .val (.int x2), .val (.int (3 : Int32)), .val (.int (1 : Int32)), .val v285, .val v294, .val v305, .val (.ref b318), .unset] [(.int (1 : Int32)), (.int (1 : Int32))]))
    refine own_go (fun _ k => XS.icmpNo X656.here hx rfl (hb hby at_139) rfl ((teq (by decide : (1 : Int32) = (1 : Int32))).2) k) ?_
    show own_G p.tables e below _ (T656.setTop (mkF m 142 #[.val (.int x0), .val (.int x1), .val (.int x2), .val (.int (3 : Int32)), .val (.int (1 : Int32)), .val v285, .val v294, .val v305, .val (.ref b318), .unset] []))
    refine own_go (fun _ k => XS.iconst X656.here hx rfl (hb hby at_142) k) ?_
    show own_G p.tables e below _ (T656.setTop (mkF m 143 #[.val (.int x0), .val (.int x1), .val (.int x2), .val (.int (3 : Int32)), .val (.int (1 : Int32)), .val v285, .val v294, .val v305, .val (.ref b318), .unset] [(.int (1 : Int32))]))
    refine own_go (fun _ k => XS.goto X656.here hx rfl (pc0 := 143) (pc' := 147) rfl (hb hby at_143) (by decide) (by decide) k) ?_
    show own_G p.tables e below _ (T656.setTop (mkF m 147 #[.val (.int x0), .val (.int x1), .val (.int x2), .val (.int (3 : Int32)), .val (.int (1 : Int32)), .val v285, .val v294, .val v305, .val (.ref b318), .unset] [(.int (1 : Int32))]))
    refine own_go (fun _ k => XS.istore X656.here hx rfl (hb hby at_147) rfl (l' := #[.val (.int x0), .val (.int x1), .val (.int x2), .val (.int (3 : Int32)), .val (.int (1 : Int32)), .val v285, .val v294, .val v305, .val (.ref b318), .val (.int (1 : Int32))]) rfl k) ?_
    show own_G p.tables e below _ (T656.setTop (mkF m 149 #[.val (.int x0), .val (.int x1), .val (.int x2), .val (.int (3 : Int32)), .val (.int (1 : Int32)), .val v285, .val v294, .val v305, .val (.ref b318), .val (.int (1 : Int32))] []))
    refine own_go (fun _ k => XS.iload X656.here hx rfl (hb hby at_149) rfl k) ?_
    show own_G p.tables e below _ (T656.setTop (mkF m 151 #[.val (.int x0), .val (.int x1), .val (.int x2), .val (.int (3 : Int32)), .val (.int (1 : Int32)), .val v285, .val v294, .val v305, .val (.ref b318), .val (.int (1 : Int32))] [(.int (1 : Int32))]))
    refine own_go (fun _ k => XS.ifNo X656.here hx rfl (hb hby at_151) rfl (((if0 _ _).trans (feq (by decide : ¬ ((1 : Int32) = (0 : Int32)))).1)) k) ?_
    show own_G p.tables e below _ (T656.setTop (mkF m 154 #[.val (.int x0), .val (.int x1), .val (.int x2), .val (.int (3 : Int32)), .val (.int (1 : Int32)), .val v285, .val v294, .val v305, .val (.ref b318), .val (.int (1 : Int32))] []))
    refine own_go (fun _ k => XS.aload X656.here hx rfl (hb hby at_154) rfl rfl k) ?_
    show own_G p.tables e below _ (T656.setTop (mkF m 156 #[.val (.int x0), .val (.int x1), .val (.int x2), .val (.int (3 : Int32)), .val (.int (1 : Int32)), .val v285, .val v294, .val v305, .val (.ref b318), .val (.int (1 : Int32))] [(.ref b318)]))
    refine own_go (fun _ k => XS.iconst X656.here hx rfl (hb hby at_156) k) ?_
    show own_G p.tables e below _ (T656.setTop (mkF m 157 #[.val (.int x0), .val (.int x1), .val (.int x2), .val (.int (3 : Int32)), .val (.int (1 : Int32)), .val v285, .val v294, .val v305, .val (.ref b318), .val (.int (1 : Int32))] [(.int (0 : Int32)), (.ref b318)]))
    obtain ⟨T657, X657, e657, st657⟩ := own_callV X656 hx hZ (y := (⟨"com/example/plainsong/plainsong/engine/CallStack", "entry", "(I)Lcom/example/plainsong/plainsong/engine/CallStack$Activation;"⟩ : MethodName)) hown (hw _ (List.mem_of_getElem? (i := 55) rfl)) (hw _ (List.mem_of_getElem? (i := 56) rfl)) (hw _ (List.mem_of_getElem? (i := 58) rfl)) (hw _ (List.mem_of_getElem? (i := 57) rfl)) (hw _ (List.mem_of_getElem? (i := 12) rfl)) (hw _ (List.mem_of_getElem? (i := 59) rfl)) (by decide) (W := 0) (rm_ent0 l Z a0 hw [] b318 b352 k352 v285 .null .null T645.heap G_647 G_649 hr285) (by decide) (by decide) rfl rfl e656 G_646 (g := (mkF m 157 #[.val (.int x0), .val (.int x1), .val (.int x2), .val (.int (3 : Int32)), .val (.int (1 : Int32)), .val v285, .val v294, .val v305, .val (.ref b318), .val (.int (1 : Int32))] [(.int (0 : Int32)), (.ref b318)])) rfl (by rw [hml]; rfl) (argsL := [(.int (0 : Int32))]) (rest := []) (lenOf own_pd4 rfl) rfl rfl (by show 2 * 0 + _ ≤ _; exact Nat.le_of_eq rfl) (hb hby at_157) (by decide) (by decide)
    refine own_go st657 ?_
    show own_G p.tables e below _ (T657.setTop (mkF m 160 #[.val (.int x0), .val (.int x1), .val (.int x2), .val (.int (3 : Int32)), .val (.int (1 : Int32)), .val v285, .val v294, .val v305, .val (.ref b318), .val (.int (1 : Int32))] [v285]))
    refine own_go (fun _ k => XS.iconst X657.here hx rfl (hb hby at_160) k) ?_
    show own_G p.tables e below _ (T657.setTop (mkF m 161 #[.val (.int x0), .val (.int x1), .val (.int x2), .val (.int (3 : Int32)), .val (.int (1 : Int32)), .val v285, .val v294, .val v305, .val (.ref b318), .val (.int (1 : Int32))] [(.int (0 : Int32)), v285]))
    refine own_go (fun _ k => XS.iload X657.here hx rfl (hb hby at_161) rfl k) ?_
    show own_G p.tables e below _ (T657.setTop (mkF m 163 #[.val (.int x0), .val (.int x1), .val (.int x2), .val (.int (3 : Int32)), .val (.int (1 : Int32)), .val v285, .val v294, .val v305, .val (.ref b318), .val (.int (1 : Int32))] [(.int (1 : Int32)), (.int (0 : Int32)), v285]))
    refine own_go (fun _ k => XS.aload X657.here hx rfl (hb hby at_163) rfl hr285 k) ?_
    show own_G p.tables e below _ (T657.setTop (mkF m 165 #[.val (.int x0), .val (.int x1), .val (.int x2), .val (.int (3 : Int32)), .val (.int (1 : Int32)), .val v285, .val v294, .val v305, .val (.ref b318), .val (.int (1 : Int32))] [v285, (.int (1 : Int32)), (.int (0 : Int32)), v285]))
    obtain ⟨T658, X658, e658, st658⟩ := own_callP X657 hx hZ (y := (⟨"com/example/plainsong/plainsong/engine/CallStackTruncatePinLaw", "expected", "(IILcom/example/plainsong/plainsong/engine/CallStack$Activation;)Lcom/example/plainsong/plainsong/engine/CallStack$Activation;"⟩ : MethodName)) hown (hw _ (List.mem_of_getElem? (i := 60) rfl)) (hw _ (List.mem_of_getElem? (i := 61) rfl)) (hw _ (List.mem_of_getElem? (i := 3) rfl)) (hw _ (List.mem_of_getElem? (i := 62) rfl)) (by decide) (W := 1) (rm_explt l Z a0 hw [] (0 : Int32) (1 : Int32) v285  T645.heap hr285 (by decide)) (by decide) (by decide) rfl rfl e657 (g := (mkF m 165 #[.val (.int x0), .val (.int x1), .val (.int x2), .val (.int (3 : Int32)), .val (.int (1 : Int32)), .val v285, .val v294, .val v305, .val (.ref b318), .val (.int (1 : Int32))] [v285, (.int (1 : Int32)), (.int (0 : Int32)), v285])) rfl (by rw [hml]; rfl) (argsL := [(.int (0 : Int32)), (.int (1 : Int32)), v285]) (rest := [v285]) (lenOf own_pd5 rfl) rfl rfl (own_w1 hr285) (hb hby at_165) (by decide) (by decide)
    refine own_go st658 ?_
    show own_G p.tables e below _ (T658.setTop (mkF m 168 #[.val (.int x0), .val (.int x1), .val (.int x2), .val (.int (3 : Int32)), .val (.int (1 : Int32)), .val v285, .val v294, .val v305, .val (.ref b318), .val (.int (1 : Int32))] [v285, v285]))
    refine own_go (fun _ k => Jvm.RoadKit.acmp (g := (mkF m 168 #[.val (.int x0), .val (.int x1), .val (.int x2), .val (.int (3 : Int32)), .val (.int (1 : Int32)), .val v285, .val v294, .val v305, .val (.ref b318), .val (.int (1 : Int32))] [v285, v285])) X658 hx rfl hr285 hr285 (pc0 := 168) (pc' := 171) (same := true) rfl (hb hby at_168) rfl (decide_eq_true rfl) (by decide) (by decide) k) ?_
    show own_G p.tables e below _ (T658.setTop (mkF m 171 #[.val (.int x0), .val (.int x1), .val (.int x2), .val (.int (3 : Int32)), .val (.int (1 : Int32)), .val v285, .val v294, .val v305, .val (.ref b318), .val (.int (1 : Int32))] []))
    refine own_go (fun _ k => XS.iconst X658.here hx rfl (hb hby at_171) k) ?_
    show own_G p.tables e below _ (T658.setTop (mkF m 172 #[.val (.int x0), .val (.int x1), .val (.int x2), .val (.int (3 : Int32)), .val (.int (1 : Int32)), .val v285, .val v294, .val v305, .val (.ref b318), .val (.int (1 : Int32))] [(.int (1 : Int32))]))
    refine own_go (fun _ k => XS.goto X658.here hx rfl (pc0 := 172) (pc' := 176) rfl (hb hby at_172) (by decide) (by decide) k) ?_
    show own_G p.tables e below _ (T658.setTop (mkF m 176 #[.val (.int x0), .val (.int x1), .val (.int x2), .val (.int (3 : Int32)), .val (.int (1 : Int32)), .val v285, .val v294, .val v305, .val (.ref b318), .val (.int (1 : Int32))] [(.int (1 : Int32))]))
    refine own_go (fun _ k => XS.istore X658.here hx rfl (hb hby at_176) rfl (l' := #[.val (.int x0), .val (.int x1), .val (.int x2), .val (.int (3 : Int32)), .val (.int (1 : Int32)), .val v285, .val v294, .val v305, .val (.ref b318), .val (.int (1 : Int32))]) rfl k) ?_
    show own_G p.tables e below _ (T658.setTop (mkF m 178 #[.val (.int x0), .val (.int x1), .val (.int x2), .val (.int (3 : Int32)), .val (.int (1 : Int32)), .val v285, .val v294, .val v305, .val (.ref b318), .val (.int (1 : Int32))] []))
    refine own_go (fun _ k => XS.iload X658.here hx rfl (hb hby at_178) rfl k) ?_
    show own_G p.tables e below _ (T658.setTop (mkF m 180 #[.val (.int x0), .val (.int x1), .val (.int x2), .val (.int (3 : Int32)), .val (.int (1 : Int32)), .val v285, .val v294, .val v305, .val (.ref b318), .val (.int (1 : Int32))] [(.int (1 : Int32))]))
    refine own_go (fun _ k => XS.ifNo X658.here hx rfl (hb hby at_180) rfl (((if0 _ _).trans (feq (by decide : ¬ ((1 : Int32) = (0 : Int32)))).1)) k) ?_
    show own_G p.tables e below _ (T658.setTop (mkF m 183 #[.val (.int x0), .val (.int x1), .val (.int x2), .val (.int (3 : Int32)), .val (.int (1 : Int32)), .val v285, .val v294, .val v305, .val (.ref b318), .val (.int (1 : Int32))] []))
    refine own_go (fun _ k => XS.aload X658.here hx rfl (hb hby at_183) rfl rfl k) ?_
    show own_G p.tables e below _ (T658.setTop (mkF m 185 #[.val (.int x0), .val (.int x1), .val (.int x2), .val (.int (3 : Int32)), .val (.int (1 : Int32)), .val v285, .val v294, .val v305, .val (.ref b318), .val (.int (1 : Int32))] [(.ref b318)]))
    refine own_go (fun _ k => XS.iconst X658.here hx rfl (hb hby at_185) k) ?_
    show own_G p.tables e below _ (T658.setTop (mkF m 186 #[.val (.int x0), .val (.int x1), .val (.int x2), .val (.int (3 : Int32)), .val (.int (1 : Int32)), .val v285, .val v294, .val v305, .val (.ref b318), .val (.int (1 : Int32))] [(.int (1 : Int32)), (.ref b318)]))
    obtain ⟨T659, X659, e659, st659⟩ := own_callV X658 hx hZ (y := (⟨"com/example/plainsong/plainsong/engine/CallStack", "entry", "(I)Lcom/example/plainsong/plainsong/engine/CallStack$Activation;"⟩ : MethodName)) hown (hw _ (List.mem_of_getElem? (i := 55) rfl)) (hw _ (List.mem_of_getElem? (i := 56) rfl)) (hw _ (List.mem_of_getElem? (i := 58) rfl)) (hw _ (List.mem_of_getElem? (i := 57) rfl)) (hw _ (List.mem_of_getElem? (i := 12) rfl)) (hw _ (List.mem_of_getElem? (i := 59) rfl)) (by decide) (W := 0) (rm_ent1 l Z a0 hw [] b318 b352 k352 v285 .null .null T645.heap G_647 G_649 rfl) (by decide) (by decide) rfl rfl e658 G_646 (g := (mkF m 186 #[.val (.int x0), .val (.int x1), .val (.int x2), .val (.int (3 : Int32)), .val (.int (1 : Int32)), .val v285, .val v294, .val v305, .val (.ref b318), .val (.int (1 : Int32))] [(.int (1 : Int32)), (.ref b318)])) rfl (by rw [hml]; rfl) (argsL := [(.int (1 : Int32))]) (rest := []) (lenOf own_pd4 rfl) rfl rfl (by show 2 * 0 + _ ≤ _; exact Nat.le_of_eq rfl) (hb hby at_186) (by decide) (by decide)
    refine own_go st659 ?_
    show own_G p.tables e below _ (T659.setTop (mkF m 189 #[.val (.int x0), .val (.int x1), .val (.int x2), .val (.int (3 : Int32)), .val (.int (1 : Int32)), .val v285, .val v294, .val v305, .val (.ref b318), .val (.int (1 : Int32))] [.null]))
    refine own_go (fun _ k => XS.iconst X659.here hx rfl (hb hby at_189) k) ?_
    show own_G p.tables e below _ (T659.setTop (mkF m 190 #[.val (.int x0), .val (.int x1), .val (.int x2), .val (.int (3 : Int32)), .val (.int (1 : Int32)), .val v285, .val v294, .val v305, .val (.ref b318), .val (.int (1 : Int32))] [(.int (1 : Int32)), .null]))
    refine own_go (fun _ k => XS.iload X659.here hx rfl (hb hby at_190) rfl k) ?_
    show own_G p.tables e below _ (T659.setTop (mkF m 192 #[.val (.int x0), .val (.int x1), .val (.int x2), .val (.int (3 : Int32)), .val (.int (1 : Int32)), .val v285, .val v294, .val v305, .val (.ref b318), .val (.int (1 : Int32))] [(.int (1 : Int32)), (.int (1 : Int32)), .null]))
    refine own_go (fun _ k => XS.aload X659.here hx rfl (hb hby at_192) rfl hr294 k) ?_
    show own_G p.tables e below _ (T659.setTop (mkF m 194 #[.val (.int x0), .val (.int x1), .val (.int x2), .val (.int (3 : Int32)), .val (.int (1 : Int32)), .val v285, .val v294, .val v305, .val (.ref b318), .val (.int (1 : Int32))] [v294, (.int (1 : Int32)), (.int (1 : Int32)), .null]))
    obtain ⟨T660, X660, e660, st660⟩ := own_callP X659 hx hZ (y := (⟨"com/example/plainsong/plainsong/engine/CallStackTruncatePinLaw", "expected", "(IILcom/example/plainsong/plainsong/engine/CallStack$Activation;)Lcom/example/plainsong/plainsong/engine/CallStack$Activation;"⟩ : MethodName)) hown (hw _ (List.mem_of_getElem? (i := 60) rfl)) (hw _ (List.mem_of_getElem? (i := 61) rfl)) (hw _ (List.mem_of_getElem? (i := 3) rfl)) (hw _ (List.mem_of_getElem? (i := 62) rfl)) (by decide) (W := 1) (rm_expge l Z a0 hw [] (1 : Int32) (1 : Int32) v294  T645.heap hr294 (by decide)) (by decide) (by decide) rfl rfl e659 (g := (mkF m 194 #[.val (.int x0), .val (.int x1), .val (.int x2), .val (.int (3 : Int32)), .val (.int (1 : Int32)), .val v285, .val v294, .val v305, .val (.ref b318), .val (.int (1 : Int32))] [v294, (.int (1 : Int32)), (.int (1 : Int32)), .null])) rfl (by rw [hml]; rfl) (argsL := [(.int (1 : Int32)), (.int (1 : Int32)), v294]) (rest := [.null]) (lenOf own_pd5 rfl) rfl rfl (by show 2 * 0 + _ ≤ _; exact Nat.le_of_eq rfl) (hb hby at_194) (by decide) (by decide)
    refine own_go st660 ?_
    show own_G p.tables e below _ (T660.setTop (mkF m 197 #[.val (.int x0), .val (.int x1), .val (.int x2), .val (.int (3 : Int32)), .val (.int (1 : Int32)), .val v285, .val v294, .val v305, .val (.ref b318), .val (.int (1 : Int32))] [.null, .null]))
    refine own_go (fun _ k => Jvm.RoadKit.acmp (g := (mkF m 197 #[.val (.int x0), .val (.int x1), .val (.int x2), .val (.int (3 : Int32)), .val (.int (1 : Int32)), .val v285, .val v294, .val v305, .val (.ref b318), .val (.int (1 : Int32))] [.null, .null])) X660 hx rfl rfl rfl (pc0 := 197) (pc' := 200) (same := true) rfl (hb hby at_197) rfl (decide_eq_true rfl) (by decide) (by decide) k) ?_
    show own_G p.tables e below _ (T660.setTop (mkF m 200 #[.val (.int x0), .val (.int x1), .val (.int x2), .val (.int (3 : Int32)), .val (.int (1 : Int32)), .val v285, .val v294, .val v305, .val (.ref b318), .val (.int (1 : Int32))] []))
    refine own_go (fun _ k => XS.iconst X660.here hx rfl (hb hby at_200) k) ?_
    show own_G p.tables e below _ (T660.setTop (mkF m 201 #[.val (.int x0), .val (.int x1), .val (.int x2), .val (.int (3 : Int32)), .val (.int (1 : Int32)), .val v285, .val v294, .val v305, .val (.ref b318), .val (.int (1 : Int32))] [(.int (1 : Int32))]))
    refine own_go (fun _ k => XS.goto X660.here hx rfl (pc0 := 201) (pc' := 205) rfl (hb hby at_201) (by decide) (by decide) k) ?_
    show own_G p.tables e below _ (T660.setTop (mkF m 205 #[.val (.int x0), .val (.int x1), .val (.int x2), .val (.int (3 : Int32)), .val (.int (1 : Int32)), .val v285, .val v294, .val v305, .val (.ref b318), .val (.int (1 : Int32))] [(.int (1 : Int32))]))
    refine own_go (fun _ k => XS.istore X660.here hx rfl (hb hby at_205) rfl (l' := #[.val (.int x0), .val (.int x1), .val (.int x2), .val (.int (3 : Int32)), .val (.int (1 : Int32)), .val v285, .val v294, .val v305, .val (.ref b318), .val (.int (1 : Int32))]) rfl k) ?_
    show own_G p.tables e below _ (T660.setTop (mkF m 207 #[.val (.int x0), .val (.int x1), .val (.int x2), .val (.int (3 : Int32)), .val (.int (1 : Int32)), .val v285, .val v294, .val v305, .val (.ref b318), .val (.int (1 : Int32))] []))
    refine own_go (fun _ k => XS.iload X660.here hx rfl (hb hby at_207) rfl k) ?_
    show own_G p.tables e below _ (T660.setTop (mkF m 209 #[.val (.int x0), .val (.int x1), .val (.int x2), .val (.int (3 : Int32)), .val (.int (1 : Int32)), .val v285, .val v294, .val v305, .val (.ref b318), .val (.int (1 : Int32))] [(.int (1 : Int32))]))
    refine own_go (fun _ k => XS.ifNo X660.here hx rfl (hb hby at_209) rfl (((if0 _ _).trans (feq (by decide : ¬ ((1 : Int32) = (0 : Int32)))).1)) k) ?_
    show own_G p.tables e below _ (T660.setTop (mkF m 212 #[.val (.int x0), .val (.int x1), .val (.int x2), .val (.int (3 : Int32)), .val (.int (1 : Int32)), .val v285, .val v294, .val v305, .val (.ref b318), .val (.int (1 : Int32))] []))
    refine own_go (fun _ k => XS.aload X660.here hx rfl (hb hby at_212) rfl rfl k) ?_
    show own_G p.tables e below _ (T660.setTop (mkF m 214 #[.val (.int x0), .val (.int x1), .val (.int x2), .val (.int (3 : Int32)), .val (.int (1 : Int32)), .val v285, .val v294, .val v305, .val (.ref b318), .val (.int (1 : Int32))] [(.ref b318)]))
    refine own_go (fun _ k => XS.iconst X660.here hx rfl (hb hby at_214) k) ?_
    show own_G p.tables e below _ (T660.setTop (mkF m 215 #[.val (.int x0), .val (.int x1), .val (.int x2), .val (.int (3 : Int32)), .val (.int (1 : Int32)), .val v285, .val v294, .val v305, .val (.ref b318), .val (.int (1 : Int32))] [(.int (2 : Int32)), (.ref b318)]))
    obtain ⟨T661, X661, e661, st661⟩ := own_callV X660 hx hZ (y := (⟨"com/example/plainsong/plainsong/engine/CallStack", "entry", "(I)Lcom/example/plainsong/plainsong/engine/CallStack$Activation;"⟩ : MethodName)) hown (hw _ (List.mem_of_getElem? (i := 55) rfl)) (hw _ (List.mem_of_getElem? (i := 56) rfl)) (hw _ (List.mem_of_getElem? (i := 58) rfl)) (hw _ (List.mem_of_getElem? (i := 57) rfl)) (hw _ (List.mem_of_getElem? (i := 12) rfl)) (hw _ (List.mem_of_getElem? (i := 59) rfl)) (by decide) (W := 0) (rm_ent2 l Z a0 hw [] b318 b352 k352 v285 .null .null T645.heap G_647 G_649 rfl) (by decide) (by decide) rfl rfl e660 G_646 (g := (mkF m 215 #[.val (.int x0), .val (.int x1), .val (.int x2), .val (.int (3 : Int32)), .val (.int (1 : Int32)), .val v285, .val v294, .val v305, .val (.ref b318), .val (.int (1 : Int32))] [(.int (2 : Int32)), (.ref b318)])) rfl (by rw [hml]; rfl) (argsL := [(.int (2 : Int32))]) (rest := []) (lenOf own_pd4 rfl) rfl rfl (by show 2 * 0 + _ ≤ _; exact Nat.le_of_eq rfl) (hb hby at_215) (by decide) (by decide)
    refine own_go st661 ?_
    show own_G p.tables e below _ (T661.setTop (mkF m 218 #[.val (.int x0), .val (.int x1), .val (.int x2), .val (.int (3 : Int32)), .val (.int (1 : Int32)), .val v285, .val v294, .val v305, .val (.ref b318), .val (.int (1 : Int32))] [.null]))
    refine own_go (fun _ k => XS.iconst X661.here hx rfl (hb hby at_218) k) ?_
    show own_G p.tables e below _ (T661.setTop (mkF m 219 #[.val (.int x0), .val (.int x1), .val (.int x2), .val (.int (3 : Int32)), .val (.int (1 : Int32)), .val v285, .val v294, .val v305, .val (.ref b318), .val (.int (1 : Int32))] [(.int (2 : Int32)), .null]))
    refine own_go (fun _ k => XS.iload X661.here hx rfl (hb hby at_219) rfl k) ?_
    show own_G p.tables e below _ (T661.setTop (mkF m 221 #[.val (.int x0), .val (.int x1), .val (.int x2), .val (.int (3 : Int32)), .val (.int (1 : Int32)), .val v285, .val v294, .val v305, .val (.ref b318), .val (.int (1 : Int32))] [(.int (1 : Int32)), (.int (2 : Int32)), .null]))
    refine own_go (fun _ k => XS.aload X661.here hx rfl (hb hby at_221) rfl hr305 k) ?_
    show own_G p.tables e below _ (T661.setTop (mkF m 223 #[.val (.int x0), .val (.int x1), .val (.int x2), .val (.int (3 : Int32)), .val (.int (1 : Int32)), .val v285, .val v294, .val v305, .val (.ref b318), .val (.int (1 : Int32))] [v305, (.int (1 : Int32)), (.int (2 : Int32)), .null]))
    obtain ⟨T662, X662, e662, st662⟩ := own_callP X661 hx hZ (y := (⟨"com/example/plainsong/plainsong/engine/CallStackTruncatePinLaw", "expected", "(IILcom/example/plainsong/plainsong/engine/CallStack$Activation;)Lcom/example/plainsong/plainsong/engine/CallStack$Activation;"⟩ : MethodName)) hown (hw _ (List.mem_of_getElem? (i := 60) rfl)) (hw _ (List.mem_of_getElem? (i := 61) rfl)) (hw _ (List.mem_of_getElem? (i := 3) rfl)) (hw _ (List.mem_of_getElem? (i := 62) rfl)) (by decide) (W := 1) (rm_expge l Z a0 hw [] (2 : Int32) (1 : Int32) v305  T645.heap hr305 (by decide)) (by decide) (by decide) rfl rfl e661 (g := (mkF m 223 #[.val (.int x0), .val (.int x1), .val (.int x2), .val (.int (3 : Int32)), .val (.int (1 : Int32)), .val v285, .val v294, .val v305, .val (.ref b318), .val (.int (1 : Int32))] [v305, (.int (1 : Int32)), (.int (2 : Int32)), .null])) rfl (by rw [hml]; rfl) (argsL := [(.int (2 : Int32)), (.int (1 : Int32)), v305]) (rest := [.null]) (lenOf own_pd5 rfl) rfl rfl (by show 2 * 0 + _ ≤ _; exact Nat.le_of_eq rfl) (hb hby at_223) (by decide) (by decide)
    refine own_go st662 ?_
    show own_G p.tables e below _ (T662.setTop (mkF m 226 #[.val (.int x0), .val (.int x1), .val (.int x2), .val (.int (3 : Int32)), .val (.int (1 : Int32)), .val v285, .val v294, .val v305, .val (.ref b318), .val (.int (1 : Int32))] [.null, .null]))
    refine own_go (fun _ k => Jvm.RoadKit.acmp (g := (mkF m 226 #[.val (.int x0), .val (.int x1), .val (.int x2), .val (.int (3 : Int32)), .val (.int (1 : Int32)), .val v285, .val v294, .val v305, .val (.ref b318), .val (.int (1 : Int32))] [.null, .null])) X662 hx rfl rfl rfl (pc0 := 226) (pc' := 229) (same := true) rfl (hb hby at_226) rfl (decide_eq_true rfl) (by decide) (by decide) k) ?_
    show own_G p.tables e below _ (T662.setTop (mkF m 229 #[.val (.int x0), .val (.int x1), .val (.int x2), .val (.int (3 : Int32)), .val (.int (1 : Int32)), .val v285, .val v294, .val v305, .val (.ref b318), .val (.int (1 : Int32))] []))
    refine own_go (fun _ k => XS.iconst X662.here hx rfl (hb hby at_229) k) ?_
    show own_G p.tables e below _ (T662.setTop (mkF m 230 #[.val (.int x0), .val (.int x1), .val (.int x2), .val (.int (3 : Int32)), .val (.int (1 : Int32)), .val v285, .val v294, .val v305, .val (.ref b318), .val (.int (1 : Int32))] [(.int (1 : Int32))]))
    refine own_go (fun _ k => XS.goto X662.here hx rfl (pc0 := 230) (pc' := 234) rfl (hb hby at_230) (by decide) (by decide) k) ?_
    show own_G p.tables e below _ (T662.setTop (mkF m 234 #[.val (.int x0), .val (.int x1), .val (.int x2), .val (.int (3 : Int32)), .val (.int (1 : Int32)), .val v285, .val v294, .val v305, .val (.ref b318), .val (.int (1 : Int32))] [(.int (1 : Int32))]))
    refine own_go (fun _ k => XS.istore X662.here hx rfl (hb hby at_234) rfl (l' := #[.val (.int x0), .val (.int x1), .val (.int x2), .val (.int (3 : Int32)), .val (.int (1 : Int32)), .val v285, .val v294, .val v305, .val (.ref b318), .val (.int (1 : Int32))]) rfl k) ?_
    show own_G p.tables e below _ (T662.setTop (mkF m 236 #[.val (.int x0), .val (.int x1), .val (.int x2), .val (.int (3 : Int32)), .val (.int (1 : Int32)), .val v285, .val v294, .val v305, .val (.ref b318), .val (.int (1 : Int32))] []))
    refine own_go (fun _ k => XS.iload X662.here hx rfl (hb hby at_236) rfl k) ?_
    show own_G p.tables e below _ (T662.setTop (mkF m 238 #[.val (.int x0), .val (.int x1), .val (.int x2), .val (.int (3 : Int32)), .val (.int (1 : Int32)), .val v285, .val v294, .val v305, .val (.ref b318), .val (.int (1 : Int32))] [(.int (1 : Int32))]))
    exact own_end X662 Bd.notSynchronized (v := some (.int (nar .boolean (1 : Int32)))) (fun h => by rw [Bd.returns] at h; cases h) (Q := QL (some (.int (1 : Int32))) n0) ⟨rfl, N_645⟩ (fun fs hr => retN X662 hx (t := .boolean) Bd.returns (by simp) (hb hby at_238) hr) (by decide) (by decide)
  · rw [hn, hk]
    show own_G p.tables e below _ (T352.setTop (mkF m 90 #[.val (.int x0), .val (.int x1), .val (.int x2), .val (.int (3 : Int32)), .val (.int (2 : Int32)), .val v285, .val v294, .val v305, .val (.ref b318), .unset] []))
    refine own_go (fun _ k => XS.iloadN X352.here hx rfl (hb hby at_90) rfl k) ?_
    show own_G p.tables e below _ (T352.setTop (mkF m 91 #[.val (.int x0), .val (.int x1), .val (.int x2), .val (.int (3 : Int32)), .val (.int (2 : Int32)), .val v285, .val v294, .val v305, .val (.ref b318), .unset] [(.int (3 : Int32))]))
    refine own_go (fun _ k => XS.ifNo X352.here hx rfl (hb hby at_91) rfl (((if0 _ _).trans (tlt (by decide : (0 : Int32) < (3 : Int32))).2.2.2)) k) ?_
    show own_G p.tables e below _ (T352.setTop (mkF m 94 #[.val (.int x0), .val (.int x1), .val (.int x2), .val (.int (3 : Int32)), .val (.int (2 : Int32)), .val v285, .val v294, .val v305, .val (.ref b318), .unset] []))
    refine own_go (fun _ k => XS.aload X352.here hx rfl (hb hby at_94) rfl rfl k) ?_
    show own_G p.tables e below _ (T352.setTop (mkF m 96 #[.val (.int x0), .val (.int x1), .val (.int x2), .val (.int (3 : Int32)), .val (.int (2 : Int32)), .val v285, .val v294, .val v305, .val (.ref b318), .unset] [(.ref b318)]))
    refine own_go (fun _ k => XS.aload X352.here hx rfl (hb hby at_96) rfl hr285 k) ?_
    show own_G p.tables e below _ (T352.setTop (mkF m 98 #[.val (.int x0), .val (.int x1), .val (.int x2), .val (.int (3 : Int32)), .val (.int (2 : Int32)), .val v285, .val v294, .val v305, .val (.ref b318), .unset] [v285, (.ref b318)]))
    obtain ⟨cq663, kq663, q663a, q663b, q663c⟩ := isOf hZ rfl G_353
    obtain ⟨_, _, ⟨T663, L663, k663, n663⟩, -, X663, ⟨Lc663, hQ663, l663, y663, z663⟩, st663⟩ := X352.virtualBack hx (y := (⟨"com/example/plainsong/plainsong/engine/CallStack", "push", "(Lcom/example/plainsong/plainsong/engine/CallStack$Activation;)V"⟩ : MethodName)) (z := (⟨"com/example/plainsong/plainsong/engine/CallStack", "push", "(Lcom/example/plainsong/plainsong/engine/CallStack$Activation;)V"⟩ : MethodName)) hown (mvT hZ (hw _ (List.mem_of_getElem? (i := 63) rfl))) (mvT hZ (hw _ (List.mem_of_getElem? (i := 64) rfl))) (notFace_of_selects (args := #[]) (mvT hZ (hw _ (List.mem_of_getElem? (i := 66) rfl)))) (mvT hZ (hw _ (List.mem_of_getElem? (i := 66) rfl))) (mvT hZ (hw _ (List.mem_of_getElem? (i := 65) rfl))) (by decide) (backOf (W := 0) (rm_push0 l Z a0 hw [] b318 v285 b352 k352 .null .null .null T352.heap n0 Z_364 G_353 G_354 G_355 V352 ge_319 ge_358 ne_356 hr285 O352 Av_361) hZ (hw _ (List.mem_of_getElem? (i := 67) rfl)) (hw _ (List.mem_of_getElem? (i := 12) rfl)) (by decide) (by decide)) q663a q663c (g := (mkF m 98 #[.val (.int x0), .val (.int x1), .val (.int x2), .val (.int (3 : Int32)), .val (.int (2 : Int32)), .val v285, .val v294, .val v305, .val (.ref b318), .unset] [v285, (.ref b318)])) rfl (by rw [hml]; rfl) (Steps.refl _) (argsL := [v285]) (rest := []) (lenOf own_pd6 rfl) rfl (by show 2 * 0 + _ ≤ _; exact Nat.le_of_eq rfl) (hb hby at_98) (fun _ _ => ⟨rfl, rfl, (by decide : 7 + 0 ≤ _), (by decide : 30 + 0 ≤ _)⟩)
    dsimp only [Pt.U, Pt.locs, Pt.cells, Pt.slots] at X663 l663 y663 z663 st663 hQ663
    subst l663 y663 z663
    obtain ⟨rfl, Nq663, K663, G_664, G_665, G_666, G_667⟩ := hQ663
    have X_668 := G_353.keep K663
    have X_669 := X_360.keep K663
    have Av_670 := own_avK Av_361 K663
    have Av_671 := own_avK Av_362 K663
    have Av_672 := own_avK Av_363 K663
    have Z_673 : n0 ≤ T663.heap.size := Nat.le_trans Z_364 K663.1
    have N_663 := Fr.app N_352 Nq663
    refine own_go (fun _ k => st663.trans k) ?_
    show own_G p.tables e below _ (T663.setTop (mkF m 101 #[.val (.int x0), .val (.int x1), .val (.int x2), .val (.int (3 : Int32)), .val (.int (2 : Int32)), .val v285, .val v294, .val v305, .val (.ref b318), .unset] []))
    refine own_go (fun _ k => XS.iloadN X663.here hx rfl (hb hby at_101) rfl k) ?_
    show own_G p.tables e below _ (T663.setTop (mkF m 102 #[.val (.int x0), .val (.int x1), .val (.int x2), .val (.int (3 : Int32)), .val (.int (2 : Int32)), .val v285, .val v294, .val v305, .val (.ref b318), .unset] [(.int (3 : Int32))]))
    refine own_go (fun _ k => XS.iconst X663.here hx rfl (hb hby at_102) k) ?_
    show own_G p.tables e below _ (T663.setTop (mkF m 103 #[.val (.int x0), .val (.int x1), .val (.int x2), .val (.int (3 : Int32)), .val (.int (2 : Int32)), .val v285, .val v294, .val v305, .val (.ref b318), .unset] [(.int (1 : Int32)), (.int (3 : Int32))]))
    refine own_go (fun _ k => XS.icmpNo X663.here hx rfl (hb hby at_103) rfl ((tlt (by decide : (1 : Int32) < (3 : Int32))).2.2.2) k) ?_
    show own_G p.tables e below _ (T663.setTop (mkF m 106 #[.val (.int x0), .val (.int x1), .val (.int x2), .val (.int (3 : Int32)), .val (.int (2 : Int32)), .val v285, .val v294, .val v305, .val (.ref b318), .unset] []))
    refine own_go (fun _ k => XS.aload X663.here hx rfl (hb hby at_106) rfl rfl k) ?_
    show own_G p.tables e below _ (T663.setTop (mkF m 108 #[.val (.int x0), .val (.int x1), .val (.int x2), .val (.int (3 : Int32)), .val (.int (2 : Int32)), .val v285, .val v294, .val v305, .val (.ref b318), .unset] [(.ref b318)]))
    refine own_go (fun _ k => XS.aload X663.here hx rfl (hb hby at_108) rfl hr294 k) ?_
    show own_G p.tables e below _ (T663.setTop (mkF m 110 #[.val (.int x0), .val (.int x1), .val (.int x2), .val (.int (3 : Int32)), .val (.int (2 : Int32)), .val v285, .val v294, .val v305, .val (.ref b318), .unset] [v294, (.ref b318)]))
    obtain ⟨cq674, kq674, q674a, q674b, q674c⟩ := isOf hZ rfl G_664
    obtain ⟨_, _, ⟨T674, L674, k674, n674⟩, -, X674, ⟨Lc674, hQ674, l674, y674, z674⟩, st674⟩ := X663.virtualBack hx (y := (⟨"com/example/plainsong/plainsong/engine/CallStack", "push", "(Lcom/example/plainsong/plainsong/engine/CallStack$Activation;)V"⟩ : MethodName)) (z := (⟨"com/example/plainsong/plainsong/engine/CallStack", "push", "(Lcom/example/plainsong/plainsong/engine/CallStack$Activation;)V"⟩ : MethodName)) hown (mvT hZ (hw _ (List.mem_of_getElem? (i := 63) rfl))) (mvT hZ (hw _ (List.mem_of_getElem? (i := 64) rfl))) (notFace_of_selects (args := #[]) (mvT hZ (hw _ (List.mem_of_getElem? (i := 66) rfl)))) (mvT hZ (hw _ (List.mem_of_getElem? (i := 66) rfl))) (mvT hZ (hw _ (List.mem_of_getElem? (i := 65) rfl))) (by decide) (backOf (W := 0) (rm_push1 l Z a0 hw [] b318 v294 b352 k352 v285 .null .null T663.heap n0 Z_673 G_664 G_665 G_666 G_667 ge_319 ge_358 ne_356 hr294 O352 Av_671) hZ (hw _ (List.mem_of_getElem? (i := 67) rfl)) (hw _ (List.mem_of_getElem? (i := 12) rfl)) (by decide) (by decide)) q674a q674c (g := (mkF m 110 #[.val (.int x0), .val (.int x1), .val (.int x2), .val (.int (3 : Int32)), .val (.int (2 : Int32)), .val v285, .val v294, .val v305, .val (.ref b318), .unset] [v294, (.ref b318)])) rfl (by rw [hml]; rfl) (Steps.refl _) (argsL := [v294]) (rest := []) (lenOf own_pd6 rfl) rfl (by show 2 * 0 + _ ≤ _; exact Nat.le_of_eq rfl) (hb hby at_110) (fun _ _ => ⟨rfl, rfl, (by decide : 7 + 0 ≤ _), (by decide : 30 + 0 ≤ _)⟩)
    dsimp only [Pt.U, Pt.locs, Pt.cells, Pt.slots] at X674 l674 y674 z674 st674 hQ674
    subst l674 y674 z674
    obtain ⟨rfl, Nq674, K674, G_675, G_676, G_677, G_678⟩ := hQ674
    have X_679 := G_664.keep K674
    have X_680 := X_669.keep K674
    have Av_681 := own_avK Av_670 K674
    have Av_682 := own_avK Av_671 K674
    have Av_683 := own_avK Av_672 K674
    have Z_684 : n0 ≤ T674.heap.size := Nat.le_trans Z_673 K674.1
    have N_674 := Fr.app N_663 Nq674
    refine own_go (fun _ k => st674.trans k) ?_
    show own_G p.tables e below _ (T674.setTop (mkF m 113 #[.val (.int x0), .val (.int x1), .val (.int x2), .val (.int (3 : Int32)), .val (.int (2 : Int32)), .val v285, .val v294, .val v305, .val (.ref b318), .unset] []))
    refine own_go (fun _ k => XS.iloadN X674.here hx rfl (hb hby at_113) rfl k) ?_
    show own_G p.tables e below _ (T674.setTop (mkF m 114 #[.val (.int x0), .val (.int x1), .val (.int x2), .val (.int (3 : Int32)), .val (.int (2 : Int32)), .val v285, .val v294, .val v305, .val (.ref b318), .unset] [(.int (3 : Int32))]))
    refine own_go (fun _ k => XS.iconst X674.here hx rfl (hb hby at_114) k) ?_
    show own_G p.tables e below _ (T674.setTop (mkF m 115 #[.val (.int x0), .val (.int x1), .val (.int x2), .val (.int (3 : Int32)), .val (.int (2 : Int32)), .val v285, .val v294, .val v305, .val (.ref b318), .unset] [(.int (2 : Int32)), (.int (3 : Int32))]))
    refine own_go (fun _ k => XS.icmpNo X674.here hx rfl (hb hby at_115) rfl ((tlt (by decide : (2 : Int32) < (3 : Int32))).2.2.2) k) ?_
    show own_G p.tables e below _ (T674.setTop (mkF m 118 #[.val (.int x0), .val (.int x1), .val (.int x2), .val (.int (3 : Int32)), .val (.int (2 : Int32)), .val v285, .val v294, .val v305, .val (.ref b318), .unset] []))
    refine own_go (fun _ k => XS.aload X674.here hx rfl (hb hby at_118) rfl rfl k) ?_
    show own_G p.tables e below _ (T674.setTop (mkF m 120 #[.val (.int x0), .val (.int x1), .val (.int x2), .val (.int (3 : Int32)), .val (.int (2 : Int32)), .val v285, .val v294, .val v305, .val (.ref b318), .unset] [(.ref b318)]))
    refine own_go (fun _ k => XS.aload X674.here hx rfl (hb hby at_120) rfl hr305 k) ?_
    show own_G p.tables e below _ (T674.setTop (mkF m 122 #[.val (.int x0), .val (.int x1), .val (.int x2), .val (.int (3 : Int32)), .val (.int (2 : Int32)), .val v285, .val v294, .val v305, .val (.ref b318), .unset] [v305, (.ref b318)]))
    obtain ⟨cq685, kq685, q685a, q685b, q685c⟩ := isOf hZ rfl G_675
    obtain ⟨_, _, ⟨T685, L685, k685, n685⟩, -, X685, ⟨Lc685, hQ685, l685, y685, z685⟩, st685⟩ := X674.virtualBack hx (y := (⟨"com/example/plainsong/plainsong/engine/CallStack", "push", "(Lcom/example/plainsong/plainsong/engine/CallStack$Activation;)V"⟩ : MethodName)) (z := (⟨"com/example/plainsong/plainsong/engine/CallStack", "push", "(Lcom/example/plainsong/plainsong/engine/CallStack$Activation;)V"⟩ : MethodName)) hown (mvT hZ (hw _ (List.mem_of_getElem? (i := 63) rfl))) (mvT hZ (hw _ (List.mem_of_getElem? (i := 64) rfl))) (notFace_of_selects (args := #[]) (mvT hZ (hw _ (List.mem_of_getElem? (i := 66) rfl)))) (mvT hZ (hw _ (List.mem_of_getElem? (i := 66) rfl))) (mvT hZ (hw _ (List.mem_of_getElem? (i := 65) rfl))) (by decide) (backOf (W := 0) (rm_push2 l Z a0 hw [] b318 v305 b352 k352 v285 v294 .null T674.heap n0 Z_684 G_675 G_676 G_677 G_678 ge_319 ge_358 ne_356 hr305 O352 Av_683) hZ (hw _ (List.mem_of_getElem? (i := 67) rfl)) (hw _ (List.mem_of_getElem? (i := 12) rfl)) (by decide) (by decide)) q685a q685c (g := (mkF m 122 #[.val (.int x0), .val (.int x1), .val (.int x2), .val (.int (3 : Int32)), .val (.int (2 : Int32)), .val v285, .val v294, .val v305, .val (.ref b318), .unset] [v305, (.ref b318)])) rfl (by rw [hml]; rfl) (Steps.refl _) (argsL := [v305]) (rest := []) (lenOf own_pd6 rfl) rfl (by show 2 * 0 + _ ≤ _; exact Nat.le_of_eq rfl) (hb hby at_122) (fun _ _ => ⟨rfl, rfl, (by decide : 7 + 0 ≤ _), (by decide : 30 + 0 ≤ _)⟩)
    dsimp only [Pt.U, Pt.locs, Pt.cells, Pt.slots] at X685 l685 y685 z685 st685 hQ685
    subst l685 y685 z685
    obtain ⟨rfl, Nq685, K685, G_686, G_687, G_688, G_689⟩ := hQ685
    have X_690 := G_675.keep K685
    have X_691 := X_680.keep K685
    have Av_692 := own_avK Av_681 K685
    have Av_693 := own_avK Av_682 K685
    have Av_694 := own_avK Av_683 K685
    have Z_695 : n0 ≤ T685.heap.size := Nat.le_trans Z_684 K685.1
    have N_685 := Fr.app N_674 Nq685
    refine own_go (fun _ k => st685.trans k) ?_
    show own_G p.tables e below _ (T685.setTop (mkF m 125 #[.val (.int x0), .val (.int x1), .val (.int x2), .val (.int (3 : Int32)), .val (.int (2 : Int32)), .val v285, .val v294, .val v305, .val (.ref b318), .unset] []))
    refine own_go (fun _ k => XS.aload X685.here hx rfl (hb hby at_125) rfl rfl k) ?_
    show own_G p.tables e below _ (T685.setTop (mkF m 127 #[.val (.int x0), .val (.int x1), .val (.int x2), .val (.int (3 : Int32)), .val (.int (2 : Int32)), .val v285, .val v294, .val v305, .val (.ref b318), .unset] [(.ref b318)]))
    refine own_go (fun _ k => XS.iload X685.here hx rfl (hb hby at_127) rfl k) ?_
    show own_G p.tables e below _ (T685.setTop (mkF m 129 #[.val (.int x0), .val (.int x1), .val (.int x2), .val (.int (3 : Int32)), .val (.int (2 : Int32)), .val v285, .val v294, .val v305, .val (.ref b318), .unset] [(.int (2 : Int32)), (.ref b318)]))
    obtain ⟨cq696, kq696, q696a, q696b, q696c⟩ := isOf hZ rfl G_686
    obtain ⟨_, _, ⟨T696, L696, k696, n696⟩, -, X696, ⟨Lc696, hQ696, l696, y696, z696⟩, st696⟩ := X685.virtualBack hx (y := (⟨"com/example/plainsong/plainsong/engine/CallStack", "truncate", "(I)V"⟩ : MethodName)) (z := (⟨"com/example/plainsong/plainsong/engine/CallStack", "truncate", "(I)V"⟩ : MethodName)) hown (mvT hZ (hw _ (List.mem_of_getElem? (i := 43) rfl))) (mvT hZ (hw _ (List.mem_of_getElem? (i := 44) rfl))) (notFace_of_selects (args := #[]) (mvT hZ (hw _ (List.mem_of_getElem? (i := 46) rfl)))) (mvT hZ (hw _ (List.mem_of_getElem? (i := 46) rfl))) (mvT hZ (hw _ (List.mem_of_getElem? (i := 45) rfl))) (by decide) (backOf (W := 0) (rm_tr32 l Z a0 hw [] b318 b352 k352 v285 v294 v305 T685.heap n0 Z_695 G_686 G_687 G_688 G_689 ge_319 ge_358 ne_356) hZ (hw _ (List.mem_of_getElem? (i := 47) rfl)) (hw _ (List.mem_of_getElem? (i := 12) rfl)) (by decide) (by decide)) q696a q696c (g := (mkF m 129 #[.val (.int x0), .val (.int x1), .val (.int x2), .val (.int (3 : Int32)), .val (.int (2 : Int32)), .val v285, .val v294, .val v305, .val (.ref b318), .unset] [(.int (2 : Int32)), (.ref b318)])) rfl (by rw [hml]; rfl) (Steps.refl _) (argsL := [(.int (2 : Int32))]) (rest := []) (lenOf own_pd2 rfl) rfl (by show 2 * 0 + _ ≤ _; exact Nat.le_of_eq rfl) (hb hby at_129) (fun _ _ => ⟨rfl, rfl, (by decide : 7 + 0 ≤ _), (by decide : 30 + 0 ≤ _)⟩)
    dsimp only [Pt.U, Pt.locs, Pt.cells, Pt.slots] at X696 l696 y696 z696 st696 hQ696
    subst l696 y696 z696
    obtain ⟨rfl, Nq696, K696, G_697, G_698, G_699, G_700⟩ := hQ696
    have X_701 := G_686.keep K696
    have X_702 := X_691.keep K696
    have Av_703 := own_avK Av_692 K696
    have Av_704 := own_avK Av_693 K696
    have Av_705 := own_avK Av_694 K696
    have Z_706 : n0 ≤ T696.heap.size := Nat.le_trans Z_695 K696.1
    have N_696 := Fr.app N_685 Nq696
    refine own_go (fun _ k => st696.trans k) ?_
    show own_G p.tables e below _ (T696.setTop (mkF m 132 #[.val (.int x0), .val (.int x1), .val (.int x2), .val (.int (3 : Int32)), .val (.int (2 : Int32)), .val v285, .val v294, .val v305, .val (.ref b318), .unset] []))
    refine own_go (fun _ k => XS.aload X696.here hx rfl (hb hby at_132) rfl rfl k) ?_
    show own_G p.tables e below _ (T696.setTop (mkF m 134 #[.val (.int x0), .val (.int x1), .val (.int x2), .val (.int (3 : Int32)), .val (.int (2 : Int32)), .val v285, .val v294, .val v305, .val (.ref b318), .unset] [(.ref b318)]))
    obtain ⟨T707, X707, e707, st707⟩ := own_callV X696 hx hZ (y := (⟨"com/example/plainsong/plainsong/engine/CallStack", "depth", "()I"⟩ : MethodName)) hown (hw _ (List.mem_of_getElem? (i := 50) rfl)) (hw _ (List.mem_of_getElem? (i := 51) rfl)) (hw _ (List.mem_of_getElem? (i := 53) rfl)) (hw _ (List.mem_of_getElem? (i := 52) rfl)) (hw _ (List.mem_of_getElem? (i := 12) rfl)) (hw _ (List.mem_of_getElem? (i := 54) rfl)) (by decide) (W := 0) (rm7 l Z a0 hw [] b318 (2 : Int32) T696.heap G_699) (by decide) (by decide) rfl rfl rfl G_697 (g := (mkF m 134 #[.val (.int x0), .val (.int x1), .val (.int x2), .val (.int (3 : Int32)), .val (.int (2 : Int32)), .val v285, .val v294, .val v305, .val (.ref b318), .unset] [(.ref b318)])) rfl (by rw [hml]; rfl) (argsL := []) (rest := []) (lenOf own_pd3 rfl) rfl rfl (by show 2 * 0 + _ ≤ _; exact Nat.le_of_eq rfl) (hb hby at_134) (by decide) (by decide)
    refine own_go st707 ?_
    show own_G p.tables e below _ (T707.setTop (mkF m 137 #[.val (.int x0), .val (.int x1), .val (.int x2), .val (.int (3 : Int32)), .val (.int (2 : Int32)), .val v285, .val v294, .val v305, .val (.ref b318), .unset] [(.int (2 : Int32))]))
    refine own_go (fun _ k => XS.iload X707.here hx rfl (hb hby at_137) rfl k) ?_
    show own_G p.tables e below _ (T707.setTop (mkF m 139 #[.val (.int x0), .val (.int x1), .val (.int x2), .val (.int (3 : Int32)), .val (.int (2 : Int32)), .val v285, .val v294, .val v305, .val (.ref b318), .unset] [(.int (2 : Int32)), (.int (2 : Int32))]))
    refine own_go (fun _ k => XS.icmpNo X707.here hx rfl (hb hby at_139) rfl ((teq (by decide : (2 : Int32) = (2 : Int32))).2) k) ?_
    show own_G p.tables e below _ (T707.setTop (mkF m 142 #[.val (.int x0), .val (.int x1), .val (.int x2), .val (.int (3 : Int32)), .val (.int (2 : Int32)), .val v285, .val v294, .val v305, .val (.ref b318), .unset] []))
    refine own_go (fun _ k => XS.iconst X707.here hx rfl (hb hby at_142) k) ?_
    show own_G p.tables e below _ (T707.setTop (mkF m 143 #[.val (.int x0), .val (.int x1), .val (.int x2), .val (.int (3 : Int32)), .val (.int (2 : Int32)), .val v285, .val v294, .val v305, .val (.ref b318), .unset] [(.int (1 : Int32))]))
    refine own_go (fun _ k => XS.goto X707.here hx rfl (pc0 := 143) (pc' := 147) rfl (hb hby at_143) (by decide) (by decide) k) ?_
    show own_G p.tables e below _ (T707.setTop (mkF m 147 #[.val (.int x0), .val (.int x1), .val (.int x2), .val (.int (3 : Int32)), .val (.int (2 : Int32)), .val v285, .val v294, .val v305, .val (.ref b318), .unset] [(.int (1 : Int32))]))
    refine own_go (fun _ k => XS.istore X707.here hx rfl (hb hby at_147) rfl (l' := #[.val (.int x0), .val (.int x1), .val (.int x2), .val (.int (3 : Int32)), .val (.int (2 : Int32)), .val v285, .val v294, .val v305, .val (.ref b318), .val (.int (1 : Int32))]) rfl k) ?_
    show own_G p.tables e below _ (T707.setTop (mkF m 149 #[.val (.int x0), .val (.int x1), .val (.int x2), .val (.int (3 : Int32)), .val (.int (2 : Int32)), .val v285, .val v294, .val v305, .val (.ref b318), .val (.int (1 : Int32))] []))
    refine own_go (fun _ k => XS.iload X707.here hx rfl (hb hby at_149) rfl k) ?_
    show own_G p.tables e below _ (T707.setTop (mkF m 151 #[.val (.int x0), .val (.int x1), .val (.int x2), .val (.int (3 : Int32)), .val (.int (2 : Int32)), .val v285, .val v294, .val v305, .val (.ref b318), .val (.int (1 : Int32))] [(.int (1 : Int32))]))
    refine own_go (fun _ k => XS.ifNo X707.here hx rfl (hb hby at_151) rfl (((if0 _ _).trans (feq (by decide : ¬ ((1 : Int32) = (0 : Int32)))).1)) k) ?_
    show own_G p.tables e below _ (T707.setTop (mkF m 154 #[.val (.int x0), .val (.int x1), .val (.int x2), .val (.int (3 : Int32)), .val (.int (2 : Int32)), .val v285, .val v294, .val v305, .val (.ref b318), .val (.int (1 : Int32))] []))
    refine own_go (fun _ k => XS.aload X707.here hx rfl (hb hby at_154) rfl rfl k) ?_
    show own_G p.tables e below _ (T707.setTop (mkF m 156 #[.val (.int x0), .val (.int x1), .val (.int x2), .val (.int (3 : Int32)), .val (.int (2 : Int32)), .val v285, .val v294, .val v305, .val (.ref b318), .val (.int (1 : Int32))] [(.ref b318)]))
    refine own_go (fun _ k => XS.iconst X707.here hx rfl (hb hby at_156) k) ?_
    show own_G p.tables e below _ (T707.setTop (mkF m 157 #[.val (.int x0), .val (.int x1), .val (.int x2), .val (.int (3 : Int32)), .val (.int (2 : Int32)), .val v285, .val v294, .val v305, .val (.ref b318), .val (.int (1 : Int32))] [(.int (0 : Int32)), (.ref b318)]))
    obtain ⟨T708, X708, e708, st708⟩ := own_callV X707 hx hZ (y := (⟨"com/example/plainsong/plainsong/engine/CallStack", "entry", "(I)Lcom/example/plainsong/plainsong/engine/CallStack$Activation;"⟩ : MethodName)) hown (hw _ (List.mem_of_getElem? (i := 55) rfl)) (hw _ (List.mem_of_getElem? (i := 56) rfl)) (hw _ (List.mem_of_getElem? (i := 58) rfl)) (hw _ (List.mem_of_getElem? (i := 57) rfl)) (hw _ (List.mem_of_getElem? (i := 12) rfl)) (hw _ (List.mem_of_getElem? (i := 59) rfl)) (by decide) (W := 0) (rm_ent0 l Z a0 hw [] b318 b352 k352 v285 v294 .null T696.heap G_698 G_700 hr285) (by decide) (by decide) rfl rfl e707 G_697 (g := (mkF m 157 #[.val (.int x0), .val (.int x1), .val (.int x2), .val (.int (3 : Int32)), .val (.int (2 : Int32)), .val v285, .val v294, .val v305, .val (.ref b318), .val (.int (1 : Int32))] [(.int (0 : Int32)), (.ref b318)])) rfl (by rw [hml]; rfl) (argsL := [(.int (0 : Int32))]) (rest := []) (lenOf own_pd4 rfl) rfl rfl (by show 2 * 0 + _ ≤ _; exact Nat.le_of_eq rfl) (hb hby at_157) (by decide) (by decide)
    refine own_go st708 ?_
    show own_G p.tables e below _ (T708.setTop (mkF m 160 #[.val (.int x0), .val (.int x1), .val (.int x2), .val (.int (3 : Int32)), .val (.int (2 : Int32)), .val v285, .val v294, .val v305, .val (.ref b318), .val (.int (1 : Int32))] [v285]))
    refine own_go (fun _ k => XS.iconst X708.here hx rfl (hb hby at_160) k) ?_
    show own_G p.tables e below _ (T708.setTop (mkF m 161 #[.val (.int x0), .val (.int x1), .val (.int x2), .val (.int (3 : Int32)), .val (.int (2 : Int32)), .val v285, .val v294, .val v305, .val (.ref b318), .val (.int (1 : Int32))] [(.int (0 : Int32)), v285]))
    refine own_go (fun _ k => XS.iload X708.here hx rfl (hb hby at_161) rfl k) ?_
    show own_G p.tables e below _ (T708.setTop (mkF m 163 #[.val (.int x0), .val (.int x1), .val (.int x2), .val (.int (3 : Int32)), .val (.int (2 : Int32)), .val v285, .val v294, .val v305, .val (.ref b318), .val (.int (1 : Int32))] [(.int (2 : Int32)), (.int (0 : Int32)), v285]))
    refine own_go (fun _ k => XS.aload X708.here hx rfl (hb hby at_163) rfl hr285 k) ?_
    show own_G p.tables e below _ (T708.setTop (mkF m 165 #[.val (.int x0), .val (.int x1), .val (.int x2), .val (.int (3 : Int32)), .val (.int (2 : Int32)), .val v285, .val v294, .val v305, .val (.ref b318), .val (.int (1 : Int32))] [v285, (.int (2 : Int32)), (.int (0 : Int32)), v285]))
    obtain ⟨T709, X709, e709, st709⟩ := own_callP X708 hx hZ (y := (⟨"com/example/plainsong/plainsong/engine/CallStackTruncatePinLaw", "expected", "(IILcom/example/plainsong/plainsong/engine/CallStack$Activation;)Lcom/example/plainsong/plainsong/engine/CallStack$Activation;"⟩ : MethodName)) hown (hw _ (List.mem_of_getElem? (i := 60) rfl)) (hw _ (List.mem_of_getElem? (i := 61) rfl)) (hw _ (List.mem_of_getElem? (i := 3) rfl)) (hw _ (List.mem_of_getElem? (i := 62) rfl)) (by decide) (W := 1) (rm_explt l Z a0 hw [] (0 : Int32) (2 : Int32) v285  T696.heap hr285 (by decide)) (by decide) (by decide) rfl rfl e708 (g := (mkF m 165 #[.val (.int x0), .val (.int x1), .val (.int x2), .val (.int (3 : Int32)), .val (.int (2 : Int32)), .val v285, .val v294, .val v305, .val (.ref b318), .val (.int (1 : Int32))] [v285, (.int (2 : Int32)), (.int (0 : Int32)), v285])) rfl (by rw [hml]; rfl) (argsL := [(.int (0 : Int32)), (.int (2 : Int32)), v285]) (rest := [v285]) (lenOf own_pd5 rfl) rfl rfl (own_w1 hr285) (hb hby at_165) (by decide) (by decide)
    refine own_go st709 ?_
    show own_G p.tables e below _ (T709.setTop (mkF m 168 #[.val (.int x0), .val (.int x1), .val (.int x2), .val (.int (3 : Int32)), .val (.int (2 : Int32)), .val v285, .val v294, .val v305, .val (.ref b318), .val (.int (1 : Int32))] [v285, v285]))
    refine own_go (fun _ k => Jvm.RoadKit.acmp (g := (mkF m 168 #[.val (.int x0), .val (.int x1), .val (.int x2), .val (.int (3 : Int32)), .val (.int (2 : Int32)), .val v285, .val v294, .val v305, .val (.ref b318), .val (.int (1 : Int32))] [v285, v285])) X709 hx rfl hr285 hr285 (pc0 := 168) (pc' := 171) (same := true) rfl (hb hby at_168) rfl (decide_eq_true rfl) (by decide) (by decide) k) ?_
    show own_G p.tables e below _ (T709.setTop (mkF m 171 #[.val (.int x0), .val (.int x1), .val (.int x2), .val (.int (3 : Int32)), .val (.int (2 : Int32)), .val v285, .val v294, .val v305, .val (.ref b318), .val (.int (1 : Int32))] []))
    refine own_go (fun _ k => XS.iconst X709.here hx rfl (hb hby at_171) k) ?_
    show own_G p.tables e below _ (T709.setTop (mkF m 172 #[.val (.int x0), .val (.int x1), .val (.int x2), .val (.int (3 : Int32)), .val (.int (2 : Int32)), .val v285, .val v294, .val v305, .val (.ref b318), .val (.int (1 : Int32))] [(.int (1 : Int32))]))
    refine own_go (fun _ k => XS.goto X709.here hx rfl (pc0 := 172) (pc' := 176) rfl (hb hby at_172) (by decide) (by decide) k) ?_
    show own_G p.tables e below _ (T709.setTop (mkF m 176 #[.val (.int x0), .val (.int x1), .val (.int x2), .val (.int (3 : Int32)), .val (.int (2 : Int32)), .val v285, .val v294, .val v305, .val (.ref b318), .val (.int (1 : Int32))] [(.int (1 : Int32))]))
    refine own_go (fun _ k => XS.istore X709.here hx rfl (hb hby at_176) rfl (l' := #[.val (.int x0), .val (.int x1), .val (.int x2), .val (.int (3 : Int32)), .val (.int (2 : Int32)), .val v285, .val v294, .val v305, .val (.ref b318), .val (.int (1 : Int32))]) rfl k) ?_
    show own_G p.tables e below _ (T709.setTop (mkF m 178 #[.val (.int x0), .val (.int x1), .val (.int x2), .val (.int (3 : Int32)), .val (.int (2 : Int32)), .val v285, .val v294, .val v305, .val (.ref b318), .val (.int (1 : Int32))] []))
    refine own_go (fun _ k => XS.iload X709.here hx rfl (hb hby at_178) rfl k) ?_
    show own_G p.tables e below _ (T709.setTop (mkF m 180 #[.val (.int x0), .val (.int x1), .val (.int x2), .val (.int (3 : Int32)), .val (.int (2 : Int32)), .val v285, .val v294, .val v305, .val (.ref b318), .val (.int (1 : Int32))] [(.int (1 : Int32))]))
    refine own_go (fun _ k => XS.ifNo X709.here hx rfl (hb hby at_180) rfl (((if0 _ _).trans (feq (by decide : ¬ ((1 : Int32) = (0 : Int32)))).1)) k) ?_
    show own_G p.tables e below _ (T709.setTop (mkF m 183 #[.val (.int x0), .val (.int x1), .val (.int x2), .val (.int (3 : Int32)), .val (.int (2 : Int32)), .val v285, .val v294, .val v305, .val (.ref b318), .val (.int (1 : Int32))] []))
    refine own_go (fun _ k => XS.aload X709.here hx rfl (hb hby at_183) rfl rfl k) ?_
    show own_G p.tables e below _ (T709.setTop (mkF m 185 #[.val (.int x0), .val (.int x1), .val (.int x2), .val (.int (3 : Int32)), .val (.int (2 : Int32)), .val v285, .val v294, .val v305, .val (.ref b318), .val (.int (1 : Int32))] [(.ref b318)]))
    refine own_go (fun _ k => XS.iconst X709.here hx rfl (hb hby at_185) k) ?_
    show own_G p.tables e below _ (T709.setTop (mkF m 186 #[.val (.int x0), .val (.int x1), .val (.int x2), .val (.int (3 : Int32)), .val (.int (2 : Int32)), .val v285, .val v294, .val v305, .val (.ref b318), .val (.int (1 : Int32))] [(.int (1 : Int32)), (.ref b318)]))
    obtain ⟨T710, X710, e710, st710⟩ := own_callV X709 hx hZ (y := (⟨"com/example/plainsong/plainsong/engine/CallStack", "entry", "(I)Lcom/example/plainsong/plainsong/engine/CallStack$Activation;"⟩ : MethodName)) hown (hw _ (List.mem_of_getElem? (i := 55) rfl)) (hw _ (List.mem_of_getElem? (i := 56) rfl)) (hw _ (List.mem_of_getElem? (i := 58) rfl)) (hw _ (List.mem_of_getElem? (i := 57) rfl)) (hw _ (List.mem_of_getElem? (i := 12) rfl)) (hw _ (List.mem_of_getElem? (i := 59) rfl)) (by decide) (W := 0) (rm_ent1 l Z a0 hw [] b318 b352 k352 v285 v294 .null T696.heap G_698 G_700 hr294) (by decide) (by decide) rfl rfl e709 G_697 (g := (mkF m 186 #[.val (.int x0), .val (.int x1), .val (.int x2), .val (.int (3 : Int32)), .val (.int (2 : Int32)), .val v285, .val v294, .val v305, .val (.ref b318), .val (.int (1 : Int32))] [(.int (1 : Int32)), (.ref b318)])) rfl (by rw [hml]; rfl) (argsL := [(.int (1 : Int32))]) (rest := []) (lenOf own_pd4 rfl) rfl rfl (by show 2 * 0 + _ ≤ _; exact Nat.le_of_eq rfl) (hb hby at_186) (by decide) (by decide)
    refine own_go st710 ?_
    show own_G p.tables e below _ (T710.setTop (mkF m 189 #[.val (.int x0), .val (.int x1), .val (.int x2), .val (.int (3 : Int32)), .val (.int (2 : Int32)), .val v285, .val v294, .val v305, .val (.ref b318), .val (.int (1 : Int32))] [v294]))
    refine own_go (fun _ k => XS.iconst X710.here hx rfl (hb hby at_189) k) ?_
    show own_G p.tables e below _ (T710.setTop (mkF m 190 #[.val (.int x0), .val (.int x1), .val (.int x2), .val (.int (3 : Int32)), .val (.int (2 : Int32)), .val v285, .val v294, .val v305, .val (.ref b318), .val (.int (1 : Int32))] [(.int (1 : Int32)), v294]))
    refine own_go (fun _ k => XS.iload X710.here hx rfl (hb hby at_190) rfl k) ?_
    show own_G p.tables e below _ (T710.setTop (mkF m 192 #[.val (.int x0), .val (.int x1), .val (.int x2), .val (.int (3 : Int32)), .val (.int (2 : Int32)), .val v285, .val v294, .val v305, .val (.ref b318), .val (.int (1 : Int32))] [(.int (2 : Int32)), (.int (1 : Int32)), v294]))
    refine own_go (fun _ k => XS.aload X710.here hx rfl (hb hby at_192) rfl hr294 k) ?_
    show own_G p.tables e below _ (T710.setTop (mkF m 194 #[.val (.int x0), .val (.int x1), .val (.int x2), .val (.int (3 : Int32)), .val (.int (2 : Int32)), .val v285, .val v294, .val v305, .val (.ref b318), .val (.int (1 : Int32))] [v294, (.int (2 : Int32)), (.int (1 : Int32)), v294]))
    obtain ⟨T711, X711, e711, st711⟩ := own_callP X710 hx hZ (y := (⟨"com/example/plainsong/plainsong/engine/CallStackTruncatePinLaw", "expected", "(IILcom/example/plainsong/plainsong/engine/CallStack$Activation;)Lcom/example/plainsong/plainsong/engine/CallStack$Activation;"⟩ : MethodName)) hown (hw _ (List.mem_of_getElem? (i := 60) rfl)) (hw _ (List.mem_of_getElem? (i := 61) rfl)) (hw _ (List.mem_of_getElem? (i := 3) rfl)) (hw _ (List.mem_of_getElem? (i := 62) rfl)) (by decide) (W := 1) (rm_explt l Z a0 hw [] (1 : Int32) (2 : Int32) v294  T696.heap hr294 (by decide)) (by decide) (by decide) rfl rfl e710 (g := (mkF m 194 #[.val (.int x0), .val (.int x1), .val (.int x2), .val (.int (3 : Int32)), .val (.int (2 : Int32)), .val v285, .val v294, .val v305, .val (.ref b318), .val (.int (1 : Int32))] [v294, (.int (2 : Int32)), (.int (1 : Int32)), v294])) rfl (by rw [hml]; rfl) (argsL := [(.int (1 : Int32)), (.int (2 : Int32)), v294]) (rest := [v294]) (lenOf own_pd5 rfl) rfl rfl (own_w1 hr294) (hb hby at_194) (by decide) (by decide)
    refine own_go st711 ?_
    show own_G p.tables e below _ (T711.setTop (mkF m 197 #[.val (.int x0), .val (.int x1), .val (.int x2), .val (.int (3 : Int32)), .val (.int (2 : Int32)), .val v285, .val v294, .val v305, .val (.ref b318), .val (.int (1 : Int32))] [v294, v294]))
    refine own_go (fun _ k => Jvm.RoadKit.acmp (g := (mkF m 197 #[.val (.int x0), .val (.int x1), .val (.int x2), .val (.int (3 : Int32)), .val (.int (2 : Int32)), .val v285, .val v294, .val v305, .val (.ref b318), .val (.int (1 : Int32))] [v294, v294])) X711 hx rfl hr294 hr294 (pc0 := 197) (pc' := 200) (same := true) rfl (hb hby at_197) rfl (decide_eq_true rfl) (by decide) (by decide) k) ?_
    show own_G p.tables e below _ (T711.setTop (mkF m 200 #[.val (.int x0), .val (.int x1), .val (.int x2), .val (.int (3 : Int32)), .val (.int (2 : Int32)), .val v285, .val v294, .val v305, .val (.ref b318), .val (.int (1 : Int32))] []))
    refine own_go (fun _ k => XS.iconst X711.here hx rfl (hb hby at_200) k) ?_
    show own_G p.tables e below _ (T711.setTop (mkF m 201 #[.val (.int x0), .val (.int x1), .val (.int x2), .val (.int (3 : Int32)), .val (.int (2 : Int32)), .val v285, .val v294, .val v305, .val (.ref b318), .val (.int (1 : Int32))] [(.int (1 : Int32))]))
    refine own_go (fun _ k => XS.goto X711.here hx rfl (pc0 := 201) (pc' := 205) rfl (hb hby at_201) (by decide) (by decide) k) ?_
    show own_G p.tables e below _ (T711.setTop (mkF m 205 #[.val (.int x0), .val (.int x1), .val (.int x2), .val (.int (3 : Int32)), .val (.int (2 : Int32)), .val v285, .val v294, .val v305, .val (.ref b318), .val (.int (1 : Int32))] [(.int (1 : Int32))]))
    refine own_go (fun _ k => XS.istore X711.here hx rfl (hb hby at_205) rfl (l' := #[.val (.int x0), .val (.int x1), .val (.int x2), .val (.int (3 : Int32)), .val (.int (2 : Int32)), .val v285, .val v294, .val v305, .val (.ref b318), .val (.int (1 : Int32))]) rfl k) ?_
    show own_G p.tables e below _ (T711.setTop (mkF m 207 #[.val (.int x0), .val (.int x1), .val (.int x2), .val (.int (3 : Int32)), .val (.int (2 : Int32)), .val v285, .val v294, .val v305, .val (.ref b318), .val (.int (1 : Int32))] []))
    refine own_go (fun _ k => XS.iload X711.here hx rfl (hb hby at_207) rfl k) ?_
    show own_G p.tables e below _ (T711.setTop (mkF m 209 #[.val (.int x0), .val (.int x1), .val (.int x2), .val (.int (3 : Int32)), .val (.int (2 : Int32)), .val v285, .val v294, .val v305, .val (.ref b318), .val (.int (1 : Int32))] [(.int (1 : Int32))]))
    refine own_go (fun _ k => XS.ifNo X711.here hx rfl (hb hby at_209) rfl (((if0 _ _).trans (feq (by decide : ¬ ((1 : Int32) = (0 : Int32)))).1)) k) ?_
    show own_G p.tables e below _ (T711.setTop (mkF m 212 #[.val (.int x0), .val (.int x1), .val (.int x2), .val (.int (3 : Int32)), .val (.int (2 : Int32)), .val v285, .val v294, .val v305, .val (.ref b318), .val (.int (1 : Int32))] []))
    refine own_go (fun _ k => XS.aload X711.here hx rfl (hb hby at_212) rfl rfl k) ?_
    show own_G p.tables e below _ (T711.setTop (mkF m 214 #[.val (.int x0), .val (.int x1), .val (.int x2), .val (.int (3 : Int32)), .val (.int (2 : Int32)), .val v285, .val v294, .val v305, .val (.ref b318), .val (.int (1 : Int32))] [(.ref b318)]))
    refine own_go (fun _ k => XS.iconst X711.here hx rfl (hb hby at_214) k) ?_
    show own_G p.tables e below _ (T711.setTop (mkF m 215 #[.val (.int x0), .val (.int x1), .val (.int x2), .val (.int (3 : Int32)), .val (.int (2 : Int32)), .val v285, .val v294, .val v305, .val (.ref b318), .val (.int (1 : Int32))] [(.int (2 : Int32)), (.ref b318)]))
    obtain ⟨T712, X712, e712, st712⟩ := own_callV X711 hx hZ (y := (⟨"com/example/plainsong/plainsong/engine/CallStack", "entry", "(I)Lcom/example/plainsong/plainsong/engine/CallStack$Activation;"⟩ : MethodName)) hown (hw _ (List.mem_of_getElem? (i := 55) rfl)) (hw _ (List.mem_of_getElem? (i := 56) rfl)) (hw _ (List.mem_of_getElem? (i := 58) rfl)) (hw _ (List.mem_of_getElem? (i := 57) rfl)) (hw _ (List.mem_of_getElem? (i := 12) rfl)) (hw _ (List.mem_of_getElem? (i := 59) rfl)) (by decide) (W := 0) (rm_ent2 l Z a0 hw [] b318 b352 k352 v285 v294 .null T696.heap G_698 G_700 rfl) (by decide) (by decide) rfl rfl e711 G_697 (g := (mkF m 215 #[.val (.int x0), .val (.int x1), .val (.int x2), .val (.int (3 : Int32)), .val (.int (2 : Int32)), .val v285, .val v294, .val v305, .val (.ref b318), .val (.int (1 : Int32))] [(.int (2 : Int32)), (.ref b318)])) rfl (by rw [hml]; rfl) (argsL := [(.int (2 : Int32))]) (rest := []) (lenOf own_pd4 rfl) rfl rfl (by show 2 * 0 + _ ≤ _; exact Nat.le_of_eq rfl) (hb hby at_215) (by decide) (by decide)
    refine own_go st712 ?_
    show own_G p.tables e below _ (T712.setTop (mkF m 218 #[.val (.int x0), .val (.int x1), .val (.int x2), .val (.int (3 : Int32)), .val (.int (2 : Int32)), .val v285, .val v294, .val v305, .val (.ref b318), .val (.int (1 : Int32))] [.null]))
    refine own_go (fun _ k => XS.iconst X712.here hx rfl (hb hby at_218) k) ?_
    show own_G p.tables e below _ (T712.setTop (mkF m 219 #[.val (.int x0), .val (.int x1), .val (.int x2), .val (.int (3 : Int32)), .val (.int (2 : Int32)), .val v285, .val v294, .val v305, .val (.ref b318), .val (.int (1 : Int32))] [(.int (2 : Int32)), .null]))
    refine own_go (fun _ k => XS.iload X712.here hx rfl (hb hby at_219) rfl k) ?_
    show own_G p.tables e below _ (T712.setTop (mkF m 221 #[.val (.int x0), .val (.int x1), .val (.int x2), .val (.int (3 : Int32)), .val (.int (2 : Int32)), .val v285, .val v294, .val v305, .val (.ref b318), .val (.int (1 : Int32))] [(.int (2 : Int32)), (.int (2 : Int32)), .null]))
    refine own_go (fun _ k => XS.aload X712.here hx rfl (hb hby at_221) rfl hr305 k) ?_
    show own_G p.tables e below _ (T712.setTop (mkF m 223 #[.val (.int x0), .val (.int x1), .val (.int x2), .val (.int (3 : Int32)), .val (.int (2 : Int32)), .val v285, .val v294, .val v305, .val (.ref b318), .val (.int (1 : Int32))] [v305, (.int (2 : Int32)), (.int (2 : Int32)), .null]))
    obtain ⟨T713, X713, e713, st713⟩ := own_callP X712 hx hZ (y := (⟨"com/example/plainsong/plainsong/engine/CallStackTruncatePinLaw", "expected", "(IILcom/example/plainsong/plainsong/engine/CallStack$Activation;)Lcom/example/plainsong/plainsong/engine/CallStack$Activation;"⟩ : MethodName)) hown (hw _ (List.mem_of_getElem? (i := 60) rfl)) (hw _ (List.mem_of_getElem? (i := 61) rfl)) (hw _ (List.mem_of_getElem? (i := 3) rfl)) (hw _ (List.mem_of_getElem? (i := 62) rfl)) (by decide) (W := 1) (rm_expge l Z a0 hw [] (2 : Int32) (2 : Int32) v305  T696.heap hr305 (by decide)) (by decide) (by decide) rfl rfl e712 (g := (mkF m 223 #[.val (.int x0), .val (.int x1), .val (.int x2), .val (.int (3 : Int32)), .val (.int (2 : Int32)), .val v285, .val v294, .val v305, .val (.ref b318), .val (.int (1 : Int32))] [v305, (.int (2 : Int32)), (.int (2 : Int32)), .null])) rfl (by rw [hml]; rfl) (argsL := [(.int (2 : Int32)), (.int (2 : Int32)), v305]) (rest := [.null]) (lenOf own_pd5 rfl) rfl rfl (by show 2 * 0 + _ ≤ _; exact Nat.le_of_eq rfl) (hb hby at_223) (by decide) (by decide)
    refine own_go st713 ?_
    show own_G p.tables e below _ (T713.setTop (mkF m 226 #[.val (.int x0), .val (.int x1), .val (.int x2), .val (.int (3 : Int32)), .val (.int (2 : Int32)), .val v285, .val v294, .val v305, .val (.ref b318), .val (.int (1 : Int32))] [.null, .null]))
    refine own_go (fun _ k => Jvm.RoadKit.acmp (g := (mkF m 226 #[.val (.int x0), .val (.int x1), .val (.int x2), .val (.int (3 : Int32)), .val (.int (2 : Int32)), .val v285, .val v294, .val v305, .val (.ref b318), .val (.int (1 : Int32))] [.null, .null])) X713 hx rfl rfl rfl (pc0 := 226) (pc' := 229) (same := true) rfl (hb hby at_226) rfl (decide_eq_true rfl) (by decide) (by decide) k) ?_
    show own_G p.tables e below _ (T713.setTop (mkF m 229 #[.val (.int x0), .val (.int x1), .val (.int x2), .val (.int (3 : Int32)), .val (.int (2 : Int32)), .val v285, .val v294, .val v305, .val (.ref b318), .val (.int (1 : Int32))] []))
    refine own_go (fun _ k => XS.iconst X713.here hx rfl (hb hby at_229) k) ?_
    show own_G p.tables e below _ (T713.setTop (mkF m 230 #[.val (.int x0), .val (.int x1), .val (.int x2), .val (.int (3 : Int32)), .val (.int (2 : Int32)), .val v285, .val v294, .val v305, .val (.ref b318), .val (.int (1 : Int32))] [(.int (1 : Int32))]))
    refine own_go (fun _ k => XS.goto X713.here hx rfl (pc0 := 230) (pc' := 234) rfl (hb hby at_230) (by decide) (by decide) k) ?_
    show own_G p.tables e below _ (T713.setTop (mkF m 234 #[.val (.int x0), .val (.int x1), .val (.int x2), .val (.int (3 : Int32)), .val (.int (2 : Int32)), .val v285, .val v294, .val v305, .val (.ref b318), .val (.int (1 : Int32))] [(.int (1 : Int32))]))
    refine own_go (fun _ k => XS.istore X713.here hx rfl (hb hby at_234) rfl (l' := #[.val (.int x0), .val (.int x1), .val (.int x2), .val (.int (3 : Int32)), .val (.int (2 : Int32)), .val v285, .val v294, .val v305, .val (.ref b318), .val (.int (1 : Int32))]) rfl k) ?_
    show own_G p.tables e below _ (T713.setTop (mkF m 236 #[.val (.int x0), .val (.int x1), .val (.int x2), .val (.int (3 : Int32)), .val (.int (2 : Int32)), .val v285, .val v294, .val v305, .val (.ref b318), .val (.int (1 : Int32))] []))
    refine own_go (fun _ k => XS.iload X713.here hx rfl (hb hby at_236) rfl k) ?_
    show own_G p.tables e below _ (T713.setTop (mkF m 238 #[.val (.int x0), .val (.int x1), .val (.int x2), .val (.int (3 : Int32)), .val (.int (2 : Int32)), .val v285, .val v294, .val v305, .val (.ref b318), .val (.int (1 : Int32))] [(.int (1 : Int32))]))
    exact own_end X713 Bd.notSynchronized (v := some (.int (nar .boolean (1 : Int32)))) (fun h => by rw [Bd.returns] at h; cases h) (Q := QL (some (.int (1 : Int32))) n0) ⟨rfl, N_696⟩ (fun fs hr => retN X713 hx (t := .boolean) Bd.returns (by simp) (hb hby at_238) hr) (by decide) (by decide)
  · rw [hn, hk]
    show own_G p.tables e below _ (T352.setTop (mkF m 90 #[.val (.int x0), .val (.int x1), .val (.int x2), .val (.int (3 : Int32)), .val (.int (3 : Int32)), .val v285, .val v294, .val v305, .val (.ref b318), .unset] []))
    refine own_go (fun _ k => XS.iloadN X352.here hx rfl (hb hby at_90) rfl k) ?_
    show own_G p.tables e below _ (T352.setTop (mkF m 91 #[.val (.int x0), .val (.int x1), .val (.int x2), .val (.int (3 : Int32)), .val (.int (3 : Int32)), .val v285, .val v294, .val v305, .val (.ref b318), .unset] [(.int (3 : Int32))]))
    refine own_go (fun _ k => XS.ifNo X352.here hx rfl (hb hby at_91) rfl (((if0 _ _).trans (tlt (by decide : (0 : Int32) < (3 : Int32))).2.2.2)) k) ?_
    show own_G p.tables e below _ (T352.setTop (mkF m 94 #[.val (.int x0), .val (.int x1), .val (.int x2), .val (.int (3 : Int32)), .val (.int (3 : Int32)), .val v285, .val v294, .val v305, .val (.ref b318), .unset] []))
    refine own_go (fun _ k => XS.aload X352.here hx rfl (hb hby at_94) rfl rfl k) ?_
    show own_G p.tables e below _ (T352.setTop (mkF m 96 #[.val (.int x0), .val (.int x1), .val (.int x2), .val (.int (3 : Int32)), .val (.int (3 : Int32)), .val v285, .val v294, .val v305, .val (.ref b318), .unset] [(.ref b318)]))
    refine own_go (fun _ k => XS.aload X352.here hx rfl (hb hby at_96) rfl hr285 k) ?_
    show own_G p.tables e below _ (T352.setTop (mkF m 98 #[.val (.int x0), .val (.int x1), .val (.int x2), .val (.int (3 : Int32)), .val (.int (3 : Int32)), .val v285, .val v294, .val v305, .val (.ref b318), .unset] [v285, (.ref b318)]))
    obtain ⟨cq714, kq714, q714a, q714b, q714c⟩ := isOf hZ rfl G_353
    obtain ⟨_, _, ⟨T714, L714, k714, n714⟩, -, X714, ⟨Lc714, hQ714, l714, y714, z714⟩, st714⟩ := X352.virtualBack hx (y := (⟨"com/example/plainsong/plainsong/engine/CallStack", "push", "(Lcom/example/plainsong/plainsong/engine/CallStack$Activation;)V"⟩ : MethodName)) (z := (⟨"com/example/plainsong/plainsong/engine/CallStack", "push", "(Lcom/example/plainsong/plainsong/engine/CallStack$Activation;)V"⟩ : MethodName)) hown (mvT hZ (hw _ (List.mem_of_getElem? (i := 63) rfl))) (mvT hZ (hw _ (List.mem_of_getElem? (i := 64) rfl))) (notFace_of_selects (args := #[]) (mvT hZ (hw _ (List.mem_of_getElem? (i := 66) rfl)))) (mvT hZ (hw _ (List.mem_of_getElem? (i := 66) rfl))) (mvT hZ (hw _ (List.mem_of_getElem? (i := 65) rfl))) (by decide) (backOf (W := 0) (rm_push0 l Z a0 hw [] b318 v285 b352 k352 .null .null .null T352.heap n0 Z_364 G_353 G_354 G_355 V352 ge_319 ge_358 ne_356 hr285 O352 Av_361) hZ (hw _ (List.mem_of_getElem? (i := 67) rfl)) (hw _ (List.mem_of_getElem? (i := 12) rfl)) (by decide) (by decide)) q714a q714c (g := (mkF m 98 #[.val (.int x0), .val (.int x1), .val (.int x2), .val (.int (3 : Int32)), .val (.int (3 : Int32)), .val v285, .val v294, .val v305, .val (.ref b318), .unset] [v285, (.ref b318)])) rfl (by rw [hml]; rfl) (Steps.refl _) (argsL := [v285]) (rest := []) (lenOf own_pd6 rfl) rfl (by show 2 * 0 + _ ≤ _; exact Nat.le_of_eq rfl) (hb hby at_98) (fun _ _ => ⟨rfl, rfl, (by decide : 7 + 0 ≤ _), (by decide : 30 + 0 ≤ _)⟩)
    dsimp only [Pt.U, Pt.locs, Pt.cells, Pt.slots] at X714 l714 y714 z714 st714 hQ714
    subst l714 y714 z714
    obtain ⟨rfl, Nq714, K714, G_715, G_716, G_717, G_718⟩ := hQ714
    have X_719 := G_353.keep K714
    have X_720 := X_360.keep K714
    have Av_721 := own_avK Av_361 K714
    have Av_722 := own_avK Av_362 K714
    have Av_723 := own_avK Av_363 K714
    have Z_724 : n0 ≤ T714.heap.size := Nat.le_trans Z_364 K714.1
    have N_714 := Fr.app N_352 Nq714
    refine own_go (fun _ k => st714.trans k) ?_
    show own_G p.tables e below _ (T714.setTop (mkF m 101 #[.val (.int x0), .val (.int x1), .val (.int x2), .val (.int (3 : Int32)), .val (.int (3 : Int32)), .val v285, .val v294, .val v305, .val (.ref b318), .unset] []))
    refine own_go (fun _ k => XS.iloadN X714.here hx rfl (hb hby at_101) rfl k) ?_
    show own_G p.tables e below _ (T714.setTop (mkF m 102 #[.val (.int x0), .val (.int x1), .val (.int x2), .val (.int (3 : Int32)), .val (.int (3 : Int32)), .val v285, .val v294, .val v305, .val (.ref b318), .unset] [(.int (3 : Int32))]))
    refine own_go (fun _ k => XS.iconst X714.here hx rfl (hb hby at_102) k) ?_
    show own_G p.tables e below _ (T714.setTop (mkF m 103 #[.val (.int x0), .val (.int x1), .val (.int x2), .val (.int (3 : Int32)), .val (.int (3 : Int32)), .val v285, .val v294, .val v305, .val (.ref b318), .unset] [(.int (1 : Int32)), (.int (3 : Int32))]))
    refine own_go (fun _ k => XS.icmpNo X714.here hx rfl (hb hby at_103) rfl ((tlt (by decide : (1 : Int32) < (3 : Int32))).2.2.2) k) ?_
    show own_G p.tables e below _ (T714.setTop (mkF m 106 #[.val (.int x0), .val (.int x1), .val (.int x2), .val (.int (3 : Int32)), .val (.int (3 : Int32)), .val v285, .val v294, .val v305, .val (.ref b318), .unset] []))
    refine own_go (fun _ k => XS.aload X714.here hx rfl (hb hby at_106) rfl rfl k) ?_
    show own_G p.tables e below _ (T714.setTop (mkF m 108 #[.val (.int x0), .val (.int x1), .val (.int x2), .val (.int (3 : Int32)), .val (.int (3 : Int32)), .val v285, .val v294, .val v305, .val (.ref b318), .unset] [(.ref b318)]))
    refine own_go (fun _ k => XS.aload X714.here hx rfl (hb hby at_108) rfl hr294 k) ?_
    show own_G p.tables e below _ (T714.setTop (mkF m 110 #[.val (.int x0), .val (.int x1), .val (.int x2), .val (.int (3 : Int32)), .val (.int (3 : Int32)), .val v285, .val v294, .val v305, .val (.ref b318), .unset] [v294, (.ref b318)]))
    obtain ⟨cq725, kq725, q725a, q725b, q725c⟩ := isOf hZ rfl G_715
    obtain ⟨_, _, ⟨T725, L725, k725, n725⟩, -, X725, ⟨Lc725, hQ725, l725, y725, z725⟩, st725⟩ := X714.virtualBack hx (y := (⟨"com/example/plainsong/plainsong/engine/CallStack", "push", "(Lcom/example/plainsong/plainsong/engine/CallStack$Activation;)V"⟩ : MethodName)) (z := (⟨"com/example/plainsong/plainsong/engine/CallStack", "push", "(Lcom/example/plainsong/plainsong/engine/CallStack$Activation;)V"⟩ : MethodName)) hown (mvT hZ (hw _ (List.mem_of_getElem? (i := 63) rfl))) (mvT hZ (hw _ (List.mem_of_getElem? (i := 64) rfl))) (notFace_of_selects (args := #[]) (mvT hZ (hw _ (List.mem_of_getElem? (i := 66) rfl)))) (mvT hZ (hw _ (List.mem_of_getElem? (i := 66) rfl))) (mvT hZ (hw _ (List.mem_of_getElem? (i := 65) rfl))) (by decide) (backOf (W := 0) (rm_push1 l Z a0 hw [] b318 v294 b352 k352 v285 .null .null T714.heap n0 Z_724 G_715 G_716 G_717 G_718 ge_319 ge_358 ne_356 hr294 O352 Av_722) hZ (hw _ (List.mem_of_getElem? (i := 67) rfl)) (hw _ (List.mem_of_getElem? (i := 12) rfl)) (by decide) (by decide)) q725a q725c (g := (mkF m 110 #[.val (.int x0), .val (.int x1), .val (.int x2), .val (.int (3 : Int32)), .val (.int (3 : Int32)), .val v285, .val v294, .val v305, .val (.ref b318), .unset] [v294, (.ref b318)])) rfl (by rw [hml]; rfl) (Steps.refl _) (argsL := [v294]) (rest := []) (lenOf own_pd6 rfl) rfl (by show 2 * 0 + _ ≤ _; exact Nat.le_of_eq rfl) (hb hby at_110) (fun _ _ => ⟨rfl, rfl, (by decide : 7 + 0 ≤ _), (by decide : 30 + 0 ≤ _)⟩)
    dsimp only [Pt.U, Pt.locs, Pt.cells, Pt.slots] at X725 l725 y725 z725 st725 hQ725
    subst l725 y725 z725
    obtain ⟨rfl, Nq725, K725, G_726, G_727, G_728, G_729⟩ := hQ725
    have X_730 := G_715.keep K725
    have X_731 := X_720.keep K725
    have Av_732 := own_avK Av_721 K725
    have Av_733 := own_avK Av_722 K725
    have Av_734 := own_avK Av_723 K725
    have Z_735 : n0 ≤ T725.heap.size := Nat.le_trans Z_724 K725.1
    have N_725 := Fr.app N_714 Nq725
    refine own_go (fun _ k => st725.trans k) ?_
    show own_G p.tables e below _ (T725.setTop (mkF m 113 #[.val (.int x0), .val (.int x1), .val (.int x2), .val (.int (3 : Int32)), .val (.int (3 : Int32)), .val v285, .val v294, .val v305, .val (.ref b318), .unset] []))
    refine own_go (fun _ k => XS.iloadN X725.here hx rfl (hb hby at_113) rfl k) ?_
    show own_G p.tables e below _ (T725.setTop (mkF m 114 #[.val (.int x0), .val (.int x1), .val (.int x2), .val (.int (3 : Int32)), .val (.int (3 : Int32)), .val v285, .val v294, .val v305, .val (.ref b318), .unset] [(.int (3 : Int32))]))
    refine own_go (fun _ k => XS.iconst X725.here hx rfl (hb hby at_114) k) ?_
    show own_G p.tables e below _ (T725.setTop (mkF m 115 #[.val (.int x0), .val (.int x1), .val (.int x2), .val (.int (3 : Int32)), .val (.int (3 : Int32)), .val v285, .val v294, .val v305, .val (.ref b318), .unset] [(.int (2 : Int32)), (.int (3 : Int32))]))
    refine own_go (fun _ k => XS.icmpNo X725.here hx rfl (hb hby at_115) rfl ((tlt (by decide : (2 : Int32) < (3 : Int32))).2.2.2) k) ?_
    show own_G p.tables e below _ (T725.setTop (mkF m 118 #[.val (.int x0), .val (.int x1), .val (.int x2), .val (.int (3 : Int32)), .val (.int (3 : Int32)), .val v285, .val v294, .val v305, .val (.ref b318), .unset] []))
    refine own_go (fun _ k => XS.aload X725.here hx rfl (hb hby at_118) rfl rfl k) ?_
    show own_G p.tables e below _ (T725.setTop (mkF m 120 #[.val (.int x0), .val (.int x1), .val (.int x2), .val (.int (3 : Int32)), .val (.int (3 : Int32)), .val v285, .val v294, .val v305, .val (.ref b318), .unset] [(.ref b318)]))
    refine own_go (fun _ k => XS.aload X725.here hx rfl (hb hby at_120) rfl hr305 k) ?_
    show own_G p.tables e below _ (T725.setTop (mkF m 122 #[.val (.int x0), .val (.int x1), .val (.int x2), .val (.int (3 : Int32)), .val (.int (3 : Int32)), .val v285, .val v294, .val v305, .val (.ref b318), .unset] [v305, (.ref b318)]))
    obtain ⟨cq736, kq736, q736a, q736b, q736c⟩ := isOf hZ rfl G_726
    obtain ⟨_, _, ⟨T736, L736, k736, n736⟩, -, X736, ⟨Lc736, hQ736, l736, y736, z736⟩, st736⟩ := X725.virtualBack hx (y := (⟨"com/example/plainsong/plainsong/engine/CallStack", "push", "(Lcom/example/plainsong/plainsong/engine/CallStack$Activation;)V"⟩ : MethodName)) (z := (⟨"com/example/plainsong/plainsong/engine/CallStack", "push", "(Lcom/example/plainsong/plainsong/engine/CallStack$Activation;)V"⟩ : MethodName)) hown (mvT hZ (hw _ (List.mem_of_getElem? (i := 63) rfl))) (mvT hZ (hw _ (List.mem_of_getElem? (i := 64) rfl))) (notFace_of_selects (args := #[]) (mvT hZ (hw _ (List.mem_of_getElem? (i := 66) rfl)))) (mvT hZ (hw _ (List.mem_of_getElem? (i := 66) rfl))) (mvT hZ (hw _ (List.mem_of_getElem? (i := 65) rfl))) (by decide) (backOf (W := 0) (rm_push2 l Z a0 hw [] b318 v305 b352 k352 v285 v294 .null T725.heap n0 Z_735 G_726 G_727 G_728 G_729 ge_319 ge_358 ne_356 hr305 O352 Av_734) hZ (hw _ (List.mem_of_getElem? (i := 67) rfl)) (hw _ (List.mem_of_getElem? (i := 12) rfl)) (by decide) (by decide)) q736a q736c (g := (mkF m 122 #[.val (.int x0), .val (.int x1), .val (.int x2), .val (.int (3 : Int32)), .val (.int (3 : Int32)), .val v285, .val v294, .val v305, .val (.ref b318), .unset] [v305, (.ref b318)])) rfl (by rw [hml]; rfl) (Steps.refl _) (argsL := [v305]) (rest := []) (lenOf own_pd6 rfl) rfl (by show 2 * 0 + _ ≤ _; exact Nat.le_of_eq rfl) (hb hby at_122) (fun _ _ => ⟨rfl, rfl, (by decide : 7 + 0 ≤ _), (by decide : 30 + 0 ≤ _)⟩)
    dsimp only [Pt.U, Pt.locs, Pt.cells, Pt.slots] at X736 l736 y736 z736 st736 hQ736
    subst l736 y736 z736
    obtain ⟨rfl, Nq736, K736, G_737, G_738, G_739, G_740⟩ := hQ736
    have X_741 := G_726.keep K736
    have X_742 := X_731.keep K736
    have Av_743 := own_avK Av_732 K736
    have Av_744 := own_avK Av_733 K736
    have Av_745 := own_avK Av_734 K736
    have Z_746 : n0 ≤ T736.heap.size := Nat.le_trans Z_735 K736.1
    have N_736 := Fr.app N_725 Nq736
    refine own_go (fun _ k => st736.trans k) ?_
    show own_G p.tables e below _ (T736.setTop (mkF m 125 #[.val (.int x0), .val (.int x1), .val (.int x2), .val (.int (3 : Int32)), .val (.int (3 : Int32)), .val v285, .val v294, .val v305, .val (.ref b318), .unset] []))
    refine own_go (fun _ k => XS.aload X736.here hx rfl (hb hby at_125) rfl rfl k) ?_
    show own_G p.tables e below _ (T736.setTop (mkF m 127 #[.val (.int x0), .val (.int x1), .val (.int x2), .val (.int (3 : Int32)), .val (.int (3 : Int32)), .val v285, .val v294, .val v305, .val (.ref b318), .unset] [(.ref b318)]))
    refine own_go (fun _ k => XS.iload X736.here hx rfl (hb hby at_127) rfl k) ?_
    show own_G p.tables e below _ (T736.setTop (mkF m 129 #[.val (.int x0), .val (.int x1), .val (.int x2), .val (.int (3 : Int32)), .val (.int (3 : Int32)), .val v285, .val v294, .val v305, .val (.ref b318), .unset] [(.int (3 : Int32)), (.ref b318)]))
    obtain ⟨cq747, kq747, q747a, q747b, q747c⟩ := isOf hZ rfl G_737
    obtain ⟨_, _, ⟨T747, L747, k747, n747⟩, -, X747, ⟨Lc747, hQ747, l747, y747, z747⟩, st747⟩ := X736.virtualBack hx (y := (⟨"com/example/plainsong/plainsong/engine/CallStack", "truncate", "(I)V"⟩ : MethodName)) (z := (⟨"com/example/plainsong/plainsong/engine/CallStack", "truncate", "(I)V"⟩ : MethodName)) hown (mvT hZ (hw _ (List.mem_of_getElem? (i := 43) rfl))) (mvT hZ (hw _ (List.mem_of_getElem? (i := 44) rfl))) (notFace_of_selects (args := #[]) (mvT hZ (hw _ (List.mem_of_getElem? (i := 46) rfl)))) (mvT hZ (hw _ (List.mem_of_getElem? (i := 46) rfl))) (mvT hZ (hw _ (List.mem_of_getElem? (i := 45) rfl))) (by decide) (backOf (W := 0) (rm_tr33 l Z a0 hw [] b318 b352 k352 v285 v294 v305 T736.heap n0 Z_746 G_737 G_738 G_739 G_740 ge_319 ge_358 ne_356) hZ (hw _ (List.mem_of_getElem? (i := 47) rfl)) (hw _ (List.mem_of_getElem? (i := 12) rfl)) (by decide) (by decide)) q747a q747c (g := (mkF m 129 #[.val (.int x0), .val (.int x1), .val (.int x2), .val (.int (3 : Int32)), .val (.int (3 : Int32)), .val v285, .val v294, .val v305, .val (.ref b318), .unset] [(.int (3 : Int32)), (.ref b318)])) rfl (by rw [hml]; rfl) (Steps.refl _) (argsL := [(.int (3 : Int32))]) (rest := []) (lenOf own_pd2 rfl) rfl (by show 2 * 0 + _ ≤ _; exact Nat.le_of_eq rfl) (hb hby at_129) (fun _ _ => ⟨rfl, rfl, (by decide : 7 + 0 ≤ _), (by decide : 30 + 0 ≤ _)⟩)
    dsimp only [Pt.U, Pt.locs, Pt.cells, Pt.slots] at X747 l747 y747 z747 st747 hQ747
    subst l747 y747 z747
    obtain ⟨rfl, Nq747, K747, G_748, G_749, G_750, G_751⟩ := hQ747
    have X_752 := G_737.keep K747
    have X_753 := X_742.keep K747
    have Av_754 := own_avK Av_743 K747
    have Av_755 := own_avK Av_744 K747
    have Av_756 := own_avK Av_745 K747
    have Z_757 : n0 ≤ T747.heap.size := Nat.le_trans Z_746 K747.1
    have N_747 := Fr.app N_736 Nq747
    refine own_go (fun _ k => st747.trans k) ?_
    show own_G p.tables e below _ (T747.setTop (mkF m 132 #[.val (.int x0), .val (.int x1), .val (.int x2), .val (.int (3 : Int32)), .val (.int (3 : Int32)), .val v285, .val v294, .val v305, .val (.ref b318), .unset] []))
    refine own_go (fun _ k => XS.aload X747.here hx rfl (hb hby at_132) rfl rfl k) ?_
    show own_G p.tables e below _ (T747.setTop (mkF m 134 #[.val (.int x0), .val (.int x1), .val (.int x2), .val (.int (3 : Int32)), .val (.int (3 : Int32)), .val v285, .val v294, .val v305, .val (.ref b318), .unset] [(.ref b318)]))
    obtain ⟨T758, X758, e758, st758⟩ := own_callV X747 hx hZ (y := (⟨"com/example/plainsong/plainsong/engine/CallStack", "depth", "()I"⟩ : MethodName)) hown (hw _ (List.mem_of_getElem? (i := 50) rfl)) (hw _ (List.mem_of_getElem? (i := 51) rfl)) (hw _ (List.mem_of_getElem? (i := 53) rfl)) (hw _ (List.mem_of_getElem? (i := 52) rfl)) (hw _ (List.mem_of_getElem? (i := 12) rfl)) (hw _ (List.mem_of_getElem? (i := 54) rfl)) (by decide) (W := 0) (rm7 l Z a0 hw [] b318 (3 : Int32) T747.heap G_750) (by decide) (by decide) rfl rfl rfl G_748 (g := (mkF m 134 #[.val (.int x0), .val (.int x1), .val (.int x2), .val (.int (3 : Int32)), .val (.int (3 : Int32)), .val v285, .val v294, .val v305, .val (.ref b318), .unset] [(.ref b318)])) rfl (by rw [hml]; rfl) (argsL := []) (rest := []) (lenOf own_pd3 rfl) rfl rfl (by show 2 * 0 + _ ≤ _; exact Nat.le_of_eq rfl) (hb hby at_134) (by decide) (by decide)
    refine own_go st758 ?_
    show own_G p.tables e below _ (T758.setTop (mkF m 137 #[.val (.int x0), .val (.int x1), .val (.int x2), .val (.int (3 : Int32)), .val (.int (3 : Int32)), .val v285, .val v294, .val v305, .val (.ref b318), .unset] [(.int (3 : Int32))]))
    refine own_go (fun _ k => XS.iload X758.here hx rfl (hb hby at_137) rfl k) ?_
    show own_G p.tables e below _ (T758.setTop (mkF m 139 #[.val (.int x0), .val (.int x1), .val (.int x2), .val (.int (3 : Int32)), .val (.int (3 : Int32)), .val v285, .val v294, .val v305, .val (.ref b318), .unset] [(.int (3 : Int32)), (.int (3 : Int32))]))
    refine own_go (fun _ k => XS.icmpNo X758.here hx rfl (hb hby at_139) rfl ((teq (by decide : (3 : Int32) = (3 : Int32))).2) k) ?_
    show own_G p.tables e below _ (T758.setTop (mkF m 142 #[.val (.int x0), .val (.int x1), .val (.int x2), .val (.int (3 : Int32)), .val (.int (3 : Int32)), .val v285, .val v294, .val v305, .val (.ref b318), .unset] []))
    refine own_go (fun _ k => XS.iconst X758.here hx rfl (hb hby at_142) k) ?_
    show own_G p.tables e below _ (T758.setTop (mkF m 143 #[.val (.int x0), .val (.int x1), .val (.int x2), .val (.int (3 : Int32)), .val (.int (3 : Int32)), .val v285, .val v294, .val v305, .val (.ref b318), .unset] [(.int (1 : Int32))]))
    refine own_go (fun _ k => XS.goto X758.here hx rfl (pc0 := 143) (pc' := 147) rfl (hb hby at_143) (by decide) (by decide) k) ?_
    show own_G p.tables e below _ (T758.setTop (mkF m 147 #[.val (.int x0), .val (.int x1), .val (.int x2), .val (.int (3 : Int32)), .val (.int (3 : Int32)), .val v285, .val v294, .val v305, .val (.ref b318), .unset] [(.int (1 : Int32))]))
    refine own_go (fun _ k => XS.istore X758.here hx rfl (hb hby at_147) rfl (l' := #[.val (.int x0), .val (.int x1), .val (.int x2), .val (.int (3 : Int32)), .val (.int (3 : Int32)), .val v285, .val v294, .val v305, .val (.ref b318), .val (.int (1 : Int32))]) rfl k) ?_
    show own_G p.tables e below _ (T758.setTop (mkF m 149 #[.val (.int x0), .val (.int x1), .val (.int x2), .val (.int (3 : Int32)), .val (.int (3 : Int32)), .val v285, .val v294, .val v305, .val (.ref b318), .val (.int (1 : Int32))] []))
    refine own_go (fun _ k => XS.iload X758.here hx rfl (hb hby at_149) rfl k) ?_
    show own_G p.tables e below _ (T758.setTop (mkF m 151 #[.val (.int x0), .val (.int x1), .val (.int x2), .val (.int (3 : Int32)), .val (.int (3 : Int32)), .val v285, .val v294, .val v305, .val (.ref b318), .val (.int (1 : Int32))] [(.int (1 : Int32))]))
    refine own_go (fun _ k => XS.ifNo X758.here hx rfl (hb hby at_151) rfl (((if0 _ _).trans (feq (by decide : ¬ ((1 : Int32) = (0 : Int32)))).1)) k) ?_
    show own_G p.tables e below _ (T758.setTop (mkF m 154 #[.val (.int x0), .val (.int x1), .val (.int x2), .val (.int (3 : Int32)), .val (.int (3 : Int32)), .val v285, .val v294, .val v305, .val (.ref b318), .val (.int (1 : Int32))] []))
    refine own_go (fun _ k => XS.aload X758.here hx rfl (hb hby at_154) rfl rfl k) ?_
    show own_G p.tables e below _ (T758.setTop (mkF m 156 #[.val (.int x0), .val (.int x1), .val (.int x2), .val (.int (3 : Int32)), .val (.int (3 : Int32)), .val v285, .val v294, .val v305, .val (.ref b318), .val (.int (1 : Int32))] [(.ref b318)]))
    refine own_go (fun _ k => XS.iconst X758.here hx rfl (hb hby at_156) k) ?_
    show own_G p.tables e below _ (T758.setTop (mkF m 157 #[.val (.int x0), .val (.int x1), .val (.int x2), .val (.int (3 : Int32)), .val (.int (3 : Int32)), .val v285, .val v294, .val v305, .val (.ref b318), .val (.int (1 : Int32))] [(.int (0 : Int32)), (.ref b318)]))
    obtain ⟨T759, X759, e759, st759⟩ := own_callV X758 hx hZ (y := (⟨"com/example/plainsong/plainsong/engine/CallStack", "entry", "(I)Lcom/example/plainsong/plainsong/engine/CallStack$Activation;"⟩ : MethodName)) hown (hw _ (List.mem_of_getElem? (i := 55) rfl)) (hw _ (List.mem_of_getElem? (i := 56) rfl)) (hw _ (List.mem_of_getElem? (i := 58) rfl)) (hw _ (List.mem_of_getElem? (i := 57) rfl)) (hw _ (List.mem_of_getElem? (i := 12) rfl)) (hw _ (List.mem_of_getElem? (i := 59) rfl)) (by decide) (W := 0) (rm_ent0 l Z a0 hw [] b318 b352 k352 v285 v294 v305 T747.heap G_749 G_751 hr285) (by decide) (by decide) rfl rfl e758 G_748 (g := (mkF m 157 #[.val (.int x0), .val (.int x1), .val (.int x2), .val (.int (3 : Int32)), .val (.int (3 : Int32)), .val v285, .val v294, .val v305, .val (.ref b318), .val (.int (1 : Int32))] [(.int (0 : Int32)), (.ref b318)])) rfl (by rw [hml]; rfl) (argsL := [(.int (0 : Int32))]) (rest := []) (lenOf own_pd4 rfl) rfl rfl (by show 2 * 0 + _ ≤ _; exact Nat.le_of_eq rfl) (hb hby at_157) (by decide) (by decide)
    refine own_go st759 ?_
    show own_G p.tables e below _ (T759.setTop (mkF m 160 #[.val (.int x0), .val (.int x1), .val (.int x2), .val (.int (3 : Int32)), .val (.int (3 : Int32)), .val v285, .val v294, .val v305, .val (.ref b318), .val (.int (1 : Int32))] [v285]))
    refine own_go (fun _ k => XS.iconst X759.here hx rfl (hb hby at_160) k) ?_
    show own_G p.tables e below _ (T759.setTop (mkF m 161 #[.val (.int x0), .val (.int x1), .val (.int x2), .val (.int (3 : Int32)), .val (.int (3 : Int32)), .val v285, .val v294, .val v305, .val (.ref b318), .val (.int (1 : Int32))] [(.int (0 : Int32)), v285]))
    refine own_go (fun _ k => XS.iload X759.here hx rfl (hb hby at_161) rfl k) ?_
    show own_G p.tables e below _ (T759.setTop (mkF m 163 #[.val (.int x0), .val (.int x1), .val (.int x2), .val (.int (3 : Int32)), .val (.int (3 : Int32)), .val v285, .val v294, .val v305, .val (.ref b318), .val (.int (1 : Int32))] [(.int (3 : Int32)), (.int (0 : Int32)), v285]))
    refine own_go (fun _ k => XS.aload X759.here hx rfl (hb hby at_163) rfl hr285 k) ?_
    show own_G p.tables e below _ (T759.setTop (mkF m 165 #[.val (.int x0), .val (.int x1), .val (.int x2), .val (.int (3 : Int32)), .val (.int (3 : Int32)), .val v285, .val v294, .val v305, .val (.ref b318), .val (.int (1 : Int32))] [v285, (.int (3 : Int32)), (.int (0 : Int32)), v285]))
    obtain ⟨T760, X760, e760, st760⟩ := own_callP X759 hx hZ (y := (⟨"com/example/plainsong/plainsong/engine/CallStackTruncatePinLaw", "expected", "(IILcom/example/plainsong/plainsong/engine/CallStack$Activation;)Lcom/example/plainsong/plainsong/engine/CallStack$Activation;"⟩ : MethodName)) hown (hw _ (List.mem_of_getElem? (i := 60) rfl)) (hw _ (List.mem_of_getElem? (i := 61) rfl)) (hw _ (List.mem_of_getElem? (i := 3) rfl)) (hw _ (List.mem_of_getElem? (i := 62) rfl)) (by decide) (W := 1) (rm_explt l Z a0 hw [] (0 : Int32) (3 : Int32) v285  T747.heap hr285 (by decide)) (by decide) (by decide) rfl rfl e759 (g := (mkF m 165 #[.val (.int x0), .val (.int x1), .val (.int x2), .val (.int (3 : Int32)), .val (.int (3 : Int32)), .val v285, .val v294, .val v305, .val (.ref b318), .val (.int (1 : Int32))] [v285, (.int (3 : Int32)), (.int (0 : Int32)), v285])) rfl (by rw [hml]; rfl) (argsL := [(.int (0 : Int32)), (.int (3 : Int32)), v285]) (rest := [v285]) (lenOf own_pd5 rfl) rfl rfl (own_w1 hr285) (hb hby at_165) (by decide) (by decide)
    refine own_go st760 ?_
    show own_G p.tables e below _ (T760.setTop (mkF m 168 #[.val (.int x0), .val (.int x1), .val (.int x2), .val (.int (3 : Int32)), .val (.int (3 : Int32)), .val v285, .val v294, .val v305, .val (.ref b318), .val (.int (1 : Int32))] [v285, v285]))
    refine own_go (fun _ k => Jvm.RoadKit.acmp (g := (mkF m 168 #[.val (.int x0), .val (.int x1), .val (.int x2), .val (.int (3 : Int32)), .val (.int (3 : Int32)), .val v285, .val v294, .val v305, .val (.ref b318), .val (.int (1 : Int32))] [v285, v285])) X760 hx rfl hr285 hr285 (pc0 := 168) (pc' := 171) (same := true) rfl (hb hby at_168) rfl (decide_eq_true rfl) (by decide) (by decide) k) ?_
    show own_G p.tables e below _ (T760.setTop (mkF m 171 #[.val (.int x0), .val (.int x1), .val (.int x2), .val (.int (3 : Int32)), .val (.int (3 : Int32)), .val v285, .val v294, .val v305, .val (.ref b318), .val (.int (1 : Int32))] []))
    refine own_go (fun _ k => XS.iconst X760.here hx rfl (hb hby at_171) k) ?_
    show own_G p.tables e below _ (T760.setTop (mkF m 172 #[.val (.int x0), .val (.int x1), .val (.int x2), .val (.int (3 : Int32)), .val (.int (3 : Int32)), .val v285, .val v294, .val v305, .val (.ref b318), .val (.int (1 : Int32))] [(.int (1 : Int32))]))
    refine own_go (fun _ k => XS.goto X760.here hx rfl (pc0 := 172) (pc' := 176) rfl (hb hby at_172) (by decide) (by decide) k) ?_
    show own_G p.tables e below _ (T760.setTop (mkF m 176 #[.val (.int x0), .val (.int x1), .val (.int x2), .val (.int (3 : Int32)), .val (.int (3 : Int32)), .val v285, .val v294, .val v305, .val (.ref b318), .val (.int (1 : Int32))] [(.int (1 : Int32))]))
    refine own_go (fun _ k => XS.istore X760.here hx rfl (hb hby at_176) rfl (l' := #[.val (.int x0), .val (.int x1), .val (.int x2), .val (.int (3 : Int32)), .val (.int (3 : Int32)), .val v285, .val v294, .val v305, .val (.ref b318), .val (.int (1 : Int32))]) rfl k) ?_
    show own_G p.tables e below _ (T760.setTop (mkF m 178 #[.val (.int x0), .val (.int x1), .val (.int x2), .val (.int (3 : Int32)), .val (.int (3 : Int32)), .val v285, .val v294, .val v305, .val (.ref b318), .val (.int (1 : Int32))] []))
    refine own_go (fun _ k => XS.iload X760.here hx rfl (hb hby at_178) rfl k) ?_
    show own_G p.tables e below _ (T760.setTop (mkF m 180 #[.val (.int x0), .val (.int x1), .val (.int x2), .val (.int (3 : Int32)), .val (.int (3 : Int32)), .val v285, .val v294, .val v305, .val (.ref b318), .val (.int (1 : Int32))] [(.int (1 : Int32))]))
    refine own_go (fun _ k => XS.ifNo X760.here hx rfl (hb hby at_180) rfl (((if0 _ _).trans (feq (by decide : ¬ ((1 : Int32) = (0 : Int32)))).1)) k) ?_
    show own_G p.tables e below _ (T760.setTop (mkF m 183 #[.val (.int x0), .val (.int x1), .val (.int x2), .val (.int (3 : Int32)), .val (.int (3 : Int32)), .val v285, .val v294, .val v305, .val (.ref b318), .val (.int (1 : Int32))] []))
    refine own_go (fun _ k => XS.aload X760.here hx rfl (hb hby at_183) rfl rfl k) ?_
    show own_G p.tables e below _ (T760.setTop (mkF m 185 #[.val (.int x0), .val (.int x1), .val (.int x2), .val (.int (3 : Int32)), .val (.int (3 : Int32)), .val v285, .val v294, .val v305, .val (.ref b318), .val (.int (1 : Int32))] [(.ref b318)]))
    refine own_go (fun _ k => XS.iconst X760.here hx rfl (hb hby at_185) k) ?_
    show own_G p.tables e below _ (T760.setTop (mkF m 186 #[.val (.int x0), .val (.int x1), .val (.int x2), .val (.int (3 : Int32)), .val (.int (3 : Int32)), .val v285, .val v294, .val v305, .val (.ref b318), .val (.int (1 : Int32))] [(.int (1 : Int32)), (.ref b318)]))
    obtain ⟨T761, X761, e761, st761⟩ := own_callV X760 hx hZ (y := (⟨"com/example/plainsong/plainsong/engine/CallStack", "entry", "(I)Lcom/example/plainsong/plainsong/engine/CallStack$Activation;"⟩ : MethodName)) hown (hw _ (List.mem_of_getElem? (i := 55) rfl)) (hw _ (List.mem_of_getElem? (i := 56) rfl)) (hw _ (List.mem_of_getElem? (i := 58) rfl)) (hw _ (List.mem_of_getElem? (i := 57) rfl)) (hw _ (List.mem_of_getElem? (i := 12) rfl)) (hw _ (List.mem_of_getElem? (i := 59) rfl)) (by decide) (W := 0) (rm_ent1 l Z a0 hw [] b318 b352 k352 v285 v294 v305 T747.heap G_749 G_751 hr294) (by decide) (by decide) rfl rfl e760 G_748 (g := (mkF m 186 #[.val (.int x0), .val (.int x1), .val (.int x2), .val (.int (3 : Int32)), .val (.int (3 : Int32)), .val v285, .val v294, .val v305, .val (.ref b318), .val (.int (1 : Int32))] [(.int (1 : Int32)), (.ref b318)])) rfl (by rw [hml]; rfl) (argsL := [(.int (1 : Int32))]) (rest := []) (lenOf own_pd4 rfl) rfl rfl (by show 2 * 0 + _ ≤ _; exact Nat.le_of_eq rfl) (hb hby at_186) (by decide) (by decide)
    refine own_go st761 ?_
    show own_G p.tables e below _ (T761.setTop (mkF m 189 #[.val (.int x0), .val (.int x1), .val (.int x2), .val (.int (3 : Int32)), .val (.int (3 : Int32)), .val v285, .val v294, .val v305, .val (.ref b318), .val (.int (1 : Int32))] [v294]))
    refine own_go (fun _ k => XS.iconst X761.here hx rfl (hb hby at_189) k) ?_
    show own_G p.tables e below _ (T761.setTop (mkF m 190 #[.val (.int x0), .val (.int x1), .val (.int x2), .val (.int (3 : Int32)), .val (.int (3 : Int32)), .val v285, .val v294, .val v305, .val (.ref b318), .val (.int (1 : Int32))] [(.int (1 : Int32)), v294]))
    refine own_go (fun _ k => XS.iload X761.here hx rfl (hb hby at_190) rfl k) ?_
    show own_G p.tables e below _ (T761.setTop (mkF m 192 #[.val (.int x0), .val (.int x1), .val (.int x2), .val (.int (3 : Int32)), .val (.int (3 : Int32)), .val v285, .val v294, .val v305, .val (.ref b318), .val (.int (1 : Int32))] [(.int (3 : Int32)), (.int (1 : Int32)), v294]))
    refine own_go (fun _ k => XS.aload X761.here hx rfl (hb hby at_192) rfl hr294 k) ?_
    show own_G p.tables e below _ (T761.setTop (mkF m 194 #[.val (.int x0), .val (.int x1), .val (.int x2), .val (.int (3 : Int32)), .val (.int (3 : Int32)), .val v285, .val v294, .val v305, .val (.ref b318), .val (.int (1 : Int32))] [v294, (.int (3 : Int32)), (.int (1 : Int32)), v294]))
    obtain ⟨T762, X762, e762, st762⟩ := own_callP X761 hx hZ (y := (⟨"com/example/plainsong/plainsong/engine/CallStackTruncatePinLaw", "expected", "(IILcom/example/plainsong/plainsong/engine/CallStack$Activation;)Lcom/example/plainsong/plainsong/engine/CallStack$Activation;"⟩ : MethodName)) hown (hw _ (List.mem_of_getElem? (i := 60) rfl)) (hw _ (List.mem_of_getElem? (i := 61) rfl)) (hw _ (List.mem_of_getElem? (i := 3) rfl)) (hw _ (List.mem_of_getElem? (i := 62) rfl)) (by decide) (W := 1) (rm_explt l Z a0 hw [] (1 : Int32) (3 : Int32) v294  T747.heap hr294 (by decide)) (by decide) (by decide) rfl rfl e761 (g := (mkF m 194 #[.val (.int x0), .val (.int x1), .val (.int x2), .val (.int (3 : Int32)), .val (.int (3 : Int32)), .val v285, .val v294, .val v305, .val (.ref b318), .val (.int (1 : Int32))] [v294, (.int (3 : Int32)), (.int (1 : Int32)), v294])) rfl (by rw [hml]; rfl) (argsL := [(.int (1 : Int32)), (.int (3 : Int32)), v294]) (rest := [v294]) (lenOf own_pd5 rfl) rfl rfl (own_w1 hr294) (hb hby at_194) (by decide) (by decide)
    refine own_go st762 ?_
    show own_G p.tables e below _ (T762.setTop (mkF m 197 #[.val (.int x0), .val (.int x1), .val (.int x2), .val (.int (3 : Int32)), .val (.int (3 : Int32)), .val v285, .val v294, .val v305, .val (.ref b318), .val (.int (1 : Int32))] [v294, v294]))
    refine own_go (fun _ k => Jvm.RoadKit.acmp (g := (mkF m 197 #[.val (.int x0), .val (.int x1), .val (.int x2), .val (.int (3 : Int32)), .val (.int (3 : Int32)), .val v285, .val v294, .val v305, .val (.ref b318), .val (.int (1 : Int32))] [v294, v294])) X762 hx rfl hr294 hr294 (pc0 := 197) (pc' := 200) (same := true) rfl (hb hby at_197) rfl (decide_eq_true rfl) (by decide) (by decide) k) ?_
    show own_G p.tables e below _ (T762.setTop (mkF m 200 #[.val (.int x0), .val (.int x1), .val (.int x2), .val (.int (3 : Int32)), .val (.int (3 : Int32)), .val v285, .val v294, .val v305, .val (.ref b318), .val (.int (1 : Int32))] []))
    refine own_go (fun _ k => XS.iconst X762.here hx rfl (hb hby at_200) k) ?_
    show own_G p.tables e below _ (T762.setTop (mkF m 201 #[.val (.int x0), .val (.int x1), .val (.int x2), .val (.int (3 : Int32)), .val (.int (3 : Int32)), .val v285, .val v294, .val v305, .val (.ref b318), .val (.int (1 : Int32))] [(.int (1 : Int32))]))
    refine own_go (fun _ k => XS.goto X762.here hx rfl (pc0 := 201) (pc' := 205) rfl (hb hby at_201) (by decide) (by decide) k) ?_
    show own_G p.tables e below _ (T762.setTop (mkF m 205 #[.val (.int x0), .val (.int x1), .val (.int x2), .val (.int (3 : Int32)), .val (.int (3 : Int32)), .val v285, .val v294, .val v305, .val (.ref b318), .val (.int (1 : Int32))] [(.int (1 : Int32))]))
    refine own_go (fun _ k => XS.istore X762.here hx rfl (hb hby at_205) rfl (l' := #[.val (.int x0), .val (.int x1), .val (.int x2), .val (.int (3 : Int32)), .val (.int (3 : Int32)), .val v285, .val v294, .val v305, .val (.ref b318), .val (.int (1 : Int32))]) rfl k) ?_
    show own_G p.tables e below _ (T762.setTop (mkF m 207 #[.val (.int x0), .val (.int x1), .val (.int x2), .val (.int (3 : Int32)), .val (.int (3 : Int32)), .val v285, .val v294, .val v305, .val (.ref b318), .val (.int (1 : Int32))] []))
    refine own_go (fun _ k => XS.iload X762.here hx rfl (hb hby at_207) rfl k) ?_
    show own_G p.tables e below _ (T762.setTop (mkF m 209 #[.val (.int x0), .val (.int x1), .val (.int x2), .val (.int (3 : Int32)), .val (.int (3 : Int32)), .val v285, .val v294, .val v305, .val (.ref b318), .val (.int (1 : Int32))] [(.int (1 : Int32))]))
    refine own_go (fun _ k => XS.ifNo X762.here hx rfl (hb hby at_209) rfl (((if0 _ _).trans (feq (by decide : ¬ ((1 : Int32) = (0 : Int32)))).1)) k) ?_
    show own_G p.tables e below _ (T762.setTop (mkF m 212 #[.val (.int x0), .val (.int x1), .val (.int x2), .val (.int (3 : Int32)), .val (.int (3 : Int32)), .val v285, .val v294, .val v305, .val (.ref b318), .val (.int (1 : Int32))] []))
    refine own_go (fun _ k => XS.aload X762.here hx rfl (hb hby at_212) rfl rfl k) ?_
    show own_G p.tables e below _ (T762.setTop (mkF m 214 #[.val (.int x0), .val (.int x1), .val (.int x2), .val (.int (3 : Int32)), .val (.int (3 : Int32)), .val v285, .val v294, .val v305, .val (.ref b318), .val (.int (1 : Int32))] [(.ref b318)]))
    refine own_go (fun _ k => XS.iconst X762.here hx rfl (hb hby at_214) k) ?_
    show own_G p.tables e below _ (T762.setTop (mkF m 215 #[.val (.int x0), .val (.int x1), .val (.int x2), .val (.int (3 : Int32)), .val (.int (3 : Int32)), .val v285, .val v294, .val v305, .val (.ref b318), .val (.int (1 : Int32))] [(.int (2 : Int32)), (.ref b318)]))
    obtain ⟨T763, X763, e763, st763⟩ := own_callV X762 hx hZ (y := (⟨"com/example/plainsong/plainsong/engine/CallStack", "entry", "(I)Lcom/example/plainsong/plainsong/engine/CallStack$Activation;"⟩ : MethodName)) hown (hw _ (List.mem_of_getElem? (i := 55) rfl)) (hw _ (List.mem_of_getElem? (i := 56) rfl)) (hw _ (List.mem_of_getElem? (i := 58) rfl)) (hw _ (List.mem_of_getElem? (i := 57) rfl)) (hw _ (List.mem_of_getElem? (i := 12) rfl)) (hw _ (List.mem_of_getElem? (i := 59) rfl)) (by decide) (W := 0) (rm_ent2 l Z a0 hw [] b318 b352 k352 v285 v294 v305 T747.heap G_749 G_751 hr305) (by decide) (by decide) rfl rfl e762 G_748 (g := (mkF m 215 #[.val (.int x0), .val (.int x1), .val (.int x2), .val (.int (3 : Int32)), .val (.int (3 : Int32)), .val v285, .val v294, .val v305, .val (.ref b318), .val (.int (1 : Int32))] [(.int (2 : Int32)), (.ref b318)])) rfl (by rw [hml]; rfl) (argsL := [(.int (2 : Int32))]) (rest := []) (lenOf own_pd4 rfl) rfl rfl (by show 2 * 0 + _ ≤ _; exact Nat.le_of_eq rfl) (hb hby at_215) (by decide) (by decide)
    refine own_go st763 ?_
    show own_G p.tables e below _ (T763.setTop (mkF m 218 #[.val (.int x0), .val (.int x1), .val (.int x2), .val (.int (3 : Int32)), .val (.int (3 : Int32)), .val v285, .val v294, .val v305, .val (.ref b318), .val (.int (1 : Int32))] [v305]))
    refine own_go (fun _ k => XS.iconst X763.here hx rfl (hb hby at_218) k) ?_
    show own_G p.tables e below _ (T763.setTop (mkF m 219 #[.val (.int x0), .val (.int x1), .val (.int x2), .val (.int (3 : Int32)), .val (.int (3 : Int32)), .val v285, .val v294, .val v305, .val (.ref b318), .val (.int (1 : Int32))] [(.int (2 : Int32)), v305]))
    refine own_go (fun _ k => XS.iload X763.here hx rfl (hb hby at_219) rfl k) ?_
    show own_G p.tables e below _ (T763.setTop (mkF m 221 #[.val (.int x0), .val (.int x1), .val (.int x2), .val (.int (3 : Int32)), .val (.int (3 : Int32)), .val v285, .val v294, .val v305, .val (.ref b318), .val (.int (1 : Int32))] [(.int (3 : Int32)), (.int (2 : Int32)), v305]))
    refine own_go (fun _ k => XS.aload X763.here hx rfl (hb hby at_221) rfl hr305 k) ?_
    show own_G p.tables e below _ (T763.setTop (mkF m 223 #[.val (.int x0), .val (.int x1), .val (.int x2), .val (.int (3 : Int32)), .val (.int (3 : Int32)), .val v285, .val v294, .val v305, .val (.ref b318), .val (.int (1 : Int32))] [v305, (.int (3 : Int32)), (.int (2 : Int32)), v305]))
    obtain ⟨T764, X764, e764, st764⟩ := own_callP X763 hx hZ (y := (⟨"com/example/plainsong/plainsong/engine/CallStackTruncatePinLaw", "expected", "(IILcom/example/plainsong/plainsong/engine/CallStack$Activation;)Lcom/example/plainsong/plainsong/engine/CallStack$Activation;"⟩ : MethodName)) hown (hw _ (List.mem_of_getElem? (i := 60) rfl)) (hw _ (List.mem_of_getElem? (i := 61) rfl)) (hw _ (List.mem_of_getElem? (i := 3) rfl)) (hw _ (List.mem_of_getElem? (i := 62) rfl)) (by decide) (W := 1) (rm_explt l Z a0 hw [] (2 : Int32) (3 : Int32) v305  T747.heap hr305 (by decide)) (by decide) (by decide) rfl rfl e763 (g := (mkF m 223 #[.val (.int x0), .val (.int x1), .val (.int x2), .val (.int (3 : Int32)), .val (.int (3 : Int32)), .val v285, .val v294, .val v305, .val (.ref b318), .val (.int (1 : Int32))] [v305, (.int (3 : Int32)), (.int (2 : Int32)), v305])) rfl (by rw [hml]; rfl) (argsL := [(.int (2 : Int32)), (.int (3 : Int32)), v305]) (rest := [v305]) (lenOf own_pd5 rfl) rfl rfl (own_w1 hr305) (hb hby at_223) (by decide) (by decide)
    refine own_go st764 ?_
    show own_G p.tables e below _ (T764.setTop (mkF m 226 #[.val (.int x0), .val (.int x1), .val (.int x2), .val (.int (3 : Int32)), .val (.int (3 : Int32)), .val v285, .val v294, .val v305, .val (.ref b318), .val (.int (1 : Int32))] [v305, v305]))
    refine own_go (fun _ k => Jvm.RoadKit.acmp (g := (mkF m 226 #[.val (.int x0), .val (.int x1), .val (.int x2), .val (.int (3 : Int32)), .val (.int (3 : Int32)), .val v285, .val v294, .val v305, .val (.ref b318), .val (.int (1 : Int32))] [v305, v305])) X764 hx rfl hr305 hr305 (pc0 := 226) (pc' := 229) (same := true) rfl (hb hby at_226) rfl (decide_eq_true rfl) (by decide) (by decide) k) ?_
    show own_G p.tables e below _ (T764.setTop (mkF m 229 #[.val (.int x0), .val (.int x1), .val (.int x2), .val (.int (3 : Int32)), .val (.int (3 : Int32)), .val v285, .val v294, .val v305, .val (.ref b318), .val (.int (1 : Int32))] []))
    refine own_go (fun _ k => XS.iconst X764.here hx rfl (hb hby at_229) k) ?_
    show own_G p.tables e below _ (T764.setTop (mkF m 230 #[.val (.int x0), .val (.int x1), .val (.int x2), .val (.int (3 : Int32)), .val (.int (3 : Int32)), .val v285, .val v294, .val v305, .val (.ref b318), .val (.int (1 : Int32))] [(.int (1 : Int32))]))
    refine own_go (fun _ k => XS.goto X764.here hx rfl (pc0 := 230) (pc' := 234) rfl (hb hby at_230) (by decide) (by decide) k) ?_
    show own_G p.tables e below _ (T764.setTop (mkF m 234 #[.val (.int x0), .val (.int x1), .val (.int x2), .val (.int (3 : Int32)), .val (.int (3 : Int32)), .val v285, .val v294, .val v305, .val (.ref b318), .val (.int (1 : Int32))] [(.int (1 : Int32))]))
    refine own_go (fun _ k => XS.istore X764.here hx rfl (hb hby at_234) rfl (l' := #[.val (.int x0), .val (.int x1), .val (.int x2), .val (.int (3 : Int32)), .val (.int (3 : Int32)), .val v285, .val v294, .val v305, .val (.ref b318), .val (.int (1 : Int32))]) rfl k) ?_
    show own_G p.tables e below _ (T764.setTop (mkF m 236 #[.val (.int x0), .val (.int x1), .val (.int x2), .val (.int (3 : Int32)), .val (.int (3 : Int32)), .val v285, .val v294, .val v305, .val (.ref b318), .val (.int (1 : Int32))] []))
    refine own_go (fun _ k => XS.iload X764.here hx rfl (hb hby at_236) rfl k) ?_
    show own_G p.tables e below _ (T764.setTop (mkF m 238 #[.val (.int x0), .val (.int x1), .val (.int x2), .val (.int (3 : Int32)), .val (.int (3 : Int32)), .val v285, .val v294, .val v305, .val (.ref b318), .val (.int (1 : Int32))] [(.int (1 : Int32))]))
    exact own_end X764 Bd.notSynchronized (v := some (.int (nar .boolean (1 : Int32)))) (fun h => by rw [Bd.returns] at h; cases h) (Q := QL (some (.int (1 : Int32))) n0) ⟨rfl, N_747⟩ (fun fs hr => retN X764 hx (t := .boolean) Bd.returns (by simp) (hb hby at_238) hr) (by decide) (by decide)
set_option maxRecDepth 65536 in
set_option maxHeartbeats 40000000 in
theorem comes_1 {Post : Tables → Env → Array Value → State → Outcome → State → Prop} (hpost : ∀ tb e args s v u, (limb_1_1.after args s (.returned v) u = true ∧ limb_1_2.after args s (.returned v) u = true ∧ True) → FrameEnd s (.returned v) u (Jvm.fieldLocs frame_1_writes args s ++ Jvm.arrayLocs frame_1_arrays args s ++ Jvm.staticLocs frame_1_statics s) 24 128 → Post tb e args s (.returned v) u) :
    ArmFor flags0 classFile x code maxLocals ret World_1 tables_1 room_1 Calls_1 rest_1 Pre_1 Post := by
  intro l hfl _ _ p e ha hc hk s m args below hf hA hF happ hP
  obtain ⟨hcalls, hrest, hpre⟩ := hP
  obtain ⟨-, -, -, hnamed, -, -, -, hat⟩ := (Spec.applies_iff hf).mp happ
  obtain ⟨hg, hn⟩ := and_e (Cond.before_iff.mp (show (Jvm.Cond.and given_1 narrow_1).before args s = true from hpre))
  obtain ⟨hcnt, hq0⟩ := and_e hg
  obtain ⟨ha0, hq1⟩ := and_e hq0
  obtain ⟨ha1, hq2⟩ := and_e hq1
  have ha2 := hq2
  obtain ⟨w0, w1, w2, rfl⟩ : ∃ w0 w1 w2 : Value, args = #[w0, w1, w2] := by
    have hs : args.size = 3 := by simpa [Cond.value, given_1] using hcnt
    obtain ⟨L⟩ := args
    match L, hs with
    | [w0, w1, w2], _ => exact ⟨w0, w1, w2, rfl⟩
  have hw := fun d (hd : d ∈ tables_1) => atoms_spec (ws := Jvm.Cond.code x code maxLocals ret :: tables_1) hat d (List.mem_cons_of_mem _ hd)
  have hfit : Fit s := fun {y c} hc i hi => by
    obtain ⟨ha, rfl⟩ := Array.getElem?_eq_some_iff.mp hc
    have q := List.all_eq_true.mp ((Array.all_eq_true_iff_forall_mem.mp hF) _ (Array.getElem_mem ha)) i (List.mem_range.mpr hi)
    simpa [Array.getElem?_eq_getElem hi] using q
  obtain ⟨i0, ei0⟩ := is_v ha0
  obtain rfl : w0 = (.int i0) := Option.some.inj ei0
  obtain ⟨i1, ei1⟩ := is_v ha1
  obtain rfl : w1 = (.int i1) := Option.some.inj ei1
  obtain ⟨i2, ei2⟩ := is_v ha2
  obtain rfl : w2 = (.int i2) := Option.some.inj ei2
  obtain ⟨hn1, hn2⟩ := and_e hn
  obtain ⟨em, eem⟩ := arr_v hn1
  have Sem : Sta s s.heap "com/example/plainsong/plainsong/engine/Table" "EMPTY" "[Ljava/lang/Object;" (.ref em) := Sta.start eem (Or.inr ⟨(hw _ (List.mem_of_getElem? (i := 22) rfl)), (hw _ (List.mem_of_getElem? (i := 28) rfl))⟩)
  obtain ⟨n, o, h1, h2, h3, _, L, rfl, ⟨rfl, N⟩, hq⟩ := rm0 l s _ hw tables_1 i0 i1 i2 em s.heap s.heap.size (Nat.le_refl _) Sem p e ha hc hk s m _ below hf ((Spec.applies_iff_loose hf).mp happ).1 ⟨rfl, State.Warmed39.refl s, rfl⟩ trivial
  refine ⟨n, _, h1, h2, h3, hpost _ _ _ _ _ _ ⟨Cond.after_iff.mpr rfl, Cond.after_iff.mpr (eq_i res_at (Term.int_eval (1)) rfl), trivial⟩ ⟨hq.1, hq.2.1, (hq.2.2.sift fun y hy => Or.inr (N y hy)).mono (by decide) (by decide)⟩⟩
theorem main_1_1 : Claimed_1_1 := comes_1 fun _ _ _ _ _ _ h hF => ⟨h.1, hF⟩
theorem main_1_2 : Claimed_1_2 := comes_1 fun _ _ _ _ _ _ h hF => ⟨h.2.1, hF⟩
end Jvm.Pilot.@@N@@
namespace Jvm.Pilot.@@N@@
open Jvm Jvm.ClassFile Sem Op Lib Jvm.Free Jvm.Stand Jvm.Pilot.@@N@@.Jvm.D
/-! MADE BY PROGRAM (witnessworld.py) out of the Statement's table words and the real class files: 14 classes; the members and pool entries that the words name. The judged class is class 2, her method 2. -/
namespace start1
open Jvm.ClassFile
def u (s : String) : CpInfo := .utf8 (stringToUtf16 s)
/-- a pool by its gaps: so many unusable entries, then the entry; so many at the end -/
def gap : Nat → List CpInfo → List CpInfo
  | 0, r => r
  | n + 1, r => .unusable :: gap n r
def poolList (es : List (Nat × CpInfo)) (last : Nat) : List CpInfo := es.foldr (fun e r => gap e.1 (e.2 :: r)) (gap last [])
def pool (es : List (Nat × CpInfo)) (last : Nat) : Array CpInfo := ⟨poolList es last⟩
def fileOf (pool : Array CpInfo) (this : Nat) (attrs : Array Attribute := #[]) (ms : Array MethodInfo := #[]) (fl : Nat := 33) (sup : Nat := 0) (ifs : Array Nat := #[]) (fds : Array FieldInfo := #[]) : ClassFile where
  minorVersion := 0
  majorVersion := 65
  constantPool := pool
  accessFlags := fl
  thisClass := this
  superClass := sup
  interfaces := ifs
  fields := fds
  methods := ms
  attributes := attrs
def plain (name : String) (sup : Option ClassId) : Class where
  name := name
  kind := .ordinary
  loader := none
  accessFlags := 33
  super := sup
  interfaces := #[]
  cf := none
  fields := #[]
  methods := #[]
  instanceTypes := #[]
  staticTypes := #[]
  resolved := #[]
  callSites := []
  init := .initialized
  statics := none
  mirror := none

def pool0 : Array CpInfo := pool [(5, u "<init>"), (0, u "()V"), (1, .class_ 10), (1, u "java/lang/Object")] 113

def k0c0 : Code := { maxStack := 0, maxLocals := 1, code := object_method_1_code, exceptionTable := #[], attributes := #[] }
def k0m0 : Method := { name := "<init>", desc := "()V", sig := { parameters := [], returnType := none }, accessFlags := 1, code := some k0c0 }
/-- java/lang/Object -/
def k0 : Class := { plain "java/lang/Object" none with
  accessFlags := 33
  interfaces := #[]
  cf := some (fileOf pool0 8 #[] #[{ accessFlags := 1, nameIndex := 5, descriptorIndex := 6, attributes := #[] }] 33 0 #[] #[])
  fields := #[]
  methods := #[k0m0]
  instanceTypes := #[]
  staticTypes := #[]
  resolved := Array.replicate 124 none
  statics := none }

def pool1 : Array CpInfo := pool [(1, .class_ 2), (0, u "com/example/plainsong/plainsong/engine/CallStack$Activation"), (0, .class_ 4), (0, u "java/lang/Object"), (10, .class_ 16), (0, u "com/example/plainsong/plainsong/engine/CallStack")] 2

/-- com/example/plainsong/plainsong/engine/CallStack$Activation -/
def k1 : Class := { plain "com/example/plainsong/plainsong/engine/CallStack$Activation" (some 0) with
  accessFlags := 1537
  interfaces := #[]
  cf := some (fileOf pool1 1 #[.nestHost 15] #[] 1537 3 #[] #[])
  fields := #[]
  methods := #[]
  instanceTypes := #[]
  staticTypes := #[]
  resolved := Array.replicate 19 none
  statics := none }

def pool2 : Array CpInfo := pool [(1, .methodref 2 3), (0, .class_ 4), (0, .nameAndType 5 6), (0, u "java/lang/Object"), (0, u "<init>"), (0, u "()V"), (2, .integer 2147483647), (0, .class_ 11), (0, u "com/example/plainsong/plainsong/engine/CallStackTruncatePinLaw"), (0, .methodref 10 3), (0, .class_ 14), (0, u "com/example/plainsong/plainsong/engine/CallStack"), (0, .class_ 16), (0, u "com/example/plainsong/plainsong/engine/Interpreter"), (0, .methodref 15 3), (0, .methodref 13 19), (0, .nameAndType 5 20), (0, u "(Lcom/example/plainsong/plainsong/engine/Interpreter;)V"), (0, .methodref 13 22), (0, .nameAndType 23 24), (0, u "push"), (0, u "(Lcom/example/plainsong/plainsong/engine/CallStack$Activation;)V"), (0, .methodref 13 26), (0, .nameAndType 27 28), (0, u "truncate"), (0, u "(I)V"), (0, .methodref 13 30), (0, .nameAndType 31 32), (0, u "depth"), (0, u "()I"), (0, .methodref 13 34), (0, .nameAndType 35 36), (0, u "entry"), (0, u "(I)Lcom/example/plainsong/plainsong/engine/CallStack$Activation;"), (0, .methodref 10 38), (0, .nameAndType 39 40), (0, u "expected"), (0, u "(IILcom/example/plainsong/plainsong/engine/CallStack$Activation;)Lcom/example/plainsong/plainsong/engine/CallStack$Activation;"), (0, .class_ 42), (0, u "com/example/plainsong/plainsong/engine/CallStack$Activation"), (9, u "law"), (0, u "(III)Z")] 4

def k2c0 : Code := { maxStack := 1, maxLocals := 1, code := method_1_code, exceptionTable := #[], attributes := #[] }
def k2m0 : Method := { name := "<init>", desc := "()V", sig := { parameters := [], returnType := none }, accessFlags := 1, code := some k2c0 }
def k2c1 : Code := { maxStack := 2, maxLocals := 3, code := method_6_code, exceptionTable := #[], attributes := #[] }
def k2m1 : Method := { name := "expected", desc := "(IILcom/example/plainsong/plainsong/engine/CallStack$Activation;)Lcom/example/plainsong/plainsong/engine/CallStack$Activation;", sig := { parameters := [.int, .int, (.object "com/example/plainsong/plainsong/engine/CallStack$Activation")], returnType := some (.object "com/example/plainsong/plainsong/engine/CallStack$Activation") }, accessFlags := 10, code := some k2c1 }
def k2c2 : Code := { maxStack := 4, maxLocals := 10, code := code, exceptionTable := #[], attributes := #[] }
def k2m2 : Method := { name := "law", desc := "(III)Z", sig := { parameters := [.int, .int, .int], returnType := some .boolean }, accessFlags := 9, code := some k2c2 }
/-- com/example/plainsong/plainsong/engine/CallStackTruncatePinLaw -/
def k2 : Class := { plain "com/example/plainsong/plainsong/engine/CallStackTruncatePinLaw" (some 0) with
  accessFlags := 49
  interfaces := #[1]
  cf := some (fileOf pool2 10 #[] #[{ accessFlags := 1, nameIndex := 5, descriptorIndex := 6, attributes := #[] }, { accessFlags := 10, nameIndex := 39, descriptorIndex := 40, attributes := #[] }, { accessFlags := 9, nameIndex := 52, descriptorIndex := 53, attributes := #[] }] 49 2 #[41] #[])
  fields := #[]
  methods := #[k2m0, k2m1, k2m2]
  instanceTypes := #[]
  staticTypes := #[]
  resolved := Array.replicate 58 none
  statics := none }

def pool3 : Array CpInfo := pool [(1, .methodref 2 3), (0, .class_ 4), (0, .nameAndType 5 6), (0, u "java/lang/Object"), (0, u "<init>"), (0, u "()V"), (0, .class_ 8), (0, u "com/example/plainsong/plainsong/engine/CallStack$Activation"), (0, .fieldref 10 11), (0, .class_ 12), (0, .nameAndType 13 14), (0, u "com/example/plainsong/plainsong/engine/CallStack"), (0, u "activations"), (0, u "[Lcom/example/plainsong/plainsong/engine/CallStack$Activation;"), (0, .fieldref 10 16), (0, .nameAndType 17 18), (0, u "interpreter"), (0, u "Lcom/example/plainsong/plainsong/engine/Interpreter;"), (2, u "coroutine"), (0, u "Lcom/example/plainsong/plainsong/engine/Coroutine;"), (8, u "callsFromJava"), (0, u "I"), (23, .fieldref 10 57), (0, .nameAndType 58 32), (0, u "depth"), (2, u "push"), (0, u "(Lcom/example/plainsong/plainsong/engine/CallStack$Activation;)V"), (26, u "truncate"), (0, u "(I)V"), (0, .integer 1000000), (20, u "(I)Lcom/example/plainsong/plainsong/engine/CallStack$Activation;"), (9, u "()I"), (27, u "MAX_DEPTH"), (1, u "(Lcom/example/plainsong/plainsong/engine/Interpreter;)V"), (11, u "entry")] 42

def k3c0 : Code := { maxStack := 2, maxLocals := 2, code := prog_36_method_1_code, exceptionTable := #[], attributes := #[] }
def k3m0 : Method := { name := "<init>", desc := "(Lcom/example/plainsong/plainsong/engine/Interpreter;)V", sig := { parameters := [(.object "com/example/plainsong/plainsong/engine/Interpreter")], returnType := none }, accessFlags := 1, code := some k3c0 }
def k3c1 : Code := { maxStack := 4, maxLocals := 3, code := prog_36_method_8_code, exceptionTable := #[], attributes := #[] }
def k3m1 : Method := { name := "push", desc := "(Lcom/example/plainsong/plainsong/engine/CallStack$Activation;)V", sig := { parameters := [(.object "com/example/plainsong/plainsong/engine/CallStack$Activation")], returnType := none }, accessFlags := 1, code := some k3c1 }
def k3c2 : Code := { maxStack := 1, maxLocals := 1, code := prog_36_method_9_code, exceptionTable := #[], attributes := #[] }
def k3m2 : Method := { name := "depth", desc := "()I", sig := { parameters := [], returnType := some .int }, accessFlags := 1, code := some k3c2 }
def k3c3 : Code := { maxStack := 2, maxLocals := 2, code := prog_36_method_10_code, exceptionTable := #[], attributes := #[] }
def k3m3 : Method := { name := "entry", desc := "(I)Lcom/example/plainsong/plainsong/engine/CallStack$Activation;", sig := { parameters := [.int], returnType := some (.object "com/example/plainsong/plainsong/engine/CallStack$Activation") }, accessFlags := 1, code := some k3c3 }
def k3c4 : Code := { maxStack := 3, maxLocals := 3, code := prog_36_method_11_code, exceptionTable := #[], attributes := #[] }
def k3m4 : Method := { name := "truncate", desc := "(I)V", sig := { parameters := [.int], returnType := none }, accessFlags := 1, code := some k3c4 }
/-- com/example/plainsong/plainsong/engine/CallStack -/
def k3 : Class := { plain "com/example/plainsong/plainsong/engine/CallStack" (some 0) with
  accessFlags := 49
  interfaces := #[]
  cf := some (fileOf pool3 10 #[.nestMembers #[7]] #[{ accessFlags := 1, nameIndex := 5, descriptorIndex := 152, attributes := #[] }, { accessFlags := 1, nameIndex := 61, descriptorIndex := 62, attributes := #[] }, { accessFlags := 1, nameIndex := 58, descriptorIndex := 122, attributes := #[] }, { accessFlags := 1, nameIndex := 164, descriptorIndex := 112, attributes := #[] }, { accessFlags := 1, nameIndex := 89, descriptorIndex := 90, attributes := #[] }] 49 2 #[] #[{ accessFlags := 25, nameIndex := 150, descriptorIndex := 32, attributes := #[] }, { accessFlags := 18, nameIndex := 17, descriptorIndex := 18, attributes := #[] }, { accessFlags := 2, nameIndex := 21, descriptorIndex := 22, attributes := #[] }, { accessFlags := 2, nameIndex := 13, descriptorIndex := 14, attributes := #[] }, { accessFlags := 2, nameIndex := 58, descriptorIndex := 32, attributes := #[] }, { accessFlags := 2, nameIndex := 31, descriptorIndex := 32, attributes := #[] }])
  fields := #[{ name := "MAX_DEPTH", type := .int, accessFlags := 25, slot := 0, constantValue := 0 }, { name := "interpreter", type := (.object "com/example/plainsong/plainsong/engine/Interpreter"), accessFlags := 18, slot := 0, constantValue := 0 }, { name := "coroutine", type := (.object "com/example/plainsong/plainsong/engine/Coroutine"), accessFlags := 2, slot := 1, constantValue := 0 }, { name := "activations", type := (.array (.object "com/example/plainsong/plainsong/engine/CallStack$Activation")), accessFlags := 2, slot := 2, constantValue := 0 }, { name := "depth", type := .int, accessFlags := 2, slot := 3, constantValue := 0 }, { name := "callsFromJava", type := .int, accessFlags := 2, slot := 4, constantValue := 0 }]
  methods := #[k3m0, k3m1, k3m2, k3m3, k3m4]
  instanceTypes := #[(.object "com/example/plainsong/plainsong/engine/Interpreter"), (.object "com/example/plainsong/plainsong/engine/Coroutine"), (.array (.object "com/example/plainsong/plainsong/engine/CallStack$Activation")), .int, .int]
  staticTypes := #[.int]
  resolved := Array.replicate 207 none
  statics := none }

def pool4 : Array CpInfo := pool [(1, .methodref 2 3), (0, .class_ 4), (0, .nameAndType 5 6), (0, u "java/lang/Object"), (0, u "<init>"), (0, u "()V"), (0, .class_ 8), (0, u "com/example/plainsong/plainsong/engine/Table"), (0, .methodref 7 3), (0, .fieldref 11 12), (0, .class_ 13), (0, .nameAndType 14 15), (0, u "com/example/plainsong/plainsong/engine/Interpreter"), (0, u "globals"), (0, u "Lcom/example/plainsong/plainsong/engine/Table;"), (8, u "stringMetatable"), (5, u "nestedRuns"), (0, u "I"), (12, u "clock"), (0, u "Lcom/example/plainsong/plainsong/engine/ProcessorClock;"), (40, u "MAX_NESTED_RUNS")] 15

def k4c0 : Code := { maxStack := 3, maxLocals := 1, code := prog_49_method_1_code, exceptionTable := #[], attributes := #[] }
def k4m0 : Method := { name := "<init>", desc := "()V", sig := { parameters := [], returnType := none }, accessFlags := 1, code := some k4c0 }
/-- com/example/plainsong/plainsong/engine/Interpreter -/
def k4 : Class := { plain "com/example/plainsong/plainsong/engine/Interpreter" (some 0) with
  accessFlags := 49
  interfaces := #[]
  cf := some (fileOf pool4 11 #[] #[{ accessFlags := 1, nameIndex := 5, descriptorIndex := 6, attributes := #[] }] 49 2 #[] #[{ accessFlags := 25, nameIndex := 86, descriptorIndex := 31, attributes := #[] }, { accessFlags := 18, nameIndex := 14, descriptorIndex := 15, attributes := #[] }, { accessFlags := 2, nameIndex := 30, descriptorIndex := 31, attributes := #[] }, { accessFlags := 2, nameIndex := 44, descriptorIndex := 45, attributes := #[] }, { accessFlags := 2, nameIndex := 24, descriptorIndex := 15, attributes := #[] }])
  fields := #[{ name := "MAX_NESTED_RUNS", type := .int, accessFlags := 25, slot := 0, constantValue := 0 }, { name := "globals", type := (.object "com/example/plainsong/plainsong/engine/Table"), accessFlags := 18, slot := 0, constantValue := 0 }, { name := "nestedRuns", type := .int, accessFlags := 2, slot := 1, constantValue := 0 }, { name := "clock", type := (.object "com/example/plainsong/plainsong/engine/ProcessorClock"), accessFlags := 2, slot := 2, constantValue := 0 }, { name := "stringMetatable", type := (.object "com/example/plainsong/plainsong/engine/Table"), accessFlags := 2, slot := 3, constantValue := 0 }]
  methods := #[k4m0]
  instanceTypes := #[(.object "com/example/plainsong/plainsong/engine/Table"), .int, (.object "com/example/plainsong/plainsong/engine/ProcessorClock"), (.object "com/example/plainsong/plainsong/engine/Table")]
  staticTypes := #[.int]
  resolved := Array.replicate 102 none
  statics := none }

def pool5 : Array CpInfo := pool [(3, .methodref 4 5), (0, .class_ 6), (0, .nameAndType 7 8), (0, u "java/lang/Object"), (0, u "<init>"), (0, u "()V"), (0, .fieldref 10 11), (0, .class_ 12), (0, .nameAndType 13 14), (0, u "com/example/plainsong/plainsong/engine/Table"), (0, u "EMPTY"), (0, u "[Ljava/lang/Object;"), (0, .fieldref 10 16), (0, .nameAndType 17 14), (0, u "array"), (7, u "hash"), (0, u "Lcom/example/plainsong/plainsong/engine/HashPart;"), (30, u "arrayCount"), (0, u "I"), (38, u "holes"), (0, u "Z"), (30, u "metatable"), (0, u "Lcom/example/plainsong/plainsong/engine/Table;"), (47, u "MAX_LIST")] 34

def k5c0 : Code := { maxStack := 2, maxLocals := 1, code := prog_61_method_1_code, exceptionTable := #[], attributes := #[] }
def k5m0 : Method := { name := "<init>", desc := "()V", sig := { parameters := [], returnType := none }, accessFlags := 1, code := some k5c0 }
/-- com/example/plainsong/plainsong/engine/Table -/
def k5 : Class := { plain "com/example/plainsong/plainsong/engine/Table" (some 0) with
  accessFlags := 49
  interfaces := #[]
  cf := some (fileOf pool5 10 #[] #[{ accessFlags := 1, nameIndex := 7, descriptorIndex := 8, attributes := #[] }] 49 4 #[] #[{ accessFlags := 26, nameIndex := 13, descriptorIndex := 14, attributes := #[] }, { accessFlags := 26, nameIndex := 178, descriptorIndex := 58, attributes := #[] }, { accessFlags := 2, nameIndex := 17, descriptorIndex := 14, attributes := #[] }, { accessFlags := 2, nameIndex := 57, descriptorIndex := 58, attributes := #[] }, { accessFlags := 2, nameIndex := 97, descriptorIndex := 98, attributes := #[] }, { accessFlags := 2, nameIndex := 25, descriptorIndex := 26, attributes := #[] }, { accessFlags := 2, nameIndex := 129, descriptorIndex := 130, attributes := #[] }])
  fields := #[{ name := "EMPTY", type := (.array (.object "java/lang/Object")), accessFlags := 26, slot := 0, constantValue := 0 }, { name := "MAX_LIST", type := .int, accessFlags := 26, slot := 1, constantValue := 0 }, { name := "array", type := (.array (.object "java/lang/Object")), accessFlags := 2, slot := 0, constantValue := 0 }, { name := "arrayCount", type := .int, accessFlags := 2, slot := 1, constantValue := 0 }, { name := "holes", type := .boolean, accessFlags := 2, slot := 2, constantValue := 0 }, { name := "hash", type := (.object "com/example/plainsong/plainsong/engine/HashPart"), accessFlags := 2, slot := 3, constantValue := 0 }, { name := "metatable", type := (.object "com/example/plainsong/plainsong/engine/Table"), accessFlags := 2, slot := 4, constantValue := 0 }]
  methods := #[k5m0]
  instanceTypes := #[(.array (.object "java/lang/Object")), .int, .boolean, (.object "com/example/plainsong/plainsong/engine/HashPart"), (.object "com/example/plainsong/plainsong/engine/Table")]
  staticTypes := #[(.array (.object "java/lang/Object")), .int]
  resolved := Array.replicate 213 none
  statics := some 0 }

def pool6 : Array CpInfo := pool [(1, u "java/lang/Cloneable"), (0, .class_ 1), (0, u "java/lang/Object"), (0, .class_ 3)] 3

/-- java/lang/Cloneable -/
def k6 : Class := { plain "java/lang/Cloneable" (some 0) with
  accessFlags := 1537
  interfaces := #[]
  cf := some (fileOf pool6 2 #[] #[] 1537 4 #[] #[])
  fields := #[]
  methods := #[]
  instanceTypes := #[]
  staticTypes := #[]
  resolved := Array.replicate 8 none
  statics := none }

def pool7 : Array CpInfo := pool [(1, u "java/io/Serializable"), (0, .class_ 1), (0, u "java/lang/Object"), (0, .class_ 3)] 3

/-- java/io/Serializable -/
def k7 : Class := { plain "java/io/Serializable" (some 0) with
  accessFlags := 1537
  interfaces := #[]
  cf := some (fileOf pool7 2 #[] #[] 1537 4 #[] #[])
  fields := #[]
  methods := #[]
  instanceTypes := #[]
  staticTypes := #[]
  resolved := Array.replicate 8 none
  statics := none }

/-- the primitive byte -/
def k8 : Class := { plain "byte" none with kind := .primitive 'B', accessFlags := 0x411 }
/-- [B -/
def k9 : Class := { plain "[B" (some 0) with kind := .array 8 .byte, interfaces := #[6, 7], accessFlags := 1041 }

/-- the primitive int -/
def k10 : Class := { plain "int" none with kind := .primitive 'I', accessFlags := 0x411 }
/-- [I -/
def k11 : Class := { plain "[I" (some 0) with kind := .array 10 .int, interfaces := #[6, 7], accessFlags := 1041 }

/-- [Lcom/example/plainsong/plainsong/engine/CallStack$Activation; -/
def k12 : Class := { plain "[Lcom/example/plainsong/plainsong/engine/CallStack$Activation;" (some 0) with kind := .array 1 (.object "com/example/plainsong/plainsong/engine/CallStack$Activation"), interfaces := #[6, 7], accessFlags := 1041 }

/-- [Ljava/lang/Object; -/
def k13 : Class := { plain "[Ljava/lang/Object;" (some 0) with kind := .array 0 (.object "java/lang/Object"), interfaces := #[6, 7], accessFlags := 1041 }

def heap : Heap := #[{ cls := 5, slots := #[.ref 1, .int 0], vm := .statics 5 },
  { cls := 13, slots := #[], vm := .none }]
def classes : Array Class := #[k0, k1, k2, k3, k4, k5, k6, k7, k8, k9, k10, k11, k12, k13]
def interned : List (Array UInt16 × Addr) := []
def slotsUsed : Nat := 2
def theMethod : MethodId := ⟨2, 2⟩
def args0 : Array Value := #[.int 5, .int 3, .int 7]
def aboutOver (below : List Frame) : State where
  vm := { classes := classes, interned := interned.toArray }
  heap := heap
  slotsUsed := slotsUsed
  threads := #[{ frames := .invoking theMethod args0 :: below }]
def below0 : List Frame := [.native { method := ⟨0, 0⟩, args := #[] }]
def about1 : State := aboutOver below0
def p0 : Program := .bare "" "" ""
def e0 : Env := launch0.env 0 0 0
theorem w_frames : about1.frames = Frame.invoking theMethod args0 :: below0 := rfl
set_option maxRecDepth 65536 in
theorem w_args : argsFit about1.vm theMethod args0 = true := by decide +kernel
set_option maxRecDepth 65536 in
theorem w_heap : heapFits about1 = true := by decide +kernel
set_option maxRecDepth 65536 in
theorem w_runnable : about1.curStatus? = some .runnable := by decide +kernel
set_option maxRecDepth 65536 in
theorem w_alone : about1.alone = true := by decide +kernel
set_option maxRecDepth 65536 in
theorem w_named : about1.methodNamed? x = some theMethod := by decide +kernel
set_option maxRecDepth 65536 in
theorem w_hears : about1.hears theMethod below0 = true := by decide +kernel
set_option maxRecDepth 65536 in
theorem w_ripe : about1.ripe theMethod args0 below0 = true := by decide +kernel
theorem w_running : about1.status = .running := rfl
set_option maxRecDepth 65536 in
theorem w_room : about1.hasRoom e0.platform room_1 = true :=
  launch0.hasRoom_least _ room_1 (by decide +kernel) (by decide +kernel) (by decide +kernel) (by decide +kernel) (by decide +kernel) (by decide +kernel)
theorem allAtoms_all (ts : List Jvm.Cond) (a : Array Jvm.Value) (st : Jvm.State) : (allAtoms ts).before a st = ts.all (fun c => c.before a st) := by
  induction ts with
  | nil => rfl
  | cons c t ih =>
    show (Jvm.Cond.and c (allAtoms t)).before a st = _
    rw [Jvm.Cond.before_and, ih, List.all_cons]
def words1 : List Jvm.Cond := Jvm.Cond.code x code maxLocals ret :: tables_1
/-- a 'code' word, met by the world's own term for the bytes: nothing is compared byte by byte -/
theorem code_word {y : MethodName} {bytes : ByteArray} {mx : Nat} {rt : Option FieldType} {a : Array Value} {s : State} {m : MethodId} {meth : Method} {c : Code} (h1 : s.methodNamed? y = some m) (h2 : s.vm.method? m = some meth) (h3 : meth.code = some c) (h4 : c.code = bytes)
    (h5 : (c.maxLocals == mx && c.exceptionTable.isEmpty && decide (c.maxStack ≤ mostOperands) && decide (meth.sig.returnType = rt) && !meth.locks && decide (parseMethodDescriptor y.desc = some meth.sig)) = true) : (Jvm.Cond.code y bytes mx rt).before a s = true := by
  simp only [Bool.and_eq_true, beq_iff_eq, Bool.not_eq_true', decide_eq_true_eq] at h5
  obtain ⟨⟨⟨⟨⟨g1, g2⟩, g3⟩, g4⟩, g5⟩, g6⟩ := h5
  simp [Cond.before, Cond.holds, Cond.value, h1, h2, h3, h4, g1, g2, g3, g4, g5, g6]
def isCode : Jvm.Cond → Bool
  | .code _ _ _ _ => true
  | _ => false
theorem all_split {L : List Jvm.Cond} {P : Jvm.Cond → Bool} (h1 : L.all (fun c => isCode c || P c) = true) (h2 : ∀ c ∈ L.filter isCode, P c = true) : L.all P = true := by
  refine List.all_eq_true.mpr fun c hc => ?_
  have h := List.all_eq_true.mp h1 c hc
  rcases Bool.eq_false_or_eq_true (isCode c) with hi | hi
  · exact h2 c (List.mem_filter.mpr ⟨hc, hi⟩)
  · simpa [hi] using h
set_option maxRecDepth 65536 in
theorem w_c0 : (Jvm.Cond.code x code maxLocals ret).before args0 about1 = true := code_word (m := ⟨2, 2⟩) (meth := k2m2) (c := k2c2) (by decide +kernel) rfl rfl rfl (by decide +kernel)
set_option maxRecDepth 65536 in
theorem w_c1 : (Jvm.Cond.code ({ cls := "com/example/plainsong/plainsong/engine/CallStackTruncatePinLaw", name := "<init>", desc := "()V" } : Jvm.MethodName) method_1_code (1 : Nat) (Option.none : Option Jvm.ClassFile.FieldType)).before args0 about1 = true := code_word (m := ⟨2, 0⟩) (meth := k2m0) (c := k2c0) (by decide +kernel) rfl rfl rfl (by decide +kernel)
set_option maxRecDepth 65536 in
theorem w_c2 : (Jvm.Cond.code ({ cls := "java/lang/Object", name := "<init>", desc := "()V" } : Jvm.MethodName) object_method_1_code (1 : Nat) (Option.none : Option Jvm.ClassFile.FieldType)).before args0 about1 = true := code_word (m := ⟨0, 0⟩) (meth := k0m0) (c := k0c0) (by decide +kernel) rfl rfl rfl (by decide +kernel)
set_option maxRecDepth 65536 in
theorem w_c3 : (Jvm.Cond.code ({ cls := "com/example/plainsong/plainsong/engine/Interpreter", name := "<init>", desc := "()V" } : Jvm.MethodName) prog_49_method_1_code (1 : Nat) (Option.none : Option Jvm.ClassFile.FieldType)).before args0 about1 = true := code_word (m := ⟨4, 0⟩) (meth := k4m0) (c := k4c0) (by decide +kernel) rfl rfl rfl (by decide +kernel)
set_option maxRecDepth 65536 in
theorem w_c4 : (Jvm.Cond.code ({ cls := "com/example/plainsong/plainsong/engine/Table", name := "<init>", desc := "()V" } : Jvm.MethodName) prog_61_method_1_code (1 : Nat) (Option.none : Option Jvm.ClassFile.FieldType)).before args0 about1 = true := code_word (m := ⟨5, 0⟩) (meth := k5m0) (c := k5c0) (by decide +kernel) rfl rfl rfl (by decide +kernel)
set_option maxRecDepth 65536 in
theorem w_c5 : (Jvm.Cond.code ({ cls := "com/example/plainsong/plainsong/engine/CallStack", name := "<init>", desc := "(Lcom/example/plainsong/plainsong/engine/Interpreter;)V" } : Jvm.MethodName) prog_36_method_1_code (2 : Nat) (Option.none : Option Jvm.ClassFile.FieldType)).before args0 about1 = true := code_word (m := ⟨3, 0⟩) (meth := k3m0) (c := k3c0) (by decide +kernel) rfl rfl rfl (by decide +kernel)
set_option maxRecDepth 65536 in
theorem w_c6 : (Jvm.Cond.code ({ cls := "com/example/plainsong/plainsong/engine/CallStack", name := "truncate", desc := "(I)V" } : Jvm.MethodName) prog_36_method_11_code (3 : Nat) (Option.none : Option Jvm.ClassFile.FieldType)).before args0 about1 = true := code_word (m := ⟨3, 4⟩) (meth := k3m4) (c := k3c4) (by decide +kernel) rfl rfl rfl (by decide +kernel)
set_option maxRecDepth 65536 in
theorem w_c7 : (Jvm.Cond.code ({ cls := "com/example/plainsong/plainsong/engine/CallStack", name := "depth", desc := "()I" } : Jvm.MethodName) prog_36_method_9_code (1 : Nat) (Option.some Jvm.ClassFile.FieldType.int)).before args0 about1 = true := code_word (m := ⟨3, 2⟩) (meth := k3m2) (c := k3c2) (by decide +kernel) rfl rfl rfl (by decide +kernel)
set_option maxRecDepth 65536 in
theorem w_c8 : (Jvm.Cond.code ({ cls := "com/example/plainsong/plainsong/engine/CallStack", name := "entry", desc := "(I)Lcom/example/plainsong/plainsong/engine/CallStack$Activation;" } : Jvm.MethodName) prog_36_method_10_code (2 : Nat) (Option.some (Jvm.ClassFile.FieldType.object "com/example/plainsong/plainsong/engine/CallStack$Activation"))).before args0 about1 = true := code_word (m := ⟨3, 3⟩) (meth := k3m3) (c := k3c3) (by decide +kernel) rfl rfl rfl (by decide +kernel)
set_option maxRecDepth 65536 in
theorem w_c9 : (Jvm.Cond.code ({ cls := "com/example/plainsong/plainsong/engine/CallStackTruncatePinLaw", name := "expected", desc := "(IILcom/example/plainsong/plainsong/engine/CallStack$Activation;)Lcom/example/plainsong/plainsong/engine/CallStack$Activation;" } : Jvm.MethodName) method_6_code (3 : Nat) (Option.some (Jvm.ClassFile.FieldType.object "com/example/plainsong/plainsong/engine/CallStack$Activation"))).before args0 about1 = true := code_word (m := ⟨2, 1⟩) (meth := k2m1) (c := k2c1) (by decide +kernel) rfl rfl rfl (by decide +kernel)
set_option maxRecDepth 65536 in
theorem w_c10 : (Jvm.Cond.code ({ cls := "com/example/plainsong/plainsong/engine/CallStack", name := "push", desc := "(Lcom/example/plainsong/plainsong/engine/CallStack$Activation;)V" } : Jvm.MethodName) prog_36_method_8_code (3 : Nat) (Option.none : Option Jvm.ClassFile.FieldType)).before args0 about1 = true := code_word (m := ⟨3, 1⟩) (meth := k3m1) (c := k3c1) (by decide +kernel) rfl rfl rfl (by decide +kernel)
def codes1 : List Jvm.Cond := [Jvm.Cond.code x code maxLocals ret, Jvm.Cond.code ({ cls := "com/example/plainsong/plainsong/engine/CallStackTruncatePinLaw", name := "<init>", desc := "()V" } : Jvm.MethodName) method_1_code (1 : Nat) (Option.none : Option Jvm.ClassFile.FieldType), Jvm.Cond.code ({ cls := "java/lang/Object", name := "<init>", desc := "()V" } : Jvm.MethodName) object_method_1_code (1 : Nat) (Option.none : Option Jvm.ClassFile.FieldType), Jvm.Cond.code ({ cls := "com/example/plainsong/plainsong/engine/Interpreter", name := "<init>", desc := "()V" } : Jvm.MethodName) prog_49_method_1_code (1 : Nat) (Option.none : Option Jvm.ClassFile.FieldType), Jvm.Cond.code ({ cls := "com/example/plainsong/plainsong/engine/Table", name := "<init>", desc := "()V" } : Jvm.MethodName) prog_61_method_1_code (1 : Nat) (Option.none : Option Jvm.ClassFile.FieldType), Jvm.Cond.code ({ cls := "com/example/plainsong/plainsong/engine/CallStack", name := "<init>", desc := "(Lcom/example/plainsong/plainsong/engine/Interpreter;)V" } : Jvm.MethodName) prog_36_method_1_code (2 : Nat) (Option.none : Option Jvm.ClassFile.FieldType), Jvm.Cond.code ({ cls := "com/example/plainsong/plainsong/engine/CallStack", name := "truncate", desc := "(I)V" } : Jvm.MethodName) prog_36_method_11_code (3 : Nat) (Option.none : Option Jvm.ClassFile.FieldType), Jvm.Cond.code ({ cls := "com/example/plainsong/plainsong/engine/CallStack", name := "depth", desc := "()I" } : Jvm.MethodName) prog_36_method_9_code (1 : Nat) (Option.some Jvm.ClassFile.FieldType.int), Jvm.Cond.code ({ cls := "com/example/plainsong/plainsong/engine/CallStack", name := "entry", desc := "(I)Lcom/example/plainsong/plainsong/engine/CallStack$Activation;" } : Jvm.MethodName) prog_36_method_10_code (2 : Nat) (Option.some (Jvm.ClassFile.FieldType.object "com/example/plainsong/plainsong/engine/CallStack$Activation")), Jvm.Cond.code ({ cls := "com/example/plainsong/plainsong/engine/CallStackTruncatePinLaw", name := "expected", desc := "(IILcom/example/plainsong/plainsong/engine/CallStack$Activation;)Lcom/example/plainsong/plainsong/engine/CallStack$Activation;" } : Jvm.MethodName) method_6_code (3 : Nat) (Option.some (Jvm.ClassFile.FieldType.object "com/example/plainsong/plainsong/engine/CallStack$Activation")), Jvm.Cond.code ({ cls := "com/example/plainsong/plainsong/engine/CallStack", name := "push", desc := "(Lcom/example/plainsong/plainsong/engine/CallStack$Activation;)V" } : Jvm.MethodName) prog_36_method_8_code (3 : Nat) (Option.none : Option Jvm.ClassFile.FieldType)]
set_option maxRecDepth 65536 in
theorem codes_eq : words1.filter isCode = codes1 := rfl
theorem w_codes : ∀ c ∈ words1.filter isCode, c.before args0 about1 = true := by
  rw [codes_eq]
  intro c hc
  simp only [codes1, List.mem_cons, List.not_mem_nil, or_false] at hc
  rcases hc with rfl | rfl | rfl | rfl | rfl | rfl | rfl | rfl | rfl | rfl | rfl
  · exact w_c0
  · exact w_c1
  · exact w_c2
  · exact w_c3
  · exact w_c4
  · exact w_c5
  · exact w_c6
  · exact w_c7
  · exact w_c8
  · exact w_c9
  · exact w_c10
set_option maxRecDepth 65536 in
theorem w_t1 : (words1.take 24).all (fun c => isCode c || c.before args0 about1) = true := by decide +kernel
set_option maxRecDepth 65536 in
theorem w_t2 : ((words1.drop 24).take 24).all (fun c => isCode c || c.before args0 about1) = true := by decide +kernel
set_option maxRecDepth 65536 in
theorem w_t3 : ((words1.drop 24).drop 24).all (fun c => isCode c || c.before args0 about1) = true := by decide +kernel
theorem w_tables : (allAtoms (Jvm.Cond.code x code maxLocals ret :: tables_1)).before args0 about1 = true := by
  rw [allAtoms_all]
  show words1.all (fun c => c.before args0 about1) = true
  refine all_split ?_ w_codes
  rw [← List.take_append_drop 24 words1, List.all_append, w_t1, ← List.take_append_drop 24 (words1.drop 24), List.all_append, w_t2, w_t3]
  rfl
set_option maxRecDepth 65536 in
theorem w_case : (Jvm.Cond.and given_1 narrow_1).before args0 about1 = true := by decide +kernel
theorem w_applies : (headSpec (Jvm.Cond.code x code maxLocals ret :: tables_1) room_1).applies x e0.platform about1 = true :=
  (Spec.applies_iff w_frames).mpr ⟨w_running, w_runnable, w_alone, w_named, w_hears, w_ripe, w_room, w_tables⟩
theorem atStart : AtStart classFile x code maxLocals ret World_1 tables_1 room_1 Calls_1 rest_1 Pre_1 launch0 p0 e0 about1 theMethod args0 below0 :=
  ⟨lists_1, trivial, launch0.admits_env _ _ _, launch0.least_env, fairChoices_fair.cas, fairChoices_fair.clock, w_frames, w_args, w_heap, w_applies, trivial, trivial, w_case⟩
end start1
theorem witness_1 : WitnessClaimed_1 := ⟨start1.p0, start1.e0, start1.about1, start1.theMethod, start1.args0, start1.below0, start1.atStart⟩
end Jvm.Pilot.@@N@@
