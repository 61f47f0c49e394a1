import JvmDerived
import JvmDerived.Pilot.@@N@@Statement
import JvmDerived.Pilot.@@N@@Code
set_option linter.unusedVariables false
set_option linter.unusedSimpArgs false
@@BLOCK:NumsL.lean.txt@@
@@BLOCK:Masks.lean.txt@@
namespace Jvm.RoadKit
open Sem ClassFile Op Lib Jvm.Stand Jvm.Free Jvm.LawKit
section New
variable {p : Program} {l : Launch} {e : Env} {R : Room} {s : State} {m : MethodId} {args : Array Value} {below : List Frame} {meth : Method} {c : Code} {T : State} {locs : List Loc} {cells slots : Nat}
theorem retI (X : Stand p l e R s m args below meth c T locs cells slots) (hx : p.tables.exec = Jvm.exec) {pc : Nat} {Ls : Array Slot} {z : Int32} {rest : List Value} (hret : meth.sig.returnType = some .int) (hd : decode c.code pc = .ok (.ireturn, 1)) {fs : List Frame}
    (hl : ∀ (f : JFrame) (acts : List Action), f.method = m → f.locked = none → f.entered = [] → (doReturn e (T.setTop f) acts (some (.int z))).1 = T.setFrames fs) : Steps p.tables e below (T.setTop (mkF m pc Ls (.int z :: rest))) (T.setFrames fs) := by
  have hm' : T.vm.method? m = some meth := X.method'
  have hn : narrow .int (.int z) = .int z := rfl
  show Steps p.tables e below (T.setTop { method := m, pc := pc, locals := Ls, stack := _ :: rest, locked := none }) _
  jvm_step X.here [X.here.top, hx, hd, hm', hret, hn]
  first | (intro acts; rw [hl _ acts rfl rfl rfl]) | rw [hl _ _ rfl rfl rfl]
  exact Steps.refl _
theorem own_retA (X : Stand p l e R s m args below meth c T locs cells slots) (hx : p.tables.exec = Jvm.exec) {pc : Nat} {Ls : Array Slot} {z : Value} {t : FieldType} {rest : List Value} (hret : meth.sig.returnType = some t) (ht : t.isReference = true) (hz : z.isRef = true) (hd : decode c.code pc = .ok (.areturn, 1)) {fs : List Frame}
    (hl : ∀ (f : JFrame) (acts : List Action), f.method = m → f.locked = none → f.entered = [] → (doReturn e (T.setTop f) acts (some z)).1 = T.setFrames fs) : Steps p.tables e below (T.setTop (mkF m pc Ls (z :: rest))) (T.setFrames fs) := by
  have hm' : T.vm.method? m = some meth := X.method'
  show Steps p.tables e below (T.setTop { method := m, pc := pc, locals := Ls, stack := z :: rest, locked := none }) _
  rcases ref_cases hz with rfl | ⟨a, rfl⟩ <;>
  · jvm_step X.here [X.here.top, hx, hd, hm', hret, ht, Value.isRef]
    first | (intro acts; rw [hl _ acts rfl rfl rfl]) | rw [hl _ _ rfl rfl rfl]
    exact Steps.refl _
end New
end Jvm.RoadKit
namespace Jvm.Pilot.@@N@@
open Jvm Jvm.ClassFile Sem Op Lib Jvm.Free Jvm.Stand Jvm.LawKit Jvm.RoadKit Bundle Jvm.Pilot.@@N@@.Jvm.D
section OwnKit
variable {p : Program} {l : Launch} {e : Env} {R : Room} {s : State} {m : MethodId} {args : Array Value} {below : List Frame} {meth : Method} {c : Code} {T : State} {locs : List Loc} {cells slots : Nat} {Z : State} {a0 : Array Value} {h : Heap}
/-- from the state S the run comes to an end of which Post holds -/
def own_G (tb : Tables) (e : Env) (below : List Frame) (Post : Outcome → State → Prop) (S : State) : Prop := ∃ s₂ o, Steps tb e below S s₂ ∧ s₂.status = .running ∧ Ended s₂ below o ∧ Post o s₂
theorem own_go {tb : Tables} {Post : Outcome → State → Prop} {S S' : State} (k : ∀ t, Steps tb e below S' t → Steps tb e below S t) (h : own_G tb e below Post S') : own_G tb e below Post S := by
  obtain ⟨a, b, st, d⟩ := h
  exact ⟨a, b, k _ st, d⟩
theorem own_join {tb : Tables} {Post : Outcome → State → Prop} {S S' : State} (k : own_G tb e below Post S' → own_G tb e below Post S) (h : own_G tb e below Post S') : own_G tb e below Post S := k h
theorem own_refc {v : Value} (h : v.isRef = true) : v = .null ∨ ∃ a, v = .ref a := by cases v <;> simp [Value.isRef] at h ⊢
theorem own_cat {v : Value} (h : v.isRef = true) : v.category = 1 := by rcases own_refc h with rfl | ⟨a, rfl⟩ <;> rfl
theorem own_end (X : Stand p l e R s m args below meth c T locs cells slots) (hlocks : meth.locks = false) {v : Option Value} (hv : meth.sig.returnType = none → v = none) {S : State} {Q : Option Value → Heap → List Loc → Prop} {rc rs : Nat} (hQ : Q v T.heap locs)
    (st : ∀ fs, (∀ (f : JFrame) (acts : List Action), f.method = m → f.locked = none → f.entered = [] → (doReturn e (T.setTop f) acts v).1 = T.setFrames fs) → Steps p.tables e below S (T.setFrames fs)) (hc : cells ≤ rc) (hs : slots ≤ rs) :
    own_G p.tables e below (fun o U' => ∃ v L, o = .returned v ∧ Q v U'.heap L ∧ FrameEnd s o U' L rc rs) S := by
  obtain ⟨fs, hr, hrun, hended, hW, hsame⟩ := X.leave (v := v) hv hlocks
  exact ⟨_, _, st fs hr, hrun, hended, _, _, rfl, hQ, ⟨_, rfl⟩, hW, hsame.mono hc hs⟩
theorem own_endW {vm₁ : Vm} (X : Stand p l e R (s.setVm vm₁) m args below meth c T locs cells slots) (hlocks : meth.locks = false) {n : Nat} (hS : s.Since vm₁ n) (hn : n ≤ T.heap.size) {v : Option Value} (hv : meth.sig.returnType = none → v = none) {S : State} {Q : Option Value → Heap → List Loc → Prop} {rc rs : Nat} (hQ : Q v T.heap locs)
    (st : ∀ fs, (∀ (f : JFrame) (acts : List Action), f.method = m → f.locked = none → f.entered = [] → (doReturn e (T.setTop f) acts v).1 = T.setFrames fs) → Steps p.tables e below S (T.setFrames fs)) (hc : cells ≤ rc) (hs : slots ≤ rs) :
    own_G p.tables e below (fun o U' => ∃ v L, o = .returned v ∧ Q v U'.heap L ∧ ReturnedEndW s o U' L rc rs) S := by
  obtain ⟨fs, hr, hrun, hended, h1, h2, h3, h4⟩ := X.leaveW hS hn (v := v) hv hlocks
  exact ⟨_, _, st fs hr, hrun, hended, _, _, rfl, hQ, h1, h2, h3, h4.mono hc hs⟩
theorem own_fit {v : Value} {C : String} (h : v.isRef = true) : fits (.object C) v = true := by rcases own_refc h with rfl | ⟨a, rfl⟩ <;> rfl
/-- a pure body's answer: it returns r, writes nothing, makes nothing -/
def QP (r : Option Value) (h0 : Heap) (v : Option Value) (h : Heap) (L : List Loc) : Prop := v = r ∧ L = [] ∧ h = h0
/-- the law's answer: it returns r, writes nothing old -/
def QL (r : Option Value) (n0 : Nat) (v : Option Value) (h : Heap) (L : List Loc) : Prop := v = r ∧ Fr n0 L
theorem own_staKeep {h' : Heap} {C n d : String} {v : Value} {ws : List Addr} (F : Sta Z h C n d v) (K : Keep h h' ws) (q : ∀ x ∈ ws, ∃ cell : Cell, h[x]? = some cell ∧ cell.vm.isStatics = false) : Sta Z h' C n d v := by
  obtain ⟨cf, i, k, f, st, cell, h1, h2, h3, h4, h5, h6, h7⟩ := F
  refine ⟨cf, i, k, f, st, cell, h1, h2, h3, h4, K.2.1 st cell h5 (fun z => ?_), h6, h7⟩
  obtain ⟨c', e1, e2⟩ := q st z
  cases e1.symm.trans h5
  rw [e2] at h6; cases h6
theorem own_mvSame {ref owner name desc : String} (hZ : Z.Warmed39 s.vm) (hmh : ref ≠ "java/lang/invoke/MethodHandle" ∧ ref ≠ "java/lang/invoke/VarHandle") (w : (Jvm.Cond.sameMethod ref owner name desc).before a0 Z = true) : (Jvm.Cond.sameMethod ref owner name desc).before args s = true := by
  have h1 : (Jvm.Cond.sameMethod ref owner name desc).before a0 (Z.setVm s.vm) = true := Cond.sameMethod_setVm hZ.alike hmh w
  exact h1
theorem own_callP (X : Stand p l e R s m args below meth c T locs cells slots) (hx : p.tables.exec = Jvm.exec) (hZ : Z.Warmed39 s.vm) {own : String} {index : Nat} {y : MethodName} {bytes : ByteArray} {maxL : Nat} {ret : Option FieldType} {rm : Room} {r : Option Value} {as' : Array Value}
    (hown : s.vm.findClass own = some m.cls) (w1 : (Jvm.Cond.methodLink own index y).before a0 Z = true) (w2 : (Jvm.Cond.static y).before a0 Z = true) (w3 : (Jvm.Cond.initialized y.cls).before a0 Z = true) (w4 : (Jvm.Cond.code y bytes maxL ret).before a0 Z = true)
    (hy : y.cls ≠ "java/lang/invoke/MethodHandle" ∧ y.cls ≠ "java/lang/invoke/VarHandle") {W : Nat}
    (hM : MetFree l y (head1 [Jvm.Cond.code y bytes maxL ret] rm) (fun a U => a = as' ∧ Z.Warmed39 U.vm ∧ U.heap = h) (fun _ _ _ _ _ => True) (fun _ U o U' => ∃ v L, o = .returned v ∧ QP r h v U'.heap L ∧ FrameEnd U o U' L rm.cells rm.slots))
    (hf : rm.frames + 1 ≤ R.frames) (hl : W + (maxL + 11) + rm.locals ≤ R.locals) (hc : rm.cells = 0) (hs0 : rm.slots = 0) (eT : T.heap = h)
    {g : JFrame} (hg : g.method = m) (hsize : g.locals.size = c.maxLocals) {argsL rest : List Value} (hlen : ∀ sig, parseMethodDescriptor y.desc = some sig → argsL.length = sig.parameters.length) (hstack : g.stack = argsL.reverse ++ rest) (ha : argsL.toArray = as')
    (hW : 2 * g.monitorRoom + (rest.map fun v => v.category).sum ≤ W) (hd : decode c.code g.pc = .ok (.invokestatic index, 3)) (hcr : cells ≤ R.cells) (hsr : slots ≤ R.slots) :
    ∃ T', Stand p l e R s m args below meth c T' locs cells slots ∧ T'.heap = h ∧ ∀ target, Steps p.tables e below (T'.setTop { g with pc := g.pc + 3, stack := r.toList ++ rest }) target → Steps p.tables e below (T.setTop g) target := by
  obtain ⟨_, _, ⟨T1, L1, k1, n1⟩, -, X1, ⟨Lc, hQ, l1, y1, z1⟩, st⟩ := Jvm.LawKit.callS X hx hown (mvT hZ w1) (mvT hZ w2) (mvT hZ w3) (mvT hZ w4) hy (backOf (W := W) hM hZ w4 w3 hf hl) hg hsize hlen hstack hW hd (fun _ _ => ⟨ha, eT, by rw [hc]; exact hcr, by rw [hs0]; exact hsr⟩)
  dsimp only [Pt.U, Pt.locs, Pt.cells, Pt.slots] at X1 l1 y1 z1 st hQ
  obtain ⟨rfl, rfl, e1⟩ := hQ
  rw [List.append_nil] at l1
  rw [hc] at y1
  rw [hs0] at z1
  subst l1 y1 z1
  exact ⟨T1, X1, e1, st⟩
theorem own_callV (X : Stand p l e R s m args below meth c T locs cells slots) (hx : p.tables.exec = Jvm.exec) (hZ : Z.Warmed39 s.vm) {own C : String} {index : Nat} {y : MethodName} {bytes : ByteArray} {maxL : Nat} {ret : Option FieldType} {rm : Room} {r : Option Value} {as' : Array Value} {a : Addr}
    (hown : s.vm.findClass own = some m.cls) (w1 : (Jvm.Cond.methodLink own index y).before a0 Z = true) (w2 : (Jvm.Cond.declares y).before a0 Z = true) (w3 : (Jvm.Cond.selects C y y).before a0 Z = true) (w4 : (Jvm.Cond.instanceMethod y).before a0 Z = true) (w5 : (Jvm.Cond.initialized y.cls).before a0 Z = true) (w6 : (Jvm.Cond.code y bytes maxL ret).before a0 Z = true)
    (hy : y.cls ≠ "java/lang/invoke/MethodHandle" ∧ y.cls ≠ "java/lang/invoke/VarHandle") {W : Nat}
    (hM : MetFree l y (head1 [Jvm.Cond.code y bytes maxL ret] rm) (fun a U => a = as' ∧ Z.Warmed39 U.vm ∧ U.heap = h) (fun _ _ _ _ _ => True) (fun _ U o U' => ∃ v L, o = .returned v ∧ QP r h v U'.heap L ∧ FrameEnd U o U' L rm.cells rm.slots))
    (hf : rm.frames + 1 ≤ R.frames) (hl : W + (maxL + 11) + rm.locals ≤ R.locals) (hc : rm.cells = 0) (hs0 : rm.slots = 0) (eT : T.heap = h) (Ex : Exa Z h a C)
    {g : JFrame} (hg : g.method = m) (hsize : g.locals.size = c.maxLocals) {argsL rest : List Value} (hlen : ∀ sig, parseMethodDescriptor y.desc = some sig → argsL.length = sig.parameters.length) (hstack : g.stack = argsL.reverse ++ .ref a :: rest) (ha : (.ref a :: argsL).toArray = as')
    (hW : 2 * g.monitorRoom + (rest.map fun v => v.category).sum ≤ W) (hd : decode c.code g.pc = .ok (.invokevirtual index, 3)) (hcr : cells ≤ R.cells) (hsr : slots ≤ R.slots) :
    ∃ T', Stand p l e R s m args below meth c T' locs cells slots ∧ T'.heap = h ∧ ∀ target, Steps p.tables e below (T'.setTop { g with pc := g.pc + 3, stack := r.toList ++ rest }) target → Steps p.tables e below (T.setTop g) target := by
  obtain ⟨cq, kq, qa, qb, qc⟩ := isOf hZ eT Ex
  obtain ⟨_, _, ⟨T1, L1, k1, n1⟩, -, X1, ⟨Lc, hQ, l1, y1, z1⟩, st⟩ := X.virtualBack hx hown (mvT hZ w1) (mvT hZ w2) (notFace_of_selects (args := #[]) (mvT hZ w3)) (mvT hZ w3) (mvT hZ w4) hy (backOf (W := W) hM hZ w6 w5 hf hl) qa qc hg hsize (Steps.refl _) hlen hstack hW hd (fun _ _ => ⟨ha, eT, by rw [hc]; exact hcr, by rw [hs0]; exact hsr⟩)
  dsimp only [Pt.U, Pt.locs, Pt.cells, Pt.slots] at X1 l1 y1 z1 st hQ
  obtain ⟨rfl, rfl, e1⟩ := hQ
  rw [List.append_nil] at l1
  rw [hc] at y1
  rw [hs0] at z1
  subst l1 y1 z1
  exact ⟨T1, X1, e1, fun target k => st.trans k⟩
theorem own_callI (X : Stand p l e R s m args below meth c T locs cells slots) (hx : p.tables.exec = Jvm.exec) (hZ : Z.Warmed39 s.vm) {own : String} {index : Nat} {y : MethodName} (hy1 : y.name = "<init>") {bytes : ByteArray} {maxL : Nat} {rm : Room} {as' : Array Value} {a : Addr}
    (hown : s.vm.findClass own = some m.cls) (w1 : (Jvm.Cond.methodLink own index y).before a0 Z = true) (w4 : (Jvm.Cond.instanceMethod y).before a0 Z = true) (w5 : (Jvm.Cond.initialized y.cls).before a0 Z = true) (w6 : (Jvm.Cond.code y bytes maxL none).before a0 Z = true)
    (hy : y.cls ≠ "java/lang/invoke/MethodHandle" ∧ y.cls ≠ "java/lang/invoke/VarHandle") {W : Nat}
    (hM : MetFree l y (head1 [Jvm.Cond.code y bytes maxL none] rm) (fun a U => a = as' ∧ Z.Warmed39 U.vm ∧ U.heap = h) (fun _ _ _ _ _ => True) (fun _ U o U' => ∃ v L, o = .returned v ∧ QP none h v U'.heap L ∧ FrameEnd U o U' L rm.cells rm.slots))
    (hf : rm.frames + 1 ≤ R.frames) (hl : W + (maxL + 11) + rm.locals ≤ R.locals) (hc : rm.cells = 0) (hs0 : rm.slots = 0) (eT : T.heap = h)
    {g : JFrame} (hg : g.method = m) (hsize : g.locals.size = c.maxLocals) {argsL rest : List Value} (hlen : ∀ sig, parseMethodDescriptor y.desc = some sig → argsL.length = sig.parameters.length) (hstack : g.stack = argsL.reverse ++ .ref a :: rest) (ha : (.ref a :: argsL).toArray = as')
    (hW : 2 * g.monitorRoom + (rest.map fun v => v.category).sum ≤ W) (hd : decode c.code g.pc = .ok (.invokespecial index, 3)) (hcr : cells ≤ R.cells) (hsr : slots ≤ R.slots) :
    ∃ T', Stand p l e R s m args below meth c T' locs cells slots ∧ T'.heap = h ∧ ∀ target, Steps p.tables e below (T'.setTop { g with pc := g.pc + 3, stack := rest }) target → Steps p.tables e below (T.setTop g) target := by
  obtain ⟨_, _, ⟨T1, L1, k1, n1⟩, -, X1, ⟨Lc, hQ, l1, y1, z1⟩, st⟩ := X.specialBack hx hy1 hown (mvT hZ w1) (mvT hZ w4) (mvT hZ w6) hy (backOf (W := W) hM hZ w6 w5 hf hl) hg hsize (Steps.refl _) hlen hstack hW hd (fun _ _ => ⟨ha, eT, by rw [hc]; exact hcr, by rw [hs0]; exact hsr⟩)
  dsimp only [Pt.U, Pt.locs, Pt.cells, Pt.slots] at X1 l1 y1 z1 st hQ
  obtain ⟨rfl, rfl, e1⟩ := hQ
  rw [List.append_nil] at l1
  rw [hc] at y1
  rw [hs0] at z1
  subst l1 y1 z1
  exact ⟨T1, X1, e1, fun target k => st.trans k⟩
theorem own_l1 {x y : Int64} (h : x < y) : lcmpW x y < 0 := by rw [lcW]; exact (lc_lt x y).mpr h
theorem own_l2 {x y : Int64} (h : ¬ x < y) : ¬ lcmpW x y < 0 := by rw [lcW]; exact fun q => h ((lc_lt x y).mp q)
theorem own_g1 {x y : Int64} (h : y < x) : 0 < lcmpW x y := by rw [lcW]; exact (lc_gt x y).mpr h
theorem own_g2 {x y : Int64} (h : ¬ y < x) : ¬ 0 < lcmpW x y := by rw [lcW]; exact fun q => h ((lc_gt x y).mp q)
theorem own_e1 {x y : Int64} (h : x = y) : lcmpW x y = 0 := by rw [lcW]; exact (lc_eq x y).mpr h
theorem own_e2 {x y : Int64} (h : ¬ x = y) : ¬ lcmpW x y = 0 := by rw [lcW]; exact fun q => h ((lc_eq x y).mp q)
end OwnKit
theorem own_mod (x m : Int32) (hm : 0 < m.toInt) : 0 ≤ ((x &&& (2147483647 : Int32)) % m).toInt ∧ ((x &&& (2147483647 : Int32)) % m).toInt < m.toInt := by
  have e := Jvm.Kit.i32_mask x 2147483647 (k := 31) (by decide) (by decide)
  have h0 : 0 ≤ (x &&& (2147483647 : Int32)).toInt := by omega
  rw [Jvm.Kit.i32_rem_nonneg h0]
  exact ⟨Int.emod_nonneg _ (by omega), Int.emod_lt_of_pos _ hm⟩
theorem own_ext {x : Int32} {n : Nat} (h : x.toInt = n) (hn : n < 2 ^ 31) : x = Int32.ofNat n := Int32.toInt_inj.mp (by rw [h, Int32.toInt_ofNat_of_lt hn])

def F1 (x0 : Int64) (x1 : Int64) : Int64 :=
  if (-64 : Int64) < x1 then
    if x1 < (64 : Int64) then
      if x1 < (0 : Int64) then
        ((x0.toUInt64 >>> (((-x1).toInt32) &&& 0x3f).toInt64.toUInt64).toInt64)
      else
        (x0 <<< ((x1.toInt32) &&& 0x3f).toInt64)
    else
      (0 : Int64)
  else
    (0 : Int64)
theorem d1_0 : decode prog_86_method_6_code 0 = .ok (.lload_n 2, 1) := by decide +kernel
theorem d1_1 : decode prog_86_method_6_code 1 = .ok (.ldc2_w 80, 3) := by decide +kernel
theorem d1_4 : decode prog_86_method_6_code 4 = .ok (.lcmp, 1) := by decide +kernel
theorem d1_5 : decode prog_86_method_6_code 5 = .ok (.ifCond .le 11, 3) := by decide +kernel
theorem d1_8 : decode prog_86_method_6_code 8 = .ok (.lload_n 2, 1) := by decide +kernel
theorem d1_9 : decode prog_86_method_6_code 9 = .ok (.ldc2_w 82, 3) := by decide +kernel
theorem d1_12 : decode prog_86_method_6_code 12 = .ok (.lcmp, 1) := by decide +kernel
theorem d1_13 : decode prog_86_method_6_code 13 = .ok (.ifCond .lt 5, 3) := by decide +kernel
theorem d1_16 : decode prog_86_method_6_code 16 = .ok (.lconst 0, 1) := by decide +kernel
theorem d1_17 : decode prog_86_method_6_code 17 = .ok (.lreturn, 1) := by decide +kernel
theorem d1_18 : decode prog_86_method_6_code 18 = .ok (.lload_n 2, 1) := by decide +kernel
theorem d1_19 : decode prog_86_method_6_code 19 = .ok (.lconst 0, 1) := by decide +kernel
theorem d1_20 : decode prog_86_method_6_code 20 = .ok (.lcmp, 1) := by decide +kernel
theorem d1_21 : decode prog_86_method_6_code 21 = .ok (.ifCond .lt 10, 3) := by decide +kernel
theorem d1_24 : decode prog_86_method_6_code 24 = .ok (.lload_n 0, 1) := by decide +kernel
theorem d1_25 : decode prog_86_method_6_code 25 = .ok (.lload_n 2, 1) := by decide +kernel
theorem d1_26 : decode prog_86_method_6_code 26 = .ok (.l2i, 1) := by decide +kernel
theorem d1_27 : decode prog_86_method_6_code 27 = .ok (.lshl, 1) := by decide +kernel
theorem d1_28 : decode prog_86_method_6_code 28 = .ok (.goto 8, 3) := by decide +kernel
theorem d1_31 : decode prog_86_method_6_code 31 = .ok (.lload_n 0, 1) := by decide +kernel
theorem d1_32 : decode prog_86_method_6_code 32 = .ok (.lload_n 2, 1) := by decide +kernel
theorem d1_33 : decode prog_86_method_6_code 33 = .ok (.lneg, 1) := by decide +kernel
theorem d1_34 : decode prog_86_method_6_code 34 = .ok (.l2i, 1) := by decide +kernel
theorem d1_35 : decode prog_86_method_6_code 35 = .ok (.lushr, 1) := by decide +kernel
theorem d1_36 : decode prog_86_method_6_code 36 = .ok (.lreturn, 1) := by decide +kernel
theorem own_pn0 : plainName "com/example/plainsong/plainsong/engine/tree/Bitwise" = true := by first | (simp [plainName, overriddenIn]; done) | decide +kernel
theorem ef_1_JJ (m : MethodId) (x0 : Int64) (x1 : Int64) : entryFrame m #[(.long x0), (.long x1)] 4 = mkF m 0 #[.val (.long x0), .second, .val (.long x1), .second] [] := by
  first | (simp [entryFrame, mkF, argsToLocals, Value.category]; done) | rfl
set_option maxRecDepth 65536 in
set_option maxHeartbeats 40000000 in
theorem rm1 (l : Launch) (Z : State) (a0 : Array Value) (hw : ∀ d ∈ tables_1, d.before a0 Z = true) (ws : List Jvm.Cond) (x0 : Int64) (x1 : Int64)  (h0 : Heap)  :
    MetFree l (⟨"com/example/plainsong/plainsong/engine/tree/Bitwise", "shiftLeft", "(JJ)J"⟩ : MethodName) (head1 (Jvm.Cond.code (⟨"com/example/plainsong/plainsong/engine/tree/Bitwise", "shiftLeft", "(JJ)J"⟩ : MethodName) prog_86_method_6_code 4 (some .long) :: ws) ({ frames := 0, cells := 0, slots := 0, locals := 0 } : Room)) (fun a U => a = #[(.long x0), (.long x1)] ∧ Z.Warmed39 U.vm ∧ U.heap = h0) (fun _ _ _ _ _ => True) (fun _ U o U' => ∃ v L, o = .returned v ∧ QP (some (.long (F1 x0 x1))) h0 v U'.heap L ∧ FrameEnd U o U' L ({ frames := 0, cells := 0, slots := 0, locals := 0 } : Room).cells ({ frames := 0, cells := 0, slots := 0, locals := 0 } : Room).slots) := by
  refine MetFree.of_bodySF (plainFor_of_name own_pn0) hisR ?_
  intro p e s m args below meth c s₁ Bd hml0 hP hK
  obtain ⟨rfl, hZ, hh⟩ := hP
  have hx := Bd.exec
  have hby := Bd.bytes
  have hml : c.maxLocals = 4 := hml0
  have hown : s.vm.findClass "com/example/plainsong/plainsong/engine/tree/Bitwise" = some m.cls := findClass_of_methodNamed Bd.named
  have hnm := (name_of_methodNamed Bd.named Bd.method).1
  have X0 : Stand p l e ({ frames := 0, cells := 0, slots := 0, locals := 0 } : Room) s m #[(.long x0), (.long x1)] below meth c s₁ [] 0 0 := Stand.of_body Bd
  have e0 : s₁.heap = h0 := by rw [← hh, Bd.state]; rfl
  show own_G p.tables e below (fun o U' => ∃ v L, o = .returned v ∧ QP (some (.long (F1 x0 x1))) h0 v U'.heap L ∧ FrameEnd s o U' L ({ frames := 0, cells := 0, slots := 0, locals := 0 } : Room).cells ({ frames := 0, cells := 0, slots := 0, locals := 0 } : Room).slots) (s₁.setTop (entryFrame m #[(.long x0), (.long x1)] 4))
  refine own_go (fun _ k => castTop (ef_1_JJ m x0 x1) k) ?_
  show own_G p.tables e below _ (s₁.setTop (mkF m 0 #[.val (.long x0), .second, .val (.long x1), .second] []))
  refine own_go (fun _ k => XS.lloadN X0.here hx rfl (hb hby d1_0) rfl k) ?_
  show own_G p.tables e below _ (s₁.setTop (mkF m 1 #[.val (.long x0), .second, .val (.long x1), .second] [(.long x1)]))
  refine own_go (fun _ k => X0.ldc2Long hx hown (mvT hZ (hw _ (List.mem_of_getElem? (i := 4) rfl))) (g := (mkF m 1 #[.val (.long x0), .second, .val (.long x1), .second] [(.long x1)])) rfl (hb hby d1_1) _ k) ?_
  show own_G p.tables e below _ (s₁.setTop (mkF m 4 #[.val (.long x0), .second, .val (.long x1), .second] [(.long (-64 : Int64)), (.long x1)]))
  refine own_go (fun _ k => XS.lcmp X0.here hx rfl (hb hby d1_4) rfl k) ?_
  show own_G p.tables e below _ (s₁.setTop (mkF m 5 #[.val (.long x0), .second, .val (.long x1), .second] [(.int (lcmpW x1 (-64 : Int64)))]))
  by_cases hc5_1 : (-64 : Int64) < x1
  · refine own_go (fun _ k => XS.ifNo X0.here hx rfl (hb hby d1_5) rfl (((if0 _ _).trans (tlt (own_g1 hc5_1)).2.2.2)) k) ?_
    show own_G p.tables e below _ (s₁.setTop (mkF m 8 #[.val (.long x0), .second, .val (.long x1), .second] []))
    refine own_go (fun _ k => XS.lloadN X0.here hx rfl (hb hby d1_8) rfl k) ?_
    show own_G p.tables e below _ (s₁.setTop (mkF m 9 #[.val (.long x0), .second, .val (.long x1), .second] [(.long x1)]))
    refine own_go (fun _ k => X0.ldc2Long hx hown (mvT hZ (hw _ (List.mem_of_getElem? (i := 5) rfl))) (g := (mkF m 9 #[.val (.long x0), .second, .val (.long x1), .second] [(.long x1)])) rfl (hb hby d1_9) _ k) ?_
    show own_G p.tables e below _ (s₁.setTop (mkF m 12 #[.val (.long x0), .second, .val (.long x1), .second] [(.long (64 : Int64)), (.long x1)]))
    refine own_go (fun _ k => XS.lcmp X0.here hx rfl (hb hby d1_12) rfl k) ?_
    show own_G p.tables e below _ (s₁.setTop (mkF m 13 #[.val (.long x0), .second, .val (.long x1), .second] [(.int (lcmpW x1 (64 : Int64)))]))
    by_cases hc13_2 : x1 < (64 : Int64)
    · refine own_go (fun _ k => XS.ifYes X0.here hx rfl (pc0 := 13) (pc' := 18) rfl (hb hby d1_13) rfl (((if0 _ _).trans (tlt (own_l1 hc13_2)).1)) (by decide) (by decide) k) ?_
      show own_G p.tables e below _ (s₁.setTop (mkF m 18 #[.val (.long x0), .second, .val (.long x1), .second] []))
      refine own_go (fun _ k => XS.lloadN X0.here hx rfl (hb hby d1_18) rfl k) ?_
      show own_G p.tables e below _ (s₁.setTop (mkF m 19 #[.val (.long x0), .second, .val (.long x1), .second] [(.long x1)]))
      refine own_go (fun _ k => XS.lconst X0.here hx rfl (hb hby d1_19) k) ?_
      show own_G p.tables e below _ (s₁.setTop (mkF m 20 #[.val (.long x0), .second, .val (.long x1), .second] [(.long (0 : Int64)), (.long x1)]))
      refine own_go (fun _ k => XS.lcmp X0.here hx rfl (hb hby d1_20) rfl k) ?_
      show own_G p.tables e below _ (s₁.setTop (mkF m 21 #[.val (.long x0), .second, .val (.long x1), .second] [(.int (lcmpW x1 (0 : Int64)))]))
      by_cases hc21_3 : x1 < (0 : Int64)
      · refine own_go (fun _ k => XS.ifYes X0.here hx rfl (pc0 := 21) (pc' := 31) rfl (hb hby d1_21) rfl (((if0 _ _).trans (tlt (own_l1 hc21_3)).1)) (by decide) (by decide) k) ?_
        show own_G p.tables e below _ (s₁.setTop (mkF m 31 #[.val (.long x0), .second, .val (.long x1), .second] []))
        refine own_go (fun _ k => XS.lloadN X0.here hx rfl (hb hby d1_31) rfl k) ?_
        show own_G p.tables e below _ (s₁.setTop (mkF m 32 #[.val (.long x0), .second, .val (.long x1), .second] [(.long x0)]))
        refine own_go (fun _ k => XS.lloadN X0.here hx rfl (hb hby d1_32) rfl k) ?_
        show own_G p.tables e below _ (s₁.setTop (mkF m 33 #[.val (.long x0), .second, .val (.long x1), .second] [(.long x1), (.long x0)]))
        refine own_go (fun _ k => XS.lneg X0.here hx rfl (hb hby d1_33) rfl k) ?_
        show own_G p.tables e below _ (s₁.setTop (mkF m 34 #[.val (.long x0), .second, .val (.long x1), .second] [(.long (-x1)), (.long x0)]))
        refine own_go (fun _ k => XS.l2i X0.here hx rfl (hb hby d1_34) rfl k) ?_
        show own_G p.tables e below _ (s₁.setTop (mkF m 35 #[.val (.long x0), .second, .val (.long x1), .second] [(.int ((-x1).toInt32)), (.long x0)]))
        refine own_go (fun _ k => XS.lushr X0.here hx rfl (hb hby d1_35) rfl k) ?_
        show own_G p.tables e below _ (s₁.setTop (mkF m 36 #[.val (.long x0), .second, .val (.long x1), .second] [(.long ((x0.toUInt64 >>> (((-x1).toInt32) &&& 0x3f).toInt64.toUInt64).toInt64))]))
        exact own_end X0 Bd.notSynchronized (v := some (.long ((x0.toUInt64 >>> (((-x1).toInt32) &&& 0x3f).toInt64.toUInt64).toInt64))) (fun h => by rw [Bd.returns] at h; cases h) (Q := QP (some (.long (F1 x0 x1))) h0) ⟨by unfold F1; simp only [if_pos hc5_1, if_pos hc13_2, if_pos hc21_3]; try rfl, rfl, e0⟩ (fun fs hr => X0.lreturnOut hx Bd.returns (hb hby d1_36) hr) (by decide) (by decide)
      · refine own_go (fun _ k => XS.ifNo X0.here hx rfl (hb hby d1_21) rfl (((if0 _ _).trans (flt (own_l2 hc21_3)).1)) k) ?_
        show own_G p.tables e below _ (s₁.setTop (mkF m 24 #[.val (.long x0), .second, .val (.long x1), .second] []))
        refine own_go (fun _ k => XS.lloadN X0.here hx rfl (hb hby d1_24) rfl k) ?_
        show own_G p.tables e below _ (s₁.setTop (mkF m 25 #[.val (.long x0), .second, .val (.long x1), .second] [(.long x0)]))
        refine own_go (fun _ k => XS.lloadN X0.here hx rfl (hb hby d1_25) rfl k) ?_
        show own_G p.tables e below _ (s₁.setTop (mkF m 26 #[.val (.long x0), .second, .val (.long x1), .second] [(.long x1), (.long x0)]))
        refine own_go (fun _ k => XS.l2i X0.here hx rfl (hb hby d1_26) rfl k) ?_
        show own_G p.tables e below _ (s₁.setTop (mkF m 27 #[.val (.long x0), .second, .val (.long x1), .second] [(.int (x1.toInt32)), (.long x0)]))
        refine own_go (fun _ k => XS.lshl X0.here hx rfl (hb hby d1_27) rfl k) ?_
        show own_G p.tables e below _ (s₁.setTop (mkF m 28 #[.val (.long x0), .second, .val (.long x1), .second] [(.long (x0 <<< ((x1.toInt32) &&& 0x3f).toInt64))]))
        refine own_go (fun _ k => XS.goto X0.here hx rfl (pc0 := 28) (pc' := 36) rfl (hb hby d1_28) (by decide) (by decide) k) ?_
        show own_G p.tables e below _ (s₁.setTop (mkF m 36 #[.val (.long x0), .second, .val (.long x1), .second] [(.long (x0 <<< ((x1.toInt32) &&& 0x3f).toInt64))]))
        exact own_end X0 Bd.notSynchronized (v := some (.long (x0 <<< ((x1.toInt32) &&& 0x3f).toInt64))) (fun h => by rw [Bd.returns] at h; cases h) (Q := QP (some (.long (F1 x0 x1))) h0) ⟨by unfold F1; simp only [if_pos hc5_1, if_pos hc13_2, if_neg hc21_3]; try rfl, rfl, e0⟩ (fun fs hr => X0.lreturnOut hx Bd.returns (hb hby d1_36) hr) (by decide) (by decide)
    · refine own_go (fun _ k => XS.ifNo X0.here hx rfl (hb hby d1_13) rfl (((if0 _ _).trans (flt (own_l2 hc13_2)).1)) k) ?_
      show own_G p.tables e below _ (s₁.setTop (mkF m 16 #[.val (.long x0), .second, .val (.long x1), .second] []))
      refine own_go (fun _ k => XS.lconst X0.here hx rfl (hb hby d1_16) k) ?_
      show own_G p.tables e below _ (s₁.setTop (mkF m 17 #[.val (.long x0), .second, .val (.long x1), .second] [(.long (0 : Int64))]))
      exact own_end X0 Bd.notSynchronized (v := some (.long (0 : Int64))) (fun h => by rw [Bd.returns] at h; cases h) (Q := QP (some (.long (F1 x0 x1))) h0) ⟨by unfold F1; simp only [if_pos hc5_1, if_neg hc13_2]; try rfl, rfl, e0⟩ (fun fs hr => X0.lreturnOut hx Bd.returns (hb hby d1_17) hr) (by decide) (by decide)
  · refine own_go (fun _ k => XS.ifYes X0.here hx rfl (pc0 := 5) (pc' := 16) rfl (hb hby d1_5) rfl (((if0 _ _).trans (flt (own_g2 hc5_1)).2.2.2)) (by decide) (by decide) k) ?_
    show own_G p.tables e below _ (s₁.setTop (mkF m 16 #[.val (.long x0), .second, .val (.long x1), .second] []))
    refine own_go (fun _ k => XS.lconst X0.here hx rfl (hb hby d1_16) k) ?_
    show own_G p.tables e below _ (s₁.setTop (mkF m 17 #[.val (.long x0), .second, .val (.long x1), .second] [(.long (0 : Int64))]))
    exact own_end X0 Bd.notSynchronized (v := some (.long (0 : Int64))) (fun h => by rw [Bd.returns] at h; cases h) (Q := QP (some (.long (F1 x0 x1))) h0) ⟨by unfold F1; simp only [if_neg hc5_1]; try rfl, rfl, e0⟩ (fun fs hr => X0.lreturnOut hx Bd.returns (hb hby d1_17) hr) (by decide) (by decide)
def F2 (x0 : Int64) (x1 : Int32) : Int32 :=
  ((((x0.toUInt64 >>> (x1 &&& 0x3f).toInt64.toUInt64).toInt64) &&& (1 : Int64)).toInt32)
theorem d2_0 : decode method_3_code 0 = .ok (.lload_n 0, 1) := by decide +kernel
theorem d2_1 : decode method_3_code 1 = .ok (.iload_n 2, 1) := by decide +kernel
theorem d2_2 : decode method_3_code 2 = .ok (.lushr, 1) := by decide +kernel
theorem d2_3 : decode method_3_code 3 = .ok (.lconst 1, 1) := by decide +kernel
theorem d2_4 : decode method_3_code 4 = .ok (.land, 1) := by decide +kernel
theorem d2_5 : decode method_3_code 5 = .ok (.l2i, 1) := by decide +kernel
theorem d2_6 : decode method_3_code 6 = .ok (.ireturn, 1) := by decide +kernel
theorem own_pn1 : plainName "com/example/plainsong/plainsong/engine/tree/BitwiseShiftLeftPinLaw" = true := by first | (simp [plainName, overriddenIn]; done) | decide +kernel
theorem ef_2_JI (m : MethodId) (x0 : Int64) (x1 : Int32) : entryFrame m #[(.long x0), (.int x1)] 3 = mkF m 0 #[.val (.long x0), .second, .val (.int x1)] [] := by
  first | (simp [entryFrame, mkF, argsToLocals, Value.category]; done) | rfl
set_option maxRecDepth 65536 in
set_option maxHeartbeats 40000000 in
theorem rm2 (l : Launch) (Z : State) (a0 : Array Value) (hw : ∀ d ∈ tables_1, d.before a0 Z = true) (ws : List Jvm.Cond) (x0 : Int64) (x1 : Int32)  (h0 : Heap)  :
    MetFree l (⟨"com/example/plainsong/plainsong/engine/tree/BitwiseShiftLeftPinLaw", "bit", "(JI)I"⟩ : MethodName) (head1 (Jvm.Cond.code (⟨"com/example/plainsong/plainsong/engine/tree/BitwiseShiftLeftPinLaw", "bit", "(JI)I"⟩ : MethodName) method_3_code 3 (some .int) :: ws) ({ frames := 0, cells := 0, slots := 0, locals := 0 } : Room)) (fun a U => a = #[(.long x0), (.int x1)] ∧ Z.Warmed39 U.vm ∧ U.heap = h0) (fun _ _ _ _ _ => True) (fun _ U o U' => ∃ v L, o = .returned v ∧ QP (some (.int (F2 x0 x1))) h0 v U'.heap L ∧ FrameEnd U o U' L ({ frames := 0, cells := 0, slots := 0, locals := 0 } : Room).cells ({ frames := 0, cells := 0, slots := 0, locals := 0 } : Room).slots) := by
  refine MetFree.of_bodySF (plainFor_of_name own_pn1) hisR ?_
  intro p e s m args below meth c s₁ Bd hml0 hP hK
  obtain ⟨rfl, hZ, hh⟩ := hP
  have hx := Bd.exec
  have hby := Bd.bytes
  have hml : c.maxLocals = 3 := hml0
  have hown : s.vm.findClass "com/example/plainsong/plainsong/engine/tree/BitwiseShiftLeftPinLaw" = some m.cls := findClass_of_methodNamed Bd.named
  have hnm := (name_of_methodNamed Bd.named Bd.method).1
  have X0 : Stand p l e ({ frames := 0, cells := 0, slots := 0, locals := 0 } : Room) s m #[(.long x0), (.int x1)] below meth c s₁ [] 0 0 := Stand.of_body Bd
  have e0 : s₁.heap = h0 := by rw [← hh, Bd.state]; rfl
  show own_G p.tables e below (fun o U' => ∃ v L, o = .returned v ∧ QP (some (.int (F2 x0 x1))) h0 v U'.heap L ∧ FrameEnd s o U' L ({ frames := 0, cells := 0, slots := 0, locals := 0 } : Room).cells ({ frames := 0, cells := 0, slots := 0, locals := 0 } : Room).slots) (s₁.setTop (entryFrame m #[(.long x0), (.int x1)] 3))
  refine own_go (fun _ k => castTop (ef_2_JI m x0 x1) k) ?_
  show own_G p.tables e below _ (s₁.setTop (mkF m 0 #[.val (.long x0), .second, .val (.int x1)] []))
  refine own_go (fun _ k => XS.lloadN X0.here hx rfl (hb hby d2_0) rfl k) ?_
  show own_G p.tables e below _ (s₁.setTop (mkF m 1 #[.val (.long x0), .second, .val (.int x1)] [(.long x0)]))
  refine own_go (fun _ k => XS.iloadN X0.here hx rfl (hb hby d2_1) rfl k) ?_
  show own_G p.tables e below _ (s₁.setTop (mkF m 2 #[.val (.long x0), .second, .val (.int x1)] [(.int x1), (.long x0)]))
  refine own_go (fun _ k => XS.lushr X0.here hx rfl (hb hby d2_2) rfl k) ?_
  show own_G p.tables e below _ (s₁.setTop (mkF m 3 #[.val (.long x0), .second, .val (.int x1)] [(.long ((x0.toUInt64 >>> (x1 &&& 0x3f).toInt64.toUInt64).toInt64))]))
  refine own_go (fun _ k => XS.lconst X0.here hx rfl (hb hby d2_3) k) ?_
  show own_G p.tables e below _ (s₁.setTop (mkF m 4 #[.val (.long x0), .second, .val (.int x1)] [(.long (1 : Int64)), (.long ((x0.toUInt64 >>> (x1 &&& 0x3f).toInt64.toUInt64).toInt64))]))
  refine own_go (fun _ k => XS.land X0.here hx rfl (hb hby d2_4) rfl k) ?_
  show own_G p.tables e below _ (s₁.setTop (mkF m 5 #[.val (.long x0), .second, .val (.int x1)] [(.long (((x0.toUInt64 >>> (x1 &&& 0x3f).toInt64.toUInt64).toInt64) &&& (1 : Int64)))]))
  refine own_go (fun _ k => XS.l2i X0.here hx rfl (hb hby d2_5) rfl k) ?_
  show own_G p.tables e below _ (s₁.setTop (mkF m 6 #[.val (.long x0), .second, .val (.int x1)] [(.int ((((x0.toUInt64 >>> (x1 &&& 0x3f).toInt64.toUInt64).toInt64) &&& (1 : Int64)).toInt32))]))
  exact own_end X0 Bd.notSynchronized (v := some (.int ((((x0.toUInt64 >>> (x1 &&& 0x3f).toInt64.toUInt64).toInt64) &&& (1 : Int64)).toInt32))) (fun h => by rw [Bd.returns] at h; cases h) (Q := QP (some (.int (F2 x0 x1))) h0) ⟨by unfold F2; rfl, rfl, e0⟩ (fun fs hr => retI X0 hx Bd.returns (hb hby d2_6) hr) (by decide) (by decide)
theorem own_pd0 : parseMethodDescriptor "(JJ)J" = some ⟨[.long, .long], some .long⟩ := by decide +kernel
theorem own_pd1 : parseMethodDescriptor "(JI)I" = some ⟨[.long, .int], some .int⟩ := by decide +kernel
def F0 (x0 : Int64) (x1 : Int64) (x2 : Int32) : Int32 :=
  if ((x2 &&& (63 : Int32)).toInt64) < x1 then
    if (F2 (F1 x0 x1) (x2 &&& (63 : Int32))) = (0 : Int32) then
      (nar .boolean (1 : Int32))
    else
      (nar .boolean (0 : Int32))
  else
    if x1 < (((x2 &&& (63 : Int32)).toInt64) - (63 : Int64)) then
      if (F2 (F1 x0 x1) (x2 &&& (63 : Int32))) = (0 : Int32) then
        (nar .boolean (1 : Int32))
      else
        (nar .boolean (0 : Int32))
    else
      if (F2 (F1 x0 x1) (x2 &&& (63 : Int32))) = (F2 x0 ((((x2 &&& (63 : Int32)).toInt64) - x1).toInt32)) then
        (nar .boolean (1 : Int32))
      else
        (nar .boolean (0 : Int32))
theorem ef_0_JJI (m : MethodId) (x0 : Int64) (x1 : Int64) (x2 : Int32) : entryFrame m #[(.long x0), (.long x1), (.int x2)] maxLocals = mkF m 0 #[.val (.long x0), .second, .val (.long x1), .second, .val (.int x2), .unset, .unset, .unset, .unset, .unset] [] := by
  first | (simp [entryFrame, mkF, argsToLocals, Value.category, maxLocals]; done) | rfl
set_option maxRecDepth 65536 in
set_option maxHeartbeats 40000000 in
theorem rm0 (l : Launch) (Z : State) (a0 : Array Value) (hw : ∀ d ∈ tables_1, d.before a0 Z = true) (ws : List Jvm.Cond) (x0 : Int64) (x1 : Int64) (x2 : Int32)  (h0 : Heap)  :
    MetFree l x (head1 (Jvm.Cond.code x code maxLocals ret :: ws) room_1) (fun a U => a = #[(.long x0), (.long x1), (.int x2)] ∧ Z.Warmed39 U.vm ∧ U.heap = h0) (fun _ _ _ _ _ => True) (fun _ U o U' => ∃ v L, o = .returned v ∧ QP (some (.int (F0 x0 x1 x2))) h0 v U'.heap L ∧ FrameEnd U o U' L 0 0) := by
  refine MetFree.of_bodySF (plainFor_of_name own_pn1) hisR ?_
  intro p e s m args below meth c s₁ Bd hml0 hP hK
  obtain ⟨rfl, hZ, hh⟩ := hP
  have hx := Bd.exec
  have hby := Bd.bytes
  have hml : c.maxLocals = 10 := hml0
  have hown : s.vm.findClass "com/example/plainsong/plainsong/engine/tree/BitwiseShiftLeftPinLaw" = some m.cls := findClass_of_methodNamed Bd.named
  have hnm := (name_of_methodNamed Bd.named Bd.method).1
  have X0 : Stand p l e room_1 s m #[(.long x0), (.long x1), (.int x2)] below meth c s₁ [] 0 0 := Stand.of_body Bd
  have e0 : s₁.heap = h0 := by rw [← hh, Bd.state]; rfl
  show own_G p.tables e below (fun o U' => ∃ v L, o = .returned v ∧ QP (some (.int (F0 x0 x1 x2))) h0 v U'.heap L ∧ FrameEnd s o U' L 0 0) (s₁.setTop (entryFrame m #[(.long x0), (.long x1), (.int x2)] maxLocals))
  refine own_go (fun _ k => castTop (ef_0_JJI m x0 x1 x2) k) ?_
  show own_G p.tables e below _ (s₁.setTop (mkF m 0 #[.val (.long x0), .second, .val (.long x1), .second, .val (.int x2), .unset, .unset, .unset, .unset, .unset] []))
  refine own_go (fun _ k => XS.iload X0.here hx rfl (hb hby at_0) rfl k) ?_
  show own_G p.tables e below _ (s₁.setTop (mkF m 2 #[.val (.long x0), .second, .val (.long x1), .second, .val (.int x2), .unset, .unset, .unset, .unset, .unset] [(.int x2)]))
  refine own_go (fun _ k => XS.bipush X0.here hx rfl (hb hby at_2) k) ?_
  show own_G p.tables e below _ (s₁.setTop (mkF m 4 #[.val (.long x0), .second, .val (.long x1), .second, .val (.int x2), .unset, .unset, .unset, .unset, .unset] [(.int (63 : Int32)), (.int x2)]))
  refine own_go (fun _ k => XS.iand X0.here hx rfl (hb hby at_4) rfl k) ?_
  show own_G p.tables e below _ (s₁.setTop (mkF m 5 #[.val (.long x0), .second, .val (.long x1), .second, .val (.int x2), .unset, .unset, .unset, .unset, .unset] [(.int (x2 &&& (63 : Int32)))]))
  refine own_go (fun _ k => XS.istore X0.here hx rfl (hb hby at_5) rfl (l' := #[.val (.long x0), .second, .val (.long x1), .second, .val (.int x2), .val (.int (x2 &&& (63 : Int32))), .unset, .unset, .unset, .unset]) rfl k) ?_
  show own_G p.tables e below _ (s₁.setTop (mkF m 7 #[.val (.long x0), .second, .val (.long x1), .second, .val (.int x2), .val (.int (x2 &&& (63 : Int32))), .unset, .unset, .unset, .unset] []))
  refine own_go (fun _ k => XS.lloadN X0.here hx rfl (hb hby at_7) rfl k) ?_
  show own_G p.tables e below _ (s₁.setTop (mkF m 8 #[.val (.long x0), .second, .val (.long x1), .second, .val (.int x2), .val (.int (x2 &&& (63 : Int32))), .unset, .unset, .unset, .unset] [(.long x0)]))
  refine own_go (fun _ k => XS.lloadN X0.here hx rfl (hb hby at_8) rfl k) ?_
  show own_G p.tables e below _ (s₁.setTop (mkF m 9 #[.val (.long x0), .second, .val (.long x1), .second, .val (.int x2), .val (.int (x2 &&& (63 : Int32))), .unset, .unset, .unset, .unset] [(.long x1), (.long x0)]))
  obtain ⟨T4, X4, e4, st4⟩ := own_callP X0 hx hZ (y := (⟨"com/example/plainsong/plainsong/engine/tree/Bitwise", "shiftLeft", "(JJ)J"⟩ : MethodName)) hown (hw _ (List.mem_of_getElem? (i := 0) rfl)) (hw _ (List.mem_of_getElem? (i := 1) rfl)) (hw _ (List.mem_of_getElem? (i := 2) rfl)) (hw _ (List.mem_of_getElem? (i := 3) rfl)) (by decide) (W := 0) (rm1 l Z a0 hw [] x0 x1  h0 ) (by decide) (by decide) rfl rfl e0 (g := (mkF m 9 #[.val (.long x0), .second, .val (.long x1), .second, .val (.int x2), .val (.int (x2 &&& (63 : Int32))), .unset, .unset, .unset, .unset] [(.long x1), (.long x0)])) rfl (by rw [hml]; rfl) (argsL := [(.long x0), (.long x1)]) (rest := []) (lenOf own_pd0 rfl) rfl rfl (by show 2 * 0 + _ ≤ _; exact Nat.le_of_eq rfl) (hb hby at_9) (by decide) (by decide)
  refine own_go st4 ?_
  show own_G p.tables e below _ (T4.setTop (mkF m 12 #[.val (.long x0), .second, .val (.long x1), .second, .val (.int x2), .val (.int (x2 &&& (63 : Int32))), .unset, .unset, .unset, .unset] [(.long (F1 x0 x1))]))
  refine own_go (fun _ k => XS.lstore X4.here hx rfl (hb hby at_12) rfl (l' := #[.val (.long x0), .second, .val (.long x1), .second, .val (.int x2), .val (.int (x2 &&& (63 : Int32))), .val (.long (F1 x0 x1)), .second, .unset, .unset]) rfl k) ?_
  show own_G p.tables e below _ (T4.setTop (mkF m 14 #[.val (.long x0), .second, .val (.long x1), .second, .val (.int x2), .val (.int (x2 &&& (63 : Int32))), .val (.long (F1 x0 x1)), .second, .unset, .unset] []))
  refine own_go (fun _ k => XS.lloadN X4.here hx rfl (hb hby at_14) rfl k) ?_
  show own_G p.tables e below _ (T4.setTop (mkF m 15 #[.val (.long x0), .second, .val (.long x1), .second, .val (.int x2), .val (.int (x2 &&& (63 : Int32))), .val (.long (F1 x0 x1)), .second, .unset, .unset] [(.long x1)]))
  refine own_go (fun _ k => XS.iload X4.here hx rfl (hb hby at_15) rfl k) ?_
  show own_G p.tables e below _ (T4.setTop (mkF m 17 #[.val (.long x0), .second, .val (.long x1), .second, .val (.int x2), .val (.int (x2 &&& (63 : Int32))), .val (.long (F1 x0 x1)), .second, .unset, .unset] [(.int (x2 &&& (63 : Int32))), (.long x1)]))
  refine own_go (fun _ k => XS.i2l X4.here hx rfl (hb hby at_17) rfl k) ?_
  show own_G p.tables e below _ (T4.setTop (mkF m 18 #[.val (.long x0), .second, .val (.long x1), .second, .val (.int x2), .val (.int (x2 &&& (63 : Int32))), .val (.long (F1 x0 x1)), .second, .unset, .unset] [(.long ((x2 &&& (63 : Int32)).toInt64)), (.long x1)]))
  refine own_go (fun _ k => XS.lcmp X4.here hx rfl (hb hby at_18) rfl k) ?_
  show own_G p.tables e below _ (T4.setTop (mkF m 19 #[.val (.long x0), .second, .val (.long x1), .second, .val (.int x2), .val (.int (x2 &&& (63 : Int32))), .val (.long (F1 x0 x1)), .second, .unset, .unset] [(.int (lcmpW x1 ((x2 &&& (63 : Int32)).toInt64)))]))
  by_cases hc19_5 : ((x2 &&& (63 : Int32)).toInt64) < x1
  · refine own_go (fun _ k => XS.ifYes X4.here hx rfl (pc0 := 19) (pc' := 53) rfl (hb hby at_19) rfl (((if0 _ _).trans (tlt (own_g1 hc19_5)).2.2.1)) (by decide) (by decide) k) ?_
    show own_G p.tables e below _ (T4.setTop (mkF m 53 #[.val (.long x0), .second, .val (.long x1), .second, .val (.int x2), .val (.int (x2 &&& (63 : Int32))), .val (.long (F1 x0 x1)), .second, .unset, .unset] []))
    refine own_go (fun _ k => XS.iconst X4.here hx rfl (hb hby at_53) k) ?_
    show own_G p.tables e below _ (T4.setTop (mkF m 54 #[.val (.long x0), .second, .val (.long x1), .second, .val (.int x2), .val (.int (x2 &&& (63 : Int32))), .val (.long (F1 x0 x1)), .second, .unset, .unset] [(.int (0 : Int32))]))
    refine own_go (fun _ k => XS.istore X4.here hx rfl (hb hby at_54) rfl (l' := #[.val (.long x0), .second, .val (.long x1), .second, .val (.int x2), .val (.int (x2 &&& (63 : Int32))), .val (.long (F1 x0 x1)), .second, .val (.int (0 : Int32)), .unset]) rfl k) ?_
    show own_G p.tables e below _ (T4.setTop (mkF m 56 #[.val (.long x0), .second, .val (.long x1), .second, .val (.int x2), .val (.int (x2 &&& (63 : Int32))), .val (.long (F1 x0 x1)), .second, .val (.int (0 : Int32)), .unset] []))
    refine own_go (fun _ k => XS.lload X4.here hx rfl (hb hby at_56) rfl k) ?_
    show own_G p.tables e below _ (T4.setTop (mkF m 58 #[.val (.long x0), .second, .val (.long x1), .second, .val (.int x2), .val (.int (x2 &&& (63 : Int32))), .val (.long (F1 x0 x1)), .second, .val (.int (0 : Int32)), .unset] [(.long (F1 x0 x1))]))
    refine own_go (fun _ k => XS.iload X4.here hx rfl (hb hby at_58) rfl k) ?_
    show own_G p.tables e below _ (T4.setTop (mkF m 60 #[.val (.long x0), .second, .val (.long x1), .second, .val (.int x2), .val (.int (x2 &&& (63 : Int32))), .val (.long (F1 x0 x1)), .second, .val (.int (0 : Int32)), .unset] [(.int (x2 &&& (63 : Int32))), (.long (F1 x0 x1))]))
    obtain ⟨T6, X6, e6, st6⟩ := own_callP X4 hx hZ (y := (⟨"com/example/plainsong/plainsong/engine/tree/BitwiseShiftLeftPinLaw", "bit", "(JI)I"⟩ : MethodName)) hown (hw _ (List.mem_of_getElem? (i := 6) rfl)) (hw _ (List.mem_of_getElem? (i := 7) rfl)) (hw _ (List.mem_of_getElem? (i := 8) rfl)) (hw _ (List.mem_of_getElem? (i := 9) rfl)) (by decide) (W := 0) (rm2 l Z a0 hw [] (F1 x0 x1) (x2 &&& (63 : Int32))  h0 ) (by decide) (by decide) rfl rfl e4 (g := (mkF m 60 #[.val (.long x0), .second, .val (.long x1), .second, .val (.int x2), .val (.int (x2 &&& (63 : Int32))), .val (.long (F1 x0 x1)), .second, .val (.int (0 : Int32)), .unset] [(.int (x2 &&& (63 : Int32))), (.long (F1 x0 x1))])) rfl (by rw [hml]; rfl) (argsL := [(.long (F1 x0 x1)), (.int (x2 &&& (63 : Int32)))]) (rest := []) (lenOf own_pd1 rfl) rfl rfl (by show 2 * 0 + _ ≤ _; exact Nat.le_of_eq rfl) (hb hby at_60) (by decide) (by decide)
    refine own_go st6 ?_
    show own_G p.tables e below _ (T6.setTop (mkF m 63 #[.val (.long x0), .second, .val (.long x1), .second, .val (.int x2), .val (.int (x2 &&& (63 : Int32))), .val (.long (F1 x0 x1)), .second, .val (.int (0 : Int32)), .unset] [(.int (F2 (F1 x0 x1) (x2 &&& (63 : Int32))))]))
    refine own_go (fun _ k => XS.iload X6.here hx rfl (hb hby at_63) rfl k) ?_
    show own_G p.tables e below _ (T6.setTop (mkF m 65 #[.val (.long x0), .second, .val (.long x1), .second, .val (.int x2), .val (.int (x2 &&& (63 : Int32))), .val (.long (F1 x0 x1)), .second, .val (.int (0 : Int32)), .unset] [(.int (0 : Int32)), (.int (F2 (F1 x0 x1) (x2 &&& (63 : Int32))))]))
    by_cases hc65_7 : (F2 (F1 x0 x1) (x2 &&& (63 : Int32))) = (0 : Int32)
    · refine own_go (fun _ k => XS.icmpNo X6.here hx rfl (hb hby at_65) rfl ((teq hc65_7).2) k) ?_
      show own_G p.tables e below _ (T6.setTop (mkF m 68 #[.val (.long x0), .second, .val (.long x1), .second, .val (.int x2), .val (.int (x2 &&& (63 : Int32))), .val (.long (F1 x0 x1)), .second, .val (.int (0 : Int32)), .unset] []))
      refine own_go (fun _ k => XS.iconst X6.here hx rfl (hb hby at_68) k) ?_
      show own_G p.tables e below _ (T6.setTop (mkF m 69 #[.val (.long x0), .second, .val (.long x1), .second, .val (.int x2), .val (.int (x2 &&& (63 : Int32))), .val (.long (F1 x0 x1)), .second, .val (.int (0 : Int32)), .unset] [(.int (1 : Int32))]))
      refine own_go (fun _ k => XS.goto X6.here hx rfl (pc0 := 69) (pc' := 73) rfl (hb hby at_69) (by decide) (by decide) k) ?_
      show own_G p.tables e below _ (T6.setTop (mkF m 73 #[.val (.long x0), .second, .val (.long x1), .second, .val (.int x2), .val (.int (x2 &&& (63 : Int32))), .val (.long (F1 x0 x1)), .second, .val (.int (0 : Int32)), .unset] [(.int (1 : Int32))]))
      exact own_end X6 Bd.notSynchronized (v := some (.int (nar .boolean (1 : Int32)))) (fun h => by rw [Bd.returns] at h; cases h) (Q := QP (some (.int (F0 x0 x1 x2))) h0) ⟨by unfold F0; simp only [if_pos hc19_5, if_pos hc65_7]; try rfl, rfl, e6⟩ (fun fs hr => retN X6 hx (t := .boolean) Bd.returns (by simp) (hb hby at_73) hr) (by decide) (by decide)
    · refine own_go (fun _ k => XS.icmpYes X6.here hx rfl (pc0 := 65) (pc' := 72) rfl (hb hby at_65) rfl ((feq hc65_7).2) (by decide) (by decide) k) ?_
      show own_G p.tables e below _ (T6.setTop (mkF m 72 #[.val (.long x0), .second, .val (.long x1), .second, .val (.int x2), .val (.int (x2 &&& (63 : Int32))), .val (.long (F1 x0 x1)), .second, .val (.int (0 : Int32)), .unset] []))
      refine own_go (fun _ k => XS.iconst X6.here hx rfl (hb hby at_72) k) ?_
      show own_G p.tables e below _ (T6.setTop (mkF m 73 #[.val (.long x0), .second, .val (.long x1), .second, .val (.int x2), .val (.int (x2 &&& (63 : Int32))), .val (.long (F1 x0 x1)), .second, .val (.int (0 : Int32)), .unset] [(.int (0 : Int32))]))
      exact own_end X6 Bd.notSynchronized (v := some (.int (nar .boolean (0 : Int32)))) (fun h => by rw [Bd.returns] at h; cases h) (Q := QP (some (.int (F0 x0 x1 x2))) h0) ⟨by unfold F0; simp only [if_pos hc19_5, if_neg hc65_7]; try rfl, rfl, e6⟩ (fun fs hr => retN X6 hx (t := .boolean) Bd.returns (by simp) (hb hby at_73) hr) (by decide) (by decide)
  · refine own_go (fun _ k => XS.ifNo X4.here hx rfl (hb hby at_19) rfl (((if0 _ _).trans (flt (own_g2 hc19_5)).2.2.1)) k) ?_
    show own_G p.tables e below _ (T4.setTop (mkF m 22 #[.val (.long x0), .second, .val (.long x1), .second, .val (.int x2), .val (.int (x2 &&& (63 : Int32))), .val (.long (F1 x0 x1)), .second, .unset, .unset] []))
    refine own_go (fun _ k => XS.lloadN X4.here hx rfl (hb hby at_22) rfl k) ?_
    show own_G p.tables e below _ (T4.setTop (mkF m 23 #[.val (.long x0), .second, .val (.long x1), .second, .val (.int x2), .val (.int (x2 &&& (63 : Int32))), .val (.long (F1 x0 x1)), .second, .unset, .unset] [(.long x1)]))
    refine own_go (fun _ k => XS.iload X4.here hx rfl (hb hby at_23) rfl k) ?_
    show own_G p.tables e below _ (T4.setTop (mkF m 25 #[.val (.long x0), .second, .val (.long x1), .second, .val (.int x2), .val (.int (x2 &&& (63 : Int32))), .val (.long (F1 x0 x1)), .second, .unset, .unset] [(.int (x2 &&& (63 : Int32))), (.long x1)]))
    refine own_go (fun _ k => XS.i2l X4.here hx rfl (hb hby at_25) rfl k) ?_
    show own_G p.tables e below _ (T4.setTop (mkF m 26 #[.val (.long x0), .second, .val (.long x1), .second, .val (.int x2), .val (.int (x2 &&& (63 : Int32))), .val (.long (F1 x0 x1)), .second, .unset, .unset] [(.long ((x2 &&& (63 : Int32)).toInt64)), (.long x1)]))
    refine own_go (fun _ k => X4.ldc2Long hx hown (mvT hZ (hw _ (List.mem_of_getElem? (i := 10) rfl))) (g := (mkF m 26 #[.val (.long x0), .second, .val (.long x1), .second, .val (.int x2), .val (.int (x2 &&& (63 : Int32))), .val (.long (F1 x0 x1)), .second, .unset, .unset] [(.long ((x2 &&& (63 : Int32)).toInt64)), (.long x1)])) rfl (hb hby at_26) _ k) ?_
    show own_G p.tables e below _ (T4.setTop (mkF m 29 #[.val (.long x0), .second, .val (.long x1), .second, .val (.int x2), .val (.int (x2 &&& (63 : Int32))), .val (.long (F1 x0 x1)), .second, .unset, .unset] [(.long (63 : Int64)), (.long ((x2 &&& (63 : Int32)).toInt64)), (.long x1)]))
    refine own_go (fun _ k => XS.lsub X4.here hx rfl (hb hby at_29) rfl k) ?_
    show own_G p.tables e below _ (T4.setTop (mkF m 30 #[.val (.long x0), .second, .val (.long x1), .second, .val (.int x2), .val (.int (x2 &&& (63 : Int32))), .val (.long (F1 x0 x1)), .second, .unset, .unset] [(.long (((x2 &&& (63 : Int32)).toInt64) - (63 : Int64))), (.long x1)]))
    refine own_go (fun _ k => XS.lcmp X4.here hx rfl (hb hby at_30) rfl k) ?_
    show own_G p.tables e below _ (T4.setTop (mkF m 31 #[.val (.long x0), .second, .val (.long x1), .second, .val (.int x2), .val (.int (x2 &&& (63 : Int32))), .val (.long (F1 x0 x1)), .second, .unset, .unset] [(.int (lcmpW x1 (((x2 &&& (63 : Int32)).toInt64) - (63 : Int64))))]))
    by_cases hc31_8 : x1 < (((x2 &&& (63 : Int32)).toInt64) - (63 : Int64))
    · refine own_go (fun _ k => XS.ifYes X4.here hx rfl (pc0 := 31) (pc' := 53) rfl (hb hby at_31) rfl (((if0 _ _).trans (tlt (own_l1 hc31_8)).1)) (by decide) (by decide) k) ?_
      show own_G p.tables e below _ (T4.setTop (mkF m 53 #[.val (.long x0), .second, .val (.long x1), .second, .val (.int x2), .val (.int (x2 &&& (63 : Int32))), .val (.long (F1 x0 x1)), .second, .unset, .unset] []))
      refine own_go (fun _ k => XS.iconst X4.here hx rfl (hb hby at_53) k) ?_
      show own_G p.tables e below _ (T4.setTop (mkF m 54 #[.val (.long x0), .second, .val (.long x1), .second, .val (.int x2), .val (.int (x2 &&& (63 : Int32))), .val (.long (F1 x0 x1)), .second, .unset, .unset] [(.int (0 : Int32))]))
      refine own_go (fun _ k => XS.istore X4.here hx rfl (hb hby at_54) rfl (l' := #[.val (.long x0), .second, .val (.long x1), .second, .val (.int x2), .val (.int (x2 &&& (63 : Int32))), .val (.long (F1 x0 x1)), .second, .val (.int (0 : Int32)), .unset]) rfl k) ?_
      show own_G p.tables e below _ (T4.setTop (mkF m 56 #[.val (.long x0), .second, .val (.long x1), .second, .val (.int x2), .val (.int (x2 &&& (63 : Int32))), .val (.long (F1 x0 x1)), .second, .val (.int (0 : Int32)), .unset] []))
      refine own_go (fun _ k => XS.lload X4.here hx rfl (hb hby at_56) rfl k) ?_
      show own_G p.tables e below _ (T4.setTop (mkF m 58 #[.val (.long x0), .second, .val (.long x1), .second, .val (.int x2), .val (.int (x2 &&& (63 : Int32))), .val (.long (F1 x0 x1)), .second, .val (.int (0 : Int32)), .unset] [(.long (F1 x0 x1))]))
      refine own_go (fun _ k => XS.iload X4.here hx rfl (hb hby at_58) rfl k) ?_
      show own_G p.tables e below _ (T4.setTop (mkF m 60 #[.val (.long x0), .second, .val (.long x1), .second, .val (.int x2), .val (.int (x2 &&& (63 : Int32))), .val (.long (F1 x0 x1)), .second, .val (.int (0 : Int32)), .unset] [(.int (x2 &&& (63 : Int32))), (.long (F1 x0 x1))]))
      obtain ⟨T9, X9, e9, st9⟩ := own_callP X4 hx hZ (y := (⟨"com/example/plainsong/plainsong/engine/tree/BitwiseShiftLeftPinLaw", "bit", "(JI)I"⟩ : MethodName)) hown (hw _ (List.mem_of_getElem? (i := 6) rfl)) (hw _ (List.mem_of_getElem? (i := 7) rfl)) (hw _ (List.mem_of_getElem? (i := 8) rfl)) (hw _ (List.mem_of_getElem? (i := 9) rfl)) (by decide) (W := 0) (rm2 l Z a0 hw [] (F1 x0 x1) (x2 &&& (63 : Int32))  h0 ) (by decide) (by decide) rfl rfl e4 (g := (mkF m 60 #[.val (.long x0), .second, .val (.long x1), .second, .val (.int x2), .val (.int (x2 &&& (63 : Int32))), .val (.long (F1 x0 x1)), .second, .val (.int (0 : Int32)), .unset] [(.int (x2 &&& (63 : Int32))), (.long (F1 x0 x1))])) rfl (by rw [hml]; rfl) (argsL := [(.long (F1 x0 x1)), (.int (x2 &&& (63 : Int32)))]) (rest := []) (lenOf own_pd1 rfl) rfl rfl (by show 2 * 0 + _ ≤ _; exact Nat.le_of_eq rfl) (hb hby at_60) (by decide) (by decide)
      refine own_go st9 ?_
      show own_G p.tables e below _ (T9.setTop (mkF m 63 #[.val (.long x0), .second, .val (.long x1), .second, .val (.int x2), .val (.int (x2 &&& (63 : Int32))), .val (.long (F1 x0 x1)), .second, .val (.int (0 : Int32)), .unset] [(.int (F2 (F1 x0 x1) (x2 &&& (63 : Int32))))]))
      refine own_go (fun _ k => XS.iload X9.here hx rfl (hb hby at_63) rfl k) ?_
      show own_G p.tables e below _ (T9.setTop (mkF m 65 #[.val (.long x0), .second, .val (.long x1), .second, .val (.int x2), .val (.int (x2 &&& (63 : Int32))), .val (.long (F1 x0 x1)), .second, .val (.int (0 : Int32)), .unset] [(.int (0 : Int32)), (.int (F2 (F1 x0 x1) (x2 &&& (63 : Int32))))]))
      by_cases hc65_10 : (F2 (F1 x0 x1) (x2 &&& (63 : Int32))) = (0 : Int32)
      · refine own_go (fun _ k => XS.icmpNo X9.here hx rfl (hb hby at_65) rfl ((teq hc65_10).2) k) ?_
        show own_G p.tables e below _ (T9.setTop (mkF m 68 #[.val (.long x0), .second, .val (.long x1), .second, .val (.int x2), .val (.int (x2 &&& (63 : Int32))), .val (.long (F1 x0 x1)), .second, .val (.int (0 : Int32)), .unset] []))
        refine own_go (fun _ k => XS.iconst X9.here hx rfl (hb hby at_68) k) ?_
        show own_G p.tables e below _ (T9.setTop (mkF m 69 #[.val (.long x0), .second, .val (.long x1), .second, .val (.int x2), .val (.int (x2 &&& (63 : Int32))), .val (.long (F1 x0 x1)), .second, .val (.int (0 : Int32)), .unset] [(.int (1 : Int32))]))
        refine own_go (fun _ k => XS.goto X9.here hx rfl (pc0 := 69) (pc' := 73) rfl (hb hby at_69) (by decide) (by decide) k) ?_
        show own_G p.tables e below _ (T9.setTop (mkF m 73 #[.val (.long x0), .second, .val (.long x1), .second, .val (.int x2), .val (.int (x2 &&& (63 : Int32))), .val (.long (F1 x0 x1)), .second, .val (.int (0 : Int32)), .unset] [(.int (1 : Int32))]))
        exact own_end X9 Bd.notSynchronized (v := some (.int (nar .boolean (1 : Int32)))) (fun h => by rw [Bd.returns] at h; cases h) (Q := QP (some (.int (F0 x0 x1 x2))) h0) ⟨by unfold F0; simp only [if_neg hc19_5, if_pos hc31_8, if_pos hc65_10]; try rfl, rfl, e9⟩ (fun fs hr => retN X9 hx (t := .boolean) Bd.returns (by simp) (hb hby at_73) hr) (by decide) (by decide)
      · refine own_go (fun _ k => XS.icmpYes X9.here hx rfl (pc0 := 65) (pc' := 72) rfl (hb hby at_65) rfl ((feq hc65_10).2) (by decide) (by decide) k) ?_
        show own_G p.tables e below _ (T9.setTop (mkF m 72 #[.val (.long x0), .second, .val (.long x1), .second, .val (.int x2), .val (.int (x2 &&& (63 : Int32))), .val (.long (F1 x0 x1)), .second, .val (.int (0 : Int32)), .unset] []))
        refine own_go (fun _ k => XS.iconst X9.here hx rfl (hb hby at_72) k) ?_
        show own_G p.tables e below _ (T9.setTop (mkF m 73 #[.val (.long x0), .second, .val (.long x1), .second, .val (.int x2), .val (.int (x2 &&& (63 : Int32))), .val (.long (F1 x0 x1)), .second, .val (.int (0 : Int32)), .unset] [(.int (0 : Int32))]))
        exact own_end X9 Bd.notSynchronized (v := some (.int (nar .boolean (0 : Int32)))) (fun h => by rw [Bd.returns] at h; cases h) (Q := QP (some (.int (F0 x0 x1 x2))) h0) ⟨by unfold F0; simp only [if_neg hc19_5, if_pos hc31_8, if_neg hc65_10]; try rfl, rfl, e9⟩ (fun fs hr => retN X9 hx (t := .boolean) Bd.returns (by simp) (hb hby at_73) hr) (by decide) (by decide)
    · refine own_go (fun _ k => XS.ifNo X4.here hx rfl (hb hby at_31) rfl (((if0 _ _).trans (flt (own_l2 hc31_8)).1)) k) ?_
      show own_G p.tables e below _ (T4.setTop (mkF m 34 #[.val (.long x0), .second, .val (.long x1), .second, .val (.int x2), .val (.int (x2 &&& (63 : Int32))), .val (.long (F1 x0 x1)), .second, .unset, .unset] []))
      refine own_go (fun _ k => XS.iload X4.here hx rfl (hb hby at_34) rfl k) ?_
      show own_G p.tables e below _ (T4.setTop (mkF m 36 #[.val (.long x0), .second, .val (.long x1), .second, .val (.int x2), .val (.int (x2 &&& (63 : Int32))), .val (.long (F1 x0 x1)), .second, .unset, .unset] [(.int (x2 &&& (63 : Int32)))]))
      refine own_go (fun _ k => XS.i2l X4.here hx rfl (hb hby at_36) rfl k) ?_
      show own_G p.tables e below _ (T4.setTop (mkF m 37 #[.val (.long x0), .second, .val (.long x1), .second, .val (.int x2), .val (.int (x2 &&& (63 : Int32))), .val (.long (F1 x0 x1)), .second, .unset, .unset] [(.long ((x2 &&& (63 : Int32)).toInt64))]))
      refine own_go (fun _ k => XS.lloadN X4.here hx rfl (hb hby at_37) rfl k) ?_
      show own_G p.tables e below _ (T4.setTop (mkF m 38 #[.val (.long x0), .second, .val (.long x1), .second, .val (.int x2), .val (.int (x2 &&& (63 : Int32))), .val (.long (F1 x0 x1)), .second, .unset, .unset] [(.long x1), (.long ((x2 &&& (63 : Int32)).toInt64))]))
      refine own_go (fun _ k => XS.lsub X4.here hx rfl (hb hby at_38) rfl k) ?_
      show own_G p.tables e below _ (T4.setTop (mkF m 39 #[.val (.long x0), .second, .val (.long x1), .second, .val (.int x2), .val (.int (x2 &&& (63 : Int32))), .val (.long (F1 x0 x1)), .second, .unset, .unset] [(.long (((x2 &&& (63 : Int32)).toInt64) - x1))]))
      refine own_go (fun _ k => XS.l2i X4.here hx rfl (hb hby at_39) rfl k) ?_
      show own_G p.tables e below _ (T4.setTop (mkF m 40 #[.val (.long x0), .second, .val (.long x1), .second, .val (.int x2), .val (.int (x2 &&& (63 : Int32))), .val (.long (F1 x0 x1)), .second, .unset, .unset] [(.int ((((x2 &&& (63 : Int32)).toInt64) - x1).toInt32))]))
      refine own_go (fun _ k => XS.istore X4.here hx rfl (hb hby at_40) rfl (l' := #[.val (.long x0), .second, .val (.long x1), .second, .val (.int x2), .val (.int (x2 &&& (63 : Int32))), .val (.long (F1 x0 x1)), .second, .unset, .val (.int ((((x2 &&& (63 : Int32)).toInt64) - x1).toInt32))]) rfl k) ?_
      show own_G p.tables e below _ (T4.setTop (mkF m 42 #[.val (.long x0), .second, .val (.long x1), .second, .val (.int x2), .val (.int (x2 &&& (63 : Int32))), .val (.long (F1 x0 x1)), .second, .unset, .val (.int ((((x2 &&& (63 : Int32)).toInt64) - x1).toInt32))] []))
      refine own_go (fun _ k => XS.lloadN X4.here hx rfl (hb hby at_42) rfl k) ?_
      show own_G p.tables e below _ (T4.setTop (mkF m 43 #[.val (.long x0), .second, .val (.long x1), .second, .val (.int x2), .val (.int (x2 &&& (63 : Int32))), .val (.long (F1 x0 x1)), .second, .unset, .val (.int ((((x2 &&& (63 : Int32)).toInt64) - x1).toInt32))] [(.long x0)]))
      refine own_go (fun _ k => XS.iload X4.here hx rfl (hb hby at_43) rfl k) ?_
      show own_G p.tables e below _ (T4.setTop (mkF m 45 #[.val (.long x0), .second, .val (.long x1), .second, .val (.int x2), .val (.int (x2 &&& (63 : Int32))), .val (.long (F1 x0 x1)), .second, .unset, .val (.int ((((x2 &&& (63 : Int32)).toInt64) - x1).toInt32))] [(.int ((((x2 &&& (63 : Int32)).toInt64) - x1).toInt32)), (.long x0)]))
      obtain ⟨T11, X11, e11, st11⟩ := own_callP X4 hx hZ (y := (⟨"com/example/plainsong/plainsong/engine/tree/BitwiseShiftLeftPinLaw", "bit", "(JI)I"⟩ : MethodName)) hown (hw _ (List.mem_of_getElem? (i := 6) rfl)) (hw _ (List.mem_of_getElem? (i := 7) rfl)) (hw _ (List.mem_of_getElem? (i := 8) rfl)) (hw _ (List.mem_of_getElem? (i := 9) rfl)) (by decide) (W := 0) (rm2 l Z a0 hw [] x0 ((((x2 &&& (63 : Int32)).toInt64) - x1).toInt32)  h0 ) (by decide) (by decide) rfl rfl e4 (g := (mkF m 45 #[.val (.long x0), .second, .val (.long x1), .second, .val (.int x2), .val (.int (x2 &&& (63 : Int32))), .val (.long (F1 x0 x1)), .second, .unset, .val (.int ((((x2 &&& (63 : Int32)).toInt64) - x1).toInt32))] [(.int ((((x2 &&& (63 : Int32)).toInt64) - x1).toInt32)), (.long x0)])) rfl (by rw [hml]; rfl) (argsL := [(.long x0), (.int ((((x2 &&& (63 : Int32)).toInt64) - x1).toInt32))]) (rest := []) (lenOf own_pd1 rfl) rfl rfl (by show 2 * 0 + _ ≤ _; exact Nat.le_of_eq rfl) (hb hby at_45) (by decide) (by decide)
      refine own_go st11 ?_
      show own_G p.tables e below _ (T11.setTop (mkF m 48 #[.val (.long x0), .second, .val (.long x1), .second, .val (.int x2), .val (.int (x2 &&& (63 : Int32))), .val (.long (F1 x0 x1)), .second, .unset, .val (.int ((((x2 &&& (63 : Int32)).toInt64) - x1).toInt32))] [(.int (F2 x0 ((((x2 &&& (63 : Int32)).toInt64) - x1).toInt32)))]))
      refine own_go (fun _ k => XS.istore X11.here hx rfl (hb hby at_48) rfl (l' := #[.val (.long x0), .second, .val (.long x1), .second, .val (.int x2), .val (.int (x2 &&& (63 : Int32))), .val (.long (F1 x0 x1)), .second, .val (.int (F2 x0 ((((x2 &&& (63 : Int32)).toInt64) - x1).toInt32))), .val (.int ((((x2 &&& (63 : Int32)).toInt64) - x1).toInt32))]) rfl k) ?_
      show own_G p.tables e below _ (T11.setTop (mkF m 50 #[.val (.long x0), .second, .val (.long x1), .second, .val (.int x2), .val (.int (x2 &&& (63 : Int32))), .val (.long (F1 x0 x1)), .second, .val (.int (F2 x0 ((((x2 &&& (63 : Int32)).toInt64) - x1).toInt32))), .val (.int ((((x2 &&& (63 : Int32)).toInt64) - x1).toInt32))] []))
      refine own_go (fun _ k => XS.goto X11.here hx rfl (pc0 := 50) (pc' := 56) rfl (hb hby at_50) (by decide) (by decide) k) ?_
      show own_G p.tables e below _ (T11.setTop (mkF m 56 #[.val (.long x0), .second, .val (.long x1), .second, .val (.int x2), .val (.int (x2 &&& (63 : Int32))), .val (.long (F1 x0 x1)), .second, .val (.int (F2 x0 ((((x2 &&& (63 : Int32)).toInt64) - x1).toInt32))), .val (.int ((((x2 &&& (63 : Int32)).toInt64) - x1).toInt32))] []))
      refine own_go (fun _ k => XS.lload X11.here hx rfl (hb hby at_56) rfl k) ?_
      show own_G p.tables e below _ (T11.setTop (mkF m 58 #[.val (.long x0), .second, .val (.long x1), .second, .val (.int x2), .val (.int (x2 &&& (63 : Int32))), .val (.long (F1 x0 x1)), .second, .val (.int (F2 x0 ((((x2 &&& (63 : Int32)).toInt64) - x1).toInt32))), .val (.int ((((x2 &&& (63 : Int32)).toInt64) - x1).toInt32))] [(.long (F1 x0 x1))]))
      refine own_go (fun _ k => XS.iload X11.here hx rfl (hb hby at_58) rfl k) ?_
      show own_G p.tables e below _ (T11.setTop (mkF m 60 #[.val (.long x0), .second, .val (.long x1), .second, .val (.int x2), .val (.int (x2 &&& (63 : Int32))), .val (.long (F1 x0 x1)), .second, .val (.int (F2 x0 ((((x2 &&& (63 : Int32)).toInt64) - x1).toInt32))), .val (.int ((((x2 &&& (63 : Int32)).toInt64) - x1).toInt32))] [(.int (x2 &&& (63 : Int32))), (.long (F1 x0 x1))]))
      obtain ⟨T12, X12, e12, st12⟩ := own_callP X11 hx hZ (y := (⟨"com/example/plainsong/plainsong/engine/tree/BitwiseShiftLeftPinLaw", "bit", "(JI)I"⟩ : MethodName)) hown (hw _ (List.mem_of_getElem? (i := 6) rfl)) (hw _ (List.mem_of_getElem? (i := 7) rfl)) (hw _ (List.mem_of_getElem? (i := 8) rfl)) (hw _ (List.mem_of_getElem? (i := 9) rfl)) (by decide) (W := 0) (rm2 l Z a0 hw [] (F1 x0 x1) (x2 &&& (63 : Int32))  h0 ) (by decide) (by decide) rfl rfl e11 (g := (mkF m 60 #[.val (.long x0), .second, .val (.long x1), .second, .val (.int x2), .val (.int (x2 &&& (63 : Int32))), .val (.long (F1 x0 x1)), .second, .val (.int (F2 x0 ((((x2 &&& (63 : Int32)).toInt64) - x1).toInt32))), .val (.int ((((x2 &&& (63 : Int32)).toInt64) - x1).toInt32))] [(.int (x2 &&& (63 : Int32))), (.long (F1 x0 x1))])) rfl (by rw [hml]; rfl) (argsL := [(.long (F1 x0 x1)), (.int (x2 &&& (63 : Int32)))]) (rest := []) (lenOf own_pd1 rfl) rfl rfl (by show 2 * 0 + _ ≤ _; exact Nat.le_of_eq rfl) (hb hby at_60) (by decide) (by decide)
      refine own_go st12 ?_
      show own_G p.tables e below _ (T12.setTop (mkF m 63 #[.val (.long x0), .second, .val (.long x1), .second, .val (.int x2), .val (.int (x2 &&& (63 : Int32))), .val (.long (F1 x0 x1)), .second, .val (.int (F2 x0 ((((x2 &&& (63 : Int32)).toInt64) - x1).toInt32))), .val (.int ((((x2 &&& (63 : Int32)).toInt64) - x1).toInt32))] [(.int (F2 (F1 x0 x1) (x2 &&& (63 : Int32))))]))
      refine own_go (fun _ k => XS.iload X12.here hx rfl (hb hby at_63) rfl k) ?_
      show own_G p.tables e below _ (T12.setTop (mkF m 65 #[.val (.long x0), .second, .val (.long x1), .second, .val (.int x2), .val (.int (x2 &&& (63 : Int32))), .val (.long (F1 x0 x1)), .second, .val (.int (F2 x0 ((((x2 &&& (63 : Int32)).toInt64) - x1).toInt32))), .val (.int ((((x2 &&& (63 : Int32)).toInt64) - x1).toInt32))] [(.int (F2 x0 ((((x2 &&& (63 : Int32)).toInt64) - x1).toInt32))), (.int (F2 (F1 x0 x1) (x2 &&& (63 : Int32))))]))
      by_cases hc65_13 : (F2 (F1 x0 x1) (x2 &&& (63 : Int32))) = (F2 x0 ((((x2 &&& (63 : Int32)).toInt64) - x1).toInt32))
      · refine own_go (fun _ k => XS.icmpNo X12.here hx rfl (hb hby at_65) rfl ((teq hc65_13).2) k) ?_
        show own_G p.tables e below _ (T12.setTop (mkF m 68 #[.val (.long x0), .second, .val (.long x1), .second, .val (.int x2), .val (.int (x2 &&& (63 : Int32))), .val (.long (F1 x0 x1)), .second, .val (.int (F2 x0 ((((x2 &&& (63 : Int32)).toInt64) - x1).toInt32))), .val (.int ((((x2 &&& (63 : Int32)).toInt64) - x1).toInt32))] []))
        refine own_go (fun _ k => XS.iconst X12.here hx rfl (hb hby at_68) k) ?_
        show own_G p.tables e below _ (T12.setTop (mkF m 69 #[.val (.long x0), .second, .val (.long x1), .second, .val (.int x2), .val (.int (x2 &&& (63 : Int32))), .val (.long (F1 x0 x1)), .second, .val (.int (F2 x0 ((((x2 &&& (63 : Int32)).toInt64) - x1).toInt32))), .val (.int ((((x2 &&& (63 : Int32)).toInt64) - x1).toInt32))] [(.int (1 : Int32))]))
        refine own_go (fun _ k => XS.goto X12.here hx rfl (pc0 := 69) (pc' := 73) rfl (hb hby at_69) (by decide) (by decide) k) ?_
        show own_G p.tables e below _ (T12.setTop (mkF m 73 #[.val (.long x0), .second, .val (.long x1), .second, .val (.int x2), .val (.int (x2 &&& (63 : Int32))), .val (.long (F1 x0 x1)), .second, .val (.int (F2 x0 ((((x2 &&& (63 : Int32)).toInt64) - x1).toInt32))), .val (.int ((((x2 &&& (63 : Int32)).toInt64) - x1).toInt32))] [(.int (1 : Int32))]))
        exact own_end X12 Bd.notSynchronized (v := some (.int (nar .boolean (1 : Int32)))) (fun h => by rw [Bd.returns] at h; cases h) (Q := QP (some (.int (F0 x0 x1 x2))) h0) ⟨by unfold F0; simp only [if_neg hc19_5, if_neg hc31_8, if_pos hc65_13]; try rfl, rfl, e12⟩ (fun fs hr => retN X12 hx (t := .boolean) Bd.returns (by simp) (hb hby at_73) hr) (by decide) (by decide)
      · refine own_go (fun _ k => XS.icmpYes X12.here hx rfl (pc0 := 65) (pc' := 72) rfl (hb hby at_65) rfl ((feq hc65_13).2) (by decide) (by decide) k) ?_
        show own_G p.tables e below _ (T12.setTop (mkF m 72 #[.val (.long x0), .second, .val (.long x1), .second, .val (.int x2), .val (.int (x2 &&& (63 : Int32))), .val (.long (F1 x0 x1)), .second, .val (.int (F2 x0 ((((x2 &&& (63 : Int32)).toInt64) - x1).toInt32))), .val (.int ((((x2 &&& (63 : Int32)).toInt64) - x1).toInt32))] []))
        refine own_go (fun _ k => XS.iconst X12.here hx rfl (hb hby at_72) k) ?_
        show own_G p.tables e below _ (T12.setTop (mkF m 73 #[.val (.long x0), .second, .val (.long x1), .second, .val (.int x2), .val (.int (x2 &&& (63 : Int32))), .val (.long (F1 x0 x1)), .second, .val (.int (F2 x0 ((((x2 &&& (63 : Int32)).toInt64) - x1).toInt32))), .val (.int ((((x2 &&& (63 : Int32)).toInt64) - x1).toInt32))] [(.int (0 : Int32))]))
        exact own_end X12 Bd.notSynchronized (v := some (.int (nar .boolean (0 : Int32)))) (fun h => by rw [Bd.returns] at h; cases h) (Q := QP (some (.int (F0 x0 x1 x2))) h0) ⟨by unfold F0; simp only [if_neg hc19_5, if_neg hc31_8, if_neg hc65_13]; try rfl, rfl, e12⟩ (fun fs hr => retN X12 hx (t := .boolean) Bd.returns (by simp) (hb hby at_73) hr) (by decide) (by decide)
theorem own_mask6 (x : Int32) : ∃ n : Nat, n < 64 ∧ (x &&& (63 : Int32)) = Int32.ofNat n := by
  have e := Jvm.Kit.i32_mask x 63 (k := 6) (by decide) (by decide)
  refine ⟨(x &&& (63 : Int32)).toInt.toNat, by omega, own_ext (by omega) (by omega)⟩
theorem own_bit (x : Int64) (n : Nat) (hn : n < 64) : F2 x (Int32.ofNat n) = if x.toBitVec.getLsbD n then 1 else 0 := by
  have e : ((Int32.ofNat n) &&& 0x3f).toInt64.toUInt64 = UInt64.ofNat n := (by decide +kernel : ∀ n : Fin 64, ((Int32.ofNat n.val) &&& 0x3f).toInt64.toUInt64 = UInt64.ofNat n.val) ⟨n, hn⟩
  have e2 : (x.toUInt64 >>> UInt64.ofNat n).toInt64.toBitVec = x.toBitVec >>> n := by
    show (x.toUInt64 >>> UInt64.ofNat n).toBitVec = _
    rw [UInt64.toBitVec_shiftRight, BitVec.ushiftRight_eq']
    have : ((UInt64.ofNat n).toBitVec % 64).toNat = n := (by decide +kernel : ∀ n : Fin 64, ((UInt64.ofNat n.val).toBitVec % 64).toNat = n.val) ⟨n, hn⟩
    rw [this]; rfl
  have e3 : ((x.toUInt64 >>> UInt64.ofNat n).toInt64 &&& (1 : Int64)).toBitVec = if x.toBitVec.getLsbD n then 1#64 else 0#64 := by
    rw [Int64.toBitVec_and, e2]
    show x.toBitVec >>> n &&& 1#64 = _
    rw [BitVec.and_one_eq_setWidth_ofBool_getLsbD, BitVec.getLsbD_ushiftRight]
    simp only [Nat.add_zero]
    cases x.toBitVec.getLsbD n <;> rfl
  unfold F2
  rw [e]
  cases hb : x.toBitVec.getLsbD n
  · rw [hb] at e3
    have e4 : (x.toUInt64 >>> UInt64.ofNat n).toInt64 &&& (1 : Int64) = 0 := Int64.toBitVec_inj.mp e3
    rw [e4]; rfl
  · rw [hb] at e3
    have e4 : (x.toUInt64 >>> UInt64.ofNat n).toInt64 &&& (1 : Int64) = 1 := Int64.toBitVec_inj.mp e3
    rw [e4]; rfl
theorem own_shl (x : Int64) (k : Nat) (hk : k < 64) : (F1 x (Int64.ofNat k)).toBitVec = x.toBitVec <<< k := by
  have h1 : (-64 : Int64) < Int64.ofNat k := (by decide +kernel : ∀ n : Fin 64, (-64 : Int64) < Int64.ofNat n.val) ⟨k, hk⟩
  have h2 : Int64.ofNat k < 64 := (by decide +kernel : ∀ n : Fin 64, Int64.ofNat n.val < 64) ⟨k, hk⟩
  have h3 : ¬ Int64.ofNat k < 0 := (by decide +kernel : ∀ n : Fin 64, ¬ Int64.ofNat n.val < 0) ⟨k, hk⟩
  have h4 : ((Int64.ofNat k).toInt32 &&& 0x3f).toInt64 = Int64.ofNat k := (by decide +kernel : ∀ n : Fin 64, ((Int64.ofNat n.val).toInt32 &&& 0x3f).toInt64 = Int64.ofNat n.val) ⟨k, hk⟩
  have h5 : ((Int64.ofNat k).toBitVec.smod 64).toNat = k := (by decide +kernel : ∀ n : Fin 64, ((Int64.ofNat n.val).toBitVec.smod 64).toNat = n.val) ⟨k, hk⟩
  unfold F1
  rw [if_pos h1, if_pos h2, if_neg h3, h4, Int64.toBitVec_shiftLeft, BitVec.shiftLeft_eq', h5]
theorem own_shr (x : Int64) (k : Nat) (hk : k < 64) (h0 : 0 < k) : (F1 x (-(Int64.ofNat k))).toBitVec = x.toBitVec >>> k := by
  have h1 : (-64 : Int64) < -(Int64.ofNat k) := (by decide +kernel : ∀ n : Fin 64, (-64 : Int64) < -(Int64.ofNat n.val)) ⟨k, hk⟩
  have h2 : -(Int64.ofNat k) < 64 := (by decide +kernel : ∀ n : Fin 64, -(Int64.ofNat n.val) < 64) ⟨k, hk⟩
  have h3 : -(Int64.ofNat k) < 0 := (by decide +kernel : ∀ n : Fin 64, 0 < n.val → -(Int64.ofNat n.val) < 0) ⟨k, hk⟩ h0
  have h4 : ((-(-(Int64.ofNat k))).toInt32 &&& 0x3f).toInt64.toUInt64 = UInt64.ofNat k := (by decide +kernel : ∀ n : Fin 64, ((-(-(Int64.ofNat n.val))).toInt32 &&& 0x3f).toInt64.toUInt64 = UInt64.ofNat n.val) ⟨k, hk⟩
  have h5 : ((UInt64.ofNat k).toBitVec % 64).toNat = k := (by decide +kernel : ∀ n : Fin 64, ((UInt64.ofNat n.val).toBitVec % 64).toNat = n.val) ⟨k, hk⟩
  unfold F1
  rw [if_pos h1, if_pos h2, if_pos h3, h4]
  show (x.toUInt64 >>> UInt64.ofNat k).toBitVec = _
  rw [UInt64.toBitVec_shiftRight, BitVec.ushiftRight_eq', h5]; rfl
theorem own_far (x d : Int64) (h : ¬ ((-64 : Int64) < d ∧ d < 64)) : F1 x d = 0 := by
  unfold F1
  by_cases h1 : (-64 : Int64) < d
  · rw [if_pos h1, if_neg fun q => h ⟨h1, q⟩]
  · rw [if_neg h1]
theorem own_near (d : Int64) (h1 : (-64 : Int64) < d) (h2 : d < 64) : (∃ k, k < 64 ∧ d = Int64.ofNat k) ∨ (∃ k, k < 64 ∧ 0 < k ∧ d = -(Int64.ofNat k)) := by
  rw [Int64.lt_iff_toInt_lt] at h1 h2
  rw [show (-64 : Int64).toInt = -64 from rfl] at h1
  rw [show (64 : Int64).toInt = 64 from rfl] at h2
  have ex : ∀ (e : Int64) (k : Nat), k < 64 → e.toInt = k → e = Int64.ofNat k := fun e k hk q => Int64.toInt_inj.mp (by rw [q, Int64.toInt_ofNat_of_lt (by omega)])
  by_cases h0 : 0 ≤ d.toInt
  · exact Or.inl ⟨d.toInt.toNat, by omega, ex d _ (by omega) (by omega)⟩
  · have e := Jvm.Kit.i64_neg (x := d) (by omega)
    refine Or.inr ⟨(-d).toInt.toNat, by omega, by omega, ?_⟩
    rw [← ex (-d) (-d).toInt.toNat (by omega) (by omega), Int64.neg_neg]
theorem own_law (a d : Int64) (i : Int32) : F0 a d i = 1 := by
  obtain ⟨n, hn, e⟩ := own_mask6 i
  unfold F0
  rw [e, own_bit _ n hn]
  have hn63 : (Int32.ofNat n).toInt64.toInt = n := by
    rw [Int32.toInt_toInt64, Int32.toInt_ofNat_of_lt (by omega)]
  have hsub : ((Int32.ofNat n).toInt64 - (63 : Int64)).toInt = n - 63 := by
    rw [Jvm.Kit.i64_sub (by rw [hn63, show (63 : Int64).toInt = 63 from rfl]; omega) (by rw [hn63, show (63 : Int64).toInt = 63 from rfl]; omega), hn63]; rfl
  by_cases far : (-64 : Int64) < d ∧ d < 64
  · rcases own_near d far.1 far.2 with ⟨k, hk, rfl⟩ | ⟨k, hk, h0, rfl⟩
    · rw [own_shl a k hk, BitVec.getLsbD_shiftLeft]
      have c1 : ((Int32.ofNat n).toInt64 < Int64.ofNat k) ↔ n < k := by
        rw [Int64.lt_iff_toInt_lt, hn63, Int64.toInt_ofNat_of_lt (by omega)]; omega
      have c2 : ¬ (Int64.ofNat k < (Int32.ofNat n).toInt64 - 63) := by
        rw [Int64.lt_iff_toInt_lt, hsub, Int64.toInt_ofNat_of_lt (by omega)]; omega
      by_cases q : n < k
      · rw [if_pos (c1.mpr q)]
        simp [q]; rfl
      · rw [if_neg (fun z => q (c1.mp z)), if_neg c2]
        have e5 : ((Int32.ofNat n).toInt64 - Int64.ofNat k).toInt32 = Int32.ofNat (n - k) := by
          apply own_ext _ (by omega)
          have s1 : ((Int32.ofNat n).toInt64 - Int64.ofNat k).toInt = n - k := by
            rw [Jvm.Kit.i64_sub (by rw [hn63, Int64.toInt_ofNat_of_lt (by omega)]; omega) (by rw [hn63, Int64.toInt_ofNat_of_lt (by omega)]; omega), hn63, Int64.toInt_ofNat_of_lt (by omega)]
          rw [Jvm.Kit.i32_of_i64 (by omega) (by omega), s1]; omega
        rw [e5, own_bit _ (n - k) (by omega)]
        simp [q, hn]; rfl
    · rw [own_shr a k hk h0, BitVec.getLsbD_ushiftRight]
      have en : (-(Int64.ofNat k)).toInt = -k := by
        rw [Jvm.Kit.i64_neg (by rw [Int64.toInt_ofNat_of_lt (by omega)]; omega), Int64.toInt_ofNat_of_lt (by omega)]
      have c1 : ¬ ((Int32.ofNat n).toInt64 < -(Int64.ofNat k)) := by
        rw [Int64.lt_iff_toInt_lt, hn63, en]; omega
      have c2 : (-(Int64.ofNat k) < (Int32.ofNat n).toInt64 - 63) ↔ 63 < n + k := by
        rw [Int64.lt_iff_toInt_lt, hsub, en]; omega
      rw [if_neg c1]
      by_cases q : 63 < n + k
      · rw [if_pos (c2.mpr q), BitVec.getLsbD_of_ge _ _ (by omega)]; rfl
      · rw [if_neg (fun z => q (c2.mp z))]
        have e5 : ((Int32.ofNat n).toInt64 - -(Int64.ofNat k)).toInt32 = Int32.ofNat (k + n) := by
          apply own_ext _ (by omega)
          have s1 : ((Int32.ofNat n).toInt64 - -(Int64.ofNat k)).toInt = n + k := by
            rw [Jvm.Kit.i64_sub (by rw [hn63, en]; omega) (by rw [hn63, en]; omega), hn63, en]; omega
          rw [Jvm.Kit.i32_of_i64 (by omega) (by omega), s1]; omega
        rw [e5, own_bit _ (k + n) (by omega), Nat.add_comm k n]
        simp; rfl
  · rw [own_far a d far]
    have c1 : (Int32.ofNat n).toInt64 < d ∨ d < (Int32.ofNat n).toInt64 - 63 := by
      rw [Int64.lt_iff_toInt_lt, Int64.lt_iff_toInt_lt, hn63, hsub]
      rw [Int64.lt_iff_toInt_lt, Int64.lt_iff_toInt_lt, show (-64 : Int64).toInt = -64 from rfl, show (64 : Int64).toInt = 64 from rfl] at far
      omega
    have z0 : (0 : Int64).toBitVec.getLsbD n = false := by simp
    rw [z0]
    by_cases q : (Int32.ofNat n).toInt64 < d
    · rw [if_pos q]; rfl
    · rw [if_neg q, if_pos (c1.resolve_left q)]; rfl

set_option maxRecDepth 65536 in
set_option maxHeartbeats 40000000 in
theorem comes_1 {Post : Tables → Env → Array Value → State → Outcome → State → Prop} (hpost : ∀ tb e args s v u, (limb_1_1.after args s (.returned v) u = true ∧ limb_1_2.after args s (.returned v) u = true ∧ True) → FrameEnd s (.returned v) u (Jvm.fieldLocs frame_1_writes args s ++ Jvm.arrayLocs frame_1_arrays args s ++ Jvm.staticLocs frame_1_statics s) 0 0 → Post tb e args s (.returned v) u) :
    ArmFor flags0 classFile x code maxLocals ret World_1 tables_1 room_1 Calls_1 rest_1 Pre_1 Post := by
  intro l hfl _ _ p e ha hc hk s m args below hf hA hF happ hP
  obtain ⟨hcalls, hrest, hpre⟩ := hP
  obtain ⟨-, -, -, hnamed, -, -, -, hat⟩ := (Spec.applies_iff hf).mp happ
  obtain ⟨hg, hn⟩ := and_e (Cond.before_iff.mp (show (Jvm.Cond.and given_1 narrow_1).before args s = true from hpre))
  obtain ⟨hcnt, hq0⟩ := and_e hg
  obtain ⟨ha0, hq1⟩ := and_e hq0
  obtain ⟨ha1, hq2⟩ := and_e hq1
  have ha2 := hq2
  obtain ⟨w0, w1, w2, rfl⟩ : ∃ w0 w1 w2 : Value, args = #[w0, w1, w2] := by
    have hs : args.size = 3 := by simpa [Cond.value, given_1] using hcnt
    obtain ⟨L⟩ := args
    match L, hs with
    | [w0, w1, w2], _ => exact ⟨w0, w1, w2, rfl⟩
  have hw := fun d (hd : d ∈ tables_1) => atoms_spec (ws := Jvm.Cond.code x code maxLocals ret :: tables_1) hat d (List.mem_cons_of_mem _ hd)
  have hfit : Fit s := fun {y c} hc i hi => by
    obtain ⟨ha, rfl⟩ := Array.getElem?_eq_some_iff.mp hc
    have q := List.all_eq_true.mp ((Array.all_eq_true_iff_forall_mem.mp hF) _ (Array.getElem_mem ha)) i (List.mem_range.mpr hi)
    simpa [Array.getElem?_eq_getElem hi] using q
  obtain ⟨i0, ei0⟩ := isL_v ha0
  obtain rfl : w0 = (.long i0) := Option.some.inj ei0
  obtain ⟨i1, ei1⟩ := isL_v ha1
  obtain rfl : w1 = (.long i1) := Option.some.inj ei1
  obtain ⟨i2, ei2⟩ := is_v ha2
  obtain rfl : w2 = (.int i2) := Option.some.inj ei2
  obtain ⟨n, o, h1, h2, h3, _, L, rfl, ⟨rfl, rfl, _⟩, hq⟩ := rm0 l s _ hw tables_1 i0 i1 i2 s.heap p e ha hc hk s m _ below hf ((Spec.applies_iff_loose hf).mp happ).1 ⟨rfl, State.Warmed39.refl s, rfl⟩ trivial
  refine ⟨n, _, h1, h2, h3, hpost _ _ _ _ _ _ ⟨Cond.after_iff.mpr rfl, Cond.after_iff.mpr (eq_i res_at (Term.int_eval (1)) (by rw [own_law])), trivial⟩ ⟨hq.1, hq.2.1, (hq.2.2.sift fun y hy => Or.inr (nomatch hy)).mono (by decide) (by decide)⟩⟩
theorem main_1_1 : Claimed_1_1 := comes_1 fun _ _ _ _ _ _ h hF => ⟨h.1, hF⟩
theorem main_1_2 : Claimed_1_2 := comes_1 fun _ _ _ _ _ _ h hF => ⟨h.2.1, hF⟩
end Jvm.Pilot.@@N@@
namespace Jvm.Pilot.@@N@@
open Jvm Jvm.ClassFile Sem Op Lib Jvm.Free Jvm.Stand Jvm.Pilot.@@N@@.Jvm.D
/-! MADE BY PROGRAM (witnessworld.py) out of the Statement's table words and the real class files: 13 classes; the members and pool entries that the words name. The judged class is class 1, her method 1. -/
namespace start1
open Jvm.ClassFile
def u (s : String) : CpInfo := .utf8 (stringToUtf16 s)
/-- a pool by its gaps: so many unusable entries, then the entry; so many at the end -/
def gap : Nat → List CpInfo → List CpInfo
  | 0, r => r
  | n + 1, r => .unusable :: gap n r
def poolList (es : List (Nat × CpInfo)) (last : Nat) : List CpInfo := es.foldr (fun e r => gap e.1 (e.2 :: r)) (gap last [])
def pool (es : List (Nat × CpInfo)) (last : Nat) : Array CpInfo := ⟨poolList es last⟩
def fileOf (pool : Array CpInfo) (this : Nat) (attrs : Array Attribute := #[]) (ms : Array MethodInfo := #[]) (fl : Nat := 33) (sup : Nat := 0) (ifs : Array Nat := #[]) (fds : Array FieldInfo := #[]) : ClassFile where
  minorVersion := 0
  majorVersion := 65
  constantPool := pool
  accessFlags := fl
  thisClass := this
  superClass := sup
  interfaces := ifs
  fields := fds
  methods := ms
  attributes := attrs
def plain (name : String) (sup : Option ClassId) : Class where
  name := name
  kind := .ordinary
  loader := none
  accessFlags := 33
  super := sup
  interfaces := #[]
  cf := none
  fields := #[]
  methods := #[]
  instanceTypes := #[]
  staticTypes := #[]
  resolved := #[]
  callSites := []
  init := .initialized
  statics := none
  mirror := none

def pool0 : Array CpInfo := pool [(5, u "<init>"), (0, u "()V"), (1, .class_ 10), (1, u "java/lang/Object")] 113

def k0m0 : Method := { name := "<init>", desc := "()V", sig := { parameters := [], returnType := none }, accessFlags := 1, code := none }
/-- java/lang/Object -/
def k0 : Class := { plain "java/lang/Object" none with
  accessFlags := 33
  interfaces := #[]
  cf := some (fileOf pool0 8 #[] #[{ accessFlags := 1, nameIndex := 5, descriptorIndex := 6, attributes := #[] }] 33 0 #[] #[])
  fields := #[]
  methods := #[k0m0]
  instanceTypes := #[]
  staticTypes := #[]
  resolved := Array.replicate 124 none
  statics := none }

def pool1 : Array CpInfo := pool [(2, .class_ 4), (1, u "java/lang/Object"), (0, u "<init>"), (0, u "()V"), (0, .methodref 8 9), (0, .class_ 10), (0, .nameAndType 11 12), (0, u "com/example/plainsong/plainsong/engine/tree/Bitwise"), (0, u "shiftLeft"), (0, u "(JJ)J"), (0, .long 63), (1, .methodref 16 17), (0, .class_ 18), (0, .nameAndType 19 20), (0, u "com/example/plainsong/plainsong/engine/tree/BitwiseShiftLeftPinLaw"), (0, u "bit"), (0, u "(JI)I"), (2, u "law"), (0, u "(JJI)Z")] 3

def k1m0 : Method := { name := "<init>", desc := "()V", sig := { parameters := [], returnType := none }, accessFlags := 1, code := none }
def k1c1 : Code := { maxStack := 6, maxLocals := 10, code := code, exceptionTable := #[], attributes := #[] }
def k1m1 : Method := { name := "law", desc := "(JJI)Z", sig := { parameters := [.long, .long, .int], returnType := some .boolean }, accessFlags := 9, code := some k1c1 }
def k1c2 : Code := { maxStack := 4, maxLocals := 3, code := method_3_code, exceptionTable := #[], attributes := #[] }
def k1m2 : Method := { name := "bit", desc := "(JI)I", sig := { parameters := [.long, .int], returnType := some .int }, accessFlags := 10, code := some k1c2 }
/-- com/example/plainsong/plainsong/engine/tree/BitwiseShiftLeftPinLaw -/
def k1 : Class := { plain "com/example/plainsong/plainsong/engine/tree/BitwiseShiftLeftPinLaw" (some 0) with
  accessFlags := 49
  interfaces := #[]
  cf := some (fileOf pool1 16 #[] #[{ accessFlags := 1, nameIndex := 5, descriptorIndex := 6, attributes := #[] }, { accessFlags := 9, nameIndex := 23, descriptorIndex := 24, attributes := #[] }, { accessFlags := 10, nameIndex := 19, descriptorIndex := 20, attributes := #[] }] 49 2 #[] #[])
  fields := #[]
  methods := #[k1m0, k1m1, k1m2]
  instanceTypes := #[]
  staticTypes := #[]
  resolved := Array.replicate 28 none
  statics := none }

def pool2 : Array CpInfo := pool [(2, .class_ 4), (1, u "java/lang/Object"), (3, .class_ 10), (1, u "com/example/plainsong/plainsong/engine/tree/Node"), (0, u "line"), (0, u "I")] 9

/-- com/example/plainsong/plainsong/engine/tree/Node -/
def k2 : Class := { plain "com/example/plainsong/plainsong/engine/tree/Node" (some 0) with
  accessFlags := 1056
  interfaces := #[]
  cf := some (fileOf pool2 8 #[] #[] 1056 2 #[] #[{ accessFlags := 16, nameIndex := 11, descriptorIndex := 12, attributes := #[] }])
  fields := #[{ name := "line", type := .int, accessFlags := 16, slot := 0, constantValue := 0 }]
  methods := #[]
  instanceTypes := #[.int]
  staticTypes := #[]
  resolved := Array.replicate 22 none
  statics := none }

def pool3 : Array CpInfo := pool [(1, .class_ 2), (0, u "com/example/plainsong/plainsong/engine/Origin"), (0, .class_ 4), (0, u "java/lang/Object")] 6

/-- com/example/plainsong/plainsong/engine/Origin -/
def k3 : Class := { plain "com/example/plainsong/plainsong/engine/Origin" (some 0) with
  accessFlags := 1537
  interfaces := #[]
  cf := some (fileOf pool3 1 #[] #[] 1537 3 #[] #[])
  fields := #[]
  methods := #[]
  instanceTypes := #[]
  staticTypes := #[]
  resolved := Array.replicate 11 none
  statics := none }

def pool4 : Array CpInfo := pool [(2, .class_ 4), (1, u "com/example/plainsong/plainsong/engine/tree/Node"), (30, .class_ 37), (1, u "com/example/plainsong/plainsong/engine/tree/Expression"), (36, .class_ 75), (0, u "com/example/plainsong/plainsong/engine/Origin")] 37

/-- com/example/plainsong/plainsong/engine/tree/Expression -/
def k4 : Class := { plain "com/example/plainsong/plainsong/engine/tree/Expression" (some 2) with
  accessFlags := 1057
  interfaces := #[3]
  cf := some (fileOf pool4 35 #[] #[] 1057 2 #[74] #[])
  fields := #[]
  methods := #[]
  instanceTypes := #[.int]
  staticTypes := #[]
  resolved := Array.replicate 113 none
  statics := none }

def pool5 : Array CpInfo := pool [(2, .class_ 4), (1, u "com/example/plainsong/plainsong/engine/tree/Expression"), (3, .class_ 10), (1, u "com/example/plainsong/plainsong/engine/tree/Binary"), (0, u "left"), (0, u "Lcom/example/plainsong/plainsong/engine/tree/Expression;"), (2, u "right"), (6, .class_ 23), (0, u "com/example/plainsong/plainsong/engine/tree/Binary$Operation")] 2

/-- com/example/plainsong/plainsong/engine/tree/Binary -/
def k5 : Class := { plain "com/example/plainsong/plainsong/engine/tree/Binary" (some 4) with
  accessFlags := 1056
  interfaces := #[]
  cf := some (fileOf pool5 8 #[.nestMembers #[22]] #[] 1056 2 #[] #[{ accessFlags := 16, nameIndex := 11, descriptorIndex := 12, attributes := #[] }, { accessFlags := 16, nameIndex := 15, descriptorIndex := 12, attributes := #[] }])
  fields := #[{ name := "left", type := (.object "com/example/plainsong/plainsong/engine/tree/Expression"), accessFlags := 16, slot := 1, constantValue := 0 }, { name := "right", type := (.object "com/example/plainsong/plainsong/engine/tree/Expression"), accessFlags := 16, slot := 2, constantValue := 0 }]
  methods := #[]
  instanceTypes := #[.int, (.object "com/example/plainsong/plainsong/engine/tree/Expression"), (.object "com/example/plainsong/plainsong/engine/tree/Expression")]
  staticTypes := #[]
  resolved := Array.replicate 26 none
  statics := none }

def pool6 : Array CpInfo := pool [(2, .class_ 4), (1, u "com/example/plainsong/plainsong/engine/tree/Binary"), (3, .class_ 10), (1, u "com/example/plainsong/plainsong/engine/tree/Bitwise"), (0, u "operator"), (0, u "Lcom/example/plainsong/plainsong/engine/tree/BinaryOperator;"), (13, .class_ 27), (0, u "com/example/plainsong/plainsong/engine/tree/Bitwise$Apply"), (52, .long 18446744073709551552), (1, .long 64), (16, u "shiftLeft"), (0, u "(JJ)J"), (3, .class_ 105), (0, u "com/example/plainsong/plainsong/engine/tree/Bitwise$1"), (0, .class_ 107), (0, u "com/example/plainsong/plainsong/engine/tree/Bitwise$Not"), (0, .class_ 109), (0, u "com/example/plainsong/plainsong/engine/tree/Bitwise$Not$Apply")] 19

def k6c0 : Code := { maxStack := 4, maxLocals := 4, code := prog_86_method_6_code, exceptionTable := #[], attributes := #[] }
def k6m0 : Method := { name := "shiftLeft", desc := "(JJ)J", sig := { parameters := [.long, .long], returnType := some .long }, accessFlags := 8, code := some k6c0 }
/-- com/example/plainsong/plainsong/engine/tree/Bitwise -/
def k6 : Class := { plain "com/example/plainsong/plainsong/engine/tree/Bitwise" (some 5) with
  accessFlags := 48
  interfaces := #[]
  cf := some (fileOf pool6 8 #[.nestMembers #[104, 106, 108, 26]] #[{ accessFlags := 8, nameIndex := 99, descriptorIndex := 100, attributes := #[] }] 48 2 #[] #[{ accessFlags := 18, nameIndex := 11, descriptorIndex := 12, attributes := #[] }])
  fields := #[{ name := "operator", type := (.object "com/example/plainsong/plainsong/engine/tree/BinaryOperator"), accessFlags := 18, slot := 3, constantValue := 0 }]
  methods := #[k6m0]
  instanceTypes := #[.int, (.object "com/example/plainsong/plainsong/engine/tree/Expression"), (.object "com/example/plainsong/plainsong/engine/tree/Expression"), (.object "com/example/plainsong/plainsong/engine/tree/BinaryOperator")]
  staticTypes := #[]
  resolved := Array.replicate 129 none
  statics := none }

def pool7 : Array CpInfo := pool [(1, u "java/lang/Cloneable"), (0, .class_ 1), (0, u "java/lang/Object"), (0, .class_ 3)] 3

/-- java/lang/Cloneable -/
def k7 : Class := { plain "java/lang/Cloneable" (some 0) with
  accessFlags := 1537
  interfaces := #[]
  cf := some (fileOf pool7 2 #[] #[] 1537 4 #[] #[])
  fields := #[]
  methods := #[]
  instanceTypes := #[]
  staticTypes := #[]
  resolved := Array.replicate 8 none
  statics := none }

def pool8 : Array CpInfo := pool [(1, u "java/io/Serializable"), (0, .class_ 1), (0, u "java/lang/Object"), (0, .class_ 3)] 3

/-- java/io/Serializable -/
def k8 : Class := { plain "java/io/Serializable" (some 0) with
  accessFlags := 1537
  interfaces := #[]
  cf := some (fileOf pool8 2 #[] #[] 1537 4 #[] #[])
  fields := #[]
  methods := #[]
  instanceTypes := #[]
  staticTypes := #[]
  resolved := Array.replicate 8 none
  statics := none }

/-- the primitive byte -/
def k9 : Class := { plain "byte" none with kind := .primitive 'B', accessFlags := 0x411 }
/-- [B -/
def k10 : Class := { plain "[B" (some 0) with kind := .array 9 .byte, interfaces := #[7, 8], accessFlags := 1041 }

/-- the primitive int -/
def k11 : Class := { plain "int" none with kind := .primitive 'I', accessFlags := 0x411 }
/-- [I -/
def k12 : Class := { plain "[I" (some 0) with kind := .array 11 .int, interfaces := #[7, 8], accessFlags := 1041 }

def heap : Heap := #[]
def classes : Array Class := #[k0, k1, k2, k3, k4, k5, k6, k7, k8, k9, k10, k11, k12]
def interned : List (Array UInt16 × Addr) := []
def slotsUsed : Nat := 0
def theMethod : MethodId := ⟨1, 1⟩
def args0 : Array Value := #[.long 5, .long 3, .int 7]
def aboutOver (below : List Frame) : State where
  vm := { classes := classes, interned := interned.toArray }
  heap := heap
  slotsUsed := slotsUsed
  threads := #[{ frames := .invoking theMethod args0 :: below }]
def below0 : List Frame := [.native { method := ⟨0, 0⟩, args := #[] }]
def about1 : State := aboutOver below0
def p0 : Program := .bare "" "" ""
def e0 : Env := launch0.env 0 0 0
theorem w_frames : about1.frames = Frame.invoking theMethod args0 :: below0 := rfl
set_option maxRecDepth 65536 in
theorem w_args : argsFit about1.vm theMethod args0 = true := by decide +kernel
set_option maxRecDepth 65536 in
theorem w_heap : heapFits about1 = true := by decide +kernel
set_option maxRecDepth 65536 in
theorem w_runnable : about1.curStatus? = some .runnable := by decide +kernel
set_option maxRecDepth 65536 in
theorem w_alone : about1.alone = true := by decide +kernel
set_option maxRecDepth 65536 in
theorem w_named : about1.methodNamed? x = some theMethod := by decide +kernel
set_option maxRecDepth 65536 in
theorem w_hears : about1.hears theMethod below0 = true := by decide +kernel
set_option maxRecDepth 65536 in
theorem w_ripe : about1.ripe theMethod args0 below0 = true := by decide +kernel
theorem w_running : about1.status = .running := rfl
set_option maxRecDepth 65536 in
theorem w_room : about1.hasRoom e0.platform room_1 = true :=
  launch0.hasRoom_least _ room_1 (by decide +kernel) (by decide +kernel) (by decide +kernel) (by decide +kernel) (by decide +kernel) (by decide +kernel)
theorem allAtoms_all (ts : List Jvm.Cond) (a : Array Jvm.Value) (st : Jvm.State) : (allAtoms ts).before a st = ts.all (fun c => c.before a st) := by
  induction ts with
  | nil => rfl
  | cons c t ih =>
    show (Jvm.Cond.and c (allAtoms t)).before a st = _
    rw [Jvm.Cond.before_and, ih, List.all_cons]
def words1 : List Jvm.Cond := Jvm.Cond.code x code maxLocals ret :: tables_1
/-- a 'code' word, met by the world's own term for the bytes: nothing is compared byte by byte -/
theorem code_word {y : MethodName} {bytes : ByteArray} {mx : Nat} {rt : Option FieldType} {a : Array Value} {s : State} {m : MethodId} {meth : Method} {c : Code} (h1 : s.methodNamed? y = some m) (h2 : s.vm.method? m = some meth) (h3 : meth.code = some c) (h4 : c.code = bytes)
    (h5 : (c.maxLocals == mx && c.exceptionTable.isEmpty && decide (c.maxStack ≤ mostOperands) && decide (meth.sig.returnType = rt) && !meth.locks && decide (parseMethodDescriptor y.desc = some meth.sig)) = true) : (Jvm.Cond.code y bytes mx rt).before a s = true := by
  simp only [Bool.and_eq_true, beq_iff_eq, Bool.not_eq_true', decide_eq_true_eq] at h5
  obtain ⟨⟨⟨⟨⟨g1, g2⟩, g3⟩, g4⟩, g5⟩, g6⟩ := h5
  simp [Cond.before, Cond.holds, Cond.value, h1, h2, h3, h4, g1, g2, g3, g4, g5, g6]
def isCode : Jvm.Cond → Bool
  | .code _ _ _ _ => true
  | _ => false
theorem all_split {L : List Jvm.Cond} {P : Jvm.Cond → Bool} (h1 : L.all (fun c => isCode c || P c) = true) (h2 : ∀ c ∈ L.filter isCode, P c = true) : L.all P = true := by
  refine List.all_eq_true.mpr fun c hc => ?_
  have h := List.all_eq_true.mp h1 c hc
  rcases Bool.eq_false_or_eq_true (isCode c) with hi | hi
  · exact h2 c (List.mem_filter.mpr ⟨hc, hi⟩)
  · simpa [hi] using h
set_option maxRecDepth 65536 in
theorem w_c0 : (Jvm.Cond.code x code maxLocals ret).before args0 about1 = true := code_word (m := ⟨1, 1⟩) (meth := k1m1) (c := k1c1) (by decide +kernel) rfl rfl rfl (by decide +kernel)
set_option maxRecDepth 65536 in
theorem w_c1 : (Jvm.Cond.code ({ cls := "com/example/plainsong/plainsong/engine/tree/Bitwise", name := "shiftLeft", desc := "(JJ)J" } : Jvm.MethodName) prog_86_method_6_code (4 : Nat) (Option.some Jvm.ClassFile.FieldType.long)).before args0 about1 = true := code_word (m := ⟨6, 0⟩) (meth := k6m0) (c := k6c0) (by decide +kernel) rfl rfl rfl (by decide +kernel)
set_option maxRecDepth 65536 in
theorem w_c2 : (Jvm.Cond.code ({ cls := "com/example/plainsong/plainsong/engine/tree/BitwiseShiftLeftPinLaw", name := "bit", desc := "(JI)I" } : Jvm.MethodName) method_3_code (3 : Nat) (Option.some Jvm.ClassFile.FieldType.int)).before args0 about1 = true := code_word (m := ⟨1, 2⟩) (meth := k1m2) (c := k1c2) (by decide +kernel) rfl rfl rfl (by decide +kernel)
def codes1 : List Jvm.Cond := [Jvm.Cond.code x code maxLocals ret, Jvm.Cond.code ({ cls := "com/example/plainsong/plainsong/engine/tree/Bitwise", name := "shiftLeft", desc := "(JJ)J" } : Jvm.MethodName) prog_86_method_6_code (4 : Nat) (Option.some Jvm.ClassFile.FieldType.long), Jvm.Cond.code ({ cls := "com/example/plainsong/plainsong/engine/tree/BitwiseShiftLeftPinLaw", name := "bit", desc := "(JI)I" } : Jvm.MethodName) method_3_code (3 : Nat) (Option.some Jvm.ClassFile.FieldType.int)]
set_option maxRecDepth 65536 in
theorem codes_eq : words1.filter isCode = codes1 := rfl
theorem w_codes : ∀ c ∈ words1.filter isCode, c.before args0 about1 = true := by
  rw [codes_eq]
  intro c hc
  simp only [codes1, List.mem_cons, List.not_mem_nil, or_false] at hc
  rcases hc with rfl | rfl | rfl
  · exact w_c0
  · exact w_c1
  · exact w_c2
set_option maxRecDepth 65536 in
theorem w_t1 : words1.all (fun c => isCode c || c.before args0 about1) = true := by decide +kernel
theorem w_tables : (allAtoms (Jvm.Cond.code x code maxLocals ret :: tables_1)).before args0 about1 = true := by
  rw [allAtoms_all]
  show words1.all (fun c => c.before args0 about1) = true
  refine all_split ?_ w_codes
  rw [w_t1]
set_option maxRecDepth 65536 in
theorem w_case : (Jvm.Cond.and given_1 narrow_1).before args0 about1 = true := by decide +kernel
theorem w_applies : (headSpec (Jvm.Cond.code x code maxLocals ret :: tables_1) room_1).applies x e0.platform about1 = true :=
  (Spec.applies_iff w_frames).mpr ⟨w_running, w_runnable, w_alone, w_named, w_hears, w_ripe, w_room, w_tables⟩
theorem atStart : AtStart classFile x code maxLocals ret World_1 tables_1 room_1 Calls_1 rest_1 Pre_1 launch0 p0 e0 about1 theMethod args0 below0 :=
  ⟨lists_1, trivial, launch0.admits_env _ _ _, launch0.least_env, fairChoices_fair.cas, fairChoices_fair.clock, w_frames, w_args, w_heap, w_applies, trivial, trivial, w_case⟩
end start1
theorem witness_1 : WitnessClaimed_1 := ⟨start1.p0, start1.e0, start1.about1, start1.theMethod, start1.args0, start1.below0, start1.atStart⟩
end Jvm.Pilot.@@N@@
