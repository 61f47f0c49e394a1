import JvmDerived
import JvmDerived.Pilot.@@N@@Statement
import JvmDerived.Pilot.@@N@@Code
set_option linter.unusedVariables false
set_option linter.unusedSimpArgs false
@@BLOCK:NumsL.lean.txt@@
@@BLOCK:Masks.lean.txt@@
namespace Jvm.RoadKit
open Sem ClassFile Op Lib Jvm.Stand Jvm.Free Jvm.LawKit
section New
variable {p : Program} {l : Launch} {e : Env} {R : Room} {s : State} {m : MethodId} {args : Array Value} {below : List Frame} {meth : Method} {c : Code} {T : State} {locs : List Loc} {cells slots : Nat}
theorem retI (X : Stand p l e R s m args below meth c T locs cells slots) (hx : p.tables.exec = Jvm.exec) {pc : Nat} {Ls : Array Slot} {z : Int32} {rest : List Value} (hret : meth.sig.returnType = some .int) (hd : decode c.code pc = .ok (.ireturn, 1)) {fs : List Frame}
    (hl : ∀ (f : JFrame) (acts : List Action), f.method = m → f.locked = none → f.entered = [] → (doReturn e (T.setTop f) acts (some (.int z))).1 = T.setFrames fs) : Steps p.tables e below (T.setTop (mkF m pc Ls (.int z :: rest))) (T.setFrames fs) := by
  have hm' : T.vm.method? m = some meth := X.method'
  have hn : narrow .int (.int z) = .int z := rfl
  show Steps p.tables e below (T.setTop { method := m, pc := pc, locals := Ls, stack := _ :: rest, locked := none }) _
  jvm_step X.here [X.here.top, hx, hd, hm', hret, hn]
  first | (intro acts; rw [hl _ acts rfl rfl rfl]) | rw [hl _ _ rfl rfl rfl]
  exact Steps.refl _
theorem own_retA (X : Stand p l e R s m args below meth c T locs cells slots) (hx : p.tables.exec = Jvm.exec) {pc : Nat} {Ls : Array Slot} {z : Value} {t : FieldType} {rest : List Value} (hret : meth.sig.returnType = some t) (ht : t.isReference = true) (hz : z.isRef = true) (hd : decode c.code pc = .ok (.areturn, 1)) {fs : List Frame}
    (hl : ∀ (f : JFrame) (acts : List Action), f.method = m → f.locked = none → f.entered = [] → (doReturn e (T.setTop f) acts (some z)).1 = T.setFrames fs) : Steps p.tables e below (T.setTop (mkF m pc Ls (z :: rest))) (T.setFrames fs) := by
  have hm' : T.vm.method? m = some meth := X.method'
  show Steps p.tables e below (T.setTop { method := m, pc := pc, locals := Ls, stack := z :: rest, locked := none }) _
  rcases ref_cases hz with rfl | ⟨a, rfl⟩ <;>
  · jvm_step X.here [X.here.top, hx, hd, hm', hret, ht, Value.isRef]
    first | (intro acts; rw [hl _ acts rfl rfl rfl]) | rw [hl _ _ rfl rfl rfl]
    exact Steps.refl _
end New
end Jvm.RoadKit
namespace Jvm.Pilot.@@N@@
open Jvm Jvm.ClassFile Sem Op Lib Jvm.Free Jvm.Stand Jvm.LawKit Jvm.RoadKit Bundle Jvm.Pilot.@@N@@.Jvm.D
section OwnKit
variable {p : Program} {l : Launch} {e : Env} {R : Room} {s : State} {m : MethodId} {args : Array Value} {below : List Frame} {meth : Method} {c : Code} {T : State} {locs : List Loc} {cells slots : Nat} {Z : State} {a0 : Array Value} {h : Heap}
/-- from the state S the run comes to an end of which Post holds -/
def own_G (tb : Tables) (e : Env) (below : List Frame) (Post : Outcome → State → Prop) (S : State) : Prop := ∃ s₂ o, Steps tb e below S s₂ ∧ s₂.status = .running ∧ Ended s₂ below o ∧ Post o s₂
theorem own_go {tb : Tables} {Post : Outcome → State → Prop} {S S' : State} (k : ∀ t, Steps tb e below S' t → Steps tb e below S t) (h : own_G tb e below Post S') : own_G tb e below Post S := by
  obtain ⟨a, b, st, d⟩ := h
  exact ⟨a, b, k _ st, d⟩
theorem own_join {tb : Tables} {Post : Outcome → State → Prop} {S S' : State} (k : own_G tb e below Post S' → own_G tb e below Post S) (h : own_G tb e below Post S') : own_G tb e below Post S := k h
theorem own_refc {v : Value} (h : v.isRef = true) : v = .null ∨ ∃ a, v = .ref a := by cases v <;> simp [Value.isRef] at h ⊢
theorem own_cat {v : Value} (h : v.isRef = true) : v.category = 1 := by rcases own_refc h with rfl | ⟨a, rfl⟩ <;> rfl
theorem own_end (X : Stand p l e R s m args below meth c T locs cells slots) (hlocks : meth.locks = false) {v : Option Value} (hv : meth.sig.returnType = none → v = none) {S : State} {Q : Option Value → Heap → List Loc → Prop} {rc rs : Nat} (hQ : Q v T.heap locs)
    (st : ∀ fs, (∀ (f : JFrame) (acts : List Action), f.method = m → f.locked = none → f.entered = [] → (doReturn e (T.setTop f) acts v).1 = T.setFrames fs) → Steps p.tables e below S (T.setFrames fs)) (hc : cells ≤ rc) (hs : slots ≤ rs) :
    own_G p.tables e below (fun o U' => ∃ v L, o = .returned v ∧ Q v U'.heap L ∧ FrameEnd s o U' L rc rs) S := by
  obtain ⟨fs, hr, hrun, hended, hW, hsame⟩ := X.leave (v := v) hv hlocks
  exact ⟨_, _, st fs hr, hrun, hended, _, _, rfl, hQ, ⟨_, rfl⟩, hW, hsame.mono hc hs⟩
theorem own_endW {vm₁ : Vm} (X : Stand p l e R (s.setVm vm₁) m args below meth c T locs cells slots) (hlocks : meth.locks = false) {n : Nat} (hS : s.Since vm₁ n) (hn : n ≤ T.heap.size) {v : Option Value} (hv : meth.sig.returnType = none → v = none) {S : State} {Q : Option Value → Heap → List Loc → Prop} {rc rs : Nat} (hQ : Q v T.heap locs)
    (st : ∀ fs, (∀ (f : JFrame) (acts : List Action), f.method = m → f.locked = none → f.entered = [] → (doReturn e (T.setTop f) acts v).1 = T.setFrames fs) → Steps p.tables e below S (T.setFrames fs)) (hc : cells ≤ rc) (hs : slots ≤ rs) :
    own_G p.tables e below (fun o U' => ∃ v L, o = .returned v ∧ Q v U'.heap L ∧ ReturnedEndW s o U' L rc rs) S := by
  obtain ⟨fs, hr, hrun, hended, h1, h2, h3, h4⟩ := X.leaveW hS hn (v := v) hv hlocks
  exact ⟨_, _, st fs hr, hrun, hended, _, _, rfl, hQ, h1, h2, h3, h4.mono hc hs⟩
theorem own_fit {v : Value} {C : String} (h : v.isRef = true) : fits (.object C) v = true := by rcases own_refc h with rfl | ⟨a, rfl⟩ <;> rfl
/-- a pure body's answer: it returns r, writes nothing, makes nothing -/
def QP (r : Option Value) (h0 : Heap) (v : Option Value) (h : Heap) (L : List Loc) : Prop := v = r ∧ L = [] ∧ h = h0
/-- the law's answer: it returns r, writes nothing old -/
def QL (r : Option Value) (n0 : Nat) (v : Option Value) (h : Heap) (L : List Loc) : Prop := v = r ∧ Fr n0 L
theorem own_staKeep {h' : Heap} {C n d : String} {v : Value} {ws : List Addr} (F : Sta Z h C n d v) (K : Keep h h' ws) (q : ∀ x ∈ ws, ∃ cell : Cell, h[x]? = some cell ∧ cell.vm.isStatics = false) : Sta Z h' C n d v := by
  obtain ⟨cf, i, k, f, st, cell, h1, h2, h3, h4, h5, h6, h7⟩ := F
  refine ⟨cf, i, k, f, st, cell, h1, h2, h3, h4, K.2.1 st cell h5 (fun z => ?_), h6, h7⟩
  obtain ⟨c', e1, e2⟩ := q st z
  cases e1.symm.trans h5
  rw [e2] at h6; cases h6
theorem own_mvSame {ref owner name desc : String} (hZ : Z.Warmed39 s.vm) (hmh : ref ≠ "java/lang/invoke/MethodHandle" ∧ ref ≠ "java/lang/invoke/VarHandle") (w : (Jvm.Cond.sameMethod ref owner name desc).before a0 Z = true) : (Jvm.Cond.sameMethod ref owner name desc).before args s = true := by
  have h1 : (Jvm.Cond.sameMethod ref owner name desc).before a0 (Z.setVm s.vm) = true := Cond.sameMethod_setVm hZ.alike hmh w
  exact h1
theorem own_callP (X : Stand p l e R s m args below meth c T locs cells slots) (hx : p.tables.exec = Jvm.exec) (hZ : Z.Warmed39 s.vm) {own : String} {index : Nat} {y : MethodName} {bytes : ByteArray} {maxL : Nat} {ret : Option FieldType} {rm : Room} {r : Option Value} {as' : Array Value}
    (hown : s.vm.findClass own = some m.cls) (w1 : (Jvm.Cond.methodLink own index y).before a0 Z = true) (w2 : (Jvm.Cond.static y).before a0 Z = true) (w3 : (Jvm.Cond.initialized y.cls).before a0 Z = true) (w4 : (Jvm.Cond.code y bytes maxL ret).before a0 Z = true)
    (hy : y.cls ≠ "java/lang/invoke/MethodHandle" ∧ y.cls ≠ "java/lang/invoke/VarHandle") {W : Nat}
    (hM : MetFree l y (head1 [Jvm.Cond.code y bytes maxL ret] rm) (fun a U => a = as' ∧ Z.Warmed39 U.vm ∧ U.heap = h) (fun _ _ _ _ _ => True) (fun _ U o U' => ∃ v L, o = .returned v ∧ QP r h v U'.heap L ∧ FrameEnd U o U' L rm.cells rm.slots))
    (hf : rm.frames + 1 ≤ R.frames) (hl : W + (maxL + 11) + rm.locals ≤ R.locals) (hc : rm.cells = 0) (hs0 : rm.slots = 0) (eT : T.heap = h)
    {g : JFrame} (hg : g.method = m) (hsize : g.locals.size = c.maxLocals) {argsL rest : List Value} (hlen : ∀ sig, parseMethodDescriptor y.desc = some sig → argsL.length = sig.parameters.length) (hstack : g.stack = argsL.reverse ++ rest) (ha : argsL.toArray = as')
    (hW : 2 * g.monitorRoom + (rest.map fun v => v.category).sum ≤ W) (hd : decode c.code g.pc = .ok (.invokestatic index, 3)) (hcr : cells ≤ R.cells) (hsr : slots ≤ R.slots) :
    ∃ T', Stand p l e R s m args below meth c T' locs cells slots ∧ T'.heap = h ∧ ∀ target, Steps p.tables e below (T'.setTop { g with pc := g.pc + 3, stack := r.toList ++ rest }) target → Steps p.tables e below (T.setTop g) target := by
  obtain ⟨_, _, ⟨T1, L1, k1, n1⟩, -, X1, ⟨Lc, hQ, l1, y1, z1⟩, st⟩ := Jvm.LawKit.callS X hx hown (mvT hZ w1) (mvT hZ w2) (mvT hZ w3) (mvT hZ w4) hy (backOf (W := W) hM hZ w4 w3 hf hl) hg hsize hlen hstack hW hd (fun _ _ => ⟨ha, eT, by rw [hc]; exact hcr, by rw [hs0]; exact hsr⟩)
  dsimp only [Pt.U, Pt.locs, Pt.cells, Pt.slots] at X1 l1 y1 z1 st hQ
  obtain ⟨rfl, rfl, e1⟩ := hQ
  rw [List.append_nil] at l1
  rw [hc] at y1
  rw [hs0] at z1
  subst l1 y1 z1
  exact ⟨T1, X1, e1, st⟩
theorem own_callV (X : Stand p l e R s m args below meth c T locs cells slots) (hx : p.tables.exec = Jvm.exec) (hZ : Z.Warmed39 s.vm) {own C : String} {index : Nat} {y : MethodName} {bytes : ByteArray} {maxL : Nat} {ret : Option FieldType} {rm : Room} {r : Option Value} {as' : Array Value} {a : Addr}
    (hown : s.vm.findClass own = some m.cls) (w1 : (Jvm.Cond.methodLink own index y).before a0 Z = true) (w2 : (Jvm.Cond.declares y).before a0 Z = true) (w3 : (Jvm.Cond.selects C y y).before a0 Z = true) (w4 : (Jvm.Cond.instanceMethod y).before a0 Z = true) (w5 : (Jvm.Cond.initialized y.cls).before a0 Z = true) (w6 : (Jvm.Cond.code y bytes maxL ret).before a0 Z = true)
    (hy : y.cls ≠ "java/lang/invoke/MethodHandle" ∧ y.cls ≠ "java/lang/invoke/VarHandle") {W : Nat}
    (hM : MetFree l y (head1 [Jvm.Cond.code y bytes maxL ret] rm) (fun a U => a = as' ∧ Z.Warmed39 U.vm ∧ U.heap = h) (fun _ _ _ _ _ => True) (fun _ U o U' => ∃ v L, o = .returned v ∧ QP r h v U'.heap L ∧ FrameEnd U o U' L rm.cells rm.slots))
    (hf : rm.frames + 1 ≤ R.frames) (hl : W + (maxL + 11) + rm.locals ≤ R.locals) (hc : rm.cells = 0) (hs0 : rm.slots = 0) (eT : T.heap = h) (Ex : Exa Z h a C)
    {g : JFrame} (hg : g.method = m) (hsize : g.locals.size = c.maxLocals) {argsL rest : List Value} (hlen : ∀ sig, parseMethodDescriptor y.desc = some sig → argsL.length = sig.parameters.length) (hstack : g.stack = argsL.reverse ++ .ref a :: rest) (ha : (.ref a :: argsL).toArray = as')
    (hW : 2 * g.monitorRoom + (rest.map fun v => v.category).sum ≤ W) (hd : decode c.code g.pc = .ok (.invokevirtual index, 3)) (hcr : cells ≤ R.cells) (hsr : slots ≤ R.slots) :
    ∃ T', Stand p l e R s m args below meth c T' locs cells slots ∧ T'.heap = h ∧ ∀ target, Steps p.tables e below (T'.setTop { g with pc := g.pc + 3, stack := r.toList ++ rest }) target → Steps p.tables e below (T.setTop g) target := by
  obtain ⟨cq, kq, qa, qb, qc⟩ := isOf hZ eT Ex
  obtain ⟨_, _, ⟨T1, L1, k1, n1⟩, -, X1, ⟨Lc, hQ, l1, y1, z1⟩, st⟩ := X.virtualBack hx hown (mvT hZ w1) (mvT hZ w2) (notFace_of_selects (args := #[]) (mvT hZ w3)) (mvT hZ w3) (mvT hZ w4) hy (backOf (W := W) hM hZ w6 w5 hf hl) qa qc hg hsize (Steps.refl _) hlen hstack hW hd (fun _ _ => ⟨ha, eT, by rw [hc]; exact hcr, by rw [hs0]; exact hsr⟩)
  dsimp only [Pt.U, Pt.locs, Pt.cells, Pt.slots] at X1 l1 y1 z1 st hQ
  obtain ⟨rfl, rfl, e1⟩ := hQ
  rw [List.append_nil] at l1
  rw [hc] at y1
  rw [hs0] at z1
  subst l1 y1 z1
  exact ⟨T1, X1, e1, fun target k => st.trans k⟩
theorem own_callI (X : Stand p l e R s m args below meth c T locs cells slots) (hx : p.tables.exec = Jvm.exec) (hZ : Z.Warmed39 s.vm) {own : String} {index : Nat} {y : MethodName} (hy1 : y.name = "<init>") {bytes : ByteArray} {maxL : Nat} {rm : Room} {as' : Array Value} {a : Addr}
    (hown : s.vm.findClass own = some m.cls) (w1 : (Jvm.Cond.methodLink own index y).before a0 Z = true) (w4 : (Jvm.Cond.instanceMethod y).before a0 Z = true) (w5 : (Jvm.Cond.initialized y.cls).before a0 Z = true) (w6 : (Jvm.Cond.code y bytes maxL none).before a0 Z = true)
    (hy : y.cls ≠ "java/lang/invoke/MethodHandle" ∧ y.cls ≠ "java/lang/invoke/VarHandle") {W : Nat}
    (hM : MetFree l y (head1 [Jvm.Cond.code y bytes maxL none] rm) (fun a U => a = as' ∧ Z.Warmed39 U.vm ∧ U.heap = h) (fun _ _ _ _ _ => True) (fun _ U o U' => ∃ v L, o = .returned v ∧ QP none h v U'.heap L ∧ FrameEnd U o U' L rm.cells rm.slots))
    (hf : rm.frames + 1 ≤ R.frames) (hl : W + (maxL + 11) + rm.locals ≤ R.locals) (hc : rm.cells = 0) (hs0 : rm.slots = 0) (eT : T.heap = h)
    {g : JFrame} (hg : g.method = m) (hsize : g.locals.size = c.maxLocals) {argsL rest : List Value} (hlen : ∀ sig, parseMethodDescriptor y.desc = some sig → argsL.length = sig.parameters.length) (hstack : g.stack = argsL.reverse ++ .ref a :: rest) (ha : (.ref a :: argsL).toArray = as')
    (hW : 2 * g.monitorRoom + (rest.map fun v => v.category).sum ≤ W) (hd : decode c.code g.pc = .ok (.invokespecial index, 3)) (hcr : cells ≤ R.cells) (hsr : slots ≤ R.slots) :
    ∃ T', Stand p l e R s m args below meth c T' locs cells slots ∧ T'.heap = h ∧ ∀ target, Steps p.tables e below (T'.setTop { g with pc := g.pc + 3, stack := rest }) target → Steps p.tables e below (T.setTop g) target := by
  obtain ⟨_, _, ⟨T1, L1, k1, n1⟩, -, X1, ⟨Lc, hQ, l1, y1, z1⟩, st⟩ := X.specialBack hx hy1 hown (mvT hZ w1) (mvT hZ w4) (mvT hZ w6) hy (backOf (W := W) hM hZ w6 w5 hf hl) hg hsize (Steps.refl _) hlen hstack hW hd (fun _ _ => ⟨ha, eT, by rw [hc]; exact hcr, by rw [hs0]; exact hsr⟩)
  dsimp only [Pt.U, Pt.locs, Pt.cells, Pt.slots] at X1 l1 y1 z1 st hQ
  obtain ⟨rfl, rfl, e1⟩ := hQ
  rw [List.append_nil] at l1
  rw [hc] at y1
  rw [hs0] at z1
  subst l1 y1 z1
  exact ⟨T1, X1, e1, fun target k => st.trans k⟩
theorem own_l1 {x y : Int64} (h : x < y) : lcmpW x y < 0 := by rw [lcW]; exact (lc_lt x y).mpr h
theorem own_l2 {x y : Int64} (h : ¬ x < y) : ¬ lcmpW x y < 0 := by rw [lcW]; exact fun q => h ((lc_lt x y).mp q)
theorem own_g1 {x y : Int64} (h : y < x) : 0 < lcmpW x y := by rw [lcW]; exact (lc_gt x y).mpr h
theorem own_g2 {x y : Int64} (h : ¬ y < x) : ¬ 0 < lcmpW x y := by rw [lcW]; exact fun q => h ((lc_gt x y).mp q)
theorem own_e1 {x y : Int64} (h : x = y) : lcmpW x y = 0 := by rw [lcW]; exact (lc_eq x y).mpr h
theorem own_e2 {x y : Int64} (h : ¬ x = y) : ¬ lcmpW x y = 0 := by rw [lcW]; exact fun q => h ((lc_eq x y).mp q)
end OwnKit
theorem own_mod (x m : Int32) (hm : 0 < m.toInt) : 0 ≤ ((x &&& (2147483647 : Int32)) % m).toInt ∧ ((x &&& (2147483647 : Int32)) % m).toInt < m.toInt := by
  have e := Jvm.Kit.i32_mask x 2147483647 (k := 31) (by decide) (by decide)
  have h0 : 0 ≤ (x &&& (2147483647 : Int32)).toInt := by omega
  rw [Jvm.Kit.i32_rem_nonneg h0]
  exact ⟨Int.emod_nonneg _ (by omega), Int.emod_lt_of_pos _ hm⟩
theorem own_ext {x : Int32} {n : Nat} (h : x.toInt = n) (hn : n < 2 ^ 31) : x = Int32.ofNat n := Int32.toInt_inj.mp (by rw [h, Int32.toInt_ofNat_of_lt hn])

def own_name : Nat → String
  | 0 => "BLOB"
  | 1 => "BOOLEAN"
  | 2 => "STRING"
  | 3 => "BYTE"
  | 4 => "SHORT"
  | 5 => "INTEGER"
  | 6 => "LONG"
  | 7 => "FLOAT"
  | 8 => "DOUBLE"
  | 9 => "BIG_INTEGER"
  | 10 => "BIG_DECIMAL"
  | 11 => "TIMESTAMP"
  | 12 => "DOCUMENT"
  | 13 => "ENUM"
  | 14 => "INT_ENUM"
  | 15 => "LIST"
  | 16 => "MAP"
  | 17 => "STRUCTURE"
  | 18 => "UNION"
  | 19 => "SERVICE"
  | 20 => "OPERATION"
  | 21 => "RESOURCE"
  | _ => ""
def F1 (x0 : Int32) (A : Nat → Addr) : Addr :=
  if x0 = (0 : Int32) then
    (A 0)
  else
    if x0 = (1 : Int32) then
      (A 1)
    else
      if x0 = (2 : Int32) then
        (A 2)
      else
        if x0 = (3 : Int32) then
          (A 3)
        else
          if x0 = (4 : Int32) then
            (A 4)
          else
            if x0 = (5 : Int32) then
              (A 5)
            else
              if x0 = (6 : Int32) then
                (A 6)
              else
                if x0 = (7 : Int32) then
                  (A 7)
                else
                  if x0 = (8 : Int32) then
                    (A 8)
                  else
                    if x0 = (9 : Int32) then
                      (A 9)
                    else
                      if x0 = (10 : Int32) then
                        (A 10)
                      else
                        if x0 = (11 : Int32) then
                          (A 11)
                        else
                          if x0 = (12 : Int32) then
                            (A 12)
                          else
                            if x0 = (13 : Int32) then
                              (A 13)
                            else
                              if x0 = (14 : Int32) then
                                (A 14)
                              else
                                if x0 = (15 : Int32) then
                                  (A 15)
                                else
                                  if x0 = (16 : Int32) then
                                    (A 16)
                                  else
                                    if x0 = (17 : Int32) then
                                      (A 17)
                                    else
                                      if x0 = (18 : Int32) then
                                        (A 18)
                                      else
                                        if x0 = (19 : Int32) then
                                          (A 19)
                                        else
                                          if x0 = (20 : Int32) then
                                            (A 20)
                                          else
                                            (A 21)
theorem d1_0 : decode method_2_code 0 = .ok (.iload_n 0, 1) := by decide +kernel
theorem d1_1 : decode method_2_code 1 = .ok (.ifCond .ne 7, 3) := by decide +kernel
theorem d1_4 : decode method_2_code 4 = .ok (.getstatic 7, 3) := by decide +kernel
theorem d1_7 : decode method_2_code 7 = .ok (.areturn, 1) := by decide +kernel
theorem d1_8 : decode method_2_code 8 = .ok (.iload_n 0, 1) := by decide +kernel
theorem d1_9 : decode method_2_code 9 = .ok (.iconst 1, 1) := by decide +kernel
theorem d1_10 : decode method_2_code 10 = .ok (.if_icmp .ne 7, 3) := by decide +kernel
theorem d1_13 : decode method_2_code 13 = .ok (.getstatic 13, 3) := by decide +kernel
theorem d1_16 : decode method_2_code 16 = .ok (.areturn, 1) := by decide +kernel
theorem d1_17 : decode method_2_code 17 = .ok (.iload_n 0, 1) := by decide +kernel
theorem d1_18 : decode method_2_code 18 = .ok (.iconst 2, 1) := by decide +kernel
theorem d1_19 : decode method_2_code 19 = .ok (.if_icmp .ne 7, 3) := by decide +kernel
theorem d1_22 : decode method_2_code 22 = .ok (.getstatic 16, 3) := by decide +kernel
theorem d1_25 : decode method_2_code 25 = .ok (.areturn, 1) := by decide +kernel
theorem d1_26 : decode method_2_code 26 = .ok (.iload_n 0, 1) := by decide +kernel
theorem d1_27 : decode method_2_code 27 = .ok (.iconst 3, 1) := by decide +kernel
theorem d1_28 : decode method_2_code 28 = .ok (.if_icmp .ne 7, 3) := by decide +kernel
theorem d1_31 : decode method_2_code 31 = .ok (.getstatic 19, 3) := by decide +kernel
theorem d1_34 : decode method_2_code 34 = .ok (.areturn, 1) := by decide +kernel
theorem d1_35 : decode method_2_code 35 = .ok (.iload_n 0, 1) := by decide +kernel
theorem d1_36 : decode method_2_code 36 = .ok (.iconst 4, 1) := by decide +kernel
theorem d1_37 : decode method_2_code 37 = .ok (.if_icmp .ne 7, 3) := by decide +kernel
theorem d1_40 : decode method_2_code 40 = .ok (.getstatic 22, 3) := by decide +kernel
theorem d1_43 : decode method_2_code 43 = .ok (.areturn, 1) := by decide +kernel
theorem d1_44 : decode method_2_code 44 = .ok (.iload_n 0, 1) := by decide +kernel
theorem d1_45 : decode method_2_code 45 = .ok (.iconst 5, 1) := by decide +kernel
theorem d1_46 : decode method_2_code 46 = .ok (.if_icmp .ne 7, 3) := by decide +kernel
theorem d1_49 : decode method_2_code 49 = .ok (.getstatic 25, 3) := by decide +kernel
theorem d1_52 : decode method_2_code 52 = .ok (.areturn, 1) := by decide +kernel
theorem d1_53 : decode method_2_code 53 = .ok (.iload_n 0, 1) := by decide +kernel
theorem d1_54 : decode method_2_code 54 = .ok (.bipush 6, 2) := by decide +kernel
theorem d1_56 : decode method_2_code 56 = .ok (.if_icmp .ne 7, 3) := by decide +kernel
theorem d1_59 : decode method_2_code 59 = .ok (.getstatic 28, 3) := by decide +kernel
theorem d1_62 : decode method_2_code 62 = .ok (.areturn, 1) := by decide +kernel
theorem d1_63 : decode method_2_code 63 = .ok (.iload_n 0, 1) := by decide +kernel
theorem d1_64 : decode method_2_code 64 = .ok (.bipush 7, 2) := by decide +kernel
theorem d1_66 : decode method_2_code 66 = .ok (.if_icmp .ne 7, 3) := by decide +kernel
theorem d1_69 : decode method_2_code 69 = .ok (.getstatic 31, 3) := by decide +kernel
theorem d1_72 : decode method_2_code 72 = .ok (.areturn, 1) := by decide +kernel
theorem d1_73 : decode method_2_code 73 = .ok (.iload_n 0, 1) := by decide +kernel
theorem d1_74 : decode method_2_code 74 = .ok (.bipush 8, 2) := by decide +kernel
theorem d1_76 : decode method_2_code 76 = .ok (.if_icmp .ne 7, 3) := by decide +kernel
theorem d1_79 : decode method_2_code 79 = .ok (.getstatic 34, 3) := by decide +kernel
theorem d1_82 : decode method_2_code 82 = .ok (.areturn, 1) := by decide +kernel
theorem d1_83 : decode method_2_code 83 = .ok (.iload_n 0, 1) := by decide +kernel
theorem d1_84 : decode method_2_code 84 = .ok (.bipush 9, 2) := by decide +kernel
theorem d1_86 : decode method_2_code 86 = .ok (.if_icmp .ne 7, 3) := by decide +kernel
theorem d1_89 : decode method_2_code 89 = .ok (.getstatic 37, 3) := by decide +kernel
theorem d1_92 : decode method_2_code 92 = .ok (.areturn, 1) := by decide +kernel
theorem d1_93 : decode method_2_code 93 = .ok (.iload_n 0, 1) := by decide +kernel
theorem d1_94 : decode method_2_code 94 = .ok (.bipush 10, 2) := by decide +kernel
theorem d1_96 : decode method_2_code 96 = .ok (.if_icmp .ne 7, 3) := by decide +kernel
theorem d1_99 : decode method_2_code 99 = .ok (.getstatic 40, 3) := by decide +kernel
theorem d1_102 : decode method_2_code 102 = .ok (.areturn, 1) := by decide +kernel
theorem d1_103 : decode method_2_code 103 = .ok (.iload_n 0, 1) := by decide +kernel
theorem d1_104 : decode method_2_code 104 = .ok (.bipush 11, 2) := by decide +kernel
theorem d1_106 : decode method_2_code 106 = .ok (.if_icmp .ne 7, 3) := by decide +kernel
theorem d1_109 : decode method_2_code 109 = .ok (.getstatic 43, 3) := by decide +kernel
theorem d1_112 : decode method_2_code 112 = .ok (.areturn, 1) := by decide +kernel
theorem d1_113 : decode method_2_code 113 = .ok (.iload_n 0, 1) := by decide +kernel
theorem d1_114 : decode method_2_code 114 = .ok (.bipush 12, 2) := by decide +kernel
theorem d1_116 : decode method_2_code 116 = .ok (.if_icmp .ne 7, 3) := by decide +kernel
theorem d1_119 : decode method_2_code 119 = .ok (.getstatic 46, 3) := by decide +kernel
theorem d1_122 : decode method_2_code 122 = .ok (.areturn, 1) := by decide +kernel
theorem d1_123 : decode method_2_code 123 = .ok (.iload_n 0, 1) := by decide +kernel
theorem d1_124 : decode method_2_code 124 = .ok (.bipush 13, 2) := by decide +kernel
theorem d1_126 : decode method_2_code 126 = .ok (.if_icmp .ne 7, 3) := by decide +kernel
theorem d1_129 : decode method_2_code 129 = .ok (.getstatic 49, 3) := by decide +kernel
theorem d1_132 : decode method_2_code 132 = .ok (.areturn, 1) := by decide +kernel
theorem d1_133 : decode method_2_code 133 = .ok (.iload_n 0, 1) := by decide +kernel
theorem d1_134 : decode method_2_code 134 = .ok (.bipush 14, 2) := by decide +kernel
theorem d1_136 : decode method_2_code 136 = .ok (.if_icmp .ne 7, 3) := by decide +kernel
theorem d1_139 : decode method_2_code 139 = .ok (.getstatic 52, 3) := by decide +kernel
theorem d1_142 : decode method_2_code 142 = .ok (.areturn, 1) := by decide +kernel
theorem d1_143 : decode method_2_code 143 = .ok (.iload_n 0, 1) := by decide +kernel
theorem d1_144 : decode method_2_code 144 = .ok (.bipush 15, 2) := by decide +kernel
theorem d1_146 : decode method_2_code 146 = .ok (.if_icmp .ne 7, 3) := by decide +kernel
theorem d1_149 : decode method_2_code 149 = .ok (.getstatic 55, 3) := by decide +kernel
theorem d1_152 : decode method_2_code 152 = .ok (.areturn, 1) := by decide +kernel
theorem d1_153 : decode method_2_code 153 = .ok (.iload_n 0, 1) := by decide +kernel
theorem d1_154 : decode method_2_code 154 = .ok (.bipush 16, 2) := by decide +kernel
theorem d1_156 : decode method_2_code 156 = .ok (.if_icmp .ne 7, 3) := by decide +kernel
theorem d1_159 : decode method_2_code 159 = .ok (.getstatic 58, 3) := by decide +kernel
theorem d1_162 : decode method_2_code 162 = .ok (.areturn, 1) := by decide +kernel
theorem d1_163 : decode method_2_code 163 = .ok (.iload_n 0, 1) := by decide +kernel
theorem d1_164 : decode method_2_code 164 = .ok (.bipush 17, 2) := by decide +kernel
theorem d1_166 : decode method_2_code 166 = .ok (.if_icmp .ne 7, 3) := by decide +kernel
theorem d1_169 : decode method_2_code 169 = .ok (.getstatic 61, 3) := by decide +kernel
theorem d1_172 : decode method_2_code 172 = .ok (.areturn, 1) := by decide +kernel
theorem d1_173 : decode method_2_code 173 = .ok (.iload_n 0, 1) := by decide +kernel
theorem d1_174 : decode method_2_code 174 = .ok (.bipush 18, 2) := by decide +kernel
theorem d1_176 : decode method_2_code 176 = .ok (.if_icmp .ne 7, 3) := by decide +kernel
theorem d1_179 : decode method_2_code 179 = .ok (.getstatic 64, 3) := by decide +kernel
theorem d1_182 : decode method_2_code 182 = .ok (.areturn, 1) := by decide +kernel
theorem d1_183 : decode method_2_code 183 = .ok (.iload_n 0, 1) := by decide +kernel
theorem d1_184 : decode method_2_code 184 = .ok (.bipush 19, 2) := by decide +kernel
theorem d1_186 : decode method_2_code 186 = .ok (.if_icmp .ne 7, 3) := by decide +kernel
theorem d1_189 : decode method_2_code 189 = .ok (.getstatic 67, 3) := by decide +kernel
theorem d1_192 : decode method_2_code 192 = .ok (.areturn, 1) := by decide +kernel
theorem d1_193 : decode method_2_code 193 = .ok (.iload_n 0, 1) := by decide +kernel
theorem d1_194 : decode method_2_code 194 = .ok (.bipush 20, 2) := by decide +kernel
theorem d1_196 : decode method_2_code 196 = .ok (.if_icmp .ne 7, 3) := by decide +kernel
theorem d1_199 : decode method_2_code 199 = .ok (.getstatic 70, 3) := by decide +kernel
theorem d1_202 : decode method_2_code 202 = .ok (.areturn, 1) := by decide +kernel
theorem d1_203 : decode method_2_code 203 = .ok (.getstatic 73, 3) := by decide +kernel
theorem d1_206 : decode method_2_code 206 = .ok (.areturn, 1) := by decide +kernel
theorem own_pn0 : plainName "com/example/ptah/ptah/model/ShapeTypeTakesDefaultPinLaw" = true := by first | (simp [plainName, overriddenIn]; done) | decide +kernel
theorem ef_1_I (m : MethodId) (x0 : Int32) : entryFrame m #[(.int x0)] 1 = mkF m 0 #[.val (.int x0)] [] := by
  first | (simp [entryFrame, mkF, argsToLocals, Value.category]; done) | rfl
set_option maxRecDepth 65536 in
set_option maxHeartbeats 40000000 in
theorem rm1 (l : Launch) (Z : State) (a0 : Array Value) (hw : ∀ d ∈ tables_1, d.before a0 Z = true) (ws : List Jvm.Cond) (x0 : Int32)  (A : Nat → Addr) (h0 : Heap) (hS : ∀ n, n < 22 → Sta Z h0 "com/example/ptah/ptah/model/ShapeType" (own_name n) "Lcom/example/ptah/ptah/model/ShapeType;" (.ref (A n))) :
    MetFree l (⟨"com/example/ptah/ptah/model/ShapeTypeTakesDefaultPinLaw", "pick", "(I)Lcom/example/ptah/ptah/model/ShapeType;"⟩ : MethodName) (head1 (Jvm.Cond.code (⟨"com/example/ptah/ptah/model/ShapeTypeTakesDefaultPinLaw", "pick", "(I)Lcom/example/ptah/ptah/model/ShapeType;"⟩ : MethodName) method_2_code 1 (some (.object "com/example/ptah/ptah/model/ShapeType")) :: ws) ({ frames := 0, cells := 0, slots := 0, locals := 0 } : Room)) (fun a U => a = #[(.int x0)] ∧ Z.Warmed39 U.vm ∧ U.heap = h0) (fun _ _ _ _ _ => True) (fun _ U o U' => ∃ v L, o = .returned v ∧ QP (some (.ref (F1 x0 A))) h0 v U'.heap L ∧ FrameEnd U o U' L ({ frames := 0, cells := 0, slots := 0, locals := 0 } : Room).cells ({ frames := 0, cells := 0, slots := 0, locals := 0 } : Room).slots) := by
  refine MetFree.of_bodySF (plainFor_of_name own_pn0) hisR ?_
  intro p e s m args below meth c s₁ Bd hml0 hP hK
  obtain ⟨rfl, hZ, hh⟩ := hP
  have hx := Bd.exec
  have hby := Bd.bytes
  have hml : c.maxLocals = 1 := hml0
  have hown : s.vm.findClass "com/example/ptah/ptah/model/ShapeTypeTakesDefaultPinLaw" = some m.cls := findClass_of_methodNamed Bd.named
  have hnm := (name_of_methodNamed Bd.named Bd.method).1
  have X0 : Stand p l e ({ frames := 0, cells := 0, slots := 0, locals := 0 } : Room) s m #[(.int x0)] below meth c s₁ [] 0 0 := Stand.of_body Bd
  have e0 : s₁.heap = h0 := by rw [← hh, Bd.state]; rfl
  show own_G p.tables e below (fun o U' => ∃ v L, o = .returned v ∧ QP (some (.ref (F1 x0 A))) h0 v U'.heap L ∧ FrameEnd s o U' L ({ frames := 0, cells := 0, slots := 0, locals := 0 } : Room).cells ({ frames := 0, cells := 0, slots := 0, locals := 0 } : Room).slots) (s₁.setTop (entryFrame m #[(.int x0)] 1))
  refine own_go (fun _ k => castTop (ef_1_I m x0) k) ?_
  show own_G p.tables e below _ (s₁.setTop (mkF m 0 #[.val (.int x0)] []))
  refine own_go (fun _ k => XS.iloadN X0.here hx rfl (hb hby d1_0) rfl k) ?_
  show own_G p.tables e below _ (s₁.setTop (mkF m 1 #[.val (.int x0)] [(.int x0)]))
  by_cases hc1_1 : x0 = (0 : Int32)
  · refine own_go (fun _ k => XS.ifNo X0.here hx rfl (hb hby d1_1) rfl (((if0 _ _).trans (teq hc1_1).2)) k) ?_
    show own_G p.tables e below _ (s₁.setTop (mkF m 4 #[.val (.int x0)] []))
    obtain ⟨T2, X2, e2, st2⟩ := getS2 X0 hx hZ hown (host := "") (Or.inl (hw _ (List.mem_of_getElem? (i := 5) rfl))) Via.refl e0 (show Sta Z h0 "com/example/ptah/ptah/model/ShapeType" "BLOB" "Lcom/example/ptah/ptah/model/ShapeType;" (.ref (A 0)) from hS 0 (by decide)) (g := (mkF m 4 #[.val (.int x0)] [])) rfl (hb hby d1_4)
    refine own_go st2 ?_
    show own_G p.tables e below _ (T2.setTop (mkF m 7 #[.val (.int x0)] [(.ref (A 0))]))
    exact own_end X2 Bd.notSynchronized (v := some (.ref (A 0))) (fun h => by rw [Bd.returns] at h; cases h) (Q := QP (some (.ref (F1 x0 A))) h0) ⟨by unfold F1; simp only [if_pos hc1_1]; try rfl, rfl, e2⟩ (fun fs hr => own_retA X2 hx Bd.returns rfl rfl (hb hby d1_7) hr) (by decide) (by decide)
  · refine own_go (fun _ k => XS.ifYes X0.here hx rfl (pc0 := 1) (pc' := 8) rfl (hb hby d1_1) rfl (((if0 _ _).trans (feq hc1_1).2)) (by decide) (by decide) k) ?_
    show own_G p.tables e below _ (s₁.setTop (mkF m 8 #[.val (.int x0)] []))
    refine own_go (fun _ k => XS.iloadN X0.here hx rfl (hb hby d1_8) rfl k) ?_
    show own_G p.tables e below _ (s₁.setTop (mkF m 9 #[.val (.int x0)] [(.int x0)]))
    refine own_go (fun _ k => XS.iconst X0.here hx rfl (hb hby d1_9) k) ?_
    show own_G p.tables e below _ (s₁.setTop (mkF m 10 #[.val (.int x0)] [(.int (1 : Int32)), (.int x0)]))
    by_cases hc10_3 : x0 = (1 : Int32)
    · refine own_go (fun _ k => XS.icmpNo X0.here hx rfl (hb hby d1_10) rfl ((teq hc10_3).2) k) ?_
      show own_G p.tables e below _ (s₁.setTop (mkF m 13 #[.val (.int x0)] []))
      obtain ⟨T4, X4, e4, st4⟩ := getS2 X0 hx hZ hown (host := "") (Or.inl (hw _ (List.mem_of_getElem? (i := 35) rfl))) Via.refl e0 (show Sta Z h0 "com/example/ptah/ptah/model/ShapeType" "BOOLEAN" "Lcom/example/ptah/ptah/model/ShapeType;" (.ref (A 1)) from hS 1 (by decide)) (g := (mkF m 13 #[.val (.int x0)] [])) rfl (hb hby d1_13)
      refine own_go st4 ?_
      show own_G p.tables e below _ (T4.setTop (mkF m 16 #[.val (.int x0)] [(.ref (A 1))]))
      exact own_end X4 Bd.notSynchronized (v := some (.ref (A 1))) (fun h => by rw [Bd.returns] at h; cases h) (Q := QP (some (.ref (F1 x0 A))) h0) ⟨by unfold F1; simp only [if_neg hc1_1, if_pos hc10_3]; try rfl, rfl, e4⟩ (fun fs hr => own_retA X4 hx Bd.returns rfl rfl (hb hby d1_16) hr) (by decide) (by decide)
    · refine own_go (fun _ k => XS.icmpYes X0.here hx rfl (pc0 := 10) (pc' := 17) rfl (hb hby d1_10) rfl ((feq hc10_3).2) (by decide) (by decide) k) ?_
      show own_G p.tables e below _ (s₁.setTop (mkF m 17 #[.val (.int x0)] []))
      refine own_go (fun _ k => XS.iloadN X0.here hx rfl (hb hby d1_17) rfl k) ?_
      show own_G p.tables e below _ (s₁.setTop (mkF m 18 #[.val (.int x0)] [(.int x0)]))
      refine own_go (fun _ k => XS.iconst X0.here hx rfl (hb hby d1_18) k) ?_
      show own_G p.tables e below _ (s₁.setTop (mkF m 19 #[.val (.int x0)] [(.int (2 : Int32)), (.int x0)]))
      by_cases hc19_5 : x0 = (2 : Int32)
      · refine own_go (fun _ k => XS.icmpNo X0.here hx rfl (hb hby d1_19) rfl ((teq hc19_5).2) k) ?_
        show own_G p.tables e below _ (s₁.setTop (mkF m 22 #[.val (.int x0)] []))
        obtain ⟨T6, X6, e6, st6⟩ := getS2 X0 hx hZ hown (host := "") (Or.inl (hw _ (List.mem_of_getElem? (i := 29) rfl))) Via.refl e0 (show Sta Z h0 "com/example/ptah/ptah/model/ShapeType" "STRING" "Lcom/example/ptah/ptah/model/ShapeType;" (.ref (A 2)) from hS 2 (by decide)) (g := (mkF m 22 #[.val (.int x0)] [])) rfl (hb hby d1_22)
        refine own_go st6 ?_
        show own_G p.tables e below _ (T6.setTop (mkF m 25 #[.val (.int x0)] [(.ref (A 2))]))
        exact own_end X6 Bd.notSynchronized (v := some (.ref (A 2))) (fun h => by rw [Bd.returns] at h; cases h) (Q := QP (some (.ref (F1 x0 A))) h0) ⟨by unfold F1; simp only [if_neg hc1_1, if_neg hc10_3, if_pos hc19_5]; try rfl, rfl, e6⟩ (fun fs hr => own_retA X6 hx Bd.returns rfl rfl (hb hby d1_25) hr) (by decide) (by decide)
      · refine own_go (fun _ k => XS.icmpYes X0.here hx rfl (pc0 := 19) (pc' := 26) rfl (hb hby d1_19) rfl ((feq hc19_5).2) (by decide) (by decide) k) ?_
        show own_G p.tables e below _ (s₁.setTop (mkF m 26 #[.val (.int x0)] []))
        refine own_go (fun _ k => XS.iloadN X0.here hx rfl (hb hby d1_26) rfl k) ?_
        show own_G p.tables e below _ (s₁.setTop (mkF m 27 #[.val (.int x0)] [(.int x0)]))
        refine own_go (fun _ k => XS.iconst X0.here hx rfl (hb hby d1_27) k) ?_
        show own_G p.tables e below _ (s₁.setTop (mkF m 28 #[.val (.int x0)] [(.int (3 : Int32)), (.int x0)]))
        by_cases hc28_7 : x0 = (3 : Int32)
        · refine own_go (fun _ k => XS.icmpNo X0.here hx rfl (hb hby d1_28) rfl ((teq hc28_7).2) k) ?_
          show own_G p.tables e below _ (s₁.setTop (mkF m 31 #[.val (.int x0)] []))
          obtain ⟨T8, X8, e8, st8⟩ := getS2 X0 hx hZ hown (host := "") (Or.inl (hw _ (List.mem_of_getElem? (i := 23) rfl))) Via.refl e0 (show Sta Z h0 "com/example/ptah/ptah/model/ShapeType" "BYTE" "Lcom/example/ptah/ptah/model/ShapeType;" (.ref (A 3)) from hS 3 (by decide)) (g := (mkF m 31 #[.val (.int x0)] [])) rfl (hb hby d1_31)
          refine own_go st8 ?_
          show own_G p.tables e below _ (T8.setTop (mkF m 34 #[.val (.int x0)] [(.ref (A 3))]))
          exact own_end X8 Bd.notSynchronized (v := some (.ref (A 3))) (fun h => by rw [Bd.returns] at h; cases h) (Q := QP (some (.ref (F1 x0 A))) h0) ⟨by unfold F1; simp only [if_neg hc1_1, if_neg hc10_3, if_neg hc19_5, if_pos hc28_7]; try rfl, rfl, e8⟩ (fun fs hr => own_retA X8 hx Bd.returns rfl rfl (hb hby d1_34) hr) (by decide) (by decide)
        · refine own_go (fun _ k => XS.icmpYes X0.here hx rfl (pc0 := 28) (pc' := 35) rfl (hb hby d1_28) rfl ((feq hc28_7).2) (by decide) (by decide) k) ?_
          show own_G p.tables e below _ (s₁.setTop (mkF m 35 #[.val (.int x0)] []))
          refine own_go (fun _ k => XS.iloadN X0.here hx rfl (hb hby d1_35) rfl k) ?_
          show own_G p.tables e below _ (s₁.setTop (mkF m 36 #[.val (.int x0)] [(.int x0)]))
          refine own_go (fun _ k => XS.iconst X0.here hx rfl (hb hby d1_36) k) ?_
          show own_G p.tables e below _ (s₁.setTop (mkF m 37 #[.val (.int x0)] [(.int (4 : Int32)), (.int x0)]))
          by_cases hc37_9 : x0 = (4 : Int32)
          · refine own_go (fun _ k => XS.icmpNo X0.here hx rfl (hb hby d1_37) rfl ((teq hc37_9).2) k) ?_
            show own_G p.tables e below _ (s₁.setTop (mkF m 40 #[.val (.int x0)] []))
            obtain ⟨T10, X10, e10, st10⟩ := getS2 X0 hx hZ hown (host := "") (Or.inl (hw _ (List.mem_of_getElem? (i := 49) rfl))) Via.refl e0 (show Sta Z h0 "com/example/ptah/ptah/model/ShapeType" "SHORT" "Lcom/example/ptah/ptah/model/ShapeType;" (.ref (A 4)) from hS 4 (by decide)) (g := (mkF m 40 #[.val (.int x0)] [])) rfl (hb hby d1_40)
            refine own_go st10 ?_
            show own_G p.tables e below _ (T10.setTop (mkF m 43 #[.val (.int x0)] [(.ref (A 4))]))
            exact own_end X10 Bd.notSynchronized (v := some (.ref (A 4))) (fun h => by rw [Bd.returns] at h; cases h) (Q := QP (some (.ref (F1 x0 A))) h0) ⟨by unfold F1; simp only [if_neg hc1_1, if_neg hc10_3, if_neg hc19_5, if_neg hc28_7, if_pos hc37_9]; try rfl, rfl, e10⟩ (fun fs hr => own_retA X10 hx Bd.returns rfl rfl (hb hby d1_43) hr) (by decide) (by decide)
          · refine own_go (fun _ k => XS.icmpYes X0.here hx rfl (pc0 := 37) (pc' := 44) rfl (hb hby d1_37) rfl ((feq hc37_9).2) (by decide) (by decide) k) ?_
            show own_G p.tables e below _ (s₁.setTop (mkF m 44 #[.val (.int x0)] []))
            refine own_go (fun _ k => XS.iloadN X0.here hx rfl (hb hby d1_44) rfl k) ?_
            show own_G p.tables e below _ (s₁.setTop (mkF m 45 #[.val (.int x0)] [(.int x0)]))
            refine own_go (fun _ k => XS.iconst X0.here hx rfl (hb hby d1_45) k) ?_
            show own_G p.tables e below _ (s₁.setTop (mkF m 46 #[.val (.int x0)] [(.int (5 : Int32)), (.int x0)]))
            by_cases hc46_11 : x0 = (5 : Int32)
            · refine own_go (fun _ k => XS.icmpNo X0.here hx rfl (hb hby d1_46) rfl ((teq hc46_11).2) k) ?_
              show own_G p.tables e below _ (s₁.setTop (mkF m 49 #[.val (.int x0)] []))
              obtain ⟨T12, X12, e12, st12⟩ := getS2 X0 hx hZ hown (host := "") (Or.inl (hw _ (List.mem_of_getElem? (i := 39) rfl))) Via.refl e0 (show Sta Z h0 "com/example/ptah/ptah/model/ShapeType" "INTEGER" "Lcom/example/ptah/ptah/model/ShapeType;" (.ref (A 5)) from hS 5 (by decide)) (g := (mkF m 49 #[.val (.int x0)] [])) rfl (hb hby d1_49)
              refine own_go st12 ?_
              show own_G p.tables e below _ (T12.setTop (mkF m 52 #[.val (.int x0)] [(.ref (A 5))]))
              exact own_end X12 Bd.notSynchronized (v := some (.ref (A 5))) (fun h => by rw [Bd.returns] at h; cases h) (Q := QP (some (.ref (F1 x0 A))) h0) ⟨by unfold F1; simp only [if_neg hc1_1, if_neg hc10_3, if_neg hc19_5, if_neg hc28_7, if_neg hc37_9, if_pos hc46_11]; try rfl, rfl, e12⟩ (fun fs hr => own_retA X12 hx Bd.returns rfl rfl (hb hby d1_52) hr) (by decide) (by decide)
            · refine own_go (fun _ k => XS.icmpYes X0.here hx rfl (pc0 := 46) (pc' := 53) rfl (hb hby d1_46) rfl ((feq hc46_11).2) (by decide) (by decide) k) ?_
              show own_G p.tables e below _ (s₁.setTop (mkF m 53 #[.val (.int x0)] []))
              refine own_go (fun _ k => XS.iloadN X0.here hx rfl (hb hby d1_53) rfl k) ?_
              show own_G p.tables e below _ (s₁.setTop (mkF m 54 #[.val (.int x0)] [(.int x0)]))
              refine own_go (fun _ k => XS.bipush X0.here hx rfl (hb hby d1_54) k) ?_
              show own_G p.tables e below _ (s₁.setTop (mkF m 56 #[.val (.int x0)] [(.int (6 : Int32)), (.int x0)]))
              by_cases hc56_13 : x0 = (6 : Int32)
              · refine own_go (fun _ k => XS.icmpNo X0.here hx rfl (hb hby d1_56) rfl ((teq hc56_13).2) k) ?_
                show own_G p.tables e below _ (s₁.setTop (mkF m 59 #[.val (.int x0)] []))
                obtain ⟨T14, X14, e14, st14⟩ := getS2 X0 hx hZ hown (host := "") (Or.inl (hw _ (List.mem_of_getElem? (i := 43) rfl))) Via.refl e0 (show Sta Z h0 "com/example/ptah/ptah/model/ShapeType" "LONG" "Lcom/example/ptah/ptah/model/ShapeType;" (.ref (A 6)) from hS 6 (by decide)) (g := (mkF m 59 #[.val (.int x0)] [])) rfl (hb hby d1_59)
                refine own_go st14 ?_
                show own_G p.tables e below _ (T14.setTop (mkF m 62 #[.val (.int x0)] [(.ref (A 6))]))
                exact own_end X14 Bd.notSynchronized (v := some (.ref (A 6))) (fun h => by rw [Bd.returns] at h; cases h) (Q := QP (some (.ref (F1 x0 A))) h0) ⟨by unfold F1; simp only [if_neg hc1_1, if_neg hc10_3, if_neg hc19_5, if_neg hc28_7, if_neg hc37_9, if_neg hc46_11, if_pos hc56_13]; try rfl, rfl, e14⟩ (fun fs hr => own_retA X14 hx Bd.returns rfl rfl (hb hby d1_62) hr) (by decide) (by decide)
              · refine own_go (fun _ k => XS.icmpYes X0.here hx rfl (pc0 := 56) (pc' := 63) rfl (hb hby d1_56) rfl ((feq hc56_13).2) (by decide) (by decide) k) ?_
                show own_G p.tables e below _ (s₁.setTop (mkF m 63 #[.val (.int x0)] []))
                refine own_go (fun _ k => XS.iloadN X0.here hx rfl (hb hby d1_63) rfl k) ?_
                show own_G p.tables e below _ (s₁.setTop (mkF m 64 #[.val (.int x0)] [(.int x0)]))
                refine own_go (fun _ k => XS.bipush X0.here hx rfl (hb hby d1_64) k) ?_
                show own_G p.tables e below _ (s₁.setTop (mkF m 66 #[.val (.int x0)] [(.int (7 : Int32)), (.int x0)]))
                by_cases hc66_15 : x0 = (7 : Int32)
                · refine own_go (fun _ k => XS.icmpNo X0.here hx rfl (hb hby d1_66) rfl ((teq hc66_15).2) k) ?_
                  show own_G p.tables e below _ (s₁.setTop (mkF m 69 #[.val (.int x0)] []))
                  obtain ⟨T16, X16, e16, st16⟩ := getS2 X0 hx hZ hown (host := "") (Or.inl (hw _ (List.mem_of_getElem? (i := 25) rfl))) Via.refl e0 (show Sta Z h0 "com/example/ptah/ptah/model/ShapeType" "FLOAT" "Lcom/example/ptah/ptah/model/ShapeType;" (.ref (A 7)) from hS 7 (by decide)) (g := (mkF m 69 #[.val (.int x0)] [])) rfl (hb hby d1_69)
                  refine own_go st16 ?_
                  show own_G p.tables e below _ (T16.setTop (mkF m 72 #[.val (.int x0)] [(.ref (A 7))]))
                  exact own_end X16 Bd.notSynchronized (v := some (.ref (A 7))) (fun h => by rw [Bd.returns] at h; cases h) (Q := QP (some (.ref (F1 x0 A))) h0) ⟨by unfold F1; simp only [if_neg hc1_1, if_neg hc10_3, if_neg hc19_5, if_neg hc28_7, if_neg hc37_9, if_neg hc46_11, if_neg hc56_13, if_pos hc66_15]; try rfl, rfl, e16⟩ (fun fs hr => own_retA X16 hx Bd.returns rfl rfl (hb hby d1_72) hr) (by decide) (by decide)
                · refine own_go (fun _ k => XS.icmpYes X0.here hx rfl (pc0 := 66) (pc' := 73) rfl (hb hby d1_66) rfl ((feq hc66_15).2) (by decide) (by decide) k) ?_
                  show own_G p.tables e below _ (s₁.setTop (mkF m 73 #[.val (.int x0)] []))
                  refine own_go (fun _ k => XS.iloadN X0.here hx rfl (hb hby d1_73) rfl k) ?_
                  show own_G p.tables e below _ (s₁.setTop (mkF m 74 #[.val (.int x0)] [(.int x0)]))
                  refine own_go (fun _ k => XS.bipush X0.here hx rfl (hb hby d1_74) k) ?_
                  show own_G p.tables e below _ (s₁.setTop (mkF m 76 #[.val (.int x0)] [(.int (8 : Int32)), (.int x0)]))
                  by_cases hc76_17 : x0 = (8 : Int32)
                  · refine own_go (fun _ k => XS.icmpNo X0.here hx rfl (hb hby d1_76) rfl ((teq hc76_17).2) k) ?_
                    show own_G p.tables e below _ (s₁.setTop (mkF m 79 #[.val (.int x0)] []))
                    obtain ⟨T18, X18, e18, st18⟩ := getS2 X0 hx hZ hown (host := "") (Or.inl (hw _ (List.mem_of_getElem? (i := 27) rfl))) Via.refl e0 (show Sta Z h0 "com/example/ptah/ptah/model/ShapeType" "DOUBLE" "Lcom/example/ptah/ptah/model/ShapeType;" (.ref (A 8)) from hS 8 (by decide)) (g := (mkF m 79 #[.val (.int x0)] [])) rfl (hb hby d1_79)
                    refine own_go st18 ?_
                    show own_G p.tables e below _ (T18.setTop (mkF m 82 #[.val (.int x0)] [(.ref (A 8))]))
                    exact own_end X18 Bd.notSynchronized (v := some (.ref (A 8))) (fun h => by rw [Bd.returns] at h; cases h) (Q := QP (some (.ref (F1 x0 A))) h0) ⟨by unfold F1; simp only [if_neg hc1_1, if_neg hc10_3, if_neg hc19_5, if_neg hc28_7, if_neg hc37_9, if_neg hc46_11, if_neg hc56_13, if_neg hc66_15, if_pos hc76_17]; try rfl, rfl, e18⟩ (fun fs hr => own_retA X18 hx Bd.returns rfl rfl (hb hby d1_82) hr) (by decide) (by decide)
                  · refine own_go (fun _ k => XS.icmpYes X0.here hx rfl (pc0 := 76) (pc' := 83) rfl (hb hby d1_76) rfl ((feq hc76_17).2) (by decide) (by decide) k) ?_
                    show own_G p.tables e below _ (s₁.setTop (mkF m 83 #[.val (.int x0)] []))
                    refine own_go (fun _ k => XS.iloadN X0.here hx rfl (hb hby d1_83) rfl k) ?_
                    show own_G p.tables e below _ (s₁.setTop (mkF m 84 #[.val (.int x0)] [(.int x0)]))
                    refine own_go (fun _ k => XS.bipush X0.here hx rfl (hb hby d1_84) k) ?_
                    show own_G p.tables e below _ (s₁.setTop (mkF m 86 #[.val (.int x0)] [(.int (9 : Int32)), (.int x0)]))
                    by_cases hc86_19 : x0 = (9 : Int32)
                    · refine own_go (fun _ k => XS.icmpNo X0.here hx rfl (hb hby d1_86) rfl ((teq hc86_19).2) k) ?_
                      show own_G p.tables e below _ (s₁.setTop (mkF m 89 #[.val (.int x0)] []))
                      obtain ⟨T20, X20, e20, st20⟩ := getS2 X0 hx hZ hown (host := "") (Or.inl (hw _ (List.mem_of_getElem? (i := 37) rfl))) Via.refl e0 (show Sta Z h0 "com/example/ptah/ptah/model/ShapeType" "BIG_INTEGER" "Lcom/example/ptah/ptah/model/ShapeType;" (.ref (A 9)) from hS 9 (by decide)) (g := (mkF m 89 #[.val (.int x0)] [])) rfl (hb hby d1_89)
                      refine own_go st20 ?_
                      show own_G p.tables e below _ (T20.setTop (mkF m 92 #[.val (.int x0)] [(.ref (A 9))]))
                      exact own_end X20 Bd.notSynchronized (v := some (.ref (A 9))) (fun h => by rw [Bd.returns] at h; cases h) (Q := QP (some (.ref (F1 x0 A))) h0) ⟨by unfold F1; simp only [if_neg hc1_1, if_neg hc10_3, if_neg hc19_5, if_neg hc28_7, if_neg hc37_9, if_neg hc46_11, if_neg hc56_13, if_neg hc66_15, if_neg hc76_17, if_pos hc86_19]; try rfl, rfl, e20⟩ (fun fs hr => own_retA X20 hx Bd.returns rfl rfl (hb hby d1_92) hr) (by decide) (by decide)
                    · refine own_go (fun _ k => XS.icmpYes X0.here hx rfl (pc0 := 86) (pc' := 93) rfl (hb hby d1_86) rfl ((feq hc86_19).2) (by decide) (by decide) k) ?_
                      show own_G p.tables e below _ (s₁.setTop (mkF m 93 #[.val (.int x0)] []))
                      refine own_go (fun _ k => XS.iloadN X0.here hx rfl (hb hby d1_93) rfl k) ?_
                      show own_G p.tables e below _ (s₁.setTop (mkF m 94 #[.val (.int x0)] [(.int x0)]))
                      refine own_go (fun _ k => XS.bipush X0.here hx rfl (hb hby d1_94) k) ?_
                      show own_G p.tables e below _ (s₁.setTop (mkF m 96 #[.val (.int x0)] [(.int (10 : Int32)), (.int x0)]))
                      by_cases hc96_21 : x0 = (10 : Int32)
                      · refine own_go (fun _ k => XS.icmpNo X0.here hx rfl (hb hby d1_96) rfl ((teq hc96_21).2) k) ?_
                        show own_G p.tables e below _ (s₁.setTop (mkF m 99 #[.val (.int x0)] []))
                        obtain ⟨T22, X22, e22, st22⟩ := getS2 X0 hx hZ hown (host := "") (Or.inl (hw _ (List.mem_of_getElem? (i := 33) rfl))) Via.refl e0 (show Sta Z h0 "com/example/ptah/ptah/model/ShapeType" "BIG_DECIMAL" "Lcom/example/ptah/ptah/model/ShapeType;" (.ref (A 10)) from hS 10 (by decide)) (g := (mkF m 99 #[.val (.int x0)] [])) rfl (hb hby d1_99)
                        refine own_go st22 ?_
                        show own_G p.tables e below _ (T22.setTop (mkF m 102 #[.val (.int x0)] [(.ref (A 10))]))
                        exact own_end X22 Bd.notSynchronized (v := some (.ref (A 10))) (fun h => by rw [Bd.returns] at h; cases h) (Q := QP (some (.ref (F1 x0 A))) h0) ⟨by unfold F1; simp only [if_neg hc1_1, if_neg hc10_3, if_neg hc19_5, if_neg hc28_7, if_neg hc37_9, if_neg hc46_11, if_neg hc56_13, if_neg hc66_15, if_neg hc76_17, if_neg hc86_19, if_pos hc96_21]; try rfl, rfl, e22⟩ (fun fs hr => own_retA X22 hx Bd.returns rfl rfl (hb hby d1_102) hr) (by decide) (by decide)
                      · refine own_go (fun _ k => XS.icmpYes X0.here hx rfl (pc0 := 96) (pc' := 103) rfl (hb hby d1_96) rfl ((feq hc96_21).2) (by decide) (by decide) k) ?_
                        show own_G p.tables e below _ (s₁.setTop (mkF m 103 #[.val (.int x0)] []))
                        refine own_go (fun _ k => XS.iloadN X0.here hx rfl (hb hby d1_103) rfl k) ?_
                        show own_G p.tables e below _ (s₁.setTop (mkF m 104 #[.val (.int x0)] [(.int x0)]))
                        refine own_go (fun _ k => XS.bipush X0.here hx rfl (hb hby d1_104) k) ?_
                        show own_G p.tables e below _ (s₁.setTop (mkF m 106 #[.val (.int x0)] [(.int (11 : Int32)), (.int x0)]))
                        by_cases hc106_23 : x0 = (11 : Int32)
                        · refine own_go (fun _ k => XS.icmpNo X0.here hx rfl (hb hby d1_106) rfl ((teq hc106_23).2) k) ?_
                          show own_G p.tables e below _ (s₁.setTop (mkF m 109 #[.val (.int x0)] []))
                          obtain ⟨T24, X24, e24, st24⟩ := getS2 X0 hx hZ hown (host := "") (Or.inl (hw _ (List.mem_of_getElem? (i := 31) rfl))) Via.refl e0 (show Sta Z h0 "com/example/ptah/ptah/model/ShapeType" "TIMESTAMP" "Lcom/example/ptah/ptah/model/ShapeType;" (.ref (A 11)) from hS 11 (by decide)) (g := (mkF m 109 #[.val (.int x0)] [])) rfl (hb hby d1_109)
                          refine own_go st24 ?_
                          show own_G p.tables e below _ (T24.setTop (mkF m 112 #[.val (.int x0)] [(.ref (A 11))]))
                          exact own_end X24 Bd.notSynchronized (v := some (.ref (A 11))) (fun h => by rw [Bd.returns] at h; cases h) (Q := QP (some (.ref (F1 x0 A))) h0) ⟨by unfold F1; simp only [if_neg hc1_1, if_neg hc10_3, if_neg hc19_5, if_neg hc28_7, if_neg hc37_9, if_neg hc46_11, if_neg hc56_13, if_neg hc66_15, if_neg hc76_17, if_neg hc86_19, if_neg hc96_21, if_pos hc106_23]; try rfl, rfl, e24⟩ (fun fs hr => own_retA X24 hx Bd.returns rfl rfl (hb hby d1_112) hr) (by decide) (by decide)
                        · refine own_go (fun _ k => XS.icmpYes X0.here hx rfl (pc0 := 106) (pc' := 113) rfl (hb hby d1_106) rfl ((feq hc106_23).2) (by decide) (by decide) k) ?_
                          show own_G p.tables e below _ (s₁.setTop (mkF m 113 #[.val (.int x0)] []))
                          refine own_go (fun _ k => XS.iloadN X0.here hx rfl (hb hby d1_113) rfl k) ?_
                          show own_G p.tables e below _ (s₁.setTop (mkF m 114 #[.val (.int x0)] [(.int x0)]))
                          refine own_go (fun _ k => XS.bipush X0.here hx rfl (hb hby d1_114) k) ?_
                          show own_G p.tables e below _ (s₁.setTop (mkF m 116 #[.val (.int x0)] [(.int (12 : Int32)), (.int x0)]))
                          by_cases hc116_25 : x0 = (12 : Int32)
                          · refine own_go (fun _ k => XS.icmpNo X0.here hx rfl (hb hby d1_116) rfl ((teq hc116_25).2) k) ?_
                            show own_G p.tables e below _ (s₁.setTop (mkF m 119 #[.val (.int x0)] []))
                            obtain ⟨T26, X26, e26, st26⟩ := getS2 X0 hx hZ hown (host := "") (Or.inl (hw _ (List.mem_of_getElem? (i := 54) rfl))) Via.refl e0 (show Sta Z h0 "com/example/ptah/ptah/model/ShapeType" "DOCUMENT" "Lcom/example/ptah/ptah/model/ShapeType;" (.ref (A 12)) from hS 12 (by decide)) (g := (mkF m 119 #[.val (.int x0)] [])) rfl (hb hby d1_119)
                            refine own_go st26 ?_
                            show own_G p.tables e below _ (T26.setTop (mkF m 122 #[.val (.int x0)] [(.ref (A 12))]))
                            exact own_end X26 Bd.notSynchronized (v := some (.ref (A 12))) (fun h => by rw [Bd.returns] at h; cases h) (Q := QP (some (.ref (F1 x0 A))) h0) ⟨by unfold F1; simp only [if_neg hc1_1, if_neg hc10_3, if_neg hc19_5, if_neg hc28_7, if_neg hc37_9, if_neg hc46_11, if_neg hc56_13, if_neg hc66_15, if_neg hc76_17, if_neg hc86_19, if_neg hc96_21, if_neg hc106_23, if_pos hc116_25]; try rfl, rfl, e26⟩ (fun fs hr => own_retA X26 hx Bd.returns rfl rfl (hb hby d1_122) hr) (by decide) (by decide)
                          · refine own_go (fun _ k => XS.icmpYes X0.here hx rfl (pc0 := 116) (pc' := 123) rfl (hb hby d1_116) rfl ((feq hc116_25).2) (by decide) (by decide) k) ?_
                            show own_G p.tables e below _ (s₁.setTop (mkF m 123 #[.val (.int x0)] []))
                            refine own_go (fun _ k => XS.iloadN X0.here hx rfl (hb hby d1_123) rfl k) ?_
                            show own_G p.tables e below _ (s₁.setTop (mkF m 124 #[.val (.int x0)] [(.int x0)]))
                            refine own_go (fun _ k => XS.bipush X0.here hx rfl (hb hby d1_124) k) ?_
                            show own_G p.tables e below _ (s₁.setTop (mkF m 126 #[.val (.int x0)] [(.int (13 : Int32)), (.int x0)]))
                            by_cases hc126_27 : x0 = (13 : Int32)
                            · refine own_go (fun _ k => XS.icmpNo X0.here hx rfl (hb hby d1_126) rfl ((teq hc126_27).2) k) ?_
                              show own_G p.tables e below _ (s₁.setTop (mkF m 129 #[.val (.int x0)] []))
                              obtain ⟨T28, X28, e28, st28⟩ := getS2 X0 hx hZ hown (host := "") (Or.inl (hw _ (List.mem_of_getElem? (i := 56) rfl))) Via.refl e0 (show Sta Z h0 "com/example/ptah/ptah/model/ShapeType" "ENUM" "Lcom/example/ptah/ptah/model/ShapeType;" (.ref (A 13)) from hS 13 (by decide)) (g := (mkF m 129 #[.val (.int x0)] [])) rfl (hb hby d1_129)
                              refine own_go st28 ?_
                              show own_G p.tables e below _ (T28.setTop (mkF m 132 #[.val (.int x0)] [(.ref (A 13))]))
                              exact own_end X28 Bd.notSynchronized (v := some (.ref (A 13))) (fun h => by rw [Bd.returns] at h; cases h) (Q := QP (some (.ref (F1 x0 A))) h0) ⟨by unfold F1; simp only [if_neg hc1_1, if_neg hc10_3, if_neg hc19_5, if_neg hc28_7, if_neg hc37_9, if_neg hc46_11, if_neg hc56_13, if_neg hc66_15, if_neg hc76_17, if_neg hc86_19, if_neg hc96_21, if_neg hc106_23, if_neg hc116_25, if_pos hc126_27]; try rfl, rfl, e28⟩ (fun fs hr => own_retA X28 hx Bd.returns rfl rfl (hb hby d1_132) hr) (by decide) (by decide)
                            · refine own_go (fun _ k => XS.icmpYes X0.here hx rfl (pc0 := 126) (pc' := 133) rfl (hb hby d1_126) rfl ((feq hc126_27).2) (by decide) (by decide) k) ?_
                              show own_G p.tables e below _ (s₁.setTop (mkF m 133 #[.val (.int x0)] []))
                              refine own_go (fun _ k => XS.iloadN X0.here hx rfl (hb hby d1_133) rfl k) ?_
                              show own_G p.tables e below _ (s₁.setTop (mkF m 134 #[.val (.int x0)] [(.int x0)]))
                              refine own_go (fun _ k => XS.bipush X0.here hx rfl (hb hby d1_134) k) ?_
                              show own_G p.tables e below _ (s₁.setTop (mkF m 136 #[.val (.int x0)] [(.int (14 : Int32)), (.int x0)]))
                              by_cases hc136_29 : x0 = (14 : Int32)
                              · refine own_go (fun _ k => XS.icmpNo X0.here hx rfl (hb hby d1_136) rfl ((teq hc136_29).2) k) ?_
                                show own_G p.tables e below _ (s₁.setTop (mkF m 139 #[.val (.int x0)] []))
                                obtain ⟨T30, X30, e30, st30⟩ := getS2 X0 hx hZ hown (host := "") (Or.inl (hw _ (List.mem_of_getElem? (i := 52) rfl))) Via.refl e0 (show Sta Z h0 "com/example/ptah/ptah/model/ShapeType" "INT_ENUM" "Lcom/example/ptah/ptah/model/ShapeType;" (.ref (A 14)) from hS 14 (by decide)) (g := (mkF m 139 #[.val (.int x0)] [])) rfl (hb hby d1_139)
                                refine own_go st30 ?_
                                show own_G p.tables e below _ (T30.setTop (mkF m 142 #[.val (.int x0)] [(.ref (A 14))]))
                                exact own_end X30 Bd.notSynchronized (v := some (.ref (A 14))) (fun h => by rw [Bd.returns] at h; cases h) (Q := QP (some (.ref (F1 x0 A))) h0) ⟨by unfold F1; simp only [if_neg hc1_1, if_neg hc10_3, if_neg hc19_5, if_neg hc28_7, if_neg hc37_9, if_neg hc46_11, if_neg hc56_13, if_neg hc66_15, if_neg hc76_17, if_neg hc86_19, if_neg hc96_21, if_neg hc106_23, if_neg hc116_25, if_neg hc126_27, if_pos hc136_29]; try rfl, rfl, e30⟩ (fun fs hr => own_retA X30 hx Bd.returns rfl rfl (hb hby d1_142) hr) (by decide) (by decide)
                              · refine own_go (fun _ k => XS.icmpYes X0.here hx rfl (pc0 := 136) (pc' := 143) rfl (hb hby d1_136) rfl ((feq hc136_29).2) (by decide) (by decide) k) ?_
                                show own_G p.tables e below _ (s₁.setTop (mkF m 143 #[.val (.int x0)] []))
                                refine own_go (fun _ k => XS.iloadN X0.here hx rfl (hb hby d1_143) rfl k) ?_
                                show own_G p.tables e below _ (s₁.setTop (mkF m 144 #[.val (.int x0)] [(.int x0)]))
                                refine own_go (fun _ k => XS.bipush X0.here hx rfl (hb hby d1_144) k) ?_
                                show own_G p.tables e below _ (s₁.setTop (mkF m 146 #[.val (.int x0)] [(.int (15 : Int32)), (.int x0)]))
                                by_cases hc146_31 : x0 = (15 : Int32)
                                · refine own_go (fun _ k => XS.icmpNo X0.here hx rfl (hb hby d1_146) rfl ((teq hc146_31).2) k) ?_
                                  show own_G p.tables e below _ (s₁.setTop (mkF m 149 #[.val (.int x0)] []))
                                  obtain ⟨T32, X32, e32, st32⟩ := getS2 X0 hx hZ hown (host := "") (Or.inl (hw _ (List.mem_of_getElem? (i := 47) rfl))) Via.refl e0 (show Sta Z h0 "com/example/ptah/ptah/model/ShapeType" "LIST" "Lcom/example/ptah/ptah/model/ShapeType;" (.ref (A 15)) from hS 15 (by decide)) (g := (mkF m 149 #[.val (.int x0)] [])) rfl (hb hby d1_149)
                                  refine own_go st32 ?_
                                  show own_G p.tables e below _ (T32.setTop (mkF m 152 #[.val (.int x0)] [(.ref (A 15))]))
                                  exact own_end X32 Bd.notSynchronized (v := some (.ref (A 15))) (fun h => by rw [Bd.returns] at h; cases h) (Q := QP (some (.ref (F1 x0 A))) h0) ⟨by unfold F1; simp only [if_neg hc1_1, if_neg hc10_3, if_neg hc19_5, if_neg hc28_7, if_neg hc37_9, if_neg hc46_11, if_neg hc56_13, if_neg hc66_15, if_neg hc76_17, if_neg hc86_19, if_neg hc96_21, if_neg hc106_23, if_neg hc116_25, if_neg hc126_27, if_neg hc136_29, if_pos hc146_31]; try rfl, rfl, e32⟩ (fun fs hr => own_retA X32 hx Bd.returns rfl rfl (hb hby d1_152) hr) (by decide) (by decide)
                                · refine own_go (fun _ k => XS.icmpYes X0.here hx rfl (pc0 := 146) (pc' := 153) rfl (hb hby d1_146) rfl ((feq hc146_31).2) (by decide) (by decide) k) ?_
                                  show own_G p.tables e below _ (s₁.setTop (mkF m 153 #[.val (.int x0)] []))
                                  refine own_go (fun _ k => XS.iloadN X0.here hx rfl (hb hby d1_153) rfl k) ?_
                                  show own_G p.tables e below _ (s₁.setTop (mkF m 154 #[.val (.int x0)] [(.int x0)]))
                                  refine own_go (fun _ k => XS.bipush X0.here hx rfl (hb hby d1_154) k) ?_
                                  show own_G p.tables e below _ (s₁.setTop (mkF m 156 #[.val (.int x0)] [(.int (16 : Int32)), (.int x0)]))
                                  by_cases hc156_33 : x0 = (16 : Int32)
                                  · refine own_go (fun _ k => XS.icmpNo X0.here hx rfl (hb hby d1_156) rfl ((teq hc156_33).2) k) ?_
                                    show own_G p.tables e below _ (s₁.setTop (mkF m 159 #[.val (.int x0)] []))
                                    obtain ⟨T34, X34, e34, st34⟩ := getS2 X0 hx hZ hown (host := "") (Or.inl (hw _ (List.mem_of_getElem? (i := 41) rfl))) Via.refl e0 (show Sta Z h0 "com/example/ptah/ptah/model/ShapeType" "MAP" "Lcom/example/ptah/ptah/model/ShapeType;" (.ref (A 16)) from hS 16 (by decide)) (g := (mkF m 159 #[.val (.int x0)] [])) rfl (hb hby d1_159)
                                    refine own_go st34 ?_
                                    show own_G p.tables e below _ (T34.setTop (mkF m 162 #[.val (.int x0)] [(.ref (A 16))]))
                                    exact own_end X34 Bd.notSynchronized (v := some (.ref (A 16))) (fun h => by rw [Bd.returns] at h; cases h) (Q := QP (some (.ref (F1 x0 A))) h0) ⟨by unfold F1; simp only [if_neg hc1_1, if_neg hc10_3, if_neg hc19_5, if_neg hc28_7, if_neg hc37_9, if_neg hc46_11, if_neg hc56_13, if_neg hc66_15, if_neg hc76_17, if_neg hc86_19, if_neg hc96_21, if_neg hc106_23, if_neg hc116_25, if_neg hc126_27, if_neg hc136_29, if_neg hc146_31, if_pos hc156_33]; try rfl, rfl, e34⟩ (fun fs hr => own_retA X34 hx Bd.returns rfl rfl (hb hby d1_162) hr) (by decide) (by decide)
                                  · refine own_go (fun _ k => XS.icmpYes X0.here hx rfl (pc0 := 156) (pc' := 163) rfl (hb hby d1_156) rfl ((feq hc156_33).2) (by decide) (by decide) k) ?_
                                    show own_G p.tables e below _ (s₁.setTop (mkF m 163 #[.val (.int x0)] []))
                                    refine own_go (fun _ k => XS.iloadN X0.here hx rfl (hb hby d1_163) rfl k) ?_
                                    show own_G p.tables e below _ (s₁.setTop (mkF m 164 #[.val (.int x0)] [(.int x0)]))
                                    refine own_go (fun _ k => XS.bipush X0.here hx rfl (hb hby d1_164) k) ?_
                                    show own_G p.tables e below _ (s₁.setTop (mkF m 166 #[.val (.int x0)] [(.int (17 : Int32)), (.int x0)]))
                                    by_cases hc166_35 : x0 = (17 : Int32)
                                    · refine own_go (fun _ k => XS.icmpNo X0.here hx rfl (hb hby d1_166) rfl ((teq hc166_35).2) k) ?_
                                      show own_G p.tables e below _ (s₁.setTop (mkF m 169 #[.val (.int x0)] []))
                                      obtain ⟨T36, X36, e36, st36⟩ := getS2 X0 hx hZ hown (host := "") (Or.inl (hw _ (List.mem_of_getElem? (i := 58) rfl))) Via.refl e0 (show Sta Z h0 "com/example/ptah/ptah/model/ShapeType" "STRUCTURE" "Lcom/example/ptah/ptah/model/ShapeType;" (.ref (A 17)) from hS 17 (by decide)) (g := (mkF m 169 #[.val (.int x0)] [])) rfl (hb hby d1_169)
                                      refine own_go st36 ?_
                                      show own_G p.tables e below _ (T36.setTop (mkF m 172 #[.val (.int x0)] [(.ref (A 17))]))
                                      exact own_end X36 Bd.notSynchronized (v := some (.ref (A 17))) (fun h => by rw [Bd.returns] at h; cases h) (Q := QP (some (.ref (F1 x0 A))) h0) ⟨by unfold F1; simp only [if_neg hc1_1, if_neg hc10_3, if_neg hc19_5, if_neg hc28_7, if_neg hc37_9, if_neg hc46_11, if_neg hc56_13, if_neg hc66_15, if_neg hc76_17, if_neg hc86_19, if_neg hc96_21, if_neg hc106_23, if_neg hc116_25, if_neg hc126_27, if_neg hc136_29, if_neg hc146_31, if_neg hc156_33, if_pos hc166_35]; try rfl, rfl, e36⟩ (fun fs hr => own_retA X36 hx Bd.returns rfl rfl (hb hby d1_172) hr) (by decide) (by decide)
                                    · refine own_go (fun _ k => XS.icmpYes X0.here hx rfl (pc0 := 166) (pc' := 173) rfl (hb hby d1_166) rfl ((feq hc166_35).2) (by decide) (by decide) k) ?_
                                      show own_G p.tables e below _ (s₁.setTop (mkF m 173 #[.val (.int x0)] []))
                                      refine own_go (fun _ k => XS.iloadN X0.here hx rfl (hb hby d1_173) rfl k) ?_
                                      show own_G p.tables e below _ (s₁.setTop (mkF m 174 #[.val (.int x0)] [(.int x0)]))
                                      refine own_go (fun _ k => XS.bipush X0.here hx rfl (hb hby d1_174) k) ?_
                                      show own_G p.tables e below _ (s₁.setTop (mkF m 176 #[.val (.int x0)] [(.int (18 : Int32)), (.int x0)]))
                                      by_cases hc176_37 : x0 = (18 : Int32)
                                      · refine own_go (fun _ k => XS.icmpNo X0.here hx rfl (hb hby d1_176) rfl ((teq hc176_37).2) k) ?_
                                        show own_G p.tables e below _ (s₁.setTop (mkF m 179 #[.val (.int x0)] []))
                                        obtain ⟨T38, X38, e38, st38⟩ := getS2 X0 hx hZ hown (host := "") (Or.inl (hw _ (List.mem_of_getElem? (i := 46) rfl))) Via.refl e0 (show Sta Z h0 "com/example/ptah/ptah/model/ShapeType" "UNION" "Lcom/example/ptah/ptah/model/ShapeType;" (.ref (A 18)) from hS 18 (by decide)) (g := (mkF m 179 #[.val (.int x0)] [])) rfl (hb hby d1_179)
                                        refine own_go st38 ?_
                                        show own_G p.tables e below _ (T38.setTop (mkF m 182 #[.val (.int x0)] [(.ref (A 18))]))
                                        exact own_end X38 Bd.notSynchronized (v := some (.ref (A 18))) (fun h => by rw [Bd.returns] at h; cases h) (Q := QP (some (.ref (F1 x0 A))) h0) ⟨by unfold F1; simp only [if_neg hc1_1, if_neg hc10_3, if_neg hc19_5, if_neg hc28_7, if_neg hc37_9, if_neg hc46_11, if_neg hc56_13, if_neg hc66_15, if_neg hc76_17, if_neg hc86_19, if_neg hc96_21, if_neg hc106_23, if_neg hc116_25, if_neg hc126_27, if_neg hc136_29, if_neg hc146_31, if_neg hc156_33, if_neg hc166_35, if_pos hc176_37]; try rfl, rfl, e38⟩ (fun fs hr => own_retA X38 hx Bd.returns rfl rfl (hb hby d1_182) hr) (by decide) (by decide)
                                      · refine own_go (fun _ k => XS.icmpYes X0.here hx rfl (pc0 := 176) (pc' := 183) rfl (hb hby d1_176) rfl ((feq hc176_37).2) (by decide) (by decide) k) ?_
                                        show own_G p.tables e below _ (s₁.setTop (mkF m 183 #[.val (.int x0)] []))
                                        refine own_go (fun _ k => XS.iloadN X0.here hx rfl (hb hby d1_183) rfl k) ?_
                                        show own_G p.tables e below _ (s₁.setTop (mkF m 184 #[.val (.int x0)] [(.int x0)]))
                                        refine own_go (fun _ k => XS.bipush X0.here hx rfl (hb hby d1_184) k) ?_
                                        show own_G p.tables e below _ (s₁.setTop (mkF m 186 #[.val (.int x0)] [(.int (19 : Int32)), (.int x0)]))
                                        by_cases hc186_39 : x0 = (19 : Int32)
                                        · refine own_go (fun _ k => XS.icmpNo X0.here hx rfl (hb hby d1_186) rfl ((teq hc186_39).2) k) ?_
                                          show own_G p.tables e below _ (s₁.setTop (mkF m 189 #[.val (.int x0)] []))
                                          obtain ⟨T40, X40, e40, st40⟩ := getS2 X0 hx hZ hown (host := "") (Or.inl (hw _ (List.mem_of_getElem? (i := 45) rfl))) Via.refl e0 (show Sta Z h0 "com/example/ptah/ptah/model/ShapeType" "SERVICE" "Lcom/example/ptah/ptah/model/ShapeType;" (.ref (A 19)) from hS 19 (by decide)) (g := (mkF m 189 #[.val (.int x0)] [])) rfl (hb hby d1_189)
                                          refine own_go st40 ?_
                                          show own_G p.tables e below _ (T40.setTop (mkF m 192 #[.val (.int x0)] [(.ref (A 19))]))
                                          exact own_end X40 Bd.notSynchronized (v := some (.ref (A 19))) (fun h => by rw [Bd.returns] at h; cases h) (Q := QP (some (.ref (F1 x0 A))) h0) ⟨by unfold F1; simp only [if_neg hc1_1, if_neg hc10_3, if_neg hc19_5, if_neg hc28_7, if_neg hc37_9, if_neg hc46_11, if_neg hc56_13, if_neg hc66_15, if_neg hc76_17, if_neg hc86_19, if_neg hc96_21, if_neg hc106_23, if_neg hc116_25, if_neg hc126_27, if_neg hc136_29, if_neg hc146_31, if_neg hc156_33, if_neg hc166_35, if_neg hc176_37, if_pos hc186_39]; try rfl, rfl, e40⟩ (fun fs hr => own_retA X40 hx Bd.returns rfl rfl (hb hby d1_192) hr) (by decide) (by decide)
                                        · refine own_go (fun _ k => XS.icmpYes X0.here hx rfl (pc0 := 186) (pc' := 193) rfl (hb hby d1_186) rfl ((feq hc186_39).2) (by decide) (by decide) k) ?_
                                          show own_G p.tables e below _ (s₁.setTop (mkF m 193 #[.val (.int x0)] []))
                                          refine own_go (fun _ k => XS.iloadN X0.here hx rfl (hb hby d1_193) rfl k) ?_
                                          show own_G p.tables e below _ (s₁.setTop (mkF m 194 #[.val (.int x0)] [(.int x0)]))
                                          refine own_go (fun _ k => XS.bipush X0.here hx rfl (hb hby d1_194) k) ?_
                                          show own_G p.tables e below _ (s₁.setTop (mkF m 196 #[.val (.int x0)] [(.int (20 : Int32)), (.int x0)]))
                                          by_cases hc196_41 : x0 = (20 : Int32)
                                          · refine own_go (fun _ k => XS.icmpNo X0.here hx rfl (hb hby d1_196) rfl ((teq hc196_41).2) k) ?_
                                            show own_G p.tables e below _ (s₁.setTop (mkF m 199 #[.val (.int x0)] []))
                                            obtain ⟨T42, X42, e42, st42⟩ := getS2 X0 hx hZ hown (host := "") (Or.inl (hw _ (List.mem_of_getElem? (i := 59) rfl))) Via.refl e0 (show Sta Z h0 "com/example/ptah/ptah/model/ShapeType" "OPERATION" "Lcom/example/ptah/ptah/model/ShapeType;" (.ref (A 20)) from hS 20 (by decide)) (g := (mkF m 199 #[.val (.int x0)] [])) rfl (hb hby d1_199)
                                            refine own_go st42 ?_
                                            show own_G p.tables e below _ (T42.setTop (mkF m 202 #[.val (.int x0)] [(.ref (A 20))]))
                                            exact own_end X42 Bd.notSynchronized (v := some (.ref (A 20))) (fun h => by rw [Bd.returns] at h; cases h) (Q := QP (some (.ref (F1 x0 A))) h0) ⟨by unfold F1; simp only [if_neg hc1_1, if_neg hc10_3, if_neg hc19_5, if_neg hc28_7, if_neg hc37_9, if_neg hc46_11, if_neg hc56_13, if_neg hc66_15, if_neg hc76_17, if_neg hc86_19, if_neg hc96_21, if_neg hc106_23, if_neg hc116_25, if_neg hc126_27, if_neg hc136_29, if_neg hc146_31, if_neg hc156_33, if_neg hc166_35, if_neg hc176_37, if_neg hc186_39, if_pos hc196_41]; try rfl, rfl, e42⟩ (fun fs hr => own_retA X42 hx Bd.returns rfl rfl (hb hby d1_202) hr) (by decide) (by decide)
                                          · refine own_go (fun _ k => XS.icmpYes X0.here hx rfl (pc0 := 196) (pc' := 203) rfl (hb hby d1_196) rfl ((feq hc196_41).2) (by decide) (by decide) k) ?_
                                            show own_G p.tables e below _ (s₁.setTop (mkF m 203 #[.val (.int x0)] []))
                                            obtain ⟨T43, X43, e43, st43⟩ := getS2 X0 hx hZ hown (host := "") (Or.inl (hw _ (List.mem_of_getElem? (i := 51) rfl))) Via.refl e0 (show Sta Z h0 "com/example/ptah/ptah/model/ShapeType" "RESOURCE" "Lcom/example/ptah/ptah/model/ShapeType;" (.ref (A 21)) from hS 21 (by decide)) (g := (mkF m 203 #[.val (.int x0)] [])) rfl (hb hby d1_203)
                                            refine own_go st43 ?_
                                            show own_G p.tables e below _ (T43.setTop (mkF m 206 #[.val (.int x0)] [(.ref (A 21))]))
                                            exact own_end X43 Bd.notSynchronized (v := some (.ref (A 21))) (fun h => by rw [Bd.returns] at h; cases h) (Q := QP (some (.ref (F1 x0 A))) h0) ⟨by unfold F1; simp only [if_neg hc1_1, if_neg hc10_3, if_neg hc19_5, if_neg hc28_7, if_neg hc37_9, if_neg hc46_11, if_neg hc56_13, if_neg hc66_15, if_neg hc76_17, if_neg hc86_19, if_neg hc96_21, if_neg hc106_23, if_neg hc116_25, if_neg hc126_27, if_neg hc136_29, if_neg hc146_31, if_neg hc156_33, if_neg hc166_35, if_neg hc176_37, if_neg hc186_39, if_neg hc196_41]; try rfl, rfl, e43⟩ (fun fs hr => own_retA X43 hx Bd.returns rfl rfl (hb hby d1_206) hr) (by decide) (by decide)
def F2 (x0 : Addr)  (A : Nat → Addr) : Int32 :=
  if x0 = (A 17) then
    (nar .boolean (0 : Int32))
  else
    if x0 = (A 18) then
      (nar .boolean (0 : Int32))
    else
      if x0 = (A 19) then
        (nar .boolean (0 : Int32))
      else
        if x0 = (A 20) then
          (nar .boolean (0 : Int32))
        else
          if x0 = (A 21) then
            (nar .boolean (0 : Int32))
          else
            (nar .boolean (1 : Int32))
theorem d2_0 : decode prog_95_method_13_code 0 = .ok (.aload_n 0, 1) := by decide +kernel
theorem d2_1 : decode prog_95_method_13_code 1 = .ok (.getstatic 55, 3) := by decide +kernel
theorem d2_4 : decode prog_95_method_13_code 4 = .ok (.if_acmp .eq 35, 3) := by decide +kernel
theorem d2_7 : decode prog_95_method_13_code 7 = .ok (.aload_n 0, 1) := by decide +kernel
theorem d2_8 : decode prog_95_method_13_code 8 = .ok (.getstatic 58, 3) := by decide +kernel
theorem d2_11 : decode prog_95_method_13_code 11 = .ok (.if_acmp .eq 28, 3) := by decide +kernel
theorem d2_14 : decode prog_95_method_13_code 14 = .ok (.aload_n 0, 1) := by decide +kernel
theorem d2_15 : decode prog_95_method_13_code 15 = .ok (.getstatic 61, 3) := by decide +kernel
theorem d2_18 : decode prog_95_method_13_code 18 = .ok (.if_acmp .eq 21, 3) := by decide +kernel
theorem d2_21 : decode prog_95_method_13_code 21 = .ok (.aload_n 0, 1) := by decide +kernel
theorem d2_22 : decode prog_95_method_13_code 22 = .ok (.getstatic 64, 3) := by decide +kernel
theorem d2_25 : decode prog_95_method_13_code 25 = .ok (.if_acmp .eq 14, 3) := by decide +kernel
theorem d2_28 : decode prog_95_method_13_code 28 = .ok (.aload_n 0, 1) := by decide +kernel
theorem d2_29 : decode prog_95_method_13_code 29 = .ok (.getstatic 67, 3) := by decide +kernel
theorem d2_32 : decode prog_95_method_13_code 32 = .ok (.if_acmp .eq 7, 3) := by decide +kernel
theorem d2_35 : decode prog_95_method_13_code 35 = .ok (.iconst 1, 1) := by decide +kernel
theorem d2_36 : decode prog_95_method_13_code 36 = .ok (.goto 4, 3) := by decide +kernel
theorem d2_39 : decode prog_95_method_13_code 39 = .ok (.iconst 0, 1) := by decide +kernel
theorem d2_40 : decode prog_95_method_13_code 40 = .ok (.ireturn, 1) := by decide +kernel
theorem own_pn1 : plainName "com/example/ptah/ptah/model/ShapeType" = true := by first | (simp [plainName, overriddenIn]; done) | decide +kernel
theorem ef_2_R (m : MethodId) (x0 : Addr) : entryFrame m #[(.ref x0)] 1 = mkF m 0 #[.val (.ref x0)] [] := by
  first | (simp [entryFrame, mkF, argsToLocals, Value.category]; done) | rfl
set_option maxRecDepth 65536 in
set_option maxHeartbeats 40000000 in
theorem rm2 (l : Launch) (Z : State) (a0 : Array Value) (hw : ∀ d ∈ tables_1, d.before a0 Z = true) (ws : List Jvm.Cond) (x0 : Addr)  (A : Nat → Addr) (h0 : Heap) (hS : ∀ n, n < 22 → Sta Z h0 "com/example/ptah/ptah/model/ShapeType" (own_name n) "Lcom/example/ptah/ptah/model/ShapeType;" (.ref (A n))) :
    MetFree l (⟨"com/example/ptah/ptah/model/ShapeType", "takesDefault", "()Z"⟩ : MethodName) (head1 (Jvm.Cond.code (⟨"com/example/ptah/ptah/model/ShapeType", "takesDefault", "()Z"⟩ : MethodName) prog_95_method_13_code 1 (some .boolean) :: ws) ({ frames := 0, cells := 0, slots := 0, locals := 0 } : Room)) (fun a U => a = #[(.ref x0)] ∧ Z.Warmed39 U.vm ∧ U.heap = h0) (fun _ _ _ _ _ => True) (fun _ U o U' => ∃ v L, o = .returned v ∧ QP (some (.int (F2  x0 A))) h0 v U'.heap L ∧ FrameEnd U o U' L ({ frames := 0, cells := 0, slots := 0, locals := 0 } : Room).cells ({ frames := 0, cells := 0, slots := 0, locals := 0 } : Room).slots) := by
  refine MetFree.of_bodySF (plainFor_of_name own_pn1) hisR ?_
  intro p e s m args below meth c s₁ Bd hml0 hP hK
  obtain ⟨rfl, hZ, hh⟩ := hP
  have hx := Bd.exec
  have hby := Bd.bytes
  have hml : c.maxLocals = 1 := hml0
  have hown : s.vm.findClass "com/example/ptah/ptah/model/ShapeType" = some m.cls := findClass_of_methodNamed Bd.named
  have hnm := (name_of_methodNamed Bd.named Bd.method).1
  have X0 : Stand p l e ({ frames := 0, cells := 0, slots := 0, locals := 0 } : Room) s m #[(.ref x0)] below meth c s₁ [] 0 0 := Stand.of_body Bd
  have e0 : s₁.heap = h0 := by rw [← hh, Bd.state]; rfl
  show own_G p.tables e below (fun o U' => ∃ v L, o = .returned v ∧ QP (some (.int (F2  x0 A))) h0 v U'.heap L ∧ FrameEnd s o U' L ({ frames := 0, cells := 0, slots := 0, locals := 0 } : Room).cells ({ frames := 0, cells := 0, slots := 0, locals := 0 } : Room).slots) (s₁.setTop (entryFrame m #[(.ref x0)] 1))
  refine own_go (fun _ k => castTop (ef_2_R m x0) k) ?_
  show own_G p.tables e below _ (s₁.setTop (mkF m 0 #[.val (.ref x0)] []))
  refine own_go (fun _ k => XS.aloadN X0.here hx rfl (hb hby d2_0) rfl rfl k) ?_
  show own_G p.tables e below _ (s₁.setTop (mkF m 1 #[.val (.ref x0)] [(.ref x0)]))
  obtain ⟨T44, X44, e44, st44⟩ := getS2 X0 hx hZ hown (host := "") (Or.inl (hw _ (List.mem_of_getElem? (i := 13) rfl))) Via.refl e0 (show Sta Z h0 "com/example/ptah/ptah/model/ShapeType" "STRUCTURE" "Lcom/example/ptah/ptah/model/ShapeType;" (.ref (A 17)) from hS 17 (by decide)) (g := (mkF m 1 #[.val (.ref x0)] [(.ref x0)])) rfl (hb hby d2_1)
  refine own_go st44 ?_
  show own_G p.tables e below _ (T44.setTop (mkF m 4 #[.val (.ref x0)] [(.ref (A 17)), (.ref x0)]))
  by_cases hc4_45 : x0 = (A 17)
  · refine own_go (fun _ k => Jvm.RoadKit.acmp (g := (mkF m 4 #[.val (.ref x0)] [(.ref (A 17)), (.ref x0)])) X44 hx rfl rfl rfl (pc0 := 4) (pc' := 39) (same := true) rfl (hb hby d2_4) rfl (decide_eq_true (congrArg Value.ref hc4_45)) (by decide) (by decide) k) ?_
    show own_G p.tables e below _ (T44.setTop (mkF m 39 #[.val (.ref x0)] []))
    refine own_go (fun _ k => XS.iconst X44.here hx rfl (hb hby d2_39) k) ?_
    show own_G p.tables e below _ (T44.setTop (mkF m 40 #[.val (.ref x0)] [(.int (0 : Int32))]))
    exact own_end X44 Bd.notSynchronized (v := some (.int (nar .boolean (0 : Int32)))) (fun h => by rw [Bd.returns] at h; cases h) (Q := QP (some (.int (F2  x0 A))) h0) ⟨by unfold F2; simp only [if_pos hc4_45]; try rfl, rfl, e44⟩ (fun fs hr => retN X44 hx (t := .boolean) Bd.returns (by simp) (hb hby d2_40) hr) (by decide) (by decide)
  · refine own_go (fun _ k => Jvm.RoadKit.acmp (g := (mkF m 4 #[.val (.ref x0)] [(.ref (A 17)), (.ref x0)])) X44 hx rfl rfl rfl (pc0 := 4) (pc' := 7) (same := false) rfl (hb hby d2_4) rfl (decide_eq_false fun q => hc4_45 (Value.ref.inj q)) (by decide) (by decide) k) ?_
    show own_G p.tables e below _ (T44.setTop (mkF m 7 #[.val (.ref x0)] []))
    refine own_go (fun _ k => XS.aloadN X44.here hx rfl (hb hby d2_7) rfl rfl k) ?_
    show own_G p.tables e below _ (T44.setTop (mkF m 8 #[.val (.ref x0)] [(.ref x0)]))
    obtain ⟨T46, X46, e46, st46⟩ := getS2 X44 hx hZ hown (host := "") (Or.inl (hw _ (List.mem_of_getElem? (i := 15) rfl))) Via.refl e44 (show Sta Z h0 "com/example/ptah/ptah/model/ShapeType" "UNION" "Lcom/example/ptah/ptah/model/ShapeType;" (.ref (A 18)) from hS 18 (by decide)) (g := (mkF m 8 #[.val (.ref x0)] [(.ref x0)])) rfl (hb hby d2_8)
    refine own_go st46 ?_
    show own_G p.tables e below _ (T46.setTop (mkF m 11 #[.val (.ref x0)] [(.ref (A 18)), (.ref x0)]))
    by_cases hc11_47 : x0 = (A 18)
    · refine own_go (fun _ k => Jvm.RoadKit.acmp (g := (mkF m 11 #[.val (.ref x0)] [(.ref (A 18)), (.ref x0)])) X46 hx rfl rfl rfl (pc0 := 11) (pc' := 39) (same := true) rfl (hb hby d2_11) rfl (decide_eq_true (congrArg Value.ref hc11_47)) (by decide) (by decide) k) ?_
      show own_G p.tables e below _ (T46.setTop (mkF m 39 #[.val (.ref x0)] []))
      refine own_go (fun _ k => XS.iconst X46.here hx rfl (hb hby d2_39) k) ?_
      show own_G p.tables e below _ (T46.setTop (mkF m 40 #[.val (.ref x0)] [(.int (0 : Int32))]))
      exact own_end X46 Bd.notSynchronized (v := some (.int (nar .boolean (0 : Int32)))) (fun h => by rw [Bd.returns] at h; cases h) (Q := QP (some (.int (F2  x0 A))) h0) ⟨by unfold F2; simp only [if_neg hc4_45, if_pos hc11_47]; try rfl, rfl, e46⟩ (fun fs hr => retN X46 hx (t := .boolean) Bd.returns (by simp) (hb hby d2_40) hr) (by decide) (by decide)
    · refine own_go (fun _ k => Jvm.RoadKit.acmp (g := (mkF m 11 #[.val (.ref x0)] [(.ref (A 18)), (.ref x0)])) X46 hx rfl rfl rfl (pc0 := 11) (pc' := 14) (same := false) rfl (hb hby d2_11) rfl (decide_eq_false fun q => hc11_47 (Value.ref.inj q)) (by decide) (by decide) k) ?_
      show own_G p.tables e below _ (T46.setTop (mkF m 14 #[.val (.ref x0)] []))
      refine own_go (fun _ k => XS.aloadN X46.here hx rfl (hb hby d2_14) rfl rfl k) ?_
      show own_G p.tables e below _ (T46.setTop (mkF m 15 #[.val (.ref x0)] [(.ref x0)]))
      obtain ⟨T48, X48, e48, st48⟩ := getS2 X46 hx hZ hown (host := "") (Or.inl (hw _ (List.mem_of_getElem? (i := 17) rfl))) Via.refl e46 (show Sta Z h0 "com/example/ptah/ptah/model/ShapeType" "SERVICE" "Lcom/example/ptah/ptah/model/ShapeType;" (.ref (A 19)) from hS 19 (by decide)) (g := (mkF m 15 #[.val (.ref x0)] [(.ref x0)])) rfl (hb hby d2_15)
      refine own_go st48 ?_
      show own_G p.tables e below _ (T48.setTop (mkF m 18 #[.val (.ref x0)] [(.ref (A 19)), (.ref x0)]))
      by_cases hc18_49 : x0 = (A 19)
      · refine own_go (fun _ k => Jvm.RoadKit.acmp (g := (mkF m 18 #[.val (.ref x0)] [(.ref (A 19)), (.ref x0)])) X48 hx rfl rfl rfl (pc0 := 18) (pc' := 39) (same := true) rfl (hb hby d2_18) rfl (decide_eq_true (congrArg Value.ref hc18_49)) (by decide) (by decide) k) ?_
        show own_G p.tables e below _ (T48.setTop (mkF m 39 #[.val (.ref x0)] []))
        refine own_go (fun _ k => XS.iconst X48.here hx rfl (hb hby d2_39) k) ?_
        show own_G p.tables e below _ (T48.setTop (mkF m 40 #[.val (.ref x0)] [(.int (0 : Int32))]))
        exact own_end X48 Bd.notSynchronized (v := some (.int (nar .boolean (0 : Int32)))) (fun h => by rw [Bd.returns] at h; cases h) (Q := QP (some (.int (F2  x0 A))) h0) ⟨by unfold F2; simp only [if_neg hc4_45, if_neg hc11_47, if_pos hc18_49]; try rfl, rfl, e48⟩ (fun fs hr => retN X48 hx (t := .boolean) Bd.returns (by simp) (hb hby d2_40) hr) (by decide) (by decide)
      · refine own_go (fun _ k => Jvm.RoadKit.acmp (g := (mkF m 18 #[.val (.ref x0)] [(.ref (A 19)), (.ref x0)])) X48 hx rfl rfl rfl (pc0 := 18) (pc' := 21) (same := false) rfl (hb hby d2_18) rfl (decide_eq_false fun q => hc18_49 (Value.ref.inj q)) (by decide) (by decide) k) ?_
        show own_G p.tables e below _ (T48.setTop (mkF m 21 #[.val (.ref x0)] []))
        refine own_go (fun _ k => XS.aloadN X48.here hx rfl (hb hby d2_21) rfl rfl k) ?_
        show own_G p.tables e below _ (T48.setTop (mkF m 22 #[.val (.ref x0)] [(.ref x0)]))
        obtain ⟨T50, X50, e50, st50⟩ := getS2 X48 hx hZ hown (host := "") (Or.inl (hw _ (List.mem_of_getElem? (i := 19) rfl))) Via.refl e48 (show Sta Z h0 "com/example/ptah/ptah/model/ShapeType" "OPERATION" "Lcom/example/ptah/ptah/model/ShapeType;" (.ref (A 20)) from hS 20 (by decide)) (g := (mkF m 22 #[.val (.ref x0)] [(.ref x0)])) rfl (hb hby d2_22)
        refine own_go st50 ?_
        show own_G p.tables e below _ (T50.setTop (mkF m 25 #[.val (.ref x0)] [(.ref (A 20)), (.ref x0)]))
        by_cases hc25_51 : x0 = (A 20)
        · refine own_go (fun _ k => Jvm.RoadKit.acmp (g := (mkF m 25 #[.val (.ref x0)] [(.ref (A 20)), (.ref x0)])) X50 hx rfl rfl rfl (pc0 := 25) (pc' := 39) (same := true) rfl (hb hby d2_25) rfl (decide_eq_true (congrArg Value.ref hc25_51)) (by decide) (by decide) k) ?_
          show own_G p.tables e below _ (T50.setTop (mkF m 39 #[.val (.ref x0)] []))
          refine own_go (fun _ k => XS.iconst X50.here hx rfl (hb hby d2_39) k) ?_
          show own_G p.tables e below _ (T50.setTop (mkF m 40 #[.val (.ref x0)] [(.int (0 : Int32))]))
          exact own_end X50 Bd.notSynchronized (v := some (.int (nar .boolean (0 : Int32)))) (fun h => by rw [Bd.returns] at h; cases h) (Q := QP (some (.int (F2  x0 A))) h0) ⟨by unfold F2; simp only [if_neg hc4_45, if_neg hc11_47, if_neg hc18_49, if_pos hc25_51]; try rfl, rfl, e50⟩ (fun fs hr => retN X50 hx (t := .boolean) Bd.returns (by simp) (hb hby d2_40) hr) (by decide) (by decide)
        · refine own_go (fun _ k => Jvm.RoadKit.acmp (g := (mkF m 25 #[.val (.ref x0)] [(.ref (A 20)), (.ref x0)])) X50 hx rfl rfl rfl (pc0 := 25) (pc' := 28) (same := false) rfl (hb hby d2_25) rfl (decide_eq_false fun q => hc25_51 (Value.ref.inj q)) (by decide) (by decide) k) ?_
          show own_G p.tables e below _ (T50.setTop (mkF m 28 #[.val (.ref x0)] []))
          refine own_go (fun _ k => XS.aloadN X50.here hx rfl (hb hby d2_28) rfl rfl k) ?_
          show own_G p.tables e below _ (T50.setTop (mkF m 29 #[.val (.ref x0)] [(.ref x0)]))
          obtain ⟨T52, X52, e52, st52⟩ := getS2 X50 hx hZ hown (host := "") (Or.inl (hw _ (List.mem_of_getElem? (i := 21) rfl))) Via.refl e50 (show Sta Z h0 "com/example/ptah/ptah/model/ShapeType" "RESOURCE" "Lcom/example/ptah/ptah/model/ShapeType;" (.ref (A 21)) from hS 21 (by decide)) (g := (mkF m 29 #[.val (.ref x0)] [(.ref x0)])) rfl (hb hby d2_29)
          refine own_go st52 ?_
          show own_G p.tables e below _ (T52.setTop (mkF m 32 #[.val (.ref x0)] [(.ref (A 21)), (.ref x0)]))
          by_cases hc32_53 : x0 = (A 21)
          · refine own_go (fun _ k => Jvm.RoadKit.acmp (g := (mkF m 32 #[.val (.ref x0)] [(.ref (A 21)), (.ref x0)])) X52 hx rfl rfl rfl (pc0 := 32) (pc' := 39) (same := true) rfl (hb hby d2_32) rfl (decide_eq_true (congrArg Value.ref hc32_53)) (by decide) (by decide) k) ?_
            show own_G p.tables e below _ (T52.setTop (mkF m 39 #[.val (.ref x0)] []))
            refine own_go (fun _ k => XS.iconst X52.here hx rfl (hb hby d2_39) k) ?_
            show own_G p.tables e below _ (T52.setTop (mkF m 40 #[.val (.ref x0)] [(.int (0 : Int32))]))
            exact own_end X52 Bd.notSynchronized (v := some (.int (nar .boolean (0 : Int32)))) (fun h => by rw [Bd.returns] at h; cases h) (Q := QP (some (.int (F2  x0 A))) h0) ⟨by unfold F2; simp only [if_neg hc4_45, if_neg hc11_47, if_neg hc18_49, if_neg hc25_51, if_pos hc32_53]; try rfl, rfl, e52⟩ (fun fs hr => retN X52 hx (t := .boolean) Bd.returns (by simp) (hb hby d2_40) hr) (by decide) (by decide)
          · refine own_go (fun _ k => Jvm.RoadKit.acmp (g := (mkF m 32 #[.val (.ref x0)] [(.ref (A 21)), (.ref x0)])) X52 hx rfl rfl rfl (pc0 := 32) (pc' := 35) (same := false) rfl (hb hby d2_32) rfl (decide_eq_false fun q => hc32_53 (Value.ref.inj q)) (by decide) (by decide) k) ?_
            show own_G p.tables e below _ (T52.setTop (mkF m 35 #[.val (.ref x0)] []))
            refine own_go (fun _ k => XS.iconst X52.here hx rfl (hb hby d2_35) k) ?_
            show own_G p.tables e below _ (T52.setTop (mkF m 36 #[.val (.ref x0)] [(.int (1 : Int32))]))
            refine own_go (fun _ k => XS.goto X52.here hx rfl (pc0 := 36) (pc' := 40) rfl (hb hby d2_36) (by decide) (by decide) k) ?_
            show own_G p.tables e below _ (T52.setTop (mkF m 40 #[.val (.ref x0)] [(.int (1 : Int32))]))
            exact own_end X52 Bd.notSynchronized (v := some (.int (nar .boolean (1 : Int32)))) (fun h => by rw [Bd.returns] at h; cases h) (Q := QP (some (.int (F2  x0 A))) h0) ⟨by unfold F2; simp only [if_neg hc4_45, if_neg hc11_47, if_neg hc18_49, if_neg hc25_51, if_neg hc32_53]; try rfl, rfl, e52⟩ (fun fs hr => retN X52 hx (t := .boolean) Bd.returns (by simp) (hb hby d2_40) hr) (by decide) (by decide)
def own_k (x : Int32) : Int32 := (x &&& (2147483647 : Int32)) % (22 : Int32)
theorem own_k_lt (x : Int32) : ∃ n : Nat, n < 22 ∧ own_k x = Int32.ofNat n := by
  have h := own_mod x 22 (by decide)
  rw [show (22 : Int32).toInt = 22 from rfl] at h
  refine ⟨(own_k x).toInt.toNat, ?_, own_ext (n := (own_k x).toInt.toNat) ?_ ?_⟩ <;> unfold own_k <;> omega
theorem own_pick (A : Nat → Addr) : ∀ n : Nat, n < 22 → F1 (Int32.ofNat n) A = A n := by
  intro n hn
  match n, hn with
  | 0, _ => rfl
  | 1, _ => rfl
  | 2, _ => rfl
  | 3, _ => rfl
  | 4, _ => rfl
  | 5, _ => rfl
  | 6, _ => rfl
  | 7, _ => rfl
  | 8, _ => rfl
  | 9, _ => rfl
  | 10, _ => rfl
  | 11, _ => rfl
  | 12, _ => rfl
  | 13, _ => rfl
  | 14, _ => rfl
  | 15, _ => rfl
  | 16, _ => rfl
  | 17, _ => rfl
  | 18, _ => rfl
  | 19, _ => rfl
  | 20, _ => rfl
  | 21, _ => rfl
  | k + 22, h => exact absurd h (by omega)
theorem own_exa {Z : State} {h : Heap} {A : Nat → Addr} {C : String} (hE : ∀ n, n < 22 → Exa Z h (A n) C) (x : Int32) : Exa Z h (F1 (own_k x) A) C := by
  obtain ⟨n, hn, e⟩ := own_k_lt x
  rw [e, own_pick A n hn]
  exact hE n hn
theorem own_ord {s : State} {args : Array Value} {t : Term} {z : Addr} {C n d : String} {i : Int32} (ht : t.eval args s none [] s = some (.ref z)) (h : (Jvm.Cond.eq (.field t C n d) (.int i)).value args s none s [] = some true) : s.fieldOf? z C n d = some (.int i) := by
  have q := fld_at (C := C) (n := n) (dd := d) (args := args) (first := s) (o := none) (idx := []) (s := s) ht
  rcases hv : (Term.field t C n d).eval args s none [] s with _ | v
  · simp [Cond.value, hv] at h
  · rw [← q, hv]
    have e2 : (Term.int i).eval args s none [] s = some (.int i) := rfl
    cases v <;> simp [Cond.value, hv, e2] at h
    rw [h]
theorem own_inj {s : State} {A : Nat → Addr} (hO : ∀ n, n < 22 → s.fieldOf? (A n) "java/lang/Enum" "ordinal" "I" = some (.int (Int32.ofNat n))) : ∀ n k, n < 22 → k < 22 → A n = A k → n = k := by
  intro n k hn hk e
  have h1 := hO n hn
  have h2 := hO k hk
  rw [e, h2] at h1
  have h3 : Int32.ofNat k = Int32.ofNat n := by injection h1 with h1; injection h1
  have h4 := congrArg Int32.toInt h3
  rw [Int32.toInt_ofNat_of_lt (by omega), Int32.toInt_ofNat_of_lt (by omega)] at h4
  omega

theorem own_pd0 : parseMethodDescriptor "(I)Lcom/example/ptah/ptah/model/ShapeType;" = some ⟨[.int], some (.object "com/example/ptah/ptah/model/ShapeType")⟩ := by decide +kernel
theorem own_pd1 : parseMethodDescriptor "()Z" = some ⟨[], some .boolean⟩ := by decide +kernel
def F0 (x0 : Int32) (A : Nat → Addr) : Int32 :=
  if (own_k x0) < (17 : Int32) then
    if (F2  (F1 (own_k x0) A) A) = (1 : Int32) then
      (nar .boolean (1 : Int32))
    else
      (nar .boolean (0 : Int32))
  else
    if (F2  (F1 (own_k x0) A) A) = (0 : Int32) then
      (nar .boolean (1 : Int32))
    else
      (nar .boolean (0 : Int32))
theorem ef_0_I (m : MethodId) (x0 : Int32) : entryFrame m #[(.int x0)] maxLocals = mkF m 0 #[.val (.int x0), .unset, .unset, .unset] [] := by
  first | (simp [entryFrame, mkF, argsToLocals, Value.category, maxLocals]; done) | rfl
set_option maxRecDepth 65536 in
set_option maxHeartbeats 40000000 in
theorem rm0 (l : Launch) (Z : State) (a0 : Array Value) (hw : ∀ d ∈ tables_1, d.before a0 Z = true) (ws : List Jvm.Cond) (x0 : Int32)  (A : Nat → Addr) (h0 : Heap) (hS : ∀ n, n < 22 → Sta Z h0 "com/example/ptah/ptah/model/ShapeType" (own_name n) "Lcom/example/ptah/ptah/model/ShapeType;" (.ref (A n))) (hE : ∀ n, n < 22 → Exa Z h0 (A n) "com/example/ptah/ptah/model/ShapeType") :
    MetFree l x (head1 (Jvm.Cond.code x code maxLocals ret :: ws) room_1) (fun a U => a = #[(.int x0)] ∧ Z.Warmed39 U.vm ∧ U.heap = h0) (fun _ _ _ _ _ => True) (fun _ U o U' => ∃ v L, o = .returned v ∧ QP (some (.int (F0 x0 A))) h0 v U'.heap L ∧ FrameEnd U o U' L 0 0) := by
  refine MetFree.of_bodySF (plainFor_of_name own_pn0) hisR ?_
  intro p e s m args below meth c s₁ Bd hml0 hP hK
  obtain ⟨rfl, hZ, hh⟩ := hP
  have hx := Bd.exec
  have hby := Bd.bytes
  have hml : c.maxLocals = 4 := hml0
  have hown : s.vm.findClass "com/example/ptah/ptah/model/ShapeTypeTakesDefaultPinLaw" = some m.cls := findClass_of_methodNamed Bd.named
  have hnm := (name_of_methodNamed Bd.named Bd.method).1
  have X0 : Stand p l e room_1 s m #[(.int x0)] below meth c s₁ [] 0 0 := Stand.of_body Bd
  have e0 : s₁.heap = h0 := by rw [← hh, Bd.state]; rfl
  show own_G p.tables e below (fun o U' => ∃ v L, o = .returned v ∧ QP (some (.int (F0 x0 A))) h0 v U'.heap L ∧ FrameEnd s o U' L 0 0) (s₁.setTop (entryFrame m #[(.int x0)] maxLocals))
  refine own_go (fun _ k => castTop (ef_0_I m x0) k) ?_
  show own_G p.tables e below _ (s₁.setTop (mkF m 0 #[.val (.int x0), .unset, .unset, .unset] []))
  refine own_go (fun _ k => XS.iloadN X0.here hx rfl (hb hby at_0) rfl k) ?_
  show own_G p.tables e below _ (s₁.setTop (mkF m 1 #[.val (.int x0), .unset, .unset, .unset] [(.int x0)]))
  refine own_go (fun _ k => X0.ldcInt hx hown (mvT hZ (hw _ (List.mem_of_getElem? (i := 0) rfl))) (g := (mkF m 1 #[.val (.int x0), .unset, .unset, .unset] [(.int x0)])) rfl (hb hby at_1) _ k) ?_
  show own_G p.tables e below _ (s₁.setTop (mkF m 3 #[.val (.int x0), .unset, .unset, .unset] [(.int (2147483647 : Int32)), (.int x0)]))
  refine own_go (fun _ k => XS.iand X0.here hx rfl (hb hby at_3) rfl k) ?_
  show own_G p.tables e below _ (s₁.setTop (mkF m 4 #[.val (.int x0), .unset, .unset, .unset] [(.int (x0 &&& (2147483647 : Int32)))]))
  refine own_go (fun _ k => XS.bipush X0.here hx rfl (hb hby at_4) k) ?_
  show own_G p.tables e below _ (s₁.setTop (mkF m 6 #[.val (.int x0), .unset, .unset, .unset] [(.int (22 : Int32)), (.int (x0 &&& (2147483647 : Int32)))]))
  refine own_go (fun _ k => iremM X0 hx rfl (hb hby at_6) rfl (by decide) k) ?_
  show own_G p.tables e below _ (s₁.setTop (mkF m 7 #[.val (.int x0), .unset, .unset, .unset] [(.int ((x0 &&& (2147483647 : Int32)) % (22 : Int32)))]))
  refine own_go (fun _ k => XS.istoreN X0.here hx rfl (hb hby at_7) rfl (l' := #[.val (.int x0), .val (.int (own_k x0)), .unset, .unset]) rfl k) ?_
  show own_G p.tables e below _ (s₁.setTop (mkF m 8 #[.val (.int x0), .val (.int (own_k x0)), .unset, .unset] []))
  refine own_go (fun _ k => XS.iloadN X0.here hx rfl (hb hby at_8) rfl k) ?_
  show own_G p.tables e below _ (s₁.setTop (mkF m 9 #[.val (.int x0), .val (.int (own_k x0)), .unset, .unset] [(.int (own_k x0))]))
  obtain ⟨T54, X54, e54, st54⟩ := own_callP X0 hx hZ (y := (⟨"com/example/ptah/ptah/model/ShapeTypeTakesDefaultPinLaw", "pick", "(I)Lcom/example/ptah/ptah/model/ShapeType;"⟩ : MethodName)) hown (hw _ (List.mem_of_getElem? (i := 1) rfl)) (hw _ (List.mem_of_getElem? (i := 2) rfl)) (hw _ (List.mem_of_getElem? (i := 3) rfl)) (hw _ (List.mem_of_getElem? (i := 4) rfl)) (by decide) (W := 0) (rm1 l Z a0 hw [] (own_k x0) A h0 hS) (by decide) (by decide) rfl rfl e0 (g := (mkF m 9 #[.val (.int x0), .val (.int (own_k x0)), .unset, .unset] [(.int (own_k x0))])) rfl (by rw [hml]; rfl) (argsL := [(.int (own_k x0))]) (rest := []) (lenOf own_pd0 rfl) rfl rfl (by show 2 * 0 + _ ≤ _; exact Nat.le_of_eq rfl) (hb hby at_9) (by decide) (by decide)
  refine own_go st54 ?_
  show own_G p.tables e below _ (T54.setTop (mkF m 12 #[.val (.int x0), .val (.int (own_k x0)), .unset, .unset] [(.ref (F1 (own_k x0) A))]))
  refine own_go (fun _ k => XS.astoreN X54.here hx rfl (hb hby at_12) rfl rfl (l' := #[.val (.int x0), .val (.int (own_k x0)), .val (.ref (F1 (own_k x0) A)), .unset]) rfl k) ?_
  show own_G p.tables e below _ (T54.setTop (mkF m 13 #[.val (.int x0), .val (.int (own_k x0)), .val (.ref (F1 (own_k x0) A)), .unset] []))
  refine own_go (fun _ k => XS.iloadN X54.here hx rfl (hb hby at_13) rfl k) ?_
  show own_G p.tables e below _ (T54.setTop (mkF m 14 #[.val (.int x0), .val (.int (own_k x0)), .val (.ref (F1 (own_k x0) A)), .unset] [(.int (own_k x0))]))
  refine own_go (fun _ k => XS.bipush X54.here hx rfl (hb hby at_14) k) ?_
  show own_G p.tables e below _ (T54.setTop (mkF m 16 #[.val (.int x0), .val (.int (own_k x0)), .val (.ref (F1 (own_k x0) A)), .unset] [(.int (17 : Int32)), (.int (own_k x0))]))
  by_cases hc16_55 : (own_k x0) < (17 : Int32)
  · refine own_go (fun _ k => XS.icmpNo X54.here hx rfl (hb hby at_16) rfl ((tlt hc16_55).2.1) k) ?_
    show own_G p.tables e below _ (T54.setTop (mkF m 19 #[.val (.int x0), .val (.int (own_k x0)), .val (.ref (F1 (own_k x0) A)), .unset] []))
    refine own_go (fun _ k => XS.iconst X54.here hx rfl (hb hby at_19) k) ?_
    show own_G p.tables e below _ (T54.setTop (mkF m 20 #[.val (.int x0), .val (.int (own_k x0)), .val (.ref (F1 (own_k x0) A)), .unset] [(.int (1 : Int32))]))
    refine own_go (fun _ k => XS.goto X54.here hx rfl (pc0 := 20) (pc' := 24) rfl (hb hby at_20) (by decide) (by decide) k) ?_
    show own_G p.tables e below _ (T54.setTop (mkF m 24 #[.val (.int x0), .val (.int (own_k x0)), .val (.ref (F1 (own_k x0) A)), .unset] [(.int (1 : Int32))]))
    refine own_go (fun _ k => XS.istoreN X54.here hx rfl (hb hby at_24) rfl (l' := #[.val (.int x0), .val (.int (own_k x0)), .val (.ref (F1 (own_k x0) A)), .val (.int (1 : Int32))]) rfl k) ?_
    show own_G p.tables e below _ (T54.setTop (mkF m 25 #[.val (.int x0), .val (.int (own_k x0)), .val (.ref (F1 (own_k x0) A)), .val (.int (1 : Int32))] []))
    refine own_go (fun _ k => XS.aloadN X54.here hx rfl (hb hby at_25) rfl rfl k) ?_
    show own_G p.tables e below _ (T54.setTop (mkF m 26 #[.val (.int x0), .val (.int (own_k x0)), .val (.ref (F1 (own_k x0) A)), .val (.int (1 : Int32))] [(.ref (F1 (own_k x0) A))]))
    obtain ⟨T56, X56, e56, st56⟩ := own_callV X54 hx hZ (y := (⟨"com/example/ptah/ptah/model/ShapeType", "takesDefault", "()Z"⟩ : MethodName)) hown (hw _ (List.mem_of_getElem? (i := 8) rfl)) (hw _ (List.mem_of_getElem? (i := 9) rfl)) (hw _ (List.mem_of_getElem? (i := 11) rfl)) (hw _ (List.mem_of_getElem? (i := 10) rfl)) (hw _ (List.mem_of_getElem? (i := 6) rfl)) (hw _ (List.mem_of_getElem? (i := 12) rfl)) (by decide) (W := 0) (rm2 l Z a0 hw [] (F1 (own_k x0) A) A h0 hS) (by decide) (by decide) rfl rfl e54 (own_exa hE x0) (g := (mkF m 26 #[.val (.int x0), .val (.int (own_k x0)), .val (.ref (F1 (own_k x0) A)), .val (.int (1 : Int32))] [(.ref (F1 (own_k x0) A))])) rfl (by rw [hml]; rfl) (argsL := []) (rest := []) (lenOf own_pd1 rfl) rfl rfl (by show 2 * 0 + _ ≤ _; exact Nat.le_of_eq rfl) (hb hby at_26) (by decide) (by decide)
    refine own_go st56 ?_
    show own_G p.tables e below _ (T56.setTop (mkF m 29 #[.val (.int x0), .val (.int (own_k x0)), .val (.ref (F1 (own_k x0) A)), .val (.int (1 : Int32))] [(.int (F2  (F1 (own_k x0) A) A))]))
    refine own_go (fun _ k => XS.iloadN X56.here hx rfl (hb hby at_29) rfl k) ?_
    show own_G p.tables e below _ (T56.setTop (mkF m 30 #[.val (.int x0), .val (.int (own_k x0)), .val (.ref (F1 (own_k x0) A)), .val (.int (1 : Int32))] [(.int (1 : Int32)), (.int (F2  (F1 (own_k x0) A) A))]))
    by_cases hc30_57 : (F2  (F1 (own_k x0) A) A) = (1 : Int32)
    · refine own_go (fun _ k => XS.icmpNo X56.here hx rfl (hb hby at_30) rfl ((teq hc30_57).2) k) ?_
      show own_G p.tables e below _ (T56.setTop (mkF m 33 #[.val (.int x0), .val (.int (own_k x0)), .val (.ref (F1 (own_k x0) A)), .val (.int (1 : Int32))] []))
      refine own_go (fun _ k => XS.iconst X56.here hx rfl (hb hby at_33) k) ?_
      show own_G p.tables e below _ (T56.setTop (mkF m 34 #[.val (.int x0), .val (.int (own_k x0)), .val (.ref (F1 (own_k x0) A)), .val (.int (1 : Int32))] [(.int (1 : Int32))]))
      refine own_go (fun _ k => XS.goto X56.here hx rfl (pc0 := 34) (pc' := 38) rfl (hb hby at_34) (by decide) (by decide) k) ?_
      show own_G p.tables e below _ (T56.setTop (mkF m 38 #[.val (.int x0), .val (.int (own_k x0)), .val (.ref (F1 (own_k x0) A)), .val (.int (1 : Int32))] [(.int (1 : Int32))]))
      exact own_end X56 Bd.notSynchronized (v := some (.int (nar .boolean (1 : Int32)))) (fun h => by rw [Bd.returns] at h; cases h) (Q := QP (some (.int (F0 x0 A))) h0) ⟨by unfold F0; simp only [if_pos hc16_55, if_pos hc30_57]; try rfl, rfl, e56⟩ (fun fs hr => retN X56 hx (t := .boolean) Bd.returns (by simp) (hb hby at_38) hr) (by decide) (by decide)
    · refine own_go (fun _ k => XS.icmpYes X56.here hx rfl (pc0 := 30) (pc' := 37) rfl (hb hby at_30) rfl ((feq hc30_57).2) (by decide) (by decide) k) ?_
      show own_G p.tables e below _ (T56.setTop (mkF m 37 #[.val (.int x0), .val (.int (own_k x0)), .val (.ref (F1 (own_k x0) A)), .val (.int (1 : Int32))] []))
      refine own_go (fun _ k => XS.iconst X56.here hx rfl (hb hby at_37) k) ?_
      show own_G p.tables e below _ (T56.setTop (mkF m 38 #[.val (.int x0), .val (.int (own_k x0)), .val (.ref (F1 (own_k x0) A)), .val (.int (1 : Int32))] [(.int (0 : Int32))]))
      exact own_end X56 Bd.notSynchronized (v := some (.int (nar .boolean (0 : Int32)))) (fun h => by rw [Bd.returns] at h; cases h) (Q := QP (some (.int (F0 x0 A))) h0) ⟨by unfold F0; simp only [if_pos hc16_55, if_neg hc30_57]; try rfl, rfl, e56⟩ (fun fs hr => retN X56 hx (t := .boolean) Bd.returns (by simp) (hb hby at_38) hr) (by decide) (by decide)
  · refine own_go (fun _ k => XS.icmpYes X54.here hx rfl (pc0 := 16) (pc' := 23) rfl (hb hby at_16) rfl ((flt hc16_55).2.1) (by decide) (by decide) k) ?_
    show own_G p.tables e below _ (T54.setTop (mkF m 23 #[.val (.int x0), .val (.int (own_k x0)), .val (.ref (F1 (own_k x0) A)), .unset] []))
    refine own_go (fun _ k => XS.iconst X54.here hx rfl (hb hby at_23) k) ?_
    show own_G p.tables e below _ (T54.setTop (mkF m 24 #[.val (.int x0), .val (.int (own_k x0)), .val (.ref (F1 (own_k x0) A)), .unset] [(.int (0 : Int32))]))
    refine own_go (fun _ k => XS.istoreN X54.here hx rfl (hb hby at_24) rfl (l' := #[.val (.int x0), .val (.int (own_k x0)), .val (.ref (F1 (own_k x0) A)), .val (.int (0 : Int32))]) rfl k) ?_
    show own_G p.tables e below _ (T54.setTop (mkF m 25 #[.val (.int x0), .val (.int (own_k x0)), .val (.ref (F1 (own_k x0) A)), .val (.int (0 : Int32))] []))
    refine own_go (fun _ k => XS.aloadN X54.here hx rfl (hb hby at_25) rfl rfl k) ?_
    show own_G p.tables e below _ (T54.setTop (mkF m 26 #[.val (.int x0), .val (.int (own_k x0)), .val (.ref (F1 (own_k x0) A)), .val (.int (0 : Int32))] [(.ref (F1 (own_k x0) A))]))
    obtain ⟨T58, X58, e58, st58⟩ := own_callV X54 hx hZ (y := (⟨"com/example/ptah/ptah/model/ShapeType", "takesDefault", "()Z"⟩ : MethodName)) hown (hw _ (List.mem_of_getElem? (i := 8) rfl)) (hw _ (List.mem_of_getElem? (i := 9) rfl)) (hw _ (List.mem_of_getElem? (i := 11) rfl)) (hw _ (List.mem_of_getElem? (i := 10) rfl)) (hw _ (List.mem_of_getElem? (i := 6) rfl)) (hw _ (List.mem_of_getElem? (i := 12) rfl)) (by decide) (W := 0) (rm2 l Z a0 hw [] (F1 (own_k x0) A) A h0 hS) (by decide) (by decide) rfl rfl e54 (own_exa hE x0) (g := (mkF m 26 #[.val (.int x0), .val (.int (own_k x0)), .val (.ref (F1 (own_k x0) A)), .val (.int (0 : Int32))] [(.ref (F1 (own_k x0) A))])) rfl (by rw [hml]; rfl) (argsL := []) (rest := []) (lenOf own_pd1 rfl) rfl rfl (by show 2 * 0 + _ ≤ _; exact Nat.le_of_eq rfl) (hb hby at_26) (by decide) (by decide)
    refine own_go st58 ?_
    show own_G p.tables e below _ (T58.setTop (mkF m 29 #[.val (.int x0), .val (.int (own_k x0)), .val (.ref (F1 (own_k x0) A)), .val (.int (0 : Int32))] [(.int (F2  (F1 (own_k x0) A) A))]))
    refine own_go (fun _ k => XS.iloadN X58.here hx rfl (hb hby at_29) rfl k) ?_
    show own_G p.tables e below _ (T58.setTop (mkF m 30 #[.val (.int x0), .val (.int (own_k x0)), .val (.ref (F1 (own_k x0) A)), .val (.int (0 : Int32))] [(.int (0 : Int32)), (.int (F2  (F1 (own_k x0) A) A))]))
    by_cases hc30_59 : (F2  (F1 (own_k x0) A) A) = (0 : Int32)
    · refine own_go (fun _ k => XS.icmpNo X58.here hx rfl (hb hby at_30) rfl ((teq hc30_59).2) k) ?_
      show own_G p.tables e below _ (T58.setTop (mkF m 33 #[.val (.int x0), .val (.int (own_k x0)), .val (.ref (F1 (own_k x0) A)), .val (.int (0 : Int32))] []))
      refine own_go (fun _ k => XS.iconst X58.here hx rfl (hb hby at_33) k) ?_
      show own_G p.tables e below _ (T58.setTop (mkF m 34 #[.val (.int x0), .val (.int (own_k x0)), .val (.ref (F1 (own_k x0) A)), .val (.int (0 : Int32))] [(.int (1 : Int32))]))
      refine own_go (fun _ k => XS.goto X58.here hx rfl (pc0 := 34) (pc' := 38) rfl (hb hby at_34) (by decide) (by decide) k) ?_
      show own_G p.tables e below _ (T58.setTop (mkF m 38 #[.val (.int x0), .val (.int (own_k x0)), .val (.ref (F1 (own_k x0) A)), .val (.int (0 : Int32))] [(.int (1 : Int32))]))
      exact own_end X58 Bd.notSynchronized (v := some (.int (nar .boolean (1 : Int32)))) (fun h => by rw [Bd.returns] at h; cases h) (Q := QP (some (.int (F0 x0 A))) h0) ⟨by unfold F0; simp only [if_neg hc16_55, if_pos hc30_59]; try rfl, rfl, e58⟩ (fun fs hr => retN X58 hx (t := .boolean) Bd.returns (by simp) (hb hby at_38) hr) (by decide) (by decide)
    · refine own_go (fun _ k => XS.icmpYes X58.here hx rfl (pc0 := 30) (pc' := 37) rfl (hb hby at_30) rfl ((feq hc30_59).2) (by decide) (by decide) k) ?_
      show own_G p.tables e below _ (T58.setTop (mkF m 37 #[.val (.int x0), .val (.int (own_k x0)), .val (.ref (F1 (own_k x0) A)), .val (.int (0 : Int32))] []))
      refine own_go (fun _ k => XS.iconst X58.here hx rfl (hb hby at_37) k) ?_
      show own_G p.tables e below _ (T58.setTop (mkF m 38 #[.val (.int x0), .val (.int (own_k x0)), .val (.ref (F1 (own_k x0) A)), .val (.int (0 : Int32))] [(.int (0 : Int32))]))
      exact own_end X58 Bd.notSynchronized (v := some (.int (nar .boolean (0 : Int32)))) (fun h => by rw [Bd.returns] at h; cases h) (Q := QP (some (.int (F0 x0 A))) h0) ⟨by unfold F0; simp only [if_neg hc16_55, if_neg hc30_59]; try rfl, rfl, e58⟩ (fun fs hr => retN X58 hx (t := .boolean) Bd.returns (by simp) (hb hby at_38) hr) (by decide) (by decide)
theorem own_td (A : Nat → Addr) (inj : ∀ n k, n < 22 → k < 22 → A n = A k → n = k) (n : Nat) (hn : n < 22) : F2 (A n) A = if n < 17 then 1 else 0 := by
  have q : ∀ k, k < 22 → (A n = A k ↔ n = k) := fun k hk => ⟨inj n k hn hk, fun e => by rw [e]⟩
  unfold F2
  simp only [q 17 (by decide), q 18 (by decide), q 19 (by decide), q 20 (by decide), q 21 (by decide)]
  match n, hn with
  | 0, _ => rfl
  | 1, _ => rfl
  | 2, _ => rfl
  | 3, _ => rfl
  | 4, _ => rfl
  | 5, _ => rfl
  | 6, _ => rfl
  | 7, _ => rfl
  | 8, _ => rfl
  | 9, _ => rfl
  | 10, _ => rfl
  | 11, _ => rfl
  | 12, _ => rfl
  | 13, _ => rfl
  | 14, _ => rfl
  | 15, _ => rfl
  | 16, _ => rfl
  | 17, _ => rfl
  | 18, _ => rfl
  | 19, _ => rfl
  | 20, _ => rfl
  | 21, _ => rfl
  | k + 22, h => exact absurd h (by omega)
theorem own_law (x : Int32) (A : Nat → Addr) (inj : ∀ n k, n < 22 → k < 22 → A n = A k → n = k) : F0 x A = 1 := by
  obtain ⟨n, hn, e⟩ := own_k_lt x
  unfold F0
  rw [e, own_pick A n hn, own_td A inj n hn]
  match n, hn with
  | 0, _ => rfl
  | 1, _ => rfl
  | 2, _ => rfl
  | 3, _ => rfl
  | 4, _ => rfl
  | 5, _ => rfl
  | 6, _ => rfl
  | 7, _ => rfl
  | 8, _ => rfl
  | 9, _ => rfl
  | 10, _ => rfl
  | 11, _ => rfl
  | 12, _ => rfl
  | 13, _ => rfl
  | 14, _ => rfl
  | 15, _ => rfl
  | 16, _ => rfl
  | 17, _ => rfl
  | 18, _ => rfl
  | 19, _ => rfl
  | 20, _ => rfl
  | 21, _ => rfl
  | k + 22, h => exact absurd h (by omega)

set_option maxRecDepth 65536 in
set_option maxHeartbeats 40000000 in
theorem comes_1 {Post : Tables → Env → Array Value → State → Outcome → State → Prop} (hpost : ∀ tb e args s v u, (limb_1_1.after args s (.returned v) u = true ∧ limb_1_2.after args s (.returned v) u = true ∧ True) → FrameEnd s (.returned v) u (Jvm.fieldLocs frame_1_writes args s ++ Jvm.arrayLocs frame_1_arrays args s ++ Jvm.staticLocs frame_1_statics s) 0 0 → Post tb e args s (.returned v) u) :
    ArmFor flags0 classFile x code maxLocals ret World_1 tables_1 room_1 Calls_1 rest_1 Pre_1 Post := by
  intro l hfl _ _ p e ha hc hk s m args below hf hA hF happ hP
  obtain ⟨hcalls, hrest, hpre⟩ := hP
  obtain ⟨-, -, -, hnamed, -, -, -, hat⟩ := (Spec.applies_iff hf).mp happ
  obtain ⟨hg, hn⟩ := and_e (Cond.before_iff.mp (show (Jvm.Cond.and given_1 narrow_1).before args s = true from hpre))
  obtain ⟨hcnt, hq0⟩ := and_e hg
  have ha0 := hq0
  obtain ⟨w0, rfl⟩ : ∃ w0 : Value, args = #[w0] := by
    have hs : args.size = 1 := by simpa [Cond.value, given_1] using hcnt
    obtain ⟨L⟩ := args
    match L, hs with
    | [w0], _ => exact ⟨w0, rfl⟩
  have hw := fun d (hd : d ∈ tables_1) => atoms_spec (ws := Jvm.Cond.code x code maxLocals ret :: tables_1) hat d (List.mem_cons_of_mem _ hd)
  have hfit : Fit s := fun {y c} hc i hi => by
    obtain ⟨ha, rfl⟩ := Array.getElem?_eq_some_iff.mp hc
    have q := List.all_eq_true.mp ((Array.all_eq_true_iff_forall_mem.mp hF) _ (Array.getElem_mem ha)) i (List.mem_range.mpr hi)
    simpa [Array.getElem?_eq_getElem hi] using q
  obtain ⟨i0, ei0⟩ := is_v ha0
  obtain rfl : w0 = (.int i0) := Option.some.inj ei0
  obtain ⟨c0, r0⟩ := and_e hn
  obtain ⟨c1, r1⟩ := and_e r0
  obtain ⟨c2, r2⟩ := and_e r1
  obtain ⟨c3, r3⟩ := and_e r2
  obtain ⟨c4, r4⟩ := and_e r3
  obtain ⟨c5, r5⟩ := and_e r4
  obtain ⟨c6, r6⟩ := and_e r5
  obtain ⟨c7, r7⟩ := and_e r6
  obtain ⟨c8, r8⟩ := and_e r7
  obtain ⟨c9, r9⟩ := and_e r8
  obtain ⟨c10, r10⟩ := and_e r9
  obtain ⟨c11, r11⟩ := and_e r10
  obtain ⟨c12, r12⟩ := and_e r11
  obtain ⟨c13, r13⟩ := and_e r12
  obtain ⟨c14, r14⟩ := and_e r13
  obtain ⟨c15, r15⟩ := and_e r14
  obtain ⟨c16, r16⟩ := and_e r15
  obtain ⟨c17, r17⟩ := and_e r16
  obtain ⟨c18, r18⟩ := and_e r17
  obtain ⟨c19, r19⟩ := and_e r18
  obtain ⟨c20, r20⟩ := and_e r19
  obtain ⟨c21, r21⟩ := and_e r20
  obtain ⟨c22, r22⟩ := and_e r21
  obtain ⟨c23, r23⟩ := and_e r22
  obtain ⟨c24, r24⟩ := and_e r23
  obtain ⟨c25, r25⟩ := and_e r24
  obtain ⟨c26, r26⟩ := and_e r25
  obtain ⟨c27, r27⟩ := and_e r26
  obtain ⟨c28, r28⟩ := and_e r27
  obtain ⟨c29, r29⟩ := and_e r28
  obtain ⟨c30, r30⟩ := and_e r29
  obtain ⟨c31, r31⟩ := and_e r30
  obtain ⟨c32, r32⟩ := and_e r31
  obtain ⟨c33, r33⟩ := and_e r32
  obtain ⟨c34, r34⟩ := and_e r33
  obtain ⟨c35, r35⟩ := and_e r34
  obtain ⟨c36, r36⟩ := and_e r35
  obtain ⟨c37, r37⟩ := and_e r36
  obtain ⟨c38, r38⟩ := and_e r37
  obtain ⟨c39, r39⟩ := and_e r38
  obtain ⟨c40, r40⟩ := and_e r39
  obtain ⟨c41, r41⟩ := and_e r40
  obtain ⟨c42, r42⟩ := and_e r41
  have c43 := r42
  obtain ⟨z0, ez0⟩ := exa_v c0
  have t0 : Sta s s.heap "com/example/ptah/ptah/model/ShapeType" "BLOB" "Lcom/example/ptah/ptah/model/ShapeType;" (.ref z0) := Sta.start ez0 (Or.inr ⟨(hw _ (List.mem_of_getElem? (i := 6) rfl)), (hw _ (List.mem_of_getElem? (i := 7) rfl))⟩)
  have x0 : Exa s s.heap z0 "com/example/ptah/ptah/model/ShapeType" := Exa.start ez0 c0
  have o0 := own_ord ez0 c2
  obtain ⟨z1, ez1⟩ := exa_v c24
  have t1 : Sta s s.heap "com/example/ptah/ptah/model/ShapeType" "BOOLEAN" "Lcom/example/ptah/ptah/model/ShapeType;" (.ref z1) := Sta.start ez1 (Or.inr ⟨(hw _ (List.mem_of_getElem? (i := 6) rfl)), (hw _ (List.mem_of_getElem? (i := 36) rfl))⟩)
  have x1 : Exa s s.heap z1 "com/example/ptah/ptah/model/ShapeType" := Exa.start ez1 c24
  have o1 := own_ord ez1 c25
  obtain ⟨z2, ez2⟩ := exa_v c18
  have t2 : Sta s s.heap "com/example/ptah/ptah/model/ShapeType" "STRING" "Lcom/example/ptah/ptah/model/ShapeType;" (.ref z2) := Sta.start ez2 (Or.inr ⟨(hw _ (List.mem_of_getElem? (i := 6) rfl)), (hw _ (List.mem_of_getElem? (i := 30) rfl))⟩)
  have x2 : Exa s s.heap z2 "com/example/ptah/ptah/model/ShapeType" := Exa.start ez2 c18
  have o2 := own_ord ez2 c19
  obtain ⟨z3, ez3⟩ := exa_v c12
  have t3 : Sta s s.heap "com/example/ptah/ptah/model/ShapeType" "BYTE" "Lcom/example/ptah/ptah/model/ShapeType;" (.ref z3) := Sta.start ez3 (Or.inr ⟨(hw _ (List.mem_of_getElem? (i := 6) rfl)), (hw _ (List.mem_of_getElem? (i := 24) rfl))⟩)
  have x3 : Exa s s.heap z3 "com/example/ptah/ptah/model/ShapeType" := Exa.start ez3 c12
  have o3 := own_ord ez3 c13
  obtain ⟨z4, ez4⟩ := exa_v c36
  have t4 : Sta s s.heap "com/example/ptah/ptah/model/ShapeType" "SHORT" "Lcom/example/ptah/ptah/model/ShapeType;" (.ref z4) := Sta.start ez4 (Or.inr ⟨(hw _ (List.mem_of_getElem? (i := 6) rfl)), (hw _ (List.mem_of_getElem? (i := 50) rfl))⟩)
  have x4 : Exa s s.heap z4 "com/example/ptah/ptah/model/ShapeType" := Exa.start ez4 c36
  have o4 := own_ord ez4 c37
  obtain ⟨z5, ez5⟩ := exa_v c28
  have t5 : Sta s s.heap "com/example/ptah/ptah/model/ShapeType" "INTEGER" "Lcom/example/ptah/ptah/model/ShapeType;" (.ref z5) := Sta.start ez5 (Or.inr ⟨(hw _ (List.mem_of_getElem? (i := 6) rfl)), (hw _ (List.mem_of_getElem? (i := 40) rfl))⟩)
  have x5 : Exa s s.heap z5 "com/example/ptah/ptah/model/ShapeType" := Exa.start ez5 c28
  have o5 := own_ord ez5 c29
  obtain ⟨z6, ez6⟩ := exa_v c32
  have t6 : Sta s s.heap "com/example/ptah/ptah/model/ShapeType" "LONG" "Lcom/example/ptah/ptah/model/ShapeType;" (.ref z6) := Sta.start ez6 (Or.inr ⟨(hw _ (List.mem_of_getElem? (i := 6) rfl)), (hw _ (List.mem_of_getElem? (i := 44) rfl))⟩)
  have x6 : Exa s s.heap z6 "com/example/ptah/ptah/model/ShapeType" := Exa.start ez6 c32
  have o6 := own_ord ez6 c33
  obtain ⟨z7, ez7⟩ := exa_v c14
  have t7 : Sta s s.heap "com/example/ptah/ptah/model/ShapeType" "FLOAT" "Lcom/example/ptah/ptah/model/ShapeType;" (.ref z7) := Sta.start ez7 (Or.inr ⟨(hw _ (List.mem_of_getElem? (i := 6) rfl)), (hw _ (List.mem_of_getElem? (i := 26) rfl))⟩)
  have x7 : Exa s s.heap z7 "com/example/ptah/ptah/model/ShapeType" := Exa.start ez7 c14
  have o7 := own_ord ez7 c15
  obtain ⟨z8, ez8⟩ := exa_v c16
  have t8 : Sta s s.heap "com/example/ptah/ptah/model/ShapeType" "DOUBLE" "Lcom/example/ptah/ptah/model/ShapeType;" (.ref z8) := Sta.start ez8 (Or.inr ⟨(hw _ (List.mem_of_getElem? (i := 6) rfl)), (hw _ (List.mem_of_getElem? (i := 28) rfl))⟩)
  have x8 : Exa s s.heap z8 "com/example/ptah/ptah/model/ShapeType" := Exa.start ez8 c16
  have o8 := own_ord ez8 c17
  obtain ⟨z9, ez9⟩ := exa_v c26
  have t9 : Sta s s.heap "com/example/ptah/ptah/model/ShapeType" "BIG_INTEGER" "Lcom/example/ptah/ptah/model/ShapeType;" (.ref z9) := Sta.start ez9 (Or.inr ⟨(hw _ (List.mem_of_getElem? (i := 6) rfl)), (hw _ (List.mem_of_getElem? (i := 38) rfl))⟩)
  have x9 : Exa s s.heap z9 "com/example/ptah/ptah/model/ShapeType" := Exa.start ez9 c26
  have o9 := own_ord ez9 c27
  obtain ⟨z10, ez10⟩ := exa_v c22
  have t10 : Sta s s.heap "com/example/ptah/ptah/model/ShapeType" "BIG_DECIMAL" "Lcom/example/ptah/ptah/model/ShapeType;" (.ref z10) := Sta.start ez10 (Or.inr ⟨(hw _ (List.mem_of_getElem? (i := 6) rfl)), (hw _ (List.mem_of_getElem? (i := 34) rfl))⟩)
  have x10 : Exa s s.heap z10 "com/example/ptah/ptah/model/ShapeType" := Exa.start ez10 c22
  have o10 := own_ord ez10 c23
  obtain ⟨z11, ez11⟩ := exa_v c20
  have t11 : Sta s s.heap "com/example/ptah/ptah/model/ShapeType" "TIMESTAMP" "Lcom/example/ptah/ptah/model/ShapeType;" (.ref z11) := Sta.start ez11 (Or.inr ⟨(hw _ (List.mem_of_getElem? (i := 6) rfl)), (hw _ (List.mem_of_getElem? (i := 32) rfl))⟩)
  have x11 : Exa s s.heap z11 "com/example/ptah/ptah/model/ShapeType" := Exa.start ez11 c20
  have o11 := own_ord ez11 c21
  obtain ⟨z12, ez12⟩ := exa_v c40
  have t12 : Sta s s.heap "com/example/ptah/ptah/model/ShapeType" "DOCUMENT" "Lcom/example/ptah/ptah/model/ShapeType;" (.ref z12) := Sta.start ez12 (Or.inr ⟨(hw _ (List.mem_of_getElem? (i := 6) rfl)), (hw _ (List.mem_of_getElem? (i := 55) rfl))⟩)
  have x12 : Exa s s.heap z12 "com/example/ptah/ptah/model/ShapeType" := Exa.start ez12 c40
  have o12 := own_ord ez12 c41
  obtain ⟨z13, ez13⟩ := exa_v c42
  have t13 : Sta s s.heap "com/example/ptah/ptah/model/ShapeType" "ENUM" "Lcom/example/ptah/ptah/model/ShapeType;" (.ref z13) := Sta.start ez13 (Or.inr ⟨(hw _ (List.mem_of_getElem? (i := 6) rfl)), (hw _ (List.mem_of_getElem? (i := 57) rfl))⟩)
  have x13 : Exa s s.heap z13 "com/example/ptah/ptah/model/ShapeType" := Exa.start ez13 c42
  have o13 := own_ord ez13 c43
  obtain ⟨z14, ez14⟩ := exa_v c38
  have t14 : Sta s s.heap "com/example/ptah/ptah/model/ShapeType" "INT_ENUM" "Lcom/example/ptah/ptah/model/ShapeType;" (.ref z14) := Sta.start ez14 (Or.inr ⟨(hw _ (List.mem_of_getElem? (i := 6) rfl)), (hw _ (List.mem_of_getElem? (i := 53) rfl))⟩)
  have x14 : Exa s s.heap z14 "com/example/ptah/ptah/model/ShapeType" := Exa.start ez14 c38
  have o14 := own_ord ez14 c39
  obtain ⟨z15, ez15⟩ := exa_v c34
  have t15 : Sta s s.heap "com/example/ptah/ptah/model/ShapeType" "LIST" "Lcom/example/ptah/ptah/model/ShapeType;" (.ref z15) := Sta.start ez15 (Or.inr ⟨(hw _ (List.mem_of_getElem? (i := 6) rfl)), (hw _ (List.mem_of_getElem? (i := 48) rfl))⟩)
  have x15 : Exa s s.heap z15 "com/example/ptah/ptah/model/ShapeType" := Exa.start ez15 c34
  have o15 := own_ord ez15 c35
  obtain ⟨z16, ez16⟩ := exa_v c30
  have t16 : Sta s s.heap "com/example/ptah/ptah/model/ShapeType" "MAP" "Lcom/example/ptah/ptah/model/ShapeType;" (.ref z16) := Sta.start ez16 (Or.inr ⟨(hw _ (List.mem_of_getElem? (i := 6) rfl)), (hw _ (List.mem_of_getElem? (i := 42) rfl))⟩)
  have x16 : Exa s s.heap z16 "com/example/ptah/ptah/model/ShapeType" := Exa.start ez16 c30
  have o16 := own_ord ez16 c31
  obtain ⟨z17, ez17⟩ := exa_v c1
  have t17 : Sta s s.heap "com/example/ptah/ptah/model/ShapeType" "STRUCTURE" "Lcom/example/ptah/ptah/model/ShapeType;" (.ref z17) := Sta.start ez17 (Or.inr ⟨(hw _ (List.mem_of_getElem? (i := 6) rfl)), (hw _ (List.mem_of_getElem? (i := 14) rfl))⟩)
  have x17 : Exa s s.heap z17 "com/example/ptah/ptah/model/ShapeType" := Exa.start ez17 c1
  have o17 := own_ord ez17 c3
  obtain ⟨z18, ez18⟩ := exa_v c4
  have t18 : Sta s s.heap "com/example/ptah/ptah/model/ShapeType" "UNION" "Lcom/example/ptah/ptah/model/ShapeType;" (.ref z18) := Sta.start ez18 (Or.inr ⟨(hw _ (List.mem_of_getElem? (i := 6) rfl)), (hw _ (List.mem_of_getElem? (i := 16) rfl))⟩)
  have x18 : Exa s s.heap z18 "com/example/ptah/ptah/model/ShapeType" := Exa.start ez18 c4
  have o18 := own_ord ez18 c5
  obtain ⟨z19, ez19⟩ := exa_v c6
  have t19 : Sta s s.heap "com/example/ptah/ptah/model/ShapeType" "SERVICE" "Lcom/example/ptah/ptah/model/ShapeType;" (.ref z19) := Sta.start ez19 (Or.inr ⟨(hw _ (List.mem_of_getElem? (i := 6) rfl)), (hw _ (List.mem_of_getElem? (i := 18) rfl))⟩)
  have x19 : Exa s s.heap z19 "com/example/ptah/ptah/model/ShapeType" := Exa.start ez19 c6
  have o19 := own_ord ez19 c7
  obtain ⟨z20, ez20⟩ := exa_v c8
  have t20 : Sta s s.heap "com/example/ptah/ptah/model/ShapeType" "OPERATION" "Lcom/example/ptah/ptah/model/ShapeType;" (.ref z20) := Sta.start ez20 (Or.inr ⟨(hw _ (List.mem_of_getElem? (i := 6) rfl)), (hw _ (List.mem_of_getElem? (i := 20) rfl))⟩)
  have x20 : Exa s s.heap z20 "com/example/ptah/ptah/model/ShapeType" := Exa.start ez20 c8
  have o20 := own_ord ez20 c9
  obtain ⟨z21, ez21⟩ := exa_v c10
  have t21 : Sta s s.heap "com/example/ptah/ptah/model/ShapeType" "RESOURCE" "Lcom/example/ptah/ptah/model/ShapeType;" (.ref z21) := Sta.start ez21 (Or.inr ⟨(hw _ (List.mem_of_getElem? (i := 6) rfl)), (hw _ (List.mem_of_getElem? (i := 22) rfl))⟩)
  have x21 : Exa s s.heap z21 "com/example/ptah/ptah/model/ShapeType" := Exa.start ez21 c10
  have o21 := own_ord ez21 c11
  let A : Nat → Addr := fun n => match n with
    | 0 => z0
    | 1 => z1
    | 2 => z2
    | 3 => z3
    | 4 => z4
    | 5 => z5
    | 6 => z6
    | 7 => z7
    | 8 => z8
    | 9 => z9
    | 10 => z10
    | 11 => z11
    | 12 => z12
    | 13 => z13
    | 14 => z14
    | 15 => z15
    | 16 => z16
    | 17 => z17
    | 18 => z18
    | 19 => z19
    | 20 => z20
    | _ => z21
  have hS : ∀ n, n < 22 → Sta s s.heap "com/example/ptah/ptah/model/ShapeType" (own_name n) "Lcom/example/ptah/ptah/model/ShapeType;" (.ref (A n)) := fun n hn22 => by
    match n, hn22 with
    | 0, _ => exact t0
    | 1, _ => exact t1
    | 2, _ => exact t2
    | 3, _ => exact t3
    | 4, _ => exact t4
    | 5, _ => exact t5
    | 6, _ => exact t6
    | 7, _ => exact t7
    | 8, _ => exact t8
    | 9, _ => exact t9
    | 10, _ => exact t10
    | 11, _ => exact t11
    | 12, _ => exact t12
    | 13, _ => exact t13
    | 14, _ => exact t14
    | 15, _ => exact t15
    | 16, _ => exact t16
    | 17, _ => exact t17
    | 18, _ => exact t18
    | 19, _ => exact t19
    | 20, _ => exact t20
    | 21, _ => exact t21
    | k + 22, h => exact absurd h (by omega)
  have hE : ∀ n, n < 22 → Exa s s.heap (A n) "com/example/ptah/ptah/model/ShapeType" := fun n hn22 => by
    match n, hn22 with
    | 0, _ => exact x0
    | 1, _ => exact x1
    | 2, _ => exact x2
    | 3, _ => exact x3
    | 4, _ => exact x4
    | 5, _ => exact x5
    | 6, _ => exact x6
    | 7, _ => exact x7
    | 8, _ => exact x8
    | 9, _ => exact x9
    | 10, _ => exact x10
    | 11, _ => exact x11
    | 12, _ => exact x12
    | 13, _ => exact x13
    | 14, _ => exact x14
    | 15, _ => exact x15
    | 16, _ => exact x16
    | 17, _ => exact x17
    | 18, _ => exact x18
    | 19, _ => exact x19
    | 20, _ => exact x20
    | 21, _ => exact x21
    | k + 22, h => exact absurd h (by omega)
  have hO : ∀ n, n < 22 → s.fieldOf? (A n) "java/lang/Enum" "ordinal" "I" = some (.int (Int32.ofNat n)) := fun n hn22 => by
    match n, hn22 with
    | 0, _ => exact o0
    | 1, _ => exact o1
    | 2, _ => exact o2
    | 3, _ => exact o3
    | 4, _ => exact o4
    | 5, _ => exact o5
    | 6, _ => exact o6
    | 7, _ => exact o7
    | 8, _ => exact o8
    | 9, _ => exact o9
    | 10, _ => exact o10
    | 11, _ => exact o11
    | 12, _ => exact o12
    | 13, _ => exact o13
    | 14, _ => exact o14
    | 15, _ => exact o15
    | 16, _ => exact o16
    | 17, _ => exact o17
    | 18, _ => exact o18
    | 19, _ => exact o19
    | 20, _ => exact o20
    | 21, _ => exact o21
    | k + 22, h => exact absurd h (by omega)
  obtain ⟨n, o, h1, h2, h3, _, L, rfl, ⟨rfl, rfl, _⟩, hq⟩ := rm0 l s _ hw tables_1 i0 A s.heap hS hE p e ha hc hk s m _ below hf ((Spec.applies_iff_loose hf).mp happ).1 ⟨rfl, State.Warmed39.refl s, rfl⟩ trivial
  refine ⟨n, _, h1, h2, h3, hpost _ _ _ _ _ _ ⟨Cond.after_iff.mpr rfl, Cond.after_iff.mpr (eq_i res_at (Term.int_eval (1)) (by rw [own_law i0 A (own_inj hO)])), trivial⟩ ⟨hq.1, hq.2.1, (hq.2.2.sift fun y hy => Or.inr (nomatch hy)).mono (by decide) (by decide)⟩⟩
theorem main_1_1 : Claimed_1_1 := comes_1 fun _ _ _ _ _ _ h hF => ⟨h.1, hF⟩
theorem main_1_2 : Claimed_1_2 := comes_1 fun _ _ _ _ _ _ h hF => ⟨h.2.1, hF⟩
end Jvm.Pilot.@@N@@
namespace Jvm.Pilot.@@N@@
open Jvm Jvm.ClassFile Sem Op Lib Jvm.Free Jvm.Stand Jvm.Pilot.@@N@@.Jvm.D
/-! MADE BY PROGRAM (witnessworld.py) out of the Statement's table words and the real class files: 12 classes; the members and pool entries that the words name. The judged class is class 1, her method 2. -/
namespace start1
open Jvm.ClassFile
def u (s : String) : CpInfo := .utf8 (stringToUtf16 s)
/-- a pool by its gaps: so many unusable entries, then the entry; so many at the end -/
def gap : Nat → List CpInfo → List CpInfo
  | 0, r => r
  | n + 1, r => .unusable :: gap n r
def poolList (es : List (Nat × CpInfo)) (last : Nat) : List CpInfo := es.foldr (fun e r => gap e.1 (e.2 :: r)) (gap last [])
def pool (es : List (Nat × CpInfo)) (last : Nat) : Array CpInfo := ⟨poolList es last⟩
def fileOf (pool : Array CpInfo) (this : Nat) (attrs : Array Attribute := #[]) (ms : Array MethodInfo := #[]) (fl : Nat := 33) (sup : Nat := 0) (ifs : Array Nat := #[]) (fds : Array FieldInfo := #[]) : ClassFile where
  minorVersion := 0
  majorVersion := 65
  constantPool := pool
  accessFlags := fl
  thisClass := this
  superClass := sup
  interfaces := ifs
  fields := fds
  methods := ms
  attributes := attrs
def plain (name : String) (sup : Option ClassId) : Class where
  name := name
  kind := .ordinary
  loader := none
  accessFlags := 33
  super := sup
  interfaces := #[]
  cf := none
  fields := #[]
  methods := #[]
  instanceTypes := #[]
  staticTypes := #[]
  resolved := #[]
  callSites := []
  init := .initialized
  statics := none
  mirror := none

def pool0 : Array CpInfo := pool [(5, u "<init>"), (0, u "()V"), (1, .class_ 10), (1, u "java/lang/Object")] 113

def k0m0 : Method := { name := "<init>", desc := "()V", sig := { parameters := [], returnType := none }, accessFlags := 1, code := none }
/-- java/lang/Object -/
def k0 : Class := { plain "java/lang/Object" none with
  accessFlags := 33
  interfaces := #[]
  cf := some (fileOf pool0 8 #[] #[{ accessFlags := 1, nameIndex := 5, descriptorIndex := 6, attributes := #[] }] 33 0 #[] #[])
  fields := #[]
  methods := #[k0m0]
  instanceTypes := #[]
  staticTypes := #[]
  resolved := Array.replicate 124 none
  statics := none }

def pool1 : Array CpInfo := pool [(2, .class_ 4), (1, u "java/lang/Object"), (0, u "<init>"), (0, u "()V"), (0, .fieldref 8 9), (0, .class_ 10), (0, .nameAndType 11 12), (0, u "com/example/ptah/ptah/model/ShapeType"), (0, u "BLOB"), (0, u "Lcom/example/ptah/ptah/model/ShapeType;"), (0, .fieldref 8 14), (0, .nameAndType 15 12), (0, u "BOOLEAN"), (0, .fieldref 8 17), (0, .nameAndType 18 12), (0, u "STRING"), (0, .fieldref 8 20), (0, .nameAndType 21 12), (0, u "BYTE"), (0, .fieldref 8 23), (0, .nameAndType 24 12), (0, u "SHORT"), (0, .fieldref 8 26), (0, .nameAndType 27 12), (0, u "INTEGER"), (0, .fieldref 8 29), (0, .nameAndType 30 12), (0, u "LONG"), (0, .fieldref 8 32), (0, .nameAndType 33 12), (0, u "FLOAT"), (0, .fieldref 8 35), (0, .nameAndType 36 12), (0, u "DOUBLE"), (0, .fieldref 8 38), (0, .nameAndType 39 12), (0, u "BIG_INTEGER"), (0, .fieldref 8 41), (0, .nameAndType 42 12), (0, u "BIG_DECIMAL"), (0, .fieldref 8 44), (0, .nameAndType 45 12), (0, u "TIMESTAMP"), (0, .fieldref 8 47), (0, .nameAndType 48 12), (0, u "DOCUMENT"), (0, .fieldref 8 50), (0, .nameAndType 51 12), (0, u "ENUM"), (0, .fieldref 8 53), (0, .nameAndType 54 12), (0, u "INT_ENUM"), (0, .fieldref 8 56), (0, .nameAndType 57 12), (0, u "LIST"), (0, .fieldref 8 59), (0, .nameAndType 60 12), (0, u "MAP"), (0, .fieldref 8 62), (0, .nameAndType 63 12), (0, u "STRUCTURE"), (0, .fieldref 8 65), (0, .nameAndType 66 12), (0, u "UNION"), (0, .fieldref 8 68), (0, .nameAndType 69 12), (0, u "SERVICE"), (0, .fieldref 8 71), (0, .nameAndType 72 12), (0, u "OPERATION"), (0, .fieldref 8 74), (0, .nameAndType 75 12), (0, u "RESOURCE"), (0, .integer 2147483647), (0, .methodref 78 79), (0, .class_ 80), (0, .nameAndType 81 82), (0, u "com/example/ptah/ptah/model/ShapeTypeTakesDefaultPinLaw"), (0, u "pick"), (0, u "(I)Lcom/example/ptah/ptah/model/ShapeType;"), (0, .methodref 8 84), (0, .nameAndType 85 86), (0, u "takesDefault"), (0, u "()Z"), (3, u "law"), (0, u "(I)Z")] 2

def k1m0 : Method := { name := "<init>", desc := "()V", sig := { parameters := [], returnType := none }, accessFlags := 1, code := none }
def k1c1 : Code := { maxStack := 2, maxLocals := 1, code := method_2_code, exceptionTable := #[], attributes := #[] }
def k1m1 : Method := { name := "pick", desc := "(I)Lcom/example/ptah/ptah/model/ShapeType;", sig := { parameters := [.int], returnType := some (.object "com/example/ptah/ptah/model/ShapeType") }, accessFlags := 10, code := some k1c1 }
def k1c2 : Code := { maxStack := 2, maxLocals := 4, code := code, exceptionTable := #[], attributes := #[] }
def k1m2 : Method := { name := "law", desc := "(I)Z", sig := { parameters := [.int], returnType := some .boolean }, accessFlags := 9, code := some k1c2 }
/-- com/example/ptah/ptah/model/ShapeTypeTakesDefaultPinLaw -/
def k1 : Class := { plain "com/example/ptah/ptah/model/ShapeTypeTakesDefaultPinLaw" (some 0) with
  accessFlags := 49
  interfaces := #[]
  cf := some (fileOf pool1 78 #[] #[{ accessFlags := 1, nameIndex := 5, descriptorIndex := 6, attributes := #[] }, { accessFlags := 10, nameIndex := 81, descriptorIndex := 82, attributes := #[] }, { accessFlags := 9, nameIndex := 90, descriptorIndex := 91, attributes := #[] }] 49 2 #[] #[])
  fields := #[]
  methods := #[k1m0, k1m1, k1m2]
  instanceTypes := #[]
  staticTypes := #[]
  resolved := Array.replicate 94 none
  statics := none }

def pool2 : Array CpInfo := pool [(1, .class_ 2), (0, u "java/lang/constant/Constable"), (0, .class_ 4), (0, u "java/lang/Object")] 6

/-- java/lang/constant/Constable -/
def k2 : Class := { plain "java/lang/constant/Constable" (some 0) with
  accessFlags := 1537
  interfaces := #[]
  cf := some (fileOf pool2 1 #[] #[] 1537 3 #[] #[])
  fields := #[]
  methods := #[]
  instanceTypes := #[]
  staticTypes := #[]
  resolved := Array.replicate 11 none
  statics := none }

def pool3 : Array CpInfo := pool [(1, .class_ 2), (0, u "java/lang/Comparable"), (0, .class_ 4), (0, u "java/lang/Object")] 7

/-- java/lang/Comparable -/
def k3 : Class := { plain "java/lang/Comparable" (some 0) with
  accessFlags := 1537
  interfaces := #[]
  cf := some (fileOf pool3 1 #[] #[] 1537 3 #[] #[])
  fields := #[]
  methods := #[]
  instanceTypes := #[]
  staticTypes := #[]
  resolved := Array.replicate 12 none
  statics := none }

def pool4 : Array CpInfo := pool [(1, .class_ 2), (0, u "java/io/Serializable"), (0, .class_ 4), (0, u "java/lang/Object")] 2

/-- java/io/Serializable -/
def k4 : Class := { plain "java/io/Serializable" (some 0) with
  accessFlags := 1537
  interfaces := #[]
  cf := some (fileOf pool4 1 #[] #[] 1537 3 #[] #[])
  fields := #[]
  methods := #[]
  instanceTypes := #[]
  staticTypes := #[]
  resolved := Array.replicate 7 none
  statics := none }

def pool5 : Array CpInfo := pool [(2, .class_ 4), (1, u "java/lang/Enum"), (0, u "name"), (0, u "Ljava/lang/String;"), (2, u "ordinal"), (0, u "I"), (1, .class_ 14), (1, u "java/lang/Object"), (4, u "hash"), (86, .class_ 108), (1, u "java/lang/Enum$EnumDesc"), (2, .class_ 112), (0, u "java/lang/constant/Constable"), (0, .class_ 114), (0, u "java/lang/Comparable"), (0, .class_ 116), (0, u "java/io/Serializable")] 87

/-- java/lang/Enum -/
def k5 : Class := { plain "java/lang/Enum" (some 0) with
  accessFlags := 1057
  interfaces := #[2, 3, 4]
  cf := some (fileOf pool5 2 #[.nestMembers #[106]] #[] 1057 12 #[111, 113, 115] #[{ accessFlags := 18, nameIndex := 5, descriptorIndex := 6, attributes := #[] }, { accessFlags := 18, nameIndex := 9, descriptorIndex := 10, attributes := #[] }, { accessFlags := 2, nameIndex := 19, descriptorIndex := 10, attributes := #[] }])
  fields := #[{ name := "name", type := (.object "java/lang/String"), accessFlags := 18, slot := 0, constantValue := 0 }, { name := "ordinal", type := .int, accessFlags := 18, slot := 1, constantValue := 0 }, { name := "hash", type := .int, accessFlags := 2, slot := 2, constantValue := 0 }]
  methods := #[]
  instanceTypes := #[(.object "java/lang/String"), .int, .int]
  staticTypes := #[]
  resolved := Array.replicate 204 none
  statics := none }

def pool6 : Array CpInfo := pool [(1, .class_ 2), (0, u "com/example/ptah/ptah/model/ShapeType"), (2, u "BLOB"), (0, u "Lcom/example/ptah/ptah/model/ShapeType;"), (2, u "BOOLEAN"), (2, u "STRING"), (2, u "BYTE"), (2, u "SHORT"), (2, u "INTEGER"), (2, u "LONG"), (2, u "FLOAT"), (2, u "DOUBLE"), (2, u "BIG_INTEGER"), (2, u "BIG_DECIMAL"), (2, u "TIMESTAMP"), (2, u "DOCUMENT"), (2, u "ENUM"), (2, u "INT_ENUM"), (2, u "LIST"), (2, u "MAP"), (0, .fieldref 1 56), (0, .nameAndType 57 6), (0, u "STRUCTURE"), (0, .fieldref 1 59), (0, .nameAndType 60 6), (0, u "UNION"), (0, .fieldref 1 62), (0, .nameAndType 63 6), (0, u "SERVICE"), (0, .fieldref 1 65), (0, .nameAndType 66 6), (0, u "OPERATION"), (0, .fieldref 1 68), (0, .nameAndType 69 6), (0, u "RESOURCE"), (2, u "$VALUES"), (0, u "[Lcom/example/ptah/ptah/model/ShapeType;"), (6, .class_ 82), (1, u "java/lang/Enum"), (8, u "name"), (0, u "Ljava/lang/String;"), (2, u "namedMembers"), (0, u "Z"), (8, u "fixedMemberNames"), (0, u "Ljava/util/List;"), (2, u "properties"), (5, u "BY_NAME"), (0, u "Ljava/util/Map;"), (216, u "()Z"), (4, u "takesDefault")] 25

def k6c0 : Code := { maxStack := 2, maxLocals := 1, code := prog_95_method_13_code, exceptionTable := #[], attributes := #[] }
def k6m0 : Method := { name := "takesDefault", desc := "()Z", sig := { parameters := [], returnType := some .boolean }, accessFlags := 1, code := some k6c0 }
/-- com/example/ptah/ptah/model/ShapeType -/
def k6 : Class := { plain "com/example/ptah/ptah/model/ShapeType" (some 5) with
  accessFlags := 16433
  interfaces := #[]
  cf := some (fileOf pool6 1 #[] #[{ accessFlags := 1, nameIndex := 338, descriptorIndex := 333, attributes := #[] }] 16433 80 #[] #[{ accessFlags := 16409, nameIndex := 5, descriptorIndex := 6, attributes := #[] }, { accessFlags := 16409, nameIndex := 9, descriptorIndex := 6, attributes := #[] }, { accessFlags := 16409, nameIndex := 12, descriptorIndex := 6, attributes := #[] }, { accessFlags := 16409, nameIndex := 15, descriptorIndex := 6, attributes := #[] }, { accessFlags := 16409, nameIndex := 18, descriptorIndex := 6, attributes := #[] }, { accessFlags := 16409, nameIndex := 21, descriptorIndex := 6, attributes := #[] }, { accessFlags := 16409, nameIndex := 24, descriptorIndex := 6, attributes := #[] }, { accessFlags := 16409, nameIndex := 27, descriptorIndex := 6, attributes := #[] }, { accessFlags := 16409, nameIndex := 30, descriptorIndex := 6, attributes := #[] }, { accessFlags := 16409, nameIndex := 33, descriptorIndex := 6, attributes := #[] }, { accessFlags := 16409, nameIndex := 36, descriptorIndex := 6, attributes := #[] }, { accessFlags := 16409, nameIndex := 39, descriptorIndex := 6, attributes := #[] }, { accessFlags := 16409, nameIndex := 42, descriptorIndex := 6, attributes := #[] }, { accessFlags := 16409, nameIndex := 45, descriptorIndex := 6, attributes := #[] }, { accessFlags := 16409, nameIndex := 48, descriptorIndex := 6, attributes := #[] }, { accessFlags := 16409, nameIndex := 51, descriptorIndex := 6, attributes := #[] }, { accessFlags := 16409, nameIndex := 54, descriptorIndex := 6, attributes := #[] }, { accessFlags := 16409, nameIndex := 57, descriptorIndex := 6, attributes := #[] }, { accessFlags := 16409, nameIndex := 60, descriptorIndex := 6, attributes := #[] }, { accessFlags := 16409, nameIndex := 63, descriptorIndex := 6, attributes := #[] }, { accessFlags := 16409, nameIndex := 66, descriptorIndex := 6, attributes := #[] }, { accessFlags := 16409, nameIndex := 69, descriptorIndex := 6, attributes := #[] }, { accessFlags := 26, nameIndex := 115, descriptorIndex := 116, attributes := #[] }, { accessFlags := 18, nameIndex := 91, descriptorIndex := 92, attributes := #[] }, { accessFlags := 18, nameIndex := 95, descriptorIndex := 96, attributes := #[] }, { accessFlags := 18, nameIndex := 105, descriptorIndex := 106, attributes := #[] }, { accessFlags := 18, nameIndex := 109, descriptorIndex := 106, attributes := #[] }, { accessFlags := 4122, nameIndex := 72, descriptorIndex := 73, attributes := #[] }])
  fields := #[{ name := "BLOB", type := (.object "com/example/ptah/ptah/model/ShapeType"), accessFlags := 16409, slot := 0, constantValue := 0 }, { name := "BOOLEAN", type := (.object "com/example/ptah/ptah/model/ShapeType"), accessFlags := 16409, slot := 1, constantValue := 0 }, { name := "STRING", type := (.object "com/example/ptah/ptah/model/ShapeType"), accessFlags := 16409, slot := 2, constantValue := 0 }, { name := "BYTE", type := (.object "com/example/ptah/ptah/model/ShapeType"), accessFlags := 16409, slot := 3, constantValue := 0 }, { name := "SHORT", type := (.object "com/example/ptah/ptah/model/ShapeType"), accessFlags := 16409, slot := 4, constantValue := 0 }, { name := "INTEGER", type := (.object "com/example/ptah/ptah/model/ShapeType"), accessFlags := 16409, slot := 5, constantValue := 0 }, { name := "LONG", type := (.object "com/example/ptah/ptah/model/ShapeType"), accessFlags := 16409, slot := 6, constantValue := 0 }, { name := "FLOAT", type := (.object "com/example/ptah/ptah/model/ShapeType"), accessFlags := 16409, slot := 7, constantValue := 0 }, { name := "DOUBLE", type := (.object "com/example/ptah/ptah/model/ShapeType"), accessFlags := 16409, slot := 8, constantValue := 0 }, { name := "BIG_INTEGER", type := (.object "com/example/ptah/ptah/model/ShapeType"), accessFlags := 16409, slot := 9, constantValue := 0 }, { name := "BIG_DECIMAL", type := (.object "com/example/ptah/ptah/model/ShapeType"), accessFlags := 16409, slot := 10, constantValue := 0 }, { name := "TIMESTAMP", type := (.object "com/example/ptah/ptah/model/ShapeType"), accessFlags := 16409, slot := 11, constantValue := 0 }, { name := "DOCUMENT", type := (.object "com/example/ptah/ptah/model/ShapeType"), accessFlags := 16409, slot := 12, constantValue := 0 }, { name := "ENUM", type := (.object "com/example/ptah/ptah/model/ShapeType"), accessFlags := 16409, slot := 13, constantValue := 0 }, { name := "INT_ENUM", type := (.object "com/example/ptah/ptah/model/ShapeType"), accessFlags := 16409, slot := 14, constantValue := 0 }, { name := "LIST", type := (.object "com/example/ptah/ptah/model/ShapeType"), accessFlags := 16409, slot := 15, constantValue := 0 }, { name := "MAP", type := (.object "com/example/ptah/ptah/model/ShapeType"), accessFlags := 16409, slot := 16, constantValue := 0 }, { name := "STRUCTURE", type := (.object "com/example/ptah/ptah/model/ShapeType"), accessFlags := 16409, slot := 17, constantValue := 0 }, { name := "UNION", type := (.object "com/example/ptah/ptah/model/ShapeType"), accessFlags := 16409, slot := 18, constantValue := 0 }, { name := "SERVICE", type := (.object "com/example/ptah/ptah/model/ShapeType"), accessFlags := 16409, slot := 19, constantValue := 0 }, { name := "OPERATION", type := (.object "com/example/ptah/ptah/model/ShapeType"), accessFlags := 16409, slot := 20, constantValue := 0 }, { name := "RESOURCE", type := (.object "com/example/ptah/ptah/model/ShapeType"), accessFlags := 16409, slot := 21, constantValue := 0 }, { name := "BY_NAME", type := (.object "java/util/Map"), accessFlags := 26, slot := 22, constantValue := 0 }, { name := "name", type := (.object "java/lang/String"), accessFlags := 18, slot := 3, constantValue := 0 }, { name := "namedMembers", type := .boolean, accessFlags := 18, slot := 4, constantValue := 0 }, { name := "fixedMemberNames", type := (.object "java/util/List"), accessFlags := 18, slot := 5, constantValue := 0 }, { name := "properties", type := (.object "java/util/List"), accessFlags := 18, slot := 6, constantValue := 0 }, { name := "$VALUES", type := (.array (.object "com/example/ptah/ptah/model/ShapeType")), accessFlags := 4122, slot := 23, constantValue := 0 }]
  methods := #[k6m0]
  instanceTypes := #[(.object "java/lang/String"), .int, .int, (.object "java/lang/String"), .boolean, (.object "java/util/List"), (.object "java/util/List")]
  staticTypes := #[(.object "com/example/ptah/ptah/model/ShapeType"), (.object "com/example/ptah/ptah/model/ShapeType"), (.object "com/example/ptah/ptah/model/ShapeType"), (.object "com/example/ptah/ptah/model/ShapeType"), (.object "com/example/ptah/ptah/model/ShapeType"), (.object "com/example/ptah/ptah/model/ShapeType"), (.object "com/example/ptah/ptah/model/ShapeType"), (.object "com/example/ptah/ptah/model/ShapeType"), (.object "com/example/ptah/ptah/model/ShapeType"), (.object "com/example/ptah/ptah/model/ShapeType"), (.object "com/example/ptah/ptah/model/ShapeType"), (.object "com/example/ptah/ptah/model/ShapeType"), (.object "com/example/ptah/ptah/model/ShapeType"), (.object "com/example/ptah/ptah/model/ShapeType"), (.object "com/example/ptah/ptah/model/ShapeType"), (.object "com/example/ptah/ptah/model/ShapeType"), (.object "com/example/ptah/ptah/model/ShapeType"), (.object "com/example/ptah/ptah/model/ShapeType"), (.object "com/example/ptah/ptah/model/ShapeType"), (.object "com/example/ptah/ptah/model/ShapeType"), (.object "com/example/ptah/ptah/model/ShapeType"), (.object "com/example/ptah/ptah/model/ShapeType"), (.object "java/util/Map"), (.array (.object "com/example/ptah/ptah/model/ShapeType"))]
  resolved := Array.replicate 364 none
  statics := some 0 }

def pool7 : Array CpInfo := pool [(1, u "java/lang/Cloneable"), (0, .class_ 1), (0, u "java/lang/Object"), (0, .class_ 3)] 3

/-- java/lang/Cloneable -/
def k7 : Class := { plain "java/lang/Cloneable" (some 0) with
  accessFlags := 1537
  interfaces := #[]
  cf := some (fileOf pool7 2 #[] #[] 1537 4 #[] #[])
  fields := #[]
  methods := #[]
  instanceTypes := #[]
  staticTypes := #[]
  resolved := Array.replicate 8 none
  statics := none }

/-- the primitive byte -/
def k8 : Class := { plain "byte" none with kind := .primitive 'B', accessFlags := 0x411 }
/-- [B -/
def k9 : Class := { plain "[B" (some 0) with kind := .array 8 .byte, interfaces := #[7, 4], accessFlags := 1041 }

/-- the primitive int -/
def k10 : Class := { plain "int" none with kind := .primitive 'I', accessFlags := 0x411 }
/-- [I -/
def k11 : Class := { plain "[I" (some 0) with kind := .array 10 .int, interfaces := #[7, 4], accessFlags := 1041 }

def heap : Heap := #[{ cls := 6, slots := #[.ref 1, .ref 2, .ref 3, .ref 4, .ref 5, .ref 6, .ref 7, .ref 8, .ref 9, .ref 10, .ref 11, .ref 12, .ref 13, .ref 14, .ref 15, .ref 16, .ref 17, .ref 18, .ref 19, .ref 20, .ref 21, .ref 22, .null, .null], vm := .statics 6 },
  { cls := 6, slots := #[.null, .int 0, .int 0, .null, .int 0, .null, .null], vm := .none },
  { cls := 6, slots := #[.null, .int 1, .int 0, .null, .int 0, .null, .null], vm := .none },
  { cls := 6, slots := #[.null, .int 2, .int 0, .null, .int 0, .null, .null], vm := .none },
  { cls := 6, slots := #[.null, .int 3, .int 0, .null, .int 0, .null, .null], vm := .none },
  { cls := 6, slots := #[.null, .int 4, .int 0, .null, .int 0, .null, .null], vm := .none },
  { cls := 6, slots := #[.null, .int 5, .int 0, .null, .int 0, .null, .null], vm := .none },
  { cls := 6, slots := #[.null, .int 6, .int 0, .null, .int 0, .null, .null], vm := .none },
  { cls := 6, slots := #[.null, .int 7, .int 0, .null, .int 0, .null, .null], vm := .none },
  { cls := 6, slots := #[.null, .int 8, .int 0, .null, .int 0, .null, .null], vm := .none },
  { cls := 6, slots := #[.null, .int 9, .int 0, .null, .int 0, .null, .null], vm := .none },
  { cls := 6, slots := #[.null, .int 10, .int 0, .null, .int 0, .null, .null], vm := .none },
  { cls := 6, slots := #[.null, .int 11, .int 0, .null, .int 0, .null, .null], vm := .none },
  { cls := 6, slots := #[.null, .int 12, .int 0, .null, .int 0, .null, .null], vm := .none },
  { cls := 6, slots := #[.null, .int 13, .int 0, .null, .int 0, .null, .null], vm := .none },
  { cls := 6, slots := #[.null, .int 14, .int 0, .null, .int 0, .null, .null], vm := .none },
  { cls := 6, slots := #[.null, .int 15, .int 0, .null, .int 0, .null, .null], vm := .none },
  { cls := 6, slots := #[.null, .int 16, .int 0, .null, .int 0, .null, .null], vm := .none },
  { cls := 6, slots := #[.null, .int 17, .int 0, .null, .int 0, .null, .null], vm := .none },
  { cls := 6, slots := #[.null, .int 18, .int 0, .null, .int 0, .null, .null], vm := .none },
  { cls := 6, slots := #[.null, .int 19, .int 0, .null, .int 0, .null, .null], vm := .none },
  { cls := 6, slots := #[.null, .int 20, .int 0, .null, .int 0, .null, .null], vm := .none },
  { cls := 6, slots := #[.null, .int 21, .int 0, .null, .int 0, .null, .null], vm := .none }]
def classes : Array Class := #[k0, k1, k2, k3, k4, k5, k6, k7, k8, k9, k10, k11]
def interned : List (Array UInt16 × Addr) := []
def slotsUsed : Nat := 178
def theMethod : MethodId := ⟨1, 2⟩
def args0 : Array Value := #[.int 5]
def aboutOver (below : List Frame) : State where
  vm := { classes := classes, interned := interned.toArray }
  heap := heap
  slotsUsed := slotsUsed
  threads := #[{ frames := .invoking theMethod args0 :: below }]
def below0 : List Frame := [.native { method := ⟨0, 0⟩, args := #[] }]
def about1 : State := aboutOver below0
def p0 : Program := .bare "" "" ""
def e0 : Env := launch0.env 0 0 0
theorem w_frames : about1.frames = Frame.invoking theMethod args0 :: below0 := rfl
set_option maxRecDepth 65536 in
theorem w_args : argsFit about1.vm theMethod args0 = true := by decide +kernel
set_option maxRecDepth 65536 in
theorem w_heap : heapFits about1 = true := by decide +kernel
set_option maxRecDepth 65536 in
theorem w_runnable : about1.curStatus? = some .runnable := by decide +kernel
set_option maxRecDepth 65536 in
theorem w_alone : about1.alone = true := by decide +kernel
set_option maxRecDepth 65536 in
theorem w_named : about1.methodNamed? x = some theMethod := by decide +kernel
set_option maxRecDepth 65536 in
theorem w_hears : about1.hears theMethod below0 = true := by decide +kernel
set_option maxRecDepth 65536 in
theorem w_ripe : about1.ripe theMethod args0 below0 = true := by decide +kernel
theorem w_running : about1.status = .running := rfl
set_option maxRecDepth 65536 in
theorem w_room : about1.hasRoom e0.platform room_1 = true :=
  launch0.hasRoom_least _ room_1 (by decide +kernel) (by decide +kernel) (by decide +kernel) (by decide +kernel) (by decide +kernel) (by decide +kernel)
theorem allAtoms_all (ts : List Jvm.Cond) (a : Array Jvm.Value) (st : Jvm.State) : (allAtoms ts).before a st = ts.all (fun c => c.before a st) := by
  induction ts with
  | nil => rfl
  | cons c t ih =>
    show (Jvm.Cond.and c (allAtoms t)).before a st = _
    rw [Jvm.Cond.before_and, ih, List.all_cons]
def words1 : List Jvm.Cond := Jvm.Cond.code x code maxLocals ret :: tables_1
/-- a 'code' word, met by the world's own term for the bytes: nothing is compared byte by byte -/
theorem code_word {y : MethodName} {bytes : ByteArray} {mx : Nat} {rt : Option FieldType} {a : Array Value} {s : State} {m : MethodId} {meth : Method} {c : Code} (h1 : s.methodNamed? y = some m) (h2 : s.vm.method? m = some meth) (h3 : meth.code = some c) (h4 : c.code = bytes)
    (h5 : (c.maxLocals == mx && c.exceptionTable.isEmpty && decide (c.maxStack ≤ mostOperands) && decide (meth.sig.returnType = rt) && !meth.locks && decide (parseMethodDescriptor y.desc = some meth.sig)) = true) : (Jvm.Cond.code y bytes mx rt).before a s = true := by
  simp only [Bool.and_eq_true, beq_iff_eq, Bool.not_eq_true', decide_eq_true_eq] at h5
  obtain ⟨⟨⟨⟨⟨g1, g2⟩, g3⟩, g4⟩, g5⟩, g6⟩ := h5
  simp [Cond.before, Cond.holds, Cond.value, h1, h2, h3, h4, g1, g2, g3, g4, g5, g6]
def isCode : Jvm.Cond → Bool
  | .code _ _ _ _ => true
  | _ => false
theorem all_split {L : List Jvm.Cond} {P : Jvm.Cond → Bool} (h1 : L.all (fun c => isCode c || P c) = true) (h2 : ∀ c ∈ L.filter isCode, P c = true) : L.all P = true := by
  refine List.all_eq_true.mpr fun c hc => ?_
  have h := List.all_eq_true.mp h1 c hc
  rcases Bool.eq_false_or_eq_true (isCode c) with hi | hi
  · exact h2 c (List.mem_filter.mpr ⟨hc, hi⟩)
  · simpa [hi] using h
set_option maxRecDepth 65536 in
theorem w_c0 : (Jvm.Cond.code x code maxLocals ret).before args0 about1 = true := code_word (m := ⟨1, 2⟩) (meth := k1m2) (c := k1c2) (by decide +kernel) rfl rfl rfl (by decide +kernel)
set_option maxRecDepth 65536 in
theorem w_c1 : (Jvm.Cond.code ({ cls := "com/example/ptah/ptah/model/ShapeTypeTakesDefaultPinLaw", name := "pick", desc := "(I)Lcom/example/ptah/ptah/model/ShapeType;" } : Jvm.MethodName) method_2_code (1 : Nat) (Option.some (Jvm.ClassFile.FieldType.object "com/example/ptah/ptah/model/ShapeType"))).before args0 about1 = true := code_word (m := ⟨1, 1⟩) (meth := k1m1) (c := k1c1) (by decide +kernel) rfl rfl rfl (by decide +kernel)
set_option maxRecDepth 65536 in
theorem w_c2 : (Jvm.Cond.code ({ cls := "com/example/ptah/ptah/model/ShapeType", name := "takesDefault", desc := "()Z" } : Jvm.MethodName) prog_95_method_13_code (1 : Nat) (Option.some Jvm.ClassFile.FieldType.boolean)).before args0 about1 = true := code_word (m := ⟨6, 0⟩) (meth := k6m0) (c := k6c0) (by decide +kernel) rfl rfl rfl (by decide +kernel)
def codes1 : List Jvm.Cond := [Jvm.Cond.code x code maxLocals ret, Jvm.Cond.code ({ cls := "com/example/ptah/ptah/model/ShapeTypeTakesDefaultPinLaw", name := "pick", desc := "(I)Lcom/example/ptah/ptah/model/ShapeType;" } : Jvm.MethodName) method_2_code (1 : Nat) (Option.some (Jvm.ClassFile.FieldType.object "com/example/ptah/ptah/model/ShapeType")), Jvm.Cond.code ({ cls := "com/example/ptah/ptah/model/ShapeType", name := "takesDefault", desc := "()Z" } : Jvm.MethodName) prog_95_method_13_code (1 : Nat) (Option.some Jvm.ClassFile.FieldType.boolean)]
set_option maxRecDepth 65536 in
theorem codes_eq : words1.filter isCode = codes1 := rfl
theorem w_codes : ∀ c ∈ words1.filter isCode, c.before args0 about1 = true := by
  rw [codes_eq]
  intro c hc
  simp only [codes1, List.mem_cons, List.not_mem_nil, or_false] at hc
  rcases hc with rfl | rfl | rfl
  · exact w_c0
  · exact w_c1
  · exact w_c2
set_option maxRecDepth 65536 in
theorem w_t1 : (words1.take 24).all (fun c => isCode c || c.before args0 about1) = true := by decide +kernel
set_option maxRecDepth 65536 in
theorem w_t2 : ((words1.drop 24).take 24).all (fun c => isCode c || c.before args0 about1) = true := by decide +kernel
set_option maxRecDepth 65536 in
theorem w_t3 : ((words1.drop 24).drop 24).all (fun c => isCode c || c.before args0 about1) = true := by decide +kernel
theorem w_tables : (allAtoms (Jvm.Cond.code x code maxLocals ret :: tables_1)).before args0 about1 = true := by
  rw [allAtoms_all]
  show words1.all (fun c => c.before args0 about1) = true
  refine all_split ?_ w_codes
  rw [← List.take_append_drop 24 words1, List.all_append, w_t1, ← List.take_append_drop 24 (words1.drop 24), List.all_append, w_t2, w_t3]
  rfl
set_option maxRecDepth 65536 in
theorem w_case : (Jvm.Cond.and given_1 narrow_1).before args0 about1 = true := by decide +kernel
theorem w_applies : (headSpec (Jvm.Cond.code x code maxLocals ret :: tables_1) room_1).applies x e0.platform about1 = true :=
  (Spec.applies_iff w_frames).mpr ⟨w_running, w_runnable, w_alone, w_named, w_hears, w_ripe, w_room, w_tables⟩
theorem atStart : AtStart classFile x code maxLocals ret World_1 tables_1 room_1 Calls_1 rest_1 Pre_1 launch0 p0 e0 about1 theMethod args0 below0 :=
  ⟨lists_1, trivial, launch0.admits_env _ _ _, launch0.least_env, fairChoices_fair.cas, fairChoices_fair.clock, w_frames, w_args, w_heap, w_applies, trivial, trivial, w_case⟩
end start1
theorem witness_1 : WitnessClaimed_1 := ⟨start1.p0, start1.e0, start1.about1, start1.theMethod, start1.args0, start1.below0, start1.atStart⟩
end Jvm.Pilot.@@N@@
